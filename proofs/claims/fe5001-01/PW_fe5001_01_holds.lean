import PyProof.Rows.All
import Wide.All
import OpenK.AllK
import Wide.FinOn
import KE.KBools
import KE.KState
import KE.KStateW
import KE.KDictAny
import Lean
import PySem.Challenge.RW_fe5001_01
/- Hd -/
section
open PySem PySem.W PyProof.Rows
set_option Elab.async false
set_option maxRecDepth 100000
set_option maxHeartbeats 8000000
namespace Mine
open_top hd for PySem.Challenge.rw_fe5001_01
example : True := by w_top off; trivial
end Mine
end
/- Loops -/
section
open PySem PySem.W PyProof.Rows PySem.Calls PyProof.V PySem.Spec
set_option Elab.async false
set_option maxRecDepth 100000
set_option maxHeartbeats 8000000
namespace Mine
section
variable {prog : Program} {w : World} {A : Around} {E : Value → Shared → Prop} {s : Shared} {env : Env} {h₀ : Heap} {x : Str} {body : List Stmt} {Q : Flow → Shared → Prop}

theorem range_turns {r : Addr} {a₀ b₀ : Int} {t₀ u₀ v₀ : Tok} {n : Nat} {m₀ : Str → Option Value} {news : List (Addr × Obj)}
    (J : Nat → (Str → Option Value) → List (Addr × Obj) → Prop)
    (hh : A.handled = none) (hr : IsRange s.heap r a₀ b₀ 1 t₀ u₀ v₀) (hsmall : Builtin.Range.small a₀ b₀ 1 = true) (hn : Builtin.Range.rangeSize a₀ b₀ 1 = (n : Int))
    (F : Fr h₀ env.locals s.heap m₀) (N : News h₀ env.locals s.heap news) (h0 : J 0 m₀ news)
    (turn : ∀ (i : Nat) (t : Tok) m₁ news₁ (I : Addr) it h tk, i < n → (∀ p ∈ news, p.1 < I) → (∀ p ∈ news₁, p.1 ≠ I) → J i m₁ news₁ →
      Fr h₀ env.locals h (fun y => if y = x then some (.int (a₀ + (i : Int)) t) else m₁ y) → News h₀ env.locals h ((I, it) :: news₁) →
      wpAny (model prog w) A (execs body env) (UnrPost h₀ env.locals { s with heap := h, toks := tk } I it (J (i + 1)) Q) E { s with heap := h, toks := tk })
    (done : ∀ m₁ news₁ h tk, J n m₁ news₁ → Fr h₀ env.locals h m₁ → News h₀ env.locals h news₁ → Q .next { s with heap := h, toks := tk }) :
    wpAny (model prog w) A (pyIter (.ref r)) (fun it s₂ => LoopAtV prog w A h₀ env x body Q E it s₂) E s := by
  refine iter_rangeUnr hh hr hsmall hn F N fun I hI => ?_
  have key : ∀ k i m₁ news₁, i + k = n → J i m₁ news₁ → (∀ p ∈ news₁, p.1 ≠ I) → RangeRest prog w A E h₀ env x body Q s I a₀ n k i m₁ news₁ := by
    intro k
    induction k with
    | zero =>
      intro i m₁ news₁ hi hJ _
      have : i = n := by omega
      subst this
      exact RangeRest.zero fun h tk F₁ N₁ => done m₁ news₁ h tk hJ F₁ N₁
    | succ k ih =>
      intro i m₁ news₁ hi hJ hoff
      refine RangeRest.succ fun t h tk F₁ N₁ => ?_
      refine wpAny_mono (turn i t m₁ news₁ I _ h tk (by omega) hI hoff hJ F₁ N₁) (fun f s₂ p => ?_) fun _ _ e => e
      have up : UnrEnd h₀ env.locals { s with heap := h, toks := tk } I (itR (a₀ + ((i + 1 : Nat) : Int)) ((n : Int) - ((i + 1 : Nat) : Int))) (J (i + 1)) s₂ →
          UnrEnd h₀ env.locals { s with heap := h, toks := tk } I (itR (a₀ + ((i + 1 : Nat) : Int)) ((n : Int) - ((i + 1 : Nat) : Int))) (RangeRest prog w A E h₀ env x body Q s I a₀ n k (i + 1)) s₂ := by
        rintro ⟨h', tk', m', news', e, F', N', ho, hJ'⟩
        exact ⟨h', tk', m', news', e, F', N', ho, ih (i + 1) m' news' (by omega) hJ' ho⟩
      cases f with
      | ret v => exact p
      | brk => exact p
      | next => exact up p
      | cont => exact up p
  exact key n 0 m₀ news (by omega) h0 fun p hp e => absurd (hI p hp) (by rw [e]; exact Nat.lt_irrefl _)
end
section
variable {prog : Program} {w : World} {A : Around} {E : Value → Shared → Prop} {s : Shared} {env : Env} {h₀ : Heap} {target : Expr} {body : List Stmt} {Q : Flow → Shared → Prop}

def LEnd (h₀ : Heap) (L : Addr) (s₁ : Shared) (I : Addr) (it : Obj) (J : (Str → Option Value) → List (Addr × Obj) → Prop) (s₂ : Shared) : Prop :=
  ∃ h' tk m' news', s₂ = { s₁ with heap := h', toks := tk } ∧ Fr h₀ L h' m' ∧ News h₀ L h' ((I, it) :: news') ∧ (∀ p ∈ news', p.1 ≠ I) ∧ J m' news'
def LPost (h₀ : Heap) (L : Addr) (s₁ : Shared) (I : Addr) (it : Obj) (J : (Str → Option Value) → List (Addr × Obj) → Prop) (Q : Flow → Shared → Prop) (f : Flow) (s₂ : Shared) : Prop :=
  match f with
  | .ret v => Q (.ret v) s₂
  | .brk => Q .next s₂
  | _ => LEnd h₀ L s₁ I it J s₂

theorem list_turns {ax : Addr} {lo : Obj} {vs : List Value} {n : Nat} {m₀ : Str → Option Value} {news : List (Addr × Obj)}
    (J : Nat → (Str → Option Value) → List (Addr × Obj) → Prop)
    (hh : A.handled = none) (F : Fr h₀ env.locals s.heap m₀) (N : News h₀ env.locals s.heap news) (hm : (ax, lo) ∈ news) (hc : lo.cls = .type "list") (hd : lo.data = .seq vs.toArray n)
    (h0 : J 0 m₀ news) (hk : ∀ i m₁ news₁, J i m₁ news₁ → (ax, lo) ∈ news₁)
    (turn : ∀ (i : Nat) v m₁ news₁ (I : Addr) it h tk, vs[i]? = some v → (∀ p ∈ news, p.1 < I) → (∀ p ∈ news₁, p.1 ≠ I) → J i m₁ news₁ → Fr h₀ env.locals h m₁ → News h₀ env.locals h ((I, it) :: news₁) →
      wpAny (model prog w) A (assign target env v) (fun _ s₂ => wpAny (model prog w) A (execs body env) (LPost h₀ env.locals { s with heap := h, toks := tk } I it (J (i + 1)) Q) E s₂) E { s with heap := h, toks := tk })
    (done : ∀ m₁ news₁ h tk, J vs.length m₁ news₁ → Fr h₀ env.locals h m₁ → News h₀ env.locals h news₁ → Q .next { s with heap := h, toks := tk }) :
    wpAny (model prog w) A (pyIter (.ref ax)) (fun it s₂ => TurnsAt prog w A h₀ env target body Q E it s₂) E s := by
  refine iter_listTurns hh F N hm hc hd fun I hI => ?_
  have key : ∀ k i m₁ news₁, i + k = vs.length → J i m₁ news₁ → (∀ p ∈ news₁, p.1 ≠ I) → ItemsRest prog w A E h₀ env target body Q s [(I, "list_iterator")] [(ax, lo)] ((vs.drop i).map .val) m₁ news₁ := by
    intro k
    induction k with
    | zero =>
      intro i m₁ news₁ hi hJ _
      have : i = vs.length := by omega
      subst this
      rw [List.drop_length]
      exact ItemsRest.zero fun h tk F₁ N₁ => done m₁ news₁ h tk hJ F₁ N₁
    | succ k ih =>
      intro i m₁ news₁ hi hJ hoff
      have hlt : i < vs.length := by omega
      rw [List.drop_eq_getElem_cons hlt, List.map_cons]
      refine ItemsRest.val fun h tk F₁ => AllObj.cons fun o _ => AllObj.nil fun N₁ => ?_
      refine wpAny_mono (turn i vs[i] m₁ news₁ I o h tk (List.getElem?_eq_getElem hlt) hI hoff hJ F₁ N₁) (fun _ s₂ h₂ => wpAny_mono h₂ (fun f s₃ p => ?_) fun _ _ e => e) fun _ _ e => e
      have up : LEnd h₀ env.locals { s with heap := h, toks := tk } I o (J (i + 1)) s₃ → UnrEndW h₀ env.locals { s with heap := h, toks := tk } [(I, o)] (fun m' n' => SubL [(ax, lo)] n' ∧ ItemsRest prog w A E h₀ env target body Q s [(I, "list_iterator")] [(ax, lo)] ((vs.drop (i + 1)).map .val) m' n') s₃ := by
        rintro ⟨h', tk', m', news', e, F', N', ho, hJ'⟩
        exact ⟨h', tk', m', news', e, F', N', (fun p hp q hq => by rw [List.mem_singleton.mp hq]; exact ho p hp), ⟨hk _ _ _ hJ', trivial⟩, ih (i + 1) m' news' (by omega) hJ' ho⟩
      cases f with
      | ret v => exact p
      | brk => exact p
      | next => exact up p
      | cont => exact up p
  exact key vs.length 0 m₀ news (by omega) h0 fun p hp e => absurd (hI p hp) (by rw [e]; exact Nat.lt_irrefl _)
end
end Mine
end
/- Pure1 -/
section
open PySem
set_option maxRecDepth 100000
namespace Mine
/-! the tree of sums, in plain lists -/
def low (c : Nat) : Nat := (Builtin.bitAnd (c : Int) (-(c : Int))).toNat
theorem low_all : ∀ c : Fin 65, 0 < c.val → Builtin.bitAnd (c.val : Int) (-(c.val : Int)) = (low c.val : Int) ∧ 0 < low c.val ∧ low c.val ≤ c.val := by decide +kernel
theorem low_eq {c : Nat} (h : 0 < c) (h2 : c ≤ 64) : Builtin.bitAnd (c : Int) (-(c : Int)) = (low c : Int) := (low_all ⟨c, by omega⟩ h).1
theorem low_pos {c : Nat} (h : 0 < c) (h2 : c ≤ 64) : 0 < low c := (low_all ⟨c, by omega⟩ h).2.1
theorem low_le {c : Nat} (h : 0 < c) (h2 : c ≤ 64) : low c ≤ c := (low_all ⟨c, by omega⟩ h).2.2
def qch : Nat → Nat → List Nat
  | 0, _ => []
  | f + 1, c => if c = 0 then [] else c :: qch f (c - low c)
def uch : Nat → Nat → List Nat
  | 0, _ => []
  | f + 1, c => if c < 64 then c :: uch f (c + low c) else []
theorem qch_all : ∀ c : Fin 65, 0 < c.val → qch 7 c.val = c.val :: qch 7 (c.val - low c.val) ∧ (∀ x ∈ qch 7 c.val, x ≤ c.val) := by decide +kernel
theorem qch_zero : qch 7 0 = [] := rfl
theorem qch_step {c : Nat} (h : 0 < c) (h2 : c ≤ 64) : qch 7 c = c :: qch 7 (c - low c) := (qch_all ⟨c, by omega⟩ h).1
theorem qch_le {c x : Nat} (h2 : c ≤ 64) (hx : x ∈ qch 7 c) : x ≤ c := by
  rcases Nat.eq_zero_or_pos c with e | h
  · subst e; cases hx
  · exact (qch_all ⟨c, by omega⟩ h).2 x hx
theorem uch_all : ∀ c : Fin 64, 0 < c.val → uch 7 c.val = c.val :: uch 7 (c.val + low c.val) ∧ (∀ x ∈ uch 7 c.val, c.val ≤ x) := by decide +kernel
theorem uch_big {c : Nat} (h : 64 ≤ c) : uch 7 c = [] := by
  show (if c < 64 then _ else []) = []
  rw [if_neg (by omega)]
theorem uch_step {c : Nat} (h : 0 < c) (h2 : c < 64) : uch 7 c = c :: uch 7 (c + low c) := (uch_all ⟨c, h2⟩ h).1
theorem uch_ge {c x : Nat} (h : 0 < c) (hx : x ∈ uch 7 c) : c ≤ x := by
  by_cases h2 : c < 64
  · exact (uch_all ⟨c, h2⟩ h).2 x hx
  · rw [uch_big (by omega)] at hx; cases hx
theorem meet_all : ∀ a b : Fin 63, ((qch 7 (a.val + 1)).map fun c => ((uch 7 (b.val + 1)).count c : Nat)).sum = if b.val ≤ a.val then 1 else 0 := by decide +kernel
theorem meet {a b : Nat} (ha : a < 63) (hb : b < 63) : ((qch 7 (a + 1)).map fun c => ((uch 7 (b + 1)).count c : Nat)).sum = if b ≤ a then 1 else 0 := meet_all ⟨a, ha⟩ ⟨b, hb⟩

def addAt (r : Int) (tr : List Int) (c : Nat) : List Int := tr.set c (tr.getD c 0 + r)
def addCh (l : List Nat) (tr : List Int) (r : Int) : List Int := l.foldl (addAt r) tr
def uchn (n c : Nat) : List Nat := (uch 7 c).filter (· < n)
theorem uchn_step {n c : Nat} (h : 0 < c) (h2 : c < n) (hn : n ≤ 64) : uchn n c = c :: uchn n (c + low c) := by
  unfold uchn
  rw [uch_step h (by omega), List.filter_cons]
  simp [h2]
theorem uchn_end {n c : Nat} (h : 0 < c) (h2 : n ≤ c) : uchn n c = [] := by
  unfold uchn
  refine List.filter_eq_nil_iff.mpr fun x hx => ?_
  have := uch_ge h hx
  simp; omega
theorem addAt_length (r : Int) (tr : List Int) (c : Nat) : (addAt r tr c).length = tr.length := by simp [addAt]
theorem addCh_length (l : List Nat) (r : Int) : ∀ tr : List Int, (addCh l tr r).length = tr.length := by
  induction l with
  | nil => intro tr; rfl
  | cons c l ih => intro tr; show (addCh l (addAt r tr c) r).length = _; rw [ih, addAt_length]
theorem addAt_getD (r : Int) (tr : List Int) (c x : Nat) (hx : x < tr.length) : (addAt r tr c).getD x 0 = tr.getD x 0 + if c = x then r else 0 := by
  unfold addAt
  simp only [List.getD_eq_getElem?_getD, List.getElem?_set]
  by_cases e : c = x
  · subst e; simp [hx]
  · simp [e]
theorem addCh_getD (l : List Nat) (r : Int) : ∀ (tr : List Int) (x : Nat), x < tr.length → (addCh l tr r).getD x 0 = tr.getD x 0 + r * (l.count x : Nat) := by
  induction l with
  | nil => intro tr x _; simp [addCh]
  | cons c l ih =>
    intro tr x hx
    show (addCh l (addAt r tr c) r).getD x 0 = _
    rw [ih _ _ (by rw [addAt_length]; exact hx), addAt_getD r tr c x hx, List.count_cons]
    by_cases e : c = x
    · subst e
      simp only [if_true, beq_self_eq_true]
      rw [Int.natCast_add, Int.mul_add]
      simp
      omega
    · simp [e]
theorem addCh_zero (l : List Nat) : ∀ tr : List Int, addCh l tr 0 = tr := by
  induction l with
  | nil => intro tr; rfl
  | cons c l ih =>
    intro tr
    show addCh l (addAt 0 tr c) 0 = tr
    have : addAt 0 tr c = tr := by
      unfold addAt
      rw [Int.add_zero]
      by_cases h : c < tr.length
      · refine List.ext_getElem? fun i => ?_
        rw [List.getElem?_set]
        by_cases e : c = i
        · subst e; simp [h]
        · simp [e]
      · exact List.set_eq_of_length_le (by omega)
    rw [this, ih]
def treeOf (n : Nat) (cuts : List (Nat × Int)) : List Int := cuts.foldl (fun tr c => addCh (uchn n (c.1 + 1)) tr c.2) (List.replicate n 0)
theorem treeOf_snoc (n : Nat) (cuts : List (Nat × Int)) (c : Nat × Int) : treeOf n (cuts ++ [c]) = addCh (uchn n (c.1 + 1)) (treeOf n cuts) c.2 := by simp [treeOf]
def qsum (tr : List Int) (c : Nat) : Int := ((qch 7 c).map fun x => tr.getD x 0).sum
theorem qsum_zero (tr : List Int) : qsum tr 0 = 0 := rfl
theorem qsum_step (tr : List Int) {c : Nat} (h : 0 < c) (h2 : c ≤ 64) : qsum tr c = tr.getD c 0 + qsum tr (c - low c) := by
  unfold qsum
  rw [qch_step h h2, List.map_cons, List.sum_cons]
def cutSum (cuts : List (Nat × Int)) (i : Nat) : Int := (cuts.map fun c => if c.1 ≤ i then c.2 else 0).sum
theorem cutSum_snoc (cuts : List (Nat × Int)) (c : Nat × Int) (i : Nat) : cutSum (cuts ++ [c]) i = cutSum cuts i + if c.1 ≤ i then c.2 else 0 := by simp [cutSum]
theorem cutSum_take (cuts : List (Nat × Int)) (i : Nat) {j : Nat} (hj : j < cuts.length) : cutSum (cuts.take (j + 1)) i = cutSum (cuts.take j) i + if cuts[j].1 ≤ i then cuts[j].2 else 0 := by
  have e : cuts.take (j + 1) = cuts.take j ++ [cuts[j]] := by rw [List.take_add_one, List.getElem?_eq_getElem hj]; rfl
  rw [e, cutSum_snoc]
theorem sum_add (l : List Nat) (f g : Nat → Int) : (l.map fun x => f x + g x).sum = (l.map f).sum + (l.map g).sum := by
  induction l with
  | nil => rfl
  | cons a l ih => simp only [List.map_cons, List.sum_cons, ih]; omega
theorem sum_mul (l : List Nat) (r : Int) (g : Nat → Nat) : (l.map fun x => r * (g x : Int)).sum = r * ((l.map g).sum : Nat) := by
  induction l with
  | nil => simp
  | cons a l ih => simp only [List.map_cons, List.sum_cons, ih, Int.natCast_add, Int.mul_add]
theorem qsum_addCh {n i : Nat} (hn : n ≤ 64) (hi : i + 1 < n) {c : Nat × Int} (hc : c.1 < 63) (tr : List Int) (hl : tr.length = n) :
    qsum (addCh (uchn n (c.1 + 1)) tr c.2) (i + 1) = qsum tr (i + 1) + if c.1 ≤ i then c.2 else 0 := by
  have e : (qch 7 (i + 1)).map (fun x => (addCh (uchn n (c.1 + 1)) tr c.2).getD x 0) = (qch 7 (i + 1)).map fun x => tr.getD x 0 + c.2 * (((uch 7 (c.1 + 1)).count x : Nat) : Int) := by
    refine List.map_congr_left fun x hx => ?_
    have hx' := qch_le (by omega) hx
    rw [addCh_getD _ _ _ _ (by omega)]
    have : (uchn n (c.1 + 1)).count x = (uch 7 (c.1 + 1)).count x := by
      unfold uchn
      exact List.count_filter (by simp; omega)
    rw [this]
  unfold qsum
  rw [e, sum_add, sum_mul, meet (by omega) hc]
  by_cases h : c.1 ≤ i <;> simp [h]
theorem treeOf_length (n : Nat) (cuts : List (Nat × Int)) : (treeOf n cuts).length = n := by
  unfold treeOf
  have : ∀ (l : List (Nat × Int)) (tr : List Int), (l.foldl (fun tr c => addCh (uchn n (c.1 + 1)) tr c.2) tr).length = tr.length := by
    intro l
    induction l with
    | nil => intro tr; rfl
    | cons c l ih => intro tr; rw [List.foldl_cons, ih, addCh_length]
  rw [this]; simp
theorem qsum_nil {n i : Nat} : qsum (List.replicate n (0 : Int)) i = 0 := by
  unfold qsum
  have : ∀ l : List Nat, (l.map fun x => (List.replicate n (0 : Int)).getD x 0).sum = 0 := by
    intro l
    induction l with
    | nil => rfl
    | cons a l ih => rw [List.map_cons, List.sum_cons, ih]; simp [List.getD_eq_getElem?_getD, List.getElem?_replicate]; split <;> rfl
  exact this _
theorem qsum_treeOf {n i : Nat} (hn : n ≤ 64) (hi : i + 1 < n) (cuts : List (Nat × Int)) (hc : ∀ c ∈ cuts, c.1 < 63) : qsum (treeOf n cuts) (i + 1) = cutSum cuts i := by
  have : ∀ (l : List (Nat × Int)) (tr : List Int), tr.length = n → (∀ c ∈ l, c.1 < 63) → qsum (l.foldl (fun tr c => addCh (uchn n (c.1 + 1)) tr c.2) tr) (i + 1) = qsum tr (i + 1) + cutSum l i := by
    intro l
    induction l with
    | nil => intro tr _ _; simp [cutSum]
    | cons c l ih =>
      intro tr hl hc
      rw [List.foldl_cons, ih _ (by rw [addCh_length, hl]) (fun d hd => hc d (.tail _ hd)), qsum_addCh hn hi (hc c (.head _)) tr hl]
      simp only [cutSum, List.map_cons, List.sum_cons]
      omega
  unfold treeOf
  rw [this cuts _ (by simp) hc, qsum_nil]
  omega
end Mine
end
/- Pure2 -/
section
open PySem
set_option maxRecDepth 100000
namespace Mine
/-! the next live one, in plain lists -/
def nz : List Bool → Nat
  | [] => 0
  | b :: r => if b then 0 else nz r + 1
def nextOf (al : List Bool) (i : Nat) : Nat := i + nz (al.drop i)
theorem nextOf_ge (al : List Bool) (i : Nat) : i ≤ nextOf al i := Nat.le_add_right _ _
theorem nz_le : ∀ l : List Bool, nz l ≤ l.length
  | [] => Nat.le_refl _
  | b :: r => by
    have := nz_le r
    unfold nz
    split <;> simp <;> omega
theorem nextOf_le {al : List Bool} {i : Nat} (h : i ≤ al.length) : nextOf al i ≤ al.length := by
  have := nz_le (al.drop i)
  rw [List.length_drop] at this
  unfold nextOf; omega
theorem nextOf_big {al : List Bool} {i : Nat} (h : al.length ≤ i) : nextOf al i = i := by
  unfold nextOf
  rw [List.drop_eq_nil_of_le h]; rfl
theorem nextOf_live {al : List Bool} {i : Nat} (h : al.getD i false = true) : nextOf al i = i := by
  have hi : i < al.length := by
    by_cases hi : i < al.length
    · exact hi
    · rw [List.getD_eq_getElem?_getD, List.getElem?_eq_none (by omega)] at h; cases h
  unfold nextOf
  rw [List.drop_eq_getElem_cons hi]
  have : al[i] = true := by rw [List.getD_eq_getElem?_getD, List.getElem?_eq_getElem hi] at h; exact h
  rw [this]; rfl
theorem nextOf_dead {al : List Bool} {i : Nat} (hi : i < al.length) (h : al.getD i false = false) : nextOf al i = nextOf al (i + 1) := by
  unfold nextOf
  rw [List.drop_eq_getElem_cons hi]
  have : al[i] = false := by rw [List.getD_eq_getElem?_getD, List.getElem?_eq_getElem hi] at h; exact h
  rw [this]
  show i + (nz (al.drop (i + 1)) + 1) = _
  omega
/-- the places from i to the next live one are dead -/
theorem nextOf_between {al : List Bool} {j : Nat} : ∀ {i : Nat}, i ≤ j → j < nextOf al i → al.getD j false = false := by
  have key : ∀ k i, k = al.length - i → i ≤ j → j < nextOf al i → al.getD j false = false := by
    intro k
    induction k with
    | zero =>
      intro i hk hij hj
      rw [nextOf_big (by omega)] at hj
      omega
    | succ k ih =>
      intro i hk hij hj
      cases hb : al.getD i false with
      | true => rw [nextOf_live hb] at hj; omega
      | false =>
        rcases Nat.lt_or_ge i j with h | h
        · rw [nextOf_dead (by omega) hb] at hj
          exact ih (i + 1) (by omega) h hj
        · have : i = j := by omega
          rw [← this]; exact hb
  intro i
  exact key _ i rfl
theorem nextOf_mid {al : List Bool} {j : Nat} : ∀ {i : Nat}, i ≤ j → j ≤ nextOf al i → nextOf al j = nextOf al i := by
  have key : ∀ k i, k = al.length - i → i ≤ j → j ≤ nextOf al i → nextOf al j = nextOf al i := by
    intro k
    induction k with
    | zero =>
      intro i hk hij hj
      have hb := nextOf_big (al := al) (i := i) (by omega)
      rw [hb] at hj
      have : i = j := by omega
      rw [this]
    | succ k ih =>
      intro i hk hij hj
      cases hb : al.getD i false with
      | true =>
        rw [nextOf_live hb] at hj
        have : i = j := by omega
        rw [this]
      | false =>
        rcases Nat.lt_or_ge i j with h | h
        · have hd := nextOf_dead (al := al) (i := i) (by omega) hb
          rw [hd] at hj ⊢
          exact ih (i + 1) (by omega) h hj
        · have : i = j := by omega
          rw [this]
  intro i
  exact key _ i rfl
theorem nextOf_idem (al : List Bool) (i : Nat) : nextOf al (nextOf al i) = nextOf al i := nextOf_mid (nextOf_ge al i) (Nat.le_refl _)
theorem nextOf_end {al : List Bool} {i : Nat} (h : i ≤ al.length) : nextOf al i = al.length ∨ al.getD (nextOf al i) false = true := by
  cases hb : al.getD (nextOf al i) false with
  | true => exact .inr rfl
  | false =>
    have hle := nextOf_le h
    rcases Nat.lt_or_ge (nextOf al i) al.length with h2 | h2
    · have h3 := nextOf_dead h2 hb
      rw [nextOf_idem] at h3
      have h4 := nextOf_ge al (nextOf al i + 1)
      omega
    · exact .inl (by omega)

/-- the table of next ones fits the live ones -/
def NextOk (nv : List Int) (al : List Bool) : Prop :=
  nv.length = al.length + 1 ∧ ∀ i : Nat, i ≤ al.length → (i : Int) ≤ nv.getD i 0 ∧ nv.getD i 0 ≤ (nextOf al i : Nat) ∧ (nv.getD i 0 = (i : Int) → nextOf al i = i)
theorem NextOk.step {nv : List Int} {al : List Bool} (h : NextOk nv al) {i : Nat} (hi : i ≤ al.length) (hne : nv.getD i 0 ≠ (i : Int)) :
    ∃ p : Nat, nv.getD i 0 = (p : Int) ∧ i < p ∧ p ≤ al.length ∧ nextOf al p = nextOf al i := by
  obtain ⟨h1, h2, h3⟩ := h.2 i hi
  have hle := nextOf_le hi
  refine ⟨(nv.getD i 0).toNat, by omega, by omega, by omega, nextOf_mid (by omega) (by omega)⟩
theorem NextOk.stop {nv : List Int} {al : List Bool} (h : NextOk nv al) {i : Nat} (hi : i ≤ al.length) (he : nv.getD i 0 = (i : Int)) : nextOf al i = i := (h.2 i hi).2.2 he
theorem getD_set {α : Type} (l : List α) (k i : Nat) (a d : α) (hk : k < l.length) : (l.set k a).getD i d = if k = i then a else l.getD i d := by
  simp only [List.getD_eq_getElem?_getD, List.getElem?_set]
  by_cases e : k = i
  · subst e; simp [hk]
  · simp [e]
theorem NextOk.press {nv : List Int} {al : List Bool} (h : NextOk nv al) {k : Nat} (hk : k ≤ al.length) (_hne : nv.getD k 0 ≠ (k : Int)) : NextOk (nv.set k (nextOf al k : Nat)) al := by
  refine ⟨by rw [List.length_set]; exact h.1, fun i hi => ?_⟩
  have hlen := h.1
  obtain ⟨h1, h2, h3⟩ := h.2 i hi
  rw [getD_set _ _ _ _ _ (by omega)]
  by_cases e : k = i
  · subst e
    rw [if_pos rfl]
    exact ⟨by have := nextOf_ge al k; omega, Int.le_refl _, fun e => by omega⟩
  · rw [if_neg e]
    exact ⟨h1, h2, h3⟩
theorem getD_setb (al : List Bool) (k i : Nat) (hk : k < al.length) : (al.set k false).getD i false = if k = i then false else al.getD i false := getD_set _ _ _ _ _ hk
/-- putting one out moves the next live one on, never back -/
theorem nextOf_set_ge {al : List Bool} {k : Nat} (hk : k < al.length) {i : Nat} : nextOf al i ≤ nextOf (al.set k false) i := by
  rcases Nat.lt_or_ge (nextOf (al.set k false) i) (nextOf al i) with h | h
  · exfalso
    have hi : i ≤ al.length := by
      rcases Nat.lt_or_ge al.length i with h9 | h9
      · rw [nextOf_big (al := al) (by omega)] at h
        have := nextOf_ge (al.set k false) i
        omega
      · exact h9
    have hb := nextOf_between (nextOf_ge (al.set k false) i) h
    rcases nextOf_end (al := al.set k false) (i := i) (by rw [List.length_set]; exact hi) with e | e
    · rw [List.length_set] at e
      have := nextOf_le hi
      omega
    · rw [getD_setb _ _ _ hk] at e
      split at e
      · cases e
      · rw [hb] at e; cases e
  · exact h
theorem nextOf_set_at {al : List Bool} {k : Nat} (hk : k < al.length) : nextOf (al.set k false) k = nextOf al (k + 1) := by
  rw [nextOf_dead (by rw [List.length_set]; exact hk) (by rw [getD_setb _ _ _ hk, if_pos rfl])]
  unfold nextOf
  rw [List.drop_set]
  rw [if_pos (by omega)]
theorem NextOk.put {nv : List Int} {al : List Bool} (h : NextOk nv al) {k : Nat} (hk : k < al.length) : NextOk (nv.set k (nextOf al (k + 1) : Nat)) (al.set k false) := by
  have hlen := h.1
  refine ⟨by rw [List.length_set, List.length_set]; exact h.1, fun i hi => ?_⟩
  rw [List.length_set] at hi
  obtain ⟨h1, h2, h3⟩ := h.2 i hi
  rw [getD_set _ _ _ _ _ (by omega)]
  by_cases e : k = i
  · subst e
    rw [if_pos rfl, nextOf_set_at hk]
    have := nextOf_ge al (k + 1)
    exact ⟨by omega, Int.le_refl _, fun e => by omega⟩
  · rw [if_neg e]
    have := nextOf_set_ge hk (i := i)
    refine ⟨h1, by omega, fun e2 => ?_⟩
    have e3 := h3 e2
    rcases nextOf_end (al := al) (i := i) hi with e4 | e4
    · rw [e3] at e4
      exact nextOf_big (by rw [List.length_set]; omega)
    · rw [e3] at e4
      exact nextOf_live (by rw [getD_setb _ _ _ hk, if_neg e]; exact e4)
theorem nextOf_replicate (n i : Nat) : nextOf (List.replicate n true) i = i := by
  rcases Nat.lt_or_ge i n with h | h
  · refine nextOf_live ?_
    rw [List.getD_eq_getElem?_getD, List.getElem?_replicate, if_pos h]; rfl
  · exact nextOf_big (by rw [List.length_replicate]; exact h)
theorem NextOk.start (n : Nat) : NextOk ((List.range (n + 1)).map fun i : Nat => (i : Int)) (List.replicate n true) := by
  refine ⟨by simp, fun i hi => ?_⟩
  rw [List.length_replicate] at hi
  rw [nextOf_replicate]
  have : ((List.range (n + 1)).map fun i : Nat => (i : Int)).getD i 0 = (i : Int) := by
    rw [List.getD_eq_getElem?_getD, List.getElem?_map, List.getElem?_range (by omega)]; rfl
  rw [this]
  exact ⟨Int.le_refl _, Int.le_refl _, fun _ => rfl⟩

/-- a range of them put out -/
def clrA (al : List Bool) (f e : Nat) : List Bool := (List.range al.length).map fun j => if f ≤ j ∧ j < e then false else al.getD j false
def clrL (al : List Bool) (ln : List Int) (f e : Nat) : List Int := (List.range ln.length).map fun j => if (f ≤ j ∧ j < e) ∧ al.getD j false = true then 0 else ln.getD j 0
theorem clrA_length (al : List Bool) (f e : Nat) : (clrA al f e).length = al.length := by simp [clrA]
theorem clrL_length (al : List Bool) (ln : List Int) (f e : Nat) : (clrL al ln f e).length = ln.length := by simp [clrL]
theorem clrA_getD (al : List Bool) (f e j : Nat) : (clrA al f e).getD j false = if f ≤ j ∧ j < e then false else al.getD j false := by
  unfold clrA
  rcases Nat.lt_or_ge j al.length with h | h
  · rw [List.getD_eq_getElem?_getD, List.getElem?_map, List.getElem?_range h]; rfl
  · have : al.getD j false = false := by rw [List.getD_eq_getElem?_getD, List.getElem?_eq_none h]; rfl
    rw [this, List.getD_eq_getElem?_getD, List.getElem?_eq_none (by simp; exact h)]; simp
theorem clrL_getD (al : List Bool) (ln : List Int) (f e j : Nat) : (clrL al ln f e).getD j 0 = if (f ≤ j ∧ j < e) ∧ al.getD j false = true then 0 else ln.getD j 0 := by
  unfold clrL
  rcases Nat.lt_or_ge j ln.length with h | h
  · rw [List.getD_eq_getElem?_getD, List.getElem?_map, List.getElem?_range h]; rfl
  · have : ln.getD j 0 = 0 := by rw [List.getD_eq_getElem?_getD, List.getElem?_eq_none h]; rfl
    rw [this, List.getD_eq_getElem?_getD, List.getElem?_eq_none (by simp; exact h)]; simp
theorem ext_getD {α : Type} {a b : List α} (d : α) (hl : a.length = b.length) (h : ∀ j, j < a.length → a.getD j d = b.getD j d) : a = b := by
  refine List.ext_getElem hl fun i h1 h2 => ?_
  have := h i h1
  rw [List.getD_eq_getElem?_getD, List.getD_eq_getElem?_getD, List.getElem?_eq_getElem h1, List.getElem?_eq_getElem h2] at this
  exact this
theorem clrA_nil (al : List Bool) {f e : Nat} (h : ∀ j, f ≤ j → j < e → al.getD j false = false) : clrA al f e = al := by
  refine ext_getD false (clrA_length ..) fun j _ => ?_
  rw [clrA_getD]
  split
  · exact (h j (by omega) (by omega)).symm
  · rfl
theorem clrL_nil (al : List Bool) (ln : List Int) {f e : Nat} (h : ∀ j, f ≤ j → j < e → al.getD j false = false) : clrL al ln f e = ln := by
  refine ext_getD 0 (clrL_length ..) fun j _ => ?_
  rw [clrL_getD]
  split
  · rename_i hj
    rw [h j (by omega) (by omega)] at hj
    cases hj.2
  · rfl
theorem clrA_snoc (al : List Bool) {f e : Nat} (hfe : f ≤ e) (he : e < al.length) : clrA al f (e + 1) = (clrA al f e).set e false := by
  refine ext_getD false (by rw [List.length_set, clrA_length, clrA_length]) fun j hj => ?_
  rw [getD_setb _ _ _ (by rw [clrA_length]; exact he), clrA_getD, clrA_getD]
  by_cases e1 : e = j
  · subst e1; simp [hfe]
  · rw [if_neg e1]
    by_cases h1 : f ≤ j ∧ j < e
    · rw [if_pos h1, if_pos (by omega)]
    · rw [if_neg h1, if_neg (by omega)]
theorem clrL_live (al : List Bool) (ln : List Int) {f e : Nat} (hfe : f ≤ e) (he : e < ln.length) (hal : al.getD e false = true) : clrL al ln f (e + 1) = (clrL al ln f e).set e 0 := by
  refine ext_getD 0 (by rw [List.length_set, clrL_length, clrL_length]) fun j hj => ?_
  rw [getD_set _ _ _ _ _ (by rw [clrL_length]; exact he), clrL_getD, clrL_getD]
  by_cases e1 : e = j
  · subst e1; simp [hfe]; intro h; rw [List.getD_eq_getElem?_getD, h] at hal; cases hal
  · rw [if_neg e1]
    by_cases h1 : f ≤ j ∧ j < e
    · by_cases h2 : al.getD j false = true
      · rw [if_pos ⟨by omega, h2⟩, if_pos ⟨h1, h2⟩]
      · rw [if_neg (fun q => h2 q.2), if_neg (fun q => h2 q.2)]
    · rw [if_neg (fun q => h1 ⟨q.1.1, by omega⟩), if_neg (fun q => h1 q.1)]
theorem clrA_dead (al : List Bool) {f e : Nat} (hal : al.getD e false = false) : clrA al f (e + 1) = clrA al f e := by
  refine ext_getD false (by rw [clrA_length, clrA_length]) fun j hj => ?_
  rw [clrA_getD, clrA_getD]
  by_cases e1 : e = j
  · subst e1; rw [hal]; simp
  · by_cases h1 : f ≤ j ∧ j < e
    · rw [if_pos h1, if_pos (by omega)]
    · rw [if_neg h1, if_neg (by omega)]
theorem clrL_dead (al : List Bool) (ln : List Int) {f e : Nat} (hal : al.getD e false = false) : clrL al ln f (e + 1) = clrL al ln f e := by
  refine ext_getD 0 (by rw [clrL_length, clrL_length]) fun j hj => ?_
  rw [clrL_getD, clrL_getD]
  by_cases e1 : e = j
  · subst e1; rw [hal]; simp
  · by_cases h1 : f ≤ j ∧ j < e
    · by_cases h2 : al.getD j false = true
      · rw [if_pos ⟨by omega, h2⟩, if_pos ⟨h1, h2⟩]
      · rw [if_neg (fun q => h2 q.2), if_neg (fun q => h2 q.2)]
    · rw [if_neg (fun q => h1 ⟨q.1.1, by omega⟩), if_neg (fun q => h1 q.1)]
/-- a range put out, on the way -/
structure DInv (al : List Bool) (ln : List Int) (f e o : Nat) (al' : List Bool) (ln' : List Int) : Prop where
  la : al'.length = al.length
  ll : ln'.length = ln.length
  fo : f ≤ o
  ol : o ≤ al.length
  nx : nextOf al' o = o
  out : ∀ j, ¬ (f ≤ j ∧ j < e) → al'.getD j false = al.getD j false
  gone : ∀ j, f ≤ j → j < o → al'.getD j false = false
  rest : ∀ j, o ≤ j → al'.getD j false = al.getD j false
  len : ∀ j, ln'.getD j 0 = if al.getD j false = true ∧ al'.getD j false = false then 0 else ln.getD j 0
theorem DInv.start {al : List Bool} {ln : List Int} {f e : Nat} (hf : f ≤ al.length) : DInv al ln f e (nextOf al f) al ln where
  la := rfl
  ll := rfl
  fo := nextOf_ge al f
  ol := nextOf_le hf
  nx := nextOf_idem al f
  out := fun _ _ => rfl
  gone := fun j h1 h2 => nextOf_between h1 h2
  rest := fun _ _ => rfl
  len := fun j => by rw [if_neg (fun h => by rw [h.1] at h; exact absurd h.2 (by decide))]
theorem DInv.live {al : List Bool} {ln : List Int} {f e o : Nat} {al' : List Bool} {ln' : List Int} (h : DInv al ln f e o al' ln') (he : e ≤ al.length) (ho : o < e) : al'.getD o false = true := by
  rcases nextOf_end (al := al') (i := o) (by rw [h.la]; exact h.ol) with q | q
  · rw [h.nx, h.la] at q; omega
  · rw [h.nx] at q; exact q
theorem DInv.step {al : List Bool} {ln : List Int} {f e o : Nat} {al' : List Bool} {ln' : List Int} (h : DInv al ln f e o al' ln') (he : e ≤ al.length) (hl : ln.length = al.length) (ho : o < e) :
    DInv al ln f e (nextOf (al'.set o false) o) (al'.set o false) (ln'.set o 0) := by
  have hlive := h.live he ho
  have hk : o < al'.length := by rw [h.la]; omega
  have hge : o + 1 ≤ nextOf (al'.set o false) o := by rw [nextOf_set_at hk]; exact nextOf_ge _ _
  refine ⟨by rw [List.length_set]; exact h.la, by rw [List.length_set]; exact h.ll, by have := h.fo; omega, ?_, nextOf_idem _ _, fun j hj => ?_, fun j h1 h2 => ?_, fun j hj => ?_, fun j => ?_⟩
  · have := nextOf_le (al := al'.set o false) (i := o) (by rw [List.length_set]; omega)
    rw [List.length_set, h.la] at this; exact this
  · rw [getD_setb _ _ _ hk, if_neg (by rintro rfl; exact hj ⟨h.fo, ho⟩)]
    exact h.out j hj
  · rcases Nat.lt_or_ge j o with h3 | h3
    · rw [getD_setb _ _ _ hk, if_neg (by omega)]
      exact h.gone j h1 h3
    · exact nextOf_between h3 h2
  · rw [getD_setb _ _ _ hk, if_neg (by omega)]
    exact h.rest j (by omega)
  · rw [getD_set _ _ _ _ _ (by rw [h.ll, hl]; omega), getD_setb _ _ _ hk]
    by_cases e1 : o = j
    · subst e1
      have := h.rest o (Nat.le_refl _)
      rw [hlive] at this
      rw [if_pos rfl, if_pos rfl, if_pos ⟨this.symm, rfl⟩]
    · rw [if_neg e1, if_neg e1]
      exact h.len j
theorem DInv.fin {al : List Bool} {ln : List Int} {f e o : Nat} {al' : List Bool} {ln' : List Int} (h : DInv al ln f e o al' ln') (ho : ¬ o < e) : al' = clrA al f e ∧ ln' = clrL al ln f e := by
  refine ⟨ext_getD false (by rw [clrA_length]; exact h.la) fun j _ => ?_, ext_getD 0 (by rw [clrL_length]; exact h.ll) fun j _ => ?_⟩
  · rw [clrA_getD]
    by_cases q : f ≤ j ∧ j < e
    · rw [if_pos q]; exact h.gone j q.1 (by omega)
    · rw [if_neg q]; exact h.out j q
  · rw [clrL_getD, h.len j]
    by_cases q : f ≤ j ∧ j < e
    · have := h.gone j q.1 (by omega)
      by_cases q2 : al.getD j false = true
      · rw [if_pos ⟨q2, this⟩, if_pos ⟨q, q2⟩]
      · rw [if_neg (fun x => q2 x.1), if_neg (fun x => q2 x.2)]
    · have := h.out j q
      rw [if_neg (fun x => by rw [this, x.1] at x; exact absurd x.2 (by decide)), if_neg (fun x => q x.1)]
end Mine
end
/- Objs -/
section
open PySem PySem.W PyProof.Rows PySem.Calls PyProof.V PySem.Spec
set_option Elab.async false
set_option maxRecDepth 100000
set_option maxHeartbeats 8000000
namespace Mine
def tokF (l : List Tok) : Nat → Tok := fun j => l.getD j 0
/-- a delimiter's own dict -/
abbrev delO (P : Params) (i l l0 k : Int) (T : Nat → Tok) (n : Nat) : Obj := dictOf [
  ⟨PyData.keyHash P (Str.ofString "index"), .str (Str.ofString "index") (T 0), .int i (T 7)⟩,
  ⟨PyData.keyHash P (Str.ofString "marker"), .str (Str.ofString "marker") (T 1), .str (Str.ofString "*") (T 8)⟩,
  ⟨PyData.keyHash P (Str.ofString "length"), .str (Str.ofString "length") (T 2), .int l (T 9)⟩,
  ⟨PyData.keyHash P (Str.ofString "can_open"), .str (Str.ofString "can_open") (T 3), .bool true⟩,
  ⟨PyData.keyHash P (Str.ofString "can_close"), .str (Str.ofString "can_close") (T 4), .bool true⟩,
  ⟨PyData.keyHash P (Str.ofString "orig_length"), .str (Str.ofString "orig_length") (T 5), .int l0 (T 10)⟩,
  ⟨PyData.keyHash P (Str.ofString "order"), .str (Str.ofString "order") (T 6), .int k (T 11)⟩] n
/-- an index's own dict -/
abbrev idxO (P : Params) (tr nx : Addr) (T : Nat → Tok) (n : Nat) : Obj := dictOf [
  ⟨PyData.keyHash P (Str.ofString "_tree"), .str (Str.ofString "_tree") (T 0), .ref tr⟩,
  ⟨PyData.keyHash P (Str.ofString "_next"), .str (Str.ofString "_next") (T 1), .ref nx⟩] n
/-- the model's dict -/
abbrev modO (P : Params) (pl le cu al : Addr) (T : Nat → Tok) (n : Nat) : Obj := dictOf [
  ⟨PyData.keyHash P (Str.ofString "places"), .str (Str.ofString "places") (T 0), .ref pl⟩,
  ⟨PyData.keyHash P (Str.ofString "lengths"), .str (Str.ofString "lengths") (T 1), .ref le⟩,
  ⟨PyData.keyHash P (Str.ofString "cuts"), .str (Str.ofString "cuts") (T 2), .ref cu⟩,
  ⟨PyData.keyHash P (Str.ofString "alive"), .str (Str.ofString "alive") (T 3), .ref al⟩] n
theorem all1 {α : Type} {P : α → Prop} {a : α} (h : P a) : ∀ p ∈ [a], P p := List.forall_mem_cons.mpr ⟨h, List.forall_mem_nil _⟩
theorem all2 {α : Type} {P : α → Prop} {a b : α} (h : P a) (h2 : P b) : ∀ p ∈ [a, b], P p := List.forall_mem_cons.mpr ⟨h, all1 h2⟩
theorem all3 {α : Type} {P : α → Prop} {a b c : α} (h : P a) (h2 : P b) (h3 : P c) : ∀ p ∈ [a, b, c], P p := List.forall_mem_cons.mpr ⟨h, all2 h2 h3⟩
end Mine
end
/- Upds -/
section
open PySem PySem.W PyProof.Rows PySem.Calls PyProof.V PySem.Spec
set_option Elab.async false
set_option maxRecDepth 100000
set_option maxHeartbeats 8000000
namespace Mine
theorem updF_front {d : Addr} {o : Obj} {news : List (Addr × Obj)} {g : Obj → List (Addr × Obj)} (U : UpdF d o news g) :
    ∃ own, OwnOff own [d] ∧ (∀ p, p ∈ (d, o) :: own ↔ p ∈ news) ∧ ∀ o' p, p ∈ g o' ↔ p ∈ (d, o') :: own := by
  obtain ⟨pre, post, e1, e2, h1, h2⟩ := U.split
  refine ⟨pre ++ post, fun p hp b hb => ?_, fun p => ?_, fun o' p => ?_⟩
  · rw [List.mem_singleton.mp hb]
    exact (List.mem_append.mp hp).elim (h1 p) (h2 p)
  · subst e1
    simp only [List.mem_cons, List.mem_append]
    constructor
    · rintro (h | h | h)
      · exact .inr (.inl h)
      · exact .inl h
      · exact .inr (.inr h)
    · rintro (h | h | h)
      · exact .inr (.inl h)
      · exact .inl h
      · exact .inr (.inr h)
  · rw [e2 o']
    simp only [List.mem_cons, List.mem_append]
    constructor
    · rintro (h | h | h)
      · exact .inr (.inl h)
      · exact .inl h
      · exact .inr (.inr h)
    · rintro (h | h | h)
      · exact .inr (.inl h)
      · exact .inl h
      · exact .inr (.inr h)
theorem News.re {h₀ h : Heap} {L : Addr} {a b : List (Addr × Obj)} (N : News h₀ L h a) (s : ∀ p ∈ b, p ∈ a) : News h₀ L h b := fun p hp => N p (s p hp)
/-- one address, one object -/
theorem News.one {h₀ h : Heap} {L : Addr} {a : List (Addr × Obj)} (N : News h₀ L h a) {d : Addr} {o o' : Obj} (h1 : (d, o) ∈ a) (h2 : (d, o') ∈ a) : o = o' :=
  Option.some.inj ((N _ h1).1.symm.trans (N _ h2).1)
theorem News.apart {h₀ h : Heap} {L : Addr} {a : List (Addr × Obj)} (N : News h₀ L h a) {d e : Addr} {o o' : Obj} (h1 : (d, o) ∈ a) (h2 : (e, o') ∈ a) (hne : o ≠ o') : d ≠ e := by
  intro q; subst q; exact hne (News.one N h1 h2)
theorem inst_ne_list {C dx : Addr} {a : Array Value} {n : Nat} : instObj C dx ≠ listOf a n := fun e => by injection e with e; cases e
theorem inst_ne_dict {C dx : Addr} {es : List DictEntry} {n : Nat} : instObj C dx ≠ dictOf es n := fun e => by injection e with e; cases e
theorem list_ne_dict {a : Array Value} {k : Nat} {es : List DictEntry} {n : Nat} : listOf a k ≠ dictOf es n := fun e => by
  injection e with e; injection e with e; exact absurd e (by decide)
theorem dict_len {es es' : List DictEntry} {n n' : Nat} (h : es.length ≠ es'.length) : dictOf es n ≠ dictOf es' n' := fun e => by
  injection e with _ _ e
  injection e with e
  exact h (by have := congrArg Array.size e; simpa using this)
theorem tail_of_ne {d e : Addr} {o o' : Obj} {own : List (Addr × Obj)} (h : (e, o') ∈ (d, o) :: own) (hne : o' ≠ o) : (e, o') ∈ own := by
  rcases List.mem_cons.mp h with q | q
  · exact absurd (Prod.mk.inj q).2 hne
  · exact q
/-- the rest of a ledger, without one address -/
def off (d : Addr) (news : List (Addr × Obj)) : List (Addr × Obj) := news.filter fun p => decide (p.1 ≠ d)
theorem off_off (d : Addr) (news : List (Addr × Obj)) : OwnOff (off d news) [d] := fun p hp b hb => by
  rw [List.mem_singleton.mp hb]
  have := (List.mem_filter.mp hp).2
  simpa using this
theorem mem_off {d e : Addr} {o : Obj} {news : List (Addr × Obj)} (h : (e, o) ∈ news) (hne : e ≠ d) : (e, o) ∈ off d news := List.mem_filter.mpr ⟨h, by simpa using hne⟩
theorem off_sub {d : Addr} {news : List (Addr × Obj)} : ∀ p ∈ off d news, p ∈ news := fun _ hp => (List.mem_filter.mp hp).1
theorem News.front {h₀ h : Heap} {L : Addr} {a : List (Addr × Obj)} (N : News h₀ L h a) {d : Addr} {o : Obj} (hm : (d, o) ∈ a) : News h₀ L h ((d, o) :: off d a) := fun p hp => by
  rcases List.mem_cons.mp hp with rfl | hp
  · exact N _ hm
  · exact N _ (off_sub p hp)
theorem upd_seg {d : Addr} {o o' : Obj} {own : List (Addr × Obj)} : ∀ {ro : List (Addr × Obj)} {i : Nat}, ro[i]? = some (d, o) → (ro.map (·.1)).Nodup → OwnOff own (ro.map (·.1)) → Upd d o o' (ro ++ own) (ro.set i (d, o') ++ own)
  | [], _, h, _, _ => by cases h
  | p :: r, 0, h, hn, ho => by
    cases h
    refine Upd.head fun q hq => ?_
    rcases List.mem_append.mp hq with h1 | h1
    · intro e
      rw [List.map_cons, List.nodup_cons] at hn
      exact hn.1 (by rw [← e]; exact List.mem_map.mpr ⟨q, h1, rfl⟩)
    · exact ho q h1 _ (.head _)
  | p :: r, i + 1, h, hn, ho => by
    rw [List.map_cons, List.nodup_cons] at hn
    have h' : r[i]? = some (d, o) := by simpa using h
    refine Upd.tail (fun e => hn.1 ?_) (upd_seg h' hn.2 fun q hq b hb => ho q hq b (.tail _ hb))
    rw [e]
    exact List.mem_map.mpr ⟨_, List.mem_of_getElem? h', rfl⟩
/-- the delimiters' own dicts, a stretch of the ledger -/
structure RowD (P : Params) (ds : List Addr) (pls : List Nat) (ln : List Int) (ro : List (Addr × Obj)) : Prop where
  ads : ro.map (·.1) = ds
  at_ : ∀ i (h : i < ds.length), ∃ l0 k T, ro[i]? = some (ds[i], delO P (pls.getD i 0 : Nat) (ln.getD i 0) l0 k T 7)
theorem RowD.set {P : Params} {ds : List Addr} {pls : List Nat} {ln : List Int} {ro : List (Addr × Obj)} (h : RowD P ds pls ln ro) {i : Nat} (hi : i < ds.length) (hl : ln.length = ds.length) {l : Int} {l0 k : Int} {T : Nat → Tok} :
    RowD P ds pls (ln.set i l) (ro.set i (ds[i], delO P (pls.getD i 0 : Nat) l l0 k T 7)) := by
  have hr : ro.length = ds.length := by rw [← h.ads, List.length_map]
  refine ⟨?_, fun j hj => ?_⟩
  · rw [List.map_set, h.ads]
    exact List.set_getElem_self hi
  · by_cases e : i = j
    · subst e
      refine ⟨l0, k, T, ?_⟩
      rw [List.getElem?_set_self (by omega)]
      simp [List.getD_eq_getElem?_getD, List.getElem?_set_self (show i < ln.length by omega)]
    · obtain ⟨l0', k', T', q⟩ := h.at_ j hj
      refine ⟨l0', k', T', ?_⟩
      rw [List.getElem?_set_ne e, q]
      simp [List.getD_eq_getElem?_getD, List.getElem?_set_ne e]
/-- a tuple of a place and a number -/
abbrev tup2 (a b : Int) (ta tb : Tok) : Obj := { cls := .type "tuple", data := .seq #[.int a ta, .int b tb] }
def CutsIn (cv : List Value) (cuts : List (Nat × Int)) (news : List (Addr × Obj)) : Prop :=
  ∀ j (hj : j < cuts.length), ∃ t ta tb, cv[j]? = some (.ref t) ∧ (t, tup2 (cuts[j].1 : Int) cuts[j].2 ta tb) ∈ news
theorem CutsIn.mono {cv : List Value} {cuts : List (Nat × Int)} {a b : List (Addr × Obj)} (h : CutsIn cv cuts a) (hs : ∀ p ∈ a, p ∈ b) : CutsIn cv cuts b := fun j hj =>
  let ⟨t, ta, tb, e, m⟩ := h j hj; ⟨t, ta, tb, e, hs _ m⟩
theorem CutsIn.snoc {cv : List Value} {cuts : List (Nat × Int)} {a : List (Addr × Obj)} (h : CutsIn cv cuts a) (hl : cv.length = cuts.length) {t : Addr} {p : Nat} {r : Int} {ta tb : Tok} (hm : (t, tup2 (p : Int) r ta tb) ∈ a) :
    CutsIn (cv ++ [.ref t]) (cuts ++ [(p, r)]) a := fun j hj => by
  rcases Nat.lt_or_ge j cuts.length with h1 | h1
  · obtain ⟨t', ta', tb', e, m⟩ := h j h1
    refine ⟨t', ta', tb', ?_, ?_⟩
    · rw [List.getElem?_append_left (by omega)]; exact e
    · rw [List.getElem_append_left h1]; exact m
  · have hj' : j = cuts.length := by simp at hj; omega
    subst hj'
    refine ⟨t, ta, tb, ?_, ?_⟩
    · rw [List.getElem?_append_right (by omega), hl, Nat.sub_self]; rfl
    · rw [List.getElem_append_right (Nat.le_refl _)]; simpa using hm
theorem allLt_mem {d : Addr} : ∀ {l : List (Addr × Obj)}, AllLt d l → ∀ p ∈ l, p.1 < d
  | [], _, _, h => nomatch h
  | p :: r, x, q, h => by
    rcases List.mem_cons.mp h with e | h
    · rw [e]; exact x.1
    · exact allLt_mem x.2 q h
/-- what one side's lists hold -/
structure Val (P : Params) (ds : List Addr) (pls : List Nat) (n q b : Nat) (cuts : List (Nat × Int)) (ln : List Int) (av : List Bool) (vs : List Value) (nv : List Int) (tv lv cv vb : List Value) (ro fx : List (Addr × Obj)) : Prop where
  hll : ln.length = q
  hla : av.length = q
  hcn : ∀ c ∈ cuts, c.1 < 63
  hcl : cuts.length ≤ b
  hInx : IntsAre vs nv
  hok : NextOk nv av
  hItr : IntsAre tv (treeOf n cuts)
  hIle : IntsAre lv ln
  hBal : LSm.BoolsAre vb av
  hcv : cv.length = cuts.length
  hct : CutsIn cv cuts fx
  hro : RowD P ds pls ln ro
end Mine
end
/- Loops2 -/
section
open PySem PySem.W PyProof.Rows PySem.Calls PyProof.V PySem.Spec
set_option Elab.async false
set_option maxRecDepth 100000
set_option maxHeartbeats 8000000
namespace Mine
def SJ {σ : Type} (Led : σ → List (Addr × Obj)) (ps : σ → List (Str × Value)) (stored : List Str) (m₀ : Str → Option Value) (P : σ → Prop) (m : Str → Option Value) (nx : List (Addr × Obj)) : Prop :=
  ∃ c : σ, nx = Led c ∧ (∀ p ∈ ps c, m p.1 = some p.2) ∧ (∀ z, (∀ p ∈ ps c, z ≠ p.1) → stored.contains z = false → m z = m₀ z) ∧ P c
section
variable {prog : Program} {w : World} {A : Around} {E : Value → Shared → Prop} {s : Shared} {env : Env} {h₀ : Heap} {target : Expr} {body : List Stmt} {Q : Flow → Shared → Prop}

theorem lend_state {σ : Type} {Led : σ → List (Addr × Obj)} {ps : σ → List (Str × Value)} {stored : List Str} {m₀ m' : Str → Option Value} {P : σ → Prop} {L I : Addr} {it : Obj} {s₁ : Shared} {h' : Heap} {tk : Nat} {all : List (Addr × Obj)}
    (c : σ) (F : Fr h₀ L h' m') (N : News h₀ L h' all) (hI : (I, it) ∈ all) (sub : ∀ p ∈ Led c, p ∈ all) (hoff : ∀ p ∈ Led c, p.1 ≠ I)
    (hk : ∀ p ∈ ps c, m' p.1 = some p.2) (hr : ∀ z, (∀ p ∈ ps c, z ≠ p.1) → stored.contains z = false → m' z = m₀ z) (hp : P c) :
    LEnd h₀ L s₁ I it (SJ Led ps stored m₀ P) { s₁ with heap := h', toks := tk } :=
  ⟨h', tk, m', Led c, rfl, F, fun p hp => by
    rcases List.mem_cons.mp hp with rfl | hp
    · exact N _ hI
    · exact N _ (sub p hp), hoff, c, rfl, hk, hr, hp⟩
theorem rend_state {σ : Type} {Led : σ → List (Addr × Obj)} {ps : σ → List (Str × Value)} {stored : List Str} {m₀ m' : Str → Option Value} {P : σ → Prop} {L I : Addr} {it : Obj} {s₁ : Shared} {h' : Heap} {tk : Nat} {all : List (Addr × Obj)}
    (c : σ) (F : Fr h₀ L h' m') (N : News h₀ L h' all) (hI : (I, it) ∈ all) (sub : ∀ p ∈ Led c, p ∈ all) (hoff : ∀ p ∈ Led c, p.1 ≠ I)
    (hk : ∀ p ∈ ps c, m' p.1 = some p.2) (hr : ∀ z, (∀ p ∈ ps c, z ≠ p.1) → stored.contains z = false → m' z = m₀ z) (hp : P c) :
    UnrEnd h₀ L s₁ I it (SJ Led ps stored m₀ P) { s₁ with heap := h', toks := tk } :=
  ⟨h', tk, m', Led c, rfl, F, fun p hp => by
    rcases List.mem_cons.mp hp with rfl | hp
    · exact N _ hI
    · exact N _ (sub p hp), hoff, c, rfl, hk, hr, hp⟩

theorem list_state {σ : Type} {ax : Addr} {lo : Obj} {vs : List Value} {n : Nat} {m₀ : Str → Option Value}
    (Led : σ → List (Addr × Obj)) (ps : σ → List (Str × Value)) (stored : List Str) (P : Nat → σ → Prop) (c₀ : σ)
    (hh : A.handled = none) (F : Fr h₀ env.locals s.heap m₀) (N : News h₀ env.locals s.heap (Led c₀)) (hm : ∀ i c, P i c → (ax, lo) ∈ Led c) (hc : lo.cls = .type "list") (hd : lo.data = .seq vs.toArray n)
    (hk : ∀ p ∈ ps c₀, m₀ p.1 = some p.2) (hp : P 0 c₀)
    (turn : ∀ (i : Nat) v (c : σ) (u : Str → Option Value) (I : Addr) it h tk, vs[i]? = some v → (∀ p ∈ Led c₀, p.1 < I) → (∀ p ∈ Led c, p.1 ≠ I) → P i c → Fr h₀ env.locals h (kstB (fun z => if stored.contains z then u z else m₀ z) (ps c)) → News h₀ env.locals h ((I, it) :: Led c) →
      wpAny (model prog w) A (assign target env v) (fun _ s₂ => wpAny (model prog w) A (execs body env) (LPost h₀ env.locals { s with heap := h, toks := tk } I it (SJ Led ps stored m₀ (P (i + 1))) Q) E s₂) E { s with heap := h, toks := tk })
    (done : ∀ (c : σ) (u : Str → Option Value) h tk, P vs.length c → Fr h₀ env.locals h (kstB (fun z => if stored.contains z then u z else m₀ z) (ps c)) → News h₀ env.locals h (Led c) → Q .next { s with heap := h, toks := tk }) :
    wpAny (model prog w) A (pyIter (.ref ax)) (fun it s₂ => TurnsAt prog w A h₀ env target body Q E it s₂) E s := by
  refine list_turns (fun i => SJ Led ps stored m₀ (P i)) hh F N (hm 0 c₀ hp) hc hd ⟨c₀, rfl, hk, fun _ _ _ => rfl, hp⟩ (fun i m₁ news₁ hJ => ?_) ?_ ?_
  · obtain ⟨c, rfl, _, _, hP⟩ := hJ
    exact hm i c hP
  · rintro i v m₁ news₁ I it h tk hv hI hoff ⟨c, rfl, h1, h2, hP⟩ F₁ N₁
    exact turn i v c m₁ I it h tk hv hI hoff hP (ksw_fr h1 h2 F₁) N₁
  · rintro m₁ news₁ h tk ⟨c, rfl, h1, h2, hP⟩ F₁ N₁
    exact done c m₁ h tk hP (ksw_fr h1 h2 F₁) N₁
end
section
variable {prog : Program} {w : World} {A : Around} {E : Value → Shared → Prop} {s : Shared} {env : Env} {h₀ : Heap} {x : Str} {body : List Stmt} {Q : Flow → Shared → Prop}
/-- a range's loop: its own name is one of the stored -/
theorem range_state {σ : Type} {r : Addr} {a₀ b₀ : Int} {t₀ u₀ v₀ : Tok} {n : Nat} {m₀ : Str → Option Value}
    (Led : σ → List (Addr × Obj)) (ps : σ → List (Str × Value)) (stored : List Str) (P : Nat → σ → Prop) (c₀ : σ)
    (hh : A.handled = none) (hr : IsRange s.heap r a₀ b₀ 1 t₀ u₀ v₀) (hsmall : Builtin.Range.small a₀ b₀ 1 = true) (hn : Builtin.Range.rangeSize a₀ b₀ 1 = (n : Int))
    (F : Fr h₀ env.locals s.heap m₀) (N : News h₀ env.locals s.heap (Led c₀)) (hk : ∀ p ∈ ps c₀, m₀ p.1 = some p.2) (hp : P 0 c₀)
    (turn : ∀ (i : Nat) (t : Tok) (c : σ) (u : Str → Option Value) (I : Addr) it h tk, i < n → (∀ p ∈ Led c₀, p.1 < I) → (∀ p ∈ Led c, p.1 ≠ I) → P i c →
      Fr h₀ env.locals h (fun y => if y = x then some (.int (a₀ + (i : Int)) t) else kstB (fun z => if stored.contains z then u z else m₀ z) (ps c) y) → News h₀ env.locals h ((I, it) :: Led c) →
      wpAny (model prog w) A (execs body env) (UnrPost h₀ env.locals { s with heap := h, toks := tk } I it (SJ Led ps stored m₀ (P (i + 1))) Q) E { s with heap := h, toks := tk })
    (done : ∀ (c : σ) (u : Str → Option Value) h tk, P n c → Fr h₀ env.locals h (kstB (fun z => if stored.contains z then u z else m₀ z) (ps c)) → News h₀ env.locals h (Led c) → Q .next { s with heap := h, toks := tk }) :
    wpAny (model prog w) A (pyIter (.ref r)) (fun it s₂ => LoopAtV prog w A h₀ env x body Q E it s₂) E s := by
  refine range_turns (fun i => SJ Led ps stored m₀ (P i)) hh hr hsmall hn F N ⟨c₀, rfl, hk, fun _ _ _ => rfl, hp⟩ ?_ ?_
  · rintro i t m₁ news₁ I it h tk hi hI hoff ⟨c, rfl, h1, h2, hP⟩ F₁ N₁
    refine turn i t c m₁ I it h tk hi hI hoff hP ?_ N₁
    have e : (fun y => if y = x then some (Value.int (a₀ + (i : Int)) t) else kstB (fun z => if stored.contains z then m₁ z else m₀ z) (ps c) y) = fun y => if y = x then some (Value.int (a₀ + (i : Int)) t) else m₁ y := by
      funext y
      by_cases hy : y = x
      · rw [if_pos hy, if_pos hy]
      · rw [if_neg hy, if_neg hy]
        refine kstB_eq h1 fun hn => ?_
        show (if stored.contains y = true then m₁ y else m₀ y) = m₁ y
        cases h3 : stored.contains y with
        | true => simp
        | false => simp only [Bool.false_eq_true, if_false]; exact (h2 y hn h3).symm
    rw [e]; exact F₁
  · rintro m₁ news₁ h tk ⟨c, rfl, h1, h2, hP⟩ F₁ N₁
    exact done c m₁ h tk hP (ksw_fr h1 h2 F₁) N₁
end
end Mine
end
/- Rules -/
section
open PySem PySem.W PyProof.Rows PySem.Calls PyProof.V PySem.Spec
set_option Elab.async false
set_option maxRecDepth 100000
set_option maxHeartbeats 8000000
namespace Mine
/-- what the model's dict holds -/
abbrev modKv (pl le cu al : Addr) : List (Str × Value) := [(Str.ofString "places", .ref pl), (Str.ofString "lengths", .ref le), (Str.ofString "cuts", .ref cu), (Str.ofString "alive", .ref al)]
theorem range_size {b : Int} (hb : 0 ≤ b) : Builtin.Range.rangeSize 0 b 1 = (b.toNat : Int) := by
  unfold Builtin.Range.rangeSize
  rw [if_pos (by decide)]
  split <;> omega
theorem range_small {b : Int} (hb : 0 ≤ b) (hb2 : b ≤ 1000) : Builtin.Range.small 0 b 1 = true := by
  unfold Builtin.Range.small
  rw [range_size hb]
  have h : ∀ x : Int, 0 ≤ x → x ≤ 1000 → Builtin.Range.rangeFitsLong x = true := fun x h1 h2 => by
    unfold Builtin.Range.rangeFitsLong
    simp
    omega
  rw [h 0 (by omega) (by omega), h b hb hb2, h 1 (by omega) (by omega), h _ (by omega) (by omega), if_pos (by decide), h _ (by omega) (by omega)]
  simp
theorem range_size2 {a b : Int} (hb : a ≤ b) : Builtin.Range.rangeSize a b 1 = ((b - a).toNat : Int) := by
  unfold Builtin.Range.rangeSize
  rw [if_pos (by decide)]
  split <;> omega
theorem range_small2 {a b : Int} (ha : 0 ≤ a) (hab : a ≤ b) (hb2 : b ≤ 1000) : Builtin.Range.small a b 1 = true := by
  unfold Builtin.Range.small
  rw [range_size2 hab]
  have h : ∀ x : Int, 0 ≤ x → x ≤ 1000 → Builtin.Range.rangeFitsLong x = true := fun x h1 h2 => by
    unfold Builtin.Range.rangeFitsLong
    simp
    omega
  rw [h a (by omega) (by omega), h b (by omega) hb2, h 1 (by omega) (by omega), h _ (by omega) (by omega), if_pos (by decide), h _ (by omega) (by omega)]
  simp
section
variable {prog : Program} {w : World} {A : Around} {E : Value → Shared → Prop} {s : Shared} {h₀ : Heap} {L : Addr} {news : List (Addr × Obj)}
theorem at_item {value slice : PySem.Expr} {l : Addr} {vs : List Value} {n : Nat} {k : Int} {u : Tok} {v : Value} {Q : Value → Shared → Prop}
    (N : News h₀ L s.heap news) (hm : (l, listOf vs.toArray n) ∈ news) (h0 : 0 ≤ k) (hhi : k < 2 ^ 63) (hx : vs[k.toNat]? = some v) (h : Q v s)
    (hs : subscripted slice false (.ref l) (.int k u) = operate [.ref l, .int k u] (getItem (.ref l) (.int k u)) := by with_unfolding_all rfl) :
    wpAny (model prog w) A (subscriptTail value slice (.ref l) (.int k u)) Q E s :=
  have hl : s.heap.IsList l vs.toArray := ⟨_, (N _ hm).1, rfl, n, rfl⟩
  tail_any hl.typeIs slot_list_getitem.lookup (wpAny_getItem_list hl h0 hhi (by simpa using hx) h) hs
theorem size_item {value slice : PySem.Expr} {l : Addr} {q0 q1 : Int} {t0 t1 : Tok} {n : Nat} {k : Int} {u : Tok} {Q : Value → Shared → Prop}
    (N : News h₀ L s.heap news) (hm : (l, listOf #[.int q0 t0, .int q1 t1] n) ∈ news) (h0 : 0 ≤ k) (h1 : k < 2)
    (h : ∀ v t, v = (if k = 0 then q0 else q1) → Q (.int v t) s)
    (hs : subscripted slice false (.ref l) (.int k u) = operate [.ref l, .int k u] (getItem (.ref l) (.int k u)) := by with_unfolding_all rfl) :
    wpAny (model prog w) A (subscriptTail value slice (.ref l) (.int k u)) Q E s := by
  rcases (show k = 0 ∨ k = 1 by omega) with rfl | rfl
  · exact at_item N hm h0 (by omega) (show _ = some (Value.int q0 t0) from rfl) (h q0 t0 rfl) hs
  · exact at_item N hm h0 (by omega) (show _ = some (Value.int q1 t1) from rfl) (h q1 t1 rfl) hs
theorem bool_item {value slice : PySem.Expr} {l : Addr} {av : List Bool} {n : Nat} {k : Int} {u : Tok} {Q : Value → Shared → Prop}
    (N : News h₀ L s.heap news) (hm : (l, listOf (av.map Value.bool).toArray n) ∈ news) (h0 : 0 ≤ k) (h1 : k < av.length) (hz : av.length ≤ 64) (h : Q (.bool (av.getD k.toNat false)) s)
    (hs : subscripted slice false (.ref l) (.int k u) = operate [.ref l, .int k u] (getItem (.ref l) (.int k u)) := by with_unfolding_all rfl) :
    wpAny (model prog w) A (subscriptTail value slice (.ref l) (.int k u)) Q E s :=
  at_item N hm h0 (by omega) (by
    rw [List.getElem?_map, List.getD_eq_getElem?_getD, List.getElem?_eq_getElem (by omega)]; rfl) h hs
theorem len_at {l : Addr} {vs : List Value} {n k : Nat} {Q : Value → Shared → Prop} (N : News h₀ L s.heap news) (hm : (l, listOf vs.toArray n) ∈ news) (hn : vs.length = k) (hk : k ≤ 1000)
    (h : Q (.int (k : Int) (s.toks + 1)) { s with toks := s.toks + 1 + 1 }) : wpAny (model prog w) A (call (.builtin "len") [.ref l]) Q E s := by
  have hl : s.heap.IsList l vs.toArray := ⟨_, (N _ hm).1, rfl, n, rfl⟩
  refine call_len_list hl (by rw [List.size_toArray, hn]; omega) ?_
  rw [List.size_toArray, hn]; exact h
theorem copy_at {m : Str → Option Value} {l : Addr} {vs : List Value} {n : Nat} {Q : Value → Shared → Prop} (F : Fr h₀ L s.heap m) (N : News h₀ L s.heap news) (hm : (l, listOf vs.toArray n) ∈ news) (hz : vs.length ≤ 1000)
    (h : ∀ D c h', Fr h₀ L h' m → News h₀ L h' ((D, listOf vs.toArray c) :: news) → (∀ q ∈ news, q.1 < D) → Q (.ref D) { s with heap := h' }) :
    wpAny (model prog w) A (call (.type "list") [.ref l]) Q E s :=
  list_copyK F N ⟨_, (N _ hm).1, rfl, n, rfl⟩ h (by rw [List.size_toArray, sizeLine_eq]; omega)
theorem rep_list {m : Str → Option Value} {l : Addr} {v : Value} {n : Nat} {x : Int} {u : Tok} {Q : Value → Shared → Prop} (F : Fr h₀ L s.heap m) (N : News h₀ L s.heap news) (hm : (l, listOf #[v] n) ∈ news) (hx : 0 ≤ x) (hx2 : x ≤ 1000)
    (h : ∀ D h', Fr h₀ L h' m → News h₀ L h' ((D, listOf (List.replicate x.toNat v).toArray 0) :: news) → (∀ p ∈ news, p.1 < D) → Q (.ref D) { s with heap := h' }) :
    wpAny (model prog w) A (binaryOp .Mult (.ref l) (.int x u)) Q E s := by
  refine mul_list F N (N _ hm).1 (by omega) (by omega) (by show 1 * x.toNat ≤ _; omega) fun h' F' N' => ?_
  refine h _ h' F' ?_ fun p hp => Heap.lt_size (N p hp).1
  have e : List.foldl (fun x1 x2 => x1 ++ x2) #[] (List.replicate (if (#[v] : Array Value).isEmpty = true then 0 else x.toNat) #[v]) = (List.replicate x.toNat v).toArray := by
    rw [if_neg (by simp), listMul_foldl]
    simp
  rw [e] at N'
  exact N'
theorem range_list {m : Str → Option Value} {r : Addr} {b : Int} {t₀ u₀ v₀ : Tok} {Q : Value → Shared → Prop} (hh : A.handled = none) (F : Fr h₀ L s.heap m) (N : News h₀ L s.heap news) (hr : IsRange s.heap r 0 b 1 t₀ u₀ v₀) (hb : 0 ≤ b) (hb2 : b ≤ 1000)
    (h : ∀ D c h' tk ys, Fr h₀ L h' m → News h₀ L h' ((D, listOf ys.toArray c) :: news) → (∀ p ∈ news, p.1 < D) → IntsAre ys ((List.range b.toNat).map fun i : Nat => (i : Int)) → Q (.ref D) { s with heap := h', toks := tk }) :
    wpAny (model prog w) A (call (.type "list") [.ref r]) Q E s := by
  refine call_list_range (n := b.toNat) hh hr ?_ ?_ (by omega) fun h' tk acc c hk hS hI => ?_
  · exact range_small hb hb2
  · exact range_size hb
  · refine h _ c h' tk acc.toList (F.keeps hk) (news_pushed F N hk (by simpa using hS) rfl) (fun p hp => Heap.lt_size (N p hp).1) ?_
    have e : ((List.range b.toNat).map fun i : Nat => (i : Int)).map PyData.int = (rangeInts 0 1 b.toNat).map .int := by
      congr 1
      refine List.ext_getElem? fun i => ?_
      rcases Nat.lt_or_ge i b.toNat with h1 | h1
      · rw [rangeInts_get h1, List.getElem?_map, List.getElem?_range h1]
        simp
      · rw [List.getElem?_eq_none (by simp; omega), List.getElem?_eq_none (by rw [rangeInts_length]; exact h1)]
    refine IntsAre.ofCarried (e ▸ carriedAll_of_get _ _ (by simp [hI.1, rangeInts_length]) fun j v hv => ?_)
    have hv' : acc[j]? = some v := by simpa using hv
    obtain ⟨tk9, rfl⟩ := hI.2 j v hv'
    have hj : j < b.toNat := by
      have := (Array.getElem?_eq_some_iff.mp hv').1
      rw [hI.1] at this; exact this
    exact ⟨.int (0 + (j : Nat) * 1), by simp [rangeInts_get hj], .int _ _⟩
end
end Mine
end
/- Draw -/
section
open PySem PySem.W PyProof.Rows PySem.Calls PyProof.V PySem.Spec
set_option Elab.async false
set_option maxRecDepth 100000
set_option maxHeartbeats 8000000
set_option pp.deepTerms true
namespace Mine
example : (PySem.Challenge.rw_fe5001_01.Holds → True) ∧ hd.heap_39 = hd.heap_39 := by k_fill; exact ⟨fun _ => trivial, rfl⟩

abbrev boxO (sc : Addr) (p : Int) (tp : Tok) (a : Int) (ta : Tok) (n : Nat) : Obj := listOf #[.ref sc, .int p tp, .int a ta] n

theorem draw_ct0 {w : World} {mean : ExcName → Option Value} {mg mb : Str → Option Value}
    {dp un : Nat} {gd : Option (List Code)} {cn : Str} {cs : Scope} {ea : Addr} {ccd : Value} {cl : List (Str × Addr)} {outer : List Env}
    {A₀ : Around} {base h₀ : Heap} {L : Addr} {m : Str → Option Value} {s : Shared} {Q E : Value → Shared → Prop}
    {sc box : Addr} {vs : List Value} {ns : List Int} {p a z : Int} {tp ta tz : Tok} {n : Nat} {own : List (Addr × Obj)}
    (B : Below A₀ base outer h₀) (F : Fr h₀ L s.heap m) (X : (hd.heap_39 w.params).In h₀) (N : News h₀ L s.heap ((box, boxO sc p tp a ta n) :: own))
    (hoff : OwnOff own [box])
    (T : Top hd.view_39 (looseW hd.view_39 [Str.ofString "_Delimiter"]) mean mg mb h₀) (hk : cs.kind = .function)
    (hL : base.IsList sc vs.toArray) (hI : IntsAre vs ns) (hlen : ns.length ≤ 63)
    (hp : 0 ≤ p) (ha : 0 ≤ a) (ha2 : a < 2147483647) (hz : 0 < z) (hz2 : z < 1000)
    (hd : dp + 5 < recursionLimit) (hu : un + 50 < cLine)
    (hret : ∀ r t h' tk' p' tp' a' ta' n', 0 ≤ r → r < z → 0 ≤ p' → 0 ≤ a' → a' < 2147483647 → Fr h₀ L h' m → News h₀ L h' ((box, boxO sc p' tp' a' ta' n') :: own) → Q (.int r t) { s with heap := h', toks := tk' }) :
    wpAny (model PySem.Challenge.rw_fe5001_01.row.prog w) (ktrTop dp un gd cn cs L ea ccd cl outer) (call (.ref 139) [.ref box, .int z tz]) Q E s := by
  refine wpAny_call ?_
  k_dflt cell_enter
  k_steps
  all_goals (
    rename Fr h₀ L _ m => kF
    rename News h₀ L _ _ => kN
    refine hret _ _ _ _ _ _ _ _ _ ?_ ?_ ?_ ?_ ?_ kF kN
    · exact Int.fmod_nonneg_of_pos _ hz
    · exact Int.fmod_lt_of_pos _ hz
    · omega
    · exact Int.fmod_nonneg_of_pos _ (by decide)
    · exact Int.fmod_lt_of_pos _ (by decide))
theorem draw_ct {w : World} {mean : ExcName → Option Value} {mg mb : Str → Option Value}
    {dp un : Nat} {gd : Option (List Code)} {cn : Str} {cs : Scope} {ea : Addr} {ccd : Value} {cl : List (Str × Addr)} {outer : List Env}
    {A₀ : Around} {base h₀ : Heap} {L : Addr} {m : Str → Option Value} {s : Shared} {Q E : Value → Shared → Prop}
    {sc box : Addr} {vs : List Value} {ns : List Int} {p a z : Int} {tp ta tz : Tok} {n : Nat} {news : List (Addr × Obj)} {g : Obj → List (Addr × Obj)}
    (B : Below A₀ base outer h₀) (F : Fr h₀ L s.heap m) (X : (hd.heap_39 w.params).In h₀) (N : News h₀ L s.heap news)
    (U : UpdF box (boxO sc p tp a ta n) news g)
    (T : Top hd.view_39 (looseW hd.view_39 [Str.ofString "_Delimiter"]) mean mg mb h₀) (hk : cs.kind = .function)
    (hL : base.IsList sc vs.toArray) (hI : IntsAre vs ns) (hlen : ns.length ≤ 63)
    (hp : 0 ≤ p) (ha : 0 ≤ a) (ha2 : a < 2147483647) (hz : 0 < z) (hz2 : z < 1000)
    (hd : dp + 5 < recursionLimit) (hu : un + 50 < cLine)
    (hret : ∀ r t h' tk' p' tp' a' ta' n', 0 ≤ r → r < z → 0 ≤ p' → 0 ≤ a' → a' < 2147483647 → Fr h₀ L h' m → News h₀ L h' (g (boxO sc p' tp' a' ta' n')) → Q (.int r t) { s with heap := h', toks := tk' }) :
    wpAny (model PySem.Challenge.rw_fe5001_01.row.prog w) (ktrTop dp un gd cn cs L ea ccd cl outer) (call (.ref 139) [.ref box, .int z tz]) Q E s := by
  obtain ⟨own, hoff, e1, e2⟩ := updF_front U
  exact draw_ct0 B F X (News.re N fun p hp => (e1 p).mp hp) hoff T hk hL hI hlen hp ha ha2 hz hz2 hd hu
    fun r t h' tk' p' tp' a' ta' n' h1 h2 h3 h4 h5 F' N' => hret r t h' tk' p' tp' a' ta' n' h1 h2 h3 h4 h5 F' (News.re N' fun p hp => (e2 _ p).mp hp)
end Mine
end
/- Cur -/
section
open PySem PySem.W PyProof.Rows PySem.Calls PyProof.V PySem.Spec
set_option Elab.async false
set_option maxRecDepth 100000
set_option maxHeartbeats 8000000
set_option pp.deepTerms true
namespace Mine
local macro_rules | `(tactic| k_steps) => `(tactic| repeat' ((fail_if_success (with_reducible show wpAny _ _ (exec (Stmt.While _ _ _ _) _) _ _ _)); (fail_if_success (with_reducible show wpAny _ _ (exec (Stmt.For _ _ _ _ _) _) _ _ _)); first | (k_unfold; (try dsimp only)) | (k_end; wrow_close) | walk1 | (dsimp only; walk1) | (leave1; walk_say "STEP leave1"; (try dsimp only)) | fail "no step"))

theorem current_ct {w : World} {mean : ExcName → Option Value} {mg mb : Str → Option Value}
    {dp un : Nat} {gd : Option (List Code)} {cn : Str} {cs : Scope} {ea : Addr} {ccd : Value} {cl : List (Str × Addr)} {outer : List Env}
    {A₀ : Around} {base h₀ : Heap} {L : Addr} {m : Str → Option Value} {s : Shared} {Q E : Value → Shared → Prop}
    {news : List (Addr × Obj)} {ix dix tr nx x dx : Addr} {T1 T2 : Nat → Tok} {n1 n2 nt i : Nat} {tv : List Value} {tree : List Int} {l l0 k : Int}
    (B : Below A₀ base outer h₀) (F : Fr h₀ L s.heap m) (X : (hd.heap_39 w.params).In h₀) (N : News h₀ L s.heap news)
    (T : Top hd.view_39 (looseW hd.view_39 [Str.ofString "_Delimiter"]) mean mg mb h₀) (hk : cs.kind = .function)
    (m1 : (ix, instObj 128 dix) ∈ news) (m2 : (dix, idxO w.params tr nx T1 n1) ∈ news) (m3 : (tr, listOf tv.toArray nt) ∈ news) (I3 : IntsAre tv tree)
    (m4 : (x, instObj 72 dx) ∈ news) (m5 : (dx, delO w.params i l l0 k T2 n2) ∈ news)
    (hi1 : i + 1 < tree.length) (hlen : tree.length ≤ 64)
    (hd : dp + 5 < recursionLimit) (hu : un + 50 < cLine)
    (hret : ∀ t h' tk', Fr h₀ L h' m → News h₀ L h' news → Q (.int (i - qsum tree (i + 1)) t) { s with heap := h', toks := tk' }) :
    wpAny (model PySem.Challenge.rw_fe5001_01.row.prog w) (ktrTop dp un gd cn cs L ea ccd cl outer) (call (.ref 97) [.ref ix, .ref x]) Q E s := by
  refine wpAny_call ?_
  k_dflt cell_enter
  k_steps
  rename Fr _ _ _ _ => F1
  rename News _ _ _ _ => N1
  refine ksw_while (σ := Nat × Int × Tok × Tok) (fun _ => news) (fun c => [(Str.ofString "cursor", .int (c.1 : Int) c.2.2.1), (Str.ofString "total", .int c.2.1 c.2.2.2)]) (fun _ => True) []
    (fun c => c.1 ≤ i + 1 ∧ c.2.1 + qsum tree c.1 = qsum tree (i + 1)) (fun c => c.1) (i + 1, 0, _, _) F1 N1 trivial (all2 rfl rfl) ⟨by dsimp only; omega, by dsimp only; omega⟩ ?_
  rintro ⟨c, tot, tc, tt⟩ u h tk _ ⟨hc1, hc2⟩ F2 N2
  dsimp only at hc1 hc2 F2 N2
  k_steps
  · have hc : 0 < c := by omega
    have el := low_eq hc (by omega)
    have hl0 := low_pos hc (by omega)
    have hl1 := low_le hc (by omega)
    have es := qsum_step tree hc (by omega)
    rename Fr _ _ _ _ => F3
    rename News _ _ _ _ => N3
    dsimp only at F3
    refine ksw_end (c - low c, tot + tree.getD c 0, _, _) F3 N3 (fun _ h => h) trivial (all2 (Eq.trans rfl (congrArg (fun z => some (Value.int z _)) (show (c : Int) - Builtin.bitAnd (c : Int) (-(c : Int)) = ((c - low c : Nat) : Int) by rw [el]; omega))) rfl) (by
      intro z h2 _
      have a := h2 _ (List.Mem.head _)
      have b := h2 _ (List.Mem.tail _ (List.Mem.head _))
      dsimp only at a b
      simp only [kstB, if_neg a, if_neg b, List.contains_nil, Bool.false_eq_true, if_false]) ⟨by dsimp only; omega, by dsimp only; omega⟩ (by dsimp only; omega)
  · rename Fr h₀ L _ m => kF
    rename News h₀ L _ _ => kN
    have hc : c = 0 := by omega
    subst hc
    rw [qsum_zero] at hc2
    have e : tot = qsum tree (i + 1) := by omega
    rw [e]
    exact hret _ _ _ kF kN
end Mine
end
/- Find -/
section
open PySem PySem.W PyProof.Rows PySem.Calls PyProof.V PySem.Spec
set_option Elab.async false
set_option maxRecDepth 100000
set_option maxHeartbeats 8000000
set_option pp.deepTerms true
namespace Mine
local macro_rules | `(tactic| k_steps) => `(tactic| repeat' ((fail_if_success (with_reducible show wpAny _ _ (exec (Stmt.While _ _ _ _) _) _ _ _)); (fail_if_success (with_reducible show wpAny _ _ (exec (Stmt.For _ _ _ _ _) _) _ _ _)); first | (k_unfold; (try dsimp only)) | (k_end; wrow_close) | walk1 | (dsimp only; walk1) | (leave1; walk_say "STEP leave1"; (try dsimp only)) | fail "no step"))

local macro_rules | `(tactic| k_mem) => `(tactic| assumption)
theorem find_ct0 {w : World} {mean : ExcName → Option Value} {mg mb : Str → Option Value}
    {dp un : Nat} {gd : Option (List Code)} {cn : Str} {cs : Scope} {ea : Addr} {ccd : Value} {cl : List (Str × Addr)} {outer : List Env}
    {A₀ : Around} {base h₀ : Heap} {L : Addr} {m : Str → Option Value} {s : Shared} {Q E : Value → Shared → Prop}
    {own : List (Addr × Obj)} {ix dix tr nx : Addr} {T1 : Nat → Tok} {n1 nn o : Nat} {to : Tok} {vs : List Value} {nv : List Int} {al : List Bool}
    (B : Below A₀ base outer h₀) (F : Fr h₀ L s.heap m) (X : (hd.heap_39 w.params).In h₀) (N : News h₀ L s.heap ((nx, listOf vs.toArray nn) :: own))
    (hoff : OwnOff own [nx])
    (T : Top hd.view_39 (looseW hd.view_39 [Str.ofString "_Delimiter"]) mean mg mb h₀) (hk : cs.kind = .function)
    (m1 : (ix, instObj 128 dix) ∈ own) (m2 : (dix, idxO w.params tr nx T1 n1) ∈ own) (I3 : IntsAre vs nv)
    (hok : NextOk nv al) (ho : o ≤ al.length) (hlen : al.length ≤ 64)
    (hd : dp + 5 < recursionLimit) (hu : un + 50 < cLine)
    (hret : ∀ t h' tk' vs' nv', IntsAre vs' nv' → NextOk nv' al → Fr h₀ L h' m → News h₀ L h' ((nx, listOf vs'.toArray nn) :: own) → Q (.int (nextOf al o : Nat) t) { s with heap := h', toks := tk' }) :
    wpAny (model PySem.Challenge.rw_fe5001_01.row.prog w) (ktrTop dp un gd cn cs L ea ccd cl outer) (call (.ref 125) [.ref ix, .int (o : Int) to]) Q E s := by
  have hnl := hok.1
  refine wpAny_call ?_
  k_dflt cell_enter
  k_steps
  rename Fr _ _ _ _ => F1
  rename News _ _ _ _ => N1
  refine ksw_while (σ := Nat × Tok) (fun _ => (nx, listOf vs.toArray nn) :: own) (fun c => [(Str.ofString "root", .int (c.1 : Int) c.2)]) (fun _ => True) []
    (fun c => c.1 ≤ al.length ∧ nextOf al c.1 = nextOf al o) (fun c => al.length - c.1) (o, _) F1 N1 trivial (all1 rfl) ⟨ho, rfl⟩ ?_
  rintro ⟨r, tr9⟩ u h tk _ ⟨hr1, hr2⟩ F2 N2
  dsimp only at hr1 hr2 F2 N2
  k_steps
  · rename Fr _ _ _ _ => F3
    rename News _ _ _ _ => N3
    rename _ ≠ (r : Int) => hne
    rw [show ((r : Int).toNat) = r from rfl] at hne F3
    obtain ⟨p, hp, hp1, hp2, hp3⟩ := hok.step hr1 hne
    refine ksw_end (p, _) F3 N3 (fun _ h => h) trivial (all1 (Eq.trans rfl (congrArg (fun z => some (Value.int z _)) hp))) (by
      intro z h2 _
      have a := h2 _ (List.Mem.head _)
      dsimp only at a
      simp only [kstB, if_neg a, List.contains_nil, Bool.false_eq_true, if_false]) ⟨hp2, by dsimp only; omega⟩ (by dsimp only; omega)
  · rename _ = (r : Int) => heq
    rw [show ((r : Int).toNat) = r from rfl] at heq
    have hroot : r = nextOf al o := by rw [← hr2, hok.stop hr1 heq]
    refine ksw_while (σ := Nat × Tok × List Value × List Int) (fun c => (nx, listOf c.2.2.1.toArray nn) :: own) (fun c => [(Str.ofString "order", .int (c.1 : Int) c.2.1)]) (fun c => IntsAre c.2.2.1 c.2.2.2) [Str.ofString "parent"]
      (fun c => c.1 ≤ al.length ∧ nextOf al c.1 = nextOf al o ∧ NextOk c.2.2.2 al) (fun c => al.length - c.1) (o, _, vs, nv) F2 N2 I3 (all1 rfl) ⟨ho, rfl, hok⟩ ?_
    rintro ⟨q, tq, vs2, nv2⟩ u2 h2 tk2 I4 ⟨hq1, hq2, hq3⟩ F3 N3
    dsimp only at hq1 hq2 hq3 F3 N3 I4
    have hnl2 := hq3.1
    clear N1 N2 F1 F2 I3
    k_steps
    · rename Fr _ _ _ _ => F4
      rename News _ _ _ _ => N4
      rename _ ≠ (q : Int) => hne
      rename IntsAre (List.set _ _ _) _ => I5
      rw [show ((q : Int).toNat) = q from rfl] at hne F4 N4 I5
      obtain ⟨p, hp, hp1, hp2, hp3⟩ := hq3.step hq1 hne
      have hpr := hq3.press hq1 hne
      rw [hq2, ← hroot] at hpr
      refine ksw_end (p, _, vs2.set q (.int (r : Int) tr9), nv2.set q (r : Int)) F4 N4 (fun _ h => h) I5 (all1 (Eq.trans rfl (congrArg (fun z => some (Value.int z _)) hp))) (by
        intro z h2 h3
        have a := h2 _ (List.Mem.head _)
        dsimp only at a
        have b : z ≠ Str.ofString "parent" := by
          intro e; subst e; simp at h3
        simp only [kstB, if_neg a, if_neg b, h3, Bool.false_eq_true, if_false]) ⟨hp2, hp3.trans hq2, hpr⟩ (by dsimp only; omega)
    · rename Fr h₀ L _ m => kF
      rename News h₀ L _ _ => kN
      rw [hroot]
      exact hret _ _ _ _ _ I4 hq3 kF kN
theorem find_ct {w : World} {mean : ExcName → Option Value} {mg mb : Str → Option Value}
    {dp un : Nat} {gd : Option (List Code)} {cn : Str} {cs : Scope} {ea : Addr} {ccd : Value} {cl : List (Str × Addr)} {outer : List Env}
    {A₀ : Around} {base h₀ : Heap} {L : Addr} {m : Str → Option Value} {s : Shared} {Q E : Value → Shared → Prop}
    {news : List (Addr × Obj)} {g : Obj → List (Addr × Obj)} {ix dix tr nx : Addr} {T1 : Nat → Tok} {n1 nn : Nat} {z : Int} {to : Tok} {vs : List Value} {nv : List Int} {al : List Bool}
    (B : Below A₀ base outer h₀) (F : Fr h₀ L s.heap m) (X : (hd.heap_39 w.params).In h₀) (N : News h₀ L s.heap news)
    (U : UpdF nx (listOf vs.toArray nn) news g)
    (T : Top hd.view_39 (looseW hd.view_39 [Str.ofString "_Delimiter"]) mean mg mb h₀) (hk : cs.kind = .function)
    (m1 : (ix, instObj 128 dix) ∈ news) (m2 : (dix, idxO w.params tr nx T1 n1) ∈ news) (I3 : IntsAre vs nv)
    (hok : NextOk nv al) (hz : 0 ≤ z) (ho : z ≤ al.length) (hlen : al.length ≤ 64)
    (hd : dp + 5 < recursionLimit) (hu : un + 50 < cLine)
    (hret : ∀ t h' tk' vs' nv', IntsAre vs' nv' → NextOk nv' al → Fr h₀ L h' m → News h₀ L h' (g (listOf vs'.toArray nn)) → Q (.int (nextOf al z.toNat : Nat) t) { s with heap := h', toks := tk' }) :
    wpAny (model PySem.Challenge.rw_fe5001_01.row.prog w) (ktrTop dp un gd cn cs L ea ccd cl outer) (call (.ref 125) [.ref ix, .int z to]) Q E s := by
  obtain ⟨own, hoff, e1, e2⟩ := updF_front U
  obtain ⟨o, rfl⟩ := Int.eq_ofNat_of_zero_le hz
  exact find_ct0 B F X (News.re N fun p hp => (e1 p).mp hp) hoff T hk (tail_of_ne ((e1 _).mpr m1) inst_ne_list) (tail_of_ne ((e1 _).mpr m2) (fun e => list_ne_dict e.symm)) I3 hok (by omega) hlen hd hu
    fun t h' tk' vs' nv' I' ok' F' N' => hret t h' tk' vs' nv' I' ok' F' (News.re N' fun p hp => (e2 _ p).mp hp)
end Mine
end
/- Now -/
section
open PySem PySem.W PyProof.Rows PySem.Calls PyProof.V PySem.Spec
set_option Elab.async false
set_option maxRecDepth 100000
set_option maxHeartbeats 8000000
set_option pp.deepTerms true
set_option linter.unusedVariables false
namespace Mine
local macro_rules | `(tactic| k_steps) => `(tactic| repeat' ((fail_if_success (with_reducible show wpAny _ _ (exec (Stmt.While _ _ _ _) _) _ _ _)); (fail_if_success (with_reducible show wpAny _ _ (exec (Stmt.For _ _ _ _ _) _) _ _ _)); (fail_if_success (with_reducible show wpAny _ _ (pyIter (Value.ref _)) _ _ _)); first | (k_unfold; (try dsimp only)) | (k_end; wrow_close) | walk1 | (dsimp only; walk1) | (leave1; walk_say "STEP leave1"; (try dsimp only)) | fail "no step"))
local macro_rules | `(tactic| k_mem) => `(tactic| assumption)
local macro_rules | `(tactic| walk_at "subscriptTail") => `(tactic| (k_here; (with_reducible show wpAny _ _ (subscriptTail _ _ (Value.ref _) (Value.str _ _)) _ _ _); k_dflt (refine' kda_item (knd := PySem.strKind _ _) ?N ?p ?d (strKind_is _ _ _ _) ?l ?_; (case N => k_asm); (case p => k_mem); (case d => assumption); (case l => rfl); k_whole)))
theorem now_ct {w : World} {mean : ExcName → Option Value} {mg mb : Str → Option Value}
    {dp un : Nat} {gd : Option (List Code)} {cn : Str} {cs : Scope} {ea : Addr} {ccd : Value} {cl : List (Str × Addr)} {outer : List Env}
    {A₀ : Around} {base h₀ : Heap} {L : Addr} {m : Str → Option Value} {s : Shared} {Q E : Value → Shared → Prop}
    {news : List (Addr × Obj)} {md pl le cu al : Addr} {om : Obj} {n2 n3 : Nat} {pv cv : List Value} {pls : List Int} {cuts : List (Nat × Int)} {z : Int} {tz : Tok} {i : Nat}
    (B : Below A₀ base outer h₀) (F : Fr h₀ L s.heap m) (X : (hd.heap_39 w.params).In h₀)
    (T : Top hd.view_39 (looseW hd.view_39 [Str.ofString "_Delimiter"]) mean mg mb h₀) (hk : cs.kind = .function)
    (N : News h₀ L s.heap news)
    (m1 : (md, om) ∈ news) (hom : om.IsDictOf (PySem.strKind PySem.Challenge.rw_fe5001_01.row.prog w) (modKv pl le cu al)) (m2 : (pl, listOf pv.toArray n2) ∈ news) (I2 : IntsAre pv pls) (m3 : (cu, listOf cv.toArray n3) ∈ news)
    (hcv : cv.length = cuts.length) (hct : CutsIn cv cuts news)
    (hz : 0 ≤ z) (hz1 : z < pls.length) (hpl : pls.getD z.toNat 0 = (i : Int)) (hlen : pls.length ≤ 64)
    (hd : dp + 5 < recursionLimit) (hu : un + 50 < cLine)
    (hret : ∀ t h' tk', Fr h₀ L h' m → News h₀ L h' news → Q (.int (i - cutSum cuts i) t) { s with heap := h', toks := tk' }) :
    wpAny (model PySem.Challenge.rw_fe5001_01.row.prog w) (ktrTop dp un gd cn cs L ea ccd cl outer) (call (.ref 160) [.ref md, .int z tz]) Q E s := by
  refine wpAny_call ?_
  k_dflt cell_enter
  k_steps
  rename Fr _ _ _ _ => F1
  refine For_turns F1 ?_
  k_steps
  rename Fr _ _ _ _ => F1
  rename News _ _ _ _ => N1
  refine list_state (σ := Int × Tok) (fun _ => news) (fun c => [(Str.ofString "total", .int c.1 c.2)]) [Str.ofString "at", Str.ofString "removed"] (fun j c => c.1 = cutSum (cuts.take j) i) (0, _) rfl F1 N1 (fun _ _ _ => m3) rfl rfl (all1 rfl) rfl ?_ ?_
  · rintro j v ⟨tot, tt⟩ u I it h tk hv hI hoff hP F2 N2
    dsimp only at hP F2
    have hj : j < cuts.length := by rw [← hcv]; exact (List.getElem?_eq_some_iff.mp hv).1
    obtain ⟨t, ta, tb, e1, m6⟩ := hct j hj
    rw [e1] at hv
    obtain rfl := Option.some.inj hv
    k_steps
    all_goals (
      (try rename (_ : Int) ≤ _ => hc)
      (try rename ¬ ((_ : Int) ≤ _) => hc)
      rename Fr _ _ _ _ => F3
      rename News _ _ _ _ => N3
      rw [hpl] at hc
      have es := cutSum_take cuts i hj)
    · refine lend_state (tot + cuts[j].2, _) F3 N3 (.head _) (fun p hp => .tail _ hp) hoff (all1 rfl) (by
        intro z h2 h3
        have a := h2 _ (List.Mem.head _)
        dsimp only at a
        have b : z ≠ Str.ofString "removed" := by intro e; subst e; simp at h3
        have c : z ≠ Str.ofString "at" := by intro e; subst e; simp at h3
        simp only [kstB, if_neg a, if_neg b, if_neg c, h3, Bool.false_eq_true, if_false]) ?_
      dsimp only
      rw [es, if_pos (by omega), hP]
    · refine lend_state (tot, _) F3 N3 (.head _) (fun p hp => .tail _ hp) hoff (all1 rfl) (by
        intro z h2 h3
        have a := h2 _ (List.Mem.head _)
        dsimp only at a
        have b : z ≠ Str.ofString "removed" := by intro e; subst e; simp at h3
        have c : z ≠ Str.ofString "at" := by intro e; subst e; simp at h3
        simp only [kstB, if_neg a, if_neg b, if_neg c, h3, Bool.false_eq_true, if_false]) ?_
      dsimp only
      rw [es, if_neg (by omega), hP, Int.add_zero]
  · rintro ⟨tot, tt⟩ u h tk hP F2 N2
    dsimp only at hP F2
    k_steps
    rename Fr h₀ L _ m => kF
    rename News h₀ L _ _ => kN
    rw [hcv, List.take_length] at hP
    rw [hpl, hP]
    exact hret _ _ _ kF kN
end Mine
end
/- Next -/
section
open PySem PySem.W PyProof.Rows PySem.Calls PyProof.V PySem.Spec
set_option Elab.async false
set_option maxRecDepth 100000
set_option maxHeartbeats 8000000
set_option pp.deepTerms true
set_option linter.unusedVariables false
namespace Mine
local macro_rules | `(tactic| k_steps) => `(tactic| repeat' ((fail_if_success (with_reducible show wpAny _ _ (exec (Stmt.While _ _ _ _) _) _ _ _)); (fail_if_success (with_reducible show wpAny _ _ (exec (Stmt.For _ _ _ _ _) _) _ _ _)); (fail_if_success (with_reducible show wpAny _ _ (pyIter (Value.ref _)) _ _ _)); first | (k_unfold; (try dsimp only)) | (k_end; wrow_close) | walk1 | (dsimp only; walk1) | (leave1; walk_say "STEP leave1"; (try dsimp only)) | fail "no step"))
local macro_rules | `(tactic| k_mem) => `(tactic| assumption)
local macro_rules | `(tactic| walk_at "subscriptTail") => `(tactic| (k_here; (with_reducible show wpAny _ _ (subscriptTail _ _ (Value.ref _) (Value.str _ _)) _ _ _); k_dflt (refine' kda_item (knd := PySem.strKind _ _) ?N ?p ?d (strKind_is _ _ _ _) ?l ?_; (case N => k_asm); (case p => k_mem); (case d => assumption); (case l => rfl); k_whole)))
theorem next_ct {w : World} {mean : ExcName → Option Value} {mg mb : Str → Option Value}
    {dp un : Nat} {gd : Option (List Code)} {cn : Str} {cs : Scope} {ea : Addr} {ccd : Value} {cl : List (Str × Addr)} {outer : List Env}
    {A₀ : Around} {base h₀ : Heap} {L : Addr} {m : Str → Option Value} {s : Shared} {Q E : Value → Shared → Prop}
    {news : List (Addr × Obj)} {md pl le cu al : Addr} {om : Obj} {n2 : Nat} {vb : List Value} {av : List Bool} {z : Int} {tz : Tok}
    (B : Below A₀ base outer h₀) (F : Fr h₀ L s.heap m) (X : (hd.heap_39 w.params).In h₀)
    (T : Top hd.view_39 (looseW hd.view_39 [Str.ofString "_Delimiter"]) mean mg mb h₀) (hk : cs.kind = .function)
    (N : News h₀ L s.heap news)
    (m1 : (md, om) ∈ news) (hom : om.IsDictOf (PySem.strKind PySem.Challenge.rw_fe5001_01.row.prog w) (modKv pl le cu al)) (m2 : (al, listOf vb.toArray n2) ∈ news) (hb : LSm.BoolsAre vb av)
    (hz : 0 ≤ z) (hz1 : z ≤ av.length) (hlen : av.length ≤ 64)
    (hd : dp + 5 < recursionLimit) (hu : un + 50 < cLine)
    (hret : ∀ t h' tk', Fr h₀ L h' m → News h₀ L h' news → Q (.int (nextOf av z.toNat : Nat) t) { s with heap := h', toks := tk' }) :
    wpAny (model PySem.Challenge.rw_fe5001_01.row.prog w) (ktrTop dp un gd cn cs L ea ccd cl outer) (call (.ref 167) [.ref md, .int z tz]) Q E s := by
  obtain ⟨o, rfl⟩ := Int.eq_ofNat_of_zero_le hz
  refine wpAny_call ?_
  k_dflt cell_enter
  k_steps
  rename Fr _ _ _ _ => F1
  rename News _ _ _ _ => N1
  refine ksw_while (σ := Nat × Tok) (fun _ => news) (fun c => [(Str.ofString "k", .int (c.1 : Int) c.2)]) (fun _ => True) []
    (fun c => c.1 ≤ av.length ∧ nextOf av c.1 = nextOf av o) (fun c => av.length - c.1) (o, _) F1 N1 trivial (all1 rfl) ⟨by omega, rfl⟩ ?_
  rintro ⟨r, tr9⟩ u h tk _ ⟨hr1, hr2⟩ F2 N2
  dsimp only at hr1 hr2 F2 N2
  k_steps
  · rename Fr h₀ L _ m => kF
    rename News h₀ L _ _ => kN
    rename _ = true => ha
    rw [show ((r : Int).toNat) = r from rfl] at ha
    rw [nextOf_live ha] at hr2
    rw [hr2]
    exact hret _ _ _ kF kN
  · rename Fr _ _ _ _ => F3
    rename News _ _ _ _ => N3
    rename _ = false => ha
    rename (r : Int) < _ => hlt
    rw [show ((r : Int).toNat) = r from rfl] at ha
    have hd9 := nextOf_dead (by omega) ha
    refine ksw_end (r + 1, _) F3 N3 (fun _ h => h) trivial (all1 (Eq.trans rfl (congrArg (fun z => some (Value.int z _)) (show (r : Int) + 1 = ((r + 1 : Nat) : Int) from rfl)))) (by
      intro z h2 _
      have a := h2 _ (List.Mem.head _)
      dsimp only at a
      simp only [kstB, if_neg a, List.contains_nil, Bool.false_eq_true, if_false]) ⟨by dsimp only; omega, hd9.symm.trans hr2⟩ (by dsimp only; omega)
  · rename Fr h₀ L _ m => kF
    rename News h₀ L _ _ => kN
    rename ¬ ((r : Int) < _) => hge
    have e : r = nextOf av o := by rw [← hr2, nextOf_big (by omega)]
    have e2 : ((o : Int).toNat) = o := rfl
    rw [e]
    exact hret _ _ _ kF kN
end Mine
end
/- Coll -/
section
open PySem PySem.W PyProof.Rows PySem.Calls PyProof.V PySem.Spec
set_option Elab.async false
set_option maxRecDepth 100000
set_option maxHeartbeats 8000000
set_option pp.deepTerms true
set_option linter.unusedVariables false
namespace Mine
local macro_rules | `(tactic| k_steps) => `(tactic| repeat' ((fail_if_success (with_reducible show wpAny _ _ (exec (Stmt.While _ _ _ _) _) _ _ _)); (fail_if_success (with_reducible show wpAny _ _ (exec (Stmt.For _ _ _ _ _) _) _ _ _)); (fail_if_success (with_reducible show wpAny _ _ (pyIter (Value.ref _)) _ _ _)); first | (k_unfold; (try dsimp only)) | (k_end; wrow_close) | walk1 | (dsimp only; walk1) | (leave1; walk_say "STEP leave1"; (try dsimp only)) | fail "no step"))
local macro_rules | `(tactic| k_mem) => `(tactic| assumption)
theorem coll_ct0 {w : World} {mean : ExcName → Option Value} {mg mb : Str → Option Value}
    {dp un : Nat} {gd : Option (List Code)} {cn : Str} {cs : Scope} {ea : Addr} {ccd : Value} {cl : List (Str × Addr)} {outer : List Env}
    {A₀ : Around} {base h₀ : Heap} {L : Addr} {m : Str → Option Value} {s : Shared} {Q E : Value → Shared → Prop}
    {own : List (Addr × Obj)} {ix dix tr nx x dx : Addr} {T1 T2 : Nat → Tok} {n1 n2 nt i : Nat} {tv : List Value} {tree : List Int} {l l0 k r : Int} {tr9 : Tok}
    (B : Below A₀ base outer h₀) (F : Fr h₀ L s.heap m) (X : (hd.heap_39 w.params).In h₀)
    (T : Top hd.view_39 (looseW hd.view_39 [Str.ofString "_Delimiter"]) mean mg mb h₀) (hk : cs.kind = .function)
    (N : News h₀ L s.heap ((tr, listOf tv.toArray nt) :: own)) (hoff : OwnOff own [tr])
    (m1 : (ix, instObj 128 dix) ∈ own) (m2 : (dix, idxO w.params tr nx T1 n1) ∈ own) (I3 : IntsAre tv tree)
    (m4 : (x, instObj 72 dx) ∈ own) (m5 : (dx, delO w.params i l l0 k T2 n2) ∈ own)
    (hi1 : i + 1 < tree.length) (hlen : tree.length ≤ 64)
    (hd : dp + 5 < recursionLimit) (hu : un + 50 < cLine)
    (hret : ∀ h' tk' tv', IntsAre tv' (addCh (uchn tree.length (i + 1)) tree r) → Fr h₀ L h' m → News h₀ L h' ((tr, listOf tv'.toArray nt) :: own) → Q .none { s with heap := h', toks := tk' }) :
    wpAny (model PySem.Challenge.rw_fe5001_01.row.prog w) (ktrTop dp un gd cn cs L ea ccd cl outer) (call (.ref 104) [.ref ix, .ref x, .int r tr9]) Q E s := by
  refine wpAny_call ?_
  k_dflt cell_enter
  k_steps
  · rename Fr _ _ _ _ => F1
    rename News _ _ _ _ => N1
    refine ksw_while (σ := Nat × Tok × List Value × List Int) (fun c => (tr, listOf c.2.2.1.toArray nt) :: own) (fun c => [(Str.ofString "cursor", .int (c.1 : Int) c.2.1)]) (fun c => IntsAre c.2.2.1 c.2.2.2) []
      (fun c => 0 < c.1 ∧ c.2.2.2.length = tree.length ∧ addCh (uchn tree.length c.1) c.2.2.2 r = addCh (uchn tree.length (i + 1)) tree r) (fun c => tree.length - c.1) (i + 1, _, tv, tree) F1 N1 I3 (all1 rfl) ⟨by dsimp only; omega, rfl, rfl⟩ ?_
    rintro ⟨c, tc, tv2, tree2⟩ u h tk I4 ⟨hc1, hc2, hc3⟩ F2 N2
    dsimp only at hc1 hc2 hc3 F2 N2 I4
    clear F1 N1 I3
    k_steps
    · rename Fr _ _ _ _ => F3
      rename News _ _ _ _ => N3
      rename (c : Int) < _ => hlt
      rename IntsAre (List.set _ _ _) _ => I5
      rw [show ((c : Int).toNat) = c from rfl] at N3 I5
      have el := low_eq hc1 (by omega)
      have hl0 := low_pos hc1 (by omega)
      refine ksw_end (c + low c, _, _, addAt r tree2 c) F3 N3 (fun _ h => h) I5 (all1 (Eq.trans rfl (congrArg (fun z => some (Value.int z _)) (show (c : Int) + Builtin.bitAnd (c : Int) (-(c : Int)) = ((c + low c : Nat) : Int) by rw [el]; omega)))) (by
        intro z h2 _
        have a := h2 _ (List.Mem.head _)
        dsimp only at a
        simp only [kstB, if_neg a, List.contains_nil, Bool.false_eq_true, if_false]) ⟨by dsimp only; omega, by dsimp only; rw [addAt_length]; exact hc2, ?_⟩ (by dsimp only; omega)
      dsimp only
      rw [← hc3, uchn_step hc1 (by omega) hlen]
      rfl
    · rename Fr h₀ L _ m => kF
      rename News h₀ L _ _ => kN
      rename ¬ ((c : Int) < _) => hge
      rw [uchn_end hc1 (by omega)] at hc3
      have e : tree2 = addCh (uchn tree.length (i + 1)) tree r := hc3
      rw [e] at I4
      exact hret _ _ _ I4 kF kN
  · rename Fr h₀ L _ m => kF
    rename News h₀ L _ _ => kN
    rename r = 0 => hr
    subst hr
    exact hret _ _ _ (by rw [addCh_zero]; exact I3) kF kN
theorem coll_ct {w : World} {mean : ExcName → Option Value} {mg mb : Str → Option Value}
    {dp un : Nat} {gd : Option (List Code)} {cn : Str} {cs : Scope} {ea : Addr} {ccd : Value} {cl : List (Str × Addr)} {outer : List Env}
    {A₀ : Around} {base h₀ : Heap} {L : Addr} {m : Str → Option Value} {s : Shared} {Q E : Value → Shared → Prop}
    {news : List (Addr × Obj)} {g : Obj → List (Addr × Obj)} {ix dix tr nx x dx : Addr} {T1 T2 : Nat → Tok} {n1 n2 nt i : Nat} {tv : List Value} {tree : List Int} {l l0 k r : Int} {tr9 : Tok}
    (B : Below A₀ base outer h₀) (F : Fr h₀ L s.heap m) (X : (hd.heap_39 w.params).In h₀)
    (T : Top hd.view_39 (looseW hd.view_39 [Str.ofString "_Delimiter"]) mean mg mb h₀) (hk : cs.kind = .function)
    (N : News h₀ L s.heap news) (U : UpdF tr (listOf tv.toArray nt) news g)
    (m1 : (ix, instObj 128 dix) ∈ news) (m2 : (dix, idxO w.params tr nx T1 n1) ∈ news) (I3 : IntsAre tv tree)
    (m4 : (x, instObj 72 dx) ∈ news) (m5 : (dx, delO w.params i l l0 k T2 n2) ∈ news)
    (hi1 : i + 1 < tree.length) (hlen : tree.length ≤ 64)
    (hd : dp + 5 < recursionLimit) (hu : un + 50 < cLine)
    (hret : ∀ h' tk' tv', IntsAre tv' (addCh (uchn tree.length (i + 1)) tree r) → Fr h₀ L h' m → News h₀ L h' (g (listOf tv'.toArray nt)) → Q .none { s with heap := h', toks := tk' }) :
    wpAny (model PySem.Challenge.rw_fe5001_01.row.prog w) (ktrTop dp un gd cn cs L ea ccd cl outer) (call (.ref 104) [.ref ix, .ref x, .int r tr9]) Q E s := by
  obtain ⟨own, hoff, e1, e2⟩ := updF_front U
  exact coll_ct0 B F X T hk (News.re N fun p hp => (e1 p).mp hp) hoff (tail_of_ne ((e1 _).mpr m1) inst_ne_list) (tail_of_ne ((e1 _).mpr m2) (fun e => list_ne_dict e.symm)) I3 (tail_of_ne ((e1 _).mpr m4) inst_ne_list) (tail_of_ne ((e1 _).mpr m5) (fun e => list_ne_dict e.symm)) hi1 hlen hd hu
    fun h' tk' tv' I' F' N' => hret h' tk' tv' I' F' (News.re N' fun p hp => (e2 _ p).mp hp)
end Mine
end
/- NewDel -/
section
open PySem PySem.W PyProof.Rows PySem.Calls PyProof.V PySem.Spec
set_option Elab.async false
set_option maxRecDepth 100000
set_option maxHeartbeats 8000000
set_option pp.deepTerms true
set_option linter.unusedVariables false
namespace Mine
local macro_rules | `(tactic| k_steps) => `(tactic| repeat' ((fail_if_success (with_reducible show wpAny _ _ (exec (Stmt.While _ _ _ _) _) _ _ _)); (fail_if_success (with_reducible show wpAny _ _ (exec (Stmt.For _ _ _ _ _) _) _ _ _)); (fail_if_success (with_reducible show wpAny _ _ (pyIter (Value.ref _)) _ _ _)); first | (k_unfold; (try dsimp only)) | (k_end; wrow_close) | walk1 | (dsimp only; walk1) | (leave1; walk_say "STEP leave1"; (try dsimp only)) | fail "no step"))
local macro_rules | `(tactic| k_mem) => `(tactic| assumption)
local macro_rules | `(tactic| k_room) => `(tactic| ktr_room)
local macro_rules | `(tactic| k_enter) => `(tactic| (refine' code_def ?k1 ?k2 ?k3 ?k4 ?k5 ?kA ?kF ?kK ?k6 ?k7 ?k8 ?k9 ?kB ?_ ?c2 ?c3 ?c4 ?c5; (case kA => exact rfl); (case kF => exact rfl); (case kK => first | exact rfl | assumption); (case k1 => k_asm); (case k2 => k_asm); (case k3 => k_asm); (case k4 => k_asm); (case k5 => k_asm); (case k6 => k_is); (case k7 => k_is); (case k8 => ktr_room); (case k9 => first | exact BindsTo.of_eq rfl | exact binds_K (by k_in) rfl (by k_is) rfl rfl rfl); (case c5 => decide); (case kB => exact locs rfl); (case c2 => exact rfl); (case c3 => exact rfl); (case c4 => exact rfl); k_whole; intro g' L' h' FG' F' N' B' X' T'; (try dsimp only); (try k_lift B'); (try k_fold)))
theorem newdel_ct {w : World} {mean : ExcName → Option Value} {mg mb : Str → Option Value}
    {dp un : Nat} {gd : Option (List Code)} {cn : Str} {cs : Scope} {ea : Addr} {ccd : Value} {cl : List (Str × Addr)} {outer : List Env}
    {A₀ : Around} {base h₀ : Heap} {L : Addr} {m : Str → Option Value} {s : Shared} {Q E : Value → Shared → Prop}
    {i l k : Int} {ti tl tk0 tm tl2 : Tok} {own : List (Addr × Obj)}
    (B : Below A₀ base outer h₀) (F : Fr h₀ L s.heap m) (X : (hd.heap_39 w.params).In h₀)
    (T : Top hd.view_39 (looseW hd.view_39 [Str.ofString "_Delimiter"]) mean mg mb h₀) (hk : cs.kind = .function)
    (N : News h₀ L s.heap own)
    (hd : dp + 8 < recursionLimit) (hu : un + 100 < cLine)
    (hret : ∀ x dx h' tk' T, Fr h₀ L h' m → News h₀ L h' ((x, instObj 72 dx) :: (dx, delO w.params i l l k T 7) :: own) → (∀ p ∈ own, p.1 < dx) → dx < x → Q (.ref x) { s with heap := h', toks := tk' }) :
    wpAny (model PySem.Challenge.rw_fe5001_01.row.prog w) (ktrTop dp un gd cn cs L ea ccd cl outer) (call (.ref 72) [.int i ti, .str (Str.ofString "*") tm, .int l tl, .bool true, .bool true, .int l tl2, .int k tk0]) Q E s := by
  k_steps
  rename Fr h₀ L _ m => kF
  rename News h₀ L _ _ => kN
  rename ∀ p ∈ own, p.1 < _ => l1
  rename @LT.lt Nat _ _ _ => l2
  exact hret _ _ _ _ (tokF [_, _, _, _, _, _, _, ti, tm, tl, tl2, tk0]) kF kN l1 l2
end Mine
end
/- NewIdx -/
section
open PySem PySem.W PyProof.Rows PySem.Calls PyProof.V PySem.Spec
set_option Elab.async false
set_option maxRecDepth 100000
set_option maxHeartbeats 8000000
set_option pp.deepTerms true
set_option linter.unusedVariables false
namespace Mine
local macro_rules | `(tactic| k_steps) => `(tactic| repeat' ((fail_if_success (with_reducible show wpAny _ _ (exec (Stmt.While _ _ _ _) _) _ _ _)); (fail_if_success (with_reducible show wpAny _ _ (exec (Stmt.For _ _ _ _ _) _) _ _ _)); (fail_if_success (with_reducible show wpAny _ _ (pyIter (Value.ref _)) _ _ _)); first | (k_unfold; (try dsimp only)) | (k_end; wrow_close) | walk1 | (dsimp only; walk1) | (leave1; walk_say "STEP leave1"; (try dsimp only)) | fail "no step"))
local macro_rules | `(tactic| k_mem) => `(tactic| assumption)
local macro_rules | `(tactic| k_room) => `(tactic| ktr_room)
local macro_rules | `(tactic| k_enter) => `(tactic| (refine' code_def ?k1 ?k2 ?k3 ?k4 ?k5 ?kA ?kF ?kK ?k6 ?k7 ?k8 ?k9 ?kB ?_ ?c2 ?c3 ?c4 ?c5; (case kA => exact rfl); (case kF => exact rfl); (case kK => first | exact rfl | assumption); (case k1 => k_asm); (case k2 => k_asm); (case k3 => k_asm); (case k4 => k_asm); (case k5 => k_asm); (case k6 => k_is); (case k7 => k_is); (case k8 => ktr_room); (case k9 => first | exact BindsTo.of_eq rfl | exact binds_K (by k_in) rfl (by k_is) rfl rfl rfl); (case c5 => decide); (case kB => exact locs rfl); (case c2 => exact rfl); (case c3 => exact rfl); (case c4 => exact rfl); k_whole; intro g' L' h' FG' F' N' B' X' T'; (try dsimp only); (try k_lift B'); (try k_fold)))
local macro_rules | `(tactic| walk_at "call builtin:len") => `(tactic| (k_here; (with_reducible show wpAny _ _ (call (Value.builtin _) [Value.ref _]) _ _ _); k_dflt (refine' len_at ?N ?p ?l ?z ?_; (case N => k_asm); (case p => k_mem); (case l => first | assumption | exact List.length_map ..); (case z => omega); k_whole)))
local macro_rules | `(tactic| walk_at "binaryOp Mult ref int") => `(tactic| (k_here; (with_reducible show wpAny _ _ (binaryOp Operator.Mult (Value.ref _) (Value.int _ _)) _ _ _); k_dflt (refine' rep_list ?F ?N ?p ?a ?b ?_; (case F => k_asm); (case N => k_asm); (case p => k_mem); (case a => omega); (case b => omega); k_whole); intro D' h' F' N' l1; (try k_lt l1); (try k_sweep)))
local macro_rules | `(tactic| walk_at "call type:list") => `(tactic| (k_here; (with_reducible show wpAny _ _ (call (Value.type _) [Value.ref _]) _ _ _); k_dflt (refine' range_list ?hh ?F ?N ?r ?a ?b ?_; (case hh => exact rfl); (case F => k_asm); (case N => k_asm); (case r => assumption); (case a => omega); (case b => omega); k_whole); intro D' c' h' tk' ys' F' N' l1 I'; (try k_lt l1); (try k_sweep)))
theorem skip3 {α : Type} {a b g : α} {l : List α} : ∀ p ∈ a :: b :: l, p ∈ a :: b :: g :: l := fun p hp => by
  rcases List.mem_cons.mp hp with h | h
  · rw [h]; exact .head _
  · rcases List.mem_cons.mp h with h | h
    · rw [h]; exact .tail _ (.head _)
    · exact .tail _ (.tail _ (.tail _ h))
theorem newidx_ct {w : World} {mean : ExcName → Option Value} {mg mb : Str → Option Value}
    {dp un : Nat} {gd : Option (List Code)} {cn : Str} {cs : Scope} {ea : Addr} {ccd : Value} {cl : List (Str × Addr)} {outer : List Env}
    {A₀ : Around} {base h₀ : Heap} {L : Addr} {m : Str → Option Value} {s : Shared} {Q E : Value → Shared → Prop}
    {lst : Addr} {lv : List Value} {nl q : Nat} {p : Int} {tp : Tok} {own : List (Addr × Obj)}
    (B : Below A₀ base outer h₀) (F : Fr h₀ L s.heap m) (X : (hd.heap_39 w.params).In h₀)
    (T : Top hd.view_39 (looseW hd.view_39 [Str.ofString "_Delimiter"]) mean mg mb h₀) (hk : cs.kind = .function)
    (N : News h₀ L s.heap own) (m1 : (lst, listOf lv.toArray nl) ∈ own) (hq : lv.length = q) (hq2 : q ≤ 64) (hp : 0 ≤ p) (hp2 : p < 64)
    (hd : dp + 8 < recursionLimit) (hu : un + 100 < cLine)
    (hret : ∀ x dx tr nx h' tk' T c nv t0, Fr h₀ L h' m → News h₀ L h' ((nx, listOf nv.toArray c) :: (tr, listOf (List.replicate (p + 1).toNat (Value.int 0 t0)).toArray 0) :: (x, instObj 128 dx) :: (dx, idxO w.params tr nx T 2) :: own) → IntsAre nv ((List.range (q + 1)).map fun i : Nat => (i : Int)) → (∀ p ∈ own, p.1 < dx) → @LT.lt Nat _ dx x → @LT.lt Nat _ x tr → @LT.lt Nat _ tr nx → Q (.ref x) { s with heap := h', toks := tk' }) :
    wpAny (model PySem.Challenge.rw_fe5001_01.row.prog w) (ktrTop dp un gd cn cs L ea ccd cl outer) (call (.ref 128) [.ref lst, .int p tp]) Q E s := by
  k_steps
  rename Fr h₀ L _ m => kF
  rename News h₀ L _ _ => kN
  rename ∀ p ∈ own, p.1 < _ => l1
  rename IntsAre _ _ => I9
  exact hret _ _ _ _ _ _ (tokF [_, _]) _ _ _ kF (News.re kN skip3) I9 l1 (by omega) (by omega) (by omega)
end Mine
end
/- Deact -/
section
open PySem PySem.W PyProof.Rows PySem.Calls PyProof.V PySem.Spec
set_option Elab.async false
set_option maxRecDepth 100000
set_option maxHeartbeats 8000000
set_option pp.deepTerms true
set_option linter.unusedVariables false
namespace Mine
local macro_rules | `(tactic| k_steps) => `(tactic| repeat' ((fail_if_success (with_reducible show wpAny _ _ (exec (Stmt.While _ _ _ _) _) _ _ _)); (fail_if_success (with_reducible show wpAny _ _ (exec (Stmt.For _ _ _ _ _) _) _ _ _)); (fail_if_success (with_reducible show wpAny _ _ (pyIter (Value.ref _)) _ _ _)); first | (k_unfold; (try dsimp only)) | (k_end; wrow_close) | walk1 | (dsimp only; walk1) | (leave1; walk_say "STEP leave1"; (try dsimp only)) | fail "no step"))
local macro_rules | `(tactic| k_mem) => `(tactic| assumption)
local macro_rules | `(tactic| walk_at "call ref") => `(tactic| (k_here; (with_reducible show wpAny _ _ (call (Value.ref 125) _) _ _ _); k_dflt (refine' find_ct ?B ?F ?X ?N ?U ?T ?hk ?m1 ?m2 ?I ?ok ?z0 ?z1 ?ln ?hd ?hu ?_; (case B => k_asm); (case F => k_asm); (case X => k_asm); (case N => k_asm); (case U => k_updF); (case T => k_asm); (case hk => first | exact rfl | assumption); (case m1 => k_mem); (case m2 => k_mem); (case I => assumption); (case ok => assumption); (case z0 => omega); (case z1 => omega); (case ln => assumption); (case hd => ktr_room); (case hu => ktr_units)); intro t' h' tk' vs' nv' I' ok' F' N'; (have hn9 := And.left ok'); (try dsimp only); (try k_fold)))
theorem deact_ct0 {w : World} {mean : ExcName → Option Value} {mg mb : Str → Option Value}
    {dp un : Nat} {gd : Option (List Code)} {cn : Str} {cs : Scope} {ea : Addr} {ccd : Value} {cl : List (Str × Addr)} {outer : List Env}
    {A₀ : Around} {base h₀ : Heap} {L : Addr} {m : Str → Option Value} {s : Shared} {Q E : Value → Shared → Prop}
    {own : List (Addr × Obj)} {ix dix tr nx : Addr} {T1 : Nat → Tok} {n1 nn : Nat} {z : Int} {to : Tok} {vs : List Value} {nv : List Int} {al : List Bool}
    (B : Below A₀ base outer h₀) (F : Fr h₀ L s.heap m) (X : (hd.heap_39 w.params).In h₀)
    (T : Top hd.view_39 (looseW hd.view_39 [Str.ofString "_Delimiter"]) mean mg mb h₀) (hk : cs.kind = .function)
    (N : News h₀ L s.heap ((nx, listOf vs.toArray nn) :: own)) (hoff : OwnOff own [nx])
    (m1 : (ix, instObj 128 dix) ∈ own) (m2 : (dix, idxO w.params tr nx T1 n1) ∈ own) (I3 : IntsAre vs nv)
    (hok : NextOk nv al) (hz : 0 ≤ z) (hz1 : z < al.length) (hlen : al.length ≤ 64)
    (hd : dp + 8 < recursionLimit) (hu : un + 100 < cLine)
    (hret : ∀ h' tk' vs' nv', IntsAre vs' nv' → NextOk nv' (al.set z.toNat false) → Fr h₀ L h' m → News h₀ L h' ((nx, listOf vs'.toArray nn) :: own) → Q .none { s with heap := h', toks := tk' }) :
    wpAny (model PySem.Challenge.rw_fe5001_01.row.prog w) (ktrTop dp un gd cn cs L ea ccd cl outer) (call (.ref 111) [.ref ix, .int z to]) Q E s := by
  have hnl := hok.1
  refine wpAny_call ?_
  k_dflt cell_enter
  k_steps
  · rename Fr h₀ L _ m => kF
    rename News h₀ L _ _ => kN
    rename NextOk _ _ => ok9
    rename IntsAre (List.set _ _ _) _ => I9
    obtain ⟨o, rfl⟩ := Int.eq_ofNat_of_zero_le hz
    exact hret _ _ _ _ I9 (NextOk.put ok9 (by omega)) kF kN
theorem deact_ct {w : World} {mean : ExcName → Option Value} {mg mb : Str → Option Value}
    {dp un : Nat} {gd : Option (List Code)} {cn : Str} {cs : Scope} {ea : Addr} {ccd : Value} {cl : List (Str × Addr)} {outer : List Env}
    {A₀ : Around} {base h₀ : Heap} {L : Addr} {m : Str → Option Value} {s : Shared} {Q E : Value → Shared → Prop}
    {news : List (Addr × Obj)} {g : Obj → List (Addr × Obj)} {ix dix tr nx : Addr} {T1 : Nat → Tok} {n1 nn : Nat} {z : Int} {to : Tok} {vs : List Value} {nv : List Int} {al : List Bool}
    (B : Below A₀ base outer h₀) (F : Fr h₀ L s.heap m) (X : (hd.heap_39 w.params).In h₀)
    (T : Top hd.view_39 (looseW hd.view_39 [Str.ofString "_Delimiter"]) mean mg mb h₀) (hk : cs.kind = .function)
    (N : News h₀ L s.heap news) (U : UpdF nx (listOf vs.toArray nn) news g)
    (m1 : (ix, instObj 128 dix) ∈ news) (m2 : (dix, idxO w.params tr nx T1 n1) ∈ news) (I3 : IntsAre vs nv)
    (hok : NextOk nv al) (hz : 0 ≤ z) (hz1 : z < al.length) (hlen : al.length ≤ 64)
    (hd : dp + 8 < recursionLimit) (hu : un + 100 < cLine)
    (hret : ∀ h' tk' vs' nv', IntsAre vs' nv' → NextOk nv' (al.set z.toNat false) → Fr h₀ L h' m → News h₀ L h' (g (listOf vs'.toArray nn)) → Q .none { s with heap := h', toks := tk' }) :
    wpAny (model PySem.Challenge.rw_fe5001_01.row.prog w) (ktrTop dp un gd cn cs L ea ccd cl outer) (call (.ref 111) [.ref ix, .int z to]) Q E s := by
  obtain ⟨own, hoff, e1, e2⟩ := updF_front U
  exact deact_ct0 B F X T hk (News.re N fun p hp => (e1 p).mp hp) hoff (tail_of_ne ((e1 _).mpr m1) inst_ne_list) (tail_of_ne ((e1 _).mpr m2) (fun e => list_ne_dict e.symm)) I3 hok hz hz1 hlen hd hu
    fun h' tk' vs' nv' I' ok' F' N' => hret h' tk' vs' nv' I' ok' F' (News.re N' fun p hp => (e2 _ p).mp hp)
end Mine
end
/- Drange -/
section
open PySem PySem.W PyProof.Rows PySem.Calls PyProof.V PySem.Spec
set_option Elab.async false
set_option maxRecDepth 100000
set_option maxHeartbeats 8000000
set_option pp.deepTerms true
set_option linter.unusedVariables false
namespace Mine
local macro_rules | `(tactic| k_steps) => `(tactic| repeat' ((fail_if_success (with_reducible show wpAny _ _ (exec (Stmt.While _ _ _ _) _) _ _ _)); (fail_if_success (with_reducible show wpAny _ _ (exec (Stmt.For _ _ _ _ _) _) _ _ _)); (fail_if_success (with_reducible show wpAny _ _ (pyIter (Value.ref _)) _ _ _)); (fail_if_success (with_reducible show wpAny _ _ (call (Value.ref 125) _) _ _ _)); first | (k_unfold; (try dsimp only)) | (k_end; wrow_close) | walk1 | (dsimp only; walk1) | (leave1; walk_say "STEP leave1"; (try dsimp only)) | fail "no step"))
local macro_rules | `(tactic| k_mem) => `(tactic| assumption)
local macro_rules | `(tactic| walk_at "call ref") => `(tactic| (k_here; (with_reducible show wpAny _ _ (call (Value.ref 125) _) _ _ _); k_dflt (refine' find_ct ?B ?F ?X ?N ?U ?T ?hk ?m1 ?m2 ?I ?ok ?z0 ?z1 ?ln ?hd ?hu ?_; (case B => k_asm); (case F => k_asm); (case X => k_asm); (case N => k_asm); (case U => k_updF); (case T => k_asm); (case hk => first | exact rfl | assumption); (case m1 => k_mem); (case m2 => k_mem); (case I => assumption); (case ok => assumption); (case z0 => omega); (case z1 => omega); (case ln => omega); (case hd => ktr_room); (case hu => ktr_units)); intro t' h' tk' vs' nv' I' ok' F' N'; (have hn9 := And.left ok'); (try dsimp only); (try k_fold)))
local macro_rules | `(tactic| k_mem) => `(tactic| first | assumption | (refine List.mem_append_right _ ?_; assumption))
theorem off_set {nx d : Addr} {o' : Obj} {ro own : List (Addr × Obj)} {i : Nat} (h : ∀ p ∈ ro ++ own, p.1 ≠ nx) (hd : @Ne Nat d nx) : ∀ p ∈ ro.set i (d, o') ++ own, p.1 ≠ nx := fun p hp => by
  rcases List.mem_append.mp hp with q | q
  · rcases List.mem_or_eq_of_mem_set q with q | q
    · exact h p (List.mem_append_left _ q)
    · rw [q]; exact hd
  · exact h p (List.mem_append_right _ q)
local macro_rules | `(tactic| k_all) => `(tactic| first | assumption | (refine off_set ?_ ?_ <;> assumption))
local macro_rules | `(tactic| k_upd) => `(tactic| (refine' upd_seg ?a ?b ?c; (case a => assumption); (case b => assumption); (case c => assumption)))
local macro_rules | `(tactic| walk_at "subscriptTail") => `(tactic| (k_here; (with_reducible show wpAny _ _ (subscriptTail _ _ (Value.ref _) (Value.int _ _)) _ _ _); k_dflt (refine' at_item ?N ?p ?a ?b ?c ?_; (case N => k_asm); (case p => k_mem); (case a => omega); (case b => omega); (case c => assumption); k_whole)))
structure DS where
  o : Nat
  t : Tok
  vs : List Value
  nv : List Int
  ro : List (Addr × Obj)
  al : List Bool
  ln : List Int
theorem drange_ct0 {w : World} {mean : ExcName → Option Value} {mg mb : Str → Option Value}
    {dp un : Nat} {gd : Option (List Code)} {cn : Str} {cs : Scope} {ea : Addr} {ccd : Value} {cl : List (Str × Addr)} {outer : List Env}
    {A₀ : Around} {base h₀ : Heap} {L : Addr} {m : Str → Option Value} {s : Shared} {Q E : Value → Shared → Prop}
    {own ro : List (Addr × Obj)} {ix dix tr nx dl : Addr} {T1 : Nat → Tok} {n1 nn n2 f e : Nat} {tf te : Tok} {vs : List Value} {nv : List Int} {al : List Bool} {xs ds : List Addr} {pls : List Nat} {ln : List Int}
    (B : Below A₀ base outer h₀) (F : Fr h₀ L s.heap m) (X : (hd.heap_39 w.params).In h₀)
    (T : Top hd.view_39 (looseW hd.view_39 [Str.ofString "_Delimiter"]) mean mg mb h₀) (hk : cs.kind = .function)
    (N : News h₀ L s.heap ((nx, listOf vs.toArray nn) :: (ro ++ own)))
    (hoff : ∀ p ∈ ro ++ own, p.1 ≠ nx) (hoff2 : OwnOff own ds) (hnd : ds.Nodup)
    (m1 : (ix, instObj 128 dix) ∈ own) (m2 : (dix, idxO w.params tr nx T1 n1) ∈ own) (I3 : IntsAre vs nv)
    (m3 : (dl, listOf (xs.map Value.ref).toArray n2) ∈ own) (hxl : xs.length = ds.length) (hxd : ∀ i (h : i < xs.length), (xs[i], instObj 72 (ds[i]'(by omega))) ∈ own)
    (hro : RowD w.params ds pls ln ro) (hdl : ds.length = al.length) (hll : ln.length = al.length)
    (hok : NextOk nv al) (hf : f ≤ al.length) (he : e ≤ al.length) (hlen : al.length ≤ 64)
    (hd : dp + 8 < recursionLimit) (hu : un + 100 < cLine)
    (hret : ∀ h' tk' vs' nv' ro', IntsAre vs' nv' → NextOk nv' (clrA al f e) → RowD w.params ds pls (clrL al ln f e) ro' → Fr h₀ L h' m → News h₀ L h' ((nx, listOf vs'.toArray nn) :: (ro' ++ own)) → Q .none { s with heap := h', toks := tk' }) :
    wpAny (model PySem.Challenge.rw_fe5001_01.row.prog w) (ktrTop dp un gd cn cs L ea ccd cl outer) (call (.ref 118) [.ref ix, .ref dl, .int (f : Int) tf, .int (e : Int) te]) Q E s := by
  have hnl := hok.1
  refine wpAny_call ?_
  k_dflt cell_enter
  k_steps
  walk1
  k_steps
  rename Fr _ _ _ _ => F1
  rename News _ _ _ _ => N1
  rename NextOk _ _ => ok1
  rename IntsAre _ _ => I1
  have hfl := nextOf_le hf
  refine ksw_while (σ := DS) (fun c => (nx, listOf c.vs.toArray nn) :: (c.ro ++ own)) (fun c => [(Str.ofString "order", .int (c.o : Int) c.t)]) (fun c => IntsAre c.vs c.nv) []
    (fun c => DInv al ln f e c.o c.al c.ln ∧ NextOk c.nv c.al ∧ RowD w.params ds pls c.ln c.ro) (fun c => al.length - c.o) ⟨nextOf al f, _, _, _, ro, al, ln⟩ F1 N1 I1 (all1 rfl) ⟨DInv.start hf, ok1, hro⟩ ?_
  rintro ⟨o, to, vs2, nv2, ro2, al2, ln2⟩ u h tk I4 ⟨hD, ok2, hR⟩ F2 N2
  dsimp only at hD ok2 hR I4 F2 N2
  clear F1 N1 I1 ok1
  have hla := hD.la
  have hol := hD.ol
  have hnl2 := ok2.1
  by_cases ho : o < e
  · have hod : o < ds.length := by omega
    have hox : o < xs.length := by omega
    obtain ⟨l0, k9, T9, hr9⟩ := hR.at_ o hod
    have hx9 : (xs.map Value.ref)[(o : Int).toNat]? = some (.ref xs[o]) := by
      rw [show ((o : Int).toNat) = o from rfl, List.getElem?_map, List.getElem?_eq_getElem hox]; rfl
    have hm9 := hxd o hox
    have hd9 : (ds[o], delO w.params (pls.getD o 0 : Nat) (ln2.getD o 0) l0 k9 T9 7) ∈ ro2 ++ own := List.mem_append_left _ (List.mem_of_getElem? hr9)
    have hoff9 : ∀ p ∈ ro2 ++ own, p.1 ≠ nx := fun p hp => by
      rcases List.mem_append.mp hp with q | q
      · have h1 : p.1 ∈ ds := by rw [← hR.ads]; exact List.mem_map.mpr ⟨p, q, rfl⟩
        rw [← hro.ads] at h1
        obtain ⟨p', hp', e'⟩ := List.mem_map.mp h1
        rw [← e']
        exact hoff p' (List.mem_append_left _ hp')
      · exact hoff p (List.mem_append_right _ q)
    have hdn9 : @Ne Nat ds[o] nx := hoff9 _ hd9
    have hnd9 : (ro2.map (·.1)).Nodup := by rw [hR.ads]; exact hnd
    have hoo9 : OwnOff own (ro2.map (·.1)) := by rw [hR.ads]; exact hoff2
    k_steps
    rename News _ _ _ (_ :: (List.set _ _ _ ++ _)) => N5
    walk1
    k_steps
    rename NextOk _ _ => ok3
    have ok4 := NextOk.put ok3 (k := o) (by omega)
    have hla4 : (al2.set o false).length = al2.length := List.length_set ..
    walk1
    k_steps
    rename Fr _ _ _ _ => F6
    rename News _ _ _ _ => N6
    rename NextOk _ _ => ok5
    rename IntsAre _ _ => I6
    have hst := hD.step he (by omega) ho
    rw [show ((o : Int).toNat) = o from rfl] at F6
    refine ksw_end ⟨nextOf (al2.set o false) o, _, _, _, _, al2.set o false, ln2.set o 0⟩ F6 N6 (fun _ h => h) I6 (all1 rfl) (by
      intro z h2 _
      have a := h2 _ (List.Mem.head _)
      dsimp only at a
      simp only [kstB, if_neg a, List.contains_nil, Bool.false_eq_true, if_false]) ⟨hst, ok5, hR.set hod (by rw [hD.ll, hll, hdl]) (T := tokF [_, _, _, _, _, _, _, _, _, _, _, _])⟩ ?_
    dsimp only
    have h1 := nextOf_ge (al2.set o false) o
    have h2 := nextOf_set_at (al := al2) (k := o) (by omega)
    have h3 := nextOf_ge al2 (o + 1)
    omega
  · k_steps
    rename Fr h₀ L _ m => kF
    rename News h₀ L _ _ => kN
    obtain ⟨e1, e2⟩ := hD.fin ho
    rw [e1] at ok2
    rw [e2] at hR
    exact hret _ _ _ _ _ I4 ok2 hR kF kN
end Mine
end
/- Shape -/
section
open PySem PySem.W PyProof.Rows PySem.Calls PyProof.V PySem.Spec
set_option Elab.async false
set_option maxRecDepth 100000
set_option maxHeartbeats 8000000
set_option pp.deepTerms true
set_option linter.unusedVariables false
namespace Mine
local macro_rules | `(tactic| k_steps) => `(tactic| repeat' ((fail_if_success (with_reducible show wpAny _ _ (exec (Stmt.While _ _ _ _) _) _ _ _)); (fail_if_success (with_reducible show wpAny _ _ (exec (Stmt.For _ _ _ _ _) _) _ _ _)); (fail_if_success (with_reducible show wpAny _ _ (pyIter (Value.ref _)) _ _ _)); first | (k_unfold; (try dsimp only)) | (k_end; wrow_close) | walk1 | (dsimp only; walk1) | (leave1; walk_say "STEP leave1"; (try dsimp only)) | fail "no step"))
local macro_rules | `(tactic| k_mem) => `(tactic| assumption)
local macro_rules | `(tactic| k_mem) => `(tactic| assumption)
local macro_rules | `(tactic| k_all) => `(tactic| assumption)
local macro_rules | `(tactic| size_fits) => `(tactic| ((try simp only [List.size_toArray]); rw [sizeLine_eq]; omega))
local macro_rules | `(tactic| walk_at "call ref") => `(tactic| (k_here; (with_reducible show wpAny _ _ (call (Value.ref 139) _) _ _ _); k_dflt (refine' draw_ct ?B ?F ?X ?N ?U ?T ?hk ?L ?I ?ln ?p0 ?a0 ?a1 ?z0 ?z1 ?hd ?hu ?_; (case B => k_asm); (case F => k_asm); (case X => k_asm); (case T => k_asm); (case hk => first | exact rfl | assumption); (case N => k_asm); (case U => k_updF); (case L => assumption); (case I => assumption); (case ln => assumption); (case p0 => assumption); (case a0 => assumption); (case a1 => assumption); (case z0 => omega); (case z1 => omega); (case hd => ktr_room); (case hu => ktr_units)); intro r' t' h' tk' p' tp' a' ta' n' hr1 hr2 hp1 ha1 ha2 F' N'; (try dsimp only); (try k_fold)))
structure HS where
  pv : List Value
  lv : List Value
  c1 : Nat
  c2 : Nat
  pls : List Nat
  ln : List Int
  at_ : Nat
  tat : Tok
  p : Int
  tp : Tok
  a : Int
  ta : Tok
  n : Nat
abbrev tup3 (pl le : Addr) (k : Int) (t : Tok) : Obj := { cls := .type "tuple", data := .seq #[.ref pl, .ref le, .int k t] }
theorem shape_ct0 {w : World} {mean : ExcName → Option Value} {mg mb : Str → Option Value}
    {dp un : Nat} {gd : Option (List Code)} {cn : Str} {cs : Scope} {ea : Addr} {ccd : Value} {cl : List (Str × Addr)} {outer : List Env}
    {A₀ : Around} {base h₀ : Heap} {L : Addr} {m : Str → Option Value} {s : Shared} {Q E : Value → Shared → Prop}
    {sc box : Addr} {vs : List Value} {ns : List Int} {p a : Int} {tp ta : Tok} {n : Nat} {own : List (Addr × Obj)}
    (B : Below A₀ base outer h₀) (F : Fr h₀ L s.heap m) (X : (hd.heap_39 w.params).In h₀)
    (T : Top hd.view_39 (looseW hd.view_39 [Str.ofString "_Delimiter"]) mean mg mb h₀) (hk : cs.kind = .function)
    (N : News h₀ L s.heap ((box, boxO sc p tp a ta n) :: own)) (hoff : OwnOff own [box])
    (hL : base.IsList sc vs.toArray) (hI : IntsAre vs ns) (hlen : ns.length ≤ 63)
    (hp : 0 ≤ p) (ha : 0 ≤ a) (ha2 : a < 2147483647)
    (hd : dp + 20 < recursionLimit) (hu : un + 200 < cLine)
    (hret : ∀ h' tk' (tu pl le : Addr) (pv lv : List Value) (c1 c2 : Nat) (pls : List Nat) (ln : List Int) (pn q : Nat) (tq : Tok) (p' : Int) (tp' : Tok) (a' : Int) (ta' : Tok) (n' : Nat),
      IntsAre pv (pls.map fun x : Nat => (x : Int)) → IntsAre lv ln → pls.length = q → ln.length = q → 1 ≤ q → q ≤ 12 → (∀ x ∈ pls, x < pn) → pn ≤ 60 → 0 ≤ p' → 0 ≤ a' → a' < 2147483647 → (∀ r ∈ own, r.1 < pl) → @LT.lt Nat _ box pl → @LT.lt Nat _ pl le → @LT.lt Nat _ le tu →
      Fr h₀ L h' m → News h₀ L h' ((tu, tup3 pl le pn tq) :: (le, listOf lv.toArray c2) :: (pl, listOf pv.toArray c1) :: (box, boxO sc p' tp' a' ta' n') :: own) → Q (.ref tu) { s with heap := h', toks := tk' }) :
    wpAny (model PySem.Challenge.rw_fe5001_01.row.prog w) (ktrTop dp un gd cn cs L ea ccd cl outer) (call (.ref 146) [.ref box]) Q E s := by
  have hoff1 : ∀ p ∈ own, p.1 ≠ box := fun p hp => hoff p hp _ (.head _)
  refine wpAny_call ?_
  k_dflt cell_enter
  k_steps
  rename Fr _ _ _ _ => F8
  with_unfolding_all refine' For_invVF F8 ?k1 ?k2 ?_; (case k1 => exact rfl); (case k2 => exact rfl); k_whole
  k_steps
  rename Fr _ _ _ _ => F9
  rename News _ _ _ _ => N9
  rename IsRange _ _ _ _ _ _ _ _ => R9
  rename_i r0 t0 _ _ _ _ _ _ _ hr01 hr02 _ _ _ _ _ _ _ r1 t1 _ _ p1 tp1 a1 ta1 n1 hr11 hr12 hp1 ha11 ha12 _ _ pl _ l1 _ _ le _ l2 _ _ _ _ _ _ _ _ _
  obtain ⟨o1, rfl⟩ := Int.eq_ofNat_of_zero_le hr11
  have hl1 := allLt_mem l1.2
  refine range_state (σ := HS) (n := (1 + r0).toNat) (fun c => (le, listOf c.lv.toArray c.c2) :: (pl, listOf c.pv.toArray c.c1) :: (box, boxO sc c.p c.tp c.a c.ta c.n) :: own) (fun c => [(Str.ofString "at", .int (c.at_ : Int) c.tat)]) [Str.ofString "turn"]
    (fun i c => IntsAre c.pv (c.pls.map fun x : Nat => (x : Int)) ∧ IntsAre c.lv c.ln ∧ c.pls.length = i ∧ c.ln.length = i ∧ (∀ x ∈ c.pls, x < c.at_) ∧ c.at_ ≤ 2 + 4 * i ∧ 0 ≤ c.p ∧ 0 ≤ c.a ∧ c.a < 2147483647)
    ⟨[], [], 0, 0, [], [], o1, _, p1, tp1, a1, ta1, n1⟩ rfl R9 (range_small (by omega) (by omega)) (range_size (by omega)) F9 N9 (all1 rfl)
    ⟨.nil, .nil, rfl, rfl, (fun _ h => nomatch h), by dsimp only; omega, hp1, ha11, ha12⟩ ?_ ?_
  · rintro i tj ⟨pv, lv, c1, c2, pls, ln, at9, tat, p2, tp2, a2, ta2, n2⟩ u I it h tk hi hI hoff9 ⟨I1, I2, e1, e2, hx, hat, hp2, ha21, ha22⟩ F10 N10
    dsimp only at I1 I2 e1 e2 hx hat hp2 ha21 ha22 F10 N10
    replace hI := allLt_of hI
    simp only [AllLt] at hI
    have hpv : pv.length = i := by rw [I1.length, List.length_map, e1]
    have hlv : lv.length = i := by rw [I2.length, e2]
    clear N9 F9
    k_steps
    rename Fr _ _ _ _ => F11
    rename News _ _ _ (_ :: _) => N11
    rename_i r2 t2 _ _ _ _ _ _ _ hr21 hr22 _ _ _ _ _ _ _ r3 t3 _ _ p3 tp3 a3 ta3 n3 hr31 hr32 hp3 ha31 ha32 _
    obtain ⟨q3, rfl⟩ := Int.eq_ofNat_of_zero_le hr31
    rw [List.push_toArray, List.push_toArray] at N11
    refine rend_state ⟨pv ++ [.int (at9 : Int) tat], lv ++ [.int (1 + r2) _], c1 + 1, c2 + 1, pls ++ [at9], ln ++ [1 + r2], at9 + 1 + q3, _, p3, tp3, a3, ta3, n3⟩ F11 N11 (.head _) (fun p hp => .tail _ hp)
      (List.forall_mem_cons.mpr ⟨Nat.ne_of_lt hI.1, List.forall_mem_cons.mpr ⟨Nat.ne_of_lt hI.2.1, List.forall_mem_cons.mpr ⟨Nat.ne_of_lt hI.2.2.1, fun p q => Nat.ne_of_lt (allLt_mem hI.2.2.2 p q)⟩⟩⟩) (all1 (Eq.trans rfl (congrArg (fun z => some (Value.int z _)) (show (at9 : Int) + 1 + (q3 : Int) = ((at9 + 1 + q3 : Nat) : Int) from rfl)))) (by
      intro z h2 h3
      have a := h2 _ (List.Mem.head _)
      dsimp only at a
      have b : z ≠ Str.ofString "turn" := by intro e; subst e; simp at h3
      simp only [kstB, if_neg a, if_neg b, h3, Bool.false_eq_true, if_false]) ⟨by rw [List.map_append]; exact I1.append (.cons _ _ .nil), I2.append (.cons _ _ .nil), by simp [e1], by simp [e2], ?_, by dsimp only; omega, hp3, ha31, ha32⟩
    intro x hx9
    rcases List.mem_append.mp hx9 with q | q
    · have := hx x q
      dsimp only; omega
    · rw [List.mem_singleton.mp q]
      dsimp only; omega
  · rintro ⟨pv, lv, c1, c2, pls, ln, at9, tat, p2, tp2, a2, ta2, n2⟩ u h tk ⟨I1, I2, e1, e2, hx, hat, hp2, ha21, ha22⟩ F10 N10
    dsimp only at I1 I2 e1 e2 hx hat hp2 ha21 ha22 F10 N10
    clear N9 F9
    k_steps
    rename Fr h₀ L _ m => kF
    rename News h₀ L _ _ => kN
    rename_i r3 t3 _ _ p3 tp3 a3 ta3 n3 hr31 hr32 hp3 ha31 ha32 tu _ _ _ l3 _ _
    obtain ⟨q3, rfl⟩ := Int.eq_ofNat_of_zero_le hr31
    refine hret _ _ tu pl le pv lv _ _ pls ln (at9 + q3) _ _ p3 tp3 a3 ta3 n3 I1 I2 e1 e2 (by omega) (by omega) (fun x q => ?_) (by omega) hp3 ha31 ha32 hl1 l1.1 l2.1 l3.1 kF kN
    have := hx x q
    omega
theorem shape_ct {w : World} {mean : ExcName → Option Value} {mg mb : Str → Option Value}
    {dp un : Nat} {gd : Option (List Code)} {cn : Str} {cs : Scope} {ea : Addr} {ccd : Value} {cl : List (Str × Addr)} {outer : List Env}
    {A₀ : Around} {base h₀ : Heap} {L : Addr} {m : Str → Option Value} {s : Shared} {Q E : Value → Shared → Prop}
    {sc box : Addr} {vs : List Value} {ns : List Int} {p a : Int} {tp ta : Tok} {n : Nat} {news : List (Addr × Obj)} {g : Obj → List (Addr × Obj)}
    (B : Below A₀ base outer h₀) (F : Fr h₀ L s.heap m) (X : (hd.heap_39 w.params).In h₀)
    (T : Top hd.view_39 (looseW hd.view_39 [Str.ofString "_Delimiter"]) mean mg mb h₀) (hk : cs.kind = .function)
    (N : News h₀ L s.heap news) (U : UpdF box (boxO sc p tp a ta n) news g)
    (hL : base.IsList sc vs.toArray) (hI : IntsAre vs ns) (hlen : ns.length ≤ 63)
    (hp : 0 ≤ p) (ha : 0 ≤ a) (ha2 : a < 2147483647)
    (hd : dp + 20 < recursionLimit) (hu : un + 200 < cLine)
    (hret : ∀ h' tk' (tu pl le : Addr) (pv lv : List Value) (c1 c2 : Nat) (pls : List Nat) (ln : List Int) (pn q : Nat) (tq : Tok) (p' : Int) (tp' : Tok) (a' : Int) (ta' : Tok) (n' : Nat),
      IntsAre pv (pls.map fun x : Nat => (x : Int)) → IntsAre lv ln → pls.length = q → ln.length = q → 1 ≤ q → q ≤ 12 → (∀ x ∈ pls, x < pn) → pn ≤ 60 → 0 ≤ p' → 0 ≤ a' → a' < 2147483647 → (∀ r ∈ news, r.1 < pl) → @LT.lt Nat _ pl le → @LT.lt Nat _ le tu →
      Fr h₀ L h' m → News h₀ L h' ((tu, tup3 pl le pn tq) :: (le, listOf lv.toArray c2) :: (pl, listOf pv.toArray c1) :: g (boxO sc p' tp' a' ta' n')) → Q (.ref tu) { s with heap := h', toks := tk' }) :
    wpAny (model PySem.Challenge.rw_fe5001_01.row.prog w) (ktrTop dp un gd cn cs L ea ccd cl outer) (call (.ref 146) [.ref box]) Q E s := by
  obtain ⟨own, hoff, e1, e2⟩ := updF_front U
  exact shape_ct0 B F X T hk (News.re N fun p hp => (e1 p).mp hp) hoff hL hI hlen hp ha ha2 hd hu
    fun h' tk' tu pl le pv lv c1 c2 pls ln pn q tq p' tp' a' ta' n' I1 I2 l1 l2 l3 l4 l5 l6 k1 k2 k3 f1 f2 f3 f4 F' N' => hret h' tk' tu pl le pv lv c1 c2 pls ln pn q tq p' tp' a' ta' n' I1 I2 l1 l2 l3 l4 l5 l6 k1 k2 k3
      (fun r hr => by
        rcases List.mem_cons.mp ((e1 r).mpr hr) with q9 | q9
        · rw [q9]; exact f2
        · exact f1 r q9) f3 f4 F' (News.re N' fun p hp => by
        rcases List.mem_cons.mp hp with q9 | hp
        · rw [q9]; exact .head _
        · rcases List.mem_cons.mp hp with q9 | hp
          · rw [q9]; exact .tail _ (.head _)
          · rcases List.mem_cons.mp hp with q9 | hp
            · rw [q9]; exact .tail _ (.tail _ (.head _))
            · exact .tail _ (.tail _ (.tail _ ((e2 _ p).mp hp))))
end Mine
end
/- Plan -/
section
open PySem PySem.W PyProof.Rows PySem.Calls PyProof.V PySem.Spec
set_option Elab.async false
set_option maxRecDepth 100000
set_option maxHeartbeats 8000000
set_option pp.deepTerms true
set_option linter.unusedVariables false
namespace Mine
local macro_rules | `(tactic| k_steps) => `(tactic| repeat' ((fail_if_success (with_reducible show wpAny _ _ (exec (Stmt.While _ _ _ _) _) _ _ _)); (fail_if_success (with_reducible show wpAny _ _ (exec (Stmt.For _ _ _ _ _) _) _ _ _)); (fail_if_success (with_reducible show wpAny _ _ (pyIter (Value.ref _)) _ _ _)); first | (k_unfold; (try dsimp only)) | (k_end; wrow_close) | walk1 | (dsimp only; walk1) | (leave1; walk_say "STEP leave1"; (try dsimp only)) | fail "no step"))
local macro_rules | `(tactic| k_mem) => `(tactic| assumption)
local macro_rules | `(tactic| k_mem) => `(tactic| first | assumption | (refine List.mem_append_right _ ?_; assumption))
local macro_rules | `(tactic| k_all) => `(tactic| assumption)
local macro_rules | `(tactic| size_fits) => `(tactic| ((try simp only [List.size_toArray]); rw [sizeLine_eq]; omega))
local macro_rules | `(tactic| walk_at "subscriptTail") => `(tactic| (k_here; (with_reducible show wpAny _ _ (subscriptTail _ _ (Value.ref _) (Value.int _ _)) _ _ _); k_dflt (refine' size_item ?N ?p ?a ?b ?_; (case N => k_asm); (case p => k_mem); (case a => omega); (case b => omega); k_whole); intro v' t' hv'; (try dsimp only)))
local macro_rules | `(tactic| walk_at "call ref") => `(tactic| (k_here; (with_reducible show wpAny _ _ (call (Value.ref 139) _) _ _ _); k_dflt (refine' draw_ct ?B ?F ?X ?N ?U ?T ?hk ?L ?I ?ln ?p0 ?a0 ?a1 ?z0 ?z1 ?hd ?hu ?_; (case B => k_asm); (case F => k_asm); (case X => k_asm); (case T => k_asm); (case hk => first | exact rfl | assumption); (case N => k_asm); (case U => k_updF); (case L => assumption); (case I => assumption); (case ln => assumption); (case p0 => assumption); (case a0 => assumption); (case a1 => assumption); (case z0 => omega); (case z1 => omega); (case hd => ktr_room); (case hu => ktr_units)); intro r' t' h' tk' p' tp' a' ta' n' hr1 hr2 hp1 ha1 ha2 F' N'; (try dsimp only); (try k_fold)))
theorem perm_p {α : Type} {a b c d : α} {r : List α} : ∀ p ∈ b :: c :: d :: a :: r, p ∈ a :: b :: c :: d :: r := by
  intro p
  simp only [List.mem_cons]
  rintro (h | h | h | h | h) <;> simp [h]
structure PS where
  dv : List Value
  c1 : Nat
  seg : List (Addr × Obj)
  p : Int
  tp : Tok
  a : Int
  ta : Tok
  n : Nat
abbrev tup5 (w kd f g c : Int) (T : Nat → Tok) : Obj := { cls := .type "tuple", data := .seq #[.int w (T 0), .int kd (T 1), .int f (T 2), .int g (T 3), .int c (T 4)] }
def DeedsIn (q0 q1 : Int) (dv : List Value) (news : List (Addr × Obj)) : Prop :=
  ∀ j (_ : j < dv.length), ∃ t w kd f g c T, dv[j]? = some (.ref t) ∧ (t, tup5 w kd f g c T) ∈ news ∧ 0 ≤ w ∧ w < 2 ∧ 0 ≤ kd ∧ 0 ≤ f ∧ f ≤ (if w = 0 then q0 else q1) ∧ 0 ≤ g ∧ 0 ≤ c ∧ c < 4
theorem DeedsIn.mono {q0 q1 : Int} {dv : List Value} {a b : List (Addr × Obj)} (h : DeedsIn q0 q1 dv a) (hs : ∀ p ∈ a, p ∈ b) : DeedsIn q0 q1 dv b := fun j hj =>
  let ⟨t, w, kd, f, g, c, T, e, m, r⟩ := h j hj; ⟨t, w, kd, f, g, c, T, e, hs _ m, r⟩
theorem DeedsIn.snoc {q0 q1 : Int} {dv : List Value} {a : List (Addr × Obj)} (h : DeedsIn q0 q1 dv a) {t : Addr} {w kd f g c : Int} {T : Nat → Tok} (hm : (t, tup5 w kd f g c T) ∈ a)
    (r : 0 ≤ w ∧ w < 2 ∧ 0 ≤ kd ∧ 0 ≤ f ∧ f ≤ (if w = 0 then q0 else q1) ∧ 0 ≤ g ∧ 0 ≤ c ∧ c < 4) : DeedsIn q0 q1 (dv ++ [.ref t]) a := fun j hj => by
  rcases Nat.lt_or_ge j dv.length with h1 | h1
  · obtain ⟨t', w', kd', f', g', c', T', e, m, r'⟩ := h j h1
    exact ⟨t', w', kd', f', g', c', T', by rw [List.getElem?_append_left h1]; exact e, m, r'⟩
  · have hj' : j = dv.length := by simp at hj; omega
    subst hj'
    exact ⟨t, w, kd, f, g, c, T, by rw [List.getElem?_append_right (Nat.le_refl _), Nat.sub_self]; rfl, hm, r⟩
theorem plan_ct0 {w : World} {mean : ExcName → Option Value} {mg mb : Str → Option Value}
    {dp un : Nat} {gd : Option (List Code)} {cn : Str} {cs : Scope} {ea : Addr} {ccd : Value} {cl : List (Str × Addr)} {outer : List Env}
    {A₀ : Around} {base h₀ : Heap} {L : Addr} {m : Str → Option Value} {s : Shared} {Q E : Value → Shared → Prop}
    {sc box sz : Addr} {vs : List Value} {ns : List Int} {p a q0 q1 : Int} {tp ta t0 t1 : Tok} {n nz : Nat} {own : List (Addr × Obj)}
    (B : Below A₀ base outer h₀) (F : Fr h₀ L s.heap m) (X : (hd.heap_39 w.params).In h₀)
    (T : Top hd.view_39 (looseW hd.view_39 [Str.ofString "_Delimiter"]) mean mg mb h₀) (hk : cs.kind = .function)
    (N : News h₀ L s.heap ((box, boxO sc p tp a ta n) :: own)) (hoff : OwnOff own [box])
    (hL : base.IsList sc vs.toArray) (hI : IntsAre vs ns) (hlen : ns.length ≤ 63)
    (msz : (sz, listOf #[.int q0 t0, .int q1 t1] nz) ∈ own) (h01 : 1 ≤ q0) (h02 : q0 ≤ 12) (h11 : 1 ≤ q1) (h12 : q1 ≤ 12)
    (hp : 0 ≤ p) (ha : 0 ≤ a) (ha2 : a < 2147483647)
    (hd : dp + 20 < recursionLimit) (hu : un + 200 < cLine)
    (hret : ∀ h' tk' (dl : Addr) (dv : List Value) (c1 : Nat) (seg : List (Addr × Obj)) (p' : Int) (tp' : Tok) (a' : Int) (ta' : Tok) (n' : Nat),
      DeedsIn q0 q1 dv seg → dv.length ≤ 30 → (∀ r ∈ own, r.1 < dl) → @LT.lt Nat _ box dl →
      Fr h₀ L h' m → News h₀ L h' ((dl, listOf dv.toArray c1) :: (box, boxO sc p' tp' a' ta' n') :: (seg ++ own)) → Q (.ref dl) { s with heap := h', toks := tk' }) :
    wpAny (model PySem.Challenge.rw_fe5001_01.row.prog w) (ktrTop dp un gd cn cs L ea ccd cl outer) (call (.ref 153) [.ref box, .ref sz]) Q E s := by
  have hoff1 : ∀ p ∈ own, p.1 ≠ box := fun p hp => hoff p hp _ (.head _)
  refine wpAny_call ?_
  k_dflt cell_enter
  k_steps
  rename Fr _ _ _ _ => F8
  with_unfolding_all refine' For_invVF F8 ?k1 ?k2 ?_; (case k1 => exact rfl); (case k2 => exact rfl); k_whole
  k_steps
  rename Fr _ _ _ _ => F9
  rename News _ _ _ _ => N9
  rename IsRange _ _ _ _ _ _ _ _ => R9
  rename_i dl _ l1 _ _ r0 _ _ _ p1 tp1 a1 ta1 n1 hr1 hr2 hp1 ha1 ha3 _ _ _ _ _ _ _ _
  have hl1 := allLt_mem l1.2
  refine range_state (σ := PS) (n := (6 + r0).toNat) (fun c => (dl, listOf c.dv.toArray c.c1) :: (box, boxO sc c.p c.tp c.a c.ta c.n) :: (c.seg ++ own)) (fun _ => []) [Str.ofString "turn", Str.ofString "which", Str.ofString "size"]
    (fun i c => c.dv.length = i ∧ DeedsIn q0 q1 c.dv c.seg ∧ (∀ p ∈ c.seg, @LT.lt Nat _ dl p.1) ∧ 0 ≤ c.p ∧ 0 ≤ c.a ∧ c.a < 2147483647)
    ⟨[], 0, [], p1, tp1, a1, ta1, n1⟩ rfl R9 (range_small (by omega) (by omega)) (range_size (by omega)) F9 N9 (List.forall_mem_nil _)
    ⟨rfl, (fun j hj => absurd hj (Nat.not_lt_zero _)), (fun _ h => nomatch h), hp1, ha1, ha3⟩ ?_ ?_
  · rintro i tj ⟨dv, c1, seg, p2, tp2, a2, ta2, n2⟩ u I it h tk hi hI hoff9 ⟨e1, hD, hseg, hp2, ha21, ha22⟩ F10 N10
    dsimp only at e1 hD hseg hp2 ha21 ha22 F10 N10 hoff9
    replace hI := allLt_of hI
    simp only [AllLt] at hI
    have hs1 : ∀ p ∈ seg ++ own, p.1 ≠ box := List.forall_mem_append.mpr ⟨fun p q => Nat.ne_of_gt (Nat.lt_trans l1.1 (hseg p q)), hoff1⟩
    have hs2 : ∀ p ∈ seg ++ own, p.1 ≠ dl := List.forall_mem_append.mpr ⟨fun p q => Nat.ne_of_gt (hseg p q), fun p q => Nat.ne_of_lt (hl1 p q)⟩
    clear N9 F9
    k_steps
    rename Fr _ _ _ _ => F11
    rename News _ _ _ (_ :: _) => N11
    rename_i tu _ l9 _
    rw [List.push_toArray] at N11
    have N12 := News.re N11 perm_p
    refine rend_state ⟨dv ++ [.ref tu], c1 + 1, (tu, tup5 _ _ _ _ _ (tokF [_, _, _, _, _])) :: seg, _, _, _, _, _⟩ F11 N12 (.head _) (fun p hp => .tail _ hp) ?_ (List.forall_mem_nil _) (by
      intro z _ h3
      have b : z ≠ Str.ofString "turn" := by intro e; subst e; simp at h3
      have c : z ≠ Str.ofString "which" := by intro e; subst e; simp at h3
      have d : z ≠ Str.ofString "size" := by intro e; subst e; simp at h3
      simp only [kstB, if_neg b, if_neg c, if_neg d, h3, Bool.false_eq_true, if_false]) ⟨?_, ?_, ?_, ?_, ?_, ?_⟩
    · refine List.forall_mem_cons.mpr ⟨Nat.ne_of_lt hI.1, List.forall_mem_cons.mpr ⟨Nat.ne_of_lt hI.2.1, List.forall_mem_cons.mpr ⟨Nat.ne_of_gt l9.1, fun p q => hoff9 p (.tail _ (.tail _ q))⟩⟩⟩
    · dsimp only; rw [List.length_append]; simp [e1]
    · exact DeedsIn.snoc (hD.mono fun p q => .tail _ q) (.head _) ⟨by omega, by omega, by omega, by omega, by omega, by omega, by omega, by omega⟩
    · exact List.forall_mem_cons.mpr ⟨l9.2.1, hseg⟩
    · assumption
    · assumption
    · assumption
  · rintro ⟨dv, c1, seg, p2, tp2, a2, ta2, n2⟩ u h tk ⟨e1, hD, hseg, hp2, ha21, ha22⟩ F10 N10
    dsimp only at e1 hD hseg hp2 ha21 ha22 F10 N10
    clear N9 F9
    k_steps
    rename Fr h₀ L _ m => kF
    rename News h₀ L _ _ => kN
    exact hret _ _ dl dv c1 seg p2 tp2 a2 ta2 n2 hD (by omega) hl1 l1.1 kF kN
theorem plan_ct {w : World} {mean : ExcName → Option Value} {mg mb : Str → Option Value}
    {dp un : Nat} {gd : Option (List Code)} {cn : Str} {cs : Scope} {ea : Addr} {ccd : Value} {cl : List (Str × Addr)} {outer : List Env}
    {A₀ : Around} {base h₀ : Heap} {L : Addr} {m : Str → Option Value} {s : Shared} {Q E : Value → Shared → Prop}
    {sc box sz : Addr} {vs : List Value} {ns : List Int} {p a q0 q1 : Int} {tp ta t0 t1 : Tok} {n nz : Nat} {news : List (Addr × Obj)} {g : Obj → List (Addr × Obj)}
    (B : Below A₀ base outer h₀) (F : Fr h₀ L s.heap m) (X : (hd.heap_39 w.params).In h₀)
    (T : Top hd.view_39 (looseW hd.view_39 [Str.ofString "_Delimiter"]) mean mg mb h₀) (hk : cs.kind = .function)
    (N : News h₀ L s.heap news) (U : UpdF box (boxO sc p tp a ta n) news g)
    (hL : base.IsList sc vs.toArray) (hI : IntsAre vs ns) (hlen : ns.length ≤ 63)
    (msz : (sz, listOf #[.int q0 t0, .int q1 t1] nz) ∈ news) (h01 : 1 ≤ q0) (h02 : q0 ≤ 12) (h11 : 1 ≤ q1) (h12 : q1 ≤ 12)
    (hp : 0 ≤ p) (ha : 0 ≤ a) (ha2 : a < 2147483647)
    (hd : dp + 20 < recursionLimit) (hu : un + 200 < cLine)
    (hret : ∀ h' tk' (dl : Addr) (dv : List Value) (c1 : Nat) (seg : List (Addr × Obj)) (p' : Int) (tp' : Tok) (a' : Int) (ta' : Tok) (n' : Nat),
      DeedsIn q0 q1 dv seg → dv.length ≤ 30 → (∀ r ∈ news, r.1 < dl) →
      Fr h₀ L h' m → News h₀ L h' ((dl, listOf dv.toArray c1) :: (seg ++ g (boxO sc p' tp' a' ta' n'))) → Q (.ref dl) { s with heap := h', toks := tk' }) :
    wpAny (model PySem.Challenge.rw_fe5001_01.row.prog w) (ktrTop dp un gd cn cs L ea ccd cl outer) (call (.ref 153) [.ref box, .ref sz]) Q E s := by
  obtain ⟨own, hoff, e1, e2⟩ := updF_front U
  refine plan_ct0 B F X T hk (News.re N fun p hp => (e1 p).mp hp) hoff hL hI hlen (tail_of_ne ((e1 _).mpr msz) (fun e => ?_)) h01 h02 h11 h12 hp ha ha2 hd hu
    fun h' tk' dl dv c1 seg p' tp' a' ta' n' hD l1 f1 f2 F' N' => hret h' tk' dl dv c1 seg p' tp' a' ta' n' hD l1
      (fun r hr => by
        rcases List.mem_cons.mp ((e1 r).mpr hr) with q9 | q9
        · rw [q9]; exact f2
        · exact f1 r q9) F' (News.re N' fun p hp => by
        rcases List.mem_cons.mp hp with q9 | hp
        · rw [q9]; exact .head _
        · rcases List.mem_append.mp hp with q9 | hp
          · exact .tail _ (.tail _ (List.mem_append_left _ q9))
          · rcases List.mem_cons.mp ((e2 _ p).mp hp) with q9 | q9
            · rw [q9]; exact .tail _ (.head _)
            · exact .tail _ (.tail _ (List.mem_append_right _ q9)))
  injection e with _ _ e
  injection e with e
  have := congrArg Array.size e
  simp at this
end Mine
end
/- Deed -/
section
open PySem PySem.W PyProof.Rows PySem.Calls PyProof.V PySem.Spec
set_option Elab.async false
set_option maxRecDepth 100000
set_option maxHeartbeats 8000000
set_option pp.deepTerms true
set_option linter.unusedVariables false
namespace Mine
local macro_rules | `(tactic| k_steps) => `(tactic| repeat' ((fail_if_success (with_reducible show wpAny _ _ (exec (Stmt.While _ _ _ _) _) _ _ _)); (fail_if_success (with_reducible show wpAny _ _ (exec (Stmt.For _ _ _ _ _) _) _ _ _)); (fail_if_success (with_reducible show wpAny _ _ (pyIter (Value.ref _)) _ _ _)); first | (k_unfold; (try dsimp only)) | (k_end; wrow_close) | walk1 | (dsimp only; walk1) | (leave1; walk_say "STEP leave1"; (try dsimp only)) | fail "no step"))
local macro_rules | `(tactic| k_mem) => `(tactic| assumption)
local macro_rules | `(tactic| k_mem) => `(tactic| first | assumption | (refine List.mem_append_right _ ?_; assumption))
local macro_rules | `(tactic| k_all) => `(tactic| assumption)
local macro_rules | `(tactic| size_fits) => `(tactic| ((try simp only [List.size_toArray]); rw [sizeLine_eq]; omega))
local macro_rules | `(tactic| walk2) => `(tactic| repeat' ((fail_if_success (with_reducible show wpAny _ _ (exec (Stmt.If _ _ _ _) _) _ _ _)); (fail_if_success (with_reducible show wpAny _ _ (exec (Stmt.For _ _ _ _ _) _) _ _ _)); (fail_if_success (with_reducible show wpAny _ _ (pyIter (Value.ref _)) _ _ _)); first | (k_unfold; (try dsimp only)) | (k_end; wrow_close) | walk1 | (dsimp only; walk1) | (leave1; walk_say "STEP leave1"; (try dsimp only)) | fail "no step"))
local macro_rules | `(tactic| walk_at "subscriptTail") => `(tactic| (k_here; (with_reducible show wpAny _ _ (subscriptTail _ _ (Value.ref _) (Value.str _ _)) _ _ _); k_dflt (refine' kda_item (knd := PySem.strKind _ _) ?N ?p ?d (strKind_is _ _ _ _) ?l ?_; (case N => k_asm); (case p => k_mem); (case d => assumption); (case l => rfl); k_whole)))
local macro_rules | `(tactic| walk_at "call builtin:len") => `(tactic| (k_here; (with_reducible show wpAny _ _ (call (Value.builtin _) [Value.ref _]) _ _ _); k_dflt (refine' len_at ?N ?p ?l ?z ?_; (case N => k_asm); (case p => k_mem); (case l => first | assumption | exact List.length_map ..); (case z => omega); k_whole)))
local macro_rules | `(tactic| walk_at "subscriptTail") => `(tactic| (k_here; (with_reducible show wpAny _ _ (subscriptTail _ _ (Value.ref _) (Value.int _ _)) _ _ _); k_dflt (refine' at_item ?N ?p ?a ?b ?c ?_; (case N => k_asm); (case p => k_mem); (case a => omega); (case b => omega); (case c => assumption); k_whole)))
local macro_rules | `(tactic| walk_at "call ref") => `(tactic| (k_here; (with_reducible show wpAny _ _ (call (Value.ref 97) _) _ _ _); k_dflt (refine' current_ct ?B ?F ?X ?N ?T ?hk ?m1 ?m2 ?m3 ?I ?m4 ?m5 ?a ?b ?hd ?hu ?_; (case B => k_asm); (case F => k_asm); (case X => k_asm); (case T => k_asm); (case hk => first | exact rfl | assumption); (case N => k_asm); (case m1 => k_mem); (case m2 => k_mem); (case m3 => k_mem); (case I => assumption); (case m4 => k_mem); (case m5 => k_mem); (case a => omega); (case b => omega); (case hd => ktr_room); (case hu => ktr_units)); intro t' h' tk' F' N'; (try dsimp only); (try k_fold)))
local macro_rules | `(tactic| walk_at "call ref") => `(tactic| (k_here; (with_reducible show wpAny _ _ (call (Value.ref 160) _) _ _ _); k_dflt (refine' now_ct ?B ?F ?X ?T ?hk ?N ?m1 ?hom ?m2 ?I ?m3 ?hcv ?hct ?z0 ?z1 ?hpl ?ln ?hd ?hu ?_; (case B => k_asm); (case F => k_asm); (case X => k_asm); (case T => k_asm); (case hk => first | exact rfl | assumption); (case N => k_asm); (case m1 => k_mem); (case hom => assumption); (case m2 => k_mem); (case I => assumption); (case m3 => k_mem); (case hcv => assumption); (case hct => first | assumption | (refine CutsIn.mono (by assumption) ?_; intro p hp; repeat (first | exact List.mem_append_right _ hp | refine List.Mem.tail _ ?_))); (case z0 => omega); (case z1 => omega); (case hpl => assumption); (case ln => omega); (case hd => ktr_room); (case hu => ktr_units)); intro t' h' tk' F' N'; (try dsimp only); (try k_fold)))
local macro_rules | `(tactic| walk_at "call ref") => `(tactic| (k_here; (with_reducible show wpAny _ _ (call (Value.ref 167) _) _ _ _); k_dflt (refine' next_ct ?B ?F ?X ?T ?hk ?N ?m1 ?hom ?m2 ?hb ?z0 ?z1 ?ln ?hd ?hu ?_; (case B => k_asm); (case F => k_asm); (case X => k_asm); (case T => k_asm); (case hk => first | exact rfl | assumption); (case N => k_asm); (case m1 => k_mem); (case hom => assumption); (case m2 => k_mem); (case hb => assumption); (case z0 => omega); (case z1 => omega); (case ln => omega); (case hd => ktr_room); (case hu => ktr_units)); intro t' h' tk' F' N'; (try dsimp only); (try k_fold)))
local macro_rules | `(tactic| walk_at "call ref") => `(tactic| (k_here; (with_reducible show wpAny _ _ (call (Value.ref 125) _) _ _ _); k_dflt (refine' find_ct ?B ?F ?X ?N ?U ?T ?hk ?m1 ?m2 ?I ?ok ?z0 ?z1 ?ln ?hd ?hu ?_; (case B => k_asm); (case F => k_asm); (case X => k_asm); (case T => k_asm); (case hk => first | exact rfl | assumption); (case N => k_asm); (case m1 => k_mem); (case m2 => k_mem); (case U => k_updF); (case I => assumption); (case ok => assumption); (case z0 => omega); (case z1 => omega); (case ln => omega); (case hd => ktr_room); (case hu => ktr_units)); intro t' h' tk' vs' nv' I' ok' F' N'; (have hn9 := And.left ok'); (try dsimp only); (try k_fold)))
local macro_rules | `(tactic| walk_at "call ref") => `(tactic| (k_here; (with_reducible show wpAny _ _ (call (Value.ref 104) _) _ _ _); k_dflt (refine' coll_ct ?B ?F ?X ?T ?hk ?N ?U ?m1 ?m2 ?I ?m4 ?m5 ?a ?b ?hd ?hu ?_; (case B => k_asm); (case F => k_asm); (case X => k_asm); (case T => k_asm); (case hk => first | exact rfl | assumption); (case N => k_asm); (case m1 => k_mem); (case m2 => k_mem); (case U => k_updF); (case I => assumption); (case m4 => k_mem); (case m5 => k_mem); (case a => omega); (case b => omega); (case hd => ktr_room); (case hu => ktr_units)); intro h' tk' tv' I' F' N'; (try dsimp only); (try k_fold)))
local macro_rules | `(tactic| walk_at "call ref") => `(tactic| (k_here; (with_reducible show wpAny _ _ (call (Value.ref 111) _) _ _ _); k_dflt (refine' deact_ct ?B ?F ?X ?T ?hk ?N ?U ?m1 ?m2 ?I ?ok ?z0 ?z1 ?ln ?hd ?hu ?_; (case B => k_asm); (case F => k_asm); (case X => k_asm); (case T => k_asm); (case hk => first | exact rfl | assumption); (case N => k_asm); (case m1 => k_mem); (case m2 => k_mem); (case U => k_updF); (case I => assumption); (case ok => assumption); (case z0 => omega); (case z1 => omega); (case ln => omega); (case hd => ktr_room); (case hu => ktr_units)); intro h' tk' vs' nv' I' ok' F' N'; (have hn9 := And.left ok'); (try dsimp only); (try k_fold)))
local macro_rules | `(tactic| walk_at "call type:list") => `(tactic| (k_here; (with_reducible show wpAny _ _ (call (Value.type _) [Value.ref _]) _ _ _); k_dflt (refine' copy_at ?F ?N ?p ?z ?_; (case F => k_asm); (case N => k_asm); (case p => k_mem); (case z => first | omega | (rw [List.length_map]; omega)); k_whole); intro D' c' h' F' N' l1; (try k_lt l1); (try k_sweep)))
theorem perm_d {α : Type} {a b c d e f : α} {r o : List α} : ∀ p, p ∈ a :: (r ++ (b :: c :: d :: e :: f :: o)) ↔ p ∈ b :: a :: c :: d :: e :: f :: (r ++ o) := by
  intro p
  simp only [List.mem_cons, List.mem_append]
  constructor
  · rintro (h | h | h | h | h | h | h | h) <;> simp [h]
  · rintro (h | h | h | h | h | h | h | h) <;> simp [h]
theorem perm_e {α : Type} {a b c d e f : α} {r o : List α} : ∀ p, p ∈ b :: c :: d :: e :: f :: (r ++ ([a] ++ o)) ↔ p ∈ a :: b :: c :: d :: e :: f :: (r ++ o) := by
  intro p
  simp only [List.mem_cons, List.mem_append, List.not_mem_nil, or_false]
  constructor
  · rintro (h | h | h | h | h | h | h | h) <;> simp [h]
  · rintro (h | h | h | h | h | h | h | h) <;> simp [h]
theorem nin {α : Type} {a b : α} {l : List α} (h : a ∉ l) (hb : b ∈ l) : a ≠ b := fun e => h (e ▸ hb)
structure LS where
  vb : List Value
  av : List Bool
  lv : List Value
  ln : List Int
theorem deed_ct {w : World} {mean : ExcName → Option Value} {mg mb : Str → Option Value}
    {dp un : Nat} {gd : Option (List Code)} {cn : Str} {cs : Scope} {ea : Addr} {ccd : Value} {cl : List (Str × Addr)} {outer : List Env}
    {A₀ : Around} {base h₀ : Heap} {L : Addr} {m : Str → Option Value} {s : Shared} {Q E : Value → Shared → Prop}
    {own ro fx : List (Addr × Obj)} {rw ix dix md pl tr nx al le cu : Addr} {om : Obj} {T1 : Nat → Tok} {nr np nn nt na nl nc q n b : Nat} {xs ds : List Addr} {pls : List Nat} {ln : List Int} {av : List Bool} {cuts : List (Nat × Int)} {vs tv lv cv vb pv : List Value} {nv : List Int}
    {kind f g c : Int} {t1 t2 t3 t4 : Tok}
    (B : Below A₀ base outer h₀) (F : Fr h₀ L s.heap m) (X : (hd.heap_39 w.params).In h₀)
    (T : Top hd.view_39 (looseW hd.view_39 [Str.ofString "_Delimiter"]) mean mg mb h₀) (hk : cs.kind = .function)
    (N : News h₀ L s.heap ((nx, listOf vs.toArray nn) :: (tr, listOf tv.toArray nt) :: (al, listOf vb.toArray na) :: (le, listOf lv.toArray nl) :: (cu, listOf cv.toArray nc) :: (ro ++ own)))
    (hoff : OwnOff own (nx :: tr :: al :: le :: cu :: ds)) (hnd : (nx :: tr :: al :: le :: cu :: ds).Nodup)
    (hxl : xs.length = q) (hdl : ds.length = q) (hpl : pls.length = q) (hq1 : 1 ≤ q) (hq2 : q ≤ 12)
    (hn : n ≤ 64) (hpn : ∀ i, i < q → pls.getD i 0 + 1 < n)
    (mrw : (rw, listOf (xs.map Value.ref).toArray nr) ∈ own) (min : ∀ i (h : i < xs.length), (xs[i], instObj 72 (ds[i]'(by omega))) ∈ own)
    (mix : (ix, instObj 128 dix) ∈ own) (mdix : (dix, idxO w.params tr nx T1 2) ∈ own)
    (mmd : (md, om) ∈ own) (hom : om.IsDictOf (PySem.strKind PySem.Challenge.rw_fe5001_01.row.prog w) (modKv pl le cu al))
    (mpl : (pl, listOf pv.toArray np) ∈ own) (Ipl : IntsAre pv (pls.map fun p : Nat => (p : Int)))
    (V : Val w.params ds pls n q b cuts ln av vs nv tv lv cv vb ro fx) (hb : b ≤ 60) (hfx : ∀ p ∈ fx, p ∈ own)
    (hk0 : 0 ≤ kind) (hf0 : 0 ≤ f) (hf1 : f ≤ q) (hg0 : 0 ≤ g) (hc0 : 0 ≤ c) (hc1 : c < 4)
    (hd : dp + 20 < recursionLimit) (hu : un + 200 < cLine)
    (hret : ∀ h' tk' ex cuts' ln' av' vs' nv' tv' lv' cv' vb' nc' ro', Val w.params ds pls n q (b + 1) cuts' ln' av' vs' nv' tv' lv' cv' vb' ro' (ex ++ fx) → (∀ p ∈ ex, ∀ r ∈ (nx, listOf vs.toArray nn) :: (tr, listOf tv.toArray nt) :: (al, listOf vb.toArray na) :: (le, listOf lv.toArray nl) :: (cu, listOf cv.toArray nc) :: (ro ++ own), r.1 < p.1) → ex.length ≤ 1 → Fr h₀ L h' m →
      News h₀ L h' ((nx, listOf vs'.toArray nn) :: (tr, listOf tv'.toArray nt) :: (al, listOf vb'.toArray na) :: (le, listOf lv'.toArray nl) :: (cu, listOf cv'.toArray nc') :: (ro' ++ (ex ++ own))) → Q (.bool true) { s with heap := h', toks := tk' }) :
    wpAny (model PySem.Challenge.rw_fe5001_01.row.prog w) (ktrTop dp un gd cn cs L ea ccd cl outer) (call (.ref 174) [.ref rw, .ref ix, .ref md, .int kind t1, .int f t2, .int g t3, .int c t4]) Q E s := by
  obtain ⟨hll, hal, hcn, hcl, Inx, hok, Itr, Ile, Bal, hcv, hctf, hro⟩ := V
  have hct := hctf.mono hfx
  have hT := treeOf_length n cuts
  have hml := List.length_map (f := fun p : Nat => (p : Int)) (as := pls)
  have hnl := hok.1
  refine wpAny_call ?_
  k_dflt cell_enter
  walk2
  have hz0 : 0 ≤ f.fmod (xs.length : Int) := Int.fmod_nonneg_of_pos _ (by omega)
  have hz1 : f.fmod (xs.length : Int) < xs.length := Int.fmod_lt_of_pos _ (by omega)
  generalize f.fmod (xs.length : Int) = z at *
  obtain ⟨kn, rfl⟩ := Int.eq_ofNat_of_zero_le hz0
  have hkx : kn < xs.length := by omega
  have hkd : kn < ds.length := by omega
  have hx9 : (xs.map Value.ref)[(kn : Int).toNat]? = some (.ref xs[kn]) := by
    rw [show ((kn : Int).toNat) = kn from rfl, List.getElem?_map, List.getElem?_eq_getElem hkx]; rfl
  have hm9 := min kn hkx
  obtain ⟨l0, k9, T9, hr9⟩ := hro.at_ kn hkd
  have hd9 : (ds[kn], delO w.params (pls.getD kn 0 : Nat) (ln.getD kn 0) l0 k9 T9 7) ∈ ro ++ own := List.mem_append_left _ (List.mem_of_getElem? hr9)
  have hpk := hpn kn (by omega)
  have hp9 : (pls.map fun p : Nat => (p : Int)).getD (kn : Int).toNat 0 = ((pls.getD kn 0 : Nat) : Int) := by
    rw [show ((kn : Int).toNat) = kn from rfl, List.getD_eq_getElem?_getD, List.getD_eq_getElem?_getD, List.getElem?_map]
    rw [List.getElem?_eq_getElem (by omega)]; rfl
  have hqs := qsum_treeOf hn hpk cuts hcn
  have hnd9 := hnd
  simp only [List.nodup_cons, List.mem_cons, not_or, List.nodup_nil] at hnd9
  have hdsa : ∀ p ∈ ro, p.1 ∈ ds := fun p hp => by rw [← hro.ads]; exact List.mem_map.mpr ⟨p, hp, rfl⟩
  have ho1 : ∀ p ∈ ro ++ own, p.1 ≠ nx := fun p hp => (List.mem_append.mp hp).elim (fun q e => hnd9.1.2.2.2.2 (e ▸ hdsa p q)) fun q => hoff p q _ (.head _)
  have ho2 : ∀ p ∈ ro ++ own, p.1 ≠ tr := fun p hp => (List.mem_append.mp hp).elim (fun q e => hnd9.2.1.2.2.2 (e ▸ hdsa p q)) fun q => hoff p q _ (.tail _ (.head _))
  have ho3 : ∀ p ∈ ro ++ own, p.1 ≠ al := fun p hp => (List.mem_append.mp hp).elim (fun q e => hnd9.2.2.1.2.2 (e ▸ hdsa p q)) fun q => hoff p q _ (.tail _ (.tail _ (.head _)))
  have ho4 : ∀ p ∈ ro ++ own, p.1 ≠ le := fun p hp => (List.mem_append.mp hp).elim (fun q e => hnd9.2.2.2.1.2 (e ▸ hdsa p q)) fun q => hoff p q _ (.tail _ (.tail _ (.tail _ (.head _))))
  have ho5 : ∀ p ∈ ro ++ own, p.1 ≠ cu := fun p hp => (List.mem_append.mp hp).elim (fun q e => hnd9.2.2.2.2.1 (e ▸ hdsa p q)) fun q => hoff p q _ (.tail _ (.tail _ (.tail _ (.tail _ (.head _)))))
  have hne : (@Ne Nat nx tr ∧ @Ne Nat nx al ∧ @Ne Nat nx le ∧ @Ne Nat nx cu) ∧ (@Ne Nat tr al ∧ @Ne Nat tr le ∧ @Ne Nat tr cu) ∧ (@Ne Nat al le ∧ @Ne Nat al cu) ∧ @Ne Nat le cu :=
    ⟨⟨hnd9.1.1, hnd9.1.2.1, hnd9.1.2.2.1, hnd9.1.2.2.2.1⟩, ⟨hnd9.2.1.1, hnd9.2.1.2.1, hnd9.2.1.2.2.1⟩, ⟨hnd9.2.2.1.1, hnd9.2.2.1.2.1⟩, hnd9.2.2.2.1.1⟩
  have hnd8 := hnd9
  clear hnd9
  k_steps
  · rename Fr h₀ L _ m => kF
    rename News h₀ L _ _ => kN
    have e : (((pls.getD kn 0 : Nat) : Int) - qsum (treeOf n cuts) (pls.getD kn 0 + 1) == ((pls.getD kn 0 : Nat) : Int) - cutSum cuts (pls.getD kn 0)) = true := by rw [hqs]; exact beq_self_eq_true _
    rw [e]
    exact hret _ _ [] _ _ _ _ _ _ _ _ _ _ _ ⟨hll, hal, hcn, by omega, Inx, hok, Itr, Ile, Bal, hcv, hctf, hro⟩ (fun _ h => nomatch h) (Nat.zero_le _) kF kN
  · rename Fr h₀ L _ m => kF
    rename News h₀ L _ _ => kN
    rename @LT.lt Nat _ nx _ ∧ _ => l5
    rename IntsAre _ (addCh _ _ _) => I5
    have hall := allLt_mem l5.2.2.2.2.2
    rw [hT, ← treeOf_snoc n cuts (pls.getD kn 0, c)] at I5
    rw [hp9, List.push_toArray] at kN
    refine hret _ _ [_] (cuts ++ [(pls.getD kn 0, c)]) _ _ _ _ _ _ _ _ _ _ ⟨hll, hal, ?_, by rw [List.length_append]; exact Nat.succ_le_succ hcl, Inx, hok, I5, Ile, Bal, by rw [List.length_append, List.length_append, hcv]; rfl, CutsIn.snoc (hctf.mono fun p hp => .tail _ hp) hcv (.head _), hro⟩ ?_ (Nat.le_refl _) kF (News.re kN fun p hp => (perm_e p).mp hp)
    · intro d hd
      rcases List.mem_append.mp hd with q | q
      · exact hcn d q
      · rw [List.mem_singleton.mp q]; dsimp only; omega
    · intro p hp r hr
      rw [List.mem_singleton.mp hp]
      exact allLt_mem (show AllLt _ ((nx, listOf vs.toArray nn) :: (tr, listOf tv.toArray nt) :: (al, listOf vb.toArray na) :: (le, listOf lv.toArray nl) :: (cu, listOf cv.toArray nc) :: (ro ++ own)) from l5) r hr
  · rename Fr h₀ L _ m => kF
    rename News h₀ L _ _ => kN
    rename NextOk _ (List.set _ _ _) => ok5
    rename LSm.BoolsAre _ (List.set _ _ _) => B5
    rename IntsAre _ _ => I5
    exact hret _ _ [] _ _ _ _ _ _ _ _ _ _ _ ⟨hll, (List.length_set ..).trans hal, hcn, by omega, I5, ok5, Itr, Ile, B5, hcv, hctf, hro⟩ (fun _ h => nomatch h) (Nat.zero_le _) kF kN
  · rename News _ _ _ _ => N5
    rename Fr _ _ _ _ => F5
    rename Below _ _ _ _ => B5
    rename Frag.In _ _ => X5
    rename Top _ _ _ _ _ _ => T5
    rename @LT.lt Nat _ nx _ ∧ _ => l5
    generalize hE : (if (xs.length : Int) < f + c then (xs.length : Int) else f + c) = E at *
    have hE0 : f ≤ E ∧ E ≤ q := by rw [← hE]; split <;> omega
    obtain ⟨fn, rfl⟩ := Int.eq_ofNat_of_zero_le hf0
    obtain ⟨en, rfl⟩ := Int.eq_ofNat_of_zero_le (show 0 ≤ E by omega)
    have hfe : fn ≤ en := by omega
    have hall := allLt_mem l5.2.2.2.2.2
    refine drange_ct0 (own := _ :: (tr, _) :: (al, _) :: (le, _) :: (cu, _) :: own) (ro := ro) B5 F5 X5 T5 rfl (News.re N5 fun p hp => (perm_d p).mp hp) ?o1 ?o2 ?o3 (.tail _ (.tail _ (.tail _ (.tail _ (.tail _ mix))))) (.tail _ (.tail _ (.tail _ (.tail _ (.tail _ mdix))))) Inx (.head _) (by omega) (fun i h => .tail _ (.tail _ (.tail _ (.tail _ (.tail _ (min i h)))))) hro (by omega) (by omega) hok (by omega) (by omega) (by omega) ?hd ?hu ?_
    case hd => ktr_room
    case hu => ktr_units
    case o1 => exact List.forall_mem_append.mpr ⟨fun p q => ho1 p (List.mem_append_left _ q), List.forall_mem_cons.mpr ⟨Nat.ne_of_gt l5.1, List.forall_mem_cons.mpr ⟨hne.1.1.symm, List.forall_mem_cons.mpr ⟨hne.1.2.1.symm, List.forall_mem_cons.mpr ⟨hne.1.2.2.1.symm, List.forall_mem_cons.mpr ⟨hne.1.2.2.2.symm, fun p q => ho1 p (List.mem_append_right _ q)⟩⟩⟩⟩⟩⟩
    case o2 =>
      have hD : ∀ b ∈ ds, @LT.lt Nat _ b _ := fun b hb => by
        rw [← hro.ads] at hb
        obtain ⟨p, hp, e⟩ := List.mem_map.mp hb
        rw [← e]
        exact hall p (List.mem_append_left _ hp)
      exact List.forall_mem_cons.mpr ⟨fun b hb => Nat.ne_of_gt (hD b hb), List.forall_mem_cons.mpr ⟨fun b hb => nin hnd8.2.1.2.2.2 hb, List.forall_mem_cons.mpr ⟨fun b hb => nin hnd8.2.2.1.2.2 hb, List.forall_mem_cons.mpr ⟨fun b hb => nin hnd8.2.2.2.1.2 hb, List.forall_mem_cons.mpr ⟨fun b hb => nin hnd8.2.2.2.2.1 hb, fun p q b hb => hoff p q b (.tail _ (.tail _ (.tail _ (.tail _ (.tail _ hb)))))⟩⟩⟩⟩⟩
    case o3 => exact hnd8.2.2.2.2.2
    intro h5 tk5 vs5 nv5 ro5 I5 ok5 R5 F6 N6
    have N7 := News.re N6 fun p hp => (perm_d p).mpr hp
    clear N6 N5 F5
    have hdsa5 : ∀ p ∈ ro5, p.1 ∈ ds := fun p hp => by rw [← R5.ads]; exact List.mem_map.mpr ⟨p, hp, rfl⟩
    have hp1 : ∀ p ∈ ro5 ++ own, p.1 ≠ nx := fun p hp => (List.mem_append.mp hp).elim (fun q e => hnd8.1.2.2.2.2 (e ▸ hdsa5 p q)) fun q => hoff p q _ (.head _)
    have hp3 : ∀ p ∈ ro5 ++ own, p.1 ≠ al := fun p hp => (List.mem_append.mp hp).elim (fun q e => hnd8.2.2.1.2.2 (e ▸ hdsa5 p q)) fun q => hoff p q _ (.tail _ (.tail _ (.head _)))
    have hp4 : ∀ p ∈ ro5 ++ own, p.1 ≠ le := fun p hp => (List.mem_append.mp hp).elim (fun q e => hnd8.2.2.2.1.2 (e ▸ hdsa5 p q)) fun q => hoff p q _ (.tail _ (.tail _ (.tail _ (.head _))))
    k_steps
    rename Fr _ _ _ _ => F8
    with_unfolding_all refine' For_invVF F8 ?k1 ?k2 ?_; (case k1 => exact rfl); (case k2 => exact rfl); k_whole
    k_steps
    rename Fr _ _ _ _ => F9
    rename News _ _ _ _ => N9
    rename IsRange _ _ _ _ _ _ _ _ => R9
    refine range_state (σ := LS) (n := en - fn) (fun c => (nx, listOf vs5.toArray nn) :: (tr, listOf tv.toArray nt) :: (al, listOf c.vb.toArray na) :: (le, listOf c.lv.toArray nl) :: (cu, listOf cv.toArray nc) :: (ro5 ++ own)) (fun _ => []) [Str.ofString "j"]
      (fun i c => c.av = clrA av fn (fn + i) ∧ c.ln = clrL av ln fn (fn + i) ∧ LSm.BoolsAre c.vb c.av ∧ IntsAre c.lv c.ln) ⟨vb, av, lv, ln⟩ rfl R9 (range_small2 (by omega) (by omega) (by omega)) (by rw [range_size2 (by omega)]; omega) F9 (News.re N9 (by intro p hp; repeat (first | exact hp | refine List.Mem.tail _ ?_))) (List.forall_mem_nil _)
      ⟨(clrA_nil av (fun j h1 h2 => by omega)).symm, (clrL_nil av ln (fun j h1 h2 => by omega)).symm, Bal, Ile⟩ ?_ ?_
    · rintro i tj ⟨vb2, av2, lv2, ln2⟩ u I it h tk hi hI hoff9 ⟨e1, e2, B2, I2⟩ F10 N10
      dsimp only at e1 e2 B2 I2 F10 N10
      replace hI := allLt_of hI
      simp only [AllLt, and_true] at hI
      have hl2 : av2.length = q := by rw [e1, clrA_length]; exact hal
      have hl3 : ln2.length = q := by rw [e2, clrL_length]; exact hll
      clear N9 F9
      have ej : ((fn : Int) + (i : Int)).toNat = fn + i := by omega
      have hold : fn + i < av.length := by omega
      have hsame : av2.getD (fn + i) false = av.getD (fn + i) false := by rw [e1, clrA_getD, if_neg (by omega)]
      have hofI : ∀ c : LS, ∀ p ∈ (nx, listOf vs5.toArray nn) :: (tr, listOf tv.toArray nt) :: (al, listOf c.vb.toArray na) :: (le, listOf c.lv.toArray nl) :: (cu, listOf cv.toArray nc) :: (ro5 ++ own), p.1 ≠ I := fun c =>
        List.forall_mem_cons.mpr ⟨Nat.ne_of_lt hI.1, List.forall_mem_cons.mpr ⟨Nat.ne_of_lt hI.2.1, List.forall_mem_cons.mpr ⟨Nat.ne_of_lt hI.2.2.1, List.forall_mem_cons.mpr ⟨Nat.ne_of_lt hI.2.2.2.1, List.forall_mem_cons.mpr ⟨Nat.ne_of_lt hI.2.2.2.2.1, fun p q => Nat.ne_of_lt (allLt_mem hI.2.2.2.2.2 p q)⟩⟩⟩⟩⟩
      k_steps
      · rename Fr _ _ _ _ => F11
        rename News _ _ _ (_ :: _) => N11
        rename List.getD _ _ _ = true => hv
        rename LSm.BoolsAre (List.set _ _ _) _ => B11
        rename IntsAre (List.set _ _ _) _ => I11
        rw [ej] at hv
        rw [ej] at B11 I11
        rw [ej] at N11
        rw [hsame] at hv
        refine rend_state ⟨_, av2.set (fn + i) false, _, ln2.set (fn + i) 0⟩ F11 N11 (.head _) (fun p hp => .tail _ hp) (hofI ⟨_, [], _, []⟩) (List.forall_mem_nil _) (by
          intro z _ h3
          simp only [kstB, h3, Bool.false_eq_true, if_false]
          try (rw [if_neg (by intro e; subst e; simp at h3)])) ⟨?_, ?_, B11, I11⟩
        · dsimp only
          rw [e1, show fn + (i + 1) = (fn + i) + 1 from rfl, clrA_snoc av (by omega) hold]
        · dsimp only
          rw [e2, show fn + (i + 1) = (fn + i) + 1 from rfl, clrL_live av ln (by omega) (by omega) hv]
      · rename List.getD _ _ _ = false => hv
        rw [ej, hsame] at hv
        refine rend_state ⟨vb2, av2, lv2, ln2⟩ F10 N10 (.head _) (fun p hp => .tail _ hp) (hofI ⟨vb2, [], lv2, []⟩) (List.forall_mem_nil _) (by
          intro z _ h3
          simp only [kstB, h3, Bool.false_eq_true, if_false]
          try (rw [if_neg (by intro e; subst e; simp at h3)])) ⟨?_, ?_, B2, I2⟩
        · dsimp only
          rw [e1, show fn + (i + 1) = (fn + i) + 1 from rfl, clrA_dead av hv]
        · dsimp only
          rw [e2, show fn + (i + 1) = (fn + i) + 1 from rfl, clrL_dead av ln hv]
    · rintro ⟨vb2, av2, lv2, ln2⟩ u h tk ⟨e1, e2, B2, I2⟩ F10 N10
      dsimp only at e1 e2 B2 I2 F10 N10
      rw [show fn + (en - fn) = en by omega] at e1 e2
      subst e1
      subst e2
      k_steps
      rename Fr h₀ L _ m => kF
      rename News h₀ L _ _ => kN
      exact hret _ _ [] _ _ _ _ _ _ _ _ _ _ _ ⟨(clrL_length ..).trans hll, (clrA_length ..).trans hal, hcn, by omega, I5, ok5, Itr, I2, B2, hcv, hctf, R5⟩ (fun _ h => nomatch h) (Nat.zero_le _) kF kN
  · rename Fr h₀ L _ m => kF
    rename News h₀ L _ _ => kN
    rename NextOk _ _ => ok5
    rename IntsAre _ _ => I5
    rw [beq_self_eq_true]
    exact hret _ _ [] _ _ _ _ _ _ _ _ _ _ _ ⟨hll, hal, hcn, by omega, I5, ok5, Itr, Ile, Bal, hcv, hctf, hro⟩ (fun _ h => nomatch h) (Nat.zero_le _) kF kN
end Mine
end
/- Whole -/
section
open PySem PySem.W PyProof.Rows PySem.Calls PyProof.V PySem.Spec
set_option Elab.async false
set_option maxRecDepth 100000
set_option maxHeartbeats 8000000
set_option pp.deepTerms true
set_option linter.unusedVariables false
namespace Mine
local macro_rules | `(tactic| k_steps) => `(tactic| repeat' ((fail_if_success (with_reducible show wpAny _ _ (exec (Stmt.While _ _ _ _) _) _ _ _)); (fail_if_success (with_reducible show wpAny _ _ (exec (Stmt.For _ _ _ _ _) _) _ _ _)); (fail_if_success (with_reducible show wpAny _ _ (pyIter (Value.ref _)) _ _ _)); first | (k_unfold; (try dsimp only)) | (k_end; wrow_close) | walk1 | (dsimp only; walk1) | (leave1; walk_say "STEP leave1"; (try dsimp only)) | fail "no step"))
local macro_rules | `(tactic| k_mem) => `(tactic| assumption)
local macro_rules | `(tactic| k_mem) => `(tactic| first | assumption | (refine List.mem_append_right _ ?_; assumption))
local macro_rules | `(tactic| k_all) => `(tactic| assumption)
local macro_rules | `(tactic| size_fits) => `(tactic| ((try simp only [List.size_toArray]); rw [sizeLine_eq]; omega))
local macro_rules | `(tactic| walk_at "subscriptTail") => `(tactic| (k_here; (with_reducible show wpAny _ _ (subscriptTail _ _ (Value.ref _) (Value.str _ _)) _ _ _); k_dflt (refine' kda_item (knd := PySem.strKind _ _) ?N ?p ?d (strKind_is _ _ _ _) ?l ?_; (case N => k_asm); (case p => k_mem); (case d => assumption); (case l => rfl); k_whole)))
local macro_rules | `(tactic| walk_at "call builtin:len") => `(tactic| (k_here; (with_reducible show wpAny _ _ (call (Value.builtin _) [Value.ref _]) _ _ _); k_dflt (refine' len_at ?N ?p ?l ?z ?_; (case N => k_asm); (case p => k_mem); (case l => first | assumption | exact List.length_map ..); (case z => omega); k_whole)))
local macro_rules | `(tactic| walk_at "subscriptTail") => `(tactic| (k_here; (with_reducible show wpAny _ _ (subscriptTail _ _ (Value.ref _) (Value.int _ _)) _ _ _); k_dflt (refine' at_item ?N ?p ?a ?b ?c ?_; (case N => k_asm); (case p => k_mem); (case a => omega); (case b => omega); (case c => assumption); k_whole)))
local macro_rules | `(tactic| walk_at "call ref") => `(tactic| (k_here; (with_reducible show wpAny _ _ (call (Value.ref 97) _) _ _ _); k_dflt (refine' current_ct ?B ?F ?X ?N ?T ?hk ?m1 ?m2 ?m3 ?I ?m4 ?m5 ?a ?b ?hd ?hu ?_; (case B => k_asm); (case F => k_asm); (case X => k_asm); (case T => k_asm); (case hk => first | exact rfl | assumption); (case N => k_asm); (case m1 => k_mem); (case m2 => k_mem); (case m3 => k_mem); (case I => assumption); (case m4 => k_mem); (case m5 => k_mem); (case a => omega); (case b => omega); (case hd => ktr_room); (case hu => ktr_units)); intro t' h' tk' F' N'; (try dsimp only); (try k_fold)))
local macro_rules | `(tactic| walk_at "call ref") => `(tactic| (k_here; (with_reducible show wpAny _ _ (call (Value.ref 160) _) _ _ _); k_dflt (refine' now_ct ?B ?F ?X ?T ?hk ?N ?m1 ?hom ?m2 ?I ?m3 ?hcv ?hct ?z0 ?z1 ?hpl ?ln ?hd ?hu ?_; (case B => k_asm); (case F => k_asm); (case X => k_asm); (case T => k_asm); (case hk => first | exact rfl | assumption); (case N => k_asm); (case m1 => k_mem); (case hom => assumption); (case m2 => k_mem); (case I => assumption); (case m3 => k_mem); (case hcv => assumption); (case hct => first | assumption | (refine CutsIn.mono (by assumption) ?_; intro p hp; repeat (first | exact hp | exact List.mem_append_right _ hp | refine List.Mem.tail _ ?_))); (case z0 => omega); (case z1 => omega); (case hpl => assumption); (case ln => omega); (case hd => ktr_room); (case hu => ktr_units)); intro t' h' tk' F' N'; (try dsimp only); (try k_fold)))
local macro_rules | `(tactic| walk_at "call ref") => `(tactic| (k_here; (with_reducible show wpAny _ _ (call (Value.ref 167) _) _ _ _); k_dflt (refine' next_ct ?B ?F ?X ?T ?hk ?N ?m1 ?hom ?m2 ?hb ?z0 ?z1 ?ln ?hd ?hu ?_; (case B => k_asm); (case F => k_asm); (case X => k_asm); (case T => k_asm); (case hk => first | exact rfl | assumption); (case N => k_asm); (case m1 => k_mem); (case hom => assumption); (case m2 => k_mem); (case hb => assumption); (case z0 => omega); (case z1 => omega); (case ln => omega); (case hd => ktr_room); (case hu => ktr_units)); intro t' h' tk' F' N'; (try dsimp only); (try k_fold)))
local macro_rules | `(tactic| walk_at "call ref") => `(tactic| (k_here; (with_reducible show wpAny _ _ (call (Value.ref 125) _) _ _ _); k_dflt (refine' find_ct ?B ?F ?X ?N ?U ?T ?hk ?m1 ?m2 ?I ?ok ?z0 ?z1 ?ln ?hd ?hu ?_; (case B => k_asm); (case F => k_asm); (case X => k_asm); (case T => k_asm); (case hk => first | exact rfl | assumption); (case N => k_asm); (case m1 => k_mem); (case m2 => k_mem); (case U => k_updF); (case I => assumption); (case ok => assumption); (case z0 => omega); (case z1 => omega); (case ln => omega); (case hd => ktr_room); (case hu => ktr_units)); intro t' h' tk' vs' nv' I' ok' F' N'; (have hn9 := And.left ok'); (try dsimp only); (try k_fold)))
theorem whole_ct {w : World} {mean : ExcName → Option Value} {mg mb : Str → Option Value}
    {dp un : Nat} {gd : Option (List Code)} {cn : Str} {cs : Scope} {ea : Addr} {ccd : Value} {cl : List (Str × Addr)} {outer : List Env}
    {A₀ : Around} {base h₀ : Heap} {L : Addr} {m : Str → Option Value} {s : Shared} {Q E : Value → Shared → Prop}
    {own ro : List (Addr × Obj)} {rw ix dix md pl tr nx al le cu : Addr} {om : Obj} {T1 : Nat → Tok} {nr np nn nt na nl nc q n b : Nat} {xs ds : List Addr} {pls : List Nat} {ln : List Int} {av : List Bool} {cuts : List (Nat × Int)} {vs tv lv cv vb pv : List Value} {nv : List Int}
    (B : Below A₀ base outer h₀) (F : Fr h₀ L s.heap m) (X : (hd.heap_39 w.params).In h₀)
    (T : Top hd.view_39 (looseW hd.view_39 [Str.ofString "_Delimiter"]) mean mg mb h₀) (hk : cs.kind = .function)
    (N : News h₀ L s.heap ((nx, listOf vs.toArray nn) :: own)) (hoff : OwnOff own [nx])
    (hxl : xs.length = q) (hdl : ds.length = q) (hpl : pls.length = q) (hq1 : 1 ≤ q) (hq2 : q ≤ 12)
    (hn : n ≤ 64) (hpn : ∀ i, i < q → pls.getD i 0 + 1 < n)
    (mrw : (rw, listOf (xs.map Value.ref).toArray nr) ∈ own) (min : ∀ i (h : i < xs.length), (xs[i], instObj 72 (ds[i]'(by omega))) ∈ own)
    (mix : (ix, instObj 128 dix) ∈ own) (mdix : (dix, idxO w.params tr nx T1 2) ∈ own)
    (mmd : (md, om) ∈ own) (hom : om.IsDictOf (PySem.strKind PySem.Challenge.rw_fe5001_01.row.prog w) (modKv pl le cu al))
    (mpl : (pl, listOf pv.toArray np) ∈ own) (Ipl : IntsAre pv (pls.map fun p : Nat => (p : Int)))
    (mtr : (tr, listOf tv.toArray nt) ∈ own) (mal : (al, listOf vb.toArray na) ∈ own) (mle : (le, listOf lv.toArray nl) ∈ own) (mcu : (cu, listOf cv.toArray nc) ∈ own) (mro : ∀ p ∈ ro, p ∈ own)
    (V : Val w.params ds pls n q b cuts ln av vs nv tv lv cv vb ro own)
    (hd : dp + 20 < recursionLimit) (hu : un + 200 < cLine)
    (hret : ∀ h' tk' vs' nv', IntsAre vs' nv' → NextOk nv' av → Fr h₀ L h' m → News h₀ L h' ((nx, listOf vs'.toArray nn) :: own) → Q (.bool true) { s with heap := h', toks := tk' }) :
    wpAny (model PySem.Challenge.rw_fe5001_01.row.prog w) (ktrTop dp un gd cn cs L ea ccd cl outer) (call (.ref 181) [.ref rw, .ref ix, .ref md]) Q E s := by
  obtain ⟨hll, hal, hcn, hcl, Inx, hok, Itr, Ile, Bal, hcv, hct, hro⟩ := V
  have hT := treeOf_length n cuts
  have hml := List.length_map (f := fun p : Nat => (p : Int)) (as := pls)
  have hnl := hok.1
  have hoff1 : ∀ p ∈ own, p.1 ≠ nx := fun p hp => hoff p hp _ (.head _)
  refine wpAny_call ?_
  k_dflt cell_enter
  k_steps
  rename Fr _ _ _ _ => F8
  with_unfolding_all refine' For_invVF F8 ?k1 ?k2 ?_; (case k1 => exact rfl); (case k2 => exact rfl); k_whole
  k_steps
  rename Fr _ _ _ _ => F9
  rename News _ _ _ _ => N9
  rename IsRange _ _ _ _ _ _ _ _ => R9
  refine range_state (σ := List Value × List Int) (n := q) (fun c => (nx, listOf c.1.toArray nn) :: own) (fun _ => []) [Str.ofString "k"]
    (fun i c => IntsAre c.1 c.2 ∧ NextOk c.2 av) ⟨vs, nv⟩ rfl R9 (range_small2 (by omega) (by omega) (by omega)) (by rw [range_size2 (by omega)]; omega) F9 (News.re N9 (by intro p hp; repeat (first | exact hp | refine List.Mem.tail _ ?_))) (List.forall_mem_nil _)
    ⟨Inx, hok⟩ ?_ ?_
  · rintro i tj ⟨vs2, nv2⟩ u I it h tk hi hI hoff9 ⟨I2, ok2⟩ F10 N10
    dsimp only at I2 ok2 F10 N10
    simp only [Int.zero_add] at F10
    replace hI := allLt_of hI
    simp only [AllLt] at hI
    have hkx : i < xs.length := by omega
    have hkd : i < ds.length := by omega
    have hx9 : (xs.map Value.ref)[(i : Int).toNat]? = some (.ref xs[i]) := by
      rw [show ((i : Int).toNat) = i from rfl, List.getElem?_map, List.getElem?_eq_getElem hkx]; rfl
    have hm9 := min i hkx
    obtain ⟨l0, k9, T9, hr9⟩ := hro.at_ i hkd
    have hd9 : (ds[i], delO w.params (pls.getD i 0 : Nat) (ln.getD i 0) l0 k9 T9 7) ∈ own := mro _ (List.mem_of_getElem? hr9)
    have hpk := hpn i (by omega)
    have hp9 : (pls.map fun p : Nat => (p : Int)).getD (i : Int).toNat 0 = ((pls.getD i 0 : Nat) : Int) := by
      rw [show ((i : Int).toNat) = i from rfl, List.getD_eq_getElem?_getD, List.getD_eq_getElem?_getD, List.getElem?_map]
      rw [List.getElem?_eq_getElem (by omega)]; rfl
    have hl9 : ln.getD (i : Int).toNat 0 = ln.getD i 0 := rfl
    have hqs := qsum_treeOf hn hpk cuts hcn
    have hn9 := ok2.1
    clear N9 F9
    k_steps
    all_goals (try (exfalso; omega))
    rename Fr _ _ _ _ => F11
    rename News _ _ _ (_ :: _) => N11
    rename NextOk _ _ => ok5
    rename IntsAre _ _ => I5
    refine rend_state (_, _) F11 N11 (.head _) (fun p hp => .tail _ hp) (List.forall_mem_cons.mpr ⟨Nat.ne_of_lt hI.1, fun p q => Nat.ne_of_lt (allLt_mem hI.2 p q)⟩) (List.forall_mem_nil _) (by
      intro z _ h3
      simp only [kstB, h3, Bool.false_eq_true, if_false]
      try (rw [if_neg (by intro e; subst e; simp at h3)])) ⟨I5, ok5⟩
  · rintro ⟨vs2, nv2⟩ u h tk ⟨I2, ok2⟩ F10 N10
    dsimp only at I2 ok2 F10 N10
    have hn9 := ok2.1
    k_steps
    rename Fr h₀ L _ m => kF
    rename News h₀ L _ _ => kN
    rename NextOk _ _ => ok5
    rename IntsAre _ _ => I5
    have e : ((nextOf av (xs.length : Int).toNat : Nat) : Int) = (xs.length : Int) := by
      rw [show ((xs.length : Int).toNat) = xs.length from rfl, nextOf_big (by omega)]
    rw [e, beq_self_eq_true]
    exact hret _ _ _ _ I5 ok5 kF kN
end Mine
end
/- Sides -/
section
open PySem PySem.W PyProof.Rows PySem.Calls PyProof.V PySem.Spec
set_option Elab.async false
set_option maxRecDepth 100000
set_option maxHeartbeats 8000000
set_option linter.unusedVariables false
namespace Mine
/-- one side: what stands -/
structure SR where
  rw : Addr
  ix : Addr
  dix : Addr
  md : Addr
  pl : Addr
  nx : Addr
  tr : Addr
  al : Addr
  le : Addr
  cu : Addr
  xs : List Addr
  ds : List Addr
  om : Obj
  T1 : Nat → Tok
  pls : List Nat
  pv : List Value
  nr : Nat
  np : Nat
  nn : Nat
  nt : Nat
  na : Nat
  nl : Nat
  q : Nat
  n : Nat
/-- one side: what turns -/
structure SV where
  cuts : List (Nat × Int)
  ln : List Int
  av : List Bool
  vs : List Value
  nv : List Int
  tv : List Value
  lv : List Value
  cv : List Value
  vb : List Value
  nc : Nat
  ro : List (Addr × Obj)
abbrev Mt (a : SR) (v : SV) : List (Addr × Obj) := (a.nx, listOf v.vs.toArray a.nn) :: (a.tr, listOf v.tv.toArray a.nt) :: (a.al, listOf v.vb.toArray a.na) :: (a.le, listOf v.lv.toArray a.nl) :: (a.cu, listOf v.cv.toArray v.nc) :: v.ro
abbrev muts (a : SR) : List Addr := a.nx :: a.tr :: a.al :: a.le :: a.cu :: a.ds
structure Fix (w : World) (a : SR) (own : List (Addr × Obj)) : Prop where
  hxl : a.xs.length = a.q
  hdl : a.ds.length = a.q
  hpl : a.pls.length = a.q
  hq1 : 1 ≤ a.q
  hq2 : a.q ≤ 12
  hn : a.n ≤ 64
  hpn : ∀ i, i < a.q → a.pls.getD i 0 + 1 < a.n
  mrw : (a.rw, listOf (a.xs.map Value.ref).toArray a.nr) ∈ own
  min : ∀ i (h : i < a.xs.length), (a.xs[i], instObj 72 (a.ds[i]'(by omega))) ∈ own
  mix : (a.ix, instObj 128 a.dix) ∈ own
  mdix : (a.dix, idxO w.params a.tr a.nx a.T1 2) ∈ own
  mmd : (a.md, a.om) ∈ own
  hom : a.om.IsDictOf (PySem.strKind PySem.Challenge.rw_fe5001_01.row.prog w) (modKv a.pl a.le a.cu a.al)
  mpl : (a.pl, listOf a.pv.toArray a.np) ∈ own
  Ipl : IntsAre a.pv (a.pls.map fun p : Nat => (p : Int))
theorem Fix.mono {w : World} {a : SR} {o o' : List (Addr × Obj)} (h : Fix w a o) (hs : ∀ p ∈ o, p ∈ o') : Fix w a o' :=
  ⟨h.hxl, h.hdl, h.hpl, h.hq1, h.hq2, h.hn, h.hpn, hs _ h.mrw, fun i q => hs _ (h.min i q), hs _ h.mix, hs _ h.mdix, hs _ h.mmd, h.hom, hs _ h.mpl, h.Ipl⟩
abbrev VOk (w : World) (a : SR) (b : Nat) (v : SV) (fx : List (Addr × Obj)) : Prop :=
  Val w.params a.ds a.pls a.n a.q b v.cuts v.ln v.av v.vs v.nv v.tv v.lv v.cv v.vb v.ro fx
theorem Val.mono {P : Params} {ds : List Addr} {pls : List Nat} {n q b : Nat} {cuts : List (Nat × Int)} {ln : List Int} {av : List Bool} {vs : List Value} {nv : List Int} {tv lv cv vb : List Value} {ro fx fx' : List (Addr × Obj)}
    (h : Val P ds pls n q b cuts ln av vs nv tv lv cv vb ro fx) {b' : Nat} (hb : b ≤ b') (hs : ∀ p ∈ fx, p ∈ fx') : Val P ds pls n q b' cuts ln av vs nv tv lv cv vb ro fx' :=
  ⟨h.hll, h.hla, h.hcn, Nat.le_trans h.hcl hb, h.hInx, h.hok, h.hItr, h.hIle, h.hBal, h.hcv, h.hct.mono hs, h.hro⟩
/-- what may turn stands apart -/
structure Ap (a : SR) (own : List (Addr × Obj)) : Prop where
  nd : (muts a).Nodup
  off : OwnOff own (muts a)
theorem mt_ads {w : World} {a : SR} {b : Nat} {v : SV} {fx : List (Addr × Obj)} (V : VOk w a b v fx) : (Mt a v).map (·.1) = muts a := by
  show a.nx :: a.tr :: a.al :: a.le :: a.cu :: v.ro.map (·.1) = _
  rw [V.hro.ads]
section
variable {w : World} {mean : ExcName → Option Value} {mg mb : Str → Option Value}
    {dp un : Nat} {gd : Option (List Code)} {cn : Str} {cs : Scope} {ea : Addr} {ccd : Value} {cl : List (Str × Addr)} {outer : List Env}
    {A₀ : Around} {base h₀ : Heap} {L : Addr} {m : Str → Option Value} {s : Shared} {Q E : Value → Shared → Prop}
theorem deed_sd {a : SR} {v : SV} {own fx : List (Addr × Obj)} {b : Nat} {kind f g c : Int} {t1 t2 t3 t4 : Tok}
    (B : Below A₀ base outer h₀) (F : Fr h₀ L s.heap m) (X : (hd.heap_39 w.params).In h₀)
    (T : Top hd.view_39 (looseW hd.view_39 [Str.ofString "_Delimiter"]) mean mg mb h₀) (hk : cs.kind = .function)
    (N : News h₀ L s.heap (Mt a v ++ own)) (D : Ap a own) (Y : Fix w a own) (V : VOk w a b v fx) (hb : b ≤ 60) (hfx : ∀ p ∈ fx, p ∈ own)
    (hk0 : 0 ≤ kind) (hf0 : 0 ≤ f) (hf1 : f ≤ a.q) (hg0 : 0 ≤ g) (hc0 : 0 ≤ c) (hc1 : c < 4)
    (hd : dp + 20 < recursionLimit) (hu : un + 200 < cLine)
    (hret : ∀ h' tk' ex v', VOk w a (b + 1) v' (ex ++ fx) → (∀ p ∈ ex, ∀ r ∈ Mt a v ++ own, r.1 < p.1) → ex.length ≤ 1 → Fr h₀ L h' m → News h₀ L h' (Mt a v' ++ (ex ++ own)) → Q (.bool true) { s with heap := h', toks := tk' }) :
    wpAny (model PySem.Challenge.rw_fe5001_01.row.prog w) (ktrTop dp un gd cn cs L ea ccd cl outer) (call (.ref 174) [.ref a.rw, .ref a.ix, .ref a.md, .int kind t1, .int f t2, .int g t3, .int c t4]) Q E s := by
  obtain ⟨h1, h2⟩ := D
  exact deed_ct B F X T hk N h2 h1 Y.hxl Y.hdl Y.hpl Y.hq1 Y.hq2 Y.hn Y.hpn Y.mrw Y.min Y.mix Y.mdix Y.mmd Y.hom Y.mpl Y.Ipl V hb hfx hk0 hf0 hf1 hg0 hc0 hc1 hd hu
    fun h' tk' ex cuts' ln' av' vs' nv' tv' lv' cv' vb' nc' ro' V' hf hl F' N' => hret h' tk' ex ⟨cuts', ln', av', vs', nv', tv', lv', cv', vb', nc', ro'⟩ V' hf hl F' N'
theorem whole_sd {a : SR} {v : SV} {own fx : List (Addr × Obj)} {b : Nat}
    (B : Below A₀ base outer h₀) (F : Fr h₀ L s.heap m) (X : (hd.heap_39 w.params).In h₀)
    (T : Top hd.view_39 (looseW hd.view_39 [Str.ofString "_Delimiter"]) mean mg mb h₀) (hk : cs.kind = .function)
    (N : News h₀ L s.heap (Mt a v ++ own)) (D : Ap a own) (Y : Fix w a own) (V : VOk w a b v fx) (hfx : ∀ p ∈ fx, p ∈ own)
    (hd : dp + 20 < recursionLimit) (hu : un + 200 < cLine)
    (hret : ∀ h' tk' v', VOk w a b v' fx → Fr h₀ L h' m → News h₀ L h' (Mt a v' ++ own) → Q (.bool true) { s with heap := h', toks := tk' }) :
    wpAny (model PySem.Challenge.rw_fe5001_01.row.prog w) (ktrTop dp un gd cn cs L ea ccd cl outer) (call (.ref 181) [.ref a.rw, .ref a.ix, .ref a.md]) Q E s := by
  obtain ⟨h1, h2⟩ := D
  have hs : ∀ p ∈ own, p ∈ (a.tr, listOf v.tv.toArray a.nt) :: (a.al, listOf v.vb.toArray a.na) :: (a.le, listOf v.lv.toArray a.nl) :: (a.cu, listOf v.cv.toArray v.nc) :: (v.ro ++ own) := fun p hp => .tail _ (.tail _ (.tail _ (.tail _ (List.mem_append_right _ hp))))
  have Y' := Y.mono hs
  have V' := Val.mono V (Nat.le_refl b) fun p hp => hs p (hfx p hp)
  have hoff : OwnOff ((a.tr, listOf v.tv.toArray a.nt) :: (a.al, listOf v.vb.toArray a.na) :: (a.le, listOf v.lv.toArray a.nl) :: (a.cu, listOf v.cv.toArray v.nc) :: (v.ro ++ own)) [a.nx] := fun p hp b hb e => by
    rw [List.mem_singleton.mp hb] at e
    have hn := (List.nodup_cons.mp h1).1
    have key : p.1 ∈ a.tr :: a.al :: a.le :: a.cu :: a.ds ∨ p ∈ own := by
      rcases List.mem_cons.mp hp with q | hp
      · rw [q]; exact .inl (.head _)
      · rcases List.mem_cons.mp hp with q | hp
        · rw [q]; exact .inl (.tail _ (.head _))
        · rcases List.mem_cons.mp hp with q | hp
          · rw [q]; exact .inl (.tail _ (.tail _ (.head _)))
          · rcases List.mem_cons.mp hp with q | hp
            · rw [q]; exact .inl (.tail _ (.tail _ (.tail _ (.head _))))
            · rcases List.mem_append.mp hp with q | q
              · exact .inl (.tail _ (.tail _ (.tail _ (.tail _ (by rw [← V.hro.ads]; exact List.mem_map.mpr ⟨p, q, rfl⟩)))))
              · exact .inr q
    rcases key with q | q
    · rw [e] at q; exact hn q
    · exact h2 p q _ (.head _) e
  exact whole_ct B F X T hk N hoff Y'.hxl Y'.hdl Y'.hpl Y'.hq1 Y'.hq2 Y'.hn Y'.hpn Y'.mrw Y'.min Y'.mix Y'.mdix Y'.mmd Y'.hom Y'.mpl Y'.Ipl (.head _) (.tail _ (.head _)) (.tail _ (.tail _ (.head _))) (.tail _ (.tail _ (.tail _ (.head _)))) (fun p hp => .tail _ (.tail _ (.tail _ (.tail _ (List.mem_append_left _ hp))))) V' hd hu
    fun h' tk' vs' nv' I' ok' F' N' => hret h' tk' { v with vs := vs', nv := nv' } ⟨V.hll, V.hla, V.hcn, V.hcl, I', ok', V.hItr, V.hIle, V.hBal, V.hcv, V.hct, V.hro⟩ F' N'
end
end Mine
end
/- Build -/
section
open PySem PySem.W PyProof.Rows PySem.Calls PyProof.V PySem.Spec
set_option Elab.async false
set_option maxRecDepth 100000
set_option maxHeartbeats 8000000
set_option linter.unusedVariables false
namespace Mine
theorem pvLen {pv : List Value} {pls : List Nat} {q : Nat} (h : IntsAre pv (pls.map fun x : Nat => (x : Int))) (e : pls.length = q) : pv.length = q := by rw [h.length, List.length_map, e]
theorem lvLen {lv : List Value} {ln : List Int} {q : Nat} (h : IntsAre lv ln) (e : ln.length = q) : lv.length = q := by rw [h.length, e]
/-- a side, built -/
structure SB where
  a : SR
  v : SV
  fx : List (Addr × Obj)
def segs (own : List (Addr × Obj)) : List SB → List (Addr × Obj)
  | [] => own
  | s :: r => Mt s.a s.v ++ (s.fx ++ segs own r)
theorem segs_sub {own : List (Addr × Obj)} : ∀ {l : List SB}, ∀ p ∈ own, p ∈ segs own l
  | [], _, h => h
  | _ :: _, p, h => List.mem_append_right _ (List.mem_append_right _ (segs_sub p h))
structure Blt (w : World) (top : Addr) (own W : List (Addr × Obj)) (q : Nat) (s : SB) : Prop where
  hq : s.a.q = q
  fix : Fix w s.a (s.fx ++ own)
  val : VOk w s.a 0 s.v (s.fx ++ own)
  nd : (muts s.a).Nodup
  mgt : ∀ b ∈ muts s.a, @LT.lt Nat _ top b ∧ ∀ p ∈ W, p.1 < b
  fgt : ∀ p ∈ s.fx, ∀ r ∈ W, r.1 < p.1
  ftop : ∀ p ∈ s.fx, @LT.lt Nat _ top p.1
  off : OwnOff s.fx (muts s.a)
def BltAll (w : World) (top : Addr) (own : List (Addr × Obj)) (qs : List Nat) : List SB → Prop
  | [] => True
  | s :: r => Blt w top own (segs own r) (qs.getD r.length 0) s ∧ BltAll w top own qs r
theorem BltAll.low {w : World} {top : Addr} {own : List (Addr × Obj)} {qs : List Nat} : ∀ {l : List SB}, BltAll w top own qs l → ∀ {p}, p ∈ segs own l → p ∈ own ∨ @LT.lt Nat _ top p.1
  | [], _, p, h => .inl h
  | s :: r, hB, p, h => by
    rcases List.mem_append.mp h with q | h
    · refine .inr (hB.1.mgt p.1 ?_).1
      rw [← mt_ads hB.1.val]
      exact List.mem_map.mpr ⟨p, q, rfl⟩
    · rcases List.mem_append.mp h with q | h
      · exact .inr (hB.1.ftop p q)
      · exact BltAll.low hB.2 h
/-- one shape: a tuple of two lists and a number -/
def ShapeAt (own : List (Addr × Obj)) (v : Value) (q : Nat) : Prop :=
  ∃ (tu pl le : Addr) (pv lv : List Value) (c1 c2 : Nat) (pls : List Nat) (ln : List Int) (pn : Nat) (tq : Tok), v = .ref tu ∧ (tu, tup3 pl le (pn : Int) tq) ∈ own ∧ (pl, listOf pv.toArray c1) ∈ own ∧ (le, listOf lv.toArray c2) ∈ own ∧
    IntsAre pv (pls.map fun x : Nat => (x : Int)) ∧ IntsAre lv ln ∧ pls.length = q ∧ ln.length = q ∧ 1 ≤ q ∧ q ≤ 12 ∧ (∀ x ∈ pls, x < pn) ∧ pn ≤ 60
structure OS where
  sides : List SB
  n1 : Nat
  n2 : Nat
  n3 : Nat
structure RS where
  xs : List Addr
  ds : List Addr
  ins : List (Addr × Obj)
  ro : List (Addr × Obj)
  n : Nat
theorem RowD.snoc {P : Params} {ds : List Addr} {pls : List Nat} {ln : List Int} {ro : List (Addr × Obj)} (h : RowD P ds pls ln ro) {dx : Addr} {l0 k : Int} {T : Nat → Tok} {i : Nat} (hi : ds.length = i) :
    RowD P (ds ++ [dx]) pls ln (ro ++ [(dx, delO P (pls.getD i 0 : Nat) (ln.getD i 0) l0 k T 7)]) := by
  have hr : ro.length = i := by rw [← hi, ← h.ads, List.length_map]
  refine ⟨by rw [List.map_append, h.ads]; rfl, fun j hj => ?_⟩
  rcases Nat.lt_or_ge j ds.length with h1 | h1
  · obtain ⟨l0', k', T', e⟩ := h.at_ j h1
    refine ⟨l0', k', T', ?_⟩
    rw [List.getElem?_append_left (by omega), List.getElem_append_left h1]; exact e
  · have hj' : j = i := by simp at hj; omega
    subst hj'
    refine ⟨l0, k, T, ?_⟩
    rw [List.getElem?_append_right (by omega), hr, Nat.sub_self, List.getElem_append_right (by omega)]
    simp
/-- a mark: the walk is in a loop's turn -/
structure InLoop : Prop where
theorem perm_rw {α : Type} {a b c d e : α} {r : List α} : ∀ p ∈ a :: b :: c :: d :: e :: r, p ∈ e :: a :: b :: c :: d :: r := by
  intro p
  simp only [List.mem_cons]
  rintro (h | h | h | h | h | h) <;> simp [h]
theorem perm_x {α : Type} {x y a b c d e f : α} {ins ro W : List α} : ∀ p ∈ a :: b :: c :: d :: e :: f :: ((x :: ins) ++ ((ro ++ [y]) ++ W)), p ∈ x :: y :: a :: b :: c :: d :: e :: f :: (ins ++ (ro ++ W)) := by
  intro p
  simp only [List.mem_cons, List.mem_append, List.not_mem_nil, or_false]
  rintro (h | h | h | h | h | h | (h | h) | (h | h) | h) <;> simp [h]
end Mine
end
/- Build2 -/
section
open PySem PySem.W PyProof.Rows PySem.Calls PyProof.V PySem.Spec
set_option Elab.async false
set_option maxRecDepth 100000
set_option maxHeartbeats 8000000
set_option linter.unusedVariables false
namespace Mine
theorem ints_rep (t : Tok) : ∀ n : Nat, IntsAre (List.replicate n (Value.int 0 t)) (List.replicate n (0 : Int))
  | 0 => .nil
  | n + 1 => by rw [List.replicate_succ, List.replicate_succ]; exact .cons _ _ (ints_rep t n)
theorem bools_rep : ∀ n : Nat, LSm.BoolsAre (List.replicate n (Value.bool true)) (List.replicate n true)
  | 0 => .nil
  | n + 1 => by rw [List.replicate_succ, List.replicate_succ]; exact .cons _ (bools_rep n)
theorem mk_blt {w : World} {mi : Addr} {own W : List (Addr × Obj)} {q pn : Nat} {rw_ ix dix md pl nx tr al le cu : Addr} {xs ds : List Addr} {om : Obj} {T1 : Nat → Tok} {pls : List Nat} {pv lv nv : List Value} {ln : List Int}
    {nr np nn nl : Nat} {t0 : Tok} {ro ins : List (Addr × Obj)} {D : Addr}
    (hmi : @LT.lt Nat _ mi rw_) (hW : ∀ p ∈ W, p.1 < rw_) (gd : ∀ b ∈ ds, @LT.lt Nat _ rw_ b) (gs : ∀ p ∈ ins, @LT.lt Nat _ rw_ p.1 ∧ p.1 ∉ ds)
    (hr : @LT.lt Nat _ rw_ D) (hi : ∀ p ∈ ins, p.1 < D) (hb : ∀ p ∈ ro, p.1 < D)
    (c1 : @LT.lt Nat _ D dix) (c2 : @LT.lt Nat _ dix ix) (c3 : @LT.lt Nat _ ix tr) (c4 : @LT.lt Nat _ tr nx) (c5 : @LT.lt Nat _ nx md) (c6 : @LT.lt Nat _ md le) (c7 : @LT.lt Nat _ le cu) (c8 : @LT.lt Nat _ cu al)
    (g1 : xs.length = q) (g2 : ds.length = q) (gn : ds.Nodup) (gR : RowD w.params ds pls ln ro) (gi : ∀ j (h : j < xs.length) (h2 : j < ds.length), (xs[j], instObj 72 ds[j]) ∈ ins)
    (j1 : pls.length = q) (j2 : ln.length = q) (j3 : 1 ≤ q) (j4 : q ≤ 12) (j5 : ∀ x ∈ pls, x < pn) (j6 : pn ≤ 60)
    (hpl : (pl, listOf pv.toArray np) ∈ own) (J1 : IntsAre pv (pls.map fun x : Nat => (x : Int))) (J2 : IntsAre lv ln)
    (hom : om.IsDictOf (PySem.strKind PySem.Challenge.rw_fe5001_01.row.prog w) (modKv pl le cu al))
    (Inv : IntsAre nv ((List.range (q + 1)).map fun i : Nat => (i : Int))) :
    Blt w mi own W q ⟨⟨rw_, ix, dix, md, pl, nx, tr, al, le, cu, xs, ds, om, T1, pls, pv, nr, np, nn, 0, 0, nl, q, pn + 1⟩,
      ⟨[], ln, List.replicate q true, nv, (List.range (q + 1)).map fun i : Nat => (i : Int), List.replicate (pn + 1) (Value.int 0 t0), lv, [], List.replicate q (Value.bool true), 0, ro⟩,
      (rw_, listOf (xs.map Value.ref).toArray nr) :: (ix, instObj 128 dix) :: (dix, idxO w.params tr nx T1 2) :: (md, om) :: ins⟩ := by
  have hds : ∀ b ∈ ds, @LT.lt Nat _ b D := fun b hb' => by
    rw [← gR.ads] at hb'
    obtain ⟨p, hp, e⟩ := List.mem_map.mp hb'
    rw [← e]; exact hb p hp
  have hDx : @LT.lt Nat _ D ix := Nat.lt_trans c1 c2
  have hDt : @LT.lt Nat _ D tr := Nat.lt_trans hDx c3
  have hDn : @LT.lt Nat _ D nx := Nat.lt_trans hDt c4
  have hDm : @LT.lt Nat _ D md := Nat.lt_trans hDn c5
  have hDl : @LT.lt Nat _ D le := Nat.lt_trans hDm c6
  have hDc : @LT.lt Nat _ D cu := Nat.lt_trans hDl c7
  have hDa : @LT.lt Nat _ D al := Nat.lt_trans hDc c8
  have key : ∀ b, @LT.lt Nat _ rw_ b → @LT.lt Nat _ mi b ∧ ∀ p ∈ W, p.1 < b := fun b h => ⟨Nat.lt_trans hmi h, fun p hp => Nat.lt_trans (hW p hp) h⟩
  have big : ∀ b, @LT.lt Nat _ D b → @LT.lt Nat _ rw_ b := fun b h => Nat.lt_trans hr h
  have hlo : ∀ x, @LT.lt Nat _ x D → x ∉ ds → ∀ b ∈ nx :: tr :: al :: le :: cu :: ds, x ≠ b := by
    intro x hx hn b hb e
    rw [← e] at hb
    rcases List.mem_cons.mp hb with h | hb
    · rw [h] at hx; exact Nat.lt_asymm hx hDn
    · rcases List.mem_cons.mp hb with h | hb
      · rw [h] at hx; exact Nat.lt_asymm hx hDt
      · rcases List.mem_cons.mp hb with h | hb
        · rw [h] at hx; exact Nat.lt_asymm hx hDa
        · rcases List.mem_cons.mp hb with h | hb
          · rw [h] at hx; exact Nat.lt_asymm hx hDl
          · rcases List.mem_cons.mp hb with h | hb
            · rw [h] at hx; exact Nat.lt_asymm hx hDc
            · exact hn hb
  have hhi : ∀ x, @LT.lt Nat _ D x → x ≠ nx → x ≠ tr → x ≠ al → x ≠ le → x ≠ cu → ∀ b ∈ nx :: tr :: al :: le :: cu :: ds, x ≠ b := by
    intro x hx n1 n2 n3 n4 n5 b hb e
    rw [← e] at hb
    rcases List.mem_cons.mp hb with h | hb
    · exact n1 h
    · rcases List.mem_cons.mp hb with h | hb
      · exact n2 h
      · rcases List.mem_cons.mp hb with h | hb
        · exact n3 h
        · rcases List.mem_cons.mp hb with h | hb
          · exact n4 h
          · rcases List.mem_cons.mp hb with h | hb
            · exact n5 h
            · exact Nat.lt_asymm hx (hds x hb)
  have hrn : rw_ ∉ ds := fun h => Nat.lt_irrefl _ (gd _ h)
  refine ⟨rfl, ⟨g1, g2, j1, j3, j4, by show pn + 1 ≤ 64; omega, ?_, .head _, fun i h => .tail _ (.tail _ (.tail _ (.tail _ (List.mem_append_left _ (gi i h _))))), .tail _ (.head _), .tail _ (.tail _ (.head _)), .tail _ (.tail _ (.tail _ (.head _))), hom, .tail _ (.tail _ (.tail _ (.tail _ (List.mem_append_right _ hpl)))), J1⟩,
    ⟨j2, List.length_replicate, fun _ h => (nomatch h), Nat.le_refl 0, Inv, ?_, ints_rep t0 (pn + 1), J2, bools_rep q, rfl, fun j h => absurd h (Nat.not_lt_zero _), gR⟩, ?_, ?_, ?_, ?_, ?_⟩
  · intro i hi'
    have h1 : i < pls.length := by rw [j1]; exact hi'
    show pls.getD i 0 + 1 < pn + 1
    rw [List.getD_eq_getElem?_getD, List.getElem?_eq_getElem h1]
    have := j5 _ (List.getElem_mem h1)
    show pls[i] + 1 < pn + 1
    omega
  · exact NextOk.start q
  · show (nx :: tr :: al :: le :: cu :: ds).Nodup
    have nds : ∀ x, @LT.lt Nat _ D x → x ∉ ds := fun x h hx => Nat.lt_asymm h (hds x hx)
    refine List.nodup_cons.mpr ⟨?_, List.nodup_cons.mpr ⟨?_, List.nodup_cons.mpr ⟨?_, List.nodup_cons.mpr ⟨?_, List.nodup_cons.mpr ⟨nds _ hDc, gn⟩⟩⟩⟩⟩
    · intro h
      rcases List.mem_cons.mp h with h | h
      · exact Nat.ne_of_gt c4 h
      · rcases List.mem_cons.mp h with h | h
        · exact Nat.ne_of_lt (Nat.lt_trans c5 (Nat.lt_trans c6 (Nat.lt_trans c7 c8))) h
        · rcases List.mem_cons.mp h with h | h
          · exact Nat.ne_of_lt (Nat.lt_trans c5 c6) h
          · rcases List.mem_cons.mp h with h | h
            · exact Nat.ne_of_lt (Nat.lt_trans c5 (Nat.lt_trans c6 c7)) h
            · exact nds _ hDn h
    · intro h
      rcases List.mem_cons.mp h with h | h
      · exact Nat.ne_of_lt (Nat.lt_trans c4 (Nat.lt_trans c5 (Nat.lt_trans c6 (Nat.lt_trans c7 c8)))) h
      · rcases List.mem_cons.mp h with h | h
        · exact Nat.ne_of_lt (Nat.lt_trans c4 (Nat.lt_trans c5 c6)) h
        · rcases List.mem_cons.mp h with h | h
          · exact Nat.ne_of_lt (Nat.lt_trans c4 (Nat.lt_trans c5 (Nat.lt_trans c6 c7))) h
          · exact nds _ hDt h
    · intro h
      rcases List.mem_cons.mp h with h | h
      · exact Nat.ne_of_gt (Nat.lt_trans c7 c8) h
      · rcases List.mem_cons.mp h with h | h
        · exact Nat.ne_of_gt c8 h
        · exact nds _ hDa h
    · intro h
      rcases List.mem_cons.mp h with h | h
      · exact Nat.ne_of_lt c7 h
      · exact nds _ hDl h
  · show ∀ b ∈ nx :: tr :: al :: le :: cu :: ds, _
    intro b hb'
    refine key b ?_
    rcases List.mem_cons.mp hb' with h | hb'
    · rw [h]; exact big _ hDn
    · rcases List.mem_cons.mp hb' with h | hb'
      · rw [h]; exact big _ hDt
      · rcases List.mem_cons.mp hb' with h | hb'
        · rw [h]; exact big _ hDa
        · rcases List.mem_cons.mp hb' with h | hb'
          · rw [h]; exact big _ hDl
          · rcases List.mem_cons.mp hb' with h | hb'
            · rw [h]; exact big _ hDc
            · exact gd b hb'
  · intro p hp
    rcases List.mem_cons.mp hp with h | hp
    · rw [h]; exact hW
    · refine (key p.1 ?_).2
      rcases List.mem_cons.mp hp with h | hp
      · rw [h]; exact big _ hDx
      · rcases List.mem_cons.mp hp with h | hp
        · rw [h]; exact big _ c1
        · rcases List.mem_cons.mp hp with h | hp
          · rw [h]; exact big _ hDm
          · exact (gs p hp).1
  · intro p hp
    rcases List.mem_cons.mp hp with h | hp
    · rw [h]; exact hmi
    · refine (key p.1 ?_).1
      rcases List.mem_cons.mp hp with h | hp
      · rw [h]; exact big _ hDx
      · rcases List.mem_cons.mp hp with h | hp
        · rw [h]; exact big _ c1
        · rcases List.mem_cons.mp hp with h | hp
          · rw [h]; exact big _ hDm
          · exact (gs p hp).1
  · show OwnOff _ (nx :: tr :: al :: le :: cu :: ds)
    intro p hp
    rcases List.mem_cons.mp hp with h | hp
    · rw [h]; exact hlo _ hr hrn
    · rcases List.mem_cons.mp hp with h | hp
      · rw [h]
        exact hhi _ hDx (Nat.ne_of_lt (Nat.lt_trans c3 c4)) (Nat.ne_of_lt c3) (Nat.ne_of_lt (Nat.lt_trans c3 (Nat.lt_trans c4 (Nat.lt_trans c5 (Nat.lt_trans c6 (Nat.lt_trans c7 c8)))))) (Nat.ne_of_lt (Nat.lt_trans c3 (Nat.lt_trans c4 (Nat.lt_trans c5 c6)))) (Nat.ne_of_lt (Nat.lt_trans c3 (Nat.lt_trans c4 (Nat.lt_trans c5 (Nat.lt_trans c6 c7)))))
      · rcases List.mem_cons.mp hp with h | hp
        · rw [h]
          have c3 : @LT.lt Nat _ dix tr := Nat.lt_trans c2 c3
          exact hhi _ c1 (Nat.ne_of_lt (Nat.lt_trans c3 c4)) (Nat.ne_of_lt c3) (Nat.ne_of_lt (Nat.lt_trans c3 (Nat.lt_trans c4 (Nat.lt_trans c5 (Nat.lt_trans c6 (Nat.lt_trans c7 c8)))))) (Nat.ne_of_lt (Nat.lt_trans c3 (Nat.lt_trans c4 (Nat.lt_trans c5 c6)))) (Nat.ne_of_lt (Nat.lt_trans c3 (Nat.lt_trans c4 (Nat.lt_trans c5 (Nat.lt_trans c6 c7)))))
        · rcases List.mem_cons.mp hp with h | hp
          · rw [h]
            exact hhi _ hDm (Nat.ne_of_gt c5) (Nat.ne_of_gt (Nat.lt_trans c4 c5)) (Nat.ne_of_lt (Nat.lt_trans c6 (Nat.lt_trans c7 c8))) (Nat.ne_of_lt c6) (Nat.ne_of_lt (Nat.lt_trans c6 c7))
          · exact hlo _ (hi p hp) (gs p hp).2
theorem perm_side {α : Type} {al l cu le md nx tr x dx D I mi xi li rw_ : α} {ins ro W : List α} : ∀ p ∈ I :: mi :: xi :: li :: ((nx :: tr :: al :: le :: cu :: ro) ++ ((rw_ :: x :: dx :: md :: ins) ++ W)),
    p ∈ al :: l :: cu :: le :: md :: nx :: tr :: x :: dx :: D :: I :: mi :: xi :: li :: rw_ :: (ins ++ (ro ++ W)) := by
  intro p
  simp only [List.mem_cons, List.mem_append]
  rintro (h | h | h | h | (h | h | h | h | h | h) | (h | h | h | h | h) | h) <;> simp [h]
theorem rev_snoc {α β : Type} (f : α → β) (l : List α) (s : α) : (l.reverse.map f).toArray.push (f s) = ((s :: l).reverse.map f).toArray := by simp
/-- two sides, apart -/
structure Two (w : World) (A B : SR) (rest : List (Addr × Obj)) : Prop where
  na : (muts A).Nodup
  nb : (muts B).Nodup
  ab : ∀ x ∈ muts A, x ∉ muts B
  oa : OwnOff rest (muts A)
  ob : OwnOff rest (muts B)
  fa : Fix w A rest
  fb : Fix w B rest
theorem Two.swap {w : World} {A B : SR} {rest : List (Addr × Obj)} (h : Two w A B rest) : Two w B A rest := ⟨h.nb, h.na, fun x hx hy => h.ab x hy hx, h.ob, h.oa, h.fb, h.fa⟩
theorem Two.ext {w : World} {A B : SR} {rest ex : List (Addr × Obj)} (h : Two w A B rest) (ha : ∀ p ∈ ex, ∀ b ∈ muts A, p.1 ≠ b) (hb : ∀ p ∈ ex, ∀ b ∈ muts B, p.1 ≠ b) : Two w A B (ex ++ rest) :=
  ⟨h.na, h.nb, h.ab, fun p hp => (List.mem_append.mp hp).elim (ha p) (h.oa p), fun p hp => (List.mem_append.mp hp).elim (hb p) (h.ob p), h.fa.mono fun p hp => List.mem_append_right _ hp, h.fb.mono fun p hp => List.mem_append_right _ hp⟩
theorem Two.ap {w : World} {A B : SR} {rest fx : List (Addr × Obj)} {b : Nat} {v : SV} (h : Two w A B rest) (V : VOk w B b v fx) : Ap A (Mt B v ++ rest) :=
  ⟨h.na, fun p hp => (List.mem_append.mp hp).elim (fun q x hx e => h.ab x hx (by rw [← e, ← mt_ads V]; exact List.mem_map.mpr ⟨p, q, rfl⟩)) (h.oa p)⟩
theorem two_start {w : World} {mi xi li : Addr} {own : List (Addr × Obj)} {q0 q1 : Nat} {s1 s0 : SB} {o1 o2 o3 : Obj} (h1 : Blt w mi own (segs own [s0]) q1 s1) (h0 : Blt w mi own own q0 s0) (hlx : @LT.lt Nat _ li xi) (hxm : @LT.lt Nat _ xi mi) :
    Two w s0.a s1.a ((mi, o1) :: (xi, o2) :: (li, o3) :: (s1.fx ++ (s0.fx ++ own))) := by
  have low : ∀ (a : SR), (∀ b ∈ muts a, @LT.lt Nat _ mi b) → (∀ p ∈ s1.fx ++ (s0.fx ++ own), ∀ b ∈ muts a, p.1 ≠ b) → OwnOff ((mi, o1) :: (xi, o2) :: (li, o3) :: (s1.fx ++ (s0.fx ++ own))) (muts a) := by
    intro a ha hr p hp b hb
    rcases List.mem_cons.mp hp with h | hp
    · rw [h]; exact Nat.ne_of_lt (ha b hb)
    · rcases List.mem_cons.mp hp with h | hp
      · rw [h]; exact Nat.ne_of_lt (Nat.lt_trans hxm (ha b hb))
      · rcases List.mem_cons.mp hp with h | hp
        · rw [h]; exact Nat.ne_of_lt (Nat.lt_trans hlx (Nat.lt_trans hxm (ha b hb)))
        · exact hr p hp b hb
  have hin : ∀ b ∈ muts s0.a, ∃ p ∈ segs own [s0], p.1 = b := fun b hb => by
    rw [← mt_ads h0.val] at hb
    obtain ⟨p, hp, e⟩ := List.mem_map.mp hb
    exact ⟨p, List.mem_append_left _ hp, e⟩
  have hsub : ∀ p ∈ s0.fx ++ own, p ∈ segs own [s0] := fun p hp => List.mem_append_right _ hp
  refine ⟨h0.nd, h1.nd, ?_, ?_, ?_, ?_, ?_⟩
  · intro x hx hy
    obtain ⟨p, hp, e⟩ := hin x hx
    exact Nat.lt_irrefl _ (by have := (h1.mgt x hy).2 p hp; rw [e] at this; exact this)
  · refine low _ (fun b hb => (h0.mgt b hb).1) fun p hp b hb => ?_
    rcases List.mem_append.mp hp with h | hp
    · obtain ⟨r, hr, e⟩ := hin b hb
      rw [← e]; exact Nat.ne_of_gt (h1.fgt p h r hr)
    · rcases List.mem_append.mp hp with h | hp
      · exact h0.off p h b hb
      · exact Nat.ne_of_lt ((h0.mgt b hb).2 p hp)
  · refine low _ (fun b hb => (h1.mgt b hb).1) fun p hp b hb => ?_
    rcases List.mem_append.mp hp with h | hp
    · exact h1.off p h b hb
    · exact Nat.ne_of_lt ((h1.mgt b hb).2 p (hsub p hp))
  · exact h0.fix.mono fun p hp => .tail _ (.tail _ (.tail _ (List.mem_append_right _ hp)))
  · refine h1.fix.mono fun p hp => ?_
    rcases List.mem_append.mp hp with h | h
    · exact .tail _ (.tail _ (.tail _ (List.mem_append_left _ h)))
    · exact .tail _ (.tail _ (.tail _ (List.mem_append_right _ (List.mem_append_right _ h))))
theorem perm_back {α : Type} {I : α} {a b e' e r : List α} : ∀ p ∈ I :: (a ++ (b ++ ((e' ++ e) ++ r))), p ∈ b ++ (a ++ (e' ++ (I :: (e ++ r)))) := by
  intro p
  simp only [List.mem_cons, List.mem_append]
  rintro (h | h | h | (h | h) | h) <;> simp [h]
theorem perm_back2 {α : Type} {I : α} {a b e' e r : List α} : ∀ p ∈ I :: (b ++ (a ++ ((e' ++ e) ++ r))), p ∈ b ++ (a ++ (e' ++ (I :: (e ++ r)))) := by
  intro p
  simp only [List.mem_cons, List.mem_append]
  rintro (h | h | h | (h | h) | h) <;> simp [h]
theorem perm_in {α : Type} {I : α} {a b c : List α} : ∀ p ∈ a ++ (b ++ (I :: c)), p ∈ I :: (a ++ (b ++ c)) := by
  intro p
  simp only [List.mem_cons, List.mem_append]
  rintro (h | h | h | h) <;> simp [h]
theorem perm_in2 {α : Type} {I : α} {a b c : List α} : ∀ p ∈ b ++ (a ++ (I :: c)), p ∈ I :: (a ++ (b ++ c)) := by
  intro p
  simp only [List.mem_cons, List.mem_append]
  rintro (h | h | h | h) <;> simp [h]
theorem perm_mid {α : Type} {a b c e' : List α} : ∀ p ∈ b ++ (a ++ (e' ++ c)), p ∈ a ++ (e' ++ (b ++ c)) := by
  intro p
  simp only [List.mem_append]
  rintro (h | h | h | h) <;> simp [h]
theorem len_two {α : Type} : ∀ {l : List α}, l.length = 2 → ∃ a b, l = [a, b]
  | [a, b], _ => ⟨a, b, rfl⟩
structure MS where
  v0 : SV
  v1 : SV
  ex : List (Addr × Obj)
/-- the side's addresses keep apart from one that was apart -/
theorem mt_off {w : World} {a : SR} {b b' : Nat} {v v' : SV} {fx fx' : List (Addr × Obj)} (V : VOk w a b v fx) (V' : VOk w a b' v' fx') {I : Addr} (h : ∀ p ∈ Mt a v, p.1 ≠ I) : ∀ p ∈ Mt a v', p.1 ≠ I := fun p hp => by
  have : p.1 ∈ (Mt a v').map (·.1) := List.mem_map.mpr ⟨p, hp, rfl⟩
  rw [mt_ads V', ← mt_ads V] at this
  obtain ⟨r, hr, e⟩ := List.mem_map.mp this
  rw [← e]; exact h r hr
theorem mt_lt {w : World} {a : SR} {b : Nat} {v : SV} {fx : List (Addr × Obj)} (V : VOk w a b v fx) {x : Addr} (h : ∀ p ∈ Mt a v, p.1 < x) : ∀ y ∈ muts a, x ≠ y := fun y hy => by
  rw [← mt_ads V] at hy
  obtain ⟨r, hr, e⟩ := List.mem_map.mp hy
  rw [← e]; exact Nat.ne_of_gt (h r hr)
theorem nx_off {w : World} {a : SR} {b : Nat} {v : SV} {own fx : List (Addr × Obj)} (D : Ap a own) (V : VOk w a b v fx) :
    ∀ p ∈ (a.tr, listOf v.tv.toArray a.nt) :: (a.al, listOf v.vb.toArray a.na) :: (a.le, listOf v.lv.toArray a.nl) :: (a.cu, listOf v.cv.toArray v.nc) :: (v.ro ++ own), p.1 ≠ a.nx := fun p hp e => by
  obtain ⟨h1, h2⟩ := D
  have hn := (List.nodup_cons.mp h1).1
  have key : p.1 ∈ a.tr :: a.al :: a.le :: a.cu :: a.ds ∨ p ∈ own := by
    rcases List.mem_cons.mp hp with q | hp
    · rw [q]; exact .inl (.head _)
    · rcases List.mem_cons.mp hp with q | hp
      · rw [q]; exact .inl (.tail _ (.head _))
      · rcases List.mem_cons.mp hp with q | hp
        · rw [q]; exact .inl (.tail _ (.tail _ (.head _)))
        · rcases List.mem_cons.mp hp with q | hp
          · rw [q]; exact .inl (.tail _ (.tail _ (.tail _ (.head _))))
          · rcases List.mem_append.mp hp with q | q
            · exact .inl (.tail _ (.tail _ (.tail _ (.tail _ (by rw [← V.hro.ads]; exact List.mem_map.mpr ⟨p, q, rfl⟩)))))
            · exact .inr q
  rcases key with q | q
  · rw [e] at q; exact hn q
  · exact h2 p q _ (.head _) e
theorem perm_start {α : Type} {mi xi li : α} {m0 m1 f0 f1 own : List α} : ∀ p ∈ m0 ++ (m1 ++ ([] ++ (mi :: xi :: li :: (f1 ++ (f0 ++ own))))), p ∈ mi :: xi :: li :: (m1 ++ (f1 ++ (m0 ++ (f0 ++ own)))) := by
  intro p
  simp only [List.mem_cons, List.mem_append, List.not_mem_nil, false_or]
  rintro (h | h | h | h | h | h | h | h) <;> simp [h]
theorem perm_ab {α : Type} {a b c : List α} : ∀ p ∈ b ++ (a ++ c), p ∈ a ++ (b ++ c) := by
  intro p
  simp only [List.mem_append]
  rintro (h | h | h) <;> simp [h]
end Mine
end
/- Law -/
section
open PySem PySem.W PyProof.Rows PySem.Calls PyProof.V PySem.Spec
set_option Elab.async false
set_option maxRecDepth 100000
set_option maxHeartbeats 8000000
set_option pp.deepTerms true
set_option linter.unusedVariables false
namespace Mine
local macro_rules | `(tactic| k_steps) => `(tactic| repeat' ((fail_if_success (with_reducible show wpAny _ _ (exec (Stmt.While _ _ _ _) _) _ _ _)); (fail_if_success (with_reducible show wpAny _ _ (exec (Stmt.For _ _ _ _ _) _) _ _ _)); (fail_if_success (with_reducible show wpAny _ _ (pyIter (Value.ref _)) _ _ _)); (fail_if_success (with_reducible show wpAny _ _ (call (Value.ref 174) _) _ _ _)); (fail_if_success (with_reducible show wpAny _ _ (call (Value.ref 181) _) _ _ _)); (fail_if_success (with_reducible show wpAny _ _ (call (Value.ref 125) _) _ _ _)); first | (k_unfold; (try dsimp only)) | (k_end; wrow_close) | walk1 | (dsimp only; walk1) | (leave1; walk_say "STEP leave1"; (try dsimp only)) | fail "no step"))
local macro_rules | `(tactic| k_mem) => `(tactic| assumption)
local macro_rules | `(tactic| walk_at "execs cons Assign cons") => `(tactic| ((rename InLoop => hInL); walk_at "execs cons"))
local macro_rules | `(tactic| k_mem) => `(tactic| first | assumption | (refine List.mem_append_right _ ?_; assumption) | (refine List.mem_append_right _ (List.mem_append_right _ ?_); assumption))
local macro_rules | `(tactic| k_all) => `(tactic| assumption)
local macro_rules | `(tactic| size_fits) => `(tactic| ((try simp only [List.size_toArray]); rw [sizeLine_eq]; omega))
local macro_rules | `(tactic| walk_at "subscriptTail") => `(tactic| (k_here; (with_reducible show wpAny _ _ (subscriptTail _ _ (Value.ref _) (Value.str _ _)) _ _ _); k_dflt (refine' kda_item (knd := PySem.strKind _ _) ?N ?p ?d (strKind_is _ _ _ _) ?l ?_; (case N => k_asm); (case p => k_mem); (case d => assumption); (case l => rfl); k_whole)))
local macro_rules | `(tactic| walk_at "call builtin:len") => `(tactic| (k_here; (with_reducible show wpAny _ _ (call (Value.builtin _) [Value.ref _]) _ _ _); k_dflt (refine' len_at ?N ?p ?l ?z ?_; (case N => k_asm); (case p => k_mem); (case l => first | assumption | exact List.length_map ..); (case z => omega); k_whole)))
local macro_rules | `(tactic| walk_at "call type:list") => `(tactic| (k_here; (with_reducible show wpAny _ _ (call (Value.type _) [Value.ref _]) _ _ _); k_dflt (refine' copy_at ?F ?N ?p ?z ?_; (case F => k_asm); (case N => k_asm); (case p => k_mem); (case z => first | omega | (rw [List.length_map]; omega)); k_whole); intro D' c' h' F' N' l1; (try k_lt l1); (try k_sweep)))
local macro_rules | `(tactic| walk_at "binaryOp Mult ref int") => `(tactic| (k_here; (with_reducible show wpAny _ _ (binaryOp Operator.Mult (Value.ref _) (Value.int _ _)) _ _ _); k_dflt (refine' rep_list ?F ?N ?p ?a ?b ?_; (case F => k_asm); (case N => k_asm); (case p => k_mem); (case a => omega); (case b => omega); k_whole); intro D' h' F' N' l1; (try k_lt l1); (try k_sweep)))
local macro_rules | `(tactic| walk_at "call ref") => `(tactic| (k_here; (with_reducible show wpAny _ _ (call (Value.ref 146) _) _ _ _); k_dflt (refine' shape_ct ?B ?F ?X ?T ?hk ?N ?U ?L ?I ?ln ?p0 ?a0 ?a1 ?hd ?hu ?_; (case B => k_asm); (case F => k_asm); (case X => k_asm); (case T => k_asm); (case hk => first | exact rfl | assumption); (case N => k_asm); (case U => k_updF); (case L => assumption); (case I => assumption); (case ln => omega); (case p0 => first | assumption | decide); (case a0 => first | assumption | decide); (case a1 => first | assumption | decide); (case hd => ktr_room); (case hu => ktr_units)); intro h' tk' tu' pl' le' pv' lv' c1' c2' pls' ln' pn' q' tq' p' tp' a' ta' n' I1' I2' l1' l2' l3' l4' l5' l6' k1' k2' k3' f1' f2' f3' F' N'; (have hq9 := pvLen I1' l1'); (have hq8 := lvLen I2' l2'); (try k_lt f1'); (try dsimp only); (try k_fold)))
local macro_rules | `(tactic| walk_at "call ref") => `(tactic| (k_here; (with_reducible show wpAny _ _ (call (Value.ref 153) _) _ _ _); k_dflt (refine' plan_ct ?B ?F ?X ?T ?hk ?N ?U ?L ?I ?ln ?msz ?b1 ?b2 ?b3 ?b4 ?p0 ?a0 ?a1 ?hd ?hu ?_; (case B => k_asm); (case F => k_asm); (case X => k_asm); (case T => k_asm); (case hk => first | exact rfl | assumption); (case N => k_asm); (case U => k_updF); (case L => assumption); (case I => assumption); (case ln => omega); (case msz => k_mem); (case b1 => omega); (case b2 => omega); (case b3 => omega); (case b4 => omega); (case p0 => first | assumption | decide); (case a0 => first | assumption | decide); (case a1 => first | assumption | decide); (case hd => ktr_room); (case hu => ktr_units)); intro h' tk' dl' dv' c1' seg' p' tp' a' ta' n' hD' hl' f1' F' N'; (try k_lt f1'); (try dsimp only); (try k_fold)))
local macro_rules | `(tactic| walk_at "call ref") => `(tactic| (k_here; (with_reducible show wpAny _ _ (call (Value.ref 72) _) _ _ _); k_dflt (refine' newdel_ct ?B ?F ?X ?T ?hk ?N ?hd ?hu ?_; (case B => k_asm); (case F => k_asm); (case X => k_asm); (case T => k_asm); (case hk => first | exact rfl | assumption); (case N => k_asm); (case hd => ktr_room); (case hu => ktr_units)); intro x' dx' h' tk' T' F' N' f1' f2'; (try k_lt f1'); (try k_lt2 f2'); (try dsimp only); (try k_fold)))
local macro_rules | `(tactic| walk_at "call ref") => `(tactic| (k_here; (with_reducible show wpAny _ _ (call (Value.ref 128) _) _ _ _); k_dflt (refine' newidx_ct ?B ?F ?X ?T ?hk ?N ?m1 ?hq ?q2 ?p0 ?p1 ?hd ?hu ?_; (case B => k_asm); (case F => k_asm); (case X => k_asm); (case T => k_asm); (case hk => first | exact rfl | assumption); (case N => k_asm); (case m1 => k_mem); (case hq => assumption); (case q2 => omega); (case p0 => omega); (case p1 => omega); (case hd => ktr_room); (case hu => ktr_units)); intro x' dx' tr' nx' h' tk' T' c' nv' t0' F' N' I' f1' f2' f3' f4'; (try k_lt f1'); (try k_lt2 f2'); (try k_lt2 f3'); (try k_lt2 f4'); (try dsimp only); (try k_fold)))

local macro_rules | `(tactic| walk_at "subscriptTail") => `(tactic| (k_here; (with_reducible show wpAny _ _ (subscriptTail _ _ (Value.ref _) (Value.int _ _)) _ _ _); k_dflt (refine' at_item ?N ?p ?a ?b ?c ?_; (case N => k_asm); (case p => k_mem); (case a => omega); (case b => omega); (case c => assumption); k_whole)))
local macro_rules | `(tactic| walk_at "call ref") => `(tactic| (k_here; (with_reducible show wpAny _ _ (call (Value.ref 97) _) _ _ _); k_dflt (refine' current_ct ?B ?F ?X ?N ?T ?hk ?m1 ?m2 ?m3 ?I ?m4 ?m5 ?a ?b ?hd ?hu ?_; (case B => k_asm); (case F => k_asm); (case X => k_asm); (case T => k_asm); (case hk => first | exact rfl | assumption); (case N => k_asm); (case m1 => k_mem); (case m2 => k_mem); (case m3 => k_mem); (case I => assumption); (case m4 => k_mem); (case m5 => k_mem); (case a => omega); (case b => omega); (case hd => ktr_room); (case hu => ktr_units)); intro t' h' tk' F' N'; (try dsimp only); (try k_fold)))
local macro_rules | `(tactic| walk_at "call ref") => `(tactic| (k_here; (with_reducible show wpAny _ _ (call (Value.ref 160) _) _ _ _); k_dflt (refine' now_ct ?B ?F ?X ?T ?hk ?N ?m1 ?hom ?m2 ?I ?m3 ?hcv ?hct ?z0 ?z1 ?hpl ?ln ?hd ?hu ?_; (case B => k_asm); (case F => k_asm); (case X => k_asm); (case T => k_asm); (case hk => first | exact rfl | assumption); (case N => k_asm); (case m1 => k_mem); (case hom => assumption); (case m2 => k_mem); (case I => assumption); (case m3 => k_mem); (case hcv => assumption); (case hct => first | assumption | (refine CutsIn.mono (by assumption) ?_; intro p hp; repeat (first | exact hp | exact List.mem_append_right _ hp | refine List.Mem.tail _ ?_))); (case z0 => omega); (case z1 => omega); (case hpl => assumption); (case ln => omega); (case hd => ktr_room); (case hu => ktr_units)); intro t' h' tk' F' N'; (try dsimp only); (try k_fold)))
local macro_rules | `(tactic| walk_at "call ref") => `(tactic| (k_here; (with_reducible show wpAny _ _ (call (Value.ref 125) _) _ _ _); k_dflt (refine' find_ct ?B ?F ?X ?N ?U ?T ?hk ?m1 ?m2 ?I ?ok ?z0 ?z1 ?ln ?hd ?hu ?_; (case B => k_asm); (case F => k_asm); (case X => k_asm); (case T => k_asm); (case hk => first | exact rfl | assumption); (case N => k_asm); (case m1 => k_mem); (case m2 => k_mem); (case U => k_updF); (case I => assumption); (case ok => assumption); (case z0 => omega); (case z1 => omega); (case ln => omega); (case hd => ktr_room); (case hu => ktr_units)); intro t' h' tk' vs' nv' I' ok' F' N'; (have hn9 := And.left ok'); (try dsimp only); (try k_fold)))
local macro_rules | `(tactic| walk_at "call ref") => `(tactic| (k_here; (with_reducible show wpAny _ _ (call (Value.ref 167) _) _ _ _); k_dflt (refine' next_ct ?B ?F ?X ?T ?hk ?N ?m1 ?hom ?m2 ?hb ?z0 ?z1 ?ln ?hd ?hu ?_; (case B => k_asm); (case F => k_asm); (case X => k_asm); (case T => k_asm); (case hk => first | exact rfl | assumption); (case N => k_asm); (case m1 => k_mem); (case hom => assumption); (case m2 => k_mem); (case hb => assumption); (case z0 => omega); (case z1 => omega); (case ln => omega); (case hd => ktr_room); (case hu => ktr_units)); intro t' h' tk' F' N'; (try dsimp only); (try k_fold)))
theorem final : PySem.Challenge.rw_fe5001_01.Holds := hd (by
  k_go0
  all_goals (try k_fold)
  k_steps
  rename_i bx _ _ _ _ _ _ _ _ tu0 pl0 le0 pv0 lv0 c10 c20 pls0 ln0 pn0 q0 tq0 _ _ _ _ _ I10 I20 l10 l20 l30 l40 l50 l60 _ _ _ f20 f30 hq90 hq80 f10 _ _ tu1 pl1 le1 pv1 lv1 c11 c21 pls1 ln1 pn1 q1 tq1 _ _ _ _ _ I11 I21 l11 l21 l31 l41 l51 l61 _ _ _ f21 f31 hq91 hq81 f11 sh _ lsh _ _ sz _ lsz _ _ _ _ dl dv cd seg pz tpz az taz nz hD hdl fdl _ _ li _ lli _ _ xi _ lxi _ mi _ lmi _ _ _
  rename Fr _ _ _ _ => F1
  rename News _ _ _ _ => N1
  have hu : True := trivial
  obtain ⟨own, tq0', tq1', N2, mdl, msz, msh, hD2, hS0, hS1, hlt⟩ : ∃ (own : List (Addr × Obj)) (t0 t1 : Tok), News _ _ _ ((mi, listOf (([] : List SB).reverse.map fun s => Value.ref s.a.md).toArray 0) :: (xi, listOf (([] : List SB).reverse.map fun s => Value.ref s.a.ix).toArray 0) :: (li, listOf (([] : List SB).reverse.map fun s => Value.ref s.a.rw).toArray 0) :: own) ∧
      (dl, listOf dv.toArray cd) ∈ own ∧ (sz, listOf #[.int (q0 : Int) t0, .int (q1 : Int) t1] 0) ∈ own ∧ (sh, listOf [Value.ref tu0, Value.ref tu1].toArray 0) ∈ own ∧ DeedsIn q0 q1 dv own ∧ ShapeAt own (.ref tu0) q0 ∧ ShapeAt own (.ref tu1) q1 ∧ ∀ p ∈ own, p.1 < li :=
    ⟨_, _, _, N1, .head _, .tail _ (List.mem_append_right _ (.head _)), .tail _ (List.mem_append_right _ (.tail _ (.head _))), hD.mono fun p hp => .tail _ (List.mem_append_left _ hp),
      ⟨tu0, pl0, le0, pv0, lv0, c10, c20, pls0, ln0, pn0, tq0, rfl, .tail _ (List.mem_append_right _ (.tail _ (.tail _ (.tail _ (.tail _ (.tail _ (.head _))))))), .tail _ (List.mem_append_right _ (.tail _ (.tail _ (.tail _ (.tail _ (.tail _ (.tail _ (.tail _ (.head _))))))))), .tail _ (List.mem_append_right _ (.tail _ (.tail _ (.tail _ (.tail _ (.tail _ (.tail _ (.head _)))))))), I10, I20, l10, l20, l30, l40, l50, l60⟩,
      ⟨tu1, pl1, le1, pv1, lv1, c11, c21, pls1, ln1, pn1, tq1, rfl, .tail _ (List.mem_append_right _ (.tail _ (.tail _ (.head _)))), .tail _ (List.mem_append_right _ (.tail _ (.tail _ (.tail _ (.tail _ (.head _)))))), .tail _ (List.mem_append_right _ (.tail _ (.tail _ (.tail _ (.head _))))), I11, I21, l11, l21, l31, l41, l51, l61⟩,
      allLt_mem (show AllLt li _ from lli)⟩
  refine For_turns F1 ?_
  k_steps
  rename Fr _ _ _ _ => F3
  rename World => w
  clear N1
  have hv0 : ∀ i v, ([Value.ref tu0, Value.ref tu1])[i]? = some v → ShapeAt own v ([q0, q1].getD i 0) := fun i v h => by
    match i, h with
    | 0, h => cases h; exact hS0
    | 1, h => cases h; exact hS1
  have hlx : @LT.lt Nat _ li xi := lxi.1
  have hxm : @LT.lt Nat _ xi mi := lmi.1
  refine list_state (σ := OS) (fun c => (mi, listOf ((c.sides.reverse.map fun s => Value.ref s.a.md)).toArray c.n3) :: (xi, listOf ((c.sides.reverse.map fun s => Value.ref s.a.ix)).toArray c.n2) :: (li, listOf ((c.sides.reverse.map fun s => Value.ref s.a.rw)).toArray c.n1) :: segs own c.sides)
    (fun _ => []) [Str.ofString "places", Str.ofString "lengths", Str.ofString "parts", Str.ofString "rows", Str.ofString "k"] (fun i c => c.sides.length = i ∧ BltAll w mi own [q0, q1] c.sides) ⟨[], 0, 0, 0⟩ rfl F3 N2
    (fun i c _ => .tail _ (.tail _ (.tail _ (segs_sub _ msh)))) rfl rfl (List.forall_mem_nil _) ⟨rfl, trivial⟩ ?_ ?_
  · rintro i v ⟨sides, n1, n2, n3⟩ u I it h tk hvi hI hoff9 ⟨hsl, hB⟩ F4 N4
    dsimp only at hsl hB F4 N4 hoff9
    obtain ⟨tu, pl, le, pv, lv, c1, c2, pls, ln, pn, tq, rfl, mtu0, mpl0, mle0, J1, J2, j1, j2, j3, j4, j5, j6⟩ := hv0 i v hvi
    obtain ⟨q, hq⟩ : ∃ q, [q0, q1].getD i 0 = q := ⟨_, rfl⟩
    rw [hq] at j1 j2 j3 j4
    have hli2 : i < 2 := (List.getElem?_eq_some_iff.mp hvi).1
    have mtu := segs_sub (l := sides) _ mtu0
    have mpl := segs_sub (l := sides) _ mpl0
    have mle := segs_sub (l := sides) _ mle0
    obtain ⟨W, hW⟩ : ∃ W, W = segs own sides := ⟨_, rfl⟩
    rw [← hW] at N4 hoff9 mtu mpl mle
    have hpv9 := pvLen J1 j1
    have hlv9 := lvLen J2 j2
    replace hI := allLt_of hI
    simp only [AllLt] at hI
    clear N2 F3
    have hInLoop := InLoop.mk
    k_steps
    rename Fr _ _ _ _ => F5
    rename_i rw _ lrw _ _
    have hml := List.length_map (f := fun x : Nat => (x : Int)) (as := pls)
    have hlW := allLt_mem lrw.2.2.2.2
    with_unfolding_all refine' For_invVF F5 ?k1 ?k2 ?_; (case k1 => exact rfl); (case k2 => exact rfl); k_whole
    k_steps
    rename Fr _ _ _ _ => F6
    rename News _ _ _ _ => N6
    rename IsRange _ _ _ _ _ _ _ _ => R6
    refine range_state (σ := RS) (n := q) (fun c => (I, it) :: (mi, listOf ((sides.reverse.map fun s => Value.ref s.a.md)).toArray n3) :: (xi, listOf ((sides.reverse.map fun s => Value.ref s.a.ix)).toArray n2) :: (li, listOf ((sides.reverse.map fun s => Value.ref s.a.rw)).toArray n1) :: (rw, listOf (c.xs.map Value.ref).toArray c.n) :: (c.ins ++ (c.ro ++ W)))
      (fun _ => []) [Str.ofString "k"] (fun i c => c.xs.length = i ∧ c.ds.length = i ∧ RowD w.params c.ds pls ln c.ro ∧ (∀ j (h : j < c.xs.length) (h2 : j < c.ds.length), (c.xs[j], instObj 72 c.ds[j]) ∈ c.ins) ∧ c.ds.Nodup ∧ (∀ b ∈ c.ds, @LT.lt Nat _ rw b) ∧ (∀ p ∈ c.ins, @LT.lt Nat _ rw p.1 ∧ p.1 ∉ c.ds))
      ⟨[], [], [], [], 0⟩ rfl R6 (range_small (by omega) (by omega)) (by rw [range_size (by omega)]; rfl) F6 (News.re N6 perm_rw) (List.forall_mem_nil _)
      ⟨rfl, rfl, ⟨rfl, fun i h => absurd h (Nat.not_lt_zero _)⟩, (fun j h => absurd h (Nat.not_lt_zero _)), List.nodup_nil, (fun _ h => nomatch h), (fun _ h => nomatch h)⟩ ?_ ?_
    · rintro i2 t2 ⟨xs, ds, ins, ro, nr⟩ u2 I2 it2 h2 tk2 hi2 hI2 hoffB ⟨g1, g2, gR, gi, gn, gd, gs⟩ F7 N7
      dsimp only at g1 g2 gR gi gn gd gs F7 N7 hoffB
      simp only [Int.zero_add] at F7
      replace hI2 := allLt_of hI2
      simp only [AllLt] at hI2
      have hs9 : ∀ p ∈ ins ++ (ro ++ W), p.1 ≠ rw := List.forall_mem_append.mpr ⟨fun p hp => Nat.ne_of_gt (gs p hp).1, List.forall_mem_append.mpr ⟨fun p hp => Nat.ne_of_gt (gd p.1 (by rw [← gR.ads]; exact List.mem_map.mpr ⟨p, hp, rfl⟩)), fun p hp => Nat.ne_of_lt (hlW p hp)⟩⟩
      have hxsl : (xs.map Value.ref).length = i2 := by rw [List.length_map, g1]
      clear N6 F6
      k_steps
      rename Fr _ _ _ _ => F11
      rename News _ _ _ (_ :: _) => N11
      rename_i x dx _ _ Tx fx1 fx2 _
      have hp9 : (pls.map fun x : Nat => (x : Int)).getD (i2 : Int).toNat 0 = ((pls.getD i2 0 : Nat) : Int) := by
        rw [show ((i2 : Int).toNat) = i2 from rfl, List.getD_eq_getElem?_getD, List.getD_eq_getElem?_getD, List.getElem?_map, List.getElem?_eq_getElem (by omega)]; rfl
      have ex9 : xs.map Value.ref ++ [Value.ref x] = (xs ++ [x]).map Value.ref := by simp
      rw [hp9, List.push_toArray, ex9, show ((i2 : Int).toNat) = i2 from rfl] at N11
      have hallx := allLt_mem fx1.2.2.2.2.2.2
      have hdxn : dx ∉ ds := fun hm => by
        rw [← gR.ads] at hm
        obtain ⟨p, hp, e⟩ := List.mem_map.mp hm
        exact absurd (hallx p (List.mem_append_right _ (List.mem_append_left _ hp))) (by rw [e]; exact Nat.lt_irrefl _)
      have N12 := News.re N11 perm_x
      refine rend_state ⟨xs ++ [x], ds ++ [dx], _ :: ins, ro ++ [_], nr + 1⟩ F11 N12 (.head _) (fun p hp => .tail _ hp) ?_ (List.forall_mem_nil _) (by
        intro z _ h3
        have b : z ≠ Str.ofString "k" := by intro e; subst e; simp at h3
        simp only [kstB, if_neg b, h3, Bool.false_eq_true, if_false]) ⟨?_, ?_, gR.snoc g2, ?_, ?_, ?_, ?_⟩
      · intro p hp
        have hx2 : I2 ≠ x := Nat.ne_of_lt (Nat.lt_trans fx1.1 fx2)
        have hx3 : I2 ≠ dx := Nat.ne_of_lt fx1.1
        rcases List.mem_cons.mp hp with q9 | hp
        · rw [q9]; exact Nat.ne_of_lt hI2.1
        · rcases List.mem_cons.mp hp with q9 | hp
          · rw [q9]; exact Nat.ne_of_lt hI2.2.1
          · rcases List.mem_cons.mp hp with q9 | hp
            · rw [q9]; exact Nat.ne_of_lt hI2.2.2.1
            · rcases List.mem_cons.mp hp with q9 | hp
              · rw [q9]; exact Nat.ne_of_lt hI2.2.2.2.1
              · rcases List.mem_cons.mp hp with q9 | hp
                · rw [q9]; exact Nat.ne_of_lt hI2.2.2.2.2.1
                · rcases List.mem_cons.mp hp with q9 | hp
                  · rw [q9]; exact hx2.symm
                  · rcases List.mem_append.mp hp with q9 | hp
                    · exact hoffB p (.tail _ (.tail _ (.tail _ (.tail _ (.tail _ (List.mem_append_left _ q9))))))
                    · rcases List.mem_append.mp hp with q9 | hp
                      · rcases List.mem_append.mp q9 with q9 | q9
                        · exact hoffB p (.tail _ (.tail _ (.tail _ (.tail _ (.tail _ (List.mem_append_right _ (List.mem_append_left _ q9)))))))
                        · rw [List.mem_singleton.mp q9]; exact hx3.symm
                      · exact hoffB p (.tail _ (.tail _ (.tail _ (.tail _ (.tail _ (List.mem_append_right _ (List.mem_append_right _ hp)))))))
      · dsimp only; rw [List.length_append, g1]; rfl
      · dsimp only; rw [List.length_append, g2]; rfl
      · intro j h h2
        dsimp only at h h2 ⊢
        rcases Nat.lt_or_ge j i2 with h9 | h9
        · rw [List.getElem_append_left (by omega), List.getElem_append_left (by omega)]
          exact .tail _ (gi j (by omega) (by omega))
        · rw [List.length_append, g1] at h
          have hj : j = i2 := by simp at h; omega
          subst hj
          rw [List.getElem_append_right (by omega), List.getElem_append_right (by omega)]
          simp
      · exact List.nodup_append.mpr ⟨gn, by simp, fun a ha b hb e => hdxn (by rw [List.mem_singleton.mp hb] at e; exact e ▸ ha)⟩
      · exact List.forall_mem_append.mpr ⟨gd, fun b hb => by rw [List.mem_singleton.mp hb]; exact fx1.2.2.2.2.2.1⟩
      · refine List.forall_mem_cons.mpr ⟨⟨Nat.lt_trans fx1.2.2.2.2.2.1 fx2, ?_⟩, fun p hp => ⟨(gs p hp).1, ?_⟩⟩
        · intro hm
          rcases List.mem_append.mp hm with q9 | q9
          · dsimp only at q9
            rw [← gR.ads] at q9
            obtain ⟨p, hp, e⟩ := List.mem_map.mp q9
            exact absurd (Nat.lt_trans (hallx p (List.mem_append_right _ (List.mem_append_left _ hp))) fx2) (by rw [e]; exact Nat.lt_irrefl _)
          · exact absurd fx2 (by have e : x = dx := List.mem_singleton.mp q9; rw [e]; exact Nat.lt_irrefl _)
        · intro hm
          rcases List.mem_append.mp hm with q9 | q9
          · exact (gs p hp).2 q9
          · exact absurd (hallx p (List.mem_append_left _ hp)) (by rw [List.mem_singleton.mp q9]; exact Nat.lt_irrefl _)
    · rintro ⟨xs, ds, ins, ro, nr⟩ u2 h2 tk2 ⟨g1, g2, gR, gi, gn, gd, gs⟩ F7 N7
      dsimp only at g1 g2 gR gi gn gd gs F7 N7
      have hs9 : ∀ p ∈ ins ++ (ro ++ W), p.1 ≠ li ∧ p.1 ≠ xi ∧ p.1 ≠ mi := by
        have hbig : ∀ b : Nat, @LT.lt Nat _ rw b → b ≠ li ∧ b ≠ xi ∧ b ≠ mi := fun b hb => ⟨Nat.ne_of_gt (Nat.lt_trans lrw.2.2.2.1 hb), Nat.ne_of_gt (Nat.lt_trans lrw.2.2.1 hb), Nat.ne_of_gt (Nat.lt_trans lrw.2.1 hb)⟩
        refine List.forall_mem_append.mpr ⟨fun p hp => hbig _ (gs p hp).1, List.forall_mem_append.mpr ⟨fun p hp => hbig _ (gd p.1 (by rw [← gR.ads]; exact List.mem_map.mpr ⟨p, hp, rfl⟩)), fun p hp => ?_⟩⟩
        rw [hW] at hp
        rcases hB.low hp with q9 | q9
        · have h1 := hlt p q9
          exact ⟨Nat.ne_of_lt h1, Nat.ne_of_lt (Nat.lt_trans h1 hlx), Nat.ne_of_lt (Nat.lt_trans h1 (Nat.lt_trans hlx hxm))⟩
        · exact ⟨Nat.ne_of_gt (Nat.lt_trans hlx (Nat.lt_trans hxm q9)), Nat.ne_of_gt (Nat.lt_trans hxm q9), Nat.ne_of_gt q9⟩
      have hs91 := fun p hp => (hs9 p hp).1
      have hs92 := fun p hp => (hs9 p hp).2.1
      have hs93 := fun p hp => (hs9 p hp).2.2
      have hxsl : (xs.map Value.ref).length = q := by rw [List.length_map, g1]
      have hm1 : (sides.reverse.map fun s => Value.ref s.a.rw).length = i := by rw [List.length_map, List.length_reverse, hsl]
      have hm2 : (sides.reverse.map fun s => Value.ref s.a.ix).length = i := by rw [List.length_map, List.length_reverse, hsl]
      have hm3 : (sides.reverse.map fun s => Value.ref s.a.md).length = i := by rw [List.length_map, List.length_reverse, hsl]
      clear N6 F6
      k_steps
      rename News _ _ _ (_ :: _) => N11
      rename_i lD x dx tr nx _ _ T1 cnx nv9 t0 I9 f1 f2 f3 f4 _ _ md _ _ _ _ lmd le2 cle _ lle cu _ lcu l9 _ _ al _ lal _ om hom _ _
      rename Fr _ _ _ _ => F11
      have hallD := allLt_mem lD.2.2.2.2.2
      have hBl := fun (m : Addr) (hm : @LT.lt Nat _ m rw) => mk_blt (w := w) (mi := m) (own := own) (W := W) (q := q) (pn := pn) (t0 := t0) (T1 := T1) (nr := nr) (nn := cnx) (nl := cle) hm hlW gd gs lD.2.2.2.2.1 (fun p hp => hallD p (List.mem_append_left _ hp)) (fun p hp => hallD p (List.mem_append_right _ (List.mem_append_left _ hp))) f1.1 f2 f3 f4 lmd.1 lle.1 lcu.1 lal.2.1 g1 g2 gn gR gi j1 j2 j3 j4 j5 j6 mpl0 J1 J2 hom I9
      have hBI := hBl I lrw.1
      have hBm := hBl mi lrw.2.1
      clear hBl
      revert N11 hBI hBm
      generalize hS : SB.mk _ _ _ = S
      intro N11 hBI hBm
      have e1 : S.a.rw = rw := by rw [← hS]
      have e2 : S.a.ix = x := by rw [← hS]
      have e3 : S.a.md = md := by rw [← hS]
      have N12 := News.re N11 perm_side
      have hSl : (nx, listOf nv9.toArray cnx) :: (tr, listOf (List.replicate ((pn : Int) + 1).toNat (Value.int 0 t0)).toArray 0) :: (al, listOf (List.replicate (q : Int).toNat (Value.bool true)).toArray 0) :: (le2, listOf lv.toArray cle) :: (cu, listOf #[] 0) :: ro = Mt S.a S.v := by rw [← hS]; rfl
      have hSf : (rw, listOf (xs.map Value.ref).toArray nr) :: (x, instObj 128 dx) :: (dx, idxO w.params tr nx T1 2) :: (md, om) :: ins = S.fx := by rw [← hS]
      rw [hSl, hSf, ← e1, ← e2, ← e3, rev_snoc (fun s : SB => Value.ref s.a.md), rev_snoc (fun s : SB => Value.ref s.a.ix), rev_snoc (fun s : SB => Value.ref s.a.rw)] at N12
      refine lend_state ⟨S :: sides, n1 + 1, n2 + 1, n3 + 1⟩ F11 N12 (.head _) (fun p hp => .tail _ (by rw [hW]; exact hp)) ?_ (List.forall_mem_nil _) (by
        intro z _ h3
        have b1 : z ≠ Str.ofString "places" := by intro e; subst e; simp at h3
        have b2 : z ≠ Str.ofString "lengths" := by intro e; subst e; simp at h3
        have b3 : z ≠ Str.ofString "parts" := by intro e; subst e; simp at h3
        have b4 : z ≠ Str.ofString "rows" := by intro e; subst e; simp at h3
        have b5 : z ≠ Str.ofString "k" := by intro e; subst e; simp at h3
        have b6 : [Str.ofString "k"].contains z = false := by simp [b5]
        simp only [kstB, b6, if_neg b1, if_neg b2, if_neg b3, if_neg b4, h3, Bool.false_eq_true, if_false]) ⟨by show sides.length + 1 = i + 1; rw [hsl], ?_, hB⟩
      · intro p hp
        rcases List.mem_cons.mp hp with q9 | hp
        · rw [q9]; exact Nat.ne_of_lt hI.1
        · rcases List.mem_cons.mp hp with q9 | hp
          · rw [q9]; exact Nat.ne_of_lt hI.2.1
          · rcases List.mem_cons.mp hp with q9 | hp
            · rw [q9]; exact Nat.ne_of_lt hI.2.2.1
            · rcases List.mem_append.mp hp with q9 | hp
              · exact Nat.ne_of_gt (hBI.mgt p.1 (by rw [← mt_ads hBI.val]; exact List.mem_map.mpr ⟨p, q9, rfl⟩)).1
              · rcases List.mem_append.mp hp with q9 | hp
                · exact Nat.ne_of_gt (hBI.ftop p q9)
                · exact hoff9 p (.tail _ (.tail _ (.tail _ (by rw [hW]; exact hp))))
      · rw [hsl, hq, ← hW]; exact hBm
  · rintro ⟨sides, n1, n2, n3⟩ u h tk ⟨hsl, hB⟩ F4 N4
    dsimp only at hsl hB F4 N4
    obtain ⟨s1, s0, rfl⟩ := len_two hsl
    obtain ⟨hB1, hB0, -⟩ := hB
    replace hB1 : Blt w mi own (segs own [s0]) q1 s1 := hB1
    replace hB0 : Blt w mi own own q0 s0 := hB0
    have hqa := hB0.hq
    have hqb := hB1.hq
    obtain ⟨Lr, hLr⟩ : ∃ l, l = [Value.ref s0.a.rw, Value.ref s1.a.rw] := ⟨_, rfl⟩
    obtain ⟨Lx, hLx⟩ : ∃ l, l = [Value.ref s0.a.ix, Value.ref s1.a.ix] := ⟨_, rfl⟩
    obtain ⟨Lm, hLm⟩ : ∃ l, l = [Value.ref s0.a.md, Value.ref s1.a.md] := ⟨_, rfl⟩
    obtain ⟨Ls, hLs⟩ : ∃ l, l = [Value.int (q0 : Int) tq0', Value.int (q1 : Int) tq1'] := ⟨_, rfl⟩
    obtain ⟨rest, hrest⟩ : ∃ r, r = (mi, listOf Lm.toArray n3) :: (xi, listOf Lx.toArray n2) :: (li, listOf Lr.toArray n1) :: (s1.fx ++ (s0.fx ++ own)) := ⟨_, rfl⟩
    have N5 := News.re N4 (show ∀ p ∈ Mt s0.a s0.v ++ (Mt s1.a s1.v ++ ([] ++ rest)), p ∈ _ from by rw [hrest, hLr, hLx, hLm]; exact perm_start)
    have hT0 : Two w s0.a s1.a rest := by rw [hrest]; exact two_start hB1 hB0 hlx hxm
    have hownr : ∀ p ∈ own, p ∈ rest := fun p hp => by rw [hrest]; exact .tail _ (.tail _ (.tail _ (List.mem_append_right _ (List.mem_append_right _ hp))))
    have hV0 : VOk w s0.a 0 s0.v rest := Val.mono hB0.val (Nat.le_refl 0) fun p hp => by rw [hrest]; exact .tail _ (.tail _ (.tail _ (List.mem_append_right _ hp)))
    have hV1 : VOk w s1.a 0 s1.v rest := Val.mono hB1.val (Nat.le_refl 0) fun p hp => (List.mem_append.mp hp).elim (fun q => by rw [hrest]; exact .tail _ (.tail _ (.tail _ (List.mem_append_left _ q)))) (hownr p)
    have mmi : (mi, listOf Lm.toArray n3) ∈ rest := by rw [hrest]; exact .head _
    have mxi : (xi, listOf Lx.toArray n2) ∈ rest := by rw [hrest]; exact .tail _ (.head _)
    have mli : (li, listOf Lr.toArray n1) ∈ rest := by rw [hrest]; exact .tail _ (.tail _ (.head _))
    have msz1 : (sz, listOf Ls.toArray 0) ∈ rest := by rw [hLs]; exact hownr _ msz
    have mdl1 := hownr _ mdl
    have hD3 := hD2.mono hownr
    clear msh mdl msz hD2 hv0 hB1 hB0 hownr hrest
    clear N4 hsl
    k_steps
    rename Fr _ _ _ _ => F5
    refine For_turns F5 ?_
    k_steps
    refine list_state (σ := MS) (fun c => Mt s0.a c.v0 ++ (Mt s1.a c.v1 ++ (c.ex ++ rest))) (fun _ => []) [Str.ofString "which", Str.ofString "kind", Str.ofString "first", Str.ofString "second", Str.ofString "count", Str.ofString "other", Str.ofString "k"]
      (fun i c => Two w s0.a s1.a (c.ex ++ rest) ∧ VOk w s0.a i c.v0 (c.ex ++ rest) ∧ VOk w s1.a i c.v1 (c.ex ++ rest)) ⟨s0.v, s1.v, []⟩ rfl F5 N5
      (fun i c _ => List.mem_append_right _ (List.mem_append_right _ (List.mem_append_right _ mdl1))) rfl rfl (List.forall_mem_nil _) ⟨hT0, hV0, hV1⟩ ?_ ?_
    · rintro i v ⟨v0, v1, ex⟩ u I it h tk hvi hI hoff9 ⟨hT, V0, V1⟩ F6 N6
      dsimp only at hT V0 V1 F6 N6 hoff9
      have hli : i < dv.length := (List.getElem?_eq_some_iff.mp hvi).1
      obtain ⟨t, wh, kd, ff, gg, cc, TT, hv, mt0, w0, w1, kd0, ff0, ff1, gg0, cc0, cc1⟩ := hD3 i hli
      obtain rfl := Option.some.inj (hvi.symm.trans hv)
      obtain ⟨A, B, vA, vB, a1, a2, a3, b1, b2, b3, ⟨tb, b4⟩, hff, hTw, VA, VB, oA, oB, hin, hsw⟩ : ∃ (A B : SR) (vA vB : SV), Lr[wh.toNat]? = some (.ref A.rw) ∧ Lx[wh.toNat]? = some (.ref A.ix) ∧ Lm[wh.toNat]? = some (.ref A.md) ∧
          Lr[(1 - wh).toNat]? = some (.ref B.rw) ∧ Lx[(1 - wh).toNat]? = some (.ref B.ix) ∧ Lm[(1 - wh).toNat]? = some (.ref B.md) ∧ (∃ tb, Ls[(1 - wh).toNat]? = some (.int (B.q : Int) tb)) ∧
          ff ≤ A.q ∧ Two w A B (ex ++ rest) ∧ VOk w A i vA (ex ++ rest) ∧ VOk w B i vB (ex ++ rest) ∧ (∀ p ∈ Mt A vA, p.1 ≠ I) ∧ (∀ p ∈ Mt B vB, p.1 ≠ I) ∧
          (∀ p ∈ Mt A vA ++ (Mt B vB ++ ((I, it) :: (ex ++ rest))), p ∈ (I, it) :: (Mt s0.a v0 ++ (Mt s1.a v1 ++ (ex ++ rest)))) ∧
          ((A = s0.a ∧ B = s1.a ∧ vA = v0 ∧ vB = v1) ∨ (A = s1.a ∧ B = s0.a ∧ vA = v1 ∧ vB = v0)) := by
        have o0 : ∀ p ∈ Mt s0.a v0, p.1 ≠ I := fun p hp => hoff9 p (List.mem_append_left _ hp)
        have o1 : ∀ p ∈ Mt s1.a v1, p.1 ≠ I := fun p hp => hoff9 p (List.mem_append_right _ (List.mem_append_left _ hp))
        rcases (by omega : wh = 0 ∨ wh = 1) with e | e
        · subst e
          refine ⟨s0.a, s1.a, v0, v1, by rw [hLr]; rfl, by rw [hLx]; rfl, by rw [hLm]; rfl, by rw [hLr]; rfl, by rw [hLx]; rfl, by rw [hLm]; rfl, ⟨_, by rw [hLs, hqb]; rfl⟩, by rw [hqa]; simpa using ff1, hT, V0, V1, o0, o1, perm_in, .inl ⟨rfl, rfl, rfl, rfl⟩⟩
        · subst e
          refine ⟨s1.a, s0.a, v1, v0, by rw [hLr]; rfl, by rw [hLx]; rfl, by rw [hLm]; rfl, by rw [hLr]; rfl, by rw [hLx]; rfl, by rw [hLm]; rfl, ⟨_, by rw [hLs, hqa]; rfl⟩, by rw [hqb]; simpa using ff1, hT.swap, V1, V0, o1, o0, perm_in2, .inr ⟨rfl, rfl, rfl, rfl⟩⟩
      have hTI : Two w A B ((I, it) :: (ex ++ rest)) := hTw.ext (ex := [(I, it)]) (fun p hp b hb => by
          rw [List.mem_singleton.mp hp]; rw [← mt_ads VA] at hb
          obtain ⟨r, hr, e⟩ := List.mem_map.mp hb
          rw [← e]; exact (oA r hr).symm) (fun p hp b hb => by
          rw [List.mem_singleton.mp hp]; rw [← mt_ads VB] at hb
          obtain ⟨r, hr, e⟩ := List.mem_map.mp hb
          rw [← e]; exact (oB r hr).symm)
      obtain ⟨R, hR⟩ : ∃ R, R = Mt s0.a v0 ++ (Mt s1.a v1 ++ (ex ++ rest)) := ⟨_, rfl⟩
      rw [← hR] at N6 hin
      have hrR : ∀ p ∈ rest, p ∈ R := fun p hp => by rw [hR]; exact List.mem_append_right _ (List.mem_append_right _ (List.mem_append_right _ hp))
      have mt1 := hrR _ mt0
      have mli2 := hrR _ mli
      have mxi2 := hrR _ mxi
      have mmi2 := hrR _ mmi
      clear F5 N5 hI
      have hInLoop := InLoop.mk
      k_steps
      rename Fr _ _ _ _ => F7
      rename News _ _ _ (_ :: _) => N7
      k_dflt (refine' deed_sd (a := A) (v := vA) (own := Mt B vB ++ ((I, it) :: (ex ++ rest))) (fx := ex ++ rest) (b := i) ?B F7 ?X ?T ?hk (News.re N7 hin) (hTI.ap VB) (hTI.fa.mono fun p hp => List.mem_append_right _ hp) VA (by omega) (fun p hp => List.mem_append_right _ (.tail _ hp)) kd0 ff0 hff gg0 cc0 cc1 ?hd ?hu ?_; (case B => k_asm); (case X => k_asm); (case T => k_asm); (case hk => first | exact rfl | assumption); (case hd => ktr_room); (case hu => ktr_units))
      intro h' tk' ex' vA' VA' hex hexl F8 N8
      (try dsimp only)
      (try k_fold)
      have hTE : Two w A B (ex' ++ ((I, it) :: (ex ++ rest))) := hTI.ext (fun p hp => mt_lt VA fun r hr => hex p hp r (List.mem_append_left _ hr)) (fun p hp => mt_lt VB fun r hr => hex p hp r (List.mem_append_right _ (List.mem_append_left _ hr)))
      have hTF : Two w A B (ex' ++ (ex ++ rest)) := hTw.ext (fun p hp => mt_lt VA fun r hr => hex p hp r (List.mem_append_left _ hr)) (fun p hp => mt_lt VB fun r hr => hex p hp r (List.mem_append_right _ (List.mem_append_left _ hr)))
      obtain ⟨hll, hal, hcn, hcl, Inx, hok, Itr, Ile, Bal, hcv, hct0, hro⟩ : VOk w B (i + 1) vB (ex' ++ (ex ++ rest)) := Val.mono VB (Nat.le_succ i) fun p hp => List.mem_append_right _ hp
      obtain ⟨O2, hO2⟩ : ∃ O, O = (B.tr, listOf vB.tv.toArray B.nt) :: (B.al, listOf vB.vb.toArray B.na) :: (B.le, listOf vB.lv.toArray B.nl) :: (B.cu, listOf vB.cv.toArray vB.nc) :: (vB.ro ++ (Mt A vA' ++ (ex' ++ ((I, it) :: (ex ++ rest))))) := ⟨_, rfl⟩
      have N9 := News.re N8 (show ∀ p ∈ (B.nx, listOf vB.vs.toArray B.nn) :: O2, p ∈ _ from by rw [hO2]; exact (show ∀ p ∈ Mt B vB ++ (Mt A vA' ++ (ex' ++ ((I, it) :: (ex ++ rest)))), p ∈ Mt A vA' ++ (ex' ++ (Mt B vB ++ ((I, it) :: (ex ++ rest)))) from perm_mid))
      have hO1 : ∀ p ∈ ex' ++ (ex ++ rest), p ∈ O2 := fun p hp => by
        rw [hO2]
        refine .tail _ (.tail _ (.tail _ (.tail _ (List.mem_append_right _ (List.mem_append_right _ ?_)))))
        exact (List.mem_append.mp hp).elim (fun q => List.mem_append_left _ q) fun q => List.mem_append_right _ (.tail _ q)
      have hoff1 : ∀ p ∈ O2, p.1 ≠ B.nx := by rw [hO2]; exact nx_off (hTE.swap.ap VA') VB
      have hct := hct0.mono hO1
      have hTl := treeOf_length B.n vB.cuts
      obtain ⟨hxl, hdl9, hpl, hq1, hq2, hn, hpn, mrw, mine, mix, mdix, mmd, hom, mpl, Ipl⟩ := hTF.fb.mono hO1
      have mtr : (B.tr, listOf vB.tv.toArray B.nt) ∈ O2 := by rw [hO2]; exact .head _
      have mal : (B.al, listOf vB.vb.toArray B.na) ∈ O2 := by rw [hO2]; exact .tail _ (.head _)
      have mcu : (B.cu, listOf vB.cv.toArray vB.nc) ∈ O2 := by rw [hO2]; exact .tail _ (.tail _ (.tail _ (.head _)))
      have hrO : ∀ p ∈ rest, p ∈ O2 := fun p hp => hO1 p (List.mem_append_right _ (List.mem_append_right _ hp))
      have mli3 := hrO _ mli
      have mxi3 := hrO _ mxi
      have mmi3 := hrO _ mmi
      have msz3 := hrO _ msz1
      have hml := List.length_map (f := fun p : Nat => (p : Int)) (as := B.pls)
      have hz0 : 0 ≤ gg.fmod (B.q : Int) := Int.fmod_nonneg_of_pos _ (by omega)
      have hz1 : gg.fmod (B.q : Int) < B.q := Int.fmod_lt_of_pos _ (by omega)
      obtain ⟨kn, hkn⟩ : ∃ kn, kn = (gg.fmod (B.q : Int)).toNat := ⟨_, rfl⟩
      have hkx : kn < B.xs.length := by omega
      have hkd : kn < B.ds.length := by omega
      have hx9 : (B.xs.map Value.ref)[(gg.fmod (B.q : Int)).toNat]? = some (.ref B.xs[kn]) := by
        rw [← hkn, List.getElem?_map, List.getElem?_eq_getElem hkx]; rfl
      have hm9 := mine kn hkx
      obtain ⟨l0, k9, T9, hr9⟩ := hro.at_ kn hkd
      have hd9 : (B.ds[kn], delO w.params (B.pls.getD kn 0 : Nat) (vB.ln.getD kn 0) l0 k9 T9 7) ∈ O2 := by rw [hO2]; exact .tail _ (.tail _ (.tail _ (.tail _ (List.mem_append_left _ (List.mem_of_getElem? hr9)))))
      have hpk := hpn kn (by omega)
      have hp9 : (B.pls.map fun p : Nat => (p : Int)).getD (gg.fmod (B.q : Int)).toNat 0 = ((B.pls.getD kn 0 : Nat) : Int) := by
        rw [← hkn, List.getD_eq_getElem?_getD, List.getD_eq_getElem?_getD, List.getElem?_map]
        rw [List.getElem?_eq_getElem (by omega)]; rfl
      have hqs := qsum_treeOf hn hpk vB.cuts hcn
      have hy0 : 0 ≤ gg.fmod ((B.q : Int) + 1) := Int.fmod_nonneg_of_pos _ (by omega)
      have hy1 : gg.fmod ((B.q : Int) + 1) < (B.q : Int) + 1 := Int.fmod_lt_of_pos _ (by omega)
      have hnl := hok.1
      clear N7 F7 N8 hin mli2 mxi2 mmi2 mt1 hrR hrO hO1
      k_steps
      all_goals (try (exfalso; omega))
      (refine' find_ct ?B ?F ?X ?N ?U ?T ?hk ?m1 ?m2 ?I ?ok ?z0 ?z1 ?ln ?hd ?hu ?_; (case B => k_asm); (case F => k_asm); (case X => k_asm); (case T => k_asm); (case hk => first | exact rfl | assumption); (case N => k_asm))
      case m1 => k_mem
      case m2 => k_mem
      case U => k_updF
      case I => assumption
      case ok => assumption
      case z0 => omega
      case z1 => omega
      case ln => omega
      case hd => ktr_room
      case hu => ktr_units
      intro t' h' tk' vs' nv' I5 ok5 F9 N10
      (try dsimp only)
      (try k_fold)
      have hn9 := ok5.1
      k_steps
      all_goals (try (exfalso; omega))
      rename Fr _ _ _ _ => F11
      rename News _ _ _ (_ :: _) => N11
      have VB2 : VOk w B (i + 1) { vB with vs := vs', nv := nv' } (ex' ++ (ex ++ rest)) := ⟨hll, hal, hcn, hcl, I5, ok5, Itr, Ile, Bal, hcv, hct0, hro⟩
      obtain ⟨vB', hvB⟩ : ∃ v : SV, v = { vB with vs := vs', nv := nv' } := ⟨_, rfl⟩
      rw [← hvB] at VB2
      have hB' : (B.nx, listOf vs'.toArray B.nn) :: O2 = Mt B vB' ++ (Mt A vA' ++ (ex' ++ ((I, it) :: (ex ++ rest)))) := by rw [hvB, hO2]; rfl
      have N12 := News.re N11 (show ∀ p ∈ Mt B vB' ++ (Mt A vA' ++ (ex' ++ ((I, it) :: (ex ++ rest)))), p ∈ _ from by rw [← hB']; exact fun _ hp => hp)
      have pA := mt_off VA VA' oA
      have pB := mt_off VB VB2 oB
      have pE : ∀ p ∈ (ex' ++ ex) ++ rest, p.1 ≠ I := fun p hp => by
        rcases List.mem_append.mp hp with q9 | q9
        · rcases List.mem_append.mp q9 with q9 | q9
          · exact Nat.ne_of_gt (hex p q9 (I, it) (List.mem_append_right _ (List.mem_append_right _ (.head _))))
          · exact hoff9 p (List.mem_append_right _ (List.mem_append_right _ (List.mem_append_left _ q9)))
        · exact hoff9 p (List.mem_append_right _ (List.mem_append_right _ (List.mem_append_right _ q9)))
      rw [← List.append_assoc ex' ex rest] at hTF VA' VB2
      clear hoff9 hTE hTI hTw VA VB oA oB hex N11 hR hO2 hvB hB' hT V0 V1
      rcases hsw with ⟨rfl, rfl, rfl, rfl⟩ | ⟨rfl, rfl, rfl, rfl⟩
      · refine lend_state ⟨vA', vB', ex' ++ ex⟩ F11 (News.re N12 perm_back) (.head _) (fun p hp => .tail _ hp) ?_ (List.forall_mem_nil _) (by
          intro z _ h3
          have b1 : z ≠ Str.ofString "which" := by intro e; subst e; simp at h3
          have b2 : z ≠ Str.ofString "kind" := by intro e; subst e; simp at h3
          have b3 : z ≠ Str.ofString "first" := by intro e; subst e; simp at h3
          have b4 : z ≠ Str.ofString "second" := by intro e; subst e; simp at h3
          have b5 : z ≠ Str.ofString "count" := by intro e; subst e; simp at h3
          have b6 : z ≠ Str.ofString "other" := by intro e; subst e; simp at h3
          have b7 : z ≠ Str.ofString "k" := by intro e; subst e; simp at h3
          simp only [kstB, if_neg b1, if_neg b2, if_neg b3, if_neg b4, if_neg b5, if_neg b6, if_neg b7, h3, Bool.false_eq_true, if_false]) ⟨hTF, VA', VB2⟩
        exact (show ∀ p ∈ Mt s0.a vA' ++ (Mt s1.a vB' ++ ((ex' ++ ex) ++ rest)), p.1 ≠ I from List.forall_mem_append.mpr ⟨pA, List.forall_mem_append.mpr ⟨pB, pE⟩⟩)
      · refine lend_state ⟨vB', vA', ex' ++ ex⟩ F11 (News.re N12 perm_back2) (.head _) (fun p hp => .tail _ hp) ?_ (List.forall_mem_nil _) (by
          intro z _ h3
          have b1 : z ≠ Str.ofString "which" := by intro e; subst e; simp at h3
          have b2 : z ≠ Str.ofString "kind" := by intro e; subst e; simp at h3
          have b3 : z ≠ Str.ofString "first" := by intro e; subst e; simp at h3
          have b4 : z ≠ Str.ofString "second" := by intro e; subst e; simp at h3
          have b5 : z ≠ Str.ofString "count" := by intro e; subst e; simp at h3
          have b6 : z ≠ Str.ofString "other" := by intro e; subst e; simp at h3
          have b7 : z ≠ Str.ofString "k" := by intro e; subst e; simp at h3
          simp only [kstB, if_neg b1, if_neg b2, if_neg b3, if_neg b4, if_neg b5, if_neg b6, if_neg b7, h3, Bool.false_eq_true, if_false]) ⟨hTF.swap, VB2, VA'⟩
        exact (show ∀ p ∈ Mt s0.a vB' ++ (Mt s1.a vA' ++ ((ex' ++ ex) ++ rest)), p.1 ≠ I from List.forall_mem_append.mpr ⟨pB, List.forall_mem_append.mpr ⟨pA, pE⟩⟩)
    · rintro ⟨v0, v1, ex⟩ u h tk ⟨hT, V0, V1⟩ F6 N6
      dsimp only at hT V0 V1 F6 N6
      obtain ⟨R, hR⟩ : ∃ R, R = Mt s0.a v0 ++ (Mt s1.a v1 ++ (ex ++ rest)) := ⟨_, rfl⟩
      rw [← hR] at N6
      have hrR : ∀ p ∈ rest, p ∈ R := fun p hp => by rw [hR]; exact List.mem_append_right _ (List.mem_append_right _ (List.mem_append_right _ hp))
      have mli2 := hrR _ mli
      have mxi2 := hrR _ mxi
      have mmi2 := hrR _ mmi
      have r0 : Lr[(0 : Int).toNat]? = some (.ref s0.a.rw) := by rw [hLr]; rfl
      have x0 : Lx[(0 : Int).toNat]? = some (.ref s0.a.ix) := by rw [hLx]; rfl
      have m0 : Lm[(0 : Int).toNat]? = some (.ref s0.a.md) := by rw [hLm]; rfl
      have r1 : Lr[(1 : Int).toNat]? = some (.ref s1.a.rw) := by rw [hLr]; rfl
      have x1 : Lx[(1 : Int).toNat]? = some (.ref s1.a.ix) := by rw [hLx]; rfl
      have m1 : Lm[(1 : Int).toNat]? = some (.ref s1.a.md) := by rw [hLm]; rfl
      have hN1 : ∀ p ∈ Mt s0.a v0 ++ (Mt s1.a v1 ++ (ex ++ rest)), p ∈ R := by rw [hR]; exact fun _ hp => hp
      clear N5 F5
      k_steps
      rename Fr _ _ _ _ => F7
      rename News _ _ _ _ => N7
      k_dflt (refine' whole_sd (a := s0.a) (v := v0) (own := Mt s1.a v1 ++ (ex ++ rest)) (fx := ex ++ rest) (b := dv.length) ?B F7 ?X ?T ?hk (News.re N7 hN1) (hT.ap V1) (hT.fa.mono fun p hp => List.mem_append_right _ hp) V0 (fun p hp => List.mem_append_right _ hp) ?hd ?hu ?_; (case B => k_asm); (case X => k_asm); (case T => k_asm); (case hk => first | exact rfl | assumption); (case hd => ktr_room); (case hu => ktr_units))
      intro h' tk' v0' V0' F8 N8
      (try dsimp only)
      (try k_fold)
      obtain ⟨R2, hR2⟩ : ∃ R, R = Mt s0.a v0' ++ (Mt s1.a v1 ++ (ex ++ rest)) := ⟨_, rfl⟩
      rw [← hR2] at N8
      have hrR2 : ∀ p ∈ rest, p ∈ R2 := fun p hp => by rw [hR2]; exact List.mem_append_right _ (List.mem_append_right _ (List.mem_append_right _ hp))
      have mli3 := hrR2 _ mli
      have mxi3 := hrR2 _ mxi
      have mmi3 := hrR2 _ mmi
      have hN2 : ∀ p ∈ Mt s1.a v1 ++ (Mt s0.a v0' ++ (ex ++ rest)), p ∈ R2 := by rw [hR2]; exact perm_ab
      clear N7 F7 mli2 mxi2 mmi2
      k_steps
      rename Fr _ _ _ _ => F9
      rename News _ _ _ _ => N9
      k_dflt (refine' whole_sd (a := s1.a) (v := v1) (own := Mt s0.a v0' ++ (ex ++ rest)) (fx := ex ++ rest) (b := dv.length) ?B F9 ?X ?T ?hk (News.re N9 hN2) (hT.swap.ap V0') (hT.fb.mono fun p hp => List.mem_append_right _ hp) V1 (fun p hp => List.mem_append_right _ hp) ?hd ?hu ?_; (case B => k_asm); (case X => k_asm); (case T => k_asm); (case hk => first | exact rfl | assumption); (case hd => ktr_room); (case hu => ktr_units))
      intro h' tk' v1' V1' F10 N10
      (try dsimp only)
      (try k_fold)
      k_steps)
end Mine
end
section
set_option Elab.async false
set_option maxRecDepth 100000
set_option maxHeartbeats 8000000
theorem PySem.Challenge.cw_fe5001_01_holds : PySem.Challenge.rw_fe5001_01.Holds :=
  Mine.final
end
