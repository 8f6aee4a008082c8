import PyProof.Rows.All
import Wide.All
import OpenK.AllK
import Wide.FinOn
import PySem.Challenge.RW_fe0231_01
open PySem PySem.W PyProof.Rows PySem.Spec PySem.Calls
set_option Elab.async false
namespace Mine
/-! The head once; then a contract for each def that the law comes to (the hash, one level, the tree), generic in the hash; then the law's own body. -/
set_option maxRecDepth 100000 in
set_option maxHeartbeats 8000000 in
open_top hd for PySem.Challenge.rw_fe0231_01

abbrev B := Array UInt8

inductive BytesAre : List Value → List B → Prop
  | nil : BytesAre [] []
  | cons (b : B) (t : Tok) {vs bs} : BytesAre vs bs → BytesAre (.bytes b t :: vs) (b :: bs)

theorem BytesAre.length {vs : List Value} {bs : List B} (h : BytesAre vs bs) : vs.length = bs.length := by
  induction h with
  | nil => rfl
  | cons _ _ _ ih => simp [ih]
theorem BytesAre.get {vs : List Value} {bs : List B} (h : BytesAre vs bs) : ∀ {i : Nat} {b : B}, bs[i]? = some b → ∃ t, vs[i]? = some (.bytes b t) := by
  induction h with
  | nil => intro i b e; simp at e
  | cons c t _ ih =>
    intro i b e
    cases i with
    | zero => simp at e; subst e; exact ⟨t, rfl⟩
    | succ i => simpa using ih (by simpa using e)
theorem BytesAre.snoc {vs : List Value} {bs : List B} (h : BytesAre vs bs) (b : B) (t : Tok) : BytesAre (vs ++ [.bytes b t]) (bs ++ [b]) := by
  induction h with
  | nil => exact .cons _ _ .nil
  | cons c u _ ih => exact .cons c u ih
theorem BytesAre.take {vs : List Value} {bs : List B} (h : BytesAre vs bs) : ∀ n, BytesAre (vs.take n) (bs.take n) := by
  induction h with
  | nil => intro n; simp; exact .nil
  | cons c u _ ih =>
    intro n
    cases n with
    | zero => exact .nil
    | succ n => exact .cons c u (ih n)

/-- one level: neighbours joined, an odd last one twice -/
def lvl (H : B → B) : List B → List B
  | [] => []
  | [x] => [H (x ++ x)]
  | x :: y :: r => H (x ++ y) :: lvl H r

theorem lvl_length (H : B → B) : ∀ xs : List B, (lvl H xs).length = (xs.length + 1) / 2
  | [] => rfl
  | [_] => by simp [lvl]
  | _ :: _ :: r => by
    show (lvl H r).length + 1 = (r.length + 1 + 1 + 1) / 2
    rw [lvl_length H r]
    omega
theorem lvl_get (H : B → B) : ∀ (xs : List B) (i : Nat), 2 * i < xs.length →
    (lvl H xs)[i]? = some (H (xs.getD (2 * i) #[] ++ (if 2 * i + 1 < xs.length then xs.getD (2 * i + 1) #[] else xs.getD (2 * i) #[])))
  | [], i, h => by simp at h
  | [x], i, h => by
    have : i = 0 := by simp at h; omega
    subst this
    rfl
  | x :: y :: r, 0, _ => by
    have h : 2 * 0 + 1 < (x :: y :: r).length := by simp
    rw [if_pos h]
    rfl
  | x :: y :: r, i + 1, h => by
    have hr : 2 * i < r.length := by simp only [List.length_cons] at h; omega
    have ih := lvl_get H r i hr
    show (lvl H r)[i]? = _
    rw [ih]
    have e1 : 2 * (i + 1) = 2 * i + 1 + 1 := by omega
    have e2 : (2 * (i + 1) + 1 < (x :: y :: r).length) ↔ (2 * i + 1 < r.length) := by simp only [List.length_cons]; omega
    rw [e1]
    simp only [List.getD_cons_succ]
    by_cases hc : 2 * i + 1 < r.length
    · rw [if_pos hc, if_pos (by simp only [List.length_cons]; omega)]
    · rw [if_neg hc, if_neg (by simp only [List.length_cons]; omega)]
/-- the list that merkle_pair goes over: an odd one with its last item twice -/
def evened (xs : List B) : List B := if xs.length % 2 = 1 then xs ++ [xs.getD (xs.length - 1) #[]] else xs
theorem evened_length (xs : List B) : (evened xs).length = 2 * ((xs.length + 1) / 2) := by
  unfold evened
  split
  · rw [List.length_append, List.length_singleton]; omega
  · omega
theorem evened_at (xs : List B) {i : Nat} (h : i < xs.length) : (evened xs).getD i #[] = xs.getD i #[] := by
  unfold evened
  split
  · simp only [List.getD_eq_getElem?_getD, List.getElem?_append_left h]
  · rfl
theorem evened_last (xs : List B) (h : xs.length % 2 = 1) : (evened xs).getD xs.length #[] = xs.getD (xs.length - 1) #[] := by
  unfold evened
  rw [if_pos h]
  simp only [List.getD_eq_getElem?_getD]
  rw [List.getElem?_append_right (Nat.le_refl _)]
  simp
theorem lvl_evened (H : B → B) (xs : List B) (i : Nat) (h : 2 * i < xs.length) :
    (lvl H xs)[i]? = some (H ((evened xs).getD (2 * i) #[] ++ (evened xs).getD (2 * i + 1) #[])) := by
  rw [lvl_get H xs i h, evened_at xs h]
  by_cases hc : 2 * i + 1 < xs.length
  · rw [if_pos hc, evened_at xs hc]
  · rw [if_neg hc]
    have e : 2 * i + 1 = xs.length := by omega
    rw [e, evened_last xs (by omega)]
    have e2 : xs.length - 1 = 2 * i := by omega
    rw [e2]

theorem getD_size {xs : List B} {lim : Nat} (h : ∀ b ∈ xs, 2 * b.size ≤ lim) (j : Nat) : 2 * (xs.getD j #[]).size ≤ lim := by
  by_cases hj : j < xs.length
  · refine h _ ?_
    rw [List.getD_eq_getElem?_getD, List.getElem?_eq_getElem hj, Option.getD_some]
    exact List.getElem_mem _
  · rw [List.getD_eq_getElem?_getD, List.getElem?_eq_none (by omega), Option.getD_none]
    simp
theorem evened_size {xs : List B} {lim : Nat} (h : ∀ b ∈ xs, 2 * b.size ≤ lim) (j : Nat) : 2 * ((evened xs).getD j #[]).size ≤ lim := by
  have hm : ∀ b ∈ evened xs, 2 * b.size ≤ lim := by
    intro b hb
    unfold evened at hb
    split at hb
    · rcases List.mem_append.mp hb with hb | hb
      · exact h b hb
      · rw [List.mem_singleton.mp hb]
        refine h _ ?_
        rw [List.getD_eq_getElem?_getD, List.getElem?_eq_getElem (by omega), Option.getD_some]
        exact List.getElem_mem _
    · exact h b hb
  by_cases hj : j < (evened xs).length
  · refine hm _ ?_
    rw [List.getD_eq_getElem?_getD, List.getElem?_eq_getElem hj, Option.getD_some]
    exact List.getElem_mem _
  · rw [List.getD_eq_getElem?_getD, List.getElem?_eq_none (by omega), Option.getD_none]
    simp

/-- level by level up to the root; every join on the way fits the hash -/
inductive Tree (H : B → B) (lim : Nat) : List B → B → Prop
  | one (x : B) : Tree H lim [x] x
  | more {xs : List B} {r : B} : 1 < xs.length → (∀ x ∈ xs, 2 * x.size ≤ lim) → Tree H lim (lvl H xs) r → Tree H lim xs r
theorem Tree.next {H : B → B} {lim : Nat} {xs : List B} {r : B} (t : Tree H lim xs r) (h : 1 < xs.length) : (∀ x ∈ xs, 2 * x.size ≤ lim) ∧ Tree H lim (lvl H xs) r := by
  cases t with
  | one => simp at h
  | more _ a b => exact ⟨a, b⟩
theorem Tree.last {H : B → B} {lim : Nat} {xs : List B} {r : B} (t : Tree H lim xs r) (h : ¬ 1 < xs.length) : xs = [r] := by
  cases t with
  | one => rfl
  | more a _ _ => exact absurd a h
theorem Tree.pos {H : B → B} {lim : Nat} {xs : List B} {r : B} (t : Tree H lim xs r) : 0 < xs.length := by
  cases t with
  | one => simp
  | more a _ _ => omega


/-- a goal that the walk is to leave alone -/
structure Hold (P : Prop) : Prop where
  out : P

/-- what a call of one of the program's defs gives, from whatever frame and ledger -/
def CallSpec (w : World) (rm : Nat) (f : Addr) (need : List (Addr × Obj)) (args : List Value) (post : List (Addr × Obj) → Value → Prop) : Prop :=
  ∀ {p : Program} {loose : List Str} {mean : ExcName → Option Value} {mg mb : Str → Option Value} {dp un : Nat} {gd : Option (List Code)} {cn : Str} {cs : Scope} {a : Addr} {ccd : Value} {cl : List (Str × Addr)} {outer : List Env} {A₀ : Around} {base h₀ : Heap} {L : Addr} {m : Str → Option Value} {news : List (Addr × Obj)} {s : Shared} {Q E : Value → Shared → Prop},
    Below A₀ base outer h₀ → Fr h₀ L s.heap m → (hd.heap_39 w.params).In h₀ → News h₀ L s.heap news → Top p loose mean mg mb h₀ → cs.kind = .function → dp + rm < recursionLimit → un + 8 * rm < cLine → (∀ q ∈ need, q ∈ news) →
    (∀ tl r h' tk', Fr h₀ L h' m → News h₀ L h' (tl ++ news) → (∀ q ∈ news, ∀ p ∈ tl, q.1 < p.1) → post tl r → Q r { s with heap := h', toks := tk' }) →
    wpAny (model PySem.Challenge.rw_fe0231_01.row.prog w) (ktrTop dp un gd cn cs L a ccd cl outer) (call (.ref f) args) Q E s

/-- a function object that is a hash H of bytes, up to a size -/
structure HashAt (w : World) (f : Addr) (need : List (Addr × Obj)) (H : B → B) (lim : Nat) : Prop where
  fn : ∀ h : Heap, (hd.heap_39 w.params).In h → (∀ q ∈ need, h.get? q.1 = some q.2) → FnAt f h
  call : ∀ (b : B) (t : Tok), b.size ≤ lim → CallSpec w 4 f need [.bytes b t] fun tl r => tl = [] ∧ ∃ t', r = .bytes (H b) t'
  small : lim ≤ 1000000

section
variable {prog : Program} {w : World} {A : Around} {E : Value → Shared → Prop} {s : Shared} {h₀ : Heap} {L l : Addr} {m : Str → Option Value} {news : List (Addr × Obj)} {vs : List Value} {bs : List B} {n : Nat}

theorem bytes_at {value slice : Expr} {k : Int} {u : Tok} {Q : Value → Shared → Prop} (j : Nat) (hb : BytesAre vs bs) (N : News h₀ L s.heap news) (hm : (l, W.listOf vs.toArray n) ∈ news) (hkj : k = (j : Int)) (hk : j < bs.length) (hlen : bs.length ≤ 1000000)
    (h : ∀ t, Q (.bytes (bs.getD j #[]) t) s)
    (hs : subscripted slice false (.ref l) (.int k u) = operate [.ref l, .int k u] (getItem (.ref l) (.int k u)) := by with_unfolding_all rfl) :
    wpAny (model prog w) A (subscriptTail value slice (.ref l) (.int k u)) Q E s := by
  have hn : k.toNat = j := by omega
  obtain ⟨t, e⟩ := hb.get (i := j) (b := bs.getD j #[]) (by rw [List.getD_eq_getElem?_getD, List.getElem?_eq_getElem hk]; rfl)
  have hl : s.heap.IsList l vs.toArray := News.isList N hm
  exact tail_any hl.typeIs slot_list_getitem.lookup (wpAny_getItem_list hl (by omega) (by omega) (x := .bytes _ t) (by rw [hn]; simpa using e) (h t)) hs

theorem len_bytes {Q : Value → Shared → Prop} (N : News h₀ L s.heap news) (hm : (l, W.listOf vs.toArray n) ∈ news) (hb : BytesAre vs bs) (hlen : bs.length ≤ 1000000)
    (h : Q (.int (bs.length : Int) (s.toks + 1)) { s with toks := s.toks + 1 + 1 }) : wpAny (model prog w) A (call (.builtin "len") [.ref l]) Q E s := by
  have hz : vs.toArray.size = bs.length := by rw [List.size_toArray]; exact hb.length
  exact len_list (News.isList N hm) (by rw [hz]; omega) (by rw [hz]; exact h)

theorem copy_bytes {Q : Value → Shared → Prop} (F : Fr h₀ L s.heap m) (N : News h₀ L s.heap news) (hm : (l, W.listOf vs.toArray n) ∈ news) (hb : BytesAre vs bs) (hlen : bs.length ≤ 1000000)
    (h : ∀ D c h', Fr h₀ L h' m → News h₀ L h' ((D, W.listOf vs.toArray c) :: news) → (∀ q ∈ news, q.1 < D) → Q (.ref D) { s with heap := h' }) : wpAny (model prog w) A (call (.type "list") [.ref l]) Q E s :=
  list_copyK F N (News.isList N hm) h (by rw [List.size_toArray, hb.length, PySem.sizeLine_eq]; omega)

theorem bytes_last {value slice : Expr} {u : Tok} {Q : Value → Shared → Prop} (hb : BytesAre vs bs) (N : News h₀ L s.heap news) (hm : (l, W.listOf vs.toArray n) ∈ news) (hk : 0 < bs.length)
    (h : ∀ t, Q (.bytes (bs.getD (bs.length - 1) #[]) t) s)
    (hs : subscripted slice false (.ref l) (.int (-1) u) = operate [.ref l, .int (-1) u] (getItem (.ref l) (.int (-1) u)) := by with_unfolding_all rfl) :
    wpAny (model prog w) A (subscriptTail value slice (.ref l) (.int (-1) u)) Q E s := by
  have hlt : bs.length - 1 < bs.length := by omega
  obtain ⟨t, e⟩ := hb.get (i := bs.length - 1) (b := bs.getD (bs.length - 1) #[]) (by rw [List.getD_eq_getElem?_getD, List.getElem?_eq_getElem hlt]; rfl)
  have hl : s.heap.IsList l vs.toArray := News.isList N hm
  have hz : vs.toArray.size = bs.length := by rw [List.size_toArray]; exact hb.length
  have hi : ((-1 : Int) + (vs.toArray.size : Int)).toNat = bs.length - 1 := by rw [hz]; omega
  exact tail_any hl.typeIs slot_list_getitem.lookup (wpAny_getItem_list_neg hl (by decide) (by rw [hz]; omega) (by decide) (x := .bytes _ t) (by rw [hi]; simpa using e) (h t)) hs

theorem append_mid {I D : Addr} {oI : Obj} {rest : List (Addr × Obj)} {k : Nat} {x : Value} {Q : Value → Shared → Prop} (F : Fr h₀ L s.heap m) (N : News h₀ L s.heap ((I, oI) :: (D, W.listOf vs.toArray k) :: rest)) (hI : ∀ p ∈ (D, W.listOf vs.toArray k) :: rest, p.1 ≠ I)
    (hD : ∀ p ∈ rest, p.1 < D) (hz : vs.length ≤ 1000000)
    (h : ∀ h', Fr h₀ L h' m → News h₀ L h' ((I, oI) :: (D, W.listOf (vs ++ [x]).toArray (k + 1)) :: rest) → Q .none { s with heap := h' }) : wpAny (model prog w) A (call (.builtin "list.append") [.ref D, x]) Q E s := by
  refine append_K F N (.tail (Ne.symm (hI _ (.head _))) (.head fun p hp => Nat.ne_of_lt (hD p hp))) (fun h' F' N' => h h' F' ?_) (by rw [List.size_toArray, PySem.sizeLine_eq]; omega)
  rw [List.push_toArray] at N'
  exact N'
theorem append_top {D : Addr} {rest : List (Addr × Obj)} {k : Nat} {x : Value} {Q : Value → Shared → Prop} (F : Fr h₀ L s.heap m) (N : News h₀ L s.heap ((D, W.listOf vs.toArray k) :: rest))
    (hD : ∀ p ∈ rest, p.1 < D) (hz : vs.length ≤ 1000000)
    (h : ∀ h', Fr h₀ L h' m → News h₀ L h' ((D, W.listOf (vs ++ [x]).toArray (k + 1)) :: rest) → Q .none { s with heap := h' }) : wpAny (model prog w) A (call (.builtin "list.append") [.ref D, x]) Q E s := by
  refine append_K F N (.head fun p hp => Nat.ne_of_lt (hD p hp)) (fun h' F' N' => h h' F' ?_) (by rw [List.size_toArray, PySem.sizeLine_eq]; omega)
  rw [List.push_toArray] at N'
  exact N'
end

section
variable {prog : Program} {w : World} {A : Around} {E : Value → Shared → Prop} {s : Shared} {env : Env} {h₀ : Heap} {x : Str} {body : List Stmt} {Q : Flow → Shared → Prop}

theorem krs_inv {I : Addr} {a c : Int} {n : Nat} (J : Nat → (Str → Option Value) → List (Addr × Obj) → Prop)
    (turn : ∀ i t m₁ news₁ h tk, i < n → J i m₁ news₁ → Fr h₀ env.locals h (fun y => if y = x then some (.int (a + (i : Int) * c) t) else m₁ y) → News h₀ env.locals h ((I, krsIt (a + ((i + 1 : Nat) : Int) * c) ((n : Int) - ((i + 1 : Nat) : Int)) c) :: news₁) →
      wpAny (model prog w) A (execs body env) (UnrPost h₀ env.locals { s with heap := h, toks := tk } I (krsIt (a + ((i + 1 : Nat) : Int) * c) ((n : Int) - ((i + 1 : Nat) : Int)) c) (J (i + 1)) Q) E { s with heap := h, toks := tk })
    (done : ∀ m₁ news₁ h tk, J n m₁ news₁ → Fr h₀ env.locals h m₁ → News h₀ env.locals h news₁ → Q .next { s with heap := h, toks := tk }) :
    ∀ (k i : Nat) (m : Str → Option Value) (news : List (Addr × Obj)), k + i = n → J i m news → KrsRest prog w A E h₀ env x body Q s I a c n k i m news
  | 0, i, m, news, e, j => fun h tk F N => done m news h tk (by rw [← e, Nat.zero_add]; exact j) F N
  | k + 1, i, m, news, e, j => fun t h tk F N => by
    refine wpAny_mono (turn i t m news h tk (by omega) j F N) (fun f s₂ q => ?_) fun _ _ z => z
    have fin : UnrEnd h₀ env.locals { s with heap := h, toks := tk } I (krsIt (a + ((i + 1 : Nat) : Int) * c) ((n : Int) - ((i + 1 : Nat) : Int)) c) (J (i + 1)) s₂ →
        UnrEnd h₀ env.locals { s with heap := h, toks := tk } I (krsIt (a + ((i + 1 : Nat) : Int) * c) ((n : Int) - ((i + 1 : Nat) : Int)) c) (KrsRest prog w A E h₀ env x body Q s I a c n k (i + 1)) s₂ := by
      rintro ⟨h', tk', m', news', e', F', N', off, j'⟩
      exact ⟨h', tk', m', news', e', F', N', off, krs_inv J turn done k (i + 1) m' news' (by omega) j'⟩
    cases f with
    | ret v => exact q
    | brk => exact q
    | next => exact fin q
    | cont => exact fin q

/-- the list that the loop fills stands at D, above rest; the names in tmp may turn -/
def BuildJ (m₀ : Str → Option Value) (x : Str) (tmp : List Str) (D : Addr) (rest : List (Addr × Obj)) (ys : List B) (i : Nat) (m₁ : Str → Option Value) (nx : List (Addr × Obj)) : Prop :=
  (∃ ws k, BytesAre ws (ys.take i) ∧ nx = (D, W.listOf ws.toArray k) :: rest) ∧ ∀ z, z ≠ x → tmp.contains z = false → m₁ z = m₀ z

theorem build_loop {r D : Addr} {a₀ b₀ c : Int} {t₀ u₀ v₀ : Tok} {m₀ : Str → Option Value} {rest : List (Addr × Obj)} (tmp : List Str) (ys : List B)
    (hh : A.handled = none) (hr : IsRange s.heap r a₀ b₀ c t₀ u₀ v₀) (hsmall : Builtin.Range.small a₀ b₀ c = true) (hn : Builtin.Range.rangeSize a₀ b₀ c = (ys.length : Int)) (F : Fr h₀ env.locals s.heap m₀) (N : News h₀ env.locals s.heap ((D, W.listOf (([] : List Value)).toArray 0) :: rest))
    (turn : ∀ I oI i t ws k (u : Str → Option Value) h tk, i < ys.length → BytesAre ws (ys.take i) → (∀ p ∈ (D, W.listOf ws.toArray k) :: rest, p.1 ≠ I) →
      Fr h₀ env.locals h (fun y => if y = x then some (.int (a₀ + (i : Int) * c) t) else if tmp.contains y then u y else m₀ y) → News h₀ env.locals h ((I, oI) :: (D, W.listOf ws.toArray k) :: rest) →
      wpAny (model prog w) A (execs body env) (UnrPost h₀ env.locals { s with heap := h, toks := tk } I oI (BuildJ m₀ x tmp D rest ys (i + 1)) Q) E { s with heap := h, toks := tk })
    (done : ∀ ws k (u : Str → Option Value) h tk, BytesAre ws ys → Fr h₀ env.locals h (fun y => if y = x then u y else if tmp.contains y then u y else m₀ y) → News h₀ env.locals h ((D, W.listOf ws.toArray k) :: rest) → Q .next { s with heap := h, toks := tk }) :
    wpAny (model prog w) A (pyIter (.ref r)) (fun it s₂ => LoopAtV prog w A h₀ env x body Q E it s₂) E s := by
  refine krs_iter hh hr hsmall hn F N fun I hI => krs_inv (BuildJ m₀ x tmp D rest ys) ?_ ?_ _ _ _ _ (by omega) ⟨⟨[], 0, by simpa using BytesAre.nil, rfl⟩, fun _ _ _ => rfl⟩
  · rintro i t m₁ nx h tk hi ⟨⟨ws, k, hb, rfl⟩, hm⟩ F₁ N₁
    refine turn I _ i t ws k m₁ h tk hi hb (fun p hp => ?_) ?_ N₁
    · rcases List.mem_cons.mp hp with rfl | hp
      · exact Nat.ne_of_lt (hI (D, W.listOf (([] : List Value)).toArray 0) (.head _))
      · exact Nat.ne_of_lt (hI p (.tail _ hp))
    · have e : (fun y => if y = x then some (Value.int (a₀ + (i : Int) * c) t) else if tmp.contains y then m₁ y else m₀ y) = fun y => if y = x then some (Value.int (a₀ + (i : Int) * c) t) else m₁ y := by
        funext y
        by_cases h1 : y = x
        · simp only [if_pos h1]
        · simp only [if_neg h1]
          cases h2 : tmp.contains y with
          | true => simp
          | false => simp only [Bool.false_eq_true, if_false]; exact (hm y h1 h2).symm
      rw [e]; exact F₁
  · rintro m₁ nx h tk ⟨⟨ws, k, hb, rfl⟩, hm⟩ F₁ N₁
    rw [List.take_length] at hb
    refine done ws k m₁ h tk hb ?_ N₁
    have e : (fun y => if y = x then m₁ y else if tmp.contains y then m₁ y else m₀ y) = m₁ := by
      funext y
      by_cases h1 : y = x
      · simp only [if_pos h1]
      · simp only [if_neg h1]
        cases h2 : tmp.contains y with
        | true => simp
        | false => simp only [Bool.false_eq_true, if_false]; exact (hm y h1 h2).symm
    rw [e]; exact F₁

theorem build_end {L I D : Addr} {oI : Obj} {m₀ m' : Str → Option Value} {tmp : List Str} {rest : List (Addr × Obj)} {ys : List B} {i k : Nat} {ws : List Value} {b : B} {t : Tok} {h' : Heap} {tk : Nat} {s₁ : Shared}
    (F : Fr h₀ L h' m') (N : News h₀ L h' ((I, oI) :: (D, W.listOf (ws ++ [Value.bytes b t]).toArray (k + 1)) :: rest)) (hb : BytesAre ws (ys.take i)) (hy : ys[i]? = some b) (off : ∀ p ∈ (D, W.listOf ws.toArray k) :: rest, p.1 ≠ I)
    (hm : ∀ z, z ≠ x → tmp.contains z = false → m' z = m₀ z) : UnrEnd h₀ L s₁ I oI (BuildJ m₀ x tmp D rest ys (i + 1)) { s₁ with heap := h', toks := tk } := by
  refine ⟨h', tk, m', _, rfl, F, N, fun p hp => ?_, ⟨_, k + 1, ?_, rfl⟩, hm⟩
  · rcases List.mem_cons.mp hp with rfl | hp
    · exact off (D, W.listOf ws.toArray k) (.head _)
    · exact off p (.tail _ hp)
  · rw [List.take_add_one, hy]
    exact hb.snoc b t
end

theorem small_two {b : Int} (hb : 0 ≤ b) (hb' : b ≤ 1000000) : Builtin.Range.small 0 b 2 = true := by
  have e : Builtin.Range.rangeSize 0 b 2 = (b + 2 - 1) / 2 := rangeSize_pos (by decide) hb
  unfold Builtin.Range.small
  rw [e]
  simp only [Builtin.Range.rangeFitsLong, Bool.and_eq_true, Bool.or_eq_true, decide_eq_true_eq, beq_iff_eq, show (2 : Int) > 0 by decide, if_true]
  omega
theorem size_two (n : Nat) : Builtin.Range.rangeSize 0 ((2 * n : Nat) : Int) 2 = (n : Int) := by
  rw [rangeSize_pos (by decide) (by omega)]
  omega
theorem small_up {b : Int} (hb : 0 ≤ b) (hb' : b ≤ 1000000) : Builtin.Range.small 0 b 1 = true := small_one (by decide) (by decide) (by omega) (by omega)
theorem size_up (n : Nat) : Builtin.Range.rangeSize 0 (n : Int) 1 = (n : Int) := by
  rw [rangeSize_one]
  split <;> omega

theorem allLt_all {d : Addr} : ∀ {l : List (Addr × Obj)}, AllLt d l → ∀ p ∈ l, p.1 < d
  | [], _, _, h => nomatch h
  | _ :: _, x, p, h => by
    rcases List.mem_cons.mp h with rfl | h
    · exact x.1
    · exact allLt_all x.2 p h

/-- a turn's end of «while len(x) > 1: x = one level of x» -/
def TreeStep (h₀ : Heap) (L : Addr) (s : Shared) (R : Addr × Obj → List (Addr × Obj) → Prop) (x : Str) (m₀ : Str → Option Value) (H : B → B) (bs : List B) (Q : Flow → Shared → Prop) (f : Flow) (s₃ : Shared) : Prop :=
  match f with
  | .ret v => Q (.ret v) s₃
  | .brk => Q .next s₃
  | _ => ∃ h' tk m₂ nx l vs k, s₃ = { s with heap := h', toks := tk } ∧ Fr h₀ L h' m₂ ∧ News h₀ L h' nx ∧ R (l, W.listOf vs.toArray k) nx ∧ BytesAre vs (lvl H bs) ∧ m₂ x = some (.ref l) ∧ (∀ z, z ≠ x → m₂ z = m₀ z) ∧ 1 < bs.length

section
variable {prog : Program} {w : World} {A : Around} {E : Value → Shared → Prop} {Q : Flow → Shared → Prop} {s : Shared} {env : Env} {h₀ : Heap} {L : Addr}
theorem tree_while {test : Expr} {body : List Stmt} {pos : Pos} {m₀ : Str → Option Value} {nx₀ : List (Addr × Obj)} {H : B → B} {lim : Nat} {root : B} {l₀ : Addr} {vs₀ : List Value} {k₀ : Nat} {bs₀ : List B}
    (R : Addr × Obj → List (Addr × Obj) → Prop) (x : Str) (F : Fr h₀ L s.heap m₀) (N : News h₀ L s.heap nx₀) (hR : R (l₀, W.listOf vs₀.toArray k₀) nx₀) (hb : BytesAre vs₀ bs₀) (ht : Tree H lim bs₀ root) (hlen : bs₀.length ≤ 1000) (hx : m₀ x = some (.ref l₀))
    (turn : ∀ l vs k bs nx h tk, BytesAre vs bs → Tree H lim bs root → bs.length ≤ 1000 → R (l, W.listOf vs.toArray k) nx → Fr h₀ L h (fun z => if z = x then some (.ref l) else m₀ z) → News h₀ L h nx →
      wpAny (model prog w) A (isTrue test env (eval test env)) (fun b s₂ =>
        if b = true then wpAny (model prog w) A (execs body env) (TreeStep h₀ L s R x m₀ H bs Q) E s₂ else Q .next s₂) E { s with heap := h, toks := tk })
    (hE : PassesOwn (model prog w) A env E := by passes_own) :
    wpAny (model prog w) A (exec (.While test body [] pos) env) Q E s := by
  refine While_inv2 (n₀ := bs₀.length) (fun n m nx => ∃ l vs k bs, BytesAre vs bs ∧ Tree H lim bs root ∧ bs.length ≤ 1000 ∧ bs.length = n ∧ R (l, W.listOf vs.toArray k) nx ∧ m x = some (.ref l) ∧ ∀ z, z ≠ x → m z = m₀ z) F N ⟨l₀, vs₀, k₀, bs₀, hb, ht, hlen, rfl, hR, hx, fun _ _ => rfl⟩ ?_ hE
  rintro n m₁ nx h tk F₁ N₁ ⟨l, vs, k, bs, hb', ht', hl', hn, hR', hx', hm'⟩
  have e : (fun z => if z = x then some (Value.ref l) else m₀ z) = m₁ := by
    funext z
    by_cases h1 : z = x
    · rw [if_pos h1, h1]; exact hx'.symm
    · rw [if_neg h1]; exact (hm' z h1).symm
  refine wpAny_mono (turn l vs k bs nx h tk hb' ht' hl' hR' (by rw [e]; exact F₁) N₁) (fun b s₂ p => ?_) fun _ _ y => y
  cases b with
  | false => simpa using p
  | true =>
    simp only [if_true] at p ⊢
    refine wpAny_mono p (fun f s₃ q => ?_) fun _ _ y => y
    have fin : (∃ h' tk m₂ nx l vs k, s₃ = { s with heap := h', toks := tk } ∧ Fr h₀ L h' m₂ ∧ News h₀ L h' nx ∧ R (l, W.listOf vs.toArray k) nx ∧ BytesAre vs (lvl H bs) ∧ m₂ x = some (.ref l) ∧ (∀ z, z ≠ x → m₂ z = m₀ z) ∧ 1 < bs.length) →
        ∃ h' tk m₂ news₂ n', s₃ = { s with heap := h', toks := tk } ∧ Fr h₀ L h' m₂ ∧ News h₀ L h' news₂ ∧ n' < n ∧ ∃ l vs k bs, BytesAre vs bs ∧ Tree H lim bs root ∧ bs.length ≤ 1000 ∧ bs.length = n' ∧ R (l, W.listOf vs.toArray k) news₂ ∧ m₂ x = some (.ref l) ∧ ∀ z, z ≠ x → m₂ z = m₀ z := by
      rintro ⟨h', tk', m₂, nx', l', vs', k', e', F', N', hR9, hb9, hx9, hm9, h1⟩
      have hll := lvl_length H bs
      exact ⟨h', tk', m₂, nx', (lvl H bs).length, e', F', N', by omega, l', vs', k', lvl H bs, hb9, (ht'.next h1).2, by omega, rfl, hR9, hx9, hm9⟩
    cases f with
    | ret v => exact q
    | brk => exact q
    | next => exact fin q
    | cont => exact fin q
end

local macro_rules | `(tactic| k_mem) => `(tactic| first | assumption | exact List.mem_cons_self | (refine List.mem_cons_of_mem _ ?_; k_mem))
local macro_rules | `(tactic| walk_at "pyIter ref") => `(tactic| refine Hold.out ?_)
local macro_rules | `(tactic| walk_at "call builtin:len") => `(tactic| ((with_reducible show wpAny _ _ (call (Value.builtin "len") [Value.ref _]) _ _ _); refine' len_bytes ?N ?m ?b ?z ?_; (case N => assumption); (case m => k_mem); (case b => assumption); (case z => omega)))

def shortStep (v o : Int) : Int := (v * 257 + o + 1).fmod 16777213
def shortVal (b : Array UInt8) : Int := (KBw.bInts b).foldl shortStep (b.size : Int)
def shortNs (v : Int) : List Int := [v.fmod 256, (v.fdiv 256).fmod 256, v.fdiv 65536]
def short (b : Array UInt8) : Array UInt8 := ((shortNs (shortVal b)).map fun n => n.toNat.toUInt8).toArray
theorem shortNs_in {v : Int} (h0 : 0 ≤ v) (h1 : v < 16777216) : ∀ n ∈ shortNs v, 0 ≤ n ∧ n < 256 := by
  have a1 := Int.fmod_nonneg_of_pos v (b := 256) (by decide)
  have a2 := Int.fmod_lt_of_pos v (b := 256) (by decide)
  have b1 := Int.fmod_nonneg_of_pos (v.fdiv 256) (b := 256) (by decide)
  have b2 := Int.fmod_lt_of_pos (v.fdiv 256) (b := 256) (by decide)
  have c : v.fdiv 65536 = v / 65536 := Int.fdiv_eq_ediv_of_nonneg _ (by decide)
  intro n hn
  simp only [shortNs, List.mem_cons, List.not_mem_nil, or_false] at hn
  rcases hn with rfl | rfl | rfl <;> omega

theorem shortStep_in (v o : Int) : 0 ≤ shortStep v o ∧ shortStep v o < 16777216 := by
  unfold shortStep
  have h1 := Int.fmod_nonneg_of_pos (v * 257 + o + 1) (b := 16777213) (by decide)
  have h2 := Int.fmod_lt_of_pos (v * 257 + o + 1) (b := 16777213) (by decide)
  omega
theorem fold_in : ∀ (ks : List Int) (v : Int), 0 ≤ v → v < 16777216 → 0 ≤ ks.foldl shortStep v ∧ ks.foldl shortStep v < 16777216
  | [], v, h0, h1 => ⟨h0, h1⟩
  | k :: r, v, _, _ => by
    rw [List.foldl_cons]
    exact fold_in r _ (shortStep_in v k).1 (shortStep_in v k).2
theorem shortVal_in {b : Array UInt8} (hb : b.size ≤ 1000) : 0 ≤ shortVal b ∧ shortVal b < 16777216 := fold_in _ _ (by omega) (by omega)

set_option maxRecDepth 100000 in
set_option maxHeartbeats 8000000 in
theorem short_ok (w : World) (b : Array UInt8) (t : Tok) (hb : b.size ≤ 1000) : CallSpec w 4 92 [] [.bytes b t] (fun tl r => tl = [] ∧ ∃ t', r = .bytes (short b) t') := by
  unfold CallSpec; first | k_fill | skip
  intro p loose mean mg mb dp un gd cn cs a ccd cl outer A₀ base h₀ L m news s Q E B F X N T hk hd hu hneed hret
  refine wpAny_call ?_
  k_dflt ktr_enter
  k_steps
  rename Fr _ _ _ _ => F9
  rename News _ _ _ _ => N9
  refine KBw.iterBytes_acc1 (y := Str.ofString "value") shortStep rfl (by rfl) F9 N9 (by rfl) ?turn ?done
  case turn =>
    intro k t a ta h tk own hk h0 h1 hoff F' N'
    dsimp only [envOf] at F' N'
    clear F9 N9
    k_steps
    rename Fr _ _ _ _ => F8
    rename News _ _ _ _ => N8
    refine ⟨_, _, _, _, news, rfl, F8, N8, fun p hp => List.mem_append_left _ hp, fun p hp => List.mem_append_right _ hp, rfl, rfl, ⟨_, rfl⟩, ?_⟩
    intro z hz1 hz2
    simp only [if_neg hz1, if_neg hz2]
  case done =>
    intro u t h tk F' N'
    have hV := shortVal_in hb
    change Fr _ _ _ (fun z => if z = Str.ofString "octet" then u z else if z = Str.ofString "value" then some (Value.int (shortVal b) t) else _) at F'
    dsimp only [envOf] at F' N'
    clear F9 N9
    obtain ⟨V, hVe⟩ : ∃ V, V = shortVal b := ⟨_, rfl⟩
    rw [← hVe] at hV F'
    obtain ⟨hV0, hV1⟩ := hV
    k_steps
    rename Fr _ _ _ _ => F7
    rename News _ _ _ _ => N7
    refine bytes_K (ns := shortNs V) F7 N7 (News.isList N7 List.mem_cons_self) (.cons _ _ (.cons _ _ (.cons _ _ .nil))) (shortNs_in hV0 hV1) (by rw [PySem.sizeLine_eq]; simp only [List.length_cons, List.length_nil]; decide) rfl ?_
    intro h' t k F6 N6 _
    clear F7 N7
    k_steps
    rename Fr h₀ L _ _ => F5
    rename News h₀ L _ _ => N5
    refine hret [] _ _ _ F5 (fun p hp => N5 p (List.mem_cons_of_mem _ hp)) (fun _ _ _ h => nomatch h) ⟨rfl, t, ?_⟩
    rw [short, hVe]

theorem short_size (b : B) : (short b).size = 3 := by
  simp [short, shortNs]
theorem short_hash (w : World) : HashAt w 92 [] short 1000 where
  fn h X _ := by
    have e : (hd.heap_39 w.params).lookup 92 = some _ := rfl
    exact ⟨_, _, _, _, X _ _ e⟩
  call b t hb := short_ok w b t hb
  small := by decide


section
local macro_rules | `(tactic| walk_at "callWith ref") => `(tactic| refine Hold.out ?_)
local macro_rules | `(tactic| walk_at "subscriptTail") => `(tactic| refine Hold.out ?_)
local macro_rules | `(tactic| walk_at "call builtin:list.append") => `(tactic| refine Hold.out ?_)
local macro_rules | `(tactic| walk_at "call type:list") => `(tactic| refine Hold.out ?_)
local macro_rules | `(tactic| walk_at "newList") => `(tactic| refine Hold.out ?_)
local macro_rules | `(tactic| walk_at "call ref") => `(tactic| refine Hold.out ?_)
local macro_rules | `(tactic| walk_at "binaryOp Add bytes bytes") => `(tactic| refine Hold.out ?_)
local macro_rules | `(tactic| walk_at "UnrPost") => `(tactic| refine Hold.out ?_)
local macro_rules | `(tactic| walk_at "And") => `(tactic| refine Hold.out ?_)
set_option maxRecDepth 100000 in
set_option maxHeartbeats 8000000 in
theorem pair_ok {w : World} {f : Addr} {need : List (Addr × Obj)} {H : B → B} {lim : Nat} (HA : HashAt w f need H lim) {l : Addr} {vs : List Value} {n : Nat} {bs : List B} (hv : BytesAre vs bs) (hl : ∀ b ∈ bs, 2 * b.size ≤ lim) (hlen : bs.length ≤ 1000) :
    CallSpec w 8 78 ((l, W.listOf vs.toArray n) :: need) [.ref l, .ref f] fun tl r => ∃ l' ws k, r = .ref l' ∧ tl = [(l', W.listOf ws.toArray k)] ∧ BytesAre ws (lvl H bs) := by
  unfold CallSpec; first | k_fill | skip
  intro p loose mean mg mb dp un gd cn cs a ccd cl outer A₀ base h₀ L m news s Q E B F X N T hk hd hu hneed hret
  refine wpAny_call ?_
  k_dflt ktr_enter
  have hmem : (l, W.listOf vs.toArray n) ∈ news := hneed _ List.mem_cons_self
  have hev := evened_length bs
  have hsm := HA.small
  rename Frag.In _ _ => X'
  rename Below _ _ _ _ => B'
  rename Top _ _ _ _ _ _ => T'
  k_steps
  case' _ =>
    refine ⟨?_⟩
    rename Fr _ _ _ _ => F9
    rename News _ _ _ _ => N9
    rename Int.fmod _ _ = 1 => hodd
    have hodd' : bs.length % 2 = 1 := by
      have := Int.fmod_eq_emod_of_nonneg (bs.length : Int) (b := 2) (by decide)
      omega
    have hne : 0 < bs.length := by omega
    refine copy_bytes F9 N9 hmem hv (by omega) ?_
    intro D c h' F' N' hD
    clear F9 N9
    k_steps
    refine ⟨?_⟩
    rename Fr _ _ _ _ => F9
    rename News _ _ _ _ => N9
    refine bytes_last hv N9 List.mem_cons_self hne ?_
    intro tl
    k_steps
    refine ⟨?_⟩
    refine append_top F9 N9 hD (by rw [hv.length]; omega) ?_
    intro h2 F' N'
    clear F9 N9
    have hv' : BytesAre (vs ++ [Value.bytes (bs.getD (bs.length - 1) #[]) tl]) (evened bs) := by
      unfold evened; rw [if_pos hodd']; exact hv.snoc _ _
    k_steps
    refine ⟨?_⟩
    rename Fr _ _ _ _ => F9
    rename News _ _ _ _ => N9
    refine newList_K F9 N9 ?_
    intro l' h3 F' N' hlt
    clear F9 N9
    k_steps
    have hup : ∀ p ∈ news, p ∈ (D, W.listOf (vs ++ [Value.bytes (bs.getD (bs.length - 1) #[]) tl]).toArray (c + 1)) :: news := fun p hp => List.mem_cons_of_mem _ hp
    have hin : ∀ q ∈ (l, W.listOf vs.toArray n) :: need, q ∈ (D, W.listOf (vs ++ [Value.bytes (bs.getD (bs.length - 1) #[]) tl]).toArray (c + 1)) :: news := fun q hq => hup q (hneed q hq)
    have hh : (D, W.listOf (vs ++ [Value.bytes (bs.getD (bs.length - 1) #[]) tl]).toArray (c + 1)) ∈ (D, W.listOf (vs ++ [Value.bytes (bs.getD (bs.length - 1) #[]) tl]).toArray (c + 1)) :: news := List.mem_cons_self

    refine ⟨?_⟩
    rename IsRange _ _ _ _ _ _ _ _ => R9
    rename Fr _ _ _ _ => F9
    rename News _ _ _ _ => N9
    refine build_loop (c := 2) [] (lvl H bs) rfl R9 (small_two (by omega) (by omega)) (by rw [lvl_length]; rw [hev]; exact size_two _) F9 N9 ?turn ?done
    case turn =>
      intro I oI i t ws k u h tk hi hb off F' N'
      rw [lvl_length] at hi
      dsimp only [envOf] at F' N'
      clear F9 N9 R9
      have hfn : FnAt f h := HA.fn h (Frag.In.keeps X' F'.keep) fun q hq => (N' q (List.mem_cons_of_mem _ (List.mem_cons_of_mem _ (hin q (List.mem_cons_of_mem _ hq))))).1
      k_steps
      refine ⟨?_⟩
      refine callWith_F hfn ?_
      k_steps
      refine ⟨?_⟩
      refine bytes_at (2 * i) hv' N' (List.mem_cons_of_mem _ (List.mem_cons_of_mem _ hh)) (by omega) (by rw [hev]; omega) (by rw [hev]; omega) ?_
      intro t1
      k_steps
      refine ⟨?_⟩
      refine bytes_at (2 * i + 1) hv' N' (List.mem_cons_of_mem _ (List.mem_cons_of_mem _ hh)) (by omega) (by rw [hev]; omega) (by rw [hev]; omega) ?_
      intro t2
      k_steps
      refine ⟨?_⟩
      have z1 := evened_size hl (2 * i)
      have z2 := evened_size hl (2 * i + 1)
      refine KBy.add_bytes (by omega) fun t3 k3 => ?_
      k_steps
      refine ⟨⟨hfn, ?_⟩⟩
      k_steps
      refine ⟨?_⟩
      refine HA.call _ _ (by rw [Array.size_append]; omega) B' F' X' N' T' rfl (by ktr_room) (by ktr_units) (fun q hq => List.mem_cons_of_mem _ (List.mem_cons_of_mem _ (hin q (List.mem_cons_of_mem _ hq)))) ?_
      rintro tl' r h4 tk4 F4 N4 _ ⟨rfl, t4, rfl⟩
      simp only [List.nil_append] at N4
      clear F' N'
      k_steps
      refine ⟨?_⟩
      have hbl := hb.length
      have htl : (List.take i (lvl H bs)).length ≤ 1000000 := by rw [List.length_take, lvl_length]; omega
      refine append_mid F4 N4 off hlt (by omega) ?_
      intro h5 F5 N5
      clear F4 N4
      k_steps
      refine ⟨?_⟩
      refine build_end F5 N5 hb (lvl_evened H bs i (by omega)) off ?_
      intro z hz _
      simp only [if_neg hz]
      rfl
    case done =>
      intro ws k u h tk hb F' N'
      dsimp only [envOf] at F' N'
      clear F9 N9 R9
      k_steps
      rename Fr h₀ L _ _ => F5
      rename News h₀ L _ _ => N5
      refine hret [(l', W.listOf ws.toArray k)] _ _ _ F5 (fun p hp => N5 p ?_) ?_ ⟨_, ws, k, rfl, rfl, hb⟩
      · rcases List.mem_append.mp hp with hp | hp
        · exact List.mem_singleton.mp hp ▸ List.mem_cons_self
        · exact List.mem_cons_of_mem _ (hup p hp)
      · intro q hq p hp
        rw [List.mem_singleton.mp hp]
        exact hlt q (hup q hq)

  case' _ =>
    rename Int.fmod _ _ ≠ 1 => hodd
    have hodd' : ¬ bs.length % 2 = 1 := by
      have := Int.fmod_eq_emod_of_nonneg (bs.length : Int) (b := 2) (by decide)
      omega
    have hv' : BytesAre vs (evened bs) := by
      unfold evened; rw [if_neg hodd']; exact hv
    refine ⟨?_⟩
    rename Fr _ _ _ _ => F9
    rename News _ _ _ _ => N9
    refine newList_K F9 N9 ?_
    intro l' h3 F' N' hlt
    clear F9 N9
    k_steps
    have hup : ∀ p ∈ news, p ∈ news := fun p hp => hp
    have hin := hneed
    have hh := hmem

    refine ⟨?_⟩
    rename IsRange _ _ _ _ _ _ _ _ => R9
    rename Fr _ _ _ _ => F9
    rename News _ _ _ _ => N9
    refine build_loop (c := 2) [] (lvl H bs) rfl R9 (small_two (by omega) (by omega)) (by rw [lvl_length]; rw [hev]; exact size_two _) F9 N9 ?turn ?done
    case turn =>
      intro I oI i t ws k u h tk hi hb off F' N'
      rw [lvl_length] at hi
      dsimp only [envOf] at F' N'
      clear F9 N9 R9
      have hfn : FnAt f h := HA.fn h (Frag.In.keeps X' F'.keep) fun q hq => (N' q (List.mem_cons_of_mem _ (List.mem_cons_of_mem _ (hin q (List.mem_cons_of_mem _ hq))))).1
      k_steps
      refine ⟨?_⟩
      refine callWith_F hfn ?_
      k_steps
      refine ⟨?_⟩
      refine bytes_at (2 * i) hv' N' (List.mem_cons_of_mem _ (List.mem_cons_of_mem _ hh)) (by omega) (by rw [hev]; omega) (by rw [hev]; omega) ?_
      intro t1
      k_steps
      refine ⟨?_⟩
      refine bytes_at (2 * i + 1) hv' N' (List.mem_cons_of_mem _ (List.mem_cons_of_mem _ hh)) (by omega) (by rw [hev]; omega) (by rw [hev]; omega) ?_
      intro t2
      k_steps
      refine ⟨?_⟩
      have z1 := evened_size hl (2 * i)
      have z2 := evened_size hl (2 * i + 1)
      refine KBy.add_bytes (by omega) fun t3 k3 => ?_
      k_steps
      refine ⟨⟨hfn, ?_⟩⟩
      k_steps
      refine ⟨?_⟩
      refine HA.call _ _ (by rw [Array.size_append]; omega) B' F' X' N' T' rfl (by ktr_room) (by ktr_units) (fun q hq => List.mem_cons_of_mem _ (List.mem_cons_of_mem _ (hin q (List.mem_cons_of_mem _ hq)))) ?_
      rintro tl' r h4 tk4 F4 N4 _ ⟨rfl, t4, rfl⟩
      simp only [List.nil_append] at N4
      clear F' N'
      k_steps
      refine ⟨?_⟩
      have hbl := hb.length
      have htl : (List.take i (lvl H bs)).length ≤ 1000000 := by rw [List.length_take, lvl_length]; omega
      refine append_mid F4 N4 off hlt (by omega) ?_
      intro h5 F5 N5
      clear F4 N4
      k_steps
      refine ⟨?_⟩
      refine build_end F5 N5 hb (lvl_evened H bs i (by omega)) off ?_
      intro z hz _
      simp only [if_neg hz]
      rfl
    case done =>
      intro ws k u h tk hb F' N'
      dsimp only [envOf] at F' N'
      clear F9 N9 R9
      k_steps
      rename Fr h₀ L _ _ => F5
      rename News h₀ L _ _ => N5
      refine hret [(l', W.listOf ws.toArray k)] _ _ _ F5 (fun p hp => N5 p ?_) ?_ ⟨_, ws, k, rfl, rfl, hb⟩
      · rcases List.mem_append.mp hp with hp | hp
        · exact List.mem_singleton.mp hp ▸ List.mem_cons_self
        · exact List.mem_cons_of_mem _ (hup p hp)
      · intro q hq p hp
        rw [List.mem_singleton.mp hp]
        exact hlt q (hup q hq)

end


section
local macro_rules | `(tactic| walk_at "callWith ref") => `(tactic| refine Hold.out ?_)
local macro_rules | `(tactic| walk_at "subscriptTail") => `(tactic| refine Hold.out ?_)
local macro_rules | `(tactic| walk_at "call builtin:list.append") => `(tactic| refine Hold.out ?_)
local macro_rules | `(tactic| walk_at "newList") => `(tactic| refine Hold.out ?_)
local macro_rules | `(tactic| walk_at "call ref") => `(tactic| refine Hold.out ?_)
local macro_rules | `(tactic| walk_at "binaryOp Add bytes bytes") => `(tactic| refine Hold.out ?_)
local macro_rules | `(tactic| walk_at "UnrPost") => `(tactic| refine Hold.out ?_)
local macro_rules | `(tactic| walk_at "And") => `(tactic| refine Hold.out ?_)
set_option maxRecDepth 100000 in
set_option maxHeartbeats 8000000 in
theorem level_ok {w : World} {f : Addr} {need : List (Addr × Obj)} {H : B → B} {lim : Nat} (HA : HashAt w f need H lim) {l : Addr} {vs : List Value} {n : Nat} {bs : List B} (hv : BytesAre vs bs) (hl : ∀ b ∈ bs, 2 * b.size ≤ lim) (hlen : bs.length ≤ 1000) :
    CallSpec w 8 85 ((l, W.listOf vs.toArray n) :: need) [.ref l, .ref f] fun tl r => ∃ l' ws k, r = .ref l' ∧ tl = [(l', W.listOf ws.toArray k)] ∧ BytesAre ws (lvl H bs) := by
  unfold CallSpec; first | k_fill | skip
  intro p loose mean mg mb dp un gd cn cs a ccd cl outer A₀ base h₀ L m news s Q E B F X N T hk hd hu hneed hret
  refine wpAny_call ?_
  k_dflt ktr_enter
  have hmem : (l, W.listOf vs.toArray n) ∈ news := hneed _ List.mem_cons_self
  have hsm := HA.small
  rename Frag.In _ _ => X'
  rename Below _ _ _ _ => B'
  rename Top _ _ _ _ _ _ => T'
  k_steps
  refine ⟨?_⟩
  rename Fr _ _ _ _ => F9
  rename News _ _ _ _ => N9
  refine newList_K F9 N9 ?_
  intro l' h3 F' N' hlt
  clear F9 N9
  have hfd : ((bs.length : Int) + 1).fdiv 2 = (((bs.length + 1) / 2 : Nat) : Int) := by
    rw [Int.fdiv_eq_ediv_of_nonneg _ (by decide)]; omega
  k_steps
  refine ⟨?_⟩
  rename IsRange _ _ _ _ _ _ _ _ => R9
  rename Fr _ _ _ _ => F9
  rename News _ _ _ _ => N9
  rw [hfd] at R9
  refine build_loop (c := 1) [Str.ofString "right"] (lvl H bs) rfl R9 (small_up (by omega) (by omega)) (by rw [lvl_length]; exact size_up _) F9 N9 ?turn ?done
  case turn =>
    intro I oI i t ws k u h tk hi hb off F' N'
    rw [lvl_length] at hi
    dsimp only [envOf] at F' N'
    clear F9 N9 R9
    have z1 := getD_size hl (2 * i)
    have z2 := getD_size hl (2 * i + 1)
    k_steps
    case' _ =>
      refine ⟨?_⟩
      have hc : 2 * i + 1 < bs.length := by omega
      refine bytes_at (2 * i + 1) hv N' (List.mem_cons_of_mem _ (List.mem_cons_of_mem _ hmem)) (by omega) (by omega) (by omega) ?_
      intro t1

      k_steps
      refine ⟨?_⟩
      rename Fr _ _ _ _ => F3
      rename News _ _ _ _ => N3
      have hfn : FnAt f _ := HA.fn _ (Frag.In.keeps X' F3.keep) fun q hq => (N3 q (List.mem_cons_of_mem _ (List.mem_cons_of_mem _ (hneed q (List.mem_cons_of_mem _ hq))))).1
      refine callWith_F hfn ?_
      k_steps
      refine ⟨?_⟩
      refine bytes_at (2 * i) hv N3 (List.mem_cons_of_mem _ (List.mem_cons_of_mem _ hmem)) (by omega) (by omega) (by omega) ?_
      intro t2
      k_steps
      refine ⟨?_⟩
      refine KBy.add_bytes (by omega) fun t3 k3 => ?_
      k_steps
      refine ⟨⟨hfn, ?_⟩⟩
      k_steps
      refine ⟨?_⟩
      refine HA.call _ _ (by rw [Array.size_append]; omega) B' F3 X' N3 T' rfl (by ktr_room) (by ktr_units) (fun q hq => List.mem_cons_of_mem _ (List.mem_cons_of_mem _ (hneed q (List.mem_cons_of_mem _ hq)))) ?_
      rintro tl' r h4 tk4 F4 N4 _ ⟨rfl, t4, rfl⟩
      simp only [List.nil_append] at N4
      clear F3 N3
      k_steps
      refine ⟨?_⟩
      have hbl := hb.length
      have htl : (List.take i (lvl H bs)).length ≤ 1000000 := by rw [List.length_take, lvl_length]; omega
      refine append_mid F4 N4 off hlt (by omega) ?_
      intro h5 F5 N5
      clear F4 N4
      k_steps
      refine ⟨?_⟩
      refine build_end F5 N5 hb (by rw [lvl_get H bs i (by omega), if_pos hc]) off ?_
      intro z hz hz2
      have hz3 : z ≠ Str.ofString "right" := by
        intro e
        rw [e] at hz2
        exact absurd hz2 (by decide +kernel)
      simp only [if_neg hz, if_neg hz3, hz2, Bool.false_eq_true, if_false]

    case' _ =>
      refine ⟨?_⟩
      have hc : ¬ 2 * i + 1 < bs.length := by omega
      refine bytes_at (2 * i) hv N' (List.mem_cons_of_mem _ (List.mem_cons_of_mem _ hmem)) (by omega) (by omega) (by omega) ?_
      intro t1

      k_steps
      refine ⟨?_⟩
      rename Fr _ _ _ _ => F3
      rename News _ _ _ _ => N3
      have hfn : FnAt f _ := HA.fn _ (Frag.In.keeps X' F3.keep) fun q hq => (N3 q (List.mem_cons_of_mem _ (List.mem_cons_of_mem _ (hneed q (List.mem_cons_of_mem _ hq))))).1
      refine callWith_F hfn ?_
      k_steps
      refine ⟨?_⟩
      refine bytes_at (2 * i) hv N3 (List.mem_cons_of_mem _ (List.mem_cons_of_mem _ hmem)) (by omega) (by omega) (by omega) ?_
      intro t2
      k_steps
      refine ⟨?_⟩
      refine KBy.add_bytes (by omega) fun t3 k3 => ?_
      k_steps
      refine ⟨⟨hfn, ?_⟩⟩
      k_steps
      refine ⟨?_⟩
      refine HA.call _ _ (by rw [Array.size_append]; omega) B' F3 X' N3 T' rfl (by ktr_room) (by ktr_units) (fun q hq => List.mem_cons_of_mem _ (List.mem_cons_of_mem _ (hneed q (List.mem_cons_of_mem _ hq)))) ?_
      rintro tl' r h4 tk4 F4 N4 _ ⟨rfl, t4, rfl⟩
      simp only [List.nil_append] at N4
      clear F3 N3
      k_steps
      refine ⟨?_⟩
      have hbl := hb.length
      have htl : (List.take i (lvl H bs)).length ≤ 1000000 := by rw [List.length_take, lvl_length]; omega
      refine append_mid F4 N4 off hlt (by omega) ?_
      intro h5 F5 N5
      clear F4 N4
      k_steps
      refine ⟨?_⟩
      refine build_end F5 N5 hb (by rw [lvl_get H bs i (by omega), if_neg hc]) off ?_
      intro z hz hz2
      have hz3 : z ≠ Str.ofString "right" := by
        intro e
        rw [e] at hz2
        exact absurd hz2 (by decide +kernel)
      simp only [if_neg hz, if_neg hz3, hz2, Bool.false_eq_true, if_false]

  case done =>
    intro ws k u h tk hb F' N'
    dsimp only [envOf] at F' N'
    clear F9 N9 R9
    k_steps
    rename Fr h₀ L _ _ => F5
    rename News h₀ L _ _ => N5
    refine hret [(l', W.listOf ws.toArray k)] _ _ _ F5 (fun p hp => N5 p ?_) ?_ ⟨_, ws, k, rfl, rfl, hb⟩
    · rcases List.mem_append.mp hp with hp | hp
      · exact List.mem_singleton.mp hp ▸ List.mem_cons_self
      · exact List.mem_cons_of_mem _ hp
    · intro q hq p hp
      rw [List.mem_singleton.mp hp]
      exact hlt q hq
end


section
local macro_rules | `(tactic| walk_at "subscriptTail") => `(tactic| refine Hold.out ?_)
local macro_rules | `(tactic| walk_at "call ref") => `(tactic| refine Hold.out ?_)
local macro_rules | `(tactic| walk_at "exec While Compare cons nil") => `(tactic| refine Hold.out ?_)
local macro_rules | `(tactic| walk_at "TreeStep") => `(tactic| refine Hold.out ?_)
set_option maxRecDepth 100000 in
set_option maxHeartbeats 8000000 in
theorem merkle_ok {w : World} {f : Addr} {need : List (Addr × Obj)} {H : B → B} {lim : Nat} (HA : HashAt w f need H lim) {l : Addr} {vs : List Value} {n : Nat} {bs : List B} {root : B} (hv : BytesAre vs bs) (ht : Tree H lim bs root) (hlen : bs.length ≤ 1000) :
    CallSpec w 12 71 ((l, W.listOf vs.toArray n) :: need) [.ref l, .ref f] fun tl r => tl = [] ∧ ∃ t, r = .bytes root t := by
  unfold CallSpec; first | k_fill | skip
  intro p loose mean mg mb dp un gd cn cs a ccd cl outer A₀ base h₀ L m news s Q E B F X N T hk hd hu hneed hret
  refine wpAny_call ?_
  refine code_def B F X N T rfl rfl hk (by k_dflt k_is) (by k_dflt k_is) (by ktr_room) (binds_K (X.keeps F.keep) rfl (by k_dflt k_is) rfl rfl rfl) (locs rfl) ?_ rfl rfl rfl (by decide)
  intro g' L' h' FG' F' N' B' X' T'
  dsimp only
  k_fold
  have hmem : (l, W.listOf vs.toArray n) ∈ news := hneed _ List.mem_cons_self
  k_steps
  refine ⟨?_⟩
  rename Fr _ _ _ _ => F9
  rename News _ _ _ _ => N9
  refine tree_while (fun p nx => p ∈ nx ∧ ∀ q ∈ news, q ∈ nx) (Str.ofString "hashes") F9 N9 ⟨hmem, fun q hq => hq⟩ hv ht hlen rfl ?_
  rintro l2 vs2 k2 bs2 nx h tk hb2 ht2 hl2 ⟨hm2, hup⟩ F' N'
  clear F9 N9
  k_steps
  case' _ =>
    have h1 : 1 < bs2.length := by omega
    refine ⟨?_⟩
    refine pair_ok (n := k2) HA hb2 (ht2.next h1).1 hl2 B' F' X' N' T' rfl (by ktr_room) (by ktr_units) (fun q hq => ?_) ?_
    · rcases List.mem_cons.mp hq with rfl | hq
      · exact hm2
      · exact hup q (hneed q (List.mem_cons_of_mem _ hq))
    rintro tl r h4 tk4 F4 N4 hlt ⟨l', ws, k', rfl, rfl, hb4⟩
    simp only [List.cons_append, List.nil_append] at N4
    clear F' N'
    k_steps
    refine ⟨?_⟩
    rename Fr _ _ _ _ => F3
    rename News _ _ _ _ => N3
    refine ⟨_, _, _, _, _, _, _, rfl, F3, N3, ⟨List.mem_cons_self, fun q hq => List.mem_cons_of_mem _ (hup q hq)⟩, hb4, rfl, fun z hz => ?_, h1⟩
    simp only [if_neg hz]
    done
  case' _ =>
    have h1 : ¬ 1 < bs2.length := by omega
    have e := ht2.last h1
    subst e
    refine ⟨?_⟩
    refine bytes_at 0 hb2 N' hm2 rfl (by simp) (by simp) ?_
    intro t
    k_steps
    rename Fr h₀ L _ _ => F5
    rename News h₀ L _ _ => N5
    exact hret [] _ _ _ F5 (fun q hq => N5 q (hup q hq)) (fun _ _ _ h => nomatch h) ⟨rfl, t, rfl⟩
end


def KCbEl (news : List (Addr × Obj)) (r : B) (y : Value) (news' : List (Addr × Obj)) : Prop := news' = news ∧ ∃ t : Tok, y = .bytes r t
section
variable {prog : Program} {w : World} {A : Around} {h₀ : Heap} {L : Addr} {m : Str → Option Value} {env : Env} {elt : Expr} {x : Str} {scope : Scope} {cl : List (Str × Addr)} {s : Shared} {S : List (Addr × Obj) → Prop} {P : Nat → Value → Prop} {Fin : List Value → List (Addr × Obj) → Prop} {news : List (Addr × Obj)}
theorem kcb_list {vs : List Value} {ks : List Int} (g : Int → B) (hi : IntsAre vs ks)
    (turn : ∀ k t I oI C oC D m₂ ys h tk (E' : Value → Shared → Prop), k ∈ ks → LCg.NsObj oC m₂ → m₂ x = some (.int k t) → Fr h₀ L h m → News h₀ L h ((I, oI) :: (C, oC) :: (D, LCg.lst ys) :: news) → LCg.Off3 I C D news → ((@Ne Nat I C) ∧ (@Ne Nat I D) ∧ (@Ne Nat C D)) →
      wpAny (model prog w) A (eval elt (compEnvC scope cl C env)) (LCg.CompEnd h₀ L m { s with heap := h, toks := tk } I oI C oC D (LCg.lst ys) S (fun y news' => KCbEl news (g k) y news')) E' { s with heap := h, toks := tk })
    (fin : ∀ ys, BytesAre ys (ks.map g) → Fin ys news) : LCg.CompRest prog w A h₀ L m env elt x scope cl s S (fun i v => vs.toArray[i]? = some v) Fin vs.toArray.size 0 [] news := by
  have hks : ks.length = vs.toArray.size := by rw [List.size_toArray]; exact hi.length.symm
  have key : ∀ (j i : Nat) (ys : List Value), i + j = vs.toArray.size → BytesAre ys ((ks.take i).map g) → LCg.CompRest prog w A h₀ L m env elt x scope cl s S (fun i v => vs.toArray[i]? = some v) Fin j i ys news := by
    intro j
    induction j with
    | zero =>
      intro i ys hi hy
      have e : i = ks.length := by omega
      subst e
      rw [List.take_length] at hy
      exact LCg.CompRest.zero (fin ys hy)
    | succ j ih =>
      intro i ys hi' hy
      refine LCg.CompRest.succ ?_
      intro v I oI C oC D m₂ h tk E' hv hC hx F N off ne
      obtain ⟨k, t, e, hk⟩ := IntsAre.at hi i v (by simpa using hv)
      rw [e] at hx
      refine wpAny_mono (turn k t I oI C oC D m₂ ys h tk E' (List.mem_of_getElem? hk) hC hx F N off ne) (fun y s₂ hq => ?_) fun _ _ e => e
      obtain ⟨h', tk', nw, e, F', N', off', hS, hn, t', hy'⟩ := hq
      rw [hn] at N' off' hS
      refine ⟨h', tk', news, e, F', N', off', hS, ?_⟩
      rw [hy']
      refine ih (i + 1) _ (by omega) ?_
      rw [List.take_add_one, hk]
      simpa using hy.snoc (g k) t'
  exact key _ 0 [] (by omega) (by simp only [List.take_zero, List.map_nil]; exact .nil)
end
def rowNs (k : Int) : List Int := [k.fmod 256, (k.fdiv 256).fmod 256, (k.fdiv 65536).fmod 256]
def rowOf (k : Int) : B := ((rowNs k).map fun n => n.toNat.toUInt8).toArray
theorem rowOf_size (k : Int) : (rowOf k).size = 3 := by simp [rowOf, rowNs]
theorem rowNs_in (k : Int) : ∀ n ∈ rowNs k, 0 ≤ n ∧ n < 256 := by
  intro n hn
  simp only [rowNs, List.mem_cons, List.not_mem_nil, or_false] at hn
  rcases hn with rfl | rfl | rfl <;> exact ⟨Int.fmod_nonneg_of_pos _ (by decide), Int.fmod_lt_of_pos _ (by decide)⟩
def digitOf (k : Int) : B := (([k.fmod 10 + 48] : List Int).map fun n => n.toNat.toUInt8).toArray
theorem digitOf_size (k : Int) : (digitOf k).size = 1 := by simp [digitOf]
theorem digit_in (k : Int) : ∀ n ∈ [k.fmod 10 + 48], 0 ≤ n ∧ n < 256 := by
  intro n hn
  have h1 := Int.fmod_nonneg_of_pos k (b := 10) (by decide)
  have h2 := Int.fmod_lt_of_pos k (b := 10) (by decide)
  rw [List.mem_singleton.mp hn]
  omega

section
variable {prog : Program} {w : World} {A : Around} {E : Value → Shared → Prop} {s : Shared} {h₀ : Heap} {L : Addr} {news : List (Addr × Obj)}
theorem eqBool_bytes {b : B} {t u : Tok} {Q : Bool → Shared → Prop} (h : Q true s) : wpAny (model prog w) A (eqBool (.bytes b t) (.bytes b u)) Q E s := by
  unfold eqBool
  show wpAny _ _ (if (Value.bytes b t == Value.bytes b u) = true then _ else _) Q E s
  by_cases hab : (Value.bytes b t == Value.bytes b u) = true
  · rw [if_pos hab]
    exact wpAny_bind (wpAny_rule (wpAny_pure h))
  · rw [if_neg hab]
    refine wpAny_bind ?_
    show wpAny _ _ (compareOp .Eq (.bytes b t) (.bytes b u)) _ _ s
    refine eq_bytes ?_
    rw [beq_self_eq_true]
    exact wpAny_truthy_bool h
theorem ne_lists {l1 l2 : Addr} {vs1 vs2 : List Value} {n1 n2 : Nat} {bs : List B} {Q : Value → Shared → Prop} (N : News h₀ L s.heap news) (hm1 : (l1, W.listOf vs1.toArray n1) ∈ news) (hm2 : (l2, W.listOf vs2.toArray n2) ∈ news) (h1 : BytesAre vs1 bs) (h2 : BytesAre vs2 bs)
    (hu : A.units < cLine) (h : Q (.bool false) s) : wpAny (model prog w) A (compareOp .NotEq (.ref l1) (.ref l2)) Q E s := by
  have e1 := h1.length
  have e2 := h2.length
  show wpAny _ _ (richCompare .NotEq (.ref l1) (.ref l2)) Q E s
  refine SeqAt.RcNeAt.lists (e := fun _ => true) (News.isList N hm1) (News.isList N hm2) (by rw [List.size_toArray, List.size_toArray, e1, e2]) hu (fun j hj1 hj2 prog w E Q hQ => ?_) prog w E Q ?_
  · rw [List.size_toArray, e1] at hj1
    obtain ⟨t, q1⟩ := h1.get (i := j) (b := bs[j]) (by simp [hj1])
    obtain ⟨u, q2⟩ := h2.get (i := j) (b := bs[j]) (by simp [hj1])
    have z1 : vs1.toArray[j] = .bytes bs[j] t := by
      have := List.getElem?_eq_some_iff.mp q1
      obtain ⟨_, q⟩ := this
      simpa using q
    have z2 : vs2.toArray[j] = .bytes bs[j] u := by
      have := List.getElem?_eq_some_iff.mp q2
      obtain ⟨_, q⟩ := this
      simpa using q
    rw [z1, z2]
    exact eqBool_bytes hQ
  · have : (List.range vs1.toArray.size).all (fun _ => true) = true := by simp
    rw [this]
    exact h
end

theorem lvl_mem (H : B → B) : ∀ (xs : List B), ∀ b ∈ lvl H xs, ∃ c, b = H c
  | [], b, h => by simp [lvl] at h
  | [x], b, h => by
    simp only [lvl, List.mem_singleton] at h
    exact ⟨_, h⟩
  | x :: y :: r, b, h => by
    rcases List.mem_cons.mp h with h | h
    · exact ⟨_, h⟩
    · exact lvl_mem H r b h
theorem lvl_bound (H : B → B) (s : Nat) (hH : ∀ c : B, c.size ≤ 2 * s → (H c).size ≤ 2 * s + 2) : ∀ (xs : List B), (∀ b ∈ xs, b.size ≤ s) → ∀ b ∈ lvl H xs, b.size ≤ 2 * s + 2
  | [], _, b, h => by simp [lvl] at h
  | [x], hs, b, h => by
    simp only [lvl, List.mem_singleton] at h
    rw [h]
    have := hs x (by simp)
    exact hH _ (by rw [Array.size_append]; omega)
  | x :: y :: r, hs, b, h => by
    rcases List.mem_cons.mp h with h | h
    · rw [h]
      have := hs x (by simp)
      have := hs y (by simp)
      exact hH _ (by rw [Array.size_append]; omega)
    · exact lvl_bound H s hH r (fun c hc => hs c (by simp [hc])) b h
theorem tree_of {H : B → B} (hH : ∀ c : B, (H c).size = 3) : ∀ (n : Nat) (xs : List B), xs.length ≤ n → 0 < xs.length → (∀ b ∈ xs, b.size = 3) → ∃ root, Tree H 1000 xs root
  | 0, xs, h, h0, _ => by omega
  | n + 1, xs, h, h0, h3 => by
    by_cases h1 : 1 < xs.length
    · have hl := lvl_length H xs
      obtain ⟨root, t⟩ := tree_of hH n (lvl H xs) (by omega) (by omega) (fun b hb => by
        obtain ⟨c, rfl⟩ := lvl_mem H xs b hb
        exact hH c)
      exact ⟨root, .more h1 (fun x hx => by rw [h3 x hx]; decide) t⟩
    · match xs, h0, h1 with
      | [x], _, _ => exact ⟨x, .one x⟩
      | x :: y :: r, _, h1 => simp at h1
def paren (b : B) : B := #[40] ++ b ++ #[41]
theorem paren_size (b : B) : (paren b).size = b.size + 2 := by
  simp only [paren, Array.size_append]
  show 1 + b.size + 1 = _
  omega
theorem tree_paren : ∀ (k s : Nat) (xs : List B), xs.length ≤ 2 ^ k → 0 < xs.length → (∀ b ∈ xs, b.size ≤ s) → (s + 2) * 2 ^ k ≤ 502 → ∃ root, Tree paren 1000 xs root
  | 0, s, xs, h, h0, _, _ => by
    match xs, h, h0 with
    | [x], _, _ => exact ⟨x, .one x⟩
    | x :: y :: r, h, _ => simp at h
  | k + 1, s, xs, h, h0, hs, hb => by
    have e : (s + 2) * 2 ^ (k + 1) = (2 * s + 2 + 2) * 2 ^ k := by rw [Nat.pow_succ]; rw [show 2 * s + 2 + 2 = (s + 2) * 2 by omega, Nat.mul_assoc, Nat.mul_comm 2]
    have hp : 0 < 2 ^ k := Nat.pow_pos (by decide)
    by_cases h1 : 1 < xs.length
    · have hl := lvl_length paren xs
      have hs500 : s ≤ 500 := by
        have : (s + 2) * 1 ≤ (s + 2) * 2 ^ (k + 1) := Nat.mul_le_mul_left _ (Nat.pow_pos (by decide))
        omega
      obtain ⟨root, t⟩ := tree_paren k (2 * s + 2) (lvl paren xs) (by rw [Nat.pow_succ] at h; omega) (by omega) (lvl_bound paren s (fun c hc => by rw [paren_size]; omega) xs hs) (by rw [← e]; exact hb)
      exact ⟨root, .more h1 (fun x hx => by have := hs x hx; omega) t⟩
    · match xs, h0, h1 with
      | [x], _, _ => exact ⟨x, .one x⟩
      | x :: y :: r, _, h1 => simp at h1
theorem news_named {h₀ h : Heap} {L : Addr} {p : Addr × Obj} {rest : List (Addr × Obj)} (N : News h₀ L h (p :: rest)) : ∃ rest', rest' = rest ∧ News h₀ L h (p :: rest') := ⟨_, rfl, N⟩
theorem news_tail {h₀ h : Heap} {L : Addr} {p : Addr × Obj} {rest : List (Addr × Obj)} (N : News h₀ L h (p :: rest)) : News h₀ L h rest := fun q hq => N q (List.mem_cons_of_mem _ hq)
theorem ne_same {prog : Program} {w : World} {A : Around} {E : Value → Shared → Prop} {s : Shared} {b : B} {t u : Tok} {Q : Value → Shared → Prop} (h : Q (.bool false) s) : wpAny (model prog w) A (compareOp .NotEq (.bytes b t) (.bytes b u)) Q E s :=
  ne_bytes (by simpa using h)
theorem eq_same {prog : Program} {w : World} {A : Around} {E : Value → Shared → Prop} {s : Shared} {b : B} {t u : Tok} {Q : Value → Shared → Prop} (h : Q (.bool true) s) : wpAny (model prog w) A (compareOp .Eq (.bytes b t) (.bytes b u)) Q E s :=
  eq_bytes (by simpa using h)
theorem news_pick {h₀ h : Heap} {L a q : Addr} {o oq : Obj} {rest : List (Addr × Obj)} (N : News h₀ L h ((a, o) :: rest)) (hq : (q, oq) ∈ rest) : ∃ a', a' = a ∧ News h₀ L h [(a', o), (a', o), (q, oq)] := by
  refine ⟨a, rfl, fun p hp => ?_⟩
  rcases List.mem_cons.mp hp with rfl | hp
  · exact N _ List.mem_cons_self
  rcases List.mem_cons.mp hp with rfl | hp
  · exact N _ List.mem_cons_self
  rw [List.mem_singleton.mp hp]
  exact N _ (List.mem_cons_of_mem _ hq)


abbrev lamBody (p1 p2 p3 p4 p5 : Pos) : Expr := .BinOp (.BinOp (.Constant (.bytes [40]) 0 p1) .Add (.Name (Str.ofString "octets") p2) p3) .Add (.Constant (.bytes [41]) 0 p4) p5
abbrev lamParams (p0 : Pos) : Arguments := { posonlyargs := [], args := [{ arg := Str.ofString "octets", annotation := none, pos := p0 }], vararg := none, kwonlyargs := [], kw_defaults := [], kwarg := none, defaults := [] }
abbrev lamQual : Str := Str.ofString "law" ++ Str.ofString ".<locals>." ++ Str.ofString "<lambda>"
abbrev lamScope : Scope := { kind := .function, names := [(Str.ofString "octets", .local)], isGenerator := false, isCoroutine := false, more := [] }
section
local macro_rules | `(tactic| walk_at "binaryOp Add bytes bytes") => `(tactic| refine Hold.out ?_)
set_option maxRecDepth 100000 in
set_option maxHeartbeats 8000000 in
theorem lam_ok {w : World} {f c' : Addr} {oc : Obj} {ovs : Array Value} {name qual : Str} {pm ctv : Value} {t₀ : Tok} {p0 p1 p2 p3 p4 p5 : Pos} (hd : oc.data = .fields ovs) (hvs : ovs[1]? = some (.str qual t₀)) (b : B) (t : Tok) (hb : b.size ≤ 1000) :
    CallSpec w 4 f [(f, kla_obj name qual (lamParams p0) (lamBody p1 p2 p3 p4 p5) lamScope [] pm c' ctv), (c', oc)] [.bytes b t] fun tl r => tl = [] ∧ ∃ t', r = .bytes (paren b) t' := by
  unfold CallSpec; first | k_fill | skip
  intro p loose mean mg mb dp un gd cn cs a ccd cl outer A₀ base h₀ L m news s Q E B F X N T hk hdp hu hneed hret
  have hm1 := hneed _ List.mem_cons_self
  have hm2 := hneed _ (List.mem_cons_of_mem _ List.mem_cons_self)
  refine wpAny_call ?_
  refine kla_code B F X N T rfl rfl hk hm1 (codeRec_news N hm2 hd hvs) (by ktr_room) rfl (locs rfl) ?_ rfl rfl rfl (by decide)
  intro g L' h' FG' F' N' B' X' T'
  dsimp only
  k_fold
  k_steps
  refine ⟨?_⟩
  have s1 : (#[40] : Array UInt8).size = 1 := rfl
  have s2 : (#[41] : Array UInt8).size = 1 := rfl
  refine KBy.add_bytes (by omega) fun t1 k1 => ?_
  k_steps
  refine ⟨?_⟩
  refine KBy.add_bytes (by rw [Array.size_append]; omega) fun t2 k2 => ?_
  k_steps
  rename Fr h₀ L _ _ => F5
  rename News h₀ L _ _ => N5
  exact hret [] _ _ _ F5 N5 (fun _ _ _ h => nomatch h) ⟨rfl, t2, rfl⟩
theorem lam_hash {w : World} {f c' : Addr} {oc : Obj} {ovs : Array Value} {name qual : Str} {pm ctv : Value} {t₀ : Tok} {p0 p1 p2 p3 p4 p5 : Pos} (hd : oc.data = .fields ovs) (hvs : ovs[1]? = some (.str qual t₀)) :
    HashAt w f [(f, kla_obj name qual (lamParams p0) (lamBody p1 p2 p3 p4 p5) lamScope [] pm c' ctv), (c', oc)] paren 1000 where
  fn _ _ hn := ⟨_, _, _, _, hn _ List.mem_cons_self⟩
  call b t hb := lam_ok hd hvs b t hb
  small := by decide
end

theorem ne_of_news {h₀ h : Heap} {L a b : Addr} {o1 o2 : Obj} {news : List (Addr × Obj)} (N : News h₀ L h news) (h1 : (a, o1) ∈ news) (h2 : (b, o2) ∈ news) (hne : o1.cls ≠ o2.cls) : a ≠ b := fun e => by
  have q1 := (N _ h1).1
  have q2 := (N _ h2).1
  subst e
  exact hne (congrArg Obj.cls (Option.some.inj (q1.symm.trans q2)))
theorem lam_named {h₀ h : Heap} {L : Addr} {rest : List (Addr × Obj)} (w : World) {f c' : Addr} {oc : Obj} {ovs : Array Value} {name qual : Str} {pm ctv : Value} {t₀ : Tok} {p0 p1 p2 p3 p4 p5 : Pos}
    (_N : News h₀ L h ((f, kla_obj name qual (lamParams p0) (lamBody p1 p2 p3 p4 p5) lamScope [] pm c' ctv) :: rest)) (hc : (c', oc) ∈ rest) (hd : oc.data = .fields ovs) (hvs : ovs[1]? = some (.str qual t₀)) :
    ∃ need cc, cc = c' ∧ HashAt w f need paren 1000 ∧ ∀ q ∈ need, q ∈ (f, kla_obj name qual (lamParams p0) (lamBody p1 p2 p3 p4 p5) lamScope [] pm c' ctv) :: rest := by
  refine ⟨[(f, kla_obj name qual (lamParams p0) (lamBody p1 p2 p3 p4 p5) lamScope [] pm c' ctv), (c', oc)], c', rfl, lam_hash hd hvs, fun q hq => ?_⟩
  rcases List.mem_cons.mp hq with rfl | hq
  · exact List.mem_cons_self
  · rw [List.mem_singleton.mp hq]
    exact List.mem_cons_of_mem _ hc
theorem pick_upto (vs : List Value) : (slicePick vs.toArray none (some 1) none).toList = vs.take 1 := by
  have e : sliceBounds none (some 1) none vs.toArray.size = (((0 : Nat) : Int), ((min 1 vs.toArray.size : Nat) : Int), 1) := by
    simp only [sliceBounds, Option.getD_none, show (1 : Int) > 0 by decide, if_true, if_neg (show ¬ ((1 : Int) < 0) by decide)]
    congr 1
    congr 1
    omega
  rw [kmk_pick_nat _ e]
  show (vs.drop 0).take (min 1 vs.toArray.size - 0) = _
  rw [List.drop_zero, Nat.sub_zero, List.size_toArray, kmk_take_min]
section
variable {prog : Program} {w : World} {A : Around} {E : Value → Shared → Prop} {s : Shared} {h₀ : Heap} {L l : Addr} {m : Str → Option Value} {news : List (Addr × Obj)} {value slice : PySem.Expr} {vs : List Value} {bs : List B} {n : Nat} {Q : Value → Shared → Prop}
theorem slice_one {t : Tok} (F : Fr h₀ L s.heap m) (N : News h₀ L s.heap news) (hm : (l, W.listOf vs.toArray n) ∈ news) (hb : BytesAre vs bs) (h0 : 0 < bs.length) (hlen : bs.length ≤ 1000000)
    (h : ∀ D ws h', Fr h₀ L h' m → News h₀ L h' ((D, W.listOf (List.toArray ws) 0) :: news) → BytesAre ws [bs.getD 0 #[]] → Q (.ref D) { s with heap := h' })
    (hs : subscripted slice false (.ref l) (.ref s.heap.objs.size) = operate [.ref s.heap.objs.size, .ref l] (getItem (.ref l) (.ref s.heap.objs.size)) := by with_unfolding_all rfl) (ht : ∀ r, letTemporaryGo value (.ref l) r = pure () := by intro _; with_unfolding_all rfl) :
    wpAny (model prog w) A (subscriptTail value slice (.ref l) (.ref s.heap.objs.size)) Q E { s with heap := s.heap.push { cls := .type "slice", data := .fields #[.none, .int 1 t, .none] } } := by
  refine kmk_slice_lit (lo := none) (hi := some 1) (zs := vs.take 1) F N (News.isList N hm) (by first | exact IsPart.none | exact .none | constructor) (by first | exact IsPart.int _ _ | constructor) (pick_upto vs) (fun D h' F' N' _ => h D _ h' F' N' ?_) hs ht (by rw [List.size_toArray, hb.length, PySem.sizeLine_eq]; omega)
  have e : bs.take 1 = [bs.getD 0 #[]] := by
    cases bs with
    | nil => simp at h0
    | cons b r => rfl
  rw [← e]
  exact hb.take 1
end


section
local macro_rules | `(tactic| walk_at "call ref") => `(tactic| refine Hold.out ?_)
local macro_rules | `(tactic| walk_at "CompSrc") => `(tactic| ((with_reducible show LCg.CompSrc _ _ _ _ _ _ _ (Expr.Call (Expr.Name (Str.ofString "bytes") _) _ _ _) _ _ _ _ _ _); refine Hold.out ?_))
local macro_rules | `(tactic| walk_at "exec While Compare cons nil") => `(tactic| refine Hold.out ?_)
local macro_rules | `(tactic| walk_at "compareOp NotEq ref ref") => `(tactic| refine Hold.out ?_)
local macro_rules | `(tactic| walk_at "subscriptTail Name Constant ref int") => `(tactic| ((with_reducible show wpAny _ _ (subscriptTail (Expr.Name (Str.ofString "level") _) _ _ _) _ _ _); refine Hold.out ?_))
local macro_rules | `(tactic| walk_at "subscriptTail") => `(tactic| ((with_reducible show wpAny _ _ (subscriptTail (Expr.Name (Str.ofString "level") _) _ _ _) _ _ _); refine Hold.out ?_))
local macro_rules | `(tactic| walk_at "subscriptTail Name Constant ref int") => `(tactic| ((with_reducible show wpAny _ _ (subscriptTail (Expr.Name (Str.ofString "tree") _) _ _ _) _ _ _); refine Hold.out ?_))
local macro_rules | `(tactic| walk_at "subscriptTail") => `(tactic| ((with_reducible show wpAny _ _ (subscriptTail (Expr.Name (Str.ofString "tree") _) _ _ _) _ _ _); refine Hold.out ?_))
local macro_rules | `(tactic| walk_at "subscriptTail Name Constant ref int") => `(tactic| ((with_reducible show wpAny _ _ (subscriptTail (Expr.Name (Str.ofString "few") _) _ _ _) _ _ _); refine Hold.out ?_))
local macro_rules | `(tactic| walk_at "subscriptTail") => `(tactic| ((with_reducible show wpAny _ _ (subscriptTail (Expr.Name (Str.ofString "few") _) _ _ _) _ _ _); refine Hold.out ?_))
local macro_rules | `(tactic| walk_at "compareOp NotEq bytes bytes") => `(tactic| refine Hold.out ?_)
local macro_rules | `(tactic| walk_at "compareOp Eq bytes bytes") => `(tactic| refine Hold.out ?_)
local macro_rules | `(tactic| walk_at "subscriptTail Name Slice ref ref") => `(tactic| ((with_reducible show wpAny _ _ (subscriptTail (Expr.Name (Str.ofString "few") _) _ _ _) _ _ _); refine Hold.out ?_))
local macro_rules | `(tactic| walk_at "TreeStep") => `(tactic| refine Hold.out ?_)
set_option maxRecDepth 100000 in
set_option maxHeartbeats 8000000 in
theorem law_ok : PySem.Challenge.rw_fe0231_01.Holds := hd (by
  k_go0
  (all_goals try k_fold)
  k_steps
  refine ⟨?_⟩
  rename Fr _ _ _ _ => F9
  rename News _ _ _ _ => N9
  rename Frag.In _ _ => X'
  rename Below _ _ _ _ => B'
  rename Top topProg _ _ _ _ _ => T'
  rename IntsAre _ (List.take 40 _) => hI40
  rename IntsAre _ (List.map _ _) => hI8
  rename List Int => script
  rename ¬ _ => hlen63
  have hnl : (List.map (fun k' => if k' < 0 then -k' else k') (script ++ [1, 2, 3])).length = script.length + 3 := by rw [List.length_map, List.length_append]; rfl
  generalize List.map (fun k' => if k' < 0 then -k' else k') (script ++ [1, 2, 3]) = nums at *
  have h40 := hI40.length
  refine LCg.CompSrc.ledger rfl F9 N9 List.mem_cons_self (by rw [List.size_toArray, h40, List.length_take, PySem.sizeLine_eq]; omega) ?_
  intro g
  refine kcb_list rowOf hI40 ?_ ?_
  case' refine_1 =>
    intro k t I oI C oC D m₂ ys h tk E' hk hC hx F' N' off ne
    clear F9 N9
    k_steps
    rename Fr _ _ _ _ => F8
    rename News _ _ _ _ => N8
    exact LCg.CompEnd.intro F8 N8 _ (fun p hp => List.mem_cons_of_mem _ hp) off (.inr ⟨_, List.mem_cons_self, rfl, _, rfl⟩) ⟨rfl, _, rfl⟩
  clear F9 N9
  intro rowV hrow
  have hr3 : ∀ b ∈ List.map rowOf (List.take 40 nums), b.size = 3 := fun b hb => by
    obtain ⟨k, _, rfl⟩ := List.mem_map.mp hb
    exact rowOf_size k
  have hrl : (List.map rowOf (List.take 40 nums)).length = min 40 (script.length + 3) := by rw [List.length_map, List.length_take, hnl]
  generalize List.map rowOf (List.take 40 nums) = rows at *
  have hrowl := hrow.length
  k_steps
  refine ⟨?_⟩
  rename Fr _ _ _ _ => F9
  rename News _ _ _ _ => N9
  refine level_ok (n := rowV.length) (short_hash _) hrow (fun b hb => by rw [hr3 b hb]; decide) (by omega) B' F9 X' N9 T' rfl (by ktr_room) (by ktr_units) ?_ ?_
  · intro q hq
    rcases List.mem_cons.mp hq with rfl | hq
    · k_mem
    · exact nomatch hq
  rintro tl r h4 tk4 F4 N4 hlt ⟨lv, lvV, lvk, rfl, rfl, hlv⟩
  have l9 := allLt_of fun q hq => hlt q hq _ List.mem_cons_self
  simp only [AllLt, and_true] at l9
  simp only [List.cons_append, List.nil_append] at N4
  clear F9 N9 hlt
  k_steps
  refine ⟨?_⟩
  rename Fr _ _ _ _ => F9
  rename News _ _ _ _ => N9
  refine pair_ok (n := rowV.length) (short_hash _) hrow (fun b hb => by rw [hr3 b hb]; decide) (by omega) B' F9 X' N9 T' rfl (by ktr_room) (by ktr_units) ?_ ?_
  · intro q hq
    rcases List.mem_cons.mp hq with rfl | hq
    · k_mem
    · exact nomatch hq
  rintro tl r h5 tk5 F4 N4 hlt ⟨pr, prV, prk, rfl, rfl, hpr⟩
  simp only [List.cons_append, List.nil_append] at N4
  clear F9 N9 hlt
  k_steps
  refine ⟨?_⟩
  refine ne_lists N4 (by k_mem) (by k_mem) hpr hlv (by ktr_units) ?_
  k_steps
  refine ⟨?_⟩
  refine ne_lists N4 (by k_mem) (by k_mem) hrow hrow (by ktr_units) ?_
  k_steps
  obtain ⟨root, htree⟩ := tree_of short_size rows.length rows (Nat.le_refl _) (by omega) hr3
  have hnext := htree.next (by omega)
  have hlvl := lvl_length short rows
  obtain ⟨rest, hrest, N5⟩ := news_named (fun p hp => N4 p (List.mem_cons_of_mem _ hp))
  refine ⟨?_⟩
  refine tree_while (fun p nx => nx = p :: rest) (Str.ofString "level") F4 N5 rfl hlv hnext.2 (by omega) rfl ?_
  rintro l2 vs2 k2 bs2 nx h tk hb2 ht2 hl2 rfl F' N'
  clear F4 N4 N5
  k_steps
  case' _ =>
    have h1 : 1 < bs2.length := by omega
    refine ⟨?_⟩
    refine level_ok (n := k2) (short_hash _) hb2 (ht2.next h1).1 hl2 B' F' X' N' T' rfl (by ktr_room) (by ktr_units) ?_ ?_
    · intro q hq
      rcases List.mem_cons.mp hq with rfl | hq
      · exact List.mem_cons_self
      · exact nomatch hq
    rintro tl r h4 tk4 F4 N4 hlt ⟨l', ws, k', rfl, rfl, hb4⟩
    simp only [List.cons_append, List.nil_append] at N4
    clear F' N'
    k_steps
    refine ⟨?_⟩
    rename Fr _ _ _ _ => F3
    rename News _ _ _ _ => N3
    refine ⟨_, _, _, _, l', ws, k', rfl, F3, fun p hp => N3 p ?_, rfl, hb4, rfl, fun z hz => ?_, h1⟩
    · rcases List.mem_cons.mp hp with rfl | hp
      · exact List.mem_cons_self
      · exact List.mem_cons_of_mem _ (List.mem_cons_of_mem _ hp)
    · simp only [if_neg hz]
      done
  have h1 : ¬ 1 < bs2.length := by omega
  have e := ht2.last h1
  subst e
  subst hrest
  refine ⟨?_⟩
  refine merkle_ok (n := rowV.length) (short_hash _) hrow htree (by omega) B' F' X' N' T' rfl (by ktr_room) (by ktr_units) ?_ ?_
  · intro q hq
    rcases List.mem_cons.mp hq with rfl | hq
    · k_mem
    · exact nomatch hq
  rintro tl r h5 tk5 F4 N4 _ ⟨rfl, t5, rfl⟩
  simp only [List.nil_append] at N4
  clear F' N'
  k_steps
  refine ⟨?_⟩
  refine bytes_at 0 hb2 N4 List.mem_cons_self rfl (by simp) (by simp) ?_
  intro t6
  k_steps
  refine ⟨?_⟩
  refine ne_same (b := root) ?_
  replace N4 := news_tail N4
  k_steps
  refine ⟨?_⟩
  refine ne_lists N4 (by k_mem) (by k_mem) hrow hrow (by ktr_units) ?_
  replace N4 := news_tail (news_tail (news_tail N4))
  k_steps
  refine ⟨?_⟩
  clear hb2 ht2 hl2
  rename Fr _ _ _ _ => F9
  rename News _ _ _ _ => N9
  rename IntsAre _ (List.take (Int.toNat _) nums) => hIf
  have hfl := hIf.length
  have hm7 := Int.fmod_nonneg_of_pos (nums.getD 0 0) (b := 7) (by decide)
  have hm8 := Int.fmod_lt_of_pos (nums.getD 0 0) (b := 7) (by decide)
  have hfn : (List.take (1 + (nums.getD 0 0).fmod 7).toNat nums).length ≤ 8 ∧ 0 < (List.take (1 + (nums.getD 0 0).fmod 7).toNat nums).length := by
    rw [List.length_take]; omega
  generalize List.take (1 + (nums.getD 0 0).fmod 7).toNat nums = fnums at *
  refine LCg.CompSrc.ledger rfl F9 N9 List.mem_cons_self (by rw [List.size_toArray, hfl, PySem.sizeLine_eq]; omega) ?_
  intro g2
  refine kcb_list digitOf hIf ?_ ?_
  case' refine_1 =>
    intro k t I oI C oC D m₂ ys h tk E' hk hC hx F' N' off ne
    clear F9 N9
    k_steps
    rename Fr _ _ _ _ => F7
    rename News _ _ _ _ => N7
    refine bytes_K (ns := [k.fmod 10 + 48]) F7 N7 (News.isList N7 List.mem_cons_self) (.cons _ _ .nil) (digit_in k) (by rw [PySem.sizeLine_eq]; simp only [List.length_cons, List.length_nil]; decide) rfl ?_
    intro h8 t8 k8 F8 N8 _
    clear F7 N7
    exact LCg.CompEnd.intro F8 N8 _ (fun p hp => List.mem_cons_of_mem _ hp) off (.inr ⟨_, List.mem_cons_self, rfl, _, rfl⟩) ⟨rfl, _, rfl⟩
  clear F9 N9
  intro fewV hfew
  have hf1 : ∀ b ∈ List.map digitOf fnums, b.size ≤ 1 := fun b hb => by
    obtain ⟨k, _, rfl⟩ := List.mem_map.mp hb
    exact Nat.le_of_eq (digitOf_size k)
  have hfwl : (List.map digitOf fnums).length = fnums.length := List.length_map _
  generalize List.map digitOf fnums = few at *
  have hfewl := hfew.length
  k_steps
  rename Fr _ _ _ _ => F9
  rename News _ _ _ _ => N9
  obtain ⟨df, hdf, NA⟩ := news_pick (q := 94) (oq := tabObj #[]) N9 (by k_mem)
  clear N9
  subst hdf
  have hdf94 : df ≠ 94 := ne_of_news (b := 94) NA List.mem_cons_self (by k_mem) (by intro e; cases e)
  rename World => w
  obtain ⟨root2, htree2⟩ := tree_paren 3 1 few (by omega) (by omega) hf1 (by decide)
  refine ⟨?_⟩
  refine tree_while (fun p nx => p.1 ≠ 94 ∧ (nx = [p, (df, LCg.lst fewV), (94, tabObj #[])] ∨ ∃ c' oc ovs t0, oc.data = .fields ovs ∧ ovs[1]? = some (.str lamQual t0) ∧ c' ≠ 94 ∧ nx = [p, (c', oc), (df, LCg.lst fewV), (94, tabObj #[rawInt 57, rawInt 32, .ref c'])])) (Str.ofString "tree") F9 NA ⟨hdf94, .inl rfl⟩ hfew htree2 (by omega) rfl ?_
  rintro l3 vs3 k3 bs3 nx h tk hb3 ht3 hl3 ⟨hl94, rfl | ⟨c', oc, ovs, t0, hocd, hovs, hc94, rfl⟩⟩ F' N'
  · clear F9 NA
    k_steps
    case' _ =>
      have h1 : 1 < bs3.length := by omega
      refine ⟨?_⟩
      rename Fr _ _ _ _ => F8
      rename News _ _ _ _ => N8
      rename Obj.data _ = Data.fields _ => hd1
      rename _ = some (Value.str _ _) => hd2
      obtain ⟨need, cc, hcc, HA, hneed⟩ := lam_named w N8 List.mem_cons_self hd1 hd2
      subst hcc
      have hcc94 : cc ≠ 94 := by first | assumption | (refine neN ?_; omega)
      refine level_ok (n := k3) HA hb3 (ht3.next h1).1 hl3 B' F8 X' N8 T' rfl (by ktr_room) (by ktr_units) ?_ ?_
      · intro q hq
        rcases List.mem_cons.mp hq with rfl | hq
        · k_mem
        · exact hneed q hq
      rintro tl r h4 tk4 F4 N4 hlt ⟨l', ws, k', rfl, rfl, hb4⟩
      simp only [List.cons_append, List.nil_append] at N4
      have hl' : l' ≠ 94 := ne_of_news (b := 94) N4 List.mem_cons_self (by k_mem) (by intro e; cases e)
      clear F8 N8
      k_steps
      refine ⟨?_⟩
      rename Fr _ _ _ _ => F3
      rename News _ _ _ _ => N3
      refine ⟨_, _, _, _, l', ws, k', rfl, F3, fun p hp => N3 p ?_, ⟨hl', .inr ⟨cc, _, _, _, hd1, hd2, hcc94, rfl⟩⟩, hb4, rfl, fun z hz => ?_, h1⟩
      · simp only [List.mem_cons, List.not_mem_nil, or_false] at hp
        rcases hp with rfl | rfl | rfl | rfl <;> k_mem
      · simp only [if_neg hz]
        done
    have h1 : ¬ 1 < bs3.length := by omega
    have e := ht3.last h1
    subst e
    refine ⟨?_⟩
    rename Fr _ _ _ _ => F8
    rename News _ _ _ _ => N8
    rename Obj.data _ = Data.fields _ => hd1
    rename _ = some (Value.str _ _) => hd2
    obtain ⟨need, cc, hcc, HA, hneed⟩ := lam_named w N8 List.mem_cons_self hd1 hd2
    refine merkle_ok (n := fewV.length) HA hfew htree2 (by omega) B' F8 X' N8 T' rfl (by ktr_room) (by ktr_units) ?_ ?_
    · intro q hq
      rcases List.mem_cons.mp hq with rfl | hq
      · k_mem
      · exact hneed q hq
    rintro tl r h5 tk5 F4 N4 _ ⟨rfl, t5, rfl⟩
    simp only [List.nil_append] at N4
    clear F8 N8
    k_steps
    refine ⟨?_⟩
    refine bytes_at 0 hb3 N4 (by k_mem) rfl (by simp) (by simp) ?_
    intro t6
    k_steps
    refine ⟨?_⟩
    refine ne_same (b := root2) ?_
    k_steps
    refine ⟨?_⟩
    refine slice_one F4 N4 (by k_mem) hfew (by omega) (by omega) ?_
    intro D ws h8 F8 N8 hws
    clear F4 N4
    k_steps
    refine ⟨?_⟩
    refine merkle_ok (n := 0) (short_hash _) hws (.one _) (by simp) B' F8 X' N8 T' rfl (by ktr_room) (by ktr_units) ?_ ?_
    · intro q hq
      rcases List.mem_cons.mp hq with rfl | hq
      · exact List.mem_cons_self
      · exact nomatch hq
    rintro tl r h9 tk9 F4 N4 _ ⟨rfl, t9, rfl⟩
    simp only [List.nil_append] at N4
    clear F8 N8
    k_steps
    refine ⟨?_⟩
    refine bytes_at 0 hfew N4 (by k_mem) rfl (by omega) (by omega) ?_
    intro t10
    k_steps
    refine ⟨?_⟩
    refine eq_same (b := few.getD 0 #[]) ?_
    k_steps
  · clear F9 NA
    k_steps
    case' _ =>
      have h1 : 1 < bs3.length := by omega
      refine ⟨?_⟩
      rename Fr _ _ _ _ => F8
      rename News _ _ _ _ => N8
      rename Obj.data _ = Data.fields _ => hd1
      rename _ = some (Value.str _ _) => hd2
      obtain ⟨need, cc, hcc, HA, hneed⟩ := lam_named w N8 (List.mem_cons_of_mem _ List.mem_cons_self) hd1 hd2
      subst hcc
      have hcc94 : cc ≠ 94 := by first | assumption | (refine neN ?_; omega)
      refine level_ok (n := k3) HA hb3 (ht3.next h1).1 hl3 B' F8 X' N8 T' rfl (by ktr_room) (by ktr_units) ?_ ?_
      · intro q hq
        rcases List.mem_cons.mp hq with rfl | hq
        · k_mem
        · exact hneed q hq
      rintro tl r h4 tk4 F4 N4 hlt ⟨l', ws, k', rfl, rfl, hb4⟩
      simp only [List.cons_append, List.nil_append] at N4
      have hl' : l' ≠ 94 := ne_of_news (b := 94) N4 List.mem_cons_self (by k_mem) (by intro e; cases e)
      clear F8 N8
      k_steps
      refine ⟨?_⟩
      rename Fr _ _ _ _ => F3
      rename News _ _ _ _ => N3
      refine ⟨_, _, _, _, l', ws, k', rfl, F3, fun p hp => N3 p ?_, ⟨hl', .inr ⟨cc, _, _, _, hd1, hd2, hcc94, rfl⟩⟩, hb4, rfl, fun z hz => ?_, h1⟩
      · simp only [List.mem_cons, List.not_mem_nil, or_false] at hp
        rcases hp with rfl | rfl | rfl | rfl <;> k_mem
      · simp only [if_neg hz]
        done
    have h1 : ¬ 1 < bs3.length := by omega
    have e := ht3.last h1
    subst e
    refine ⟨?_⟩
    rename Fr _ _ _ _ => F8
    rename News _ _ _ _ => N8
    rename Obj.data _ = Data.fields _ => hd1
    rename _ = some (Value.str _ _) => hd2
    obtain ⟨need, cc, hcc, HA, hneed⟩ := lam_named w N8 List.mem_cons_self hd1 hd2
    refine merkle_ok (n := fewV.length) HA hfew htree2 (by omega) B' F8 X' N8 T' rfl (by ktr_room) (by ktr_units) ?_ ?_
    · intro q hq
      rcases List.mem_cons.mp hq with rfl | hq
      · k_mem
      · exact hneed q hq
    rintro tl r h5 tk5 F4 N4 _ ⟨rfl, t5, rfl⟩
    simp only [List.nil_append] at N4
    clear F8 N8
    k_steps
    refine ⟨?_⟩
    refine bytes_at 0 hb3 N4 (by k_mem) rfl (by simp) (by simp) ?_
    intro t6
    k_steps
    refine ⟨?_⟩
    refine ne_same (b := root2) ?_
    k_steps
    refine ⟨?_⟩
    refine slice_one F4 N4 (by k_mem) hfew (by omega) (by omega) ?_
    intro D ws h8 F8 N8 hws
    clear F4 N4
    k_steps
    refine ⟨?_⟩
    refine merkle_ok (n := 0) (short_hash _) hws (.one _) (by simp) B' F8 X' N8 T' rfl (by ktr_room) (by ktr_units) ?_ ?_
    · intro q hq
      rcases List.mem_cons.mp hq with rfl | hq
      · exact List.mem_cons_self
      · exact nomatch hq
    rintro tl r h9 tk9 F4 N4 _ ⟨rfl, t9, rfl⟩
    simp only [List.nil_append] at N4
    clear F8 N8
    k_steps
    refine ⟨?_⟩
    refine bytes_at 0 hfew N4 (by k_mem) rfl (by omega) (by omega) ?_
    intro t10
    k_steps
    refine ⟨?_⟩
    refine eq_same (b := few.getD 0 #[]) ?_
    k_steps
  done)
end

end Mine

theorem PySem.Challenge.cw_fe0231_01_holds : PySem.Challenge.rw_fe0231_01.Holds := by
  exact Mine.law_ok
