import PyProof.Rows.All
import Wide.All
import OpenK.AllK
import Wide.FinOn
import PySem.Challenge.RW_mr0138_02
set_option Elab.async false
set_option maxRecDepth 100000
section
open PySem PySem.W PySem.W.X PyProof.Rows
namespace Mine
/- hdk: made for the written part of the heap alone (hdk.heap_1) -/
section
local macro_rules | `(tactic| o_head $_) => `(tactic| assumption)
set_option maxHeartbeats 8000000 in
theorem hdk (h : OpenRow.Holds PySem.Challenge.rw_mr0138_02.row) : OpenRow.Holds PySem.Challenge.rw_mr0138_02.row := by
  km_head
end
/-- two hooks at once -/
noncomputable def bHook (A B : Hook) : Hook where
  α := A.α × B.α
  obs := fun s => (A.obs s, B.obs s)
  val := fun w => (A.val w, B.val w)
  says := fun w h => A.says w h ∧ B.says w h
  of := fun w s x => ⟨A.of w s (Prod.mk.inj x).1, B.of w s (Prod.mk.inj x).2⟩
  keeps := fun w h h' x k => ⟨A.keeps w h h' x.1 k, B.keeps w h h' x.2 k⟩
/-- the module object that a made function reads -/
noncomputable def modK (_ : Params) : Frag := [(4, { cls := .type "module", dict := some 0 })]
end Mine
end
section
/- the plain law: majority, the vote, the middles; no program in sight -/
namespace Mine

/-- one step of the vote -/
noncomputable def vstep (st : Int × Int) (one : Int) : Int × Int :=
  if st.2 = 0 then (one, 1) else if one = st.1 then (st.1, st.2 + 1) else (st.1, st.2 - 1)
noncomputable def vote (l : List Int) (st : Int × Int) : Int × Int := l.foldl vstep st

/-- what the vote keeps: the count is 0 or more, every number but the held one stands at most (n - c) / 2 times, the held one at most (n + c) / 2 times -/
noncomputable def VInv (pre : List Int) (st : Int × Int) : Prop :=
  0 ≤ st.2 ∧ (∀ x, x ≠ st.1 → 2 * (pre.count x : Int) + st.2 ≤ pre.length) ∧ 2 * (pre.count st.1 : Int) ≤ pre.length + st.2

theorem VInv.nil : VInv [] (0, 0) := by
  refine ⟨by simp, fun x _ => by simp, by simp⟩
theorem VInv.step {pre : List Int} {st : Int × Int} (h : VInv pre st) (one : Int) : VInv (pre ++ [one]) (vstep st one) := by
  obtain ⟨h0, h1, h2⟩ := h
  have cnt : ∀ x : Int, ((pre ++ [one]).count x : Int) = (pre.count x : Int) + (if one = x then 1 else 0) := by
    intro x
    rw [List.count_append, List.count_singleton]
    by_cases e : one = x <;> simp [e]
  have len : ((pre ++ [one]).length : Int) = (pre.length : Int) + 1 := by simp
  have hall : ∀ x, 2 * (pre.count x : Int) ≤ pre.length + st.2 := by
    intro x
    by_cases e : x = st.1
    · rw [e]; exact h2
    · have := h1 x e; omega
  unfold vstep
  by_cases hc : st.2 = 0
  · rw [if_pos hc]
    refine ⟨by simp, fun x hx => ?_, ?_⟩
    · rw [cnt, len, if_neg (fun e => hx e.symm)]
      have := hall x
      simp only
      omega
    · rw [cnt, len]
      have := hall one
      simp only [if_pos trivial]
      omega
  · rw [if_neg hc]
    by_cases e : one = st.1
    · rw [if_pos e]
      refine ⟨by simp only; omega, fun x hx => ?_, ?_⟩
      · have hx' : x ≠ st.1 := hx
        rw [cnt, len, if_neg (fun q => hx' (by rw [← q, e]))]
        have := h1 x hx'
        simp only
        omega
      · rw [cnt, len]
        simp only
        rw [if_pos e]
        omega
    · rw [if_neg e]
      refine ⟨by simp only; omega, fun x hx => ?_, ?_⟩
      · have hx' : x ≠ st.1 := hx
        rw [cnt, len]
        have := h1 x hx'
        simp only
        split <;> omega
      · rw [cnt, len]
        simp only
        rw [if_neg e]
        omega
theorem vote_inv : ∀ (l pre : List Int) (st : Int × Int), VInv pre st → VInv (pre ++ l) (vote l st)
  | [], pre, st, h => by simpa [vote] using h
  | x :: l, pre, st, h => by
    have := vote_inv l (pre ++ [x]) (vstep st x) (h.step x)
    rw [List.append_assoc] at this
    exact this
/-- more than half: the vote holds it -/
theorem vote_holds {l : List Int} {m : Int} (h : l.length < 2 * l.count m) : (vote l (0, 0)).1 = m := by
  have q := vote_inv l [] (0, 0) VInv.nil
  rw [List.nil_append] at q
  by_cases e : m = (vote l (0, 0)).1
  · exact e.symm
  · have a := q.2.1 m e
    have b := q.1
    omega

theorem maj_reverse {l : List Int} {m : Int} (h : l.length < 2 * l.count m) : l.reverse.length < 2 * l.reverse.count m := by
  rw [List.length_reverse, List.count_reverse]; exact h
/-- two unlike neighbours out: still more than half -/
theorem maj_without {l : List Int} {m : Int} (h : l.length < 2 * l.count m) {k : Nat} (hk : k + 1 < l.length) (hne : l[k]'(by omega) ≠ l[k + 1]) :
    (l.take k ++ l.drop (k + 2)).length < 2 * (l.take k ++ l.drop (k + 2)).count m := by
  have e1 : l.drop k = l[k]'(by omega) :: l[k + 1] :: l.drop (k + 2) := by
    rw [List.drop_eq_getElem_cons (by omega), List.drop_eq_getElem_cons hk]
  have e2 : l = l.take k ++ l.drop k := (List.take_append_drop k l).symm
  have hl : l.length = (l.take k).length + (l.drop (k + 2)).length + 2 := by
    conv => lhs; rw [e2, e1]
    simp only [List.length_append, List.length_cons]; omega
  have hc : l.count m ≤ (l.take k).count m + (l.drop (k + 2)).count m + 1 := by
    conv => lhs; rw [e2, e1]
    rw [List.count_append, List.count_cons, List.count_cons]
    by_cases a : l[k]'(by omega) = m
    · have b : l[k + 1] ≠ m := fun q => hne (a.trans q.symm)
      simp [a, b]; omega
    · by_cases b : l[k + 1] = m <;> simp [a, b] <;> omega
  rw [List.length_append, List.count_append]
  omega

theorem count_map_ge (f : Int → Int) (m : Int) : ∀ l : List Int, l.count m ≤ (l.map f).count (f m)
  | [] => by simp
  | x :: l => by
    rw [List.map_cons, List.count_cons, List.count_cons]
    have := count_map_ge f m l
    by_cases h : x = m
    · subst h; simp; omega
    · have : (if (x == m) = true then 1 else 0) = 0 := by simp [h]
      omega
/-- in a rising list, a number that stands c times stands at every place i with n - c ≤ i < c -/
theorem sorted_mid : ∀ (l : List Int), l.Pairwise (· ≤ ·) → ∀ (v : Int) (i : Nat) (hi : i < l.length), l.length - l.count v ≤ i → i < l.count v → l[i] = v := by
  intro l hs v i hi h1 h2
  -- numbers below v before, above v behind
  rcases Int.lt_trichotomy l[i] v with h | h | h
  · -- all up to i are below v: then v stands at most n - i - 1 times
    exfalso
    have hlow : ∀ j (hj : j < l.length), j ≤ i → l[j] < v := by
      intro j hj hji
      rcases Nat.lt_or_eq_of_le hji with q | q
      · have := List.pairwise_iff_getElem.mp hs j i hj hi q
        omega
      · subst q; exact h
    have ht : (l.take (i + 1)).count v = 0 := by
      rw [List.count_eq_zero]
      intro hm
      obtain ⟨j, hj, e⟩ := List.getElem_of_mem hm
      rw [List.getElem_take] at e
      rw [List.length_take] at hj
      have := hlow j (by omega) (by omega)
      omega
    have hc : l.count v = (l.take (i + 1)).count v + (l.drop (i + 1)).count v := by
      rw [← List.count_append, List.take_append_drop]
    have hd : (l.drop (i + 1)).count v ≤ (l.drop (i + 1)).length := List.count_le_length
    rw [List.length_drop] at hd
    omega
  · exact h
  · exfalso
    have hhi : ∀ j (hj : j < l.length), i ≤ j → v < l[j] := by
      intro j hj hij
      rcases Nat.lt_or_eq_of_le hij with q | q
      · have := List.pairwise_iff_getElem.mp hs i j hi hj q
        omega
      · subst q; exact h
    have ht : (l.drop i).count v = 0 := by
      rw [List.count_eq_zero]
      intro hm
      obtain ⟨j, hj, e⟩ := List.getElem_of_mem hm
      rw [List.getElem_drop] at e
      rw [List.length_drop] at hj
      have := hhi (i + j) (by omega) (by omega)
      omega
    have hc : l.count v = (l.take i).count v + (l.drop i).count v := by
      rw [← List.count_append, List.take_append_drop]
    have hd : (l.take i).count v ≤ (l.take i).length := List.count_le_length
    rw [List.length_take] at hd
    omega

/-- the row's parts -/
noncomputable def oth (m x : Int) : Int := Int.fmod x 7 + (if m ≤ Int.fmod x 7 then 1 else 0)
noncomputable def pairL (m x : Int) : List Int := if Int.fmod (Int.fdiv x 7) 2 = 1 then [m, oth m x] else [oth m x, m]
noncomputable def rowL (m : Int) (ns : List Int) : List Int := ns.flatMap (pairL m)
theorem oth_ne (m x : Int) : oth m x ≠ m := by
  unfold oth
  split <;> omega
theorem pairL_len (m x : Int) : (pairL m x).length = 2 := by unfold pairL; split <;> rfl
theorem pairL_count (m x : Int) : (pairL m x).count m = 1 := by
  unfold pairL
  have := oth_ne m x
  split <;> simp [List.count_cons, this]
theorem rowL_len (m : Int) : ∀ ns : List Int, (rowL m ns).length = 2 * ns.length
  | [] => rfl
  | x :: ns => by
    show ((pairL m x) ++ rowL m ns).length = _
    rw [List.length_append, pairL_len, rowL_len m ns, List.length_cons]; omega
theorem rowL_count (m : Int) : ∀ ns : List Int, (rowL m ns).count m = ns.length
  | [] => rfl
  | x :: ns => by
    show ((pairL m x) ++ rowL m ns).count m = _
    rw [List.count_append, pairL_count, rowL_count m ns, List.length_cons]; omega
/-- the whole row: more than half -/
theorem row_maj (m : Int) (ns : List Int) : (rowL m ns ++ [m]).length < 2 * (rowL m ns ++ [m]).count m := by
  rw [List.length_append, List.count_append, rowL_len, rowL_count]
  simp; omega
end Mine
end
section
open PySem PySem.W PyProof.Rows
namespace Mine
/-- K's walker halts here -/
structure Halt (P : Prop) : Prop where
  mk' :: out : P
theorem Halt.to {P : Prop} (h : Halt P) : P := h.out
section
variable {prog : Program} {w : World} {A : Around} {E : Value → Shared → Prop} {s : Shared} {env : Env} {h₀ : Heap} {x : Str} {body : List Stmt} {Q : Flow → Shared → Prop}
/-- a turn's end: the ledger may hold new things; I: the iterator -/
noncomputable def ItEnd (h₀ : Heap) (L I : Addr) (J : (Str → Option Value) → List (Addr × Obj) → Prop) (own : List (Addr × Obj)) (s₁ s₂ : Shared) : Prop :=
  ∃ h' tk m' news' nx, s₂ = { s₁ with heap := h', toks := tk } ∧ Fr h₀ L h' m' ∧ News h₀ L h' news' ∧ (∀ p ∈ nx, p ∈ news') ∧ (∀ p ∈ own, p ∈ news') ∧ (∀ p ∈ nx, p.1 ≠ I) ∧ J m' nx
noncomputable def ItPost (h₀ : Heap) (L I : Addr) (J : (Str → Option Value) → List (Addr × Obj) → Prop) (own : List (Addr × Obj)) (s₁ : Shared) (Q : Flow → Shared → Prop) (f : Flow) (s₂ : Shared) : Prop :=
  match f with
  | .ret v => Q (.ret v) s₂
  | .brk => Q .next s₂
  | _ => ItEnd h₀ L I J own s₁ s₂
theorem it_loop {I l : Addr} {its : Array Value} {m₀ : Str → Option Value} {news : List (Addr × Obj)} (J : Nat → (Str → Option Value) → List (Addr × Obj) → Prop)
    (hh : A.handled = none) (hit : s.heap.IsListIter I l 0) (hl : s.heap.IsList l its) (hne : l ≠ I) (hLI : env.locals ≠ I) (hLl : env.locals ≠ l) (hI0 : h₀.get? I = none)
    (F : Fr h₀ env.locals s.heap m₀) (N : News h₀ env.locals s.heap news) (hnI : ∀ p ∈ news, p.1 ≠ I) (hj : J 0 m₀ news)
    (turn : ∀ i v m₁ news₁ h tk own oI, its[i]? = some v → J i m₁ news₁ → (∀ p ∈ news₁, p.1 ≠ I) → Fr h₀ env.locals h (fun y => if y = x then some v else m₁ y) → News h₀ env.locals h (news₁ ++ (I, oI) :: own) →
      wpAny (model prog w) A (execs body env) (ItPost h₀ env.locals I (J (i + 1)) ((I, oI) :: own) { s with heap := h, toks := tk } Q) E { s with heap := h, toks := tk })
    (done : ∀ m₁ news₁ h tk, J its.size m₁ news₁ → Fr h₀ env.locals h m₁ → News h₀ env.locals h news₁ → Q .next { s with heap := h, toks := tk }) :
    LoopAtV prog w A h₀ env x body Q E (.ref I) s := by
  have W := Walks.list (prog := prog) (w := w) hh I l hne its
  refine ⟨I, _, _, _, _, _, m₀, news, J, rfl, W, ?_, ?_, ?_, ⟨hit, hl⟩, F, N, hj, ?_, ?_⟩
  · intro hm
    rcases List.mem_cons.mp hm with e | hm
    · exact hLI e
    · exact hLl (List.mem_singleton.mp hm)
  · intro b hb
    rw [List.mem_singleton.mp hb]; exact hI0
  · intro p hp hI
    exact hnI p hp (List.mem_singleton.mp hI)
  · rintro i v m₁ news₁ s₁ own ⟨hh', tk', rfl⟩ hin hP hJ hoff _ hown hall hst F₁ N₁
    have hoff' : ∀ p ∈ news₁, p.1 ≠ I := fun p hp e => hoff p hp (List.mem_singleton.mpr e)
    obtain ⟨oI, hoI, _⟩ := id hst.1
    have hmem : (I, oI) ∈ own := hall I (List.mem_cons_self ..) hI0 oI hoI
    have N₂ : News h₀ env.locals hh' (news₁ ++ (I, oI) :: own) := fun p hp => by
      rcases List.mem_append.mp hp with h | h
      · exact N₁ p (List.mem_append.mpr (.inr h))
      · rcases List.mem_cons.mp h with rfl | h
        · exact N₁ _ (List.mem_append.mpr (.inl hmem))
        · exact N₁ p (List.mem_append.mpr (.inl h))
    refine wpAny_mono (turn i v m₁ news₁ hh' tk' own oI hP hJ hoff' F₁ N₂) (fun f s₂ p => ?_) fun _ _ e => e
    have fin : ItEnd h₀ env.locals I (J (i + 1)) ((I, oI) :: own) { s with heap := hh', toks := tk' } s₂ → LoopStepU h₀ env.locals [I] own (J (i + 1)) { s with heap := hh', toks := tk' } .next s₂ := by
      rintro ⟨h', tk, m', news', nx, e, F', N', hn, ho, hI, hm⟩
      exact ⟨rfl, h', tk, m', nx, e, F', fun p hp => N' p ((List.mem_append.mp hp).elim (fun q => ho p (List.mem_cons_of_mem _ q)) (hn p)), fun p hp hq => hI p hp (List.mem_singleton.mp hq), hm⟩
    cases f with
    | ret v => exact .ret p
    | brk => exact .brk p
    | next => exact .next (fin p)
    | cont => exact .cont (fin p)
  · rintro h' tk m' news' F' N' _ hJ
    exact done m' news' h' tk hJ F' N'
end
end Mine
end
section
open PySem PySem.W PyProof.Rows
namespace Mine
noncomputable abbrev PG : Program := PySem.Challenge.rw_mr0138_02.prog
section
variable {prog : Program} {w : World} {A : Around} {E : Value → Shared → Prop} {s : Shared} {h₀ : Heap} {L l : Addr} {m : Str → Option Value} {news : List (Addr × Obj)} {its : Array Value} {Q : Value → Shared → Prop}
theorem li_iter (F : Fr h₀ L s.heap m) (N : News h₀ L s.heap news) (hl : s.heap.IsList l its)
    (h : ∀ (I : Addr) h', Fr h₀ L h' m → News h₀ L h' ((I, ({ cls := .type "list_iterator", data := .fields #[.ref l, .int 0 0] } : Obj)) :: news) → (∀ p ∈ news, p.1 < I) → Q (.ref I) { s with heap := h' }) :
    wpAny (model prog w) A (call (.builtin "iter") [.ref l]) Q E s := by
  refine Calls.call_function_entry (by decide +kernel) (by decide +kernel) kdk_entry_iter (kdk_args_iter _) ?_
  unfold Builtin.«iter»
  refine wpAny_bind (m := someArgs "iter" 1 2 _) (wpAny_of_eq (a := [Value.ref l]) (by first | rfl | kernel_rfl!) ?_)
  show wpAny _ _ (pyIter (.ref l) >>= _) _ _ _
  refine wpAny_bind (wpAny_pyIter_list hl ?_)
  exact wpAny_pure ⟨_, rfl, h _ _ (F.push _) (News.push F N _ rfl) (fun q hq => Heap.lt_size (N q hq).1)⟩
end
local macro_rules | `(tactic| walk_at "call builtin:iter") => `(tactic| refine Halt.to ?_)
section
variable {prog : Program} {w : World} {A : Around} {E : Value → Shared → Prop} {s : Shared} {env : Env} {h₀ : Heap} {x : Str} {body : List Stmt} {Q : Flow → Shared → Prop}
theorem red_loop {I l V : Addr} {vs : List Value} {ns : List Int} {m₀ : Str → Option Value} {news nx : List (Addr × Obj)} {e ek : Nat} {t1 t2 : Tok} (y : Str)
    (hh : A.handled = none) (F : Fr h₀ env.locals s.heap m₀) (N : News h₀ env.locals s.heap news) (hI : (I, ({ cls := .type "list_iterator", data := .fields #[.ref l, .int 0 0] } : Obj)) ∈ news) (hl : (l, listOf (List.toArray vs) e) ∈ news) (hi : IntsAre vs ns)
    (hV : (V, listOf #[.int 0 t1, .int 0 t2] ek) ∈ news) (hs : ∀ p ∈ nx, p ∈ news) (hnx : ∀ p ∈ nx, p.1 ≠ I) (hVI : V ≠ I) (hne : l ≠ I)  (hy : m₀ y = some (.ref V)) (hyx : y ≠ x)
    (turn : ∀ n t V c0 c1 e' t1 t2 h tk own oI, n ∈ ns → V ≠ I → Fr h₀ env.locals h (fun z => if z = x then some (.int n t) else if z = y then some (.ref V) else m₀ z) → News h₀ env.locals h ((V, listOf #[.int c0 t1, .int c1 t2] e') :: (nx ++ (I, oI) :: own)) →
      wpAny (model prog w) A (execs body env) (ItPost h₀ env.locals I (fun m' nx' => (∃ V' e' t1 t2, (∀ p ∈ nx, p.1 < V') ∧ m' y = some (.ref V') ∧ nx' = (V', listOf #[.int (vstep (c0, c1) n).1 t1, .int (vstep (c0, c1) n).2 t2] e') :: nx) ∧ ∀ z, z ≠ x → z ≠ y → m' z = m₀ z) ((I, oI) :: own) { s with heap := h, toks := tk } Q) E { s with heap := h, toks := tk })
    (done : ∀ (u : Str → Option Value) V e' t1 t2 h tk, (ns ≠ [] → ∀ p ∈ nx, p.1 < V) → Fr h₀ env.locals h (fun z => if z = x then u z else if z = y then some (.ref V) else m₀ z) → News h₀ env.locals h ((V, listOf #[.int (vote ns (0, 0)).1 t1, .int (vote ns (0, 0)).2 t2] e') :: nx) → Q .next { s with heap := h, toks := tk }) :
    wpAny (model prog w) A (pyIter (.ref I)) (fun it s₂ => LoopAtV prog w A h₀ env x body Q E it s₂) E s := by
  have hit : s.heap.IsListIter I l 0 := ⟨_, (N _ hI).1, rfl, rfl⟩
  have hL : s.heap.IsList l vs.toArray := News.isList N hl
  refine wpAny_pyIter_listiter hit ?_
  refine it_loop (fun i m nx' => (∃ V e' t1 t2, V ≠ I ∧ (0 < i → ∀ p ∈ nx, p.1 < V) ∧ m y = some (.ref V) ∧ nx' = (V, listOf #[.int (vote (ns.take i) (0, 0)).1 t1, .int (vote (ns.take i) (0, 0)).2 t2] e') :: nx) ∧ ∀ z, z ≠ x → z ≠ y → m z = m₀ z)
    hh hit hL hne (Ne.symm (N _ hI).2.1) (Ne.symm (N _ hl).2.1) (N _ hI).2.2 F (news := (V, listOf #[.int 0 t1, .int 0 t2] ek) :: nx) (fun p hp => ?_) (fun p hp => ?_) ⟨⟨V, ek, t1, t2, hVI, fun q => absurd q (Nat.lt_irrefl _), hy, rfl⟩, fun _ _ _ => rfl⟩ ?_ ?_
  · rcases List.mem_cons.mp hp with rfl | hp
    · exact N _ hV
    · exact N _ (hs p hp)
  · rcases List.mem_cons.mp hp with rfl | hp
    · exact hVI
    · exact hnx p hp
  · rintro i v m₁ news₁ h tk own oI hv ⟨⟨V₁, e₁, u1, u2, hVI₁, _, hmy, rfl⟩, hm⟩ _ F₁ N₁
    have hlt : i < ns.length := by
      rw [← hi.length]
      have := Array.getElem?_eq_some_iff.mp hv
      obtain ⟨h1, _⟩ := this
      simpa using h1
    obtain ⟨t, hx⟩ := hi.get i ns[i] (by simp [hlt])
    have hv' : v = .int ns[i] t := by
      have hP' : vs[i]? = some v := by simpa using hv
      rw [hx] at hP'; exact (Option.some.inj hP').symm
    subst hv'
    have em : (fun z => if z = x then some (Value.int ns[i] t) else m₁ z) = fun z => if z = x then some (Value.int ns[i] t) else if z = y then some (Value.ref V₁) else m₀ z := map_one hmy hm
    rw [em] at F₁
    have hs' : vote (ns.take (i + 1)) (0, 0) = vstep (vote (ns.take i) (0, 0)) ns[i] := by
      unfold vote
      rw [List.take_add_one, List.getElem?_eq_getElem hlt, Option.toList_some, List.foldl_append]; rfl
    refine wpAny_mono (turn ns[i] t V₁ _ _ e₁ u1 u2 h tk own oI (List.getElem_mem hlt) hVI₁ F₁ N₁) (fun f s₂ p => ?_) fun _ _ e => e
    have fin : ∀ {s₂ : Shared}, ItEnd h₀ env.locals I (fun m' nx' => (∃ V' e' t1 t2, (∀ p ∈ nx, p.1 < V') ∧ m' y = some (.ref V') ∧ nx' = (V', listOf #[.int (vstep (vote (ns.take i) (0, 0)) ns[i]).1 t1, .int (vstep (vote (ns.take i) (0, 0)) ns[i]).2 t2] e') :: nx) ∧ ∀ z, z ≠ x → z ≠ y → m' z = m₀ z) ((I, oI) :: own) { s with heap := h, toks := tk } s₂ →
        ItEnd h₀ env.locals I (fun m' nx' => (∃ V e' t1 t2, V ≠ I ∧ (0 < i + 1 → ∀ p ∈ nx, p.1 < V) ∧ m' y = some (.ref V) ∧ nx' = (V, listOf #[.int (vote (ns.take (i + 1)) (0, 0)).1 t1, .int (vote (ns.take (i + 1)) (0, 0)).2 t2] e') :: nx) ∧ ∀ z, z ≠ x → z ≠ y → m' z = m₀ z) ((I, oI) :: own) { s with heap := h, toks := tk } s₂ := by
      rintro s₂ ⟨h', tk', m', news', nx', e1, F', N', hn, ho, hI', ⟨V', e', a1, a2, hlt', hmy', rfl⟩, hm'⟩
      refine ⟨h', tk', m', news', _, e1, F', N', hn, ho, hI', ⟨V', e', a1, a2, hI' _ (List.mem_cons_self ..), fun _ => hlt', hmy', ?_⟩, hm'⟩
      rw [hs']
    cases f with
    | ret v => exact p
    | brk => exact p
    | next => exact fin p
    | cont => exact fin p
  · rintro m₁ news₁ h tk ⟨⟨V₁, e₁, u1, u2, _, hlt, hmy, rfl⟩, hm⟩ F₁ N₁
    have hz : vs.toArray.size = ns.length := by simp [hi.length]
    rw [hz, List.take_length] at N₁
    refine done m₁ V₁ e₁ u1 u2 h tk (fun q => hlt (by rw [hz]; exact List.length_pos_iff.mpr q)) ?_ N₁
    have e : (fun z => if z = x then m₁ z else if z = y then some (Value.ref V₁) else m₀ z) = m₁ := by
      funext z
      by_cases h1 : z = x
      · simp [h1]
      · simp only [if_neg h1]
        by_cases h2 : z = y
        · subst h2; simp [hmy]
        · simp only [if_neg h2]; exact (hm z h1 h2).symm
    rw [e]; exact F₁
end
theorem allLt_mem {d : Addr} : ∀ {l : List (Addr × Obj)}, AllLt d l → ∀ p ∈ l, @LT.lt Nat _ p.1 d
  | [], _, _, hp => nomatch hp
  | q :: l, h, p, hp => by
    rcases List.mem_cons.mp hp with rfl | hp
    · exact h.1
    · exact allLt_mem h.2 p hp
theorem red_end {h₀ : Heap} {L I l' : Addr} {m' m₀ : Str → Option Value} {x y : Str} {oI : Obj} {own nx tail : List (Addr × Obj)} {s : Shared} {h9 : Heap} {tk : Nat} {c : Int × Int} {a1 a2 n : Int} {t t' : Tok} {k : Nat} {Q : Flow → Shared → Prop}
    (F : Fr h₀ L h9 m') (N : News h₀ L h9 ((l', listOf #[.int a1 t, .int a2 t'] k) :: tail)) (hy : m' y = some (.ref l')) (ha : vstep c n = (a1, a2))
    (h1 : ∀ p ∈ nx, p ∈ tail) (h2 : ∀ p ∈ own, p ∈ tail) (h3 : (I, oI) ∈ tail) (h4 : ∀ p ∈ nx, p.1 ≠ I) (h5 : AllLt l' tail) (h6 : ∀ z, z ≠ x → z ≠ y → m' z = m₀ z) :
    ItPost h₀ L I (fun m' nx' => (∃ V' e' t1 t2, (∀ p ∈ nx, p.1 < V') ∧ m' y = some (.ref V') ∧ nx' = (V', listOf #[.int (vstep c n).1 t1, .int (vstep c n).2 t2] e') :: nx) ∧ ∀ z, z ≠ x → z ≠ y → m' z = m₀ z) ((I, oI) :: own) s Q .next { s with heap := h9, toks := tk } := by
  refine ⟨h9, tk, m', _, (l', listOf #[.int a1 t, .int a2 t'] k) :: nx, rfl, F, N, fun p hp => ?_, fun p hp => ?_, fun p hp => ?_, ⟨⟨l', k, t, t', fun p hp => allLt_mem h5 _ (h1 p hp), hy, by rw [ha]⟩, h6⟩⟩
  · rcases List.mem_cons.mp hp with rfl | hp
    · exact .head _
    · exact .tail _ (h1 p hp)
  · rcases List.mem_cons.mp hp with rfl | hp
    · exact .tail _ h3
    · exact .tail _ (h2 p hp)
  · rcases List.mem_cons.mp hp with rfl | hp
    · exact fun e => Nat.ne_of_lt (allLt_mem h5 _ h3) e.symm
    · exact h4 p hp
theorem ne_of_allLt {d : Addr} : ∀ {l : List (Addr × Obj)}, AllLt d l → ∀ p ∈ l, p.1 ≠ d
  | [], _, _, hp => nomatch hp
  | q :: l, h, p, hp => by
    rcases List.mem_cons.mp hp with rfl | hp
    · exact Nat.ne_of_lt h.1
    · exact ne_of_allLt h.2 p hp
local macro_rules | `(tactic| walk_at "ItPost") => `(tactic| refine Halt.to ?_)
local macro_rules | `(tactic| walk_at "call ref") => `(tactic| refine Halt.to ?_)
set_option maxHeartbeats 2000000 in
theorem red_K (w : World) (pT : Program) (lT : List Str) (mean : ExcName → Option Value) (mg mb : Str → Option Value) (dp un : Nat) (gd : Option (List Code)) (cn : Str) (cs : Scope) (a : Addr) (ccd : Value) (cl : List (Str × Addr)) (outer : List Env) (A₀ : Around) (base h₀ : Heap) (L : Addr) (m : Str → Option Value) (s : Shared) (Q E : Value → Shared → Prop)
    (l z : Addr) (vs : List Value) (ns : List Int) (e k' : Nat) (t1' t2' : Tok) (nw : List (Addr × Obj)) :
    Below A₀ base outer h₀ → Fr h₀ L s.heap m → (hdk.heap_1 w.params).In h₀ → News h₀ L s.heap ((l, listOf (List.toArray vs) e) :: (z, listOf #[.int 0 t1', .int 0 t2'] k') :: nw) → Top pT lT mean mg mb h₀ → cs.kind = .function →
    IntsAre vs ns → ns ≠ [] → dp + 3 < recursionLimit → un + 16 < cLine →
    (∀ D k c t1 t2 h' tk', Fr h₀ L h' m → News h₀ L h' ((D, listOf #[.int (vote ns (0, 0)).1 t1, .int c t2] k) :: (l, listOf (List.toArray vs) e) :: (z, listOf #[.int 0 t1', .int 0 t2'] k') :: nw) → (∀ p ∈ (l, listOf (List.toArray vs) e) :: (z, listOf #[.int 0 t1', .int 0 t2'] k') :: nw, p.1 < D) → Q (.ref D) { s with heap := h', toks := tk' }) →
    wpAny (model PySem.Challenge.rw_mr0138_02.prog w) (ktrTop dp un gd cn cs L a ccd cl outer) (call (.ref 57) [.ref 64, .ref l, .ref z]) Q E s := by
  k_fill
  intros
  rename_i hne9 hdp9 hun9 hQ9
  refine wpAny_call ?_
  k_dflt (refine' code_def ?k1 ?k2 ?k3 ?k4 ?k5 ?kA ?kF ?kK ?k6 ?k7 ?k8 ?k9 ?kB ?_ ?c2 ?c3 ?c4 ?c5; (case kA => exact rfl); (case kF => exact rfl); (case kK => assumption); (case k1 => k_asm); (case k2 => k_asm); (case k3 => k_asm); (case k4 => k_asm); (case k5 => k_asm); (case k6 => k_is); (case k7 => k_is); (case k8 => ktr_room); (case k9 => first | exact BindsTo.of_eq rfl | exact binds_K (by k_in) rfl (by k_is) rfl rfl rfl); (case c5 => decide); (case kB => exact locs rfl); (case c2 => exact rfl); (case c3 => exact rfl); (case c4 => exact rfl); k_whole; intro g' L' h' FG' F' N' B' X' T'; (try dsimp only); (try k_lift B'); (try k_fold))
  k_steps
  refine ⟨?_⟩
  k_dflt (refine' li_iter ?F ?N ?l ?_; (case F => k_asm); (case N => k_asm); (case l => kmk_list)); intro D' h' F' N' l1; (try k_lt l1)
  k_steps
  refine red_loop (Str.ofString "value") rfl (by k_asm) (by k_asm) (by k_mem) (by k_mem) (by assumption) (by k_mem) (nx := (l, listOf (List.toArray vs) e) :: (z, listOf #[.int 0 t1', .int 0 t2'] k') :: nw) ?_ ?_ ?_ ?_ rfl (by decide) ?_ ?_
  · intro p hp; exact List.mem_cons_of_mem _ hp
  · exact ne_of_allLt (by assumption)
  · k_ne
  · k_ne
  · intro n' t' V' c0' c1' e' u1' u2' h' tk' own' oI' hn' hVI' F' N'
    (try k_fold)
    k_steps
    refine ⟨?_⟩
    k_dflt (refine wpAny_call ?_; (refine' code_def ?k1 ?k2 ?k3 ?k4 ?k5 ?kA ?kF ?kK ?k6 ?k7 ?k8 ?k9 ?kB ?_ ?c2 ?c3 ?c4 ?c5; (case kA => exact rfl); (case kF => exact rfl); (case kK => first | exact rfl | assumption); (case k1 => k_asm); (case k2 => k_asm); (case k3 => k_asm); (case k4 => k_asm); (case k5 => k_asm); (case k6 => k_is); (case k7 => k_is); (case k8 => first | k_room | ktr_room); (case k9 => first | exact BindsTo.of_eq rfl | exact binds_K (by k_in) rfl (by k_is) rfl rfl rfl); (case c5 => decide); (case kB => exact locs rfl); (case c2 => exact rfl); (case c3 => exact rfl); (case c4 => exact rfl); k_whole; intro g' L' h' FG' F' N' B' X' T'; (try dsimp only); (try k_lift B'); (try k_fold)))
    k_steps
    all_goals (refine ⟨?_⟩; refine' red_end ?F ?N ?hy ?ha ?h1 ?h2 ?h3 ?h4 ?h5 ?h6; (case F => assumption); (case N => assumption); (case hy => rfl); (case ha => (unfold vstep; dsimp only; (repeat' split) <;> first | rfl | omega | (exfalso; omega))); (case h1 => exact fun p hp => List.mem_cons_of_mem _ (List.mem_append_left _ hp)); (case h2 => exact fun p hp => List.mem_cons_of_mem _ (List.mem_append_right _ (List.mem_cons_of_mem _ hp))); (case h3 => exact List.mem_cons_of_mem _ (List.mem_append_right _ (List.mem_cons_self ..))); (case h4 => exact ne_of_allLt (by assumption)); (case h5 => assumption); (case h6 => (intro z9 h19 h29; simp only [if_neg h19, if_neg h29])))
  · intro u' V' e' u1' u2' h' tk' hlt' F' N'
    (try k_fold)
    k_steps
    all_goals (exact hQ9 V' e' _ _ _ _ _ (by assumption) (by assumption) (hlt' hne9))
end Mine
end
section
open PySem PySem.W PyProof.Rows
namespace Mine
section
variable {prog : Program} {w : World} {A : Around} {E : Value → Shared → Prop} {s : Shared} {env : Env} {h₀ : Heap} {x : Str} {body : List Stmt} {Q : Flow → Shared → Prop}
/-- _law_row's loop -/
theorem row_loop {l V : Addr} {vs : List Value} {ns : List Int} {m₀ : Str → Option Value} {news nx : List (Addr × Obj)} {e ek : Nat} (mo : Int) (y y2 : Str)
    (hh : A.handled = none) (F : Fr h₀ env.locals s.heap m₀) (N : News h₀ env.locals s.heap news) (hl : (l, listOf (List.toArray vs) e) ∈ news) (hi : IntsAre vs ns)
    (hV : (V, listOf #[] ek) ∈ news) (hs : ∀ p ∈ nx, p ∈ news) (hy : m₀ y = some (.ref V)) (hyx : y ≠ x) (hyy : y ≠ y2) (hlt : ∀ p ∈ nx, p.1 < V)
    (turn : ∀ n t (u : Option Value) V us r e' I h tk own oI, n ∈ ns → (∀ p ∈ (V, listOf (List.toArray us) e') :: nx, p.1 ≠ I) → (∀ p ∈ nx, p.1 < V) → IntsAre us r → r.length ≤ 2 * ns.length → Fr h₀ env.locals h (fun z => if z = x then some (.int n t) else if z = y then some (.ref V) else if z = y2 then u else m₀ z) → News h₀ env.locals h ((V, listOf (List.toArray us) e') :: (nx ++ (I, oI) :: own)) →
      wpAny (model prog w) A (execs body env) (ItPost h₀ env.locals I (fun m' nx' => (∃ V' e' us', (∀ p ∈ nx, p.1 < V') ∧ IntsAre us' (r ++ pairL mo n) ∧ m' y = some (.ref V') ∧ nx' = (V', listOf (List.toArray us') e') :: nx) ∧ ∀ z, z ≠ x → z ≠ y → z ≠ y2 → m' z = m₀ z) ((I, oI) :: own) { s with heap := h, toks := tk } Q) E { s with heap := h, toks := tk })
    (done : ∀ (u u2 : Str → Option Value) V us e' h tk, (∀ p ∈ nx, p.1 < V) → IntsAre us (rowL mo ns) → Fr h₀ env.locals h (fun z => if z = x then u z else if z = y then some (.ref V) else if z = y2 then u2 z else m₀ z) → News h₀ env.locals h ((V, listOf (List.toArray us) e') :: nx) → Q .next { s with heap := h, toks := tk }) :
    wpAny (model prog w) A (pyIter (.ref l)) (fun it s₂ => LoopAtV prog w A h₀ env x body Q E it s₂) E s := by
  have hL : s.heap.IsList l vs.toArray := News.isList N hl
  refine wpAny_pyIter_list hL ?_
  have sz : ∀ p ∈ news, p.1 ≠ s.heap.objs.size := fun p hp => Nat.ne_of_lt (Heap.lt_size (N p hp).1)
  have up : ∀ b o, s.heap.get? b = some o → (s.heap.push { cls := .type "list_iterator", data := .fields #[.ref l, .int 0 0] }).get? b = some o := fun b o e => Heap.get?_push_of_some _ e
  have hI₀ : h₀.get? s.heap.objs.size = none := by
    cases q : h₀.get? s.heap.objs.size with
    | none => rfl
    | some o => exact absurd (Heap.lt_size (F.keep _ _ q)) (Nat.lt_irrefl _)
  refine it_loop (s := { s with heap := s.heap.push { cls := .type "list_iterator", data := .fields #[.ref l, .int 0 0] } }) (I := s.heap.objs.size) (l := l) (its := vs.toArray)
    (fun i m nx' => (∃ V e' us, (∀ p ∈ nx, p.1 < V) ∧ IntsAre us (rowL mo (ns.take i)) ∧ m y = some (.ref V) ∧ nx' = (V, listOf (List.toArray us) e') :: nx) ∧ ∀ z, z ≠ x → z ≠ y → z ≠ y2 → m z = m₀ z)
    hh ⟨_, Heap.get?_push_size _ rfl, rfl, rfl⟩ (hL.push _) (sz _ hl) (Nat.ne_of_lt F.ns.lt) (Ne.symm (N _ hl).2.1) hI₀ (F.keeps up) (news := (V, listOf #[] ek) :: nx) (fun p hp => ?_) (fun p hp => ?_)
    ⟨⟨V, ek, [], hlt, IntsAre.nil, hy, rfl⟩, fun _ _ _ _ => rfl⟩ ?_ ?_
  · rcases List.mem_cons.mp hp with rfl | hp
    · exact (N.grown up) _ hV
    · exact (N.grown up) _ (hs p hp)
  · rcases List.mem_cons.mp hp with rfl | hp
    · exact sz _ hV
    · exact sz _ (hs p hp)
  · rintro i v m₁ news₁ h tk own oI hv ⟨⟨V₁, e₁, us, hlt₁, hus, hmy, rfl⟩, hm⟩ hoff F₁ N₁
    have hlen : i < ns.length := by
      rw [← hi.length]
      have := Array.getElem?_eq_some_iff.mp hv
      obtain ⟨h1, _⟩ := this
      simpa using h1
    obtain ⟨t, hx⟩ := hi.get i ns[i] (by simp [hlen])
    have hv' : v = .int ns[i] t := by
      have hP' : vs[i]? = some v := by simpa using hv
      rw [hx] at hP'; exact (Option.some.inj hP').symm
    subst hv'
    have em : (fun z => if z = x then some (Value.int ns[i] t) else m₁ z) = fun z => if z = x then some (Value.int ns[i] t) else if z = y then some (Value.ref V₁) else if z = y2 then m₁ y2 else m₀ z := by
      funext z
      by_cases h1 : z = x
      · simp [h1]
      · simp only [if_neg h1]
        by_cases h2 : z = y
        · subst h2; simp [hmy]
        · simp only [if_neg h2]
          by_cases h3 : z = y2
          · subst h3; simp
          · simp only [if_neg h3]; exact hm z h1 h2 h3
    rw [em] at F₁
    have hs' : rowL mo (ns.take (i + 1)) = rowL mo (ns.take i) ++ pairL mo ns[i] := by
      rw [List.take_add_one, List.getElem?_eq_getElem hlen, Option.toList_some]
      unfold rowL
      rw [List.flatMap_append]; simp
    have hln : (rowL mo (ns.take i)).length ≤ 2 * ns.length := by
      rw [rowL_len, List.length_take]; omega
    refine wpAny_mono (turn ns[i] t (m₁ y2) V₁ us _ e₁ _ h tk own oI (List.getElem_mem hlen) hoff hlt₁ hus hln F₁ N₁) (fun f s₂ p => ?_) fun _ _ e => e
    rw [← hs'] at p
    have fin : ∀ {s₂ : Shared}, ItEnd h₀ env.locals s.heap.objs.size (fun m' nx' => (∃ V' e' us', (∀ p ∈ nx, p.1 < V') ∧ IntsAre us' (rowL mo (ns.take (i + 1))) ∧ m' y = some (.ref V') ∧ nx' = (V', listOf (List.toArray us') e') :: nx) ∧ ∀ z, z ≠ x → z ≠ y → z ≠ y2 → m' z = m₀ z) ((s.heap.objs.size, oI) :: own) { s with heap := h, toks := tk } s₂ →
        ItEnd h₀ env.locals s.heap.objs.size (fun m nx' => (∃ V e' us, (∀ p ∈ nx, p.1 < V) ∧ IntsAre us (rowL mo (ns.take (i + 1))) ∧ m y = some (.ref V) ∧ nx' = (V, listOf (List.toArray us) e') :: nx) ∧ ∀ z, z ≠ x → z ≠ y → z ≠ y2 → m z = m₀ z) ((s.heap.objs.size, oI) :: own) { s with heap := h, toks := tk } s₂ := fun q => q
    cases f with
    | ret v => exact p
    | brk => exact p
    | next => exact fin p
    | cont => exact fin p
  · rintro m₁ news₁ h tk ⟨⟨V₁, e₁, us, hlt₁, hus, hmy, rfl⟩, hm⟩ F₁ N₁
    have hz : vs.toArray.size = ns.length := by simp [hi.length]
    rw [hz, List.take_length] at hus
    refine done m₁ m₁ V₁ us e₁ h tk hlt₁ hus ?_ N₁
    have e : (fun z => if z = x then m₁ z else if z = y then some (Value.ref V₁) else if z = y2 then m₁ z else m₀ z) = m₁ := by
      funext z
      by_cases h1 : z = x
      · simp [h1]
      · simp only [if_neg h1]
        by_cases h2 : z = y
        · subst h2; simp [hmy]
        · simp only [if_neg h2]
          by_cases h3 : z = y2
          · subst h3; simp
          · simp only [if_neg h3]; exact (hm z h1 h2 h3).symm
    rw [e]; exact F₁
end
section
variable {prog : Program} {w : World} {A : Around} {E : Value → Shared → Prop} {s : Shared} {env : Env} {h₀ : Heap} {x : Str} {body : List Stmt} {Q : Flow → Shared → Prop}
theorem row_loop' {l V : Addr} {vs : List Value} {ns : List Int} {m₀ : Str → Option Value} {nx : List (Addr × Obj)} {e ek : Nat} {mo : Int} {tm : Tok}
    (hh : A.handled = none) (F : Fr h₀ env.locals s.heap m₀) (N : News h₀ env.locals s.heap ((V, listOf #[] ek) :: nx)) (hl : (l, listOf (List.toArray vs) e) ∈ nx) (hi : IntsAre vs ns)
    (hmo : m₀ (Str.ofString "most") = some (.int mo tm)) (hy : m₀ (Str.ofString "row") = some (.ref V)) (hx : x = Str.ofString "x") (hlt : AllLt V nx)
    (turn : ∀ n t (u : Option Value) V us r e' I h tk own oI, n ∈ ns → AllLt V nx → IntsAre us r → r.length ≤ 2 * ns.length → Fr h₀ env.locals h (fun z => if z = x then some (.int n t) else if z = Str.ofString "row" then some (.ref V) else if z = Str.ofString "other" then u else m₀ z) → News h₀ env.locals h ((V, listOf (List.toArray us) e') :: (nx ++ (I, oI) :: own)) → (∀ p ∈ (V, listOf (List.toArray us) e') :: nx, p.1 ≠ I) →
      wpAny (model prog w) A (execs body env) (ItPost h₀ env.locals I (fun m' nx' => (∃ V' e' us', (∀ p ∈ nx, p.1 < V') ∧ IntsAre us' (r ++ pairL mo n) ∧ m' (Str.ofString "row") = some (.ref V') ∧ nx' = (V', listOf (List.toArray us') e') :: nx) ∧ ∀ z, z ≠ x → z ≠ Str.ofString "row" → z ≠ Str.ofString "other" → m' z = m₀ z) ((I, oI) :: own) { s with heap := h, toks := tk } Q) E { s with heap := h, toks := tk })
    (done : ∀ (u u2 : Str → Option Value) V us e' h tk, AllLt V nx → (rowL mo ns).length = 2 * ns.length → IntsAre us (rowL mo ns) → Fr h₀ env.locals h (fun z => if z = x then u z else if z = Str.ofString "row" then some (.ref V) else if z = Str.ofString "other" then u2 z else m₀ z) → News h₀ env.locals h ((V, listOf (List.toArray us) e') :: nx) → Q .next { s with heap := h, toks := tk }) :
    wpAny (model prog w) A (pyIter (.ref l)) (fun it s₂ => LoopAtV prog w A h₀ env x body Q E it s₂) E s :=
  row_loop mo (Str.ofString "row") (Str.ofString "other") hh F N (.tail _ hl) hi (.head _) (fun p hp => .tail _ hp) hy (by subst hx; decide) (by decide) (allLt_mem hlt)
    (fun n t u V us r e' I h tk own oI hn hI hV hu hr F N => turn n t u V us r e' I h tk own oI hn (allLt_of hV) hu hr F N hI)
    (fun u u2 V us e' h tk hV hu F N => done u u2 V us e' h tk (allLt_of hV) (rowL_len _ _) hu F N)
end
theorem row_end {h₀ : Heap} {L I D : Addr} {m' m₀ : Str → Option Value} {x y y2 : Str} {oI : Obj} {own nx tail : List (Addr × Obj)} {s : Shared} {h9 : Heap} {tk k : Nat} {ws : List Value} {r q : List Int} {mo n : Int} {Q : Flow → Shared → Prop}
    (F : Fr h₀ L h9 m') (N : News h₀ L h9 ((D, listOf (List.toArray ws) k) :: tail)) (hy : m' y = some (.ref D)) (hw : IntsAre ws (r ++ q)) (hq : pairL mo n = q)
    (h1 : ∀ p ∈ nx, p ∈ tail) (h2 : ∀ p ∈ own, p ∈ tail) (h3 : (I, oI) ∈ tail) (h4 : ∀ p ∈ nx, p.1 ≠ I) (h5 : AllLt D tail) (h6 : ∀ z, z ≠ x → z ≠ y → z ≠ y2 → m' z = m₀ z) :
    ItPost h₀ L I (fun m' nx' => (∃ V' e' us', (∀ p ∈ nx, p.1 < V') ∧ IntsAre us' (r ++ pairL mo n) ∧ m' y = some (.ref V') ∧ nx' = (V', listOf (List.toArray us') e') :: nx) ∧ ∀ z, z ≠ x → z ≠ y → z ≠ y2 → m' z = m₀ z) ((I, oI) :: own) s Q .next { s with heap := h9, toks := tk } := by
  refine ⟨h9, tk, m', _, (D, listOf (List.toArray ws) k) :: nx, rfl, F, N, fun p hp => ?_, fun p hp => ?_, fun p hp => ?_, ⟨⟨D, k, ws, fun p hp => allLt_mem h5 _ (h1 p hp), by rw [hq]; exact hw, hy, rfl⟩, h6⟩⟩
  · rcases List.mem_cons.mp hp with rfl | hp
    · exact .head _
    · exact .tail _ (h1 p hp)
  · rcases List.mem_cons.mp hp with rfl | hp
    · exact .tail _ h3
    · exact .tail _ (h2 p hp)
  · rcases List.mem_cons.mp hp with rfl | hp
    · exact fun e => Nat.ne_of_lt (allLt_mem h5 _ h3) e.symm
    · exact h4 p hp
local macro_rules | `(tactic| walk_at "no such key") => `(tactic| skip)
local macro_rules | `(tactic| walk_at "ItPost") => `(tactic| refine Halt.to ?_)
local macro_rules | `(tactic| walk_at "exec For Name Name cons nil") => `(tactic| refine Halt.to ?_)
local macro_rules | `(tactic| walk_at "pyIter ref") => `(tactic| refine Halt.to ?_)
theorem allLt_skip2 {a b c D : Nat} {o : Obj} {nw : List (Addr × Obj)} (h : a < D ∧ b < D ∧ c < D ∧ AllLt D nw) : AllLt D ((c, o) :: nw) := h.2.2
set_option maxHeartbeats 2000000 in
theorem row_K (w : World) (pT : Program) (lT : List Str) (mean : ExcName → Option Value) (mg mb : Str → Option Value) (dp un : Nat) (gd : Option (List Code)) (cn : Str) (cs : Scope) (a : Addr) (ccd : Value) (cl : List (Str × Addr)) (outer : List Env) (A₀ : Around) (base h₀ : Heap) (L : Addr) (m : Str → Option Value) (s : Shared) (Q E : Value → Shared → Prop)
    (l : Addr) (vs : List Value) (ns : List Int) (e : Nat) (mo : Int) (tm : Tok) (nw : List (Addr × Obj)) :
    Below A₀ base outer h₀ → Fr h₀ L s.heap m → (hdk.heap_1 w.params).In h₀ → News h₀ L s.heap ((l, listOf (List.toArray vs) e) :: nw) → Top pT lT mean mg mb h₀ → cs.kind = .function →
    IntsAre vs ns → ns.length ≤ 6 → dp + 3 < recursionLimit → un + 16 < cLine →
    (∀ D k us h' tk', Fr h₀ L h' m → News h₀ L h' ((D, listOf (List.toArray us) k) :: (l, listOf (List.toArray vs) e) :: nw) → (∀ p ∈ (l, listOf (List.toArray vs) e) :: nw, p.1 < D) → IntsAre us (rowL mo ns ++ [mo]) → Q (.ref D) { s with heap := h', toks := tk' }) →
    wpAny (model PySem.Challenge.rw_mr0138_02.prog w) (ktrTop dp un gd cn cs L a ccd cl outer) (call (.ref 71) [.ref l, .int mo tm]) Q E s := by
  k_fill
  intros
  rename_i hlen9 hdp9 hun9 hQ9
  refine wpAny_call ?_
  k_dflt (refine' code_def ?k1 ?k2 ?k3 ?k4 ?k5 ?kA ?kF ?kK ?k6 ?k7 ?k8 ?k9 ?kB ?_ ?c2 ?c3 ?c4 ?c5; (case kA => exact rfl); (case kF => exact rfl); (case kK => assumption); (case k1 => k_asm); (case k2 => k_asm); (case k3 => k_asm); (case k4 => k_asm); (case k5 => k_asm); (case k6 => k_is); (case k7 => k_is); (case k8 => ktr_room); (case k9 => first | exact BindsTo.of_eq rfl | exact binds_K (by k_in) rfl (by k_is) rfl rfl rfl); (case c5 => decide); (case kB => exact locs rfl); (case c2 => exact rfl); (case c3 => exact rfl); (case c4 => exact rfl); k_whole; intro g' L' h' FG' F' N' B' X' T'; (try dsimp only); (try k_lift B'); (try k_fold))
  k_steps
  refine ⟨?_⟩
  rename Fr _ _ _ _ => lF'
  (with_unfolding_all refine' For_invVF lF' ?k1 ?k2 ?_; (case k1 => exact rfl); (case k2 => exact rfl); k_whole)
  k_steps
  refine ⟨?_⟩
  refine' row_loop' ?k1 ?k2 ?k3 ?k4 ?k5 ?k6 ?k7 ?k8 ?k9 ?_ ?_; (case k1 => exact rfl); (case k2 => k_asm); (case k3 => k_asm); (case k4 => k_mem); (case k5 => assumption); (case k6 => exact rfl); (case k7 => exact rfl); (case k8 => exact rfl); (case k9 => assumption)
  · intro n9' t9' u9' V9' us9' r9' e9' I9' h9' tk9' own9' oI9' hn9' hlt9' hu9' hr9' F9' N9' hI9'
    (try k_fold)
    k_steps
    all_goals (refine ⟨?_⟩; refine' row_end ?F ?N ?hy ?hw ?ha ?h1 ?h2 ?h3 ?h4 ?h5 ?h6; (case F => assumption); (case N => assumption); (case hy => rfl); (case hw => assumption); (case ha => (unfold pairL oth; (repeat' split) <;> first | rfl | omega | (exfalso; omega))); (case h1 => exact fun p hp => List.mem_cons_of_mem _ (List.mem_cons_of_mem _ (List.mem_append_left _ hp))); (case h2 => exact fun p hp => List.mem_cons_of_mem _ (List.mem_cons_of_mem _ (List.mem_append_right _ (List.mem_cons_of_mem _ hp)))); (case h3 => exact List.mem_cons_of_mem _ (List.mem_cons_of_mem _ (List.mem_append_right _ (List.mem_cons_self ..)))); (case h4 => exact fun p9 hp9 => (by assumption : ∀ p ∈ _ :: _, p.1 ≠ _) p9 (List.mem_cons_of_mem _ hp9)); (case h5 => assumption); (case h6 => (intro z9 h19 h29 h39; simp only [if_neg h19, if_neg h29, if_neg h39])))
  intro u9' u29' V9' us9' e9' h9' tk9' hlt9' hrl9' hu9' F9' N9'
  (try k_fold)
  k_steps
  refine hQ9 _ 0 _ _ _ (by assumption) (cb_drop (by assumption) fun p hp => ?_) (fun p hp => allLt_mem (allLt_skip2 (by assumption)) p hp) (by assumption)
  rcases List.mem_cons.mp hp with h | h
  · exact h ▸ .head _
  · exact .tail _ (.tail _ (.tail _ h))
end Mine
end
section
open PySem PySem.W PySem.W.X PyProof.Rows PySem.Spec PySem.Calls
namespace Mine
/-- the table as a tree: the kernel reads it quickly -/
noncomputable def tt : String → Option Builtin := fun id => entriesT.find (code id)
theorem tt_eq : denote tt = denote table := by
  have e : tt = table := by funext id; rw [table_eq_fast, fastTable_eq_tree]; rfl
  rw [e]
/-- a run by a script: loads are answered by the written part (0) or by the ledger's j-th made object (j + 1) -/
structure LS where
  news : List (Addr × Obj)
  tok : Nat
inductive LR where
  | stop
  | fin (r : Result) (sc : List Nat) (nm : List Addr) (ls : LS)
  | pause (c : Code) (κ : Kont) (t : Sem Fin) (sc : List Nat) (nm : List Addr) (ls : LS)
noncomputable def absAt (l : List (Addr × Obj)) (j : Nat) : Option (Nat × Addr × Obj) := match Nat.blt j l.length with
  | true => (l[l.length - 1 - j]?).map fun p => (l.length - 1 - j, p.1, p.2)
  | false => none
noncomputable def ob (p : Nat × Nat) (x : List (Nat × Nat) × LR) : List (Nat × Nat) × LR := (p :: x.1, x.2)
noncomputable def goL (S : Setting) (K : Frag) : Nat → List Nat → List Addr → Code → Kont → Sem Fin → LS → List (Nat × Nat) × LR
  | 0, sc, nm, c, κ, t, ls => ([], .pause c κ t sc nm ls)
  | n + 1, sc, nm, c, κ, t, ls => match t with
    | .pure (.done f) => (match κ with
        | .base => ([], .fin (.ok f) sc nm ls)
        | .ret c' _ k κ' => goL S K n sc nm c' κ' (k (.ok f)) ls
        | _ => ([], .stop))
    | .pure (.again c') => (match c'.quiet with
        | true => goL S K n sc nm c' κ (denote tt c') ls
        | false => ([], .stop))
    | .rule _ k => goL S K n sc nm c κ (k ()) ls
    | .at _ k => goL S K n sc nm c κ (k ()) ls
    | .point _ k => goL S K n sc nm c κ (k ()) ls
    | .ask k => goL S K n sc nm c κ (k S) ls
    | .fresh k => goL S K n sc nm c κ (k ls.tok) { ls with tok := ls.tok + 1 }
    | .load a _ k => (match sc with
        | [] => ([], .stop)
        | 0 :: sc => (match K.lookup a with
            | some o => goL S K n sc nm c κ (k o) ls
            | none => ([], .stop))
        | (j + 1) :: sc => (match absAt ls.news j with
            | some (_, b, o) => ob (b, a) (goL S K n sc nm c κ (k o) ls)
            | none => ([], .stop)))
    | .alloc o k => (match nm with
        | [] => ([], .stop)
        | a :: nm => (match o.isFreed with
            | true => ([], .stop)
            | false => goL S K n sc nm c κ (k a) { ls with news := (a, o) :: ls.news }))
    | .update a _ f k => (match sc with
        | (j + 1) :: sc => (match absAt ls.news j with
            | some (i, b, o) => (match (f o).isFreed with
                | true => ([], .stop)
                | false => ob (b, a) (goL S K n sc nm c κ (k ()) { ls with news := ls.news.set i (b, f o) }))
            | none => ([], .stop))
        | _ => ([], .stop))
    | .call c' none _ _ k => goL S K n sc nm c' (.ret c none k κ) (denote tt c') ls
    | t => ([], .pause c κ t sc nm ls)

/-- the ledger: what stands elsewhere is kept, what is written stands -/
structure Led (h₀ h : Heap) (news : List (Addr × Obj)) : Prop where
  keep : ∀ b o, h₀.get? b = some o → h.get? b = some o
  nw : ∀ p ∈ news, h.get? p.1 = some p.2 ∧ h₀.get? p.1 = none
  nd : (news.map (·.1)).Nodup
theorem Led.at {h₀ h : Heap} {news : List (Addr × Obj)} (D : Led h₀ h news) (i : Nat) (a : Addr) (o : Obj) (hi : news[i]? = some (a, o)) : h.get? a = some o := (D.nw _ (List.mem_of_getElem? hi)).1
theorem Led.alloc {h₀ h : Heap} {news : List (Addr × Obj)} (D : Led h₀ h news) {o : Obj} (hf : o.isFreed = false) : Led h₀ (h.push o) ((h.objs.size, o) :: news) := by
  refine ⟨fun b o' e => Heap.get?_push_of_some _ (D.keep b o' e), fun p hp => ?_, ?_⟩
  · rcases List.mem_cons.mp hp with rfl | hp
    · refine ⟨Heap.get?_push_size _ hf, ?_⟩
      cases q : h₀.get? h.objs.size with
      | none => rfl
      | some o' => exact absurd (Heap.lt_size (D.keep _ _ q)) (Nat.lt_irrefl _)
    · exact ⟨Heap.get?_push_of_some _ (D.nw p hp).1, (D.nw p hp).2⟩
  · rw [List.map_cons, List.nodup_cons]
    refine ⟨fun hm => ?_, D.nd⟩
    obtain ⟨p, hp, e⟩ := List.mem_map.mp hm
    have := Heap.lt_size (D.nw p hp).1
    rw [e] at this
    exact Nat.lt_irrefl _ this
theorem Led.update {h₀ h : Heap} {news : List (Addr × Obj)} (D : Led h₀ h news) {i : Nat} {a : Addr} {o : Obj} {f : Obj → Obj} (hi : news[i]? = some (a, o)) (hf : (f o).isFreed = false) : Led h₀ (h.update a f) (news.set i (a, f o)) := by
  have ho := D.at i a o hi
  have z := D.nw (a, o) (List.mem_of_getElem? hi)
  have hs : Heap.SameBut a h (h.update a f) := Heap.SameBut.update ..
  have ge : (h.update a f).get? a = some (f o) := Heap.get?_update_self _ ho hf
  have hk : (news.set i (a, f o)).map (·.1) = news.map (·.1) := by
    rw [List.map_set]
    refine set_same ?_
    rw [List.getElem?_map, hi]; rfl
  obtain ⟨hl, ei⟩ := List.getElem?_eq_some_iff.mp hi
  refine ⟨fun b o' e => (hs.2 b fun q => ?_).trans (D.keep b o' e), fun p hp => ?_, by rw [hk]; exact D.nd⟩
  · subst q; rw [z.2] at e; cases e
  · obtain ⟨j, hj, ej⟩ := List.getElem_of_mem hp
    rw [List.length_set] at hj
    by_cases q : i = j
    · subst q
      rw [List.getElem_set_self] at ej
      subst ej
      exact ⟨ge, z.2⟩
    · rw [List.getElem_set_ne q] at ej
      have hp' : p ∈ news := ej ▸ List.getElem_mem hj
      have y := D.nw p hp'
      refine ⟨(hs.2 _ fun w => q ?_).trans y.1, y.2⟩
      have n1 : (news.map (·.1))[i]? = some a := by rw [List.getElem?_map, hi]; rfl
      have n2 : (news.map (·.1))[j]? = some a := by rw [List.getElem?_map, List.getElem?_eq_getElem hj, ej, ← w]; rfl
      have hll : i < (news.map (·.1)).length := by rw [List.length_map]; exact hl
      have hll' : j < (news.map (·.1)).length := by rw [List.length_map]; exact hj
      rw [List.getElem?_eq_getElem hll] at n1
      rw [List.getElem?_eq_getElem hll'] at n2
      have eq := (Option.some.inj n1).trans (Option.some.inj n2).symm
      rcases Nat.lt_or_gt_of_ne q with lt | lt
      · exact absurd eq (List.pairwise_iff_getElem.mp D.nd i j hll hll' lt)
      · exact absurd eq.symm (List.pairwise_iff_getElem.mp D.nd j i hll' hll lt)
noncomputable def NamesOk (nm : List Addr) (h : Heap) : Prop := ∀ i a, nm[i]? = some a → a = h.objs.size + i
theorem NamesOk.tail {a : Addr} {nm : List Addr} {h : Heap} {o : Obj} (H : NamesOk (a :: nm) h) : NamesOk nm (h.push o) := fun i b e => by
  have := H (i + 1) b (by simpa using e)
  rw [Heap.size_push]; omega
theorem NamesOk.head {a : Addr} {nm : List Addr} {h : Heap} (H : NamesOk (a :: nm) h) : a = h.objs.size := by
  have := H 0 a rfl; omega
theorem NamesOk.same {nm : List Addr} {h h' : Heap} (H : NamesOk nm h) (e : h'.objs.size = h.objs.size) : NamesOk nm h' := fun i b q => by rw [e]; exact H i b q
theorem absAt_some {l : List (Addr × Obj)} {j i : Nat} {b : Addr} {o : Obj} (e : absAt l j = some (i, b, o)) : l[i]? = some (b, o) := by
  unfold absAt at e
  split at e
  · obtain ⟨⟨b', o'⟩, h1, h2⟩ := Option.map_eq_some_iff.mp e
    simp only [Prod.mk.injEq] at h2
    obtain ⟨rfl, rfl, rfl⟩ := h2
    exact h1
  · cases e
/-- what the run's end must meet -/
noncomputable def After (V : XV) (h₀ : Heap) (g : Array GenState) : LR → Prop
  | .stop => False
  | .fin r _ nm ls => ∀ h, Led h₀ h ls.news → NamesOk nm h → V.R₀ r ⟨h, g, V.d, ls.tok, V.os⟩
  | .pause c κ t _ nm ls => ∀ h, Led h₀ h ls.news → NamesOk nm h → Means V c none κ t ⟨h, g, V.d, ls.tok, V.os⟩
section
variable {S : Setting} {K : Frag} {n : Nat} {sc : List Nat} {nm : List Addr} {c c' : Code} {κ : Kont} {ls : LS} {b b' : Addr} {q : Option Value} {o : Obj} {i j : Nat}
theorem gl_again {x : Bool} (e : c'.quiet = x) : goL S K (n + 1) sc nm c κ (.pure (.again c')) ls = (match (generalizing := false) x with | true => goL S K n sc nm c' κ (denote table c') ls | false => ([], LR.stop)) := by
  show (match c'.quiet with | true => goL S K n sc nm c' κ (denote tt c') ls | false => ([], LR.stop)) = _
  rw [tt_eq]; subst e; rfl
theorem gl_load0 {k : Obj → Sem Fin} {x : Option Obj} (e : K.lookup b = x) : goL S K (n + 1) (0 :: sc) nm c κ (.load b q k) ls = (match (generalizing := false) x with | some o => goL S K n sc nm c κ (k o) ls | none => ([], LR.stop)) := by
  show (match K.lookup b with | some o => goL S K n sc nm c κ (k o) ls | none => ([], LR.stop)) = _
  subst e; rfl
theorem gl_loadj {k : Obj → Sem Fin} {x : Option (Nat × Addr × Obj)} (e : absAt ls.news j = x) : goL S K (n + 1) ((j + 1) :: sc) nm c κ (.load b q k) ls = (match (generalizing := false) x with | some (_, b', o) => ob (b', b) (goL S K n sc nm c κ (k o) ls) | none => ([], LR.stop)) := by
  show (match absAt ls.news j with | some (_, b', o) => ob (b', b) (goL S K n sc nm c κ (k o) ls) | none => ([], LR.stop)) = _
  subst e; rfl
theorem gl_alloc {k : Addr → Sem Fin} {x : Bool} (e : o.isFreed = x) : goL S K (n + 1) sc (b :: nm) c κ (.alloc o k) ls = (match (generalizing := false) x with | true => ([], LR.stop) | false => goL S K n sc nm c κ (k b) { ls with news := (b, o) :: ls.news }) := by
  show (match o.isFreed with | true => ([], LR.stop) | false => goL S K n sc nm c κ (k b) { ls with news := (b, o) :: ls.news }) = _
  subst e; rfl
theorem gl_upd0 {k : Unit → Sem Fin} {f : Obj → Obj} (e : absAt ls.news j = none) : goL S K (n + 1) ((j + 1) :: sc) nm c κ (.update b q f k) ls = ([], LR.stop) := by
  show (match absAt ls.news j with | some (i, b', o) => (match (f o).isFreed with | true => ([], LR.stop) | false => ob (b', b) (goL S K n sc nm c κ (k ()) { ls with news := ls.news.set i (b', f o) })) | none => ([], LR.stop)) = _
  rw [e]
theorem gl_updj {k : Unit → Sem Fin} {f : Obj → Obj} {x : Bool} (e : absAt ls.news j = some (i, b', o)) (hf : (f o).isFreed = x) :
    goL S K (n + 1) ((j + 1) :: sc) nm c κ (.update b q f k) ls = (match (generalizing := false) x with | true => ([], LR.stop) | false => ob (b', b) (goL S K n sc nm c κ (k ()) { ls with news := ls.news.set i (b', f o) })) := by
  show (match absAt ls.news j with | some (i, b', o) => (match (f o).isFreed with | true => ([], LR.stop) | false => ob (b', b) (goL S K n sc nm c κ (k ()) { ls with news := ls.news.set i (b', f o) })) | none => ([], LR.stop)) = _
  rw [e]
  show (match (f o).isFreed with | true => ([], LR.stop) | false => ob (b', b) (goL S K n sc nm c κ (k ()) { ls with news := ls.news.set i (b', f o) })) = _
  subst hf; rfl
end
theorem goL_sound {V : XV} {h₀ : Heap} {g : Array GenState} {K : Frag} (hK : ∀ h news, Led h₀ h news → K.In h) :
    ∀ (n : Nat) (sc : List Nat) (nm : List Addr) (c : Code) (κ : Kont) (t : Sem Fin) (ls : LS) (h : Heap), Led h₀ h ls.news → NamesOk nm h →
      (∀ p ∈ (goL ⟨V.prog, V.w.params⟩ K n sc nm c κ t ls).1, p.1 = p.2) → After V h₀ g (goL ⟨V.prog, V.w.params⟩ K n sc nm c κ t ls).2 →
      Means V c none κ t ⟨h, g, V.d, ls.tok, V.os⟩ := by
  intro n
  induction n with
  | zero => intro sc nm c κ t ls h D N o a; exact a h D N
  | succ n ih =>
    intro sc nm c κ t ls h D N o a
    cases t with
    | pure fin =>
      cases fin with
      | done f =>
        have key : endOf V κ (.ok f) ⟨h, g, V.d, ls.tok, V.os⟩ := by
          cases κ with
          | base => exact a h D N
          | ret c₁ hd k κ => exact ih _ _ _ _ _ _ h D N o a
          | gen => exact a.elim
          | genS => exact a.elim
        exact y_pure _ _ _ _ _ _ _ _ _ (y_done _ _ _ _ _ _ key)
      | again c' =>
        cases q : c'.quiet with
        | false => rw [gl_again q] at a; exact a.elim
        | true =>
          rw [gl_again q] at a o
          exact y_pure _ _ _ _ _ _ _ _ _ (y_again _ _ _ _ _ _ q (y_code _ _ _ _ _ _ (ih _ _ _ _ _ _ h D N o a)))
    | rule tag k => exact y_skim _ _ _ _ _ _ _ _ _ 1 (ih _ _ _ _ _ _ h D N o a)
    | «at» q k => exact y_skim _ _ _ _ _ _ _ _ _ 1 (ih _ _ _ _ _ _ h D N o a)
    | point l k => exact y_skim _ _ _ _ _ _ _ _ _ 1 (ih _ _ _ _ _ _ h D N o a)
    | ask k => exact y_skim _ _ _ _ _ _ _ _ _ 1 (ih _ _ _ _ _ _ h D N o a)
    | fresh k => exact y_fresh _ _ _ _ _ _ _ _ _ _ _ _ _ (ih _ _ _ _ _ { ls with tok := ls.tok + 1 } h D N o a)
    | load b q k =>
      match sc, o, a with
      | [], o, a => exact a.elim
      | 0 :: sc, o, a =>
        cases e : K.lookup b with
        | some ob =>
          rw [gl_load0 e] at a o
          exact y_load _ _ _ _ _ _ _ _ _ _ _ _ _ _ _ _ (hK h _ D _ _ e) (ih _ _ _ _ _ _ h D N o a)
        | none => rw [gl_load0 e] at a; exact a.elim
      | (j + 1) :: sc, o, a =>
        cases e : absAt ls.news j with
        | some y =>
          obtain ⟨i, b', ob⟩ := y
          rw [gl_loadj e] at a o
          have e1 : b' = b := o (b', b) (.head _)
          subst e1
          exact y_load _ _ _ _ _ _ _ _ _ _ _ _ _ _ _ _ (D.at i _ _ (absAt_some e)) (ih _ _ _ _ _ _ h D N (fun p hp => o p (.tail _ hp)) a)
        | none => rw [gl_loadj e] at a; exact a.elim
    | alloc ob k =>
      cases nm with
      | nil => exact a.elim
      | cons b nm =>
        cases hf : ob.isFreed with
        | true => rw [gl_alloc hf] at a; exact a.elim
        | false =>
          rw [gl_alloc hf] at a o
          have e := N.head
          have D' := D.alloc (o := ob) hf
          have z := ih sc nm c κ (k b) { ls with news := (b, ob) :: ls.news } (h.push ob) (by rw [e]; exact D') N.tail o a
          exact wpOwn_bind (m := PySem.alloc ob) (f := k) (wpOwn_of_wpAny (wpAny_alloc (by rw [← e]; exact z)))
    | update b q f k =>
      match sc, o, a with
      | [], o, a => exact a.elim
      | 0 :: sc, o, a => exact a.elim
      | (j + 1) :: sc, o, a =>
        cases e : absAt ls.news j with
        | some y =>
          obtain ⟨i, b', ob⟩ := y
          cases hf : (f ob).isFreed with
          | true => rw [gl_updj e hf] at a; exact a.elim
          | false =>
            rw [gl_updj e hf] at a o
            have e1 : b' = b := o (b', b) (.head _)
            subst e1
            have hi := absAt_some e
            have D' := D.update hi hf
            have z := ih sc nm c κ (k ()) { ls with news := ls.news.set i (b', f ob) } (h.update b' f) D' (N.same (by rw [Heap.size_update])) (fun p hp => o p (.tail _ hp)) a
            exact wpOwn_bind (m := updatePart b' q f) (f := k) (wpOwn_of_wpAny (wpAny_updatePart (D.at i _ _ hi) z))
        | none => rw [gl_upd0 e] at a; exact a.elim
    | call c' hd gd l k =>
      cases hd with
      | some v => exact a h D N
      | none =>
        have ec : goL ⟨V.prog, V.w.params⟩ K (n + 1) sc nm c κ (.call c' none gd l k) ls = goL ⟨V.prog, V.w.params⟩ K n sc nm c' (.ret c none k κ) (denote table c') ls := by rw [← tt_eq]; rfl
        rw [ec] at a o
        exact y_call _ _ _ _ _ _ _ _ _ _ _ _ _ (fun e => nomatch e) (y_code _ _ _ _ _ _ (ih _ _ _ _ _ _ h D N o a))
    | _ => exact a h D N

/-- the same for a tree of any kind, its calls run to their ends -/
noncomputable def goT {α : Type} (S : Setting) (K : Frag) : Nat → List Nat → List Addr → Sem α → LS → List (Nat × Nat) × Option (α × List Nat × List Addr × LS)
  | 0, _, _, _, _ => ([], none)
  | n + 1, sc, nm, t, ls => match t with
    | .pure a => ([], some (a, sc, nm, ls))
    | .rule _ k => goT S K n sc nm (k ()) ls
    | .at _ k => goT S K n sc nm (k ()) ls
    | .point _ k => goT S K n sc nm (k ()) ls
    | .ask k => goT S K n sc nm (k S) ls
    | .fresh k => goT S K n sc nm (k ls.tok) { ls with tok := ls.tok + 1 }
    | .load a _ k => (match sc with
        | [] => ([], none)
        | 0 :: sc => (match K.lookup a with
            | some o => goT S K n sc nm (k o) ls
            | none => ([], none))
        | (j + 1) :: sc => (match absAt ls.news j with
            | some (_, b, o) => ((b, a) :: (goT S K n sc nm (k o) ls).1, (goT S K n sc nm (k o) ls).2)
            | none => ([], none)))
    | .alloc o k => (match nm with
        | [] => ([], none)
        | a :: nm => (match o.isFreed with
            | true => ([], none)
            | false => goT S K n sc nm (k a) { ls with news := (a, o) :: ls.news }))
    | .update a _ f k => (match sc with
        | (j + 1) :: sc => (match absAt ls.news j with
            | some (i, b, o) => (match (f o).isFreed with
                | true => ([], none)
                | false => ((b, a) :: (goT S K n sc nm (k ()) { ls with news := ls.news.set i (b, f o) }).1, (goT S K n sc nm (k ()) { ls with news := ls.news.set i (b, f o) }).2))
            | none => ([], none))
        | _ => ([], none))
    | .call c' none _ _ k => (match goL S K 4000 sc nm c' .base (denote tt c') ls with
        | (obs, .fin r sc nm ls) => (obs ++ (goT S K n sc nm (k r) ls).1, (goT S K n sc nm (k r) ls).2)
        | (obs, _) => (obs, none))
    | _ => ([], none)
section
variable {α : Type} {S : Setting} {K : Frag} {n : Nat} {sc : List Nat} {nm : List Addr} {ls : LS} {b b' : Addr} {q : Option Value} {o : Obj} {i j : Nat}
theorem gt_load0 {k : Obj → Sem α} {x : Option Obj} (e : K.lookup b = x) : goT S K (n + 1) (0 :: sc) nm (.load b q k) ls = (match (generalizing := false) x with | some o => goT S K n sc nm (k o) ls | none => ([], none)) := by
  show (match K.lookup b with | some o => goT S K n sc nm (k o) ls | none => ([], none)) = _
  subst e; rfl
theorem gt_loadj {k : Obj → Sem α} {x : Option (Nat × Addr × Obj)} (e : absAt ls.news j = x) :
    goT S K (n + 1) ((j + 1) :: sc) nm (.load b q k) ls = (match (generalizing := false) x with | some (_, b', o) => ((b', b) :: (goT S K n sc nm (k o) ls).1, (goT S K n sc nm (k o) ls).2) | none => ([], none)) := by
  show (match absAt ls.news j with | some (_, b', o) => ((b', b) :: (goT S K n sc nm (k o) ls).1, (goT S K n sc nm (k o) ls).2) | none => ([], none)) = _
  subst e; rfl
theorem gt_alloc {k : Addr → Sem α} {x : Bool} (e : o.isFreed = x) : goT S K (n + 1) sc (b :: nm) (.alloc o k) ls = (match (generalizing := false) x with | true => ([], none) | false => goT S K n sc nm (k b) { ls with news := (b, o) :: ls.news }) := by
  show (match o.isFreed with | true => ([], none) | false => goT S K n sc nm (k b) { ls with news := (b, o) :: ls.news }) = _
  subst e; rfl
theorem gt_updj {k : Unit → Sem α} {f : Obj → Obj} {x : Option (Nat × Addr × Obj)} (e : absAt ls.news j = x) :
    goT S K (n + 1) ((j + 1) :: sc) nm (.update b q f k) ls = (match (generalizing := false) x with
      | some (i, b', o) => (match (f o).isFreed with
        | true => ([], none)
        | false => ((b', b) :: (goT S K n sc nm (k ()) { ls with news := ls.news.set i (b', f o) }).1, (goT S K n sc nm (k ()) { ls with news := ls.news.set i (b', f o) }).2))
      | none => ([], none)) := by
  show (match absAt ls.news j with
      | some (i, b', o) => (match (f o).isFreed with
        | true => ([], none)
        | false => ((b', b) :: (goT S K n sc nm (k ()) { ls with news := ls.news.set i (b', f o) }).1, (goT S K n sc nm (k ()) { ls with news := ls.news.set i (b', f o) }).2))
      | none => ([], none)) = _
  subst e; rfl
theorem gt_updf {k : Unit → Sem α} {f : Obj → Obj} {x : Bool} (e : absAt ls.news j = some (i, b', o)) (hf : (f o).isFreed = x) :
    goT S K (n + 1) ((j + 1) :: sc) nm (.update b q f k) ls = (match (generalizing := false) x with
      | true => ([], none)
      | false => ((b', b) :: (goT S K n sc nm (k ()) { ls with news := ls.news.set i (b', f o) }).1, (goT S K n sc nm (k ()) { ls with news := ls.news.set i (b', f o) }).2)) := by
  rw [gt_updj e]; subst hf; rfl
theorem gt_call {c' : Code} {gd : Bool} {l : List Value} {k : Result → Sem α} {x : List (Nat × Nat) × LR} (e : goL S K 4000 sc nm c' .base (denote table c') ls = x) :
    goT S K (n + 1) sc nm (.call c' none gd l k) ls = (match (generalizing := false) x with
      | (obs, .fin r sc nm ls) => (obs ++ (goT S K n sc nm (k r) ls).1, (goT S K n sc nm (k r) ls).2)
      | (obs, _) => (obs, none)) := by
  show (match goL S K 4000 sc nm c' .base (denote tt c') ls with
      | (obs, .fin r sc nm ls) => (obs ++ (goT S K n sc nm (k r) ls).1, (goT S K n sc nm (k r) ls).2)
      | (obs, _) => (obs, none)) = _
  rw [tt_eq]; subst e; rfl
end
theorem goT_sound {α : Type} {prog : Program} {w : World} {A : Around} {Q : α → Shared → Prop} {E : Value → Shared → Prop} {h₀ : Heap} {g : Array GenState} {d : Drawn} {os : OsState} {K : Frag} (hK : ∀ h news, Led h₀ h news → K.In h) :
    ∀ (n : Nat) (sc : List Nat) (nm : List Addr) (t : Sem α) (ls : LS) (h : Heap) (r : α) (sc' : List Nat) (nm' : List Addr) (ls' : LS), Led h₀ h ls.news → NamesOk nm h →
      (∀ p ∈ (goT ⟨prog, w.params⟩ K n sc nm t ls).1, p.1 = p.2) → (goT ⟨prog, w.params⟩ K n sc nm t ls).2 = some (r, sc', nm', ls') →
      (∀ h', Led h₀ h' ls'.news → NamesOk nm' h' → Q r ⟨h', g, d, ls'.tok, os⟩) → wpAny (model prog w) A t Q E ⟨h, g, d, ls.tok, os⟩ := by
  intro n
  induction n with
  | zero => intro sc nm t ls h r sc' nm' ls' D N o e q; cases e
  | succ n ih =>
    intro sc nm t ls h r sc' nm' ls' D N o e q
    cases t with
    | pure a =>
      have e' : some (a, sc, nm, ls) = some (r, sc', nm', ls') := e
      cases e'; exact wpAny_pure (q h D N)
    | rule tag k => exact x_rule (ih _ _ _ _ h _ _ _ _ D N o e q)
    | «at» p k => exact x_at (ih _ _ _ _ h _ _ _ _ D N o e q)
    | point l k => exact x_point (ih _ _ _ _ h _ _ _ _ D N o e q)
    | ask k => exact x_ask (ih _ _ _ _ h _ _ _ _ D N o e q)
    | fresh k => exact x_fresh (ih _ _ _ { ls with tok := ls.tok + 1 } h _ _ _ _ D N o e q)
    | load b p k =>
      match sc, o, e with
      | [], o, e => exact nomatch (show none = some _ from e)
      | 0 :: sc, o, e =>
        cases eb : K.lookup b with
        | some ob =>
          rw [gt_load0 eb] at e o
          exact x_load (hK h _ D _ _ eb) (ih _ _ _ _ h _ _ _ _ D N o e q)
        | none => rw [gt_load0 eb] at e; exact nomatch (show none = some _ from e)
      | (j + 1) :: sc, o, e =>
        cases eb : absAt ls.news j with
        | some y =>
          obtain ⟨i, b', ob⟩ := y
          rw [gt_loadj eb] at e o
          have e1 : b' = b := o (b', b) (.head _)
          subst e1
          exact x_load (D.at i _ _ (absAt_some eb)) (ih _ _ _ _ h _ _ _ _ D N (fun p hp => o p (.tail _ hp)) e q)
        | none => rw [gt_loadj eb] at e; exact nomatch (show none = some _ from e)
    | alloc ob k =>
      cases nm with
      | nil => exact nomatch (show none = some _ from e)
      | cons b nm =>
        cases hf : ob.isFreed with
        | true => rw [gt_alloc hf] at e; exact nomatch (show none = some _ from e)
        | false =>
          rw [gt_alloc hf] at e o
          have eb := N.head
          have D' := D.alloc (o := ob) hf
          have z := ih sc nm (k b) { ls with news := (b, ob) :: ls.news } (h.push ob) _ _ _ _ (by rw [eb]; exact D') N.tail o e q
          exact wpAny_bind (m := PySem.alloc ob) (f := k) (wpAny_alloc (by rw [← eb]; exact z))
    | update b p f k =>
      match sc, o, e with
      | [], o, e => exact nomatch (show none = some _ from e)
      | 0 :: sc, o, e => exact nomatch (show none = some _ from e)
      | (j + 1) :: sc, o, e =>
        cases eb : absAt ls.news j with
        | some y =>
          obtain ⟨i, b', ob⟩ := y
          cases hf : (f ob).isFreed with
          | true => rw [gt_updf eb hf] at e; exact nomatch (show none = some _ from e)
          | false =>
            rw [gt_updf eb hf] at e o
            have e1 : b' = b := o (b', b) (.head _)
            subst e1
            have hi := absAt_some eb
            have D' := D.update hi hf
            have z := ih sc nm (k ()) { ls with news := ls.news.set i (b', f ob) } (h.update b' f) _ _ _ _ D' (N.same (by rw [Heap.size_update])) (fun p hp => o p (.tail _ hp)) e q
            exact wpAny_bind (m := updatePart b' p f) (f := k) (wpAny_updatePart (D.at i _ _ hi) z)
        | none => rw [gt_updj eb] at e; exact nomatch (show none = some _ from e)
    | call c' hd gd l k =>
      cases hd with
      | some v => exact nomatch (show none = some _ from e)
      | none =>
        cases eg : goL ⟨prog, w.params⟩ K 4000 sc nm c' .base (denote table c') ls with
        | mk obs y =>
        rw [gt_call eg] at e o
        cases y with
        | fin r1 sc1 nm1 ls1 =>
          let V : XV := { prog := prog, w := w, h₀ := h₀, n₁ := 0, kt := .nil, tabs := [], A₀ := A.mark none, R₀ := fun r s' => wpAny (model prog w) A (k r) Q E s', d := d, t₀ := 0, os := os }
          refine x_call (y_code _ _ _ _ _ _ ?_) (fun q => nomatch q)
          refine goL_sound (V := V) (K := K) (g := g) hK 4000 sc nm c' .base (denote table c') ls h D N (fun p hp => ?_) ?_
          · rw [eg] at hp; exact o p (List.mem_append_left _ hp)
          · rw [eg]
            intro h' D' N'
            exact ih _ _ _ _ h' _ _ _ _ D' N' (fun p hp => o p (List.mem_append_right _ hp)) e q
        | stop => exact nomatch (show none = some _ from e)
        | pause => exact nomatch (show none = some _ from e)
    | _ => exact nomatch (show none = some _ from e)
end Mine
end
section
open PySem PySem.W PySem.W.X PyProof.Rows PySem.Spec PySem.Calls
namespace Mine
noncomputable abbrev PR : Program := PySem.Challenge.rw_mr0138_02.prog
/-- the written part of the runs -/
noncomputable def KF (P : Params) : Frag := Mine.hdk.heap_1 P ++ modK P
theorem lookup_app {l r : Frag} {a : Addr} {o : Obj} (h : (l ++ r).lookup a = some o) : l.lookup a = some o ∨ r.lookup a = some o := by
  induction l with
  | nil => exact .inr h
  | cons p l ih =>
    rw [List.cons_append, List.lookup_cons] at h
    rw [List.lookup_cons]
    split
    · rename_i q; rw [q] at h; exact .inl h
    · rename_i q; rw [q] at h; exact ih h
theorem kf_of {w : World} {h : Heap} (X : (Mine.hdk.heap_1 w.params).In h) (Y : InK modK w h) : (KF w.params).In h := fun a o e => (lookup_app e).elim (X a o) (Y a o)
/-- the name 'object' means the type object -/
structure NameObj (h : Heap) : Prop where
  out : ∃ mg mb, h.Ns mainGlobals mg ∧ mg "object" = none ∧ h.Ns builtinsNs mb ∧ mb "object" = some (.type "object") ∧ mb "__build_class__" = some (.builtin "__build_class__")
theorem NameObj.keeps {h h' : Heap} (O : NameObj h) (k : ∀ b o, h.get? b = some o → h'.get? b = some o) : NameObj h' := by
  obtain ⟨mg, mb, h1, h2, h3, h4, h5⟩ := O.out
  exact ⟨mg, mb, h1.keeps k, h2, h3.keeps k, h4, h5⟩
theorem ns_at {h h' : Heap} {a : Addr} {m : Str → Option Value} (H : h.Ns a m) (k : ∀ o, h.get? a = some o → h'.get? a = some o) : h'.Ns a m := by
  obtain ⟨o, es, ep, h1, h2⟩ := H
  exact ⟨o, es, ep, k o h1, h2⟩
noncomputable def namesFrom (v n : Nat) : List Addr := (List.range n).map fun i => v + 2 + i
theorem names_ok {v n : Nat} {h : Heap} (e : h.objs.size = v + 2) : NamesOk (namesFrom v n) h := fun i a q => by
  unfold namesFrom at q
  rw [List.getElem?_map] at q
  obtain ⟨j, h1, h2⟩ := Option.map_eq_some_iff.mp q
  have : j = i := by
    have := List.getElem?_eq_some_iff.mp h1
    obtain ⟨_, h3⟩ := this
    simpa using h3.symm
  subst this
  rw [e]; exact h2.symm
noncomputable def outS {α : Type} (x : List (Nat × Nat) × Option (α × List Nat × List Addr × LS)) : LS := match x.2 with
  | some y => y.2.2.2
  | none => ⟨[], 0⟩
theorem obs_ok : ∀ {l : List (Nat × Nat)}, l.map (·.1) = l.map (·.2) → ∀ p ∈ l, p.1 = p.2
  | [], _, _, h => nomatch h
  | q :: l, e, p, h => by
    simp only [List.map_cons, List.cons.injEq] at e
    rcases List.mem_cons.mp h with rfl | h
    · exact e.1
    · exact obs_ok e.2 p h
section
variable {α : Type} {w : World} {A : Around} {Q : α → Shared → Prop} {E : Value → Shared → Prop} {h₀ h : Heap} {g : Array GenState} {d : Drawn} {os : OsState}
/-- one chunk by the engine -/
theorem chunk (hK : ∀ h news, Led h₀ h news → (KF w.params).In h) (n : Nat) (sc : List Nat) (nm nm' : List Addr) (r : α) {t : Sem α} {ls : LS} (D : Led h₀ h ls.news) (N : NamesOk nm h)
    (e : (goT ⟨PR, w.params⟩ (KF w.params) n sc nm t ls).2.map (fun y => (y.1, y.2.2.1)) = some (r, nm')) (o : (goT ⟨PR, w.params⟩ (KF w.params) n sc nm t ls).1.map (·.1) = (goT ⟨PR, w.params⟩ (KF w.params) n sc nm t ls).1.map (·.2))
    (q : ∀ h', Led h₀ h' (outS (goT ⟨PR, w.params⟩ (KF w.params) n sc nm t ls)).news → NamesOk nm' h' → Q r ⟨h', g, d, (outS (goT ⟨PR, w.params⟩ (KF w.params) n sc nm t ls)).tok, os⟩) :
    wpAny (model PR w) A t Q E ⟨h, g, d, ls.tok, os⟩ := by
  obtain ⟨⟨r1, sc1, nm1, ls1⟩, h1, h2⟩ := Option.map_eq_some_iff.mp e
  simp only [Prod.mk.injEq] at h2
  obtain ⟨rfl, rfl⟩ := h2
  refine goT_sound hK n sc nm t ls h r1 sc1 nm1 ls1 D N (obs_ok o) h1 ?_
  have eo : outS (goT ⟨PR, w.params⟩ (KF w.params) n sc nm t ls) = ls1 := by unfold outS; rw [h1]
  rw [eo] at q
  exact q
end
section
variable {α : Type} {M : Model} {A : Around} {Q : α → Shared → Prop} {E : Value → Shared → Prop} {s : Shared} {c : Prop} [Decidable c] {a b : Sem α}
theorem wifP (h : c) (k : wpAny M A a Q E s) : wpAny M A (if c then a else b) Q E s := by rw [if_pos h]; exact k
theorem wifN (h : ¬ c) (k : wpAny M A b Q E s) : wpAny M A (if c then a else b) Q E s := by rw [if_neg h]; exact k
end
section
variable {α β : Type} {M : Model} {A : Around} {Q : β → Shared → Prop} {E : Value → Shared → Prop} {s : Shared} {x : Sem α} {c : α → Prop} {inst : ∀ a, Decidable (c a)} {a b : α → Sem β}
end
/-- the ledger and the token written anew -/
theorem recast {α : Type} {w : World} {A : Around} {Q : α → Shared → Prop} {E : Value → Shared → Prop} {h₀ h : Heap} {g : Array GenState} {d : Drawn} {os : OsState} {news : List (Addr × Obj)} {tok : Nat} {x : Sem α} (D : Led h₀ h news)
    (news' : List (Addr × Obj)) (tok' : Nat) (e1 : news = news') (e2 : tok = tok') (k : Led h₀ h news' → wpAny (model PR w) A x Q E ⟨h, g, d, tok', os⟩) : wpAny (model PR w) A x Q E ⟨h, g, d, tok, os⟩ := by
  subst e1 e2; exact k D
theorem noLimit {w : World} {h : Heap} (X : (KF w.params).In h) : h.NoLimit := by
  have e : (KF w.params).lookup 2 = some { cls := .none, data := .dict #[] 0 } := by kernel_rfl
  exact ⟨fun _ => none, ⟨_, #[], 0, X _ _ e, rfl, fun _ hm => by simp at hm, fun _ => rfl⟩, rfl⟩
section
variable {α : Type} {w : World} {A : Around} {Q : α → Shared → Prop} {E : Value → Shared → Prop} {h₀ h : Heap} {g : Array GenState} {d : Drawn} {os : OsState}
/-- a chunk that only reads -/
theorem chunkR (hK : ∀ h news, Led h₀ h news → (KF w.params).In h) (n : Nat) (sc : List Nat) (nm : List Addr) (r : α) {t : Sem α} {ls : LS} (D : Led h₀ h ls.news) (N : NamesOk nm h)
    (e : (goT ⟨PR, w.params⟩ (KF w.params) n sc nm t ls).2 = some (r, [], nm, ls)) (o : (goT ⟨PR, w.params⟩ (KF w.params) n sc nm t ls).1.map (·.1) = (goT ⟨PR, w.params⟩ (KF w.params) n sc nm t ls).1.map (·.2))
    (q : ∀ h', Led h₀ h' ls.news → NamesOk nm h' → Q r ⟨h', g, d, ls.tok, os⟩) :
    wpAny (model PR w) A t Q E ⟨h, g, d, ls.tok, os⟩ :=
  goT_sound hK n sc nm t ls h r [] nm ls D N (obs_ok o) e q
/-- a chunk that reads and makes k names of values -/
theorem chunkT (hK : ∀ h news, Led h₀ h news → (KF w.params).In h) (n k : Nat) (sc : List Nat) (nm : List Addr) (r : α) {t : Sem α} {ls : LS} (D : Led h₀ h ls.news) (N : NamesOk nm h)
    (e : (goT ⟨PR, w.params⟩ (KF w.params) n sc nm t ls).2 = some (r, [], nm, ⟨ls.news, ls.tok + k⟩)) (o : (goT ⟨PR, w.params⟩ (KF w.params) n sc nm t ls).1.map (·.1) = (goT ⟨PR, w.params⟩ (KF w.params) n sc nm t ls).1.map (·.2))
    (q : ∀ h', Led h₀ h' ls.news → NamesOk nm h' → Q r ⟨h', g, d, ls.tok + k, os⟩) :
    wpAny (model PR w) A t Q E ⟨h, g, d, ls.tok, os⟩ :=
  goT_sound hK n sc nm t ls h r [] nm ⟨ls.news, ls.tok + k⟩ D N (obs_ok o) e q
/-- a chunk whose end is written out -/
theorem chunkE (hK : ∀ h news, Led h₀ h news → (KF w.params).In h) (n : Nat) (sc : List Nat) (nm nm' : List Addr) (r : α) (ls' : LS) {t : Sem α} {ls : LS} (D : Led h₀ h ls.news) (N : NamesOk nm h)
    (e : (goT ⟨PR, w.params⟩ (KF w.params) n sc nm t ls).2 = some (r, [], nm', ls')) (o : (goT ⟨PR, w.params⟩ (KF w.params) n sc nm t ls).1.map (·.1) = (goT ⟨PR, w.params⟩ (KF w.params) n sc nm t ls).1.map (·.2))
    (q : ∀ h', Led h₀ h' ls'.news → NamesOk nm' h' → Q r ⟨h', g, d, ls'.tok, os⟩) :
    wpAny (model PR w) A t Q E ⟨h, g, d, ls.tok, os⟩ :=
  goT_sound hK n sc nm t ls h r [] nm' ls' D N (obs_ok o) e q
end
end Mine
end
section
open PySem PySem.W PySem.W.X PyProof.Rows PySem.Spec PySem.Calls
namespace Mine
noncomputable def AS : Around := { handled := none, depth := 500, frames := none, guards := none, units := 200 }
/-- a proof around AS serves around anything that lies lower -/
theorem wpAS {α : Type} {M : Model} {A : Around} {t : Sem α} {Q : α → Shared → Prop} {E : Value → Shared → Prop} {s : Shared} (h : wpAny M AS t Q E s) (hh : A.handled = none) (hd : A.depth ≤ 500) (hu : A.units ≤ 200) : wpAny M A t Q E s :=
  fun Γ p hΓ => h Γ p ⟨hΓ.1.trans hh, Nat.le_trans hΓ.2.1 hd, (fun _ e => by cases e), (fun _ e => by cases e), Nat.le_trans hΓ.2.2.2.2 hu⟩
/-- all that stood stands -/
noncomputable def Up (h h' : Heap) : Prop := ∀ b o, h.get? b = some o → h'.get? b = some o
theorem memUp {h₀ h : Heap} {news : List (Addr × Obj)} (D : Mem h₀ h [] news) : Up h₀ h := fun b o e => D.keep b o e (Bool.or_true _)
theorem end_list {s : Shared} {h : Heap} {a : Addr} {vs : Array Value} {e : Nat} {tk : Nat} {P : Array Value} (D : Mem s.heap h [] [(a, { cls := .type "list", dict := none, data := .seq P e, slots := #[] })]) (hp : P = vs) :
    ∃ l h' t' e, Value.ref a = .ref l ∧ (⟨h, s.gens, s.drawn, tk, s.os⟩ : Shared) = ⟨h', s.gens, s.drawn, t', s.os⟩ ∧ Up s.heap h' ∧ h'.get? l = some { cls := .type "list", dict := none, data := .seq vs e, slots := #[] } := by
  subst hp
  exact ⟨_, _, _, _, rfl, rfl, memUp D, D.at 0 _ _ rfl⟩
section
local macro_rules | `(tactic| x_close) => `(tactic| exact end_list (by assumption) rfl)
set_option maxHeartbeats 0 in
theorem x_collect : ∀ (w : World) (s : Shared) (sl : Addr) (so : Tok)
    (_hsl : s.heap.get? sl = some { cls := .type "list", dict := none, data := .seq #[.str "obj" so] 0, slots := #[] })
    (_X : Frag.In (KF w.params) s.heap),
    wpAny (model PySem.Challenge.rw_mr0138_02.prog w) AS (runValue (.builtin "proto.collect" ⟨[.ref sl], []⟩))
      (fun v s' => ∃ l h' t' e, v = .ref l ∧ s' = ⟨h', s.gens, s.drawn, t', s.os⟩ ∧ Up s.heap h' ∧ h'.get? l = some { cls := .type "list", dict := none, data := .seq #[.str "obj" so] e, slots := #[] }) (fun _ _ => False) s := by
  k_fill
  intros
  x_run
end
noncomputable def supO (C : Addr) : Obj := { cls := .type "super", dict := none, data := .fields #[.ref C, .ref C, .ref C], slots := #[] }
theorem end_super {s : Shared} {h : Heap} {a C : Addr} {tk : Nat} (D : Mem s.heap h [] [(a, supO C)]) :
    ∃ l h' t', Value.ref a = .ref l ∧ (⟨h, s.gens, s.drawn, tk, s.os⟩ : Shared) = ⟨h', s.gens, s.drawn, t', s.os⟩ ∧ Up s.heap h' ∧ h'.get? l = some (supO C) ∧ s.heap.get? l = none :=
  ⟨_, _, _, rfl, rfl, memUp D, D.at 0 _ _ rfl, (D.nw _ (List.mem_cons_self ..)).2⟩
section
local macro_rules | `(tactic| x_close) => `(tactic| exact end_super (by assumption))
set_option maxHeartbeats 0 in
theorem x_super : ∀ (w : World) (s : Shared) (C NS bT : Addr) (t1 t2 : Tok)
    (_hC : s.heap.get? C = some { cls := .type "type", dict := none, data := .cls { name := "K", bases := [.type "object"], mro := [.ref C, .type "object"], ns := NS, qualname := "cmp_to_key.<locals>.K", hasDict := false, slotNames := ["obj"] }, slots := #[some (.ref bT), none, some (.str "K" t1), some (.str "cmp_to_key.<locals>.K" t2), some (.builtin "object.__new__"), some (.bool false)] })
    (_X : Frag.In (KF w.params) s.heap),
    wpAny (model PySem.Challenge.rw_mr0138_02.prog w) AS (call (.type "super") [.ref C, .ref C])
      (fun v s' => ∃ l h' t', v = .ref l ∧ s' = ⟨h', s.gens, s.drawn, t', s.os⟩ ∧ Up s.heap h' ∧ h'.get? l = some (supO C) ∧ s.heap.get? l = none) (fun _ _ => False) s := by
  k_fill
  intros
  x_run
end
end Mine
end
section
open PySem PySem.W PySem.W.X PyProof.Rows PySem.Spec PySem.Calls
namespace Mine
noncomputable def fnO (fd : FuncData) : Obj := { cls := .type "function", dict := none, data := .func fd, slots := #[] }
noncomputable def nsEs (q : Nat → Int) (k : Nat → Nat) (pm qn : Str) (ln : Int) (sl fI fL fG fE fLe fGe st : Addr) : Array DictEntry :=
  #[⟨q 0, .str "__module__" (k 0), .str pm (k 20)⟩, ⟨q 1, .str "__qualname__" (k 1), .str qn (k 21)⟩, ⟨q 2, .str "__firstlineno__" (k 2), .int ln (k 22)⟩, ⟨q 3, .str "__slots__" (k 3), .ref sl⟩,
    ⟨q 4, .str "__init__" (k 4), .ref fI⟩, ⟨q 5, .str "__lt__" (k 5), .ref fL⟩, ⟨q 6, .str "__gt__" (k 6), .ref fG⟩, ⟨q 7, .str "__eq__" (k 7), .ref fE⟩, ⟨q 8, .str "__le__" (k 8), .ref fLe⟩, ⟨q 9, .str "__ge__" (k 9), .ref fGe⟩,
    ⟨q 10, .str "__hash__" (k 10), .none⟩, ⟨q 11, .str "__static_attributes__" (k 11), .ref st⟩]
theorem up_trans {a b c : Heap} (x : Up a b) (y : Up b c) : Up a c := fun q o e => y q o (x q o e)
/-- a ledger stands in a heap that keeps all -/
theorem mem_up {h₀ h h' : Heap} {l : List (Addr × Obj)} (D : Led h₀ h l) (u : Up h h') : Led h₀ h' l :=
  { keep := fun b o e => u b o (D.keep b o e), nw := fun p hp => ⟨u _ _ (D.nw p hp).1, (D.nw p hp).2⟩, nd := D.nd }
theorem led_add {h₀ h h' : Heap} {l : List (Addr × Obj)} {S : Addr} {o : Obj} (D : Led h₀ h l) (u : Up h h') (e : h'.get? S = some o) (hn : h.get? S = none) : Led h₀ h' ((S, o) :: l) := by
  refine ⟨fun b o' q => u b o' (D.keep b o' q), fun p hp => ?_, ?_⟩
  · rcases List.mem_cons.mp hp with rfl | hp
    · refine ⟨e, ?_⟩
      cases q : h₀.get? S with
      | none => rfl
      | some o' => rw [D.keep _ _ q] at hn; cases hn
    · exact ⟨u _ _ (D.nw p hp).1, (D.nw p hp).2⟩
  · rw [List.map_cons, List.nodup_cons]
    refine ⟨fun hm => ?_, D.nd⟩
    obtain ⟨p, hp, e'⟩ := List.mem_map.mp hm
    have := (D.nw p hp).1
    rw [e', hn] at this
    cases this
theorem led_tail {h₀ h : Heap} {l : List (Addr × Obj)} {p : Addr × Obj} (D : Led h₀ h (p :: l)) : Led h₀ h l :=
  ⟨D.keep, fun q hq => D.nw q (List.mem_cons_of_mem _ hq), (List.nodup_cons.mp D.nd).2⟩
noncomputable def mdO (C : Addr) (tm : Tok) : Obj := { cls := .type "member_descriptor", data := .fields #[.str "obj" tm, .ref C, .builtin "proto.slot", .builtin "proto.slot#set", .int 0 0] }
noncomputable def clsK (C NS bT : Addr) (t1 t2 : Tok) : Obj := { cls := .type "type", dict := none, data := .cls { name := "K", bases := [.type "object"], mro := [.ref C, .type "object"], ns := NS, qualname := "cmp_to_key.<locals>.K", hasDict := false, slotNames := ["obj"] }, slots := #[some (.ref bT), none, some (.str "K" t1), some (.str "cmp_to_key.<locals>.K" t2), some (.builtin "object.__new__"), some (.bool false)] }
noncomputable def hsK (w : World) (x : Str) : Int := if x.cps.isEmpty = true then 0 else reduceHash (w.params.strHash x.cps)
noncomputable def nsOut (w : World) (q : Nat → Int) (k : Nat → Nat) (pm : Str) (ln : Int) (sl fI fL fG fE fLe fGe st md : Addr) (ta tb : Tok) : Obj := { cls := .type "dict", data := .dict #[⟨q 0, .str "__module__" (k 0), .str pm (k 20)⟩, ⟨q 2, .str "__firstlineno__" (k 2), .int ln (k 22)⟩, ⟨q 3, .str "__slots__" (k 3), .ref sl⟩,
    ⟨q 4, .str "__init__" (k 4), .ref fI⟩, ⟨q 5, .str "__lt__" (k 5), .ref fL⟩, ⟨q 6, .str "__gt__" (k 6), .ref fG⟩, ⟨q 7, .str "__eq__" (k 7), .ref fE⟩, ⟨q 8, .str "__le__" (k 8), .ref fLe⟩, ⟨q 9, .str "__ge__" (k 9), .ref fGe⟩,
    ⟨q 10, .str "__hash__" (k 10), .none⟩, ⟨q 11, .str "__static_attributes__" (k 11), .ref st⟩, ⟨hsK w "obj", .str "obj" ta, .ref md⟩, ⟨hsK w "__doc__", .str "__doc__" tb, .none⟩] 3 }
theorem names_new {w : World} {h : Heap} (n : Nat) (X : (KF w.params).In h) : ∃ v, NamesOk (namesFrom v n) h := by
  have e : (KF w.params).lookup 2 = some { cls := .none, data := .dict #[] 0 } := by kernel_rfl
  have h2 : 2 < h.objs.size := Heap.lt_size (X _ _ e)
  exact ⟨h.objs.size - 2, names_ok (by omega)⟩
theorem names_k {w : World} {h : Heap} {G : Prop} (n : Nat) (X : (KF w.params).In h) (k : ∀ v, NamesOk (namesFrom v n) h → G) : G := let ⟨v, N⟩ := names_new n X; k v N
theorem collect_k {w : World} {A : Around} {s : Shared} {sl : Addr} {so : Tok} {Q E : Value → Shared → Prop} (h1 : s.heap.get? sl = some { cls := .type "list", dict := none, data := .seq #[.str "obj" so] 0, slots := #[] }) (X : (KF w.params).In s.heap) (hA0 : A.handled = none) (hA : A.depth ≤ 500) (hu : A.units ≤ 200)
    (k : ∀ l h' t' e, Up s.heap h' → h'.get? l = some { cls := .type "list", dict := none, data := .seq #[.str "obj" so] e, slots := #[] } → Q (.ref l) ⟨h', s.gens, s.drawn, t', s.os⟩) :
    wpAny (model PR w) A (runValue (.builtin "proto.collect" ⟨[.ref sl], []⟩)) Q E s :=
  wpAny_mono (wpAS (x_collect w s sl so h1 X) hA0 hA hu) (by rintro _ _ ⟨l, h', t', e, rfl, rfl, u, hl⟩; exact k l h' t' e u hl) fun _ _ e => e.elim
theorem super_k {w : World} {A : Around} {s : Shared} {C NS bT : Addr} {t1 t2 : Tok} {Q E : Value → Shared → Prop} (h1 : s.heap.get? C = some (clsK C NS bT t1 t2)) (X : (KF w.params).In s.heap) (hA0 : A.handled = none) (hA : A.depth ≤ 500) (hu : A.units ≤ 200)
    (k : ∀ l h' t', Up s.heap h' → h'.get? l = some (supO C) → s.heap.get? l = none → Q (.ref l) ⟨h', s.gens, s.drawn, t', s.os⟩) :
    wpAny (model PR w) A (call (.type "super") [.ref C, .ref C]) Q E s :=
  wpAny_mono (wpAS (x_super w s C NS bT t1 t2 h1 X) hA0 hA hu) (by rintro _ _ ⟨l, h', t', rfl, rfl, u, hl, hn⟩; exact k l h' t' u hl hn) fun _ _ e => e.elim
end Mine
end
section
open PySem PySem.W PySem.W.X PyProof.Rows PySem.Spec PySem.Calls
namespace Mine
theorem entry_superGet : entryFor table "super.__getattribute__" = some Builtin.«super.__getattribute__» := entryFor_of_tree (by kernel_rfl)
theorem entry_typeNew : entryFor table "type.__new__" = some Builtin.«type.__new__» := entryFor_of_tree (by kernel_rfl)
section
variable (w : World) (A : Around) (h₀ h : Heap) (g : Array GenState) (d : Drawn) (t : Nat) (os : OsState) (v : Nat) (R : Result → Shared → Prop)
  (bT n0 sl fI fL fG fE fLe fGe st : Addr) (q : Nat → Int) (k : Nat → Nat) (tk so : Nat) (dI dL dG dE dLe dGe : FuncData) (sv : Array Value)
noncomputable def led0 : List (Addr × Obj) := [(st, { cls := .type "tuple", data := .seq sv 0 }), (fGe, fnO dGe), (fLe, fnO dLe), (fE, fnO dE), (fG, fnO dG), (fL, fnO dL), (fI, fnO dI),
  (sl, { cls := .type "list", data := .seq #[.str "obj" so] 0 }), (n0 + 2, { cls := .type "dict", data := .dict (nsEs q k "cpy313.functools" "cmp_to_key.<locals>.K" 22 sl fI fL fG fE fLe fGe st) 12 }), (bT, { cls := .type "tuple", data := .seq #[.type "object"] 0 })]
set_option maxHeartbeats 4000000 in
theorem tnew (hK : ∀ h news, Led h₀ h news → (KF w.params).In h) (D : Led h₀ h (led0 bT n0 sl fI fL fG fE fLe fGe st q k so dI dL dG dE dLe dGe sv)) (N : NamesOk (namesFrom v 80) h) (hA0 : A.handled = none) (hA : A.depth ≤ 490) (hu : A.units ≤ 190)
    (hR : ∀ C NS md tm t' h', Led h₀ h' ((md, mdO C tm) :: (C, clsK C NS bT tk (k 21)) :: (NS, nsOut w q k "cpy313.functools" 22 sl fI fL fG fE fLe fGe st md (tm + 1) (tm + 2)) :: led0 bT n0 sl fI fL fG fE fLe fGe st q k so dI dL dG dE dLe dGe sv) → R (.ok (.ret (.ref C))) ⟨h', g, d, t', os⟩) :
    codeAny (model PR w) A (.call (.builtin "type.__new__") ⟨[.type "type", .str "K" tk, .ref bT, .ref (n0 + 2)], []⟩) R ⟨h, g, d, t, os⟩ := by
  refine codeAny_call_builtin (by decide +kernel) entry_typeNew ?_
  refine chunkR hK 100 [] (namesFrom v 80) () (ls := ⟨_, t⟩) D N (by kernel_rfl) (by kernel_rfl) fun h1 D1 N1 => ?_
  refine wpAny_bind (chunkR hK 100 [] (namesFrom v 80) (some (Str.ofString "K")) (ls := ⟨_, t⟩) D1 N1 (by kernel_rfl) (by kernel_rfl) fun h2 D2 N2 => ?_)
  refine wpAny_bind (chunkR hK 100 [1] _ (true) (ls := ⟨_, _⟩) D2 N2 (by kernel_rfl) (by kernel_rfl) fun h20 D20 N20 => ?_)
  refine wifN (of_decide_eq_false (by kernel_rfl)) ?_
  refine wpAny_bind (chunkR hK 100 [2] _ (true) (ls := ⟨_, _⟩) D20 N20 (by kernel_rfl) (by kernel_rfl) fun h21 D21 N21 => ?_)
  refine wifN (of_decide_eq_false (by kernel_rfl)) ?_
  refine wpAny_bind (chunkR hK 100 [1] _ (some { toList := [Value.type "object"] }) (ls := ⟨_, _⟩) D21 N21 (by kernel_rfl) (by kernel_rfl) fun h22 D22 N22 => ?_)
  refine wifN (of_decide_eq_false (by kernel_rfl)) ?_
  refine wpAny_bind (chunkR hK 100 [] _ (PUnit.unit) (ls := ⟨_, _⟩) D22 N22 (by kernel_rfl) (by kernel_rfl) fun h23 D23 N23 => ?_)
  refine wpAny_bind (chunkR hK 100 [] _ (Value.type "type") (ls := ⟨_, _⟩) D23 N23 (by kernel_rfl) (by kernel_rfl) fun h24 D24 N24 => ?_)
  refine wifN (of_decide_eq_false (by kernel_rfl)) ?_
  refine wpAny_bind (chunkR hK 100 [] _ (PUnit.unit) (ls := ⟨_, _⟩) D24 N24 (by kernel_rfl) (by kernel_rfl) fun h25 D25 N25 => ?_)
  refine wpAny_bind (chunkR hK 100 [] _ (Value.type "object") (ls := ⟨_, _⟩) D25 N25 (by kernel_rfl) (by kernel_rfl) fun h26 D26 N26 => ?_)
  refine wifN (of_decide_eq_false (by kernel_rfl)) ?_
  refine wpAny_bind (chunkR hK 100 [2] _ (nsEs q k (Str.ofString "cpy313.functools") (Str.ofString "cmp_to_key.<locals>.K") 22 sl fI fL fG fE fLe fGe st) (ls := ⟨_, _⟩) D26 N26 (by kernel_rfl) (by kernel_rfl) fun h27 D27 N27 => ?_)
  refine wpAny_bind (chunkR hK 100 [2] _ (some (Value.builtin "dict.__iter__")) (ls := ⟨_, _⟩) D27 N27 (by kernel_rfl) (by kernel_rfl) fun h28 D28 N28 => ?_)
  refine wifP (of_decide_eq_true (by kernel_rfl)) ?_
  refine wpAny_bind (chunkR hK 100 [] _ ((nsEs q k (Str.ofString "cpy313.functools") (Str.ofString "cmp_to_key.<locals>.K") 22 sl fI fL fG fE fLe fGe st, [])) (ls := ⟨_, _⟩) D28 N28 (by kernel_rfl) (by kernel_rfl) fun h29 D29 N29 => ?_)
  refine wpAny_bind (wpAny_holding ?_)
  refine wpAny_bind (chunkR hK 100 [] _ (Value.type "object") (ls := ⟨_, _⟩) D29 N29 (by kernel_rfl) (by kernel_rfl) fun h50 D50 N50 => ?_)
  refine wpAny_bind (chunkR hK 100 [] _ ([]) (ls := ⟨_, _⟩) D50 N50 (by kernel_rfl) (by kernel_rfl) fun h51 D51 N51 => ?_)
  refine wpAny_bind (chunkR hK 100 [] _ (false) (ls := ⟨_, _⟩) D51 N51 (by kernel_rfl) (by kernel_rfl) fun h52 D52 N52 => ?_)
  refine wpAny_bind (chunkR hK 100 [] _ (false) (ls := ⟨_, _⟩) D52 N52 (by kernel_rfl) (by kernel_rfl) fun h53 D53 N53 => ?_)
  refine wpAny_bind (chunkR hK 100 [] _ (false) (ls := ⟨_, _⟩) D53 N53 (by kernel_rfl) (by kernel_rfl) fun h54 D54 N54 => ?_)
  refine wpAny_bind (chunkR hK 100 [] _ (PUnit.unit) (ls := ⟨_, _⟩) D54 N54 (by kernel_rfl) (by kernel_rfl) fun h55 D55 N55 => ?_)
  refine wpAny_bind (chunkR hK 100 [3] _ (none) (ls := ⟨_, _⟩) D55 N55 (by kernel_rfl) (by kernel_rfl) fun h56 D56 N56 => ?_)
  refine wifN (of_decide_eq_false (by kernel_rfl)) ?_
  refine wpAny_bind ?_
  show wpAny _ _ (collect (.ref sl)) _ _ _
  refine wpAny_bind (collect_k (D56.at 7 _ _ rfl) (hK _ _ D56) hA0 (Nat.le_trans hA (by decide)) (Nat.le_trans (Nat.add_le_add_right hu 1) (by decide)) fun l1 h57 t57 e57 u57 hl57 => ?_)
  have D57 := mem_up D56 u57
  refine names_k (w := w) 60 (hK _ _ D57) fun v N57 => ?_
  show wpAny _ _ (load l1 >>= _) _ _ _
  refine wpAny_bind (wpAny_load hl57 ?_)
  refine wpAny_pure ?_
  refine wifP (of_decide_eq_true (by kernel_rfl)) ?_
  refine wpAny_bind (chunkR hK 100 [] _ (false) (ls := ⟨_, _⟩) D57 N57 (by kernel_rfl) (by kernel_rfl) fun h60 D60 N60 => ?_)
  refine wifN (of_decide_eq_false (by kernel_rfl)) ?_
  refine wpAny_bind (chunkR hK 100 [] _ ((false, false, { toList := [Str.ofString "obj"] }, [])) (ls := ⟨_, _⟩) D60 N60 (by kernel_rfl) (by kernel_rfl) fun h61 D61 N61 => ?_)
  refine wpAny_bind (chunkR hK 100 [] _ (([Str.ofString "obj"], 3)) (ls := ⟨_, _⟩) D61 N61 (by kernel_rfl) (by kernel_rfl) fun h62 D62 N62 => ?_)
  refine wpAny_bind (chunkR hK 100 [] _ ((false, false)) (ls := ⟨_, _⟩) D62 N62 (by kernel_rfl) (by kernel_rfl) fun h63 D63 N63 => ?_)
  refine wpAny_pure ?_
  refine wpAny_bind (chunkE hK 100 [] _ ((namesFrom v 60).drop 1) (Value.ref (v + 2)) ⟨(v + 2, { cls := Value.type "dict", data := Data.dict (nsEs q k (Str.ofString "cpy313.functools") (Str.ofString "cmp_to_key.<locals>.K") 22 sl fI fL fG fE fLe fGe st) 0 }) :: led0 bT n0 sl fI fL fG fE fLe fGe st q k so dI dL dG dE dLe dGe sv, t57⟩ (ls := ⟨_, _⟩) D63 N63 (by kernel_rfl) (by kernel_rfl) fun h64 D64 N64 => ?_)
  refine wifN (of_decide_eq_false (by kernel_rfl)) ?_
  refine wpAny_bind (chunkR hK 100 [] _ (PUnit.unit) (ls := ⟨_, _⟩) D64 N64 (by kernel_rfl) (by kernel_rfl) fun h65 D65 N65 => ?_)
  refine wifN (of_decide_eq_false (by kernel_rfl)) ?_
  refine wpAny_bind (chunkR hK 100 [11] _ (some (Value.str (Str.ofString "cmp_to_key.<locals>.K") (k 21))) (ls := ⟨_, _⟩) D65 N65 (by kernel_rfl) (by kernel_rfl) fun h66 D66 N66 => ?_)
  refine wpAny_bind (chunkR hK 100 [11] _ (some (Value.str (Str.ofString "cmp_to_key.<locals>.K") (k 21))) (ls := ⟨_, _⟩) D66 N66 (by kernel_rfl) (by kernel_rfl) fun h67 D67 N67 => ?_)
  refine wpAny_bind (chunkR hK 100 [] _ (some (Str.ofString "cmp_to_key.<locals>.K")) (ls := ⟨_, _⟩) D67 N67 (by kernel_rfl) (by kernel_rfl) fun h68 D68 N68 => ?_)
  refine wpAny_bind (chunkR hK 100 [] _ (Str.ofString "cmp_to_key.<locals>.K") (ls := ⟨_, _⟩) D68 N68 (by kernel_rfl) (by kernel_rfl) fun h69 D69 N69 => ?_)
  refine wpAny_bind (chunkR hK 100 [11] _ (none) (ls := ⟨_, _⟩) D69 N69 (by kernel_rfl) (by kernel_rfl) fun h70 D70 N70 => ?_)
  refine wpAny_bind (chunkE hK 100 [] _ ((namesFrom v 60).drop 2) (v + 3) ⟨(v + 3, { cls := Value.type "type", data := Data.cls { name := Str.ofString "K", bases := [Value.type "object"], mro := [], ns := v + 2, qualname := Str.ofString "cmp_to_key.<locals>.K" } }) :: (v + 2, { cls := Value.type "dict", data := Data.dict (nsEs q k (Str.ofString "cpy313.functools") (Str.ofString "cmp_to_key.<locals>.K") 22 sl fI fL fG fE fLe fGe st) 0 }) :: led0 bT n0 sl fI fL fG fE fLe fGe st q k so dI dL dG dE dLe dGe sv, t57⟩ (ls := ⟨_, _⟩) D70 N70 (by kernel_rfl) (by kernel_rfl) fun h71 D71 N71 => ?_)
  refine wifP (of_decide_eq_true (by kernel_rfl)) ?_
  refine wpAny_bind (chunkE hK 100 [12] _ ((namesFrom v 60).drop 2) (PUnit.unit) ⟨(v + 3, { cls := Value.type "type", data := Data.cls { name := Str.ofString "K", bases := [Value.type "object"], mro := [], ns := v + 2, qualname := Str.ofString "cmp_to_key.<locals>.K" }, slots := { toList := [some (Value.ref bT)] } }) :: (v + 2, { cls := Value.type "dict", data := Data.dict (nsEs q k (Str.ofString "cpy313.functools") (Str.ofString "cmp_to_key.<locals>.K") 22 sl fI fL fG fE fLe fGe st) 0 }) :: led0 bT n0 sl fI fL fG fE fLe fGe st q k so dI dL dG dE dLe dGe sv, t57⟩ (ls := ⟨_, _⟩) D71 N71 (by kernel_rfl) (by kernel_rfl) fun h72 D72 N72 => ?_)
  refine wpAny_bind (chunkE hK 100 [12] _ ((namesFrom v 60).drop 2) (PUnit.unit) ⟨(v + 3, { cls := Value.type "type", data := Data.cls { name := Str.ofString "K", bases := [Value.type "object"], mro := [], ns := v + 2, qualname := Str.ofString "cmp_to_key.<locals>.K" }, slots := { toList := [some (Value.ref bT), none, some (Value.str (Str.ofString "K") tk)] } }) :: (v + 2, { cls := Value.type "dict", data := Data.dict (nsEs q k (Str.ofString "cpy313.functools") (Str.ofString "cmp_to_key.<locals>.K") 22 sl fI fL fG fE fLe fGe st) 0 }) :: led0 bT n0 sl fI fL fG fE fLe fGe st q k so dI dL dG dE dLe dGe sv, t57⟩ (ls := ⟨_, _⟩) D72 N72 (by kernel_rfl) (by kernel_rfl) fun h73 D73 N73 => ?_)
  refine wpAny_bind (chunkE hK 100 [12] _ ((namesFrom v 60).drop 2) (PUnit.unit) ⟨(v + 3, { cls := Value.type "type", data := Data.cls { name := Str.ofString "K", bases := [Value.type "object"], mro := [], ns := v + 2, qualname := Str.ofString "cmp_to_key.<locals>.K" }, slots := { toList := [some (Value.ref bT), none, some (Value.str (Str.ofString "K") tk), some (Value.str (Str.ofString "cmp_to_key.<locals>.K") (k 21))] } }) :: (v + 2, { cls := Value.type "dict", data := Data.dict (nsEs q k (Str.ofString "cpy313.functools") (Str.ofString "cmp_to_key.<locals>.K") 22 sl fI fL fG fE fLe fGe st) 0 }) :: led0 bT n0 sl fI fL fG fE fLe fGe st q k so dI dL dG dE dLe dGe sv, t57⟩ (ls := ⟨_, _⟩) D73 N73 (by kernel_rfl) (by kernel_rfl) fun h74 D74 N74 => ?_)
  refine wpAny_bind (chunkE hK 100 [11, 11] _ ((namesFrom v 60).drop 2) (true) ⟨(v + 3, { cls := Value.type "type", data := Data.cls { name := Str.ofString "K", bases := [Value.type "object"], mro := [], ns := v + 2, qualname := Str.ofString "cmp_to_key.<locals>.K" }, slots := { toList := [some (Value.ref bT), none, some (Value.str (Str.ofString "K") tk), some (Value.str (Str.ofString "cmp_to_key.<locals>.K") (k 21))] } }) :: (v + 2, { cls := Value.type "dict", data := Data.dict { toList := [{ hash := q 0, key := Value.str (Str.ofString "__module__") (k 0), val := Value.str (Str.ofString "cpy313.functools") (k 20) }, { hash := q 2, key := Value.str (Str.ofString "__firstlineno__") (k 2), val := Value.int 22 (k 22) }, { hash := q 3, key := Value.str (Str.ofString "__slots__") (k 3), val := Value.ref sl }, { hash := q 4, key := Value.str (Str.ofString "__init__") (k 4), val := Value.ref fI }, { hash := q 5, key := Value.str (Str.ofString "__lt__") (k 5), val := Value.ref fL }, { hash := q 6, key := Value.str (Str.ofString "__gt__") (k 6), val := Value.ref fG }, { hash := q 7, key := Value.str (Str.ofString "__eq__") (k 7), val := Value.ref fE }, { hash := q 8, key := Value.str (Str.ofString "__le__") (k 8), val := Value.ref fLe }, { hash := q 9, key := Value.str (Str.ofString "__ge__") (k 9), val := Value.ref fGe }, { hash := q 10, key := Value.str (Str.ofString "__hash__") (k 10), val := Value.none }, { hash := q 11, key := Value.str (Str.ofString "__static_attributes__") (k 11), val := Value.ref st }] } 1 }) :: led0 bT n0 sl fI fL fG fE fLe fGe st q k so dI dL dG dE dLe dGe sv, t57⟩ (ls := ⟨_, _⟩) D74 N74 (by kernel_rfl) (by kernel_rfl) fun h75 D75 N75 => ?_)
  refine wpAny_bind (chunkR hK 100 [11] _ (none) (ls := ⟨_, _⟩) D75 N75 (by kernel_rfl) (by kernel_rfl) fun h76 D76 N76 => ?_)
  refine wpAny_bind (chunkR hK 100 [11, 11] _ (PUnit.unit) (ls := ⟨_, _⟩) D76 N76 (by kernel_rfl) (by kernel_rfl) fun h77 D77 N77 => ?_)
  refine wpAny_bind (chunkR hK 100 [11] _ (none) (ls := ⟨_, _⟩) D77 N77 (by kernel_rfl) (by kernel_rfl) fun h78 D78 N78 => ?_)
  refine wpAny_bind (chunkR hK 100 [11] _ (none) (ls := ⟨_, _⟩) D78 N78 (by kernel_rfl) (by kernel_rfl) fun h79 D79 N79 => ?_)
  refine wpAny_bind (chunkR hK 100 [] _ (none) (ls := ⟨_, _⟩) D79 N79 (by kernel_rfl) (by kernel_rfl) fun h80 D80 N80 => ?_)
  refine wpAny_bind (chunkR hK 100 [] _ ([Value.type "object"]) (ls := ⟨_, _⟩) D80 N80 (by kernel_rfl) (by kernel_rfl) fun h81 D81 N81 => ?_)
  refine wpAny_bind (chunkR hK 100 [] _ ([Value.ref (v + 3), Value.type "object"]) (ls := ⟨_, _⟩) D81 N81 (by kernel_rfl) (by kernel_rfl) fun h82 D82 N82 => ?_)
  have e83 : List.filter (fun x => x != Value.ref (v + 3)) [Value.ref (v + 3), Value.type "object"] = [.type "object"] := by simp
  refine wpAny_bind ?_
  rw [e83]
  refine chunkR hK 100 [] _ false (ls := ⟨_, _⟩) D82 N82 (by kernel_rfl) (by kernel_rfl) fun h83 D83 N83 => ?_
  refine wpAny_bind (chunkE hK 100 [12, 12, 12] _ ((namesFrom v 60).drop 2) (PUnit.unit) ⟨(v + 3, { cls := Value.type "type", data := Data.cls { name := Str.ofString "K", bases := [Value.type "object"], mro := [Value.ref (v + 3), Value.type "object"], ns := v + 2, qualname := Str.ofString "cmp_to_key.<locals>.K" }, slots := { toList := [some (Value.ref bT), none, some (Value.str (Str.ofString "K") tk), some (Value.str (Str.ofString "cmp_to_key.<locals>.K") (k 21))] } }) :: (v + 2, { cls := Value.type "dict", data := Data.dict { toList := [{ hash := q 0, key := Value.str (Str.ofString "__module__") (k 0), val := Value.str (Str.ofString "cpy313.functools") (k 20) }, { hash := q 2, key := Value.str (Str.ofString "__firstlineno__") (k 2), val := Value.int 22 (k 22) }, { hash := q 3, key := Value.str (Str.ofString "__slots__") (k 3), val := Value.ref sl }, { hash := q 4, key := Value.str (Str.ofString "__init__") (k 4), val := Value.ref fI }, { hash := q 5, key := Value.str (Str.ofString "__lt__") (k 5), val := Value.ref fL }, { hash := q 6, key := Value.str (Str.ofString "__gt__") (k 6), val := Value.ref fG }, { hash := q 7, key := Value.str (Str.ofString "__eq__") (k 7), val := Value.ref fE }, { hash := q 8, key := Value.str (Str.ofString "__le__") (k 8), val := Value.ref fLe }, { hash := q 9, key := Value.str (Str.ofString "__ge__") (k 9), val := Value.ref fGe }, { hash := q 10, key := Value.str (Str.ofString "__hash__") (k 10), val := Value.none }, { hash := q 11, key := Value.str (Str.ofString "__static_attributes__") (k 11), val := Value.ref st }] } 1 }) :: led0 bT n0 sl fI fL fG fE fLe fGe st q k so dI dL dG dE dLe dGe sv, t57⟩ (ls := ⟨_, _⟩) D83 N83 (by kernel_rfl) (by kernel_rfl) fun h90 D90 N90 => ?_)
  refine wpAny_bind (chunkR hK 100 [] _ (some "object.__new__") (ls := ⟨_, _⟩) D90 N90 (by kernel_rfl) (by kernel_rfl) fun h91 D91 N91 => ?_)
  refine wpAny_bind (chunkE hK 100 [12] _ ((namesFrom v 60).drop 2) (PUnit.unit) ⟨(v + 3, { cls := Value.type "type", data := Data.cls { name := Str.ofString "K", bases := [Value.type "object"], mro := [Value.ref (v + 3), Value.type "object"], ns := v + 2, qualname := Str.ofString "cmp_to_key.<locals>.K" }, slots := { toList := [some (Value.ref bT), none, some (Value.str (Str.ofString "K") tk), some (Value.str (Str.ofString "cmp_to_key.<locals>.K") (k 21)), some (Value.builtin "object.__new__")] } }) :: (v + 2, { cls := Value.type "dict", data := Data.dict { toList := [{ hash := q 0, key := Value.str (Str.ofString "__module__") (k 0), val := Value.str (Str.ofString "cpy313.functools") (k 20) }, { hash := q 2, key := Value.str (Str.ofString "__firstlineno__") (k 2), val := Value.int 22 (k 22) }, { hash := q 3, key := Value.str (Str.ofString "__slots__") (k 3), val := Value.ref sl }, { hash := q 4, key := Value.str (Str.ofString "__init__") (k 4), val := Value.ref fI }, { hash := q 5, key := Value.str (Str.ofString "__lt__") (k 5), val := Value.ref fL }, { hash := q 6, key := Value.str (Str.ofString "__gt__") (k 6), val := Value.ref fG }, { hash := q 7, key := Value.str (Str.ofString "__eq__") (k 7), val := Value.ref fE }, { hash := q 8, key := Value.str (Str.ofString "__le__") (k 8), val := Value.ref fLe }, { hash := q 9, key := Value.str (Str.ofString "__ge__") (k 9), val := Value.ref fGe }, { hash := q 10, key := Value.str (Str.ofString "__hash__") (k 10), val := Value.none }, { hash := q 11, key := Value.str (Str.ofString "__static_attributes__") (k 11), val := Value.ref st }] } 1 }) :: led0 bT n0 sl fI fL fG fE fLe fGe st q k so dI dL dG dE dLe dGe sv, t57⟩ (ls := ⟨_, _⟩) D91 N91 (by kernel_rfl) (by kernel_rfl) fun h92 D92 N92 => ?_)
  refine wpAny_bind (chunkR hK 100 [12, 12, 12, 11] _ (PUnit.unit) (ls := ⟨_, _⟩) D92 N92 (by kernel_rfl) (by kernel_rfl) fun h93 D93 N93 => ?_)
  refine wpAny_bind (chunkE hK 100 [11, 11, 11, 11, 12, 12, 12] _ ((namesFrom v 60).drop 3) (PUnit.unit) ⟨(v + 4, { cls := Value.type "member_descriptor", data := Data.fields { toList := [Value.str (Str.ofString "obj") t57, Value.ref (v + 3), Value.builtin "proto.slot", Value.builtin "proto.slot#set", Value.int 0 0] } }) :: (v + 3, { cls := Value.type "type", data := Data.cls { name := Str.ofString "K", bases := [Value.type "object"], mro := [Value.ref (v + 3), Value.type "object"], ns := v + 2, qualname := Str.ofString "cmp_to_key.<locals>.K", hasDict := false, slotNames := [Str.ofString "obj"] }, slots := { toList := [some (Value.ref bT), none, some (Value.str (Str.ofString "K") tk), some (Value.str (Str.ofString "cmp_to_key.<locals>.K") (k 21)), some (Value.builtin "object.__new__")] } }) :: (v + 2, { cls := Value.type "dict", data := Data.dict { toList := [{ hash := q 0, key := Value.str (Str.ofString "__module__") (k 0), val := Value.str (Str.ofString "cpy313.functools") (k 20) }, { hash := q 2, key := Value.str (Str.ofString "__firstlineno__") (k 2), val := Value.int 22 (k 22) }, { hash := q 3, key := Value.str (Str.ofString "__slots__") (k 3), val := Value.ref sl }, { hash := q 4, key := Value.str (Str.ofString "__init__") (k 4), val := Value.ref fI }, { hash := q 5, key := Value.str (Str.ofString "__lt__") (k 5), val := Value.ref fL }, { hash := q 6, key := Value.str (Str.ofString "__gt__") (k 6), val := Value.ref fG }, { hash := q 7, key := Value.str (Str.ofString "__eq__") (k 7), val := Value.ref fE }, { hash := q 8, key := Value.str (Str.ofString "__le__") (k 8), val := Value.ref fLe }, { hash := q 9, key := Value.str (Str.ofString "__ge__") (k 9), val := Value.ref fGe }, { hash := q 10, key := Value.str (Str.ofString "__hash__") (k 10), val := Value.none }, { hash := q 11, key := Value.str (Str.ofString "__static_attributes__") (k 11), val := Value.ref st }, { hash := if (Str.ofString "obj").cps.isEmpty = true then 0 else reduceHash (w.params.strHash (Str.ofString "obj").cps), key := Value.str (Str.ofString "obj") (t57 + 1), val := Value.ref (v + 4) }] } 2 }) :: led0 bT n0 sl fI fL fG fE fLe fGe st q k so dI dL dG dE dLe dGe sv, t57 + 2⟩ (ls := ⟨_, _⟩) D93 N93 (by kernel_rfl) (by kernel_rfl) fun h94 D94 N94 => ?_)
  refine wpAny_bind (chunkR hK 100 [] _ (false) (ls := ⟨_, _⟩) D94 N94 (by kernel_rfl) (by kernel_rfl) fun h95 D95 N95 => ?_)
  refine wpAny_bind (chunkE hK 100 [12] _ ((namesFrom v 60).drop 3) (PUnit.unit) ⟨(v + 4, { cls := Value.type "member_descriptor", data := Data.fields { toList := [Value.str (Str.ofString "obj") t57, Value.ref (v + 3), Value.builtin "proto.slot", Value.builtin "proto.slot#set", Value.int 0 0] } }) :: (v + 3, { cls := Value.type "type", data := Data.cls { name := Str.ofString "K", bases := [Value.type "object"], mro := [Value.ref (v + 3), Value.type "object"], ns := v + 2, qualname := Str.ofString "cmp_to_key.<locals>.K", hasDict := false, slotNames := [Str.ofString "obj"] }, slots := { toList := [some (Value.ref bT), none, some (Value.str (Str.ofString "K") tk), some (Value.str (Str.ofString "cmp_to_key.<locals>.K") (k 21)), some (Value.builtin "object.__new__"), some (Value.bool false)] } }) :: (v + 2, { cls := Value.type "dict", data := Data.dict { toList := [{ hash := q 0, key := Value.str (Str.ofString "__module__") (k 0), val := Value.str (Str.ofString "cpy313.functools") (k 20) }, { hash := q 2, key := Value.str (Str.ofString "__firstlineno__") (k 2), val := Value.int 22 (k 22) }, { hash := q 3, key := Value.str (Str.ofString "__slots__") (k 3), val := Value.ref sl }, { hash := q 4, key := Value.str (Str.ofString "__init__") (k 4), val := Value.ref fI }, { hash := q 5, key := Value.str (Str.ofString "__lt__") (k 5), val := Value.ref fL }, { hash := q 6, key := Value.str (Str.ofString "__gt__") (k 6), val := Value.ref fG }, { hash := q 7, key := Value.str (Str.ofString "__eq__") (k 7), val := Value.ref fE }, { hash := q 8, key := Value.str (Str.ofString "__le__") (k 8), val := Value.ref fLe }, { hash := q 9, key := Value.str (Str.ofString "__ge__") (k 9), val := Value.ref fGe }, { hash := q 10, key := Value.str (Str.ofString "__hash__") (k 10), val := Value.none }, { hash := q 11, key := Value.str (Str.ofString "__static_attributes__") (k 11), val := Value.ref st }, { hash := if (Str.ofString "obj").cps.isEmpty = true then 0 else reduceHash (w.params.strHash (Str.ofString "obj").cps), key := Value.str (Str.ofString "obj") (t57 + 1), val := Value.ref (v + 4) }] } 2 }) :: led0 bT n0 sl fI fL fG fE fLe fGe st q k so dI dL dG dE dLe dGe sv, t57 + 2⟩ (ls := ⟨_, _⟩) D95 N95 (by kernel_rfl) (by kernel_rfl) fun h96 D96 N96 => ?_)
  refine wifN (of_decide_eq_false (by kernel_rfl)) ?_
  refine wifN (of_decide_eq_false (by kernel_rfl)) ?_
  refine wpAny_bind (chunkR hK 100 [11] _ (none) (ls := ⟨_, _⟩) D96 N96 (by kernel_rfl) (by kernel_rfl) fun h97 D97 N97 => ?_)
  refine wifP (of_decide_eq_true (by kernel_rfl)) ?_
  refine wpAny_bind (chunkE hK 100 [11, 11] _ ((namesFrom v 60).drop 3) (PUnit.unit) ⟨(v + 4, { cls := Value.type "member_descriptor", data := Data.fields { toList := [Value.str (Str.ofString "obj") t57, Value.ref (v + 3), Value.builtin "proto.slot", Value.builtin "proto.slot#set", Value.int 0 0] } }) :: (v + 3, { cls := Value.type "type", data := Data.cls { name := Str.ofString "K", bases := [Value.type "object"], mro := [Value.ref (v + 3), Value.type "object"], ns := v + 2, qualname := Str.ofString "cmp_to_key.<locals>.K", hasDict := false, slotNames := [Str.ofString "obj"] }, slots := { toList := [some (Value.ref bT), none, some (Value.str (Str.ofString "K") tk), some (Value.str (Str.ofString "cmp_to_key.<locals>.K") (k 21)), some (Value.builtin "object.__new__"), some (Value.bool false)] } }) :: (v + 2, { cls := Value.type "dict", data := Data.dict { toList := [{ hash := q 0, key := Value.str (Str.ofString "__module__") (k 0), val := Value.str (Str.ofString "cpy313.functools") (k 20) }, { hash := q 2, key := Value.str (Str.ofString "__firstlineno__") (k 2), val := Value.int 22 (k 22) }, { hash := q 3, key := Value.str (Str.ofString "__slots__") (k 3), val := Value.ref sl }, { hash := q 4, key := Value.str (Str.ofString "__init__") (k 4), val := Value.ref fI }, { hash := q 5, key := Value.str (Str.ofString "__lt__") (k 5), val := Value.ref fL }, { hash := q 6, key := Value.str (Str.ofString "__gt__") (k 6), val := Value.ref fG }, { hash := q 7, key := Value.str (Str.ofString "__eq__") (k 7), val := Value.ref fE }, { hash := q 8, key := Value.str (Str.ofString "__le__") (k 8), val := Value.ref fLe }, { hash := q 9, key := Value.str (Str.ofString "__ge__") (k 9), val := Value.ref fGe }, { hash := q 10, key := Value.str (Str.ofString "__hash__") (k 10), val := Value.none }, { hash := q 11, key := Value.str (Str.ofString "__static_attributes__") (k 11), val := Value.ref st }, { hash := if (Str.ofString "obj").cps.isEmpty = true then 0 else reduceHash (w.params.strHash (Str.ofString "obj").cps), key := Value.str (Str.ofString "obj") (t57 + 1), val := Value.ref (v + 4) }, { hash := if (Str.ofString "__doc__").cps.isEmpty = true then 0 else reduceHash (w.params.strHash (Str.ofString "__doc__").cps), key := Value.str (Str.ofString "__doc__") (t57 + 2), val := Value.none }] } 3 }) :: led0 bT n0 sl fI fL fG fE fLe fGe st q k so dI dL dG dE dLe dGe sv, t57 + 3⟩ (ls := ⟨_, _⟩) D97 N97 (by kernel_rfl) (by kernel_rfl) fun h98 D98 N98 => ?_)
  refine wpAny_bind (chunkR hK 100 [11] _ (some (Value.ref fE)) (ls := ⟨_, _⟩) D98 N98 (by kernel_rfl) (by kernel_rfl) fun h99 D99 N99 => ?_)
  refine wifP (of_decide_eq_true (by kernel_rfl)) ?_
  refine wpAny_bind (chunkR hK 100 [11] _ (some Value.none) (ls := ⟨_, _⟩) D99 N99 (by kernel_rfl) (by kernel_rfl) fun h100 D100 N100 => ?_)
  refine wifN (of_decide_eq_false (by kernel_rfl)) ?_
  refine wpAny_bind (chunkR hK 100 [] _ (PUnit.unit) (ls := ⟨_, _⟩) D100 N100 (by kernel_rfl) (by kernel_rfl) fun h101 D101 N101 => ?_)
  refine wpAny_bind (wpAny_tryCatch ?_)
  refine wpAny_holding ?_
  refine wpAny_bind (chunkR hK 100 [11] _ ({ toList := [{ hash := q 0, key := Value.str (Str.ofString "__module__") (k 0), val := Value.str (Str.ofString "cpy313.functools") (k 20) }, { hash := q 2, key := Value.str (Str.ofString "__firstlineno__") (k 2), val := Value.int 22 (k 22) }, { hash := q 3, key := Value.str (Str.ofString "__slots__") (k 3), val := Value.ref sl }, { hash := q 4, key := Value.str (Str.ofString "__init__") (k 4), val := Value.ref fI }, { hash := q 5, key := Value.str (Str.ofString "__lt__") (k 5), val := Value.ref fL }, { hash := q 6, key := Value.str (Str.ofString "__gt__") (k 6), val := Value.ref fG }, { hash := q 7, key := Value.str (Str.ofString "__eq__") (k 7), val := Value.ref fE }, { hash := q 8, key := Value.str (Str.ofString "__le__") (k 8), val := Value.ref fLe }, { hash := q 9, key := Value.str (Str.ofString "__ge__") (k 9), val := Value.ref fGe }, { hash := q 10, key := Value.str (Str.ofString "__hash__") (k 10), val := Value.none }, { hash := q 11, key := Value.str (Str.ofString "__static_attributes__") (k 11), val := Value.ref st }, { hash := if (Str.ofString "obj").cps.isEmpty = true then 0 else reduceHash (w.params.strHash (Str.ofString "obj").cps), key := Value.str (Str.ofString "obj") (t57 + 1), val := Value.ref (v + 4) }, { hash := if (Str.ofString "__doc__").cps.isEmpty = true then 0 else reduceHash (w.params.strHash (Str.ofString "__doc__").cps), key := Value.str (Str.ofString "__doc__") (t57 + 2), val := Value.none }] }) (ls := ⟨_, _⟩) D101 N101 (by kernel_rfl) (by kernel_rfl) fun h110 D110 N110 => ?_)
  refine wpAny_bind (chunkR hK 100 [] _ (false) (ls := ⟨_, _⟩) D110 N110 (by kernel_rfl) (by kernel_rfl) fun h111 D111 N111 => ?_)
  refine wifN (of_decide_eq_false (by kernel_rfl)) ?_
  refine wpAny_bind (chunkR hK 100 [11] _ ({ toList := [{ hash := q 0, key := Value.str (Str.ofString "__module__") (k 0), val := Value.str (Str.ofString "cpy313.functools") (k 20) }, { hash := q 2, key := Value.str (Str.ofString "__firstlineno__") (k 2), val := Value.int 22 (k 22) }, { hash := q 3, key := Value.str (Str.ofString "__slots__") (k 3), val := Value.ref sl }, { hash := q 4, key := Value.str (Str.ofString "__init__") (k 4), val := Value.ref fI }, { hash := q 5, key := Value.str (Str.ofString "__lt__") (k 5), val := Value.ref fL }, { hash := q 6, key := Value.str (Str.ofString "__gt__") (k 6), val := Value.ref fG }, { hash := q 7, key := Value.str (Str.ofString "__eq__") (k 7), val := Value.ref fE }, { hash := q 8, key := Value.str (Str.ofString "__le__") (k 8), val := Value.ref fLe }, { hash := q 9, key := Value.str (Str.ofString "__ge__") (k 9), val := Value.ref fGe }, { hash := q 10, key := Value.str (Str.ofString "__hash__") (k 10), val := Value.none }, { hash := q 11, key := Value.str (Str.ofString "__static_attributes__") (k 11), val := Value.ref st }, { hash := if (Str.ofString "obj").cps.isEmpty = true then 0 else reduceHash (w.params.strHash (Str.ofString "obj").cps), key := Value.str (Str.ofString "obj") (t57 + 1), val := Value.ref (v + 4) }, { hash := if (Str.ofString "__doc__").cps.isEmpty = true then 0 else reduceHash (w.params.strHash (Str.ofString "__doc__").cps), key := Value.str (Str.ofString "__doc__") (t57 + 2), val := Value.none }] }) (ls := ⟨_, _⟩) D111 N111 (by kernel_rfl) (by kernel_rfl) fun h112 D112 N112 => ?_)
  refine wpAny_bind (chunkR hK 100 [3, 4, 5, 6, 7, 8, 9, 10, 13] _ (PUnit.unit) (ls := ⟨_, _⟩) D112 N112 (by kernel_rfl) (by kernel_rfl) fun h113 D113 N113 => ?_)
  refine wpAny_bind (super_k (D113.at 1 _ _ rfl) (hK _ _ D113) hA0 (Nat.le_trans hA (by decide)) (Nat.le_trans (Nat.add_le_add_right hu 1) (by decide)) fun S h114 t114 u114 hS hSn => ?_)
  have D114 := led_add D113 u114 hS hSn
  refine names_k (w := w) 60 (hK _ _ D114) fun v2 N114 => ?_
  refine wpAny_bind (wpAny_holding ?_)
  refine wpAny_bind (chunkT hK 100 1 [] _ (Value.str (Str.ofString "__init_subclass__") t114) (ls := ⟨_, _⟩) D114 N114 (by kernel_rfl) (by kernel_rfl) fun h120 D120 N120 => ?_)
  refine wpAny_holding ?_
  refine wpAny_bind (chunkR hK 100 [14] _ (Value.type "super") (ls := ⟨_, _⟩) D120 N120 (by kernel_rfl) (by kernel_rfl) fun h121 D121 N121 => ?_)
  refine wpAny_bind (chunkR hK 100 [] _ (some (Value.builtin "super.__getattribute__")) (ls := ⟨_, _⟩) D121 N121 (by kernel_rfl) (by kernel_rfl) fun h122 D122 N122 => ?_)
  refine wifN (of_decide_eq_false (by kernel_rfl)) ?_
  refine wpAny_bind (chunkR hK 100 [] _ (none) (ls := ⟨_, _⟩) D122 N122 (by kernel_rfl) (by kernel_rfl) fun h123 D123 N123 => ?_)
  refine wpAny_bind (wpAny_attempt ?_)
  refine wpAny_holding ?_
  refine wifN (of_decide_eq_false (by kernel_rfl)) ?_
  refine wpAny_bind (chunkR hK 100 [] _ ((Value.builtin "super.__getattribute__", [Value.ref S])) (ls := ⟨_, _⟩) D123 N123 (by kernel_rfl) (by kernel_rfl) fun h124 D124 N124 => ?_)
  refine wpAny_call (codeAny_call_builtin (by decide +kernel) entry_superGet ?_)
  refine chunkR hK 100 [14] _ () (ls := ⟨_, _⟩) D124 N124 (by kernel_rfl) (by kernel_rfl) fun h125 D125 N125 => ?_
  refine wpAny_bind (chunkR hK 100 [] _ (some (Str.ofString "__init_subclass__")) (ls := ⟨_, _⟩) D125 N125 (by kernel_rfl) (by kernel_rfl) fun h130 D130 N130 => ?_)
  refine wifN (of_decide_eq_false (by kernel_rfl)) ?_
  refine wpAny_bind (chunkR hK 100 [] _ (some (Str.ofString "__init_subclass__")) (ls := ⟨_, _⟩) D130 N130 (by kernel_rfl) (by kernel_rfl) fun h131 D131 N131 => ?_)
  refine wpAny_bind (chunkR hK 100 [14] _ (Value.ref (v + 3)) (ls := ⟨_, _⟩) D131 N131 (by kernel_rfl) (by kernel_rfl) fun h132 D132 N132 => ?_)
  refine wpAny_bind (chunkR hK 100 [14] _ (Value.ref (v + 3)) (ls := ⟨_, _⟩) D132 N132 (by kernel_rfl) (by kernel_rfl) fun h133 D133 N133 => ?_)
  refine wpAny_bind (chunkR hK 100 [14] _ (Value.ref (v + 3)) (ls := ⟨_, _⟩) D133 N133 (by kernel_rfl) (by kernel_rfl) fun h134 D134 N134 => ?_)
  refine wifN (of_decide_eq_false (by kernel_rfl)) ?_
  refine wpAny_bind (chunkR hK 100 [0] _ (PUnit.unit) (ls := ⟨_, _⟩) D134 N134 (by kernel_rfl) (by kernel_rfl) fun h135 D135 N135 => ?_)
  refine wifN (of_decide_eq_false (by kernel_rfl)) ?_
  refine wpAny_bind (chunkR hK 100 [12] _ ([Value.ref (v + 3), Value.type "object"]) (ls := ⟨_, _⟩) D135 N135 (by kernel_rfl) (by kernel_rfl) fun h136 D136 N136 => ?_)
  have e1 : List.drop 1 (List.dropWhile (fun x => x != Value.ref (v + 3)) [Value.ref (v + 3), Value.type "object"]) = [.type "object"] := by simp
  have e2 : (Value.ref (v + 3) == Value.ref (v + 3)) = true := by simp
  rw [e1]
  simp only [e2, if_true]
  refine wpAny_bind (chunkE hK 400 [12, 12] _ ((namesFrom v2 60).drop 1) ((some (Fin.done (Flow.ret (Value.ref (v2 + 2)))), PUnit.unit)) ⟨(v2 + 2, { cls := Value.type "builtin_function_or_method", data := Data.fields { toList := [Value.builtin "object.__init_subclass__", Value.ref (v + 3)] } }) :: (S, { cls := Value.type "super", data := Data.fields { toList := [Value.ref (v + 3), Value.ref (v + 3), Value.ref (v + 3)] } }) :: (v + 4, { cls := Value.type "member_descriptor", data := Data.fields { toList := [Value.str (Str.ofString "obj") t57, Value.ref (v + 3), Value.builtin "proto.slot", Value.builtin "proto.slot#set", Value.int 0 0] } }) :: (v + 3, { cls := Value.type "type", data := Data.cls { name := Str.ofString "K", bases := [Value.type "object"], mro := [Value.ref (v + 3), Value.type "object"], ns := v + 2, qualname := Str.ofString "cmp_to_key.<locals>.K", hasDict := false, slotNames := [Str.ofString "obj"] }, slots := { toList := [some (Value.ref bT), none, some (Value.str (Str.ofString "K") tk), some (Value.str (Str.ofString "cmp_to_key.<locals>.K") (k 21)), some (Value.builtin "object.__new__"), some (Value.bool false)] } }) :: (v + 2, { cls := Value.type "dict", data := Data.dict { toList := [{ hash := q 0, key := Value.str (Str.ofString "__module__") (k 0), val := Value.str (Str.ofString "cpy313.functools") (k 20) }, { hash := q 2, key := Value.str (Str.ofString "__firstlineno__") (k 2), val := Value.int 22 (k 22) }, { hash := q 3, key := Value.str (Str.ofString "__slots__") (k 3), val := Value.ref sl }, { hash := q 4, key := Value.str (Str.ofString "__init__") (k 4), val := Value.ref fI }, { hash := q 5, key := Value.str (Str.ofString "__lt__") (k 5), val := Value.ref fL }, { hash := q 6, key := Value.str (Str.ofString "__gt__") (k 6), val := Value.ref fG }, { hash := q 7, key := Value.str (Str.ofString "__eq__") (k 7), val := Value.ref fE }, { hash := q 8, key := Value.str (Str.ofString "__le__") (k 8), val := Value.ref fLe }, { hash := q 9, key := Value.str (Str.ofString "__ge__") (k 9), val := Value.ref fGe }, { hash := q 10, key := Value.str (Str.ofString "__hash__") (k 10), val := Value.none }, { hash := q 11, key := Value.str (Str.ofString "__static_attributes__") (k 11), val := Value.ref st }, { hash := if (Str.ofString "obj").cps.isEmpty = true then 0 else reduceHash (w.params.strHash (Str.ofString "obj").cps), key := Value.str (Str.ofString "obj") (t57 + 1), val := Value.ref (v + 4) }, { hash := if (Str.ofString "__doc__").cps.isEmpty = true then 0 else reduceHash (w.params.strHash (Str.ofString "__doc__").cps), key := Value.str (Str.ofString "__doc__") (t57 + 2), val := Value.none }] } 3 }) :: led0 bT n0 sl fI fL fG fE fLe fGe st q k so dI dL dG dE dLe dGe sv, t114 + 1⟩ (ls := ⟨_, _⟩) D136 N136 (by kernel_rfl) (by kernel_rfl) fun h150 D150 N150 => ?_)
  refine wpAny_pure ?_
  show wpAny _ _ _ _ _ _
  refine wpAny_pure ?_
  refine wpAny_bind (chunkR hK 400 [15, 12, 12, 12, 12] _ (Value.none) (ls := ⟨_, _⟩) D150 N150 (by kernel_rfl) (by kernel_rfl) fun h151 D151 N151 => ?_)
  refine wpAny_pure ?_
  refine wpAny_pure ?_
  exact hR (v + 3) (v + 2) (v + 4) t57 _ _ (led_tail (led_tail D151))
end
end Mine
end
section
open PySem PySem.W PySem.W.X PyProof.Rows PySem.Spec PySem.Calls
namespace Mine
section
variable (w : World) (A : Around) (h₀ h : Heap) (g : Array GenState) (d : Drawn) (t : Nat) (os : OsState) (v : Nat) (Q : Value → Shared → Prop) (E : Value → Shared → Prop)
  (bT n0 sl fI fL fG fE fLe fGe st : Addr) (q : Nat → Int) (k : Nat → Nat) (tk so : Nat) (dI dL dG dE dLe dGe : FuncData) (sv : Array Value)
set_option maxHeartbeats 4000000 in
theorem tcall (hK : ∀ h news, Led h₀ h news → (KF w.params).In h) (D : Led h₀ h (led0 bT n0 sl fI fL fG fE fLe fGe st q k so dI dL dG dE dLe dGe sv)) (N : NamesOk (namesFrom v 80) h) (hA0 : A.handled = none) (hA : A.depth ≤ 480) (hu : A.units ≤ 180)
    (hQ : ∀ C NS md tm t' h', Led h₀ h' ((md, mdO C tm) :: (C, clsK C NS bT tk (k 21)) :: (NS, nsOut w q k "cpy313.functools" 22 sl fI fL fG fE fLe fGe st md (tm + 1) (tm + 2)) :: led0 bT n0 sl fI fL fG fE fLe fGe st q k so dI dL dG dE dLe dGe sv) → Q (.ref C) ⟨h', g, d, t', os⟩) :
    wpAny (model PR w) A (call (.type "type") [.str "K" tk, .ref bT, .ref (n0 + 2)]) Q E ⟨h, g, d, t, os⟩ := by
  refine wpAny_call (codeAny_of_tree ?_)
  show wpAny _ _ (callAny (.type "type") _) _ _ _
  refine wpAny_pure ⟨Code.quiet_builtin _ (by decide +kernel), codeAny_builtin F.entry_type_call ?_⟩
  rw [Around.under_plain (weight_type_call_type "type" _ []) (units_type_call_type "type" _ [])]
  unfold Builtin.«type.__call__»
  dsimp only
  refine wifP (of_decide_eq_true (by kernel_rfl)) ?_
  refine wifN (of_decide_eq_false (by kernel_rfl)) ?_
  refine wifN (of_decide_eq_false (by kernel_rfl)) ?_
  refine wifN (of_decide_eq_false (by kernel_rfl)) ?_
  refine wpAny_bind (chunkR hK 100 [] _ (PUnit.unit) (ls := ⟨_, _⟩) D N (by kernel_rfl) (by kernel_rfl) fun h20 D20 N20 => ?_)
  refine wpAny_bind (chunkR hK 100 [] _ ([Value.type "type", Value.type "object"]) (ls := ⟨_, _⟩) D20 N20 (by kernel_rfl) (by kernel_rfl) fun h21 D21 N21 => ?_)
  refine wifN (of_decide_eq_false (by kernel_rfl)) ?_
  refine wpAny_bind (chunkR hK 100 [] _ (some "type.__new__") (ls := ⟨_, _⟩) D21 N21 (by kernel_rfl) (by kernel_rfl) fun h22 D22 N22 => ?_)
  refine wpAny_bind (chunkR hK 100 [] _ (Value.builtin "type.__new__") (ls := ⟨_, _⟩) D22 N22 (by kernel_rfl) (by kernel_rfl) fun h23 D23 N23 => ?_)
  refine wpAny_bind (wpAny_holding (wpAny_call (tnew w A.in1 h₀ h23 g d t os v _ bT n0 sl fI fL fG fE fLe fGe st q k tk so dI dL dG dE dLe dGe sv hK D23 N23 hA0 (Nat.le_trans hA (by decide)) (Nat.le_trans (Nat.add_le_add_right hu 1) (by decide)) fun C NS md tm t1 h30 D30 => ?_)))
  obtain ⟨v2, N30⟩ := names_new (w := w) 60 (hK _ _ D30)
  show wpAny _ _ _ _ _ _
  refine wpAny_bind (chunkR hK 100 [12] _ (true) (ls := ⟨_, _⟩) D30 N30 (by kernel_rfl) (by kernel_rfl) fun h40 D40 N40 => ?_)
  refine wifN (of_decide_eq_false (by kernel_rfl)) ?_
  refine wpAny_bind (chunkR hK 400 [12, 12] _ (some Value.none) (ls := ⟨_, _⟩) D40 N40 (by kernel_rfl) (by kernel_rfl) fun h41 D41 N41 => ?_)
  refine wifN (of_decide_eq_false (by kernel_rfl)) ?_
  refine wpAny_pure ?_
  exact hQ C NS md tm _ _ D41
end
end Mine
end
section
open PySem PySem.W PySem.W.X PyProof.Rows PySem.Spec PySem.Calls
namespace Mine
theorem lookup_high {a : Addr} : ∀ {l : Frag}, (l.all fun p => Nat.blt p.1 84) = true → 84 ≤ a → l.lookup a = none
  | [], _, _ => rfl
  | (b, o) :: l, h, ha => by
    rw [List.all_cons, Bool.and_eq_true] at h
    have hb : b < 84 := Nat.le_of_ble_eq_true h.1
    have hne : (a == b) = false := by
      cases q : a == b with
      | false => rfl
      | true =>
        have e := eq_of_beq q
        subst e
        exact absurd hb (Nat.not_lt.mpr ha)
    rw [List.lookup_cons, hne]
    exact lookup_high h.2 ha
theorem KF_high (P : Params) {a : Addr} (ha : 84 ≤ a) : (KF P).lookup a = none := lookup_high (by kernel_rfl) ha
theorem led_of {h : Heap} {l : List (Addr × Obj)} (hl : ∀ p ∈ l, h.get? p.1 = some p.2) (nd : (l.map (·.1)).Nodup) : Led (hideAll h (l.map (·.1))) h l :=
  ⟨fun _ _ e => of_hideAll _ e, fun p hp => ⟨hl p hp, hideAll_none _ (List.mem_map_of_mem hp)⟩, nd⟩
theorem base_K {w : World} {h : Heap} {ks : List Addr} (X : (KF w.params).In h) (hk : ∀ a ∈ ks, 84 ≤ a) : ∀ h' news, Led (hideAll h ks) h' news → (KF w.params).In h' := fun h' news D a o e =>
  D.keep a o (hideAll_get ks (X a o e) fun hm => by rw [KF_high _ (hk a hm)] at e; cases e)
/-- a ledger's end in a heap that had it: all is kept but what the ledger turned -/
theorem up_of {h h' : Heap} {l l' : List (Addr × Obj)} (hl : ∀ p ∈ l, h.get? p.1 = some p.2) (D : Led (hideAll h (l.map (·.1))) h' l') (hs : ∀ p ∈ l, p ∈ l') : Up h h' := fun b o e => by
  by_cases q : b ∈ l.map (·.1)
  · obtain ⟨p, hp, rfl⟩ := List.mem_map.mp q
    have : p.2 = o := by have := hl p hp; rw [e] at this; exact (Option.some.inj this).symm
    exact this ▸ (D.nw p (hs p hp)).1
  · exact D.keep b o (hideAll_get _ e q)
theorem new_of {h h' : Heap} {ks : List Addr} {l' : List (Addr × Obj)} {a : Addr} {o : Obj} (D : Led (hideAll h ks) h' l') (hm : (a, o) ∈ l') (hn : a ∉ ks) : h.get? a = none := by
  cases q : h.get? a with
  | none => rfl
  | some o' => have := (D.nw _ hm).2; rw [hideAll_get ks q hn] at this; cases this
section
variable (w : World) (A : Around) (h : Heap) (g : Array GenState) (d : Drawn) (t : Nat) (os : OsState) (Q : Value → Shared → Prop) (E : Value → Shared → Prop)
  (bT n0 sl fI fL fG fE fLe fGe st : Addr) (q : Nat → Int) (k : Nat → Nat) (tk so : Nat) (dI dL dG dE dLe dGe : FuncData) (sv : Array Value)
theorem tcall_up (X : (KF w.params).In h) (hl : ∀ p ∈ led0 bT n0 sl fI fL fG fE fLe fGe st q k so dI dL dG dE dLe dGe sv, h.get? p.1 = some p.2) (nd : ((led0 bT n0 sl fI fL fG fE fLe fGe st q k so dI dL dG dE dLe dGe sv).map (·.1)).Nodup)
    (hi : ∀ a ∈ (led0 bT n0 sl fI fL fG fE fLe fGe st q k so dI dL dG dE dLe dGe sv).map (·.1), 84 ≤ a) (hA0 : A.handled = none) (hA : A.depth ≤ 480) (hu : A.units ≤ 180)
    (hQ : ∀ C NS md tm t' h', Up h h' → h.get? C = none → h.get? NS = none → h.get? md = none → C ≠ NS → C ≠ md → NS ≠ md → h'.get? md = some (mdO C tm) → h'.get? C = some (clsK C NS bT tk (k 21)) →
      h'.get? NS = some (nsOut w q k "cpy313.functools" 22 sl fI fL fG fE fLe fGe st md (tm + 1) (tm + 2)) → Q (.ref C) ⟨h', g, d, t', os⟩) :
    wpAny (model PR w) A (call (.type "type") [.str "K" tk, .ref bT, .ref (n0 + 2)]) Q E ⟨h, g, d, t, os⟩ := by
  obtain ⟨v, N⟩ := names_new (w := w) 80 X
  refine tcall w A _ h g d t os v Q E bT n0 sl fI fL fG fE fLe fGe st q k tk so dI dL dG dE dLe dGe sv (base_K X hi) (led_of hl nd) N hA0 hA hu fun C NS md tm t' h' D' => ?_
  have n1 := D'.nd
  simp only [List.map_cons, List.nodup_cons, List.mem_cons, not_or] at n1
  obtain ⟨⟨a1, a2, a3⟩, ⟨b1, b2⟩, c1, _⟩ := n1
  exact hQ C NS md tm t' h' (up_of hl D' fun p hp => .tail _ (.tail _ (.tail _ hp))) (new_of D' (.tail _ (.head _)) b2) (new_of D' (.tail _ (.tail _ (.head _))) c1) (new_of D' (.head _) a3) b1 (Ne.symm a1) (Ne.symm a2)
    (D'.at 0 _ _ rfl) (D'.at 1 _ _ rfl) (D'.at 2 _ _ rfl)
end
end Mine
end
section
open PySem PySem.W PySem.W.X PyProof.Rows PySem.Spec PySem.Calls
namespace Mine
/-- cmp_to_key's body -/
noncomputable def ckBody : List Stmt := match (PySem.Challenge.rw_mr0138_02.prog.main.body.drop 5).head? with
  | some (Stmt.FunctionDef _ _ b _ _ _ _ _ _ _) => b
  | _ => []
noncomputable def ckScope : Scope := match (PySem.Challenge.rw_mr0138_02.prog.main.body.drop 5).head? with
  | some (Stmt.FunctionDef _ _ _ _ _ _ sc _ _ _) => sc
  | _ => default
noncomputable def stK : Stmt := ckBody.headD (.Pass ⟨0, 0, 0, 0⟩)
noncomputable def kBases : List Expr := match stK with | .ClassDef _ b _ _ _ _ _ _ _ _ _ => b | _ => []
noncomputable def kBody : List Stmt := match stK with | .ClassDef _ _ _ b _ _ _ _ _ _ _ => b | _ => []
noncomputable def kScope : Scope := match stK with | .ClassDef _ _ _ _ _ _ sc _ _ _ _ => sc | _ => default
noncomputable def kPos : Pos := match stK with | .ClassDef _ _ _ _ _ _ _ _ _ _ p => p | _ => default
theorem stK_eq : stK = .ClassDef "K" kBases [] kBody [] [] kScope none "K" [Str.ofString "obj"] kPos := by kernel_rfl
noncomputable def kEnv (L cell : Addr) : Env := { scope := ckScope, locals := L, globals := mainGlobals, cells := [(Str.ofString "mycmp", cell)], qual := Str.ofString "cmp_to_key" ++ Str.ofString ".<locals>.", func := some 48, code := .ref 47, frame := some L, builtins := builtinsNs }
noncomputable def objPos : Pos := match kBases with | [.Name _ p] => p | _ => default
theorem kBases_eq : kBases = [.Name "object" objPos] := by kernel_rfl
theorem bases_obj {M : Model} {A : Around} {E : Value → Shared → Prop} {s : Shared} {L c : Addr} {Q : Args → Shared → Prop} (O : NameObj s.heap) (h : Q ⟨[.type "object"], []⟩ s) :
    wpAny M A (evalArgs (.builtin "__build_class__") false (backTo kPos (starEach kBases (kEnv L c))) (backToKw kPos (keywordEach [] (kEnv L c)))) Q E s := by
  obtain ⟨mg, mb, h1, h2, h3, h4, _⟩ := O.out
  rw [kBases_eq]
  unfold evalArgs
  refine wpAny_bind (spliced_more (e := .Name "object" objPos) (rest := []) (env := kEnv L c) (pos := kPos) ?_)
  refine Calls.Name_function_global (by rfl) (by rfl) (Calls.loadGlobal_builtin (env := kEnv L c) h1 h2 h3 h4 ?_) (by decide)
  refine spliced_none ?_
  refine wpAny_bind (wpAny_pure ?_)
  refine wpAny_holding ?_
  rw [if_pos (by rfl)]
  refine wpAny_bind (evalAll_nil ?_)
  refine wpAny_bind (wpAny_pure ?_)
  exact wpAny_pure h
theorem guard_obj {M : Model} {A : Around} {E : Value → Shared → Prop} {s : Shared} {L c : Addr} {Q : Unit → Shared → Prop} (O : NameObj s.heap) (h : Q () s) : wpAny M A (buildClassGuard (kEnv L c)) Q E s := by
  obtain ⟨mg, mb, _, _, h3, _, h5⟩ := O.out
  unfold buildClassGuard
  refine wpAny_bind (wpAny_nsGet (m := mb) h3 ?_)
  rw [h5]
  exact wpAny_pure h
/-- the i-th statement of K's body as a function's data -/
noncomputable def fnK (i : Nat) (cl : List (Str × Addr)) (cd : Addr) (ct : Value) : FuncData := match (kBody.drop i).head? with
  | some (Stmt.FunctionDef name args body _ _ _ scope _ _ _) => { name := name, qualname := Str.ofString "cmp_to_key.<locals>.K." ++ name, params := args, body := .stmts body, scope := scope, globals := mainGlobals, closure := cl, defaults := .none, kwdefaults := .none, doc := .none, pyModule := .str "law_mr0138_02" 247, annotations := none, code := .ref cd, closureTuple := ct, builtins := builtinsNs }
  | _ => default
noncomputable def kNames : List Str := ["__module__", "__qualname__", "__firstlineno__", "__slots__", "__init__", "__lt__", "__gt__", "__eq__", "__le__", "__ge__", "__hash__", "__static_attributes__"]
noncomputable def kq (w : World) (i : Nat) : Int := hsK w (kNames.getD i "")
noncomputable def kk1 (t : Nat) (i : Nat) : Nat := t + [8, 10, 12, 16, 24, 33, 42, 51, 60, 69, 70, 72, 0, 0, 0, 0, 0, 0, 0, 0, 13, 9, 11].getD i 0
/-- a code object of one of K's functions -/
noncomputable def codeF (nm : Str) (ln : Int) (a r : Nat → Nat) (n : Int) : Obj := { cls := .type "code", data := .fields #[.str nm (a 0), .str (Str.ofString "cmp_to_key.<locals>.K." ++ nm) (a 1), .str "/claim/cut.py" (a 2), .int ln 0, .int 2 0, .int 0 0, .int 0 0, .int 19 0, .ref (r 8), .bool true, .int 181 0, .ref (r 11), .none, .ref (r 13), .ref (r 14), .ref (r 15), .int n 0, .int ln 0, .str "/claim/cut.py" (a 18)] }
/-- the code object of K's body -/
noncomputable def codeC (a r : Nat → Nat) (n : Int) : Obj := { cls := .type "code", data := .fields #[.str "K" (a 0), .str "cmp_to_key.<locals>.K" (a 1), .str "/claim/cut.py" (a 2), .int 22 0, .int 0 0, .int 0 0, .int 0 0, .int 0 0, .ref (r 8), .bool true, .int 181 0, .ref (r 11), .none, .none, .none, .none, .int n 0, .int 22 0, .str "/claim/cut.py" (a 18)] }
noncomputable def cellO (f : Addr) : Obj := { cls := .type "cell", data := .cell (some (.ref f)) }
/-- the class K as it stands behind cmp_to_key(f) -/
noncomputable def KMade (w : World) (h : Heap) (C f : Addr) : Prop := ∃ NS md bT sl fI fL fG fE fLe fGe st cell cI cL ctL, ∃ (k a1 r1 a2 r2 : Nat → Nat) (n1 n2 : Int) (t1 t2 tm ta tb : Nat),
  h.get? C = some (clsK C NS bT t1 t2) ∧ h.get? NS = some (nsOut w (kq w) k "cpy313.functools" 22 sl fI fL fG fE fLe fGe st md ta tb) ∧ h.get? md = some (mdO C tm) ∧
  h.get? fI = some (fnO (fnK 2 [] cI .none)) ∧ h.get? fL = some (fnO (fnK 3 [(Str.ofString "mycmp", cell)] cL ctL)) ∧ h.get? cell = some (cellO f) ∧
  h.get? cI = some (codeF "__init__" 26 a1 r1 n1) ∧ h.get? cL = some (codeF "__lt__" 29 a2 r2 n2)
/-- the codes that the first call of cmp_to_key has made -/
noncomputable def KCodes (h : Heap) : Prop := ∃ (cK PK : Addr) (c : Nat → Addr) (a r : Nat → Nat → Nat) (n : Nat → Int), (84 ≤ cK ∧ 84 ≤ PK ∧ ∀ i, i < 6 → 84 ≤ c i) ∧ [cK, PK, c 0, c 1, c 2, c 3, c 4, c 5].Nodup ∧ r 6 11 = PK ∧
  h.get? 43 = some (tabObj #[.int 22 0, .int 4 0, .ref cK]) ∧ h.get? cK = some (codeC (a 6) (r 6) (n 6)) ∧
  h.get? PK = some (tabObj #[.int 26 0, .int 8 0, .ref (c 0), .int 29 0, .int 8 0, .ref (c 1), .int 32 0, .int 8 0, .ref (c 2), .int 35 0, .int 8 0, .ref (c 3), .int 38 0, .int 8 0, .ref (c 4), .int 41 0, .int 8 0, .ref (c 5)]) ∧
  h.get? (c 0) = some (codeF "__init__" 26 (a 0) (r 0) (n 0)) ∧ h.get? (c 1) = some (codeF "__lt__" 29 (a 1) (r 1) (n 1)) ∧ h.get? (c 2) = some (codeF "__gt__" 32 (a 2) (r 2) (n 2)) ∧
  h.get? (c 3) = some (codeF "__eq__" 35 (a 3) (r 3) (n 3)) ∧ h.get? (c 4) = some (codeF "__le__" 38 (a 4) (r 4) (n 4)) ∧ h.get? (c 5) = some (codeF "__ge__" 41 (a 5) (r 5) (n 5))
/-- the class K, its objects told by R -/
noncomputable def KMadeR (w : World) (R : Addr → Obj → Prop) (C f : Addr) : Prop := ∃ NS md bT sl fI fL fG fE fLe fGe st cell cI cL ctL, ∃ (k a1 r1 a2 r2 : Nat → Nat) (n1 n2 : Int) (t1 t2 tm ta tb : Nat),
  R C (clsK C NS bT t1 t2) ∧ R NS (nsOut w (kq w) k "cpy313.functools" 22 sl fI fL fG fE fLe fGe st md ta tb) ∧ R md (mdO C tm) ∧
  R fI (fnO (fnK 2 [] cI .none)) ∧ R fL (fnO (fnK 3 [(Str.ofString "mycmp", cell)] cL ctL)) ∧ R cell (cellO f) ∧
  R cI (codeF "__init__" 26 a1 r1 n1) ∧ R cL (codeF "__lt__" 29 a2 r2 n2)
/-- the codes, told by R -/
noncomputable def KCodesR (R : Addr → Obj → Prop) : Prop := ∃ (cK PK : Addr) (c : Nat → Addr) (a r : Nat → Nat → Nat) (n : Nat → Int), (84 ≤ cK ∧ 84 ≤ PK ∧ ∀ i, i < 6 → 84 ≤ c i) ∧ [cK, PK, c 0, c 1, c 2, c 3, c 4, c 5].Nodup ∧ r 6 11 = PK ∧
  R 43 (tabObj #[.int 22 0, .int 4 0, .ref cK]) ∧ R cK (codeC (a 6) (r 6) (n 6)) ∧
  R PK (tabObj #[.int 26 0, .int 8 0, .ref (c 0), .int 29 0, .int 8 0, .ref (c 1), .int 32 0, .int 8 0, .ref (c 2), .int 35 0, .int 8 0, .ref (c 3), .int 38 0, .int 8 0, .ref (c 4), .int 41 0, .int 8 0, .ref (c 5)]) ∧
  R (c 0) (codeF "__init__" 26 (a 0) (r 0) (n 0)) ∧ R (c 1) (codeF "__lt__" 29 (a 1) (r 1) (n 1)) ∧ R (c 2) (codeF "__gt__" 32 (a 2) (r 2) (n 2)) ∧
  R (c 3) (codeF "__eq__" 35 (a 3) (r 3) (n 3)) ∧ R (c 4) (codeF "__le__" 38 (a 4) (r 4) (n 4)) ∧ R (c 5) (codeF "__ge__" 41 (a 5) (r 5) (n 5))
/-- what the first call of cmp_to_key leaves, as ledgers: kl the class' own objects, tl the codes and tables -/
structure LKey (w : World) (h h' : Heap) (C f : Addr) (kl tl : List (Addr × Obj)) : Prop where
  kf : ∀ p ∈ kl, h'.get? p.1 = some p.2 ∧ h.get? p.1 = none
  tf : ∀ p ∈ tl, h'.get? p.1 = some p.2 ∧ (p.1 = 43 ∨ h.get? p.1 = none)
  made : KMadeR w (fun a o => (a, o) ∈ kl ++ tl) C f
  codes : KCodesR fun a o => (a, o) ∈ tl
noncomputable def aF (t x e i : Nat) : Nat := t + (x + (if i = 18 then e else i))
noncomputable def rF (v y i : Nat) : Nat := v + (y + (if i = 8 then 0 else if i = 11 then 1 else i - 11))
noncomputable def aS (t i : Nat) : Nat → Nat := if i = 6 then aF t 2 5 else if i = 0 then aF t 17 6 else aF t (16 + 9 * i) 7
noncomputable def rS (v i : Nat) : Nat → Nat := if i = 6 then rF v 7 else rF v (12 + 8 * i)
noncomputable def nS (t i : Nat) : Int := Int.ofNat (t + (if i = 6 then 6 else if i = 0 then 22 else 22 + 9 * i))
theorem pick {h₀ h : Heap} {l : List (Addr × Obj)} (D : Led h₀ h l) (l' : List (Addr × Obj)) (idx : List Nat) (e : idx.map (fun i => l[i]?) = l'.map some) : ∀ p ∈ l', h.get? p.1 = some p.2 := fun p hp => by
  have : some p ∈ l'.map some := List.mem_map_of_mem hp
  rw [← e] at this
  obtain ⟨i, _, hi⟩ := List.mem_map.mp this
  exact D.at i p.1 p.2 hi
noncomputable def fdOf (o : Obj) : FuncData := match o.data with | .func fd => fd | _ => default
noncomputable def ckObj (P : Params) : Obj := ((KF P).lookup 48).getD default
theorem ck_f1 (P : Params) : (KF P).lookup 48 = some (ckObj P) := by kernel_rfl
theorem ck_f2 (P : Params) : (ckObj P).data = .func (fdOf (ckObj P)) := by kernel_rfl
theorem ck_f3 (P : Params) : (fdOf (ckObj P)).scope.isCoroutine = false := by kernel_rfl
theorem ck_f4 (P : Params) : (fdOf (ckObj P)).scope.isGenerator = false := by kernel_rfl
theorem ck_f5 (P : Params) : (fdOf (ckObj P)).body = .stmts ckBody := by kernel_rfl
theorem ck_f6 (P : Params) : codeIn (KF P) (fdOf (ckObj P)).code (fdOf (ckObj P)).qualname = true := by kernel_rfl
theorem ck_f7 (P : Params) (f : Addr) : bindArgs (fdOf (ckObj P)) ⟨[.ref f], []⟩ = pure [(Str.ofString "mycmp", .ref f)] := by kernel_rfl
theorem nameObj_led {h h' : Heap} {ks : List Addr} {n : List (Addr × Obj)} (O : NameObj h) (D : Led (hideAll h ks) h' n) (k : mainGlobals ∉ ks ∧ builtinsNs ∉ ks) : NameObj h' := by
  obtain ⟨mg, mb, h1, h2, h3, h4, h5⟩ := O.out
  exact ⟨mg, mb, ns_at h1 fun o e => D.keep _ _ (hideAll_get ks e k.1), h2, ns_at h3 fun o e => D.keep _ _ (hideAll_get ks e k.2), h4, h5⟩
set_option maxHeartbeats 4000000 in
theorem ck_call (w : World) (A : Around) (h : Heap) (g : Array GenState) (d : Drawn) (t : Nat) (os : OsState) (f : Addr) (R : Result → Shared → Prop)
    (X : (KF w.params).In h) (O : NameObj h) (h43 : h.get? 43 = some (tabObj #[])) (hA0 : A.handled = none) (hA : A.depth ≤ 460) (hu : A.units ≤ 160)
    (hR : ∀ C t' h', (∀ b o, b ≠ 43 → h.get? b = some o → h'.get? b = some o) → (∃ kl tl, LKey w h h' C f kl tl) → R (.ok (.ret (.ref C))) ⟨h', g, d, t', os⟩) :
    codeAny (model PR w) A (.call (.ref 48) ⟨[.ref f], []⟩) R ⟨h, g, d, t, os⟩ := by
  have K43 : (KF w.params).lookup 43 = none := by kernel_rfl
  have hK : ∀ h' news, Led (hideAll h [43]) h' news → (KF w.params).In h' := fun h' news D a o e => D.keep a o (hideAll_get [43] (X a o e) fun hm => by
    have e43 := List.mem_singleton.mp hm
    subst e43
    rw [K43] at e; cases e)
  have D : Led (hideAll h [43]) h [(43, tabObj #[])] := led_of (h := h) (l := [(43, tabObj #[])]) (fun p hp => by rw [List.mem_singleton.mp hp]; exact h43) (by simp)
  obtain ⟨v, N⟩ := names_new (w := w) 80 X
  have hv : 82 ≤ v := by
    have h83 : (KF w.params).lookup 83 = some (((KF w.params).lookup 83).getD default) := by kernel_rfl
    have z : 83 < h.objs.size := Heap.lt_size ((hK _ _ D) 83 _ h83)
    have z2 : v + 2 + 0 = h.objs.size + 0 := N 0 _ rfl
    omega
  have c1 : (⟨h, g, d, t, os⟩ : Shared).heap.get? 48 = some (ckObj w.params) := (hK _ _ D) 48 (ckObj w.params) (ck_f1 w.params)
  have c2 : h.CodeRec (fdOf (ckObj w.params)).code (fdOf (ckObj w.params)).qualname := codeRec_of (hK _ _ D) (ck_f6 w.params)
  have c3 : A.depth < recursionLimit := Nat.lt_of_le_of_lt hA (by decide)
  refine codeAny_call_function (prog := PR) (w := w) (a := 48) (args := ⟨[.ref f], []⟩) (o := ckObj w.params) (fd := fdOf (ckObj w.params)) (body := ckBody) c3 c1 (ck_f2 w.params) (ck_f3 w.params) (ck_f4 w.params) (ck_f5 w.params) c2 ?_
  with_reducible refine wpAny_of_eq (ck_f7 w.params f) ?_
  with_reducible refine chunkE hK 100 [3, 3] _ ((namesFrom v 80).drop 2) (kEnv (v + 2) (v + 3)) ⟨[(v + 3, { cls := .type "cell", data := .cell (some (.ref f)) }), (v + 2, { cls := .type "frame", data := .dict #[] }), (43, tabObj #[])], t⟩ (ls := ⟨_, _⟩) D N (by kernel_rfl) (by kernel_rfl) fun h2 D2 N2 => ?_
  refine ⟨noLimit (hK _ _ D2), codeAny_func ?_⟩
  refine wpAny_bind ?_
  show wpAny _ _ (exec stK (kEnv (v + 2) (v + 3))) _ _ _
  rw [stK_eq, arm_exec_ClassDef]
  refine wpAny_bind (chunkR hK 100 [] _ ([]) (ls := ⟨_, t⟩) D2 N2 (by kernel_rfl) (by kernel_rfl) fun h101 D101 N101 => ?_)
  refine wpAny_bind (wpAny_standAt ?_)
  refine wpAny_bind (guard_obj (nameObj_led O D101 (by decide)) ?_)
  refine wpAny_bind (wpAny_holding ?_)
  refine wpAny_bind (bases_obj (nameObj_led O D101 (by decide)) ?_)
  refine wpAny_bind (wpAny_standAt ?_)
  refine wpAny_holding ?_
  unfold buildClass
  refine wpAny_bind (chunk hK 100 [] _ ((namesFrom v 80).drop 3) (.ref (v + 2 + 2)) D101 N101 (by kernel_rfl) (by kernel_rfl) fun h104 D104 N104 => ?_)
  refine wpAny_bind (chunkR hK 100 [] _ (([.type "object"], false)) D104 N104 (by kernel_rfl) (by kernel_rfl) fun h105 D105 N105 => ?_)
  dsimp only [List.lookup]
  refine wpAny_bind (chunkR hK 100 [] _ ((.type "type")) D105 N105 (by kernel_rfl) (by kernel_rfl) fun h106 D106 N106 => ?_)
  refine wpAny_bind (chunkR hK 100 [] _ (true) D106 N106 (by kernel_rfl) (by kernel_rfl) fun h107 D107 N107 => ?_)
  rw [if_pos rfl]
  refine wpAny_bind (chunkR hK 100 [] _ ((.type "type")) D107 N107 (by kernel_rfl) (by kernel_rfl) fun h108 D108 N108 => ?_)
  refine wpAny_bind (chunk hK 100 [] _ ((namesFrom v 80).drop 3) (.str "K" t) D108 N108 (by kernel_rfl) (by kernel_rfl) fun h109 D109 N109 => ?_)
  rw [if_neg (by decide)]
  refine wpAny_bind (chunkR hK 100 [] _ ((.ref (v + 2 + 2))) D109 N109 (by kernel_rfl) (by kernel_rfl) fun h110 D110 N110 => ?_)
  refine wpAny_holding ?_
  refine wpAny_bind (chunk hK 100 [] _ ((namesFrom v 80).drop 4) (some (.ref (v + 2 + 3))) D110 N110 (by kernel_rfl) (by kernel_rfl) fun h111 D111 N111 => ?_)
  dsimp only
  refine wpAny_bind (chunk hK 100 [5] _ ((namesFrom v 80).drop 5) (.ref (v + 2 + 4)) D111 N111 (by kernel_rfl) (by kernel_rfl) fun h112 D112 N112 => ?_)
  dsimp only
  refine wpAny_bind (chunkR hK 100 [] _ (()) D112 N112 (by kernel_rfl) (by kernel_rfl) fun h113 D113 N113 => ?_)
  refine wpAny_bind (chunkR hK 100 [6] _ ((some (.builtin "dict.__getitem__"))) D113 N113 (by kernel_rfl) (by kernel_rfl) fun h114 D114 N114 => ?_)
  rw [if_neg (by decide)]
  refine wpAny_holding ?_
  rw [if_neg (by decide)]
  refine recast D114 [(v + 2 + 4, { cls := .type "dict", data := .dict #[] 0 }), (v + 2 + 3, { cls := .type "builtin_function_or_method", data := .fields #[.builtin "type.__prepare__", .type "type"] }), (v + 2 + 2, { cls := .type "tuple", data := .seq #[.type "object"] 0 }), (v + 3, { cls := .type "cell", data := .cell (some (.ref f)) }), (v + 2, { cls := .type "frame", data := .dict #[] }), (43, tabObj #[])] (t + 2) (by kernel_rfl) (by kernel_rfl) fun D115 => ?_
  clear D101 D104 D105 D106 D107 D108 D109 D110 D111 D112 D113 D114 N101 N104 N105 N106 N107 N108 N109 N110 N111 N112 N113
  refine wpAny_bind (chunkR hK 100 [] _ (none) (ls := ⟨_, t + 2⟩) D115 N114 (by kernel_rfl) (by kernel_rfl) fun h116 D116 N116 => ?_)
  rw [if_neg (by decide)]
  refine wpAny_bind (chunkR hK 100 [] _ (none) D116 N116 (by kernel_rfl) (by kernel_rfl) fun h117 D117 N117 => ?_)
  refine wpAny_bind (chunk hK 100 [0, 1, 1, 1, 1] _ ((namesFrom v 80).drop 8) (.ref (v + 2 + 7)) D117 N117 (by kernel_rfl) (by kernel_rfl) fun h118 D118 N118 => ?_)
  refine wpAny_bind (chunkR hK 100 [0, 0] _ (0) D118 N118 (by kernel_rfl) (by kernel_rfl) fun h119 D119 N119 => ?_)
  refine wpAny_bind (chunk hK 100 [0] _ ((namesFrom v 80).drop 9) (v + 2 + 8) D119 N119 (by kernel_rfl) (by kernel_rfl) fun h120 D120 N120 => ?_)
  refine wpAny_bind (chunkR hK 100 [] _ ([(Str.ofString "mycmp", v + 3)]) D120 N120 (by kernel_rfl) (by kernel_rfl) fun h121 D121 N121 => ?_)
  refine wpAny_holding ?_
  refine wpAny_bind (wpAny_enterFrame (noLimit (hK _ _ D121)) (Nat.lt_of_le_of_lt (Nat.add_le_add_right hA 1) (by decide)) ?_)
  refine wpAny_bind (chunk hK 200 [6, 6, 0, 6, 6, 6, 6, 6, 6, 6, 6, 6] _ ((namesFrom v 80).drop 9) () D121 N121 (by kernel_rfl) (by kernel_rfl) fun h122 D122 N122 => ?_)
  dsimp only [Option.map_none, Option.toList_none, List.nil_append]
  refine wpAny_bind (chunk hK 2000 [6, 6, 6, 6, 6, 6, 9, 8, 8, 8, 8, 0, 0, 0, 6, 6, 6, 9, 8, 8, 8, 8, 0, 0, 0, 6, 6, 6, 9, 8, 8, 8, 8, 0, 0, 0, 6, 6, 6, 9, 8, 8, 8, 8, 0, 0, 0, 6, 6, 6, 9, 8, 8, 8, 8, 0, 0, 0, 6, 6, 6, 9, 8, 8, 8, 8, 0, 0, 0, 6, 6, 6, 6, 6, 6] _ ((namesFrom v 80).drop 57) .next D122 N122 (by kernel_rfl) (by kernel_rfl) fun h123 D123 N123 => ?_)
  refine wpAny_bind (chunk hK 100 [6, 6, 6] _ ((namesFrom v 80).drop 58) PUnit.unit D123 N123 (by kernel_rfl) (by kernel_rfl) fun h124 D124 N124 => ?_)
  refine wpAny_bind (tcall_up w _ h124 g d _ os _ _ (v + 4) (v + 4) (v + 11) (v + 18) (v + 26) (v + 34) (v + 42) (v + 50) (v + 58) (v + 59) (kq w) (kk1 t) t (t + 15) (fnK 2 [] (v + 17) .none) (fnK 3 [(Str.ofString "mycmp", v + 3)] (v + 25) (.ref (v + 19))) (fnK 4 [(Str.ofString "mycmp", v + 3)] (v + 33) (.ref (v + 27))) (fnK 5 [(Str.ofString "mycmp", v + 3)] (v + 41) (.ref (v + 35)))
    (fnK 6 [(Str.ofString "mycmp", v + 3)] (v + 49) (.ref (v + 43))) (fnK 7 [(Str.ofString "mycmp", v + 3)] (v + 57) (.ref (v + 51))) #[.str "obj" (t + 71)]
    (hK _ _ D124) (pick D124 _ [0, 1, 9, 17, 25, 33, 41, 48, 53, 55] (by kernel_rfl)) ?_ ?_ hA0 ?_ ?_ ?_)
  · unfold led0; simp
  · unfold led0
    simp only [List.map_cons, List.map_nil, List.mem_cons, List.not_mem_nil, or_false]
    rintro a (rfl | rfl | rfl | rfl | rfl | rfl | rfl | rfl | rfl | rfl) <;> (show (84 : Nat) ≤ (_ : Nat); omega)
  · exact Nat.le_trans (Nat.add_le_add_right hA 1) (by decide)
  · exact Nat.le_trans (Nat.add_le_add_right hu 3) (by decide)
  intro C NS md tm t' h130 u130 c1 c2 c3 n1 n2 n3 e1 e2 e3
  have hfr : h130.get? (v + 2) = some { cls := .type "frame", data := .dict #[] } := u130 _ _ (D124.at 57 _ _ (by kernel_rfl))
  have hK := base_K (w := w) (h := h130) (ks := [v + 2]) (fun a o e => u130 a o (hK _ _ D124 a o e)) (fun a ha => by rw [List.mem_singleton.mp ha]; show (84 : Nat) ≤ (_ : Nat); omega)
  have D130 := led_of (h := h130) (l := [(v + 2, { cls := .type "frame", data := .dict #[] })]) (fun p hp => by rw [List.mem_singleton.mp hp]; exact hfr) (by simp)
  obtain ⟨v2, N130⟩ := names_new (w := w) 20 (hK _ _ D130)
  refine wpAny_pure ?_
  show wpAny _ _ _ _ _ _
  refine wpAny_bind (chunkR hK 100 [] _ (Value.ref C) (ls := ⟨_, _⟩) D130 N130 (by kernel_rfl) (by kernel_rfl) fun h140 D140 N140 => ?_)
  refine wpAny_bind (chunkR hK 100 [] _ (PUnit.unit) (ls := ⟨_, _⟩) D140 N140 (by kernel_rfl) (by kernel_rfl) fun h141 D141 N141 => ?_)
  refine wpAny_bind (chunkE hK 100 [1, 1] _ ((namesFrom v2 20).drop 0) (PUnit.unit) ⟨(v + 2, { cls := Value.type "frame", data := Data.dict { toList := [{ hash := if (Str.ofString "K").cps.isEmpty = true then 0 else reduceHash (w.params.strHash (Str.ofString "K").cps), key := Value.str (Str.ofString "K") t', val := Value.ref C }] } 1 }) :: [], t' + 1⟩ (ls := ⟨_, _⟩) D141 N141 (by kernel_rfl) (by kernel_rfl) fun h142 D142 N142 => ?_)
  refine wpAny_pure ?_
  refine wpAny_bind (chunkR hK 100 [1] _ (Flow.ret (Value.ref C)) (ls := ⟨_, _⟩) D142 N142 (by kernel_rfl) (by kernel_rfl) fun h143 D143 N143 => ?_)
  refine wpAny_pure ?_
  have kp : ∀ b o, b ≠ v + 2 → h130.get? b = some o → h143.get? b = some o := fun b o n e => D143.keep b o (hideAll_get _ e (fun hm => n (List.mem_singleton.mp hm)))
  have hsz : v + 2 = h.objs.size := N 0 _ rfl
  have at1 := fun (i : Nat) (a : Addr) (o : Obj) (n : a ≠ v + 2) e => kp a o n (u130 _ _ (D124.at i a o e))
  have far : ∀ k : Nat, k ≠ 2 → (v + k : Nat) ≠ v + 2 := fun k hk => by omega
  have hfr0 : h124.get? (v + 2) = some { cls := .type "frame", data := .dict #[] } := D124.at 57 _ _ (by kernel_rfl)
  have nw : ∀ a : Addr, h124.get? a = none → a ≠ v + 2 := fun a e q => by rw [q, hfr0] at e; cases e
  have old : ∀ b o, b ≠ 43 → h.get? b = some o → h124.get? b = some o := fun b o n e => D124.keep b o (hideAll_get _ e (fun hm => n (List.mem_singleton.mp hm)))
  have oldn : ∀ a : Addr, h124.get? a = none → h.get? a = none := fun a e => by
    cases q : h.get? a with
    | none => rfl
    | some o =>
      by_cases q43 : a = 43
      · subst q43
        have : h124.get? 43 = some (tabObj #[.int 22 0, .int 4 0, .ref (v + 9)]) := D124.at 58 _ _ (by kernel_rfl)
        rw [e] at this; cases this
      · have := old a o q43 q
        rw [e] at this; cases this
  have fr : ∀ k : Nat, 2 ≤ k → h.get? (v + k) = none := fun k hk => Heap.get?_none_of_le (by rw [← hsz]; show (v + 2 : Nat) ≤ v + k; omega)
  have kf : ∀ p ∈ [(C, clsK C NS (v + 4) t (kk1 t 21)), (NS, nsOut w (kq w) (kk1 t) "cpy313.functools" 22 (v + 11) (v + 18) (v + 26) (v + 34) (v + 42) (v + 50) (v + 58) (v + 59) md (tm + 1) (tm + 2)), (md, mdO C tm), (v + 18, fnO (fnK 2 [] (v + 17) .none)), (v + 26, fnO (fnK 3 [(Str.ofString "mycmp", v + 3)] (v + 25) (.ref (v + 19)))), (v + 3, cellO f)], h143.get? p.1 = some p.2 ∧ h.get? p.1 = none := by
    intro p hp
    simp only [List.mem_cons, List.not_mem_nil, or_false] at hp
    rcases hp with rfl | rfl | rfl | rfl | rfl | rfl
    · exact ⟨kp _ _ (nw _ c1) e2, oldn _ c1⟩
    · exact ⟨kp _ _ (nw _ c2) e3, oldn _ c2⟩
    · exact ⟨kp _ _ (nw _ c3) e1, oldn _ c3⟩
    · exact ⟨at1 41 (v + 18) _ (far 18 (by decide)) (by kernel_rfl), fr 18 (by decide)⟩
    · exact ⟨at1 33 (v + 26) _ (far 26 (by decide)) (by kernel_rfl), fr 26 (by decide)⟩
    · exact ⟨at1 56 (v + 3) _ (far 3 (by decide)) (by kernel_rfl), fr 3 (by decide)⟩
  have tf : ∀ p ∈ [((43 : Addr), tabObj #[.int 22 0, .int 4 0, .ref (v + 9)]), (v + 9, codeC (aS t 6) (rS v 6) (nS t 6)), (v + 8, tabObj #[.int 26 0, .int 8 0, .ref (v + 17), .int 29 0, .int 8 0, .ref (v + 25), .int 32 0, .int 8 0, .ref (v + 33), .int 35 0, .int 8 0, .ref (v + 41), .int 38 0, .int 8 0, .ref (v + 49), .int 41 0, .int 8 0, .ref (v + 57)]),
      (v + 17, codeF "__init__" 26 (aS t 0) (rS v 0) (nS t 0)), (v + 25, codeF "__lt__" 29 (aS t 1) (rS v 1) (nS t 1)), (v + 33, codeF "__gt__" 32 (aS t 2) (rS v 2) (nS t 2)), (v + 41, codeF "__eq__" 35 (aS t 3) (rS v 3) (nS t 3)), (v + 49, codeF "__le__" 38 (aS t 4) (rS v 4) (nS t 4)), (v + 57, codeF "__ge__" 41 (aS t 5) (rS v 5) (nS t 5))], h143.get? p.1 = some p.2 ∧ (p.1 = 43 ∨ h.get? p.1 = none) := by
    intro p hp
    simp only [List.mem_cons, List.not_mem_nil, or_false] at hp
    rcases hp with rfl | rfl | rfl | rfl | rfl | rfl | rfl | rfl | rfl
    · exact ⟨at1 58 43 _ (by show (43 : Nat) ≠ (_ : Nat); omega) (by kernel_rfl), .inl rfl⟩
    · exact ⟨at1 50 (v + 9) _ (far 9 (by decide)) (by kernel_rfl), .inr (fr 9 (by decide))⟩
    · exact ⟨at1 51 (v + 8) _ (far 8 (by decide)) (by kernel_rfl), .inr (fr 8 (by decide))⟩
    · exact ⟨at1 42 (v + 17) _ (far 17 (by decide)) (by kernel_rfl), .inr (fr 17 (by decide))⟩
    · exact ⟨at1 34 (v + 25) _ (far 25 (by decide)) (by kernel_rfl), .inr (fr 25 (by decide))⟩
    · exact ⟨at1 26 (v + 33) _ (far 33 (by decide)) (by kernel_rfl), .inr (fr 33 (by decide))⟩
    · exact ⟨at1 18 (v + 41) _ (far 41 (by decide)) (by kernel_rfl), .inr (fr 41 (by decide))⟩
    · exact ⟨at1 10 (v + 49) _ (far 49 (by decide)) (by kernel_rfl), .inr (fr 49 (by decide))⟩
    · exact ⟨at1 2 (v + 57) _ (far 57 (by decide)) (by kernel_rfl), .inr (fr 57 (by decide))⟩
  refine hR C _ h143 (fun b o n e => ?_) ⟨_, _, kf, tf, ?_, ?_⟩
  · have hb : (b : Nat) < v + 2 := hsz ▸ Heap.lt_size e
    exact kp b o (Nat.ne_of_lt hb) (u130 _ _ (old b o n e))
  · exact ⟨NS, md, v + 4, v + 11, v + 18, v + 26, v + 34, v + 42, v + 50, v + 58, v + 59, v + 3, v + 17, v + 25, .ref (v + 19), kk1 t, aS t 0, rS v 0, aS t 1, rS v 1, nS t 0, nS t 1, t, kk1 t 21, tm, tm + 1, tm + 2,
      List.mem_append_left _ (.head _), List.mem_append_left _ (.tail _ (.head _)), List.mem_append_left _ (.tail _ (.tail _ (.head _))), List.mem_append_left _ (.tail _ (.tail _ (.tail _ (.head _)))), List.mem_append_left _ (.tail _ (.tail _ (.tail _ (.tail _ (.head _))))), List.mem_append_left _ (.tail _ (.tail _ (.tail _ (.tail _ (.tail _ (.head _)))))),
      List.mem_append_right _ (.tail _ (.tail _ (.tail _ (.head _)))), List.mem_append_right _ (.tail _ (.tail _ (.tail _ (.tail _ (.head _)))))⟩
  · refine ⟨v + 9, v + 8, fun i => v + (17 + 8 * i), aS t, rS v, nS t, ⟨?_, ?_, ?_⟩, ?_, rfl, .head _, .tail _ (.head _), .tail _ (.tail _ (.head _)), .tail _ (.tail _ (.tail _ (.head _))), .tail _ (.tail _ (.tail _ (.tail _ (.head _)))), .tail _ (.tail _ (.tail _ (.tail _ (.tail _ (.head _))))), .tail _ (.tail _ (.tail _ (.tail _ (.tail _ (.tail _ (.head _)))))), .tail _ (.tail _ (.tail _ (.tail _ (.tail _ (.tail _ (.tail _ (.head _))))))), .tail _ (.tail _ (.tail _ (.tail _ (.tail _ (.tail _ (.tail _ (.tail _ (.head _)))))))) ⟩
    · show (84 : Nat) ≤ (_ : Nat); omega
    · show (84 : Nat) ≤ (_ : Nat); omega
    · intro i _; show (84 : Nat) ≤ v + (17 + 8 * i); omega
    · simp
end Mine
end
section
open PySem PySem.W PySem.W.X PyProof.Rows PySem.Spec PySem.Calls
namespace Mine
noncomputable def tabK (c : Nat → Addr) : Array Value := #[.int 26 0, .int 8 0, .ref (c 0), .int 29 0, .int 8 0, .ref (c 1), .int 32 0, .int 8 0, .ref (c 2), .int 35 0, .int 8 0, .ref (c 3), .int 38 0, .int 8 0, .ref (c 4), .int 41 0, .int 8 0, .ref (c 5)]
noncomputable def led2 (cK : Addr) (c : Nat → Addr) (a r : Nat → Nat → Nat) (n : Nat → Int) : List (Addr × Obj) := [(c 5, codeF "__ge__" 41 (a 5) (r 5) (n 5)), (c 4, codeF "__le__" 38 (a 4) (r 4) (n 4)), (c 3, codeF "__eq__" 35 (a 3) (r 3) (n 3)), (c 2, codeF "__gt__" 32 (a 2) (r 2) (n 2)), (c 1, codeF "__lt__" 29 (a 1) (r 1) (n 1)), (c 0, codeF "__init__" 26 (a 0) (r 0) (n 0)), (r 6 11, tabObj (tabK c)), (cK, codeC (a 6) (r 6) (n 6)), (43, tabObj #[.int 22 0, .int 4 0, .ref cK])]
noncomputable def kk2 (t : Nat) (i : Nat) : Nat := t + [2, 4, 6, 10, 11, 12, 13, 14, 15, 16, 17, 19, 0, 0, 0, 0, 0, 0, 0, 0, 7, 3, 5].getD i 0
set_option maxHeartbeats 4000000 in
theorem ck_call2 (w : World) (A : Around) (h : Heap) (g : Array GenState) (d : Drawn) (t : Nat) (os : OsState) (f : Addr) (R : Result → Shared → Prop)
    (X : (KF w.params).In h) (O : NameObj h) {tl : List (Addr × Obj)} (htl : ∀ p ∈ tl, h.get? p.1 = some p.2) (hcr : KCodesR fun a o => (a, o) ∈ tl) (hA0 : A.handled = none) (hA : A.depth ≤ 460) (hu : A.units ≤ 160)
    (hR : ∀ C t' h' kl, Up h h' → (∀ p ∈ kl, h'.get? p.1 = some p.2 ∧ h.get? p.1 = none) → KMadeR w (fun a o => (a, o) ∈ kl ++ tl) C f → R (.ok (.ret (.ref C))) ⟨h', g, d, t', os⟩) :
    codeAny (model PR w) A (.call (.ref 48) ⟨[.ref f], []⟩) R ⟨h, g, d, t, os⟩ := by
  obtain ⟨cK, PK, c, a, r, n, ⟨i1, i2, i3⟩, nd, rfl, q1, q2, q3, q4, q5, q6, q7, q8, q9⟩ := hcr
  have g1 := htl _ q1
  have g2 := htl _ q2
  have g3 := htl _ q3
  have g4 := htl _ q4
  have g5 := htl _ q5
  have g6 := htl _ q6
  have g7 := htl _ q7
  have g8 := htl _ q8
  have g9 := htl _ q9
  have K43 : (KF w.params).lookup 43 = none := by kernel_rfl
  have hl : ∀ p ∈ led2 cK c a r n, h.get? p.1 = some p.2 := by
    unfold led2
    intro p hp
    simp only [List.mem_cons, List.not_mem_nil, or_false] at hp
    rcases hp with rfl | rfl | rfl | rfl | rfl | rfl | rfl | rfl | rfl <;> assumption
  have hks : ∀ b ∈ (led2 cK c a r n).map (·.1), (KF w.params).lookup b = none := by
    unfold led2
    intro b hb
    simp only [List.map_cons, List.map_nil, List.mem_cons, List.not_mem_nil, or_false] at hb
    rcases hb with rfl | rfl | rfl | rfl | rfl | rfl | rfl | rfl | rfl
    · exact KF_high _ (i3 5 (by decide))
    · exact KF_high _ (i3 4 (by decide))
    · exact KF_high _ (i3 3 (by decide))
    · exact KF_high _ (i3 2 (by decide))
    · exact KF_high _ (i3 1 (by decide))
    · exact KF_high _ (i3 0 (by decide))
    · exact KF_high _ i2
    · exact KF_high _ i1
    · exact K43
  have hks2 : mainGlobals ∉ (led2 cK c a r n).map (·.1) ∧ builtinsNs ∉ (led2 cK c a r n).map (·.1) := by
    have far : ∀ b ∈ (led2 cK c a r n).map (·.1), 43 ≤ b := by
      unfold led2
      intro b hb
      simp only [List.map_cons, List.map_nil, List.mem_cons, List.not_mem_nil, or_false] at hb
      have b84 : ∀ {x : Addr}, 84 ≤ x → 43 ≤ x := fun {x} hx => Nat.le_trans (show (43 : Nat) ≤ 84 by decide) hx
      rcases hb with rfl | rfl | rfl | rfl | rfl | rfl | rfl | rfl | rfl
      · exact b84 (i3 5 (by decide))
      · exact b84 (i3 4 (by decide))
      · exact b84 (i3 3 (by decide))
      · exact b84 (i3 2 (by decide))
      · exact b84 (i3 1 (by decide))
      · exact b84 (i3 0 (by decide))
      · exact b84 i2
      · exact b84 i1
      · exact Nat.le_refl _
    exact ⟨fun q => absurd (far _ q) (by decide), fun q => absurd (far _ q) (by decide)⟩
  have nd2 : ((led2 cK c a r n).map (·.1)).Nodup := by
    have h43 : ∀ x : Addr, 84 ≤ x → x ≠ 43 := fun x hx q => by subst q; exact absurd hx (by decide)
    have z0 := h43 _ (i3 0 (by decide))
    have z1 := h43 _ (i3 1 (by decide))
    have z2 := h43 _ (i3 2 (by decide))
    have z3 := h43 _ (i3 3 (by decide))
    have z4 := h43 _ (i3 4 (by decide))
    have z5 := h43 _ (i3 5 (by decide))
    have z6 := h43 _ i1
    have z7 := h43 _ i2
    unfold led2
    simp only [List.nodup_cons, List.mem_cons, List.not_mem_nil, or_false, not_or, List.map_cons, List.map_nil, not_false_eq_true, List.nodup_nil, and_true] at nd ⊢
    obtain ⟨⟨a1, a2, a3, a4, a5, a6, a7⟩, ⟨b1, b2, b3, b4, b5, b6⟩, ⟨d1, d2, d3, d4, d5⟩, ⟨f1, f2, f3, f4⟩, ⟨k1, k2, k3⟩, ⟨l1, l2⟩, m1⟩ := nd
    exact ⟨⟨Ne.symm m1, Ne.symm l2, Ne.symm k3, Ne.symm f4, Ne.symm d5, Ne.symm b6, Ne.symm a7, z5⟩, ⟨Ne.symm l1, Ne.symm k2, Ne.symm f3, Ne.symm d4, Ne.symm b5, Ne.symm a6, z4⟩, ⟨Ne.symm k1, Ne.symm f2, Ne.symm d3, Ne.symm b4, Ne.symm a5, z3⟩, ⟨Ne.symm f1, Ne.symm d2, Ne.symm b3, Ne.symm a4, z2⟩, ⟨Ne.symm d1, Ne.symm b2, Ne.symm a3, z1⟩, ⟨Ne.symm b1, Ne.symm a2, z0⟩, ⟨Ne.symm a1, z7⟩, z6⟩
  have hK : ∀ h' news, Led (hideAll h ((led2 cK c a r n).map (·.1))) h' news → (KF w.params).In h' := fun h' news D a' o e => D.keep a' o (hideAll_get _ (X a' o e) fun hm => by
    rw [hks _ hm] at e; cases e)
  have D := led_of hl nd2
  obtain ⟨v, N⟩ := names_new (w := w) 80 X
  have hv : 82 ≤ v := by
    have h83 : (KF w.params).lookup 83 = some (((KF w.params).lookup 83).getD default) := by kernel_rfl
    have z : 83 < h.objs.size := Heap.lt_size ((hK _ _ D) 83 _ h83)
    have z2 : v + 2 + 0 = h.objs.size + 0 := N 0 _ rfl
    omega
  have c1 : (⟨h, g, d, t, os⟩ : Shared).heap.get? 48 = some (ckObj w.params) := (hK _ _ D) 48 (ckObj w.params) (ck_f1 w.params)
  have c2 : h.CodeRec (fdOf (ckObj w.params)).code (fdOf (ckObj w.params)).qualname := codeRec_of (hK _ _ D) (ck_f6 w.params)
  have c3 : A.depth < recursionLimit := Nat.lt_of_le_of_lt hA (by decide)
  refine codeAny_call_function (prog := PR) (w := w) (a := 48) (args := ⟨[.ref f], []⟩) (o := ckObj w.params) (fd := fdOf (ckObj w.params)) (body := ckBody) c3 c1 (ck_f2 w.params) (ck_f3 w.params) (ck_f4 w.params) (ck_f5 w.params) c2 ?_
  with_reducible refine wpAny_of_eq (ck_f7 w.params f) ?_
  with_reducible refine chunkE hK 100 [11, 11] _ ((namesFrom v 80).drop 2) (kEnv (v + 2) (v + 3)) ⟨[(v + 3, { cls := .type "cell", data := .cell (some (.ref f)) }), (v + 2, { cls := .type "frame", data := .dict #[] })] ++ led2 cK c a r n, t⟩ (ls := ⟨_, _⟩) D N (by kernel_rfl) (by kernel_rfl) fun h2 D2 N2 => ?_
  refine ⟨noLimit (hK _ _ D2), codeAny_func ?_⟩
  refine wpAny_bind ?_
  show wpAny _ _ (exec stK (kEnv (v + 2) (v + 3))) _ _ _
  rw [stK_eq, arm_exec_ClassDef]
  refine wpAny_bind (chunkR hK 100 [] _ ([]) (ls := ⟨_, t⟩) D2 N2 (by kernel_rfl) (by kernel_rfl) fun h101 D101 N101 => ?_)
  refine wpAny_bind (wpAny_standAt ?_)
  refine wpAny_bind (guard_obj (nameObj_led O D101 hks2) ?_)
  refine wpAny_bind (wpAny_holding ?_)
  refine wpAny_bind (bases_obj (nameObj_led O D101 hks2) ?_)
  refine wpAny_bind (wpAny_standAt ?_)
  refine wpAny_holding ?_
  unfold buildClass
  refine wpAny_bind (chunk hK 100 [] _ ((namesFrom v 80).drop 3) (.ref (v + 2 + 2)) D101 N101 (by kernel_rfl) (by kernel_rfl) fun h104 D104 N104 => ?_)
  refine wpAny_bind (chunkR hK 100 [] _ (([.type "object"], false)) D104 N104 (by kernel_rfl) (by kernel_rfl) fun h105 D105 N105 => ?_)
  dsimp only [List.lookup]
  refine wpAny_bind (chunkR hK 100 [] _ ((.type "type")) D105 N105 (by kernel_rfl) (by kernel_rfl) fun h106 D106 N106 => ?_)
  refine wpAny_bind (chunkR hK 100 [] _ (true) D106 N106 (by kernel_rfl) (by kernel_rfl) fun h107 D107 N107 => ?_)
  rw [if_pos rfl]
  refine wpAny_bind (chunkR hK 100 [] _ ((.type "type")) D107 N107 (by kernel_rfl) (by kernel_rfl) fun h108 D108 N108 => ?_)
  refine wpAny_bind (chunk hK 100 [] _ ((namesFrom v 80).drop 3) (.str "K" t) D108 N108 (by kernel_rfl) (by kernel_rfl) fun h109 D109 N109 => ?_)
  rw [if_neg (by decide)]
  refine wpAny_bind (chunkR hK 100 [] _ ((.ref (v + 2 + 2))) D109 N109 (by kernel_rfl) (by kernel_rfl) fun h110 D110 N110 => ?_)
  refine wpAny_holding ?_
  refine wpAny_bind (chunk hK 100 [] _ ((namesFrom v 80).drop 4) (some (.ref (v + 2 + 3))) D110 N110 (by kernel_rfl) (by kernel_rfl) fun h111 D111 N111 => ?_)
  dsimp only
  refine wpAny_bind (chunk hK 100 [13] _ ((namesFrom v 80).drop 5) (.ref (v + 2 + 4)) D111 N111 (by kernel_rfl) (by kernel_rfl) fun h112 D112 N112 => ?_)
  dsimp only
  refine wpAny_bind (chunkR hK 100 [] _ (()) D112 N112 (by kernel_rfl) (by kernel_rfl) fun h113 D113 N113 => ?_)
  refine wpAny_bind (chunkR hK 100 [14] _ ((some (.builtin "dict.__getitem__"))) D113 N113 (by kernel_rfl) (by kernel_rfl) fun h114 D114 N114 => ?_)
  rw [if_neg (by decide)]
  refine wpAny_holding ?_
  rw [if_neg (by decide)]
  refine recast D114 ([(v + 2 + 4, { cls := .type "dict", data := .dict #[] 0 }), (v + 2 + 3, { cls := .type "builtin_function_or_method", data := .fields #[.builtin "type.__prepare__", .type "type"] }), (v + 2 + 2, { cls := .type "tuple", data := .seq #[.type "object"] 0 }), (v + 3, { cls := .type "cell", data := .cell (some (.ref f)) }), (v + 2, { cls := .type "frame", data := .dict #[] })] ++ led2 cK c a r n) (t + 2) (by kernel_rfl) (by kernel_rfl) fun D115 => ?_
  clear D101 D104 D105 D106 D107 D108 D109 D110 D111 D112 D113 D114 N101 N104 N105 N106 N107 N108 N109 N110 N111 N112 N113
  refine wpAny_bind (chunkR hK 100 [] _ (none) (ls := ⟨_, t + 2⟩) D115 N114 (by kernel_rfl) (by kernel_rfl) fun h116 D116 N116 => ?_)
  rw [if_neg (by decide)]
  refine wpAny_bind (chunkR hK 100 [] _ (none) D116 N116 (by kernel_rfl) (by kernel_rfl) fun h117 D117 N117 => ?_)
  refine wpAny_bind (chunk hK 100 [0, 1] _ ((namesFrom v 80).drop 5) (.ref cK) D117 N117 (by kernel_rfl) (by kernel_rfl) fun h118 D118 N118 => ?_)
  refine wpAny_bind (chunkR hK 100 [0, 0] _ (0) D118 N118 (by kernel_rfl) (by kernel_rfl) fun h119 D119 N119 => ?_)
  refine wpAny_bind (chunk hK 100 [0] _ ((namesFrom v 80).drop 6) (v + 2 + 5) D119 N119 (by kernel_rfl) (by kernel_rfl) fun h120 D120 N120 => ?_)
  refine wpAny_bind (chunkR hK 100 [] _ ([(Str.ofString "mycmp", v + 3)]) D120 N120 (by kernel_rfl) (by kernel_rfl) fun h121 D121 N121 => ?_)
  refine wpAny_holding ?_
  refine wpAny_bind (wpAny_enterFrame (noLimit (hK _ _ D121)) (Nat.lt_of_le_of_lt (Nat.add_le_add_right hA 1) (by decide)) ?_)
  refine wpAny_bind (chunk hK 200 [14, 14, 0, 14, 14, 14, 14, 14, 14, 14, 14, 14] _ ((namesFrom v 80).drop 6) () D121 N121 (by kernel_rfl) (by kernel_rfl) fun h122 D122 N122 => ?_)
  dsimp only [Option.map_none, Option.toList_none, List.nil_append]
  refine wpAny_bind (chunk hK 2000 [14, 14, 14, 14, 14, 14, 2, 3, 0, 0, 0, 14, 14, 14, 2, 3, 0, 0, 0, 14, 14, 14, 2, 3, 0, 0, 0, 14, 14, 14, 2, 3, 0, 0, 0, 14, 14, 14, 2, 3, 0, 0, 0, 14, 14, 14, 2, 3, 0, 0, 0, 14, 14, 14, 14, 14, 14] _ ((namesFrom v 80).drop 18) .next D122 N122 (by kernel_rfl) (by kernel_rfl) fun h123 D123 N123 => ?_)
  refine wpAny_bind (chunk hK 100 [14, 14, 14] _ ((namesFrom v 80).drop 19) PUnit.unit D123 N123 (by kernel_rfl) (by kernel_rfl) fun h124 D124 N124 => ?_)
  refine wpAny_bind (tcall_up w _ h124 g d _ os _ _ (v + 4) (v + 4) (v + 8) (v + 9) (v + 11) (v + 13) (v + 15) (v + 17) (v + 19) (v + 20) (kq w) (kk2 t) t (t + 9) (fnK 2 [] (c 0) .none) (fnK 3 [(Str.ofString "mycmp", v + 3)] (c 1) (.ref (v + 10))) (fnK 4 [(Str.ofString "mycmp", v + 3)] (c 2) (.ref (v + 12))) (fnK 5 [(Str.ofString "mycmp", v + 3)] (c 3) (.ref (v + 14)))
    (fnK 6 [(Str.ofString "mycmp", v + 3)] (c 4) (.ref (v + 16))) (fnK 7 [(Str.ofString "mycmp", v + 3)] (c 5) (.ref (v + 18))) #[.str "obj" (t + 18)]
    (hK _ _ D124) (pick D124 _ [0, 1, 3, 5, 7, 9, 11, 12, 14, 16] (by kernel_rfl)) ?_ ?_ hA0 ?_ ?_ ?_)
  · unfold led0; simp
  · unfold led0
    simp only [List.map_cons, List.map_nil, List.mem_cons, List.not_mem_nil, or_false]
    rintro a (rfl | rfl | rfl | rfl | rfl | rfl | rfl | rfl | rfl | rfl) <;> (show (84 : Nat) ≤ (_ : Nat); omega)
  · exact Nat.le_trans (Nat.add_le_add_right hA 1) (by decide)
  · exact Nat.le_trans (Nat.add_le_add_right hu 3) (by decide)
  intro C NS md tm t' h130 u130 c1 c2 c3 n1 n2 n3 e1 e2 e3
  have hfr0 : h124.get? (v + 2) = some { cls := .type "frame", data := .dict #[] } := D124.at 18 _ _ (by kernel_rfl)
  have hl2 := pick D124 (led2 cK c a r n) [19, 20, 21, 22, 23, 24, 25, 26, 27] (by kernel_rfl)
  have old : Up h h124 := fun b o e => by
    by_cases q : b ∈ (led2 cK c a r n).map (·.1)
    · obtain ⟨p, hp, rfl⟩ := List.mem_map.mp q
      have : p.2 = o := by have := hl p hp; rw [e] at this; exact (Option.some.inj this).symm
      exact this ▸ hl2 p hp
    · exact D124.keep b o (hideAll_get _ e q)
  have cell : h124.get? (v + 3) = some (cellO f) := D124.at 17 _ _ (by kernel_rfl)
  have oI : h124.get? (v + 9) = some (fnO (fnK 2 [] (c 0) .none)) := D124.at 11 _ _ (by kernel_rfl)
  have oL : h124.get? (v + 11) = some (fnO (fnK 3 [(Str.ofString "mycmp", v + 3)] (c 1) (.ref (v + 10)))) := D124.at 9 _ _ (by kernel_rfl)
  have hfr : h130.get? (v + 2) = some { cls := .type "frame", data := .dict #[] } := u130 _ _ hfr0
  have hK := base_K (w := w) (h := h130) (ks := [v + 2]) (fun a o e => u130 a o (hK _ _ D124 a o e)) (fun a ha => by rw [List.mem_singleton.mp ha]; show (84 : Nat) ≤ (_ : Nat); omega)
  have D130 := led_of (h := h130) (l := [(v + 2, { cls := .type "frame", data := .dict #[] })]) (fun p hp => by rw [List.mem_singleton.mp hp]; exact hfr) (by simp)
  obtain ⟨v2, N130⟩ := names_new (w := w) 20 (hK _ _ D130)
  refine wpAny_pure ?_
  show wpAny _ _ _ _ _ _
  refine wpAny_bind (chunkR hK 100 [] _ (Value.ref C) (ls := ⟨_, _⟩) D130 N130 (by kernel_rfl) (by kernel_rfl) fun h140 D140 N140 => ?_)
  refine wpAny_bind (chunkR hK 100 [] _ (PUnit.unit) (ls := ⟨_, _⟩) D140 N140 (by kernel_rfl) (by kernel_rfl) fun h141 D141 N141 => ?_)
  refine wpAny_bind (chunkE hK 100 [1, 1] _ ((namesFrom v2 20).drop 0) (PUnit.unit) ⟨(v + 2, { cls := Value.type "frame", data := Data.dict { toList := [{ hash := if (Str.ofString "K").cps.isEmpty = true then 0 else reduceHash (w.params.strHash (Str.ofString "K").cps), key := Value.str (Str.ofString "K") t', val := Value.ref C }] } 1 }) :: [], t' + 1⟩ (ls := ⟨_, _⟩) D141 N141 (by kernel_rfl) (by kernel_rfl) fun h142 D142 N142 => ?_)
  refine wpAny_pure ?_
  refine wpAny_bind (chunkR hK 100 [1] _ (Flow.ret (Value.ref C)) (ls := ⟨_, _⟩) D142 N142 (by kernel_rfl) (by kernel_rfl) fun h143 D143 N143 => ?_)
  refine wpAny_pure ?_
  have kp : ∀ b o, b ≠ v + 2 → h130.get? b = some o → h143.get? b = some o := fun b o n e => D143.keep b o (hideAll_get _ e (fun hm => n (List.mem_singleton.mp hm)))
  have hsz : v + 2 = h.objs.size := N 0 _ rfl
  have far : ∀ k : Nat, k ≠ 2 → (v + k : Nat) ≠ v + 2 := fun k hk => by omega
  have nw : ∀ a : Addr, h124.get? a = none → a ≠ v + 2 := fun a e q => by rw [q, hfr0] at e; cases e
  have up : Up h h143 := fun b o e => by
    have hb : (b : Nat) < v + 2 := hsz ▸ Heap.lt_size e
    exact kp b o (Nat.ne_of_lt hb) (u130 _ _ (old b o e))
  have oldn : ∀ a : Addr, h124.get? a = none → h.get? a = none := fun a e => by
    cases q : h.get? a with
    | none => rfl
    | some o => have := old a o q; rw [e] at this; cases this
  have fr : ∀ k : Nat, 2 ≤ k → h.get? (v + k) = none := fun k hk => Heap.get?_none_of_le (by rw [← hsz]; show (v + 2 : Nat) ≤ v + k; omega)
  have kf : ∀ p ∈ [(C, clsK C NS (v + 4) t (kk2 t 21)), (NS, nsOut w (kq w) (kk2 t) "cpy313.functools" 22 (v + 8) (v + 9) (v + 11) (v + 13) (v + 15) (v + 17) (v + 19) (v + 20) md (tm + 1) (tm + 2)), (md, mdO C tm), (v + 9, fnO (fnK 2 [] (c 0) .none)), (v + 11, fnO (fnK 3 [(Str.ofString "mycmp", v + 3)] (c 1) (.ref (v + 10)))), (v + 3, cellO f)], h143.get? p.1 = some p.2 ∧ h.get? p.1 = none := by
    intro p hp
    simp only [List.mem_cons, List.not_mem_nil, or_false] at hp
    rcases hp with rfl | rfl | rfl | rfl | rfl | rfl
    · exact ⟨kp _ _ (nw _ c1) e2, oldn _ c1⟩
    · exact ⟨kp _ _ (nw _ c2) e3, oldn _ c2⟩
    · exact ⟨kp _ _ (nw _ c3) e1, oldn _ c3⟩
    · exact ⟨kp _ _ (far 9 (by decide)) (u130 _ _ oI), fr 9 (by decide)⟩
    · exact ⟨kp _ _ (far 11 (by decide)) (u130 _ _ oL), fr 11 (by decide)⟩
    · exact ⟨kp _ _ (far 3 (by decide)) (u130 _ _ cell), fr 3 (by decide)⟩
  refine hR C _ h143 _ up kf ?_
  exact ⟨NS, md, v + 4, v + 8, v + 9, v + 11, v + 13, v + 15, v + 17, v + 19, v + 20, v + 3, c 0, c 1, .ref (v + 10), kk2 t, a 0, r 0, a 1, r 1, n 0, n 1, t, kk2 t 21, tm, tm + 1, tm + 2,
    List.mem_append_left _ (.head _), List.mem_append_left _ (.tail _ (.head _)), List.mem_append_left _ (.tail _ (.tail _ (.head _))), List.mem_append_left _ (.tail _ (.tail _ (.tail _ (.head _)))), List.mem_append_left _ (.tail _ (.tail _ (.tail _ (.tail _ (.head _))))), List.mem_append_left _ (.tail _ (.tail _ (.tail _ (.tail _ (.tail _ (.head _)))))),
    List.mem_append_right _ q4, List.mem_append_right _ q5⟩
end Mine
end
section
open PySem PySem.W PySem.W.X PyProof.Rows PySem.Spec PySem.Calls
namespace Mine
/-- a key: one of K, with its one slot -/
noncomputable def instK (C dx : Addr) (n : Int) (tn : Tok) : Obj := { cls := .ref C, dict := some dx, data := .plain, slots := #[some (.int n tn)] }
theorem end_key {s : Shared} {h : Heap} {a x dx C : Addr} {n : Int} {tn tk : Nat} {o1 o2 o3 : Obj} (D : Mem s.heap h [] [(a, o1), (x, o2), (dx, o3)]) (e : o2 = instK C dx n tn) :
    ∃ x' dx' h' t', Value.ref x = .ref x' ∧ (⟨h, s.gens, s.drawn, tk, s.os⟩ : Shared) = ⟨h', s.gens, s.drawn, t', s.os⟩ ∧ Up s.heap h' ∧ h'.get? x' = some (instK C dx' n tn) ∧ s.heap.get? x' = none := by
  subst e
  exact ⟨x, dx, h, tk, rfl, rfl, memUp D, D.at 1 _ _ rfl, (D.nw _ (List.mem_cons_of_mem _ (List.mem_cons_self ..))).2⟩
section
local macro_rules | `(tactic| x_close) => `(tactic| exact end_key (by assumption) (by kernel_rfl))
set_option maxHeartbeats 0 in
theorem x_key : ∀ (w : World) (s : Shared) (C NS bT fI fL fG fE fLe fGe sl st md cI : Addr) (k a1 r1 : Nat → Nat) (t1 t2 tm ta tb tn : Nat) (n1 n : Int)
    (_hC : s.heap.get? C = some { cls := .type "type", dict := none, data := .cls { name := "K", bases := [.type "object"], mro := [.ref C, .type "object"], ns := NS, qualname := "cmp_to_key.<locals>.K", hasDict := false, slotNames := ["obj"] }, slots := #[some (.ref bT), none, some (.str "K" t1), some (.str "cmp_to_key.<locals>.K" t2), some (.builtin "object.__new__"), some (.bool false)] })
    (_hN : s.heap.get? NS = some { cls := .type "dict", dict := none, data := .dict #[⟨kq w 0, .str "__module__" (k 0), .str "cpy313.functools" (k 20)⟩, ⟨kq w 2, .str "__firstlineno__" (k 2), .int 22 (k 22)⟩, ⟨kq w 3, .str "__slots__" (k 3), .ref sl⟩, ⟨kq w 4, .str "__init__" (k 4), .ref fI⟩, ⟨kq w 5, .str "__lt__" (k 5), .ref fL⟩, ⟨kq w 6, .str "__gt__" (k 6), .ref fG⟩, ⟨kq w 7, .str "__eq__" (k 7), .ref fE⟩, ⟨kq w 8, .str "__le__" (k 8), .ref fLe⟩, ⟨kq w 9, .str "__ge__" (k 9), .ref fGe⟩, ⟨kq w 10, .str "__hash__" (k 10), .none⟩, ⟨kq w 11, .str "__static_attributes__" (k 11), .ref st⟩, ⟨hsK w "obj", .str "obj" ta, .ref md⟩, ⟨hsK w "__doc__", .str "__doc__" tb, .none⟩] 3, slots := #[] })
    (_hI : s.heap.get? fI = some { cls := .type "function", dict := none, data := .func (fnK 2 [] cI .none), slots := #[] })
    (_hcI : s.heap.get? cI = some { cls := .type "code", dict := none, data := .fields #[.str "__init__" (a1 0), .str "cmp_to_key.<locals>.K.__init__" (a1 1), .str "/claim/cut.py" (a1 2), .int 26 0, .int 2 0, .int 0 0, .int 0 0, .int 19 0, .ref (r1 8), .bool true, .int 181 0, .ref (r1 11), .none, .ref (r1 13), .ref (r1 14), .ref (r1 15), .int n1 0, .int 26 0, .str "/claim/cut.py" (a1 18)], slots := #[] })
    (_hM : s.heap.get? md = some { cls := .type "member_descriptor", dict := none, data := .fields #[.str "obj" tm, .ref C, .builtin "proto.slot", .builtin "proto.slot#set", .int 0 0], slots := #[] })
    (_X : Frag.In (KF w.params) s.heap),
    wpAny (model PySem.Challenge.rw_mr0138_02.prog w) AS (call (.ref C) [.int n tn])
      (fun v s' => ∃ x dx h' t', v = .ref x ∧ s' = ⟨h', s.gens, s.drawn, t', s.os⟩ ∧ Up s.heap h' ∧ h'.get? x = some (instK C dx n tn) ∧ s.heap.get? x = none) (fun _ _ => False) s := by
  k_fill
  intros
  x_run
end
theorem codeF_init (a r : Nat → Nat) (n : Int) : codeF "__init__" 26 a r n = { cls := .type "code", dict := none, data := .fields #[.str "__init__" (a 0), .str "cmp_to_key.<locals>.K.__init__" (a 1), .str "/claim/cut.py" (a 2), .int 26 0, .int 2 0, .int 0 0, .int 0 0, .int 19 0, .ref (r 8), .bool true, .int 181 0, .ref (r 11), .none, .ref (r 13), .ref (r 14), .ref (r 15), .int n 0, .int 26 0, .str "/claim/cut.py" (a 18)], slots := #[] } := by kernel_rfl
/-- key(n) -/
theorem key_call {w : World} {s : Shared} {C f : Addr} {n : Int} {tn : Tok} (X : (KF w.params).In s.heap) (M : KMade w s.heap C f) :
    wpAny (model PR w) AS (call (.ref C) [.int n tn]) (fun v s' => ∃ x dx h' t', v = .ref x ∧ s' = ⟨h', s.gens, s.drawn, t', s.os⟩ ∧ Up s.heap h' ∧ h'.get? x = some (instK C dx n tn) ∧ s.heap.get? x = none) (fun _ _ => False) s := by
  obtain ⟨NS, md, bT, sl, fI, fL, fG, fE, fLe, fGe, st, cell, cI, cL, ctL, k, a1, r1, a2, r2, n1, n2, t1, t2, tm, ta, tb, m1, m2, m3, m4, m5, m6, m7, m8⟩ := M
  exact x_key w s C NS bT fI fL fG fE fLe fGe sl st md cI k a1 r1 t1 t2 tm ta tb tn n1 n m1 m2 m4 (m7.trans (by rw [codeF_init])) m3 X
end Mine
end
section
open PySem PySem.W PySem.W.X PyProof.Rows PySem.Spec PySem.Calls
namespace Mine
theorem fork_same {α : Type} {M : Model} {A : Around} {Q : α → Shared → Prop} {E : Value → Shared → Prop} {s : Shared} {c : Prop} [Decidable c] {a : Sem α} {k : Value → Sem α} (h : wpAny M A a Q (fun _ _ => False) s) : wpAny M A (if c then a else tryCatch a k) Q E s := by
  by_cases q : c
  · rw [if_pos q]; exact wpAny_mono h (fun _ _ x => x) fun _ _ e => e.elim
  · rw [if_neg q]; exact wpAny_tryCatch (wpAny_mono h (fun _ _ x => x) fun _ _ e => e.elim)
set_option maxHeartbeats 4000000 in
theorem lt_ask (w : World) (A : Around) (h₀ h : Heap) (g : Array GenState) (d : Drawn) (t : Nat) (os : OsState) (v : Nat) (Q : Bool → Shared → Prop) (E : Value → Shared → Prop)
    (x dx y C NS bT sl fI fL fG fE fLe fGe st md cell cL : Addr) (ctL : Value) (k : Nat → Nat) (t1 t2 ta tb tn : Nat) (n : Int)
    (hK : ∀ h news, Led h₀ h news → (KF w.params).In h) (hu : A.units < cLine) (N : NamesOk (namesFrom v 20) h)
    (D : Led h₀ h [(x, instK C dx n tn), (fL, fnO (fnK 3 [(Str.ofString "mycmp", cell)] cL ctL)), (NS, nsOut w (kq w) k "cpy313.functools" 22 sl fI fL fG fE fLe fGe st md ta tb), (C, clsK C NS bT t1 t2)])
    (hC : ∀ h', Led h₀ h' [(x, instK C dx n tn), (fL, fnO (fnK 3 [(Str.ofString "mycmp", cell)] cL ctL)), (NS, nsOut w (kq w) k "cpy313.functools" 22 sl fI fL fG fE fLe fGe st md ta tb), (C, clsK C NS bT t1 t2)] → wpAny (model PR w) A (call (.ref fL) [.ref x, .ref y]) (PySem.W.BoolBack Q) E ⟨h', g, d, t, os⟩) :
    wpAny (model PR w) A (keyLt' oneType' (.ref x) (.ref y)) Q E ⟨h, g, d, t, os⟩ := by
  rw [keyLt'_oneType, oneLt'_eq]
  simp only [if_true]
  refine wpAny_bind (wpAny_cRoomFor hu ?_)
  refine wpAny_bind ?_
  refine wpAny_holding ?_
  refine wpAny_bind ?_
  refine wpAny_bind (chunkR hK 100 [4, 1, 1, 2] _ (some (Value.ref fL)) (ls := ⟨_, _⟩) D N (by kernel_rfl) (by kernel_rfl) fun h20 D20 N20 => ?_)
  refine wpAny_bind (wpAny_askSetting ?_)
  refine fork_same ?_
  refine chunkR hK 100 [3] _ (some (Value.ref fL, [Value.ref x])) (ls := ⟨_, _⟩) D20 N20 (by kernel_rfl) (by kernel_rfl) fun h21 D21 N21 => ?_
  show wpAny _ _ (call (.ref fL) [.ref x, .ref y] >>= _) _ _ _
  refine wpAny_bind (wpAny_mono (hC h21 D21) (fun a s' ha => ?_) fun _ _ e => e)
  refine wpAny_pure ?_
  cases a <;> first | exact ha.elim | skip
  exact wpAny_truthy_bool ha
end Mine
end
section
open PySem PySem.W PySem.W.X PyProof.Rows PySem.Spec PySem.Calls
namespace Mine
/-- the lambda of _law_middles: parameters, body, scope -/
noncomputable def lamE : Expr := match (PySem.Challenge.rw_mr0138_02.prog.main.body.drop 11).head? with
  | some (Stmt.FunctionDef _ _ (Stmt.Assign _ (Expr.Call _ (e :: _) _ _) _ :: _) _ _ _ _ _ _ _) => e
  | _ => .Name "" ⟨0, 0, 0, 0⟩
/-- the four marks -/
noncomputable def markE (i : Nat) : Expr := match (PySem.Challenge.rw_mr0138_02.prog.main.body.drop 12).head? with
  | some (Stmt.FunctionDef _ _ b _ _ _ _ _ _ _) => (match (b.drop 4).head? with
    | some (Stmt.For _ (Expr.List es _) _ _ _) => es.getD i (.Name "" ⟨0, 0, 0, 0⟩)
    | _ => .Name "" ⟨0, 0, 0, 0⟩)
  | _ => .Name "" ⟨0, 0, 0, 0⟩
noncomputable def lamD (e : Expr) (qual : Str) (cl : List (Str × Addr)) (c' : Addr) (ct pm : Value) : FuncData := match e with
  | .Lambda ps b sc _ => kla_fn "<lambda>" qual ps b sc cl pm (.ref c') ct
  | _ => default
noncomputable def markG : Nat → Int → Int
  | 0, n => n
  | 1, n => 0 - n
  | 2, n => Int.fmod n 3
  | _, n => Int.fmod n 2
theorem end_ltT {s : Shared} {h : Heap} {tk : Nat} {news : List (Addr × Obj)} {c : Prop} [Decidable c] (D : Mem s.heap h [] news) (e : c) :
    ∃ h' t', Value.bool true = .bool (decide c) ∧ (⟨h, s.gens, s.drawn, tk, s.os⟩ : Shared) = ⟨h', s.gens, s.drawn, t', s.os⟩ ∧ Up s.heap h' :=
  ⟨_, _, by rw [decide_eq_true e], rfl, memUp D⟩
theorem end_ltF {s : Shared} {h : Heap} {tk : Nat} {news : List (Addr × Obj)} {c : Prop} [Decidable c] (D : Mem s.heap h [] news) (e : ¬ c) :
    ∃ h' t', Value.bool false = .bool (decide c) ∧ (⟨h, s.gens, s.drawn, tk, s.os⟩ : Shared) = ⟨h', s.gens, s.drawn, t', s.os⟩ ∧ Up s.heap h' :=
  ⟨_, _, by rw [decide_eq_false e], rfl, memUp D⟩
section
local macro_rules | `(tactic| x_close) => `(tactic| first | exact end_ltT (by assumption) (by assumption) | exact end_ltF (by assumption) (by assumption))
set_option maxHeartbeats 0 in
theorem x_lt0 : ∀ (w : World) (s : Shared) (C NS bT fI fL fG fE fLe fGe sl st md cL cell x dx y dy f cf cm fm cfm : Addr) (k a1 r1 : Nat → Nat) (t1 t2 tm ta tb tn tn2 tq tq2 : Nat) (n1 n m : Int) (ctL ct ct2 pm pm2 a0 a02 : Value) (d1 d2 : Option Addr) (rest rest2 : List Value) (s1 s2 : Array (Option Value))
    (_hC : s.heap.get? C = some { cls := .type "type", dict := none, data := .cls { name := "K", bases := [.type "object"], mro := [.ref C, .type "object"], ns := NS, qualname := "cmp_to_key.<locals>.K", hasDict := false, slotNames := ["obj"] }, slots := #[some (.ref bT), none, some (.str "K" t1), some (.str "cmp_to_key.<locals>.K" t2), some (.builtin "object.__new__"), some (.bool false)] })
    (_hN : s.heap.get? NS = some { cls := .type "dict", dict := none, data := .dict #[⟨kq w 0, .str "__module__" (k 0), .str "cpy313.functools" (k 20)⟩, ⟨kq w 2, .str "__firstlineno__" (k 2), .int 22 (k 22)⟩, ⟨kq w 3, .str "__slots__" (k 3), .ref sl⟩, ⟨kq w 4, .str "__init__" (k 4), .ref fI⟩, ⟨kq w 5, .str "__lt__" (k 5), .ref fL⟩, ⟨kq w 6, .str "__gt__" (k 6), .ref fG⟩, ⟨kq w 7, .str "__eq__" (k 7), .ref fE⟩, ⟨kq w 8, .str "__le__" (k 8), .ref fLe⟩, ⟨kq w 9, .str "__ge__" (k 9), .ref fGe⟩, ⟨kq w 10, .str "__hash__" (k 10), .none⟩, ⟨kq w 11, .str "__static_attributes__" (k 11), .ref st⟩, ⟨hsK w "obj", .str "obj" ta, .ref md⟩, ⟨hsK w "__doc__", .str "__doc__" tb, .none⟩] 3, slots := #[] })
    (_hM : s.heap.get? md = some { cls := .type "member_descriptor", dict := none, data := .fields #[.str "obj" tm, .ref C, .builtin "proto.slot", .builtin "proto.slot#set", .int 0 0], slots := #[] })
    (_hL : s.heap.get? fL = some { cls := .type "function", dict := none, data := .func (fnK 3 [(Str.ofString "mycmp", cell)] cL ctL), slots := #[] })
    (_hcL : s.heap.get? cL = some { cls := .type "code", dict := none, data := .fields #[.str "__lt__" (a1 0), .str "cmp_to_key.<locals>.K.__lt__" (a1 1), .str "/claim/cut.py" (a1 2), .int 29 0, .int 2 0, .int 0 0, .int 0 0, .int 19 0, .ref (r1 8), .bool true, .int 181 0, .ref (r1 11), .none, .ref (r1 13), .ref (r1 14), .ref (r1 15), .int n1 0, .int 29 0, .str "/claim/cut.py" (a1 18)], slots := #[] })
    (_hx : s.heap.get? x = some { cls := .ref C, dict := some dx, data := .plain, slots := #[some (.int n tn)] })
    (_hy : s.heap.get? y = some { cls := .ref C, dict := some dy, data := .plain, slots := #[some (.int m tn2)] })
    (_hce : s.heap.get? cell = some { cls := .type "cell", dict := none, data := .cell (some (.ref f)), slots := #[] })
    (_hf : s.heap.get? f = some { cls := .type "function", dict := none, data := .func (lamD lamE "_law_middles.<locals>.<lambda>" [(Str.ofString "mark", cm)] cf ct pm), slots := #[] })
    (_hcf : s.heap.get? cf = some { cls := .type "code", dict := d1, data := .fields ⟨a0 :: .str "_law_middles.<locals>.<lambda>" tq :: rest⟩, slots := s1 })
    (_hcm : s.heap.get? cm = some { cls := .type "cell", dict := none, data := .cell (some (.ref fm)), slots := #[] })
    (_hfm : s.heap.get? fm = some { cls := .type "function", dict := none, data := .func (lamD (markE 0) "law.<locals>.<lambda>" [] cfm ct2 pm2), slots := #[] })
    (_hcfm : s.heap.get? cfm = some { cls := .type "code", dict := d2, data := .fields ⟨a02 :: .str "law.<locals>.<lambda>" tq2 :: rest2⟩, slots := s2 })
    (_X : Frag.In (KF w.params) s.heap),
    wpAny (model PySem.Challenge.rw_mr0138_02.prog w) AS (call (.ref fL) [.ref x, .ref y])
      (fun v s' => ∃ h' t', v = .bool (decide (markG 0 n - markG 0 m < 0)) ∧ s' = ⟨h', s.gens, s.drawn, t', s.os⟩ ∧ Up s.heap h') (fun _ _ => False) s := by
  k_fill
  intros
  x_run
set_option maxHeartbeats 0 in
theorem x_lt1 : ∀ (w : World) (s : Shared) (C NS bT fI fL fG fE fLe fGe sl st md cL cell x dx y dy f cf cm fm cfm : Addr) (k a1 r1 : Nat → Nat) (t1 t2 tm ta tb tn tn2 tq tq2 : Nat) (n1 n m : Int) (ctL ct ct2 pm pm2 a0 a02 : Value) (d1 d2 : Option Addr) (rest rest2 : List Value) (s1 s2 : Array (Option Value))
    (_hC : s.heap.get? C = some { cls := .type "type", dict := none, data := .cls { name := "K", bases := [.type "object"], mro := [.ref C, .type "object"], ns := NS, qualname := "cmp_to_key.<locals>.K", hasDict := false, slotNames := ["obj"] }, slots := #[some (.ref bT), none, some (.str "K" t1), some (.str "cmp_to_key.<locals>.K" t2), some (.builtin "object.__new__"), some (.bool false)] })
    (_hN : s.heap.get? NS = some { cls := .type "dict", dict := none, data := .dict #[⟨kq w 0, .str "__module__" (k 0), .str "cpy313.functools" (k 20)⟩, ⟨kq w 2, .str "__firstlineno__" (k 2), .int 22 (k 22)⟩, ⟨kq w 3, .str "__slots__" (k 3), .ref sl⟩, ⟨kq w 4, .str "__init__" (k 4), .ref fI⟩, ⟨kq w 5, .str "__lt__" (k 5), .ref fL⟩, ⟨kq w 6, .str "__gt__" (k 6), .ref fG⟩, ⟨kq w 7, .str "__eq__" (k 7), .ref fE⟩, ⟨kq w 8, .str "__le__" (k 8), .ref fLe⟩, ⟨kq w 9, .str "__ge__" (k 9), .ref fGe⟩, ⟨kq w 10, .str "__hash__" (k 10), .none⟩, ⟨kq w 11, .str "__static_attributes__" (k 11), .ref st⟩, ⟨hsK w "obj", .str "obj" ta, .ref md⟩, ⟨hsK w "__doc__", .str "__doc__" tb, .none⟩] 3, slots := #[] })
    (_hM : s.heap.get? md = some { cls := .type "member_descriptor", dict := none, data := .fields #[.str "obj" tm, .ref C, .builtin "proto.slot", .builtin "proto.slot#set", .int 0 0], slots := #[] })
    (_hL : s.heap.get? fL = some { cls := .type "function", dict := none, data := .func (fnK 3 [(Str.ofString "mycmp", cell)] cL ctL), slots := #[] })
    (_hcL : s.heap.get? cL = some { cls := .type "code", dict := none, data := .fields #[.str "__lt__" (a1 0), .str "cmp_to_key.<locals>.K.__lt__" (a1 1), .str "/claim/cut.py" (a1 2), .int 29 0, .int 2 0, .int 0 0, .int 0 0, .int 19 0, .ref (r1 8), .bool true, .int 181 0, .ref (r1 11), .none, .ref (r1 13), .ref (r1 14), .ref (r1 15), .int n1 0, .int 29 0, .str "/claim/cut.py" (a1 18)], slots := #[] })
    (_hx : s.heap.get? x = some { cls := .ref C, dict := some dx, data := .plain, slots := #[some (.int n tn)] })
    (_hy : s.heap.get? y = some { cls := .ref C, dict := some dy, data := .plain, slots := #[some (.int m tn2)] })
    (_hce : s.heap.get? cell = some { cls := .type "cell", dict := none, data := .cell (some (.ref f)), slots := #[] })
    (_hf : s.heap.get? f = some { cls := .type "function", dict := none, data := .func (lamD lamE "_law_middles.<locals>.<lambda>" [(Str.ofString "mark", cm)] cf ct pm), slots := #[] })
    (_hcf : s.heap.get? cf = some { cls := .type "code", dict := d1, data := .fields ⟨a0 :: .str "_law_middles.<locals>.<lambda>" tq :: rest⟩, slots := s1 })
    (_hcm : s.heap.get? cm = some { cls := .type "cell", dict := none, data := .cell (some (.ref fm)), slots := #[] })
    (_hfm : s.heap.get? fm = some { cls := .type "function", dict := none, data := .func (lamD (markE 1) "law.<locals>.<lambda>" [] cfm ct2 pm2), slots := #[] })
    (_hcfm : s.heap.get? cfm = some { cls := .type "code", dict := d2, data := .fields ⟨a02 :: .str "law.<locals>.<lambda>" tq2 :: rest2⟩, slots := s2 })
    (_X : Frag.In (KF w.params) s.heap),
    wpAny (model PySem.Challenge.rw_mr0138_02.prog w) AS (call (.ref fL) [.ref x, .ref y])
      (fun v s' => ∃ h' t', v = .bool (decide (markG 1 n - markG 1 m < 0)) ∧ s' = ⟨h', s.gens, s.drawn, t', s.os⟩ ∧ Up s.heap h') (fun _ _ => False) s := by
  k_fill
  intros
  x_run
set_option maxHeartbeats 0 in
theorem x_lt2 : ∀ (w : World) (s : Shared) (C NS bT fI fL fG fE fLe fGe sl st md cL cell x dx y dy f cf cm fm cfm : Addr) (k a1 r1 : Nat → Nat) (t1 t2 tm ta tb tn tn2 tq tq2 : Nat) (n1 n m : Int) (ctL ct ct2 pm pm2 a0 a02 : Value) (d1 d2 : Option Addr) (rest rest2 : List Value) (s1 s2 : Array (Option Value))
    (_hC : s.heap.get? C = some { cls := .type "type", dict := none, data := .cls { name := "K", bases := [.type "object"], mro := [.ref C, .type "object"], ns := NS, qualname := "cmp_to_key.<locals>.K", hasDict := false, slotNames := ["obj"] }, slots := #[some (.ref bT), none, some (.str "K" t1), some (.str "cmp_to_key.<locals>.K" t2), some (.builtin "object.__new__"), some (.bool false)] })
    (_hN : s.heap.get? NS = some { cls := .type "dict", dict := none, data := .dict #[⟨kq w 0, .str "__module__" (k 0), .str "cpy313.functools" (k 20)⟩, ⟨kq w 2, .str "__firstlineno__" (k 2), .int 22 (k 22)⟩, ⟨kq w 3, .str "__slots__" (k 3), .ref sl⟩, ⟨kq w 4, .str "__init__" (k 4), .ref fI⟩, ⟨kq w 5, .str "__lt__" (k 5), .ref fL⟩, ⟨kq w 6, .str "__gt__" (k 6), .ref fG⟩, ⟨kq w 7, .str "__eq__" (k 7), .ref fE⟩, ⟨kq w 8, .str "__le__" (k 8), .ref fLe⟩, ⟨kq w 9, .str "__ge__" (k 9), .ref fGe⟩, ⟨kq w 10, .str "__hash__" (k 10), .none⟩, ⟨kq w 11, .str "__static_attributes__" (k 11), .ref st⟩, ⟨hsK w "obj", .str "obj" ta, .ref md⟩, ⟨hsK w "__doc__", .str "__doc__" tb, .none⟩] 3, slots := #[] })
    (_hM : s.heap.get? md = some { cls := .type "member_descriptor", dict := none, data := .fields #[.str "obj" tm, .ref C, .builtin "proto.slot", .builtin "proto.slot#set", .int 0 0], slots := #[] })
    (_hL : s.heap.get? fL = some { cls := .type "function", dict := none, data := .func (fnK 3 [(Str.ofString "mycmp", cell)] cL ctL), slots := #[] })
    (_hcL : s.heap.get? cL = some { cls := .type "code", dict := none, data := .fields #[.str "__lt__" (a1 0), .str "cmp_to_key.<locals>.K.__lt__" (a1 1), .str "/claim/cut.py" (a1 2), .int 29 0, .int 2 0, .int 0 0, .int 0 0, .int 19 0, .ref (r1 8), .bool true, .int 181 0, .ref (r1 11), .none, .ref (r1 13), .ref (r1 14), .ref (r1 15), .int n1 0, .int 29 0, .str "/claim/cut.py" (a1 18)], slots := #[] })
    (_hx : s.heap.get? x = some { cls := .ref C, dict := some dx, data := .plain, slots := #[some (.int n tn)] })
    (_hy : s.heap.get? y = some { cls := .ref C, dict := some dy, data := .plain, slots := #[some (.int m tn2)] })
    (_hce : s.heap.get? cell = some { cls := .type "cell", dict := none, data := .cell (some (.ref f)), slots := #[] })
    (_hf : s.heap.get? f = some { cls := .type "function", dict := none, data := .func (lamD lamE "_law_middles.<locals>.<lambda>" [(Str.ofString "mark", cm)] cf ct pm), slots := #[] })
    (_hcf : s.heap.get? cf = some { cls := .type "code", dict := d1, data := .fields ⟨a0 :: .str "_law_middles.<locals>.<lambda>" tq :: rest⟩, slots := s1 })
    (_hcm : s.heap.get? cm = some { cls := .type "cell", dict := none, data := .cell (some (.ref fm)), slots := #[] })
    (_hfm : s.heap.get? fm = some { cls := .type "function", dict := none, data := .func (lamD (markE 2) "law.<locals>.<lambda>" [] cfm ct2 pm2), slots := #[] })
    (_hcfm : s.heap.get? cfm = some { cls := .type "code", dict := d2, data := .fields ⟨a02 :: .str "law.<locals>.<lambda>" tq2 :: rest2⟩, slots := s2 })
    (_X : Frag.In (KF w.params) s.heap),
    wpAny (model PySem.Challenge.rw_mr0138_02.prog w) AS (call (.ref fL) [.ref x, .ref y])
      (fun v s' => ∃ h' t', v = .bool (decide (markG 2 n - markG 2 m < 0)) ∧ s' = ⟨h', s.gens, s.drawn, t', s.os⟩ ∧ Up s.heap h') (fun _ _ => False) s := by
  k_fill
  intros
  x_run
set_option maxHeartbeats 0 in
theorem x_lt3 : ∀ (w : World) (s : Shared) (C NS bT fI fL fG fE fLe fGe sl st md cL cell x dx y dy f cf cm fm cfm : Addr) (k a1 r1 : Nat → Nat) (t1 t2 tm ta tb tn tn2 tq tq2 : Nat) (n1 n m : Int) (ctL ct ct2 pm pm2 a0 a02 : Value) (d1 d2 : Option Addr) (rest rest2 : List Value) (s1 s2 : Array (Option Value))
    (_hC : s.heap.get? C = some { cls := .type "type", dict := none, data := .cls { name := "K", bases := [.type "object"], mro := [.ref C, .type "object"], ns := NS, qualname := "cmp_to_key.<locals>.K", hasDict := false, slotNames := ["obj"] }, slots := #[some (.ref bT), none, some (.str "K" t1), some (.str "cmp_to_key.<locals>.K" t2), some (.builtin "object.__new__"), some (.bool false)] })
    (_hN : s.heap.get? NS = some { cls := .type "dict", dict := none, data := .dict #[⟨kq w 0, .str "__module__" (k 0), .str "cpy313.functools" (k 20)⟩, ⟨kq w 2, .str "__firstlineno__" (k 2), .int 22 (k 22)⟩, ⟨kq w 3, .str "__slots__" (k 3), .ref sl⟩, ⟨kq w 4, .str "__init__" (k 4), .ref fI⟩, ⟨kq w 5, .str "__lt__" (k 5), .ref fL⟩, ⟨kq w 6, .str "__gt__" (k 6), .ref fG⟩, ⟨kq w 7, .str "__eq__" (k 7), .ref fE⟩, ⟨kq w 8, .str "__le__" (k 8), .ref fLe⟩, ⟨kq w 9, .str "__ge__" (k 9), .ref fGe⟩, ⟨kq w 10, .str "__hash__" (k 10), .none⟩, ⟨kq w 11, .str "__static_attributes__" (k 11), .ref st⟩, ⟨hsK w "obj", .str "obj" ta, .ref md⟩, ⟨hsK w "__doc__", .str "__doc__" tb, .none⟩] 3, slots := #[] })
    (_hM : s.heap.get? md = some { cls := .type "member_descriptor", dict := none, data := .fields #[.str "obj" tm, .ref C, .builtin "proto.slot", .builtin "proto.slot#set", .int 0 0], slots := #[] })
    (_hL : s.heap.get? fL = some { cls := .type "function", dict := none, data := .func (fnK 3 [(Str.ofString "mycmp", cell)] cL ctL), slots := #[] })
    (_hcL : s.heap.get? cL = some { cls := .type "code", dict := none, data := .fields #[.str "__lt__" (a1 0), .str "cmp_to_key.<locals>.K.__lt__" (a1 1), .str "/claim/cut.py" (a1 2), .int 29 0, .int 2 0, .int 0 0, .int 0 0, .int 19 0, .ref (r1 8), .bool true, .int 181 0, .ref (r1 11), .none, .ref (r1 13), .ref (r1 14), .ref (r1 15), .int n1 0, .int 29 0, .str "/claim/cut.py" (a1 18)], slots := #[] })
    (_hx : s.heap.get? x = some { cls := .ref C, dict := some dx, data := .plain, slots := #[some (.int n tn)] })
    (_hy : s.heap.get? y = some { cls := .ref C, dict := some dy, data := .plain, slots := #[some (.int m tn2)] })
    (_hce : s.heap.get? cell = some { cls := .type "cell", dict := none, data := .cell (some (.ref f)), slots := #[] })
    (_hf : s.heap.get? f = some { cls := .type "function", dict := none, data := .func (lamD lamE "_law_middles.<locals>.<lambda>" [(Str.ofString "mark", cm)] cf ct pm), slots := #[] })
    (_hcf : s.heap.get? cf = some { cls := .type "code", dict := d1, data := .fields ⟨a0 :: .str "_law_middles.<locals>.<lambda>" tq :: rest⟩, slots := s1 })
    (_hcm : s.heap.get? cm = some { cls := .type "cell", dict := none, data := .cell (some (.ref fm)), slots := #[] })
    (_hfm : s.heap.get? fm = some { cls := .type "function", dict := none, data := .func (lamD (markE 3) "law.<locals>.<lambda>" [] cfm ct2 pm2), slots := #[] })
    (_hcfm : s.heap.get? cfm = some { cls := .type "code", dict := d2, data := .fields ⟨a02 :: .str "law.<locals>.<lambda>" tq2 :: rest2⟩, slots := s2 })
    (_X : Frag.In (KF w.params) s.heap),
    wpAny (model PySem.Challenge.rw_mr0138_02.prog w) AS (call (.ref fL) [.ref x, .ref y])
      (fun v s' => ∃ h' t', v = .bool (decide (markG 3 n - markG 3 m < 0)) ∧ s' = ⟨h', s.gens, s.drawn, t', s.os⟩ ∧ Up s.heap h') (fun _ _ => False) s := by
  k_fill
  intros
  x_run
end
end Mine
end
section
open PySem PySem.W PySem.W.X PyProof.Rows PySem.Spec PySem.Calls
namespace Mine
theorem end_mk {s : Shared} {h : Heap} {tk u : Nat} {news : List (Addr × Obj)} {b c : Int} (D : Mem s.heap h [] news) (e : b = c) :
    ∃ h' t' u', Value.int b u = .int c u' ∧ (⟨h, s.gens, s.drawn, tk, s.os⟩ : Shared) = ⟨h', s.gens, s.drawn, t', s.os⟩ ∧ Up s.heap h' :=
  ⟨_, _, _, by rw [e], rfl, memUp D⟩
section
local macro_rules | `(tactic| x_close) => `(tactic| exact end_mk (by assumption) rfl)
set_option maxHeartbeats 0 in
theorem x_mark0 : ∀ (w : World) (s : Shared) (fm cfm : Addr) (tn tq2 : Nat) (n : Int) (ct2 pm2 a02 : Value) (d2 : Option Addr) (rest2 : List Value) (s2 : Array (Option Value))
    (_hfm : s.heap.get? fm = some { cls := .type "function", dict := none, data := .func (lamD (markE 0) "law.<locals>.<lambda>" [] cfm ct2 pm2), slots := #[] })
    (_hcfm : s.heap.get? cfm = some { cls := .type "code", dict := d2, data := .fields ⟨a02 :: .str "law.<locals>.<lambda>" tq2 :: rest2⟩, slots := s2 })
    (_X : Frag.In (KF w.params) s.heap),
    wpAny (model PySem.Challenge.rw_mr0138_02.prog w) AS (call (.ref fm) [.int n tn])
      (fun v s' => ∃ h' t' u, v = .int (markG 0 n) u ∧ s' = ⟨h', s.gens, s.drawn, t', s.os⟩ ∧ Up s.heap h') (fun _ _ => False) s := by
  k_fill
  intros
  x_run
set_option maxHeartbeats 0 in
theorem x_mark1 : ∀ (w : World) (s : Shared) (fm cfm : Addr) (tn tq2 : Nat) (n : Int) (ct2 pm2 a02 : Value) (d2 : Option Addr) (rest2 : List Value) (s2 : Array (Option Value))
    (_hfm : s.heap.get? fm = some { cls := .type "function", dict := none, data := .func (lamD (markE 1) "law.<locals>.<lambda>" [] cfm ct2 pm2), slots := #[] })
    (_hcfm : s.heap.get? cfm = some { cls := .type "code", dict := d2, data := .fields ⟨a02 :: .str "law.<locals>.<lambda>" tq2 :: rest2⟩, slots := s2 })
    (_X : Frag.In (KF w.params) s.heap),
    wpAny (model PySem.Challenge.rw_mr0138_02.prog w) AS (call (.ref fm) [.int n tn])
      (fun v s' => ∃ h' t' u, v = .int (markG 1 n) u ∧ s' = ⟨h', s.gens, s.drawn, t', s.os⟩ ∧ Up s.heap h') (fun _ _ => False) s := by
  k_fill
  intros
  x_run
set_option maxHeartbeats 0 in
theorem x_mark2 : ∀ (w : World) (s : Shared) (fm cfm : Addr) (tn tq2 : Nat) (n : Int) (ct2 pm2 a02 : Value) (d2 : Option Addr) (rest2 : List Value) (s2 : Array (Option Value))
    (_hfm : s.heap.get? fm = some { cls := .type "function", dict := none, data := .func (lamD (markE 2) "law.<locals>.<lambda>" [] cfm ct2 pm2), slots := #[] })
    (_hcfm : s.heap.get? cfm = some { cls := .type "code", dict := d2, data := .fields ⟨a02 :: .str "law.<locals>.<lambda>" tq2 :: rest2⟩, slots := s2 })
    (_X : Frag.In (KF w.params) s.heap),
    wpAny (model PySem.Challenge.rw_mr0138_02.prog w) AS (call (.ref fm) [.int n tn])
      (fun v s' => ∃ h' t' u, v = .int (markG 2 n) u ∧ s' = ⟨h', s.gens, s.drawn, t', s.os⟩ ∧ Up s.heap h') (fun _ _ => False) s := by
  k_fill
  intros
  x_run
set_option maxHeartbeats 0 in
theorem x_mark3 : ∀ (w : World) (s : Shared) (fm cfm : Addr) (tn tq2 : Nat) (n : Int) (ct2 pm2 a02 : Value) (d2 : Option Addr) (rest2 : List Value) (s2 : Array (Option Value))
    (_hfm : s.heap.get? fm = some { cls := .type "function", dict := none, data := .func (lamD (markE 3) "law.<locals>.<lambda>" [] cfm ct2 pm2), slots := #[] })
    (_hcfm : s.heap.get? cfm = some { cls := .type "code", dict := d2, data := .fields ⟨a02 :: .str "law.<locals>.<lambda>" tq2 :: rest2⟩, slots := s2 })
    (_X : Frag.In (KF w.params) s.heap),
    wpAny (model PySem.Challenge.rw_mr0138_02.prog w) AS (call (.ref fm) [.int n tn])
      (fun v s' => ∃ h' t' u, v = .int (markG 3 n) u ∧ s' = ⟨h', s.gens, s.drawn, t', s.os⟩ ∧ Up s.heap h') (fun _ _ => False) s := by
  k_fill
  intros
  x_run
end
end Mine
end
section
open PySem PySem.W PyProof.Rows
namespace Mine
/-- the tree of questions, answered by a key -/
noncomputable def kev {α : Type} (lt : Nat → Nat → Bool) : KasT α → α
  | .ret a => a
  | .ask i j k => kev lt (k (lt i j))
theorem kev_bind {α β : Type} (lt : Nat → Nat → Bool) (f : α → KasT β) : ∀ t : KasT α, kev lt (t.bind f) = kev lt (f (kev lt t))
  | .ret _ => rfl
  | .ask i j k => kev_bind lt f (k (lt i j))

section
variable (key : Nat → Int)
noncomputable def klt (i j : Nat) : Bool := decide (key i < key j)
noncomputable def kk (p : Array Nat) (i : Nat) : Int := key (p.getD i 0)
noncomputable def Ris (p : Array Nat) (n : Nat) : Prop := ∀ i j, i ≤ j → j < n → kk key p i ≤ kk key p j
noncomputable def Fal (p : Array Nat) (n : Nat) : Prop := ∀ i j, i ≤ j → j < n → kk key p j ≤ kk key p i
variable {key}
theorem klt_t {p : Array Nat} {i j : Nat} (h : kk key p i < kk key p j) : klt key (p.getD i 0) (p.getD j 0) = true := decide_eq_true h
theorem klt_f {p : Array Nat} {i j : Nat} (h : ¬ kk key p i < kk key p j) : ¬ klt key (p.getD i 0) (p.getD j 0) = true := fun e => h (of_decide_eq_true e)
theorem getD_congr {p q : Array Nat} {i j : Nat} (h : p[i]? = q[j]?) : p.getD i 0 = q.getD j 0 := by
  rw [Array.getD_eq_getD_getElem?, Array.getD_eq_getD_getElem?, h]
theorem kk_congr {p q : Array Nat} {i j : Nat} (h : p[i]? = q[j]?) : kk key p i = kk key q j := by
  unfold kk; rw [getD_congr h]
theorem kk_rev {p : Array Nat} {i j : Nat} (hj : j ≤ p.size) (k : Nat) : kk key (kas_rev p i j) k = if i ≤ k ∧ k < j then kk key p (i + j - 1 - k) else kk key p k := by
  have e := getElem?_mirror_all (i := i) hj k
  unfold kas_rev
  by_cases h : i ≤ k ∧ k < j
  · rw [if_pos h] at e ⊢; exact kk_congr e
  · rw [if_neg h] at e ⊢; exact kk_congr e
theorem kk_bubble {p : Array Nat} {src d : Nat} (hs : src < p.size) (hd : d ≤ src) (k : Nat) :
    kk key (bubble p src d) k = if k = src - d then kk key p src else if src - d < k ∧ k ≤ src then kk key p (k - 1) else kk key p k := by
  have e := getElem?_bubble hs d hd k
  by_cases h1 : k = src - d
  · rw [if_pos h1] at e ⊢; exact kk_congr e
  · rw [if_neg h1] at e ⊢
    by_cases h2 : src - d < k ∧ k ≤ src
    · rw [if_pos h2] at e ⊢; exact kk_congr e
    · rw [if_neg h2] at e ⊢; exact kk_congr e
theorem rev_perm (p : Array Nat) (i j : Nat) : (kas_rev p i j).Perm p := mirror_perm _ _ _ _
theorem rev_size (p : Array Nat) (i j : Nat) : (kas_rev p i j).size = p.size := mirror_size _ _ _ _

theorem Ris.succ {p : Array Nat} {n : Nat} (h1 : 1 ≤ n) (h : Ris key p n) (hn : kk key p (n - 1) ≤ kk key p n) : Ris key p (n + 1) := by
  intro i j hij hj
  rcases Nat.lt_or_eq_of_le (Nat.le_of_lt_succ hj) with q | q
  · exact h i j hij q
  · subst q
    rcases Nat.lt_or_eq_of_le hij with r | r
    · have := h i (j - 1) (by omega) (by omega); omega
    · subst r; exact Int.le_refl _
theorem Fal.succ {p : Array Nat} {n : Nat} (h1 : 1 ≤ n) (h : Fal key p n) (hn : kk key p n ≤ kk key p (n - 1)) : Fal key p (n + 1) := by
  intro i j hij hj
  rcases Nat.lt_or_eq_of_le (Nat.le_of_lt_succ hj) with q | q
  · exact h i j hij q
  · subst q
    rcases Nat.lt_or_eq_of_le hij with r | r
    · have := h i (j - 1) (by omega) (by omega); omega
    · subst r; exact Int.le_refl _
theorem Ris.one (p : Array Nat) : Ris key p 1 := fun i j hij hj => by
  obtain rfl : i = 0 := by omega
  obtain rfl : j = 0 := by omega
  exact Int.le_refl _
theorem Fal.one (p : Array Nat) : Fal key p 1 := fun i j hij hj => by
  obtain rfl : i = 0 := by omega
  obtain rfl : j = 0 := by omega
  exact Int.le_refl _

theorem asc_spec (p : Array Nat) : ∀ (f n : Nat), 1 ≤ n → Ris key p n →
    n ≤ kev (klt key) (kas_asc p f n) ∧ kev (klt key) (kas_asc p f n) ≤ n + f ∧ Ris key p (kev (klt key) (kas_asc p f n)) ∧
    (kev (klt key) (kas_asc p f n) = n + f ∨ kk key p (kev (klt key) (kas_asc p f n)) < kk key p (kev (klt key) (kas_asc p f n) - 1))
  | 0, n, h1, h => ⟨Nat.le_refl _, Nat.le_refl _, h, .inl rfl⟩
  | f + 1, n, h1, h => by
    have e : kev (klt key) (kas_asc p (f + 1) n) = if kk key p n < kk key p (n - 1) then n else kev (klt key) (kas_asc p f (n + 1)) := by
      show kev (klt key) (if klt key (p.getD n 0) (p.getD (n - 1) 0) = true then KasT.ret n else kas_asc p f (n + 1)) = _
      by_cases q : kk key p n < kk key p (n - 1)
      · rw [if_pos q, if_pos (klt_t q)]; rfl
      · rw [if_neg q, if_neg (klt_f q)]
    rw [e]
    by_cases q : kk key p n < kk key p (n - 1)
    · rw [if_pos q]
      exact ⟨Nat.le_refl _, by omega, h, .inr q⟩
    · rw [if_neg q]
      obtain ⟨a, b, c, d⟩ := asc_spec p f (n + 1) (by omega) (h.succ h1 (by omega))
      exact ⟨by omega, by omega, c, d.elim (fun x => .inl (by omega)) .inr⟩

/-- the last q + 1 of the first n are alike -/
noncomputable def Lik (key : Nat → Int) (p : Array Nat) (n q : Nat) : Prop := q < n ∧ ∀ k, n - 1 - q ≤ k → k < n → kk key p k = kk key p (n - 1)
theorem rev_alike {p : Array Nat} {n q : Nat} (hn : n ≤ p.size) (h : Lik key p n q) (k : Nat) : kk key (kas_rev p (n - (q + 1)) n) k = kk key p k := by
  rw [kk_rev hn]
  have hq := h.1
  split
  · rename_i c
    rw [h.2 _ (by omega) (by omega), h.2 k (by omega) (by omega)]
  · rfl
theorem Fal.of_kk {p p' : Array Nat} {n : Nat} (h : Fal key p n) (e : ∀ k, kk key p' k = kk key p k) : Fal key p' n := fun i j a b => by rw [e, e]; exact h i j a b

theorem desc_spec : ∀ (f : Nat) (p : Array Nat) (n q : Nat), 1 ≤ n → n + f ≤ p.size → Fal key p n → Lik key p n q →
    ∃ p' n' q', kev (klt key) (kas_desc f p n q) = (p', n', q') ∧ p'.Perm p ∧ n ≤ n' ∧ n' ≤ n + f ∧ Fal key p' n' ∧ Lik key p' n' q'
  | 0, p, n, q, h1, hs, hf, hl => ⟨p, n, q, rfl, Array.Perm.refl _, Nat.le_refl _, Nat.le_refl _, hf, hl⟩
  | f + 1, p, n, q, h1, hs, hf, hl => by
    have e : kev (klt key) (kas_desc (f + 1) p n q) = if kk key p n < kk key p (n - 1) then (if q > 0 then kev (klt key) (kas_desc f (kas_rev p (n - (q + 1)) n) (n + 1) 0) else kev (klt key) (kas_desc f p (n + 1) 0))
        else if kk key p (n - 1) < kk key p n then (p, n, q) else kev (klt key) (kas_desc f p (n + 1) (q + 1)) := by
      show kev (klt key) (if klt key (p.getD n 0) (p.getD (n - 1) 0) = true then (if q > 0 then kas_desc f (kas_rev p (n - (q + 1)) n) (n + 1) 0 else kas_desc f p (n + 1) 0)
        else KasT.ask (p.getD (n - 1) 0) (p.getD n 0) fun d => if d = true then KasT.ret (p, n, q) else kas_desc f p (n + 1) (q + 1)) = _
      by_cases c : kk key p n < kk key p (n - 1)
      · rw [if_pos c, if_pos (klt_t c)]
        by_cases hq : q > 0
        · rw [if_pos hq, if_pos hq]
        · rw [if_neg hq, if_neg hq]
      · rw [if_neg c, if_neg (klt_f c)]
        show kev (klt key) (if klt key (p.getD (n - 1) 0) (p.getD n 0) = true then KasT.ret (p, n, q) else kas_desc f p (n + 1) (q + 1)) = _
        by_cases d : kk key p (n - 1) < kk key p n
        · rw [if_pos d, if_pos (klt_t d)]; rfl
        · rw [if_neg d, if_neg (klt_f d)]
    rw [e]
    by_cases c : kk key p n < kk key p (n - 1)
    · rw [if_pos c]
      by_cases hq : q > 0
      · rw [if_pos hq]
        have ek := rev_alike (key := key) (by omega : n ≤ p.size) hl
        have hf' : Fal key (kas_rev p (n - (q + 1)) n) (n + 1) := (hf.succ h1 (by omega)).of_kk ek
        obtain ⟨p', n', q', a1, a2, a3, a4, a5, a6⟩ := desc_spec f (kas_rev p (n - (q + 1)) n) (n + 1) 0 (by omega) (by rw [rev_size]; omega) hf' ⟨by omega, fun k b1 b2 => by
          obtain rfl : k = n + 1 - 1 := by omega
          rfl⟩
        exact ⟨p', n', q', a1, a2.trans (rev_perm _ _ _), by omega, by omega, a5, a6⟩
      · rw [if_neg hq]
        obtain ⟨p', n', q', a1, a2, a3, a4, a5, a6⟩ := desc_spec f p (n + 1) 0 (by omega) (by omega) (hf.succ h1 (by omega)) ⟨by omega, fun k b1 b2 => by
          obtain rfl : k = n + 1 - 1 := by omega
          rfl⟩
        exact ⟨p', n', q', a1, a2, by omega, by omega, a5, a6⟩
    · rw [if_neg c]
      by_cases d : kk key p (n - 1) < kk key p n
      · rw [if_pos d]
        exact ⟨p, n, q, rfl, Array.Perm.refl _, Nat.le_refl _, by omega, hf, hl⟩
      · rw [if_neg d]
        have eq : kk key p n = kk key p (n - 1) := by omega
        obtain ⟨p', n', q', a1, a2, a3, a4, a5, a6⟩ := desc_spec f p (n + 1) (q + 1) (by omega) (by omega) (hf.succ h1 (by omega)) ⟨by have := hl.1; omega, fun k b1 b2 => by
          show kk key p k = kk key p n
          rcases Nat.lt_or_eq_of_le (Nat.le_of_lt_succ b2) with r | r
          · rw [hl.2 k (by omega) r, eq]
          · rw [r]⟩
        exact ⟨p', n', q', a1, a2, by omega, by omega, a5, a6⟩

theorem tail3_spec {n nrem : Nat} {p : Array Nat} (h1 : 1 ≤ n) (hn : n ≤ nrem) (hz : nrem ≤ p.size) (hf : Fal key p n) :
    ∃ m p', kev (klt key) (kas_tail3 n nrem p) = (m, p') ∧ p'.Perm p ∧ 1 ≤ m ∧ m ≤ nrem ∧ Ris key p' m := by
  have hr : Ris key (kas_rev p 0 n) n := fun i j hij hj => by
    rw [kk_rev (by omega), kk_rev (by omega), if_pos (by omega), if_pos (by omega)]
    exact hf _ _ (by omega) (by omega)
  obtain ⟨a, b, c, _⟩ := asc_spec (key := key) (kas_rev p 0 n) (nrem - n) n h1 hr
  refine ⟨_, _, by unfold kas_tail3; rw [kev_bind]; rfl, rev_perm _ _ _, by omega, by omega, c⟩
theorem descPart_spec {n nrem : Nat} {p : Array Nat} (h1 : 1 ≤ n) (hn : n + 1 ≤ nrem) (hz : nrem ≤ p.size) (hf : Fal key p (n + 1)) :
    ∃ m p', kev (klt key) (kas_descPart n nrem p) = (m, p') ∧ p'.Perm p ∧ 1 ≤ m ∧ m ≤ nrem ∧ Ris key p' m := by
  obtain ⟨p', n', q', a1, a2, a3, a4, a5, a6⟩ := desc_spec (key := key) (nrem - (n + 1)) p (n + 1) 0 (by omega) (by omega) hf ⟨by omega, fun k b1 b2 => by
    obtain rfl : k = n + 1 - 1 := by omega
    rfl⟩
  have hz' : nrem ≤ p'.size := by rw [a2.size_eq]; exact hz
  unfold kas_descPart
  rw [kev_bind, a1]
  by_cases hq : q' > 0
  · show ∃ m p'', kev (klt key) (if q' > 0 then kas_tail3 n' nrem (kas_rev p' (n' - (q' + 1)) n') else kas_tail3 n' nrem p') = (m, p'') ∧ _
    rw [if_pos hq]
    obtain ⟨m, p2, b1, b2, b3⟩ := tail3_spec (key := key) (p := kas_rev p' (n' - (q' + 1)) n') (by omega : 1 ≤ n') (by omega : n' ≤ nrem) (by rw [rev_size]; omega) (a5.of_kk (rev_alike (by omega) a6))
    exact ⟨m, p2, b1, b2.trans ((rev_perm _ _ _).trans a2), b3⟩
  · show ∃ m p'', kev (klt key) (if q' > 0 then kas_tail3 n' nrem (kas_rev p' (n' - (q' + 1)) n') else kas_tail3 n' nrem p') = (m, p'') ∧ _
    rw [if_neg hq]
    obtain ⟨m, p2, b1, b2, b3⟩ := tail3_spec (key := key) (p := p') (by omega : 1 ≤ n') (by omega : n' ≤ nrem) hz' a5
    exact ⟨m, p2, b1, b2.trans a2, b3⟩
theorem count_spec {nrem : Nat} {p : Array Nat} (h1 : 1 ≤ nrem) (hz : nrem ≤ p.size) :
    ∃ m p', kev (klt key) (kas_count nrem p) = (m, p') ∧ p'.Perm p ∧ 1 ≤ m ∧ m ≤ nrem ∧ Ris key p' m := by
  obtain ⟨a, b, c, d⟩ := asc_spec (key := key) p (nrem - 1) 1 (Nat.le_refl _) (Ris.one p)
  unfold kas_count
  rw [kev_bind]
  generalize kev (klt key) (kas_asc p (nrem - 1) 1) = n at a b c d
  by_cases e1 : n = nrem
  · rw [if_pos (by simpa using e1)]
    exact ⟨n, p, rfl, Array.Perm.refl _, a, by omega, c⟩
  · rw [if_neg (by simpa using e1)]
    have hlt : kk key p n < kk key p (n - 1) := d.resolve_left (by omega)
    by_cases e2 : n > 1
    · rw [if_pos e2]
      show ∃ m p', kev (klt key) (if klt key (p.getD 0 0) (p.getD (n - 1) 0) = true then KasT.ret (n, p) else kas_descPart n nrem (kas_rev p 0 n)) = (m, p') ∧ _
      by_cases e3 : kk key p 0 < kk key p (n - 1)
      · rw [if_pos (klt_t e3)]
        exact ⟨n, p, rfl, Array.Perm.refl _, a, by omega, c⟩
      · rw [if_neg (klt_f e3)]
        have all : ∀ k, k < n → kk key p k = kk key p 0 := fun k hk => by
          have x1 := c 0 k (by omega) hk
          have x2 := c k (n - 1) (by omega) (by omega)
          omega
        have ek : ∀ k, kk key (kas_rev p 0 n) k = kk key p k := fun k => by
          rw [kk_rev (by omega)]
          split
          · rw [all _ (by omega), all k (by omega)]
          · rfl
        have hf : Fal key (kas_rev p 0 n) (n + 1) := fun i j hij hj => by
          rw [ek, ek]
          rcases Nat.lt_or_eq_of_le (Nat.le_of_lt_succ hj) with r | r
          · rw [all i (by omega), all j r]; exact Int.le_refl _
          · subst r
            rcases Nat.lt_or_eq_of_le hij with r2 | r2
            · have := all i r2; have := all (j - 1) (by omega); omega
            · rw [r2]; exact Int.le_refl _
        obtain ⟨m, p', b1, b2, b3⟩ := descPart_spec (key := key) (n := n) (nrem := nrem) (p := kas_rev p 0 n) (by omega) (by omega) (by rw [rev_size]; omega) hf
        exact ⟨m, p', b1, b2.trans (rev_perm _ _ _), b3⟩
    · rw [if_neg e2]
      obtain rfl : n = 1 := by omega
      exact descPart_spec (key := key) (n := 1) (nrem := nrem) (p := p) (by omega) (by omega) hz ((Fal.one p).succ (by omega) (by omega))

theorem place_spec {p : Array Nat} {k : Nat} (hr : Ris key p k) : ∀ (f l r : Nat), r - l ≤ f → l ≤ r → r ≤ k → (∀ i, i < l → kk key p i ≤ kk key p k) → (∀ i, r ≤ i → i < k → kk key p k < kk key p i) →
    kev (klt key) (kas_place p k f l r) ≤ k ∧ (∀ i, i < kev (klt key) (kas_place p k f l r) → kk key p i ≤ kk key p k) ∧ (∀ i, kev (klt key) (kas_place p k f l r) ≤ i → i < k → kk key p k < kk key p i)
  | 0, l, r, hf, hlr, hrk, h1, h2 => by
    obtain rfl : l = r := by omega
    exact ⟨hrk, h1, h2⟩
  | f + 1, l, r, hf, hlr, hrk, h1, h2 => by
    by_cases e : l ≥ r
    · have q : kas_place p k (f + 1) l r = .ret l := by unfold kas_place; rw [if_pos e]
      rw [q]
      obtain rfl : l = r := by omega
      exact ⟨hrk, h1, h2⟩
    · have q : kev (klt key) (kas_place p k (f + 1) l r) = if kk key p k < kk key p ((l + r) / 2) then kev (klt key) (kas_place p k f l ((l + r) / 2)) else kev (klt key) (kas_place p k f ((l + r) / 2 + 1) r) := by
        have q0 : kas_place p k (f + 1) l r = .ask (p.getD k 0) (p.getD ((l + r) / 2) 0) fun c => if c = true then kas_place p k f l ((l + r) / 2) else kas_place p k f ((l + r) / 2 + 1) r := by
          conv => lhs; unfold kas_place
          rw [if_neg e]
        rw [q0]
        show kev (klt key) (if klt key (p.getD k 0) (p.getD ((l + r) / 2) 0) = true then kas_place p k f l ((l + r) / 2) else kas_place p k f ((l + r) / 2 + 1) r) = _
        by_cases c : kk key p k < kk key p ((l + r) / 2)
        · rw [if_pos c, if_pos (klt_t c)]
        · rw [if_neg c, if_neg (klt_f c)]
      rw [q]
      by_cases c : kk key p k < kk key p ((l + r) / 2)
      · rw [if_pos c]
        exact place_spec hr f l ((l + r) / 2) (by omega) (by omega) (by omega) h1 fun i a b => by
          have := hr ((l + r) / 2) i a b
          omega
      · rw [if_neg c]
        exact place_spec hr f ((l + r) / 2 + 1) r (by omega) (by omega) hrk (fun i a => by
          have := hr i ((l + r) / 2) (by omega) (by omega)
          omega) h2
theorem bin_spec : ∀ (f : Nat) (p : Array Nat) (k : Nat), 1 ≤ k → k + f ≤ p.size → Ris key p k →
    (kev (klt key) (kas_bin f p k)).Perm p ∧ Ris key (kev (klt key) (kas_bin f p k)) (k + f)
  | 0, p, k, h1, hz, hr => ⟨Array.Perm.refl _, hr⟩
  | f + 1, p, k, h1, hz, hr => by
    obtain ⟨a, b, c⟩ := place_spec hr k 0 k (by omega) (Nat.zero_le _) (Nat.le_refl _) (fun i q => absurd q (Nat.not_lt_zero _)) (fun i q r => absurd q (by omega))
    have e : kas_bin (f + 1) p k = (kas_place p k k 0 k).bind fun l => kas_bin f (bubble p k (k - l)) (k + 1) := rfl
    rw [e, kev_bind]
    generalize kev (klt key) (kas_place p k k 0 k) = l at a b c
    have hr' : Ris key (bubble p k (k - l)) (k + 1) := by
      intro i j hij hj
      rw [kk_bubble (by omega) (by omega), kk_bubble (by omega) (by omega)]
      have el : k - (k - l) = l := by omega
      rw [el]
      by_cases i1 : i = l
      · rw [if_pos i1]
        by_cases j1 : j = l
        · rw [if_pos j1]; exact Int.le_refl _
        · rw [if_neg j1, if_pos (by omega)]
          have := c (j - 1) (by omega) (by omega); omega
      · rw [if_neg i1]
        by_cases i2 : l < i ∧ i ≤ k
        · rw [if_pos i2, if_neg (by omega), if_pos (by omega)]
          exact hr _ _ (by omega) (by omega)
        · rw [if_neg i2]
          by_cases j1 : j = l
          · rw [if_pos j1]; exact b i (by omega)
          · rw [if_neg j1]
            by_cases j2 : l < j ∧ j ≤ k
            · rw [if_pos j2]; exact hr _ _ (by omega) (by omega)
            · rw [if_neg j2]; exact hr _ _ hij (by omega)
    obtain ⟨x, y⟩ := bin_spec f (bubble p k (k - l)) (k + 1) (by omega) (by rw [bubble_size]; omega) hr'
    exact ⟨x.trans (bubble_perm _ _ _), by rw [show k + (f + 1) = k + 1 + f by omega]; exact y⟩
/-- the sort's answer: a permutation of the places, rising by the key -/
theorem sort_spec (key : Nat → Int) {n : Nat} (h1 : 1 ≤ n) : (kev (klt key) (kas_sort n)).Perm (List.range n).toArray ∧ Ris key (kev (klt key) (kas_sort n)) n := by
  have hs : (List.range n).toArray.size = n := by simp
  obtain ⟨m, p', a1, a2, a3, a4, a5⟩ := count_spec (key := key) (nrem := n) (p := (List.range n).toArray) h1 (by omega)
  unfold kas_sort
  rw [kev_bind, a1]
  have hz : p'.size = n := by rw [a2.size_eq, hs]
  show (kev (klt key) (if m < n then kas_bin (n - max m 1) p' (max m 1) else .ret p')).Perm _ ∧ _
  by_cases e : m < n
  · rw [if_pos e]
    have em : max m 1 = m := by omega
    rw [em]
    obtain ⟨x, y⟩ := bin_spec (key := key) (n - m) p' m a3 (by omega) a5
    exact ⟨x.trans a2, by rw [show m + (n - m) = n by omega] at y; exact y⟩
  · rw [if_neg e]
    obtain rfl : m = n := by omega
    exact ⟨a2, a5⟩
end
end Mine
end
section
open PySem PySem.W PyProof.Rows
namespace Mine
/-- all that the tree asks lies below n; its answers meet Po -/
noncomputable def AskP {α : Type} (n : Nat) (Po : α → Prop) : KasT α → Prop
  | .ret a => Po a
  | .ask i j k => (i < n ∧ j < n) ∧ ∀ b, AskP n Po (k b)
theorem AskP.bind {α β : Type} {n : Nat} {Po : α → Prop} {Po' : β → Prop} {f : α → KasT β} (hf : ∀ a, Po a → AskP n Po' (f a)) : ∀ {t : KasT α}, AskP n Po t → AskP n Po' (t.bind f)
  | .ret a, h => hf a h
  | .ask i j k, h => ⟨h.1, fun b => AskP.bind hf (h.2 b)⟩
/-- all items lie below n -/
noncomputable def El (n : Nat) (p : Array Nat) : Prop := ∀ x ∈ p, x < n
theorem El.get {n : Nat} {p : Array Nat} (h1 : 0 < n) (h : El n p) (k : Nat) : p.getD k 0 < n := by
  by_cases q : k < p.size
  · have e : p.getD k 0 = p[k] := by simp [Array.getD, q]
    rw [e]; exact h _ (Array.getElem_mem q)
  · have e : p.getD k 0 = 0 := by simp [Array.getD, q]
    rw [e]; exact h1
theorem El.perm {n : Nat} {p q : Array Nat} (h : El n p) (e : q.Perm p) : El n q := fun x hx => h x (e.mem_iff.mp hx)
theorem El.rev {n : Nat} {p : Array Nat} (h : El n p) (i j : Nat) : El n (kas_rev p i j) := h.perm (rev_perm p i j)
variable {n : Nat}
theorem asc_ask (h1 : 0 < n) {p : Array Nat} (hp : El n p) : ∀ (f m : Nat), AskP n (fun _ => True) (kas_asc p f m)
  | 0, _ => trivial
  | f + 1, m => ⟨⟨hp.get h1 _, hp.get h1 _⟩, fun b => by
      cases b with
      | true => exact trivial
      | false => exact asc_ask h1 hp f (m + 1)⟩
theorem desc_ask (h1 : 0 < n) : ∀ (f : Nat) {p : Array Nat} (_ : El n p) (m q : Nat), AskP n (fun r => El n r.1) (kas_desc f p m q)
  | 0, _, hp, _, _ => hp
  | f + 1, p, hp, m, q => ⟨⟨hp.get h1 _, hp.get h1 _⟩, fun b => by
      cases b with
      | true =>
        show AskP n _ (if q > 0 then kas_desc f (kas_rev p (m - (q + 1)) m) (m + 1) 0 else kas_desc f p (m + 1) 0)
        by_cases c : q > 0
        · rw [if_pos c]; exact desc_ask h1 f (hp.rev _ _) _ _
        · rw [if_neg c]; exact desc_ask h1 f hp _ _
      | false =>
        refine ⟨⟨hp.get h1 _, hp.get h1 _⟩, fun b => ?_⟩
        cases b with
        | true => exact hp
        | false => exact desc_ask h1 f hp _ _⟩
theorem tail3_ask (h1 : 0 < n) {p : Array Nat} (hp : El n p) (m r : Nat) : AskP n (fun r => El n r.2) (kas_tail3 m r p) :=
  AskP.bind (n := n) (Po := fun _ => True) (Po' := fun r => El n r.2) (f := fun q => .ret (q, kas_rev p 0 m)) (fun a _ => by show El n (a, kas_rev p 0 m).2; exact hp.rev 0 m) (asc_ask h1 (hp.rev 0 m) _ _)
theorem descPart_ask (h1 : 0 < n) {p : Array Nat} (hp : El n p) (m r : Nat) : AskP n (fun r => El n r.2) (kas_descPart m r p) := by
  refine AskP.bind (fun a ha => ?_) (desc_ask h1 _ hp _ _)
  by_cases c : a.2.2 > 0
  · rw [if_pos c]; exact tail3_ask h1 (ha.rev _ _) _ _
  · rw [if_neg c]; exact tail3_ask h1 ha _ _
theorem count_ask (h1 : 0 < n) {p : Array Nat} (hp : El n p) (r : Nat) : AskP n (fun r => El n r.2) (kas_count r p) := by
  refine AskP.bind (fun m _ => ?_) (asc_ask h1 hp _ _)
  by_cases c : (m == r) = true
  · rw [if_pos c]; exact hp
  · rw [if_neg c]
    by_cases d : m > 1
    · rw [if_pos d]
      refine ⟨⟨hp.get h1 _, hp.get h1 _⟩, fun b => ?_⟩
      cases b with
      | true => exact hp
      | false => exact descPart_ask h1 (hp.rev _ _) _ _
    · rw [if_neg d]; exact descPart_ask h1 hp _ _
theorem place_ask (h1 : 0 < n) {p : Array Nat} (hp : El n p) (k : Nat) : ∀ (f l r : Nat), AskP n (fun _ => True) (kas_place p k f l r)
  | 0, _, _ => trivial
  | f + 1, l, r => by
    unfold kas_place
    by_cases c : l ≥ r
    · rw [if_pos c]; exact trivial
    · rw [if_neg c]
      refine ⟨⟨hp.get h1 _, hp.get h1 _⟩, fun b => ?_⟩
      cases b with
      | true => exact place_ask h1 hp k f _ _
      | false => exact place_ask h1 hp k f _ _
theorem bin_ask (h1 : 0 < n) : ∀ (f : Nat) {p : Array Nat} (_ : El n p) (k : Nat), AskP n (El n) (kas_bin f p k)
  | 0, _, hp, _ => hp
  | f + 1, p, hp, k => AskP.bind (fun l _ => bin_ask h1 f (hp.perm (bubble_perm _ _ _)) (k + 1)) (place_ask h1 hp k k 0 k)
theorem sort_ask (h1 : 0 < n) : AskP n (El n) (kas_sort n) := by
  refine AskP.bind (fun r hr => ?_) (count_ask h1 (p := (List.range n).toArray) (fun x hx => by simpa using hx) n)
  by_cases c : r.1 < n
  · rw [if_pos c]; exact bin_ask h1 _ hr _
  · rw [if_neg c]; exact hr
/-- a comparison that answers by the key for all that is asked and keeps I -/
theorem kas_byA {α : Type} {cmp : Nat → Nat → (Bool → Shared → Prop) → Shared → Prop} {lt : Nat → Nat → Bool} {I : Shared → Prop} {Po : α → Prop} {Q : α → Shared → Prop} :
    ∀ (t : KasT α) (s : Shared), AskP n Po t → I s →
      (∀ (i j : Nat) (C : Bool → Shared → Prop) (s : Shared), i < n → j < n → I s → (∀ s', I s' → C (lt i j) s') → cmp i j C s) →
      (∀ s', I s' → Q (kev lt t) s') → t.kasWp cmp Q s
  | .ret _, s, _, hi, _, h => h s hi
  | .ask i j k, s, ha, hi, hc, h => hc i j _ s ha.1.1 ha.1.2 hi fun s' hi' => kas_byA (k (lt i j)) s' (ha.2 _) hi' hc h
end Mine
end
section
open PySem PySem.W PyProof.Rows
namespace Mine
/-- the written part of the runs, out of K's sight -/
structure InF (w : World) (h : Heap) : Prop where
  out : (KF w.params).In h
  obj : NameObj h
/-- sorted(l) gives a list of N items that meets P; all else stands -/
noncomputable def SortOk (w : World) (l : Addr) (nw : List (Addr × Obj)) (N : Nat) (P : List Value → Prop) : Prop :=
  ∀ (A : Around) (E : Value → Shared → Prop) (s : Shared) (h₀ : Heap) (L : Addr) (m : Str → Option Value) (Q : Value → Shared → Prop), A.handled = none → A.depth ≤ 480 → A.units ≤ 160 → InF w h₀ → Fr h₀ L s.heap m → News h₀ L s.heap nw →
    (∀ D us c h' tk', P us → us.length = N → Fr h₀ L h' m → News h₀ L h' ((D, listOf (List.toArray us) c) :: nw) → (∀ p ∈ nw, p.1 < D) → Q (.ref D) { s with heap := h', toks := tk' }) →
    wpAny (model PySem.Challenge.rw_mr0138_02.prog w) A (call (.builtin "sorted") [.ref l]) Q E s
theorem kf_keeps {w : World} {h h' : Heap} (X : InF w h) (k : ∀ b o, h.get? b = some o → h'.get? b = some o) : InF w h' := ⟨fun b o e => k b o (X.out b o e), X.obj.keeps k⟩
section
variable {prog : Program} {w : World} {A : Around} {E : Value → Shared → Prop} {s : Shared} {h₀ : Heap} {L : Addr} {m : Str → Option Value} {news : List (Addr × Obj)}
theorem med_mid {us : List Value} {i j : Nat} {v : Value} (h : us[i]? = some v) (e : i = j) : us[j]? = some v := e ▸ h
theorem med_len {l : Addr} {vs : List Value} {c n : Nat} {Q : Value → Shared → Prop} (N : News h₀ L s.heap news) (hl : (l, listOf (List.toArray vs) c) ∈ news) (hn : vs.length = n) (hz : n < 64)
    (h : ∀ t tk, Q (.int (n : Int) t) { s with toks := tk }) : wpAny (model prog w) A (call (.builtin "len") [.ref l]) Q E s := by
  have e : (vs.toArray.size : Int) = (n : Int) := by simp [hn]
  refine PyProof.Rows.len_list (News.isList N hl) (by rw [e]; omega) ?_
  rw [e]
  exact h _ _
theorem med_item {value slice : PySem.Expr} {l : Addr} {vs : List Value} {c : Nat} {k : Int} {u : Tok} {Q : Value → Shared → Prop}
    (N : News h₀ L s.heap news) (hl : (l, listOf (List.toArray vs) c) ∈ news) (h0 : 0 ≤ k) (hk : k.toNat < vs.length) (hz : vs.length < 64) (h : ∀ v, vs[k.toNat]? = some v → Q v s)
    (hs : subscripted slice false (.ref l) (.int k u) = operate [.ref l, .int k u] (getItem (.ref l) (.int k u)) := by with_unfolding_all rfl) :
    wpAny (model prog w) A (subscriptTail value slice (.ref l) (.int k u)) Q E s :=
  tail_any (News.isList N hl).typeIs slot_list_getitem.lookup (wpAny_getItem_list (News.isList N hl) h0 (by omega) (by simpa using List.getElem?_eq_getElem hk) (h _ (List.getElem?_eq_getElem hk))) hs
end
local macro_rules | `(tactic| walk_at "no such key") => `(tactic| skip)
local macro_rules | `(tactic| walk_at "no such key") => `(tactic| skip)
local macro_rules | `(tactic| walk_at "subscriptTail") => `(tactic| refine Halt.to ?_)
local macro_rules | `(tactic| walk_at "call builtin:len") => `(tactic| refine Halt.to ?_)
local macro_rules | `(tactic| walk_at "call builtin:sorted") => `(tactic| refine Halt.to ?_)
set_option maxHeartbeats 2000000 in
theorem low_K (w : World) (pT : Program) (lT : List Str) (mean : ExcName → Option Value) (mg mb : Str → Option Value) (dp un : Nat) (gd : Option (List Code)) (cn : Str) (cs : Scope) (a : Addr) (ccd : Value) (cl : List (Str × Addr)) (outer : List Env) (A₀ : Around) (base h₀ : Heap) (L : Addr) (m : Str → Option Value) (s : Shared) (Q E : Value → Shared → Prop)
    (l : Addr) (vs : List Value) (e n : Nat) (P : List Value → Prop) (nw : List (Addr × Obj)) :
    Below A₀ base outer h₀ → Fr h₀ L s.heap m → (hdk.heap_1 w.params).In h₀ → News h₀ L s.heap ((l, listOf (List.toArray vs) e) :: nw) → Top pT lT mean mg mb h₀ → cs.kind = .function →
    InF w h₀ → SortOk w l ((l, listOf (List.toArray vs) e) :: nw) n P → 1 ≤ n → n < 64 → dp ≤ 470 → un ≤ 140 →
    (∀ us v h' tk', P us → us[(n - 1) / 2]? = some v → Fr h₀ L h' m → News h₀ L h' ((l, listOf (List.toArray vs) e) :: nw) → Q v { s with heap := h', toks := tk' }) →
    wpAny (model PySem.Challenge.rw_mr0138_02.prog w) (ktrTop dp un gd cn cs L a ccd cl outer) (call (.ref 34) [.ref l]) Q E s := by
  k_fill
  intros
  rename_i XF9 hS9 hn1 hn2 hdp9 hun9 hQ9
  refine wpAny_call ?_
  k_dflt (refine' code_def ?k1 ?k2 ?k3 ?k4 ?k5 ?kA ?kF ?kK ?k6 ?k7 ?k8 ?k9 ?kB ?_ ?c2 ?c3 ?c4 ?c5; (case kA => exact rfl); (case kF => exact rfl); (case kK => assumption); (case k1 => k_asm); (case k2 => k_asm); (case k3 => k_asm); (case k4 => k_asm); (case k5 => k_asm); (case k6 => k_is); (case k7 => k_is); (case k8 => ktr_room); (case k9 => first | exact BindsTo.of_eq rfl | exact binds_K (by k_in) rfl (by k_is) rfl rfl rfl); (case c5 => decide); (case kB => exact locs rfl); (case c2 => exact rfl); (case c3 => exact rfl); (case c4 => exact rfl); k_whole; intro g' L' h' FG' F' N' B' X' T'; (try dsimp only); (try k_lift B'); (try k_fold))
  have XF' := kf_keeps XF9 FG'.keep
  k_steps
  refine ⟨?_⟩
  (refine' (by assumption : SortOk _ _ _ _ _) _ _ _ _ _ _ _ ?k1 ?k2 ?k3 ?k4 ?k5 ?k6 ?_; (case k1 => exact rfl); (case k2 => ktr_room); (case k3 => ktr_units); (case k4 => assumption); (case k5 => k_asm); (case k6 => k_asm)); intro D' us' c' h' tk' hP' hlen' F' N' l1; (try k_lt l1)
  k_steps
  refine ⟨?_⟩
  (refine' med_len ?k1 ?k2 ?k3 ?k4 ?_; (case k1 => k_asm); (case k2 => k_mem); (case k3 => assumption); (case k4 => assumption); k_whole); intro t' tk'
  k_steps
  · exfalso; omega
  · refine ⟨?_⟩
    (with_unfolding_all refine' med_item ?k1 ?k2 ?k3 ?k4 ?k5 ?_ ?k6; (case k1 => k_asm); (case k2 => k_mem); (case k3 => (simp only [Int.fdiv_eq_ediv_of_nonneg _ (by decide : (0 : Int) ≤ 2), Int.fmod_eq_emod_of_nonneg _ (by decide : (0 : Int) ≤ 2)] at *; omega)); (case k4 => (simp only [Int.fdiv_eq_ediv_of_nonneg _ (by decide : (0 : Int) ≤ 2), Int.fmod_eq_emod_of_nonneg _ (by decide : (0 : Int) ≤ 2)] at *; omega)); (case k5 => omega); (case k6 => with_unfolding_all rfl); k_whole); intro v9' hv9'
    k_steps
    refine hQ9 _ _ _ _ (by assumption) (med_mid (by assumption) ?_) (by assumption) (cb_drop (by assumption) fun p hp => .tail _ hp)
    simp only [Int.fdiv_eq_ediv_of_nonneg _ (by decide : (0 : Int) ≤ 2), Int.fmod_eq_emod_of_nonneg _ (by decide : (0 : Int) ≤ 2)] at *; omega
  · refine ⟨?_⟩
    (with_unfolding_all refine' med_item ?k1 ?k2 ?k3 ?k4 ?k5 ?_ ?k6; (case k1 => k_asm); (case k2 => k_mem); (case k3 => (simp only [Int.fdiv_eq_ediv_of_nonneg _ (by decide : (0 : Int) ≤ 2), Int.fmod_eq_emod_of_nonneg _ (by decide : (0 : Int) ≤ 2)] at *; omega)); (case k4 => (simp only [Int.fdiv_eq_ediv_of_nonneg _ (by decide : (0 : Int) ≤ 2), Int.fmod_eq_emod_of_nonneg _ (by decide : (0 : Int) ≤ 2)] at *; omega)); (case k5 => omega); (case k6 => with_unfolding_all rfl); k_whole); intro v9' hv9'
    k_steps
    refine hQ9 _ _ _ _ (by assumption) (med_mid (by assumption) ?_) (by assumption) (cb_drop (by assumption) fun p hp => .tail _ hp)
    simp only [Int.fdiv_eq_ediv_of_nonneg _ (by decide : (0 : Int) ≤ 2), Int.fmod_eq_emod_of_nonneg _ (by decide : (0 : Int) ≤ 2)] at *; omega
set_option maxHeartbeats 2000000 in
theorem high_K (w : World) (pT : Program) (lT : List Str) (mean : ExcName → Option Value) (mg mb : Str → Option Value) (dp un : Nat) (gd : Option (List Code)) (cn : Str) (cs : Scope) (a : Addr) (ccd : Value) (cl : List (Str × Addr)) (outer : List Env) (A₀ : Around) (base h₀ : Heap) (L : Addr) (m : Str → Option Value) (s : Shared) (Q E : Value → Shared → Prop)
    (l : Addr) (vs : List Value) (e n : Nat) (P : List Value → Prop) (nw : List (Addr × Obj)) :
    Below A₀ base outer h₀ → Fr h₀ L s.heap m → (hdk.heap_1 w.params).In h₀ → News h₀ L s.heap ((l, listOf (List.toArray vs) e) :: nw) → Top pT lT mean mg mb h₀ → cs.kind = .function →
    InF w h₀ → SortOk w l ((l, listOf (List.toArray vs) e) :: nw) n P → 1 ≤ n → n < 64 → dp ≤ 470 → un ≤ 140 →
    (∀ us v h' tk', P us → us[n / 2]? = some v → Fr h₀ L h' m → News h₀ L h' ((l, listOf (List.toArray vs) e) :: nw) → Q v { s with heap := h', toks := tk' }) →
    wpAny (model PySem.Challenge.rw_mr0138_02.prog w) (ktrTop dp un gd cn cs L a ccd cl outer) (call (.ref 41) [.ref l]) Q E s := by
  k_fill
  intros
  rename_i XF9 hS9 hn1 hn2 hdp9 hun9 hQ9
  refine wpAny_call ?_
  k_dflt (refine' code_def ?k1 ?k2 ?k3 ?k4 ?k5 ?kA ?kF ?kK ?k6 ?k7 ?k8 ?k9 ?kB ?_ ?c2 ?c3 ?c4 ?c5; (case kA => exact rfl); (case kF => exact rfl); (case kK => assumption); (case k1 => k_asm); (case k2 => k_asm); (case k3 => k_asm); (case k4 => k_asm); (case k5 => k_asm); (case k6 => k_is); (case k7 => k_is); (case k8 => ktr_room); (case k9 => first | exact BindsTo.of_eq rfl | exact binds_K (by k_in) rfl (by k_is) rfl rfl rfl); (case c5 => decide); (case kB => exact locs rfl); (case c2 => exact rfl); (case c3 => exact rfl); (case c4 => exact rfl); k_whole; intro g' L' h' FG' F' N' B' X' T'; (try dsimp only); (try k_lift B'); (try k_fold))
  have XF' := kf_keeps XF9 FG'.keep
  k_steps
  refine ⟨?_⟩
  (refine' (by assumption : SortOk _ _ _ _ _) _ _ _ _ _ _ _ ?k1 ?k2 ?k3 ?k4 ?k5 ?k6 ?_; (case k1 => exact rfl); (case k2 => ktr_room); (case k3 => ktr_units); (case k4 => assumption); (case k5 => k_asm); (case k6 => k_asm)); intro D' us' c' h' tk' hP' hlen' F' N' l1; (try k_lt l1)
  k_steps
  refine ⟨?_⟩
  (refine' med_len ?k1 ?k2 ?k3 ?k4 ?_; (case k1 => k_asm); (case k2 => k_mem); (case k3 => assumption); (case k4 => assumption); k_whole); intro t' tk'
  k_steps
  · exfalso; omega
  · refine ⟨?_⟩
    (with_unfolding_all refine' med_item ?k1 ?k2 ?k3 ?k4 ?k5 ?_ ?k6; (case k1 => k_asm); (case k2 => k_mem); (case k3 => (simp only [Int.fdiv_eq_ediv_of_nonneg _ (by decide : (0 : Int) ≤ 2), Int.fmod_eq_emod_of_nonneg _ (by decide : (0 : Int) ≤ 2)] at *; omega)); (case k4 => (simp only [Int.fdiv_eq_ediv_of_nonneg _ (by decide : (0 : Int) ≤ 2), Int.fmod_eq_emod_of_nonneg _ (by decide : (0 : Int) ≤ 2)] at *; omega)); (case k5 => omega); (case k6 => with_unfolding_all rfl); k_whole); intro v9' hv9'
    k_steps
    refine hQ9 _ _ _ _ (by assumption) (med_mid (by assumption) ?_) (by assumption) (cb_drop (by assumption) fun p hp => .tail _ hp)
    simp only [Int.fdiv_eq_ediv_of_nonneg _ (by decide : (0 : Int) ≤ 2), Int.fmod_eq_emod_of_nonneg _ (by decide : (0 : Int) ≤ 2)] at *; omega
end Mine
end
section
open PySem PySem.W PySem.W.X PyProof.Rows PySem.Spec PySem.Calls
namespace Mine
theorem KMadeR.mono {w : World} {R R' : Addr → Obj → Prop} {C f : Addr} (M : KMadeR w R C f) (hr : ∀ a o, R a o → R' a o) : KMadeR w R' C f := by
  obtain ⟨NS, md, bT, sl, fI, fL, fG, fE, fLe, fGe, st, cell, cI, cL, ctL, k, a1, r1, a2, r2, n1, n2, t1, t2, tm, ta, tb, m1, m2, m3, m4, m5, m6, m7, m8⟩ := M
  exact ⟨NS, md, bT, sl, fI, fL, fG, fE, fLe, fGe, st, cell, cI, cL, ctL, k, a1, r1, a2, r2, n1, n2, t1, t2, tm, ta, tb, hr _ _ m1, hr _ _ m2, hr _ _ m3, hr _ _ m4, hr _ _ m5, hr _ _ m6, hr _ _ m7, hr _ _ m8⟩
/-- a mark's function with its code -/
noncomputable def MarkR (R : Addr → Obj → Prop) (fm : Addr) (g : Int → Int) : Prop := ∃ (i : Nat) (c : Addr) (ct pm a0 : Value) (tq : Tok) (rest : List Value) (d : Option Addr) (s : Array (Option Value)), i < 4 ∧ g = markG i ∧
  R fm { cls := .type "function", dict := none, data := .func (lamD (markE i) "law.<locals>.<lambda>" [] c ct pm), slots := #[] } ∧
  R c { cls := .type "code", dict := d, data := .fields ⟨a0 :: .str "law.<locals>.<lambda>" tq :: rest⟩, slots := s }
theorem MarkR.mono {R R' : Addr → Obj → Prop} {fm : Addr} {g : Int → Int} (M : MarkR R fm g) (hr : ∀ a o, R a o → R' a o) : MarkR R' fm g := by
  obtain ⟨i, c, ct, pm, a0, tq, rest, d, s, hi, hg, m1, m2⟩ := M
  exact ⟨i, c, ct, pm, a0, tq, rest, d, s, hi, hg, hr _ _ m1, hr _ _ m2⟩
/-- the lambda of _law_middles over a mark -/
noncomputable def LamR (R : Addr → Obj → Prop) (f fm : Addr) : Prop := ∃ (cm c : Addr) (ct pm a0 : Value) (tq : Tok) (rest : List Value) (d : Option Addr) (s : Array (Option Value)),
  R f { cls := .type "function", dict := none, data := .func (lamD lamE "_law_middles.<locals>.<lambda>" [(Str.ofString "mark", cm)] c ct pm), slots := #[] } ∧
  R c { cls := .type "code", dict := d, data := .fields ⟨a0 :: .str "_law_middles.<locals>.<lambda>" tq :: rest⟩, slots := s } ∧ R cm (cellO fm)
theorem LamR.mono {R R' : Addr → Obj → Prop} {f fm : Addr} (M : LamR R f fm) (hr : ∀ a o, R a o → R' a o) : LamR R' f fm := by
  obtain ⟨cm, c, ct, pm, a0, tq, rest, d, s, m1, m2, m3⟩ := M
  exact ⟨cm, c, ct, pm, a0, tq, rest, d, s, hr _ _ m1, hr _ _ m2, hr _ _ m3⟩
noncomputable def KeyR (w : World) (R : Addr → Obj → Prop) (C : Addr) (g : Int → Int) : Prop := ∃ f fm, KMadeR w R C f ∧ LamR R f fm ∧ MarkR R fm g
theorem KeyR.mono {w : World} {R R' : Addr → Obj → Prop} {C : Addr} {g : Int → Int} (M : KeyR w R C g) (hr : ∀ a o, R a o → R' a o) : KeyR w R' C g := by
  obtain ⟨f, fm, a, b, c⟩ := M
  exact ⟨f, fm, a.mono hr, b.mono hr, c.mono hr⟩
theorem codeF_lt (a r : Nat → Nat) (n : Int) : codeF "__lt__" 29 a r n = { cls := .type "code", dict := none, data := .fields #[.str "__lt__" (a 0), .str "cmp_to_key.<locals>.K.__lt__" (a 1), .str "/claim/cut.py" (a 2), .int 29 0, .int 2 0, .int 0 0, .int 0 0, .int 19 0, .ref (r 8), .bool true, .int 181 0, .ref (r 11), .none, .ref (r 13), .ref (r 14), .ref (r 15), .int n 0, .int 29 0, .str "/claim/cut.py" (a 18)], slots := #[] } := by kernel_rfl
/-- the class' objects lie outside the written part -/
noncomputable def OutK (w : World) (h : Heap) (a : Addr) (o : Obj) : Prop := h.get? a = some o ∧ (KF w.params).lookup a = none
theorem type_ne {a b : String} (h : a ≠ b) : Value.type a ≠ Value.type b := fun e => h (by injection e)
theorem key_lt {w : World} {s : Shared} {C x y dx dy : Addr} {g : Int → Int} {n m : Int} {tn tn2 : Tok} {A : Around} {Q : Bool → Shared → Prop} {E : Value → Shared → Prop} (X : (KF w.params).In s.heap) (M : KeyR w (OutK w s.heap) C g)
    (hx : s.heap.get? x = some (instK C dx n tn)) (hxK : (KF w.params).lookup x = none) (hy : s.heap.get? y = some (instK C dy m tn2)) (hh : A.handled = none) (hd : A.depth ≤ 500) (hu : A.units ≤ 200)
    (h : ∀ h' t', Up s.heap h' → Q (decide (g n < g m)) ⟨h', s.gens, s.drawn, t', s.os⟩) : wpAny (model PR w) A (keyLt' oneType' (.ref x) (.ref y)) Q E s := by
  obtain ⟨f, fm, ⟨NS, md, bT, sl, fI, fL, fG, fE, fLe, fGe, st, cell, cI, cL, ctL, k, a1, r1, a2, r2, n1, n2, t1, t2, tm, ta, tb, ⟨m1, k1⟩, ⟨m2, k2⟩, ⟨m3, _⟩, ⟨m4, _⟩, ⟨m5, k5⟩, ⟨m6, _⟩, ⟨m7, _⟩, ⟨m8, _⟩⟩, ⟨cm, c, ct, pm, a0, tq, rest, d1, s1, ⟨l1, _⟩, ⟨l2, _⟩, ⟨l3, _⟩⟩, ⟨i, c', ct', pm', a0', tq', rest', d2, s2, hi, rfl, ⟨q1, _⟩, ⟨q2, _⟩⟩⟩ := M
  obtain ⟨v, N⟩ := names_new (w := w) 20 X
  have hl : ∀ p ∈ [(x, instK C dx n tn), (fL, fnO (fnK 3 [(Str.ofString "mycmp", cell)] cL ctL)), (NS, nsOut w (kq w) k "cpy313.functools" 22 sl fI fL fG fE fLe fGe st md ta tb), (C, clsK C NS bT t1 t2)], s.heap.get? p.1 = some p.2 := by
    intro p hp
    simp only [List.mem_cons, List.not_mem_nil, or_false] at hp
    rcases hp with rfl | rfl | rfl | rfl <;> assumption
  have ne : ∀ {a b : Addr} {oa ob : Obj}, s.heap.get? a = some oa → s.heap.get? b = some ob → oa.cls ≠ ob.cls → a ≠ b := fun ea eb hc q => by
    subst q; rw [ea] at eb; cases eb; exact hc rfl
  have nd : ([(x, instK C dx n tn), (fL, fnO (fnK 3 [(Str.ofString "mycmp", cell)] cL ctL)), (NS, nsOut w (kq w) k "cpy313.functools" 22 sl fI fL fG fE fLe fGe st md ta tb), (C, clsK C NS bT t1 t2)].map (·.1)).Nodup := by
    simp only [List.map_cons, List.map_nil, List.nodup_cons, List.mem_cons, List.not_mem_nil, or_false, not_or, not_false_eq_true, List.nodup_nil, and_true]
    exact ⟨⟨ne hx m5 (by intro q; cases q), ne hx m2 (by intro q; cases q), ne hx m1 (by intro q; cases q)⟩, ⟨ne m5 m2 (type_ne (a := "function") (b := "dict") (by decide)), ne m5 m1 (type_ne (a := "function") (b := "type") (by decide))⟩, ne m2 m1 (type_ne (a := "dict") (b := "type") (by decide))⟩
  refine lt_ask w A (hideAll s.heap ([(x, instK C dx n tn), (fL, fnO (fnK 3 [(Str.ofString "mycmp", cell)] cL ctL)), (NS, nsOut w (kq w) k "cpy313.functools" 22 sl fI fL fG fE fLe fGe st md ta tb), (C, clsK C NS bT t1 t2)].map (·.1))) s.heap s.gens s.drawn s.toks s.os v Q E x dx y C NS bT sl fI fL fG fE fLe fGe st md cell cL ctL k t1 t2 ta tb tn n
    (fun h' news D a o e => D.keep a o (hideAll_get _ (X a o e) fun hm => ?_)) (Nat.lt_of_le_of_lt hu (by decide)) N (led_of hl nd) fun h' D' => ?_
  · simp only [List.map_cons, List.map_nil, List.mem_cons, List.not_mem_nil, or_false] at hm
    rcases hm with rfl | rfl | rfl | rfl
    · rw [hxK] at e; cases e
    · rw [k5] at e; cases e
    · rw [k2] at e; cases e
    · rw [k1] at e; cases e
  · have u : Up s.heap h' := up_of hl D' fun p hp => hp
    have fin : wpAny (model PR w) AS (call (.ref fL) [.ref x, .ref y]) (fun v s' => ∃ h2 t', v = .bool (decide (markG i n - markG i m < 0)) ∧ s' = ⟨h2, s.gens, s.drawn, t', s.os⟩ ∧ Up h' h2) (fun _ _ => False) ⟨h', s.gens, s.drawn, s.toks, s.os⟩ := by
      match i, hi, q1 with
      | 0, _, q1 => exact x_lt0 w ⟨h', s.gens, s.drawn, s.toks, s.os⟩ C NS bT fI fL fG fE fLe fGe sl st md cL cell x dx y dy f c cm fm c' k a2 r2 t1 t2 tm ta tb tn tn2 tq tq' n2 n m ctL ct ct' pm pm' a0 a0' d1 d2 rest rest' s1 s2 (u _ _ m1) (u _ _ m2) (u _ _ m3) (u _ _ m5) ((u _ _ m8).trans (by rw [codeF_lt])) (u _ _ hx) (u _ _ hy) (u _ _ m6) (u _ _ l1) (u _ _ l2) (u _ _ l3) (u _ _ q1) (u _ _ q2) (fun a o e => u _ _ (X a o e))
      | 1, _, q1 => exact x_lt1 w ⟨h', s.gens, s.drawn, s.toks, s.os⟩ C NS bT fI fL fG fE fLe fGe sl st md cL cell x dx y dy f c cm fm c' k a2 r2 t1 t2 tm ta tb tn tn2 tq tq' n2 n m ctL ct ct' pm pm' a0 a0' d1 d2 rest rest' s1 s2 (u _ _ m1) (u _ _ m2) (u _ _ m3) (u _ _ m5) ((u _ _ m8).trans (by rw [codeF_lt])) (u _ _ hx) (u _ _ hy) (u _ _ m6) (u _ _ l1) (u _ _ l2) (u _ _ l3) (u _ _ q1) (u _ _ q2) (fun a o e => u _ _ (X a o e))
      | 2, _, q1 => exact x_lt2 w ⟨h', s.gens, s.drawn, s.toks, s.os⟩ C NS bT fI fL fG fE fLe fGe sl st md cL cell x dx y dy f c cm fm c' k a2 r2 t1 t2 tm ta tb tn tn2 tq tq' n2 n m ctL ct ct' pm pm' a0 a0' d1 d2 rest rest' s1 s2 (u _ _ m1) (u _ _ m2) (u _ _ m3) (u _ _ m5) ((u _ _ m8).trans (by rw [codeF_lt])) (u _ _ hx) (u _ _ hy) (u _ _ m6) (u _ _ l1) (u _ _ l2) (u _ _ l3) (u _ _ q1) (u _ _ q2) (fun a o e => u _ _ (X a o e))
      | 3, _, q1 => exact x_lt3 w ⟨h', s.gens, s.drawn, s.toks, s.os⟩ C NS bT fI fL fG fE fLe fGe sl st md cL cell x dx y dy f c cm fm c' k a2 r2 t1 t2 tm ta tb tn tn2 tq tq' n2 n m ctL ct ct' pm pm' a0 a0' d1 d2 rest rest' s1 s2 (u _ _ m1) (u _ _ m2) (u _ _ m3) (u _ _ m5) ((u _ _ m8).trans (by rw [codeF_lt])) (u _ _ hx) (u _ _ hy) (u _ _ m6) (u _ _ l1) (u _ _ l2) (u _ _ l3) (u _ _ q1) (u _ _ q2) (fun a o e => u _ _ (X a o e))
      | i + 4, hi, _ => exact absurd hi (by omega)
    refine wpAny_mono (wpAS fin hh hd hu) (fun v' s' hv => ?_) fun _ _ e => e.elim
    obtain ⟨h2, t', rfl, rfl, u2⟩ := hv
    have e : decide (markG i n - markG i m < 0) = decide (markG i n < markG i m) := decide_eq_decide.mpr ⟨fun q => by omega, fun q => by omega⟩
    rw [e]
    exact h h2 t' (up_trans u u2)
theorem outK_of {w : World} {h₀ h : Heap} {L : Addr} {nw : List (Addr × Obj)} (X : InF w h₀) (N : News h₀ L h nw) : ∀ a o, (a, o) ∈ nw → OutK w h a o := fun a o hm => ⟨(N _ hm).1, by
  cases q : (KF w.params).lookup a with
  | none => rfl
  | some o' => have := (N _ hm).2.2; rw [X.out a o' q] at this; cases this⟩
/-- sorted over keys -/
theorem sort_keys {w : World} {l C : Addr} {nw : List (Addr × Obj)} {g : Int → Int} {e : Nat} {keys : List Addr} {ns : List Int} (hl : (l, listOf (List.toArray (keys.map Value.ref)) e) ∈ nw)
    (hk : ∀ i, i < ns.length → ∃ x dx tn, keys[i]? = some x ∧ (x, instK C dx (ns.getD i 0) tn) ∈ nw) (hlen : keys.length = ns.length) (M : KeyR w (fun a o => (a, o) ∈ nw) C g) (h2 : 2 ≤ ns.length) (h64 : ns.length < 64) :
    SortOk w l nw ns.length (fun us => ∃ p : Array Nat, p.Perm (List.range ns.length).toArray ∧ Ris (fun i => g (ns.getD i 0)) p ns.length ∧ us = p.toList.map fun i => (keys.map Value.ref).getD i Value.none) := by
  intro A E s h₀ L m Q hh hd hu X F N hQ
  have hv : (keys.map Value.ref).length = ns.length := by rw [List.length_map, hlen]
  have hget : ∀ i, i < ns.length → ∃ x dx tn, (keys.map Value.ref).getD i Value.none = .ref x ∧ (x, instK C dx (ns.getD i 0) tn) ∈ nw := fun i hi => by
    obtain ⟨x, dx, tn, a, b⟩ := hk i hi
    refine ⟨x, dx, tn, ?_, b⟩
    rw [List.getD_eq_getElem?_getD, List.getElem?_map, a]; rfl
  refine kas_sorted (T := .ref C) F N (News.isList N hl) (by rw [hv]; exact h2) (by rw [hv]; exact h64) (fun h1 F1 N1 v hv1 => ?_) (by simp) fun D e1 h1 F1 N1 l1 => ?_
  · obtain ⟨x, hx, rfl⟩ := List.mem_map.mp hv1
    obtain ⟨i, hi, ei⟩ := List.getElem_of_mem hx
    obtain ⟨x', dx, tn, a, b⟩ := hk i (by omega)
    have : x' = x := by rw [List.getElem?_eq_getElem hi, ei] at a; exact (Option.some.inj a).symm
    subst this
    exact (Looks.ld (N1 _ b).1).andThen .now
  · rw [hv]
    refine kas_byA (n := ns.length) (lt := klt fun i => g (ns.getD i 0)) (Po := El ns.length) (I := fun s' => ∃ h2 t2, s' = { s with heap := h2, toks := t2 } ∧ Fr h₀ L h2 m ∧ News h₀ L h2 ((D, seqObj "list" #[] e1) :: nw)) _ _ (sort_ask (by omega)) ⟨h1, s.toks, rfl, F1, N1⟩ ?_ ?_
    · rintro i j Cc _ hi hj ⟨h3, t3, rfl, F3, N3⟩ hC
      obtain ⟨x, dx, tn, ex, mx⟩ := hget i hi
      obtain ⟨y, dy, tn2, ey, my⟩ := hget j hj
      unfold kas_ask
      rw [ex, ey]
      have N4 : News h₀ L h3 nw := fun p hp => N3 p (.tail _ hp)
      have X3 : (KF w.params).In h3 := fun a o q => F3.keep a o (X.out a o q)
      refine key_lt (s := { s with heap := h3, toks := t3 }) X3 (M.mono (outK_of X N4)) (N4 _ mx).1 (outK_of X N4 _ _ mx).2 (N4 _ my).1 hh (Nat.le_trans hd (by decide)) (Nat.le_trans (Nat.add_le_add_right (Nat.add_le_add_right hu 1) 1) (by decide)) fun h4 t4 u4 => ?_
      exact hC _ ⟨h4, t4, rfl, F3.keeps u4, N3.grown u4⟩
    · rintro _ ⟨h3, t3, rfl, F3, N3⟩
      obtain ⟨pm, rs⟩ := sort_spec (fun i => g (ns.getD i 0)) (n := ns.length) (by omega)
      refine KasFin.intro F3 N3 (UpdF.head fun p hp => Nat.ne_of_lt (l1 p hp)) fun h4 c F4 N4 => ?_
      refine hQ D _ c h4 t3 ⟨_, pm, rs, rfl⟩ ?_ F4 N4 l1
      rw [List.length_map, Array.length_toList, pm.size_eq]; simp
/-- sorted over ints -/
theorem sort_ints {w : World} {l : Addr} {nw : List (Addr × Obj)} {e : Nat} {vs : List Value} {ns : List Int} (hl : (l, listOf (List.toArray vs) e) ∈ nw) (hi : IntsAre vs ns) (h64 : ns.length < 64) :
    SortOk w l nw ns.length (fun us => ∃ ns', IntsAre us ns' ∧ ns'.Perm ns ∧ ns'.Pairwise (· ≤ ·)) := by
  intro A E s h₀ L m Q hh hd hu X F N hQ
  refine kso_sorted F N (News.isList N hl) hi h64 fun D vs' ns' c h' F' N' l1 a1 a2 a3 a4 _ => ?_
  exact hQ D vs' c h' s.toks ⟨ns', a1, a3, a4⟩ (by rw [a1.length, a2]) F' N' l1
end Mine
end
section
open PySem PySem.W PyProof.Rows
namespace Mine
noncomputable def Maj (ns : List Int) (mo : Int) : Prop := ns.length < 2 * ns.count mo
noncomputable def Half (ns : List Int) (mo : Int) : Prop := ns.length ≤ 2 * ns.count mo
theorem cnt_low {l : List Int} (hs : l.Pairwise (· ≤ ·)) {v : Int} {i : Nat} (hi : i < l.length) (h : l[i] < v) : (l.take (i + 1)).count v = 0 := by
  rw [List.count_eq_zero]
  intro hm
  obtain ⟨j, hj, e⟩ := List.getElem_of_mem hm
  rw [List.getElem_take] at e
  rw [List.length_take] at hj
  rcases Nat.lt_or_eq_of_le (show j ≤ i by omega) with q | q
  · have := List.pairwise_iff_getElem.mp hs j i (by omega) hi q; omega
  · subst q; omega
theorem cnt_high {l : List Int} (hs : l.Pairwise (· ≤ ·)) {v : Int} {i : Nat} (hi : i < l.length) (h : v < l[i]) : (l.drop i).count v = 0 := by
  rw [List.count_eq_zero]
  intro hm
  obtain ⟨j, hj, e⟩ := List.getElem_of_mem hm
  rw [List.getElem_drop] at e
  rw [List.length_drop] at hj
  rcases Nat.lt_or_eq_of_le (show i ≤ i + j by omega) with q | q
  · have := List.pairwise_iff_getElem.mp hs i (i + j) hi (by omega) q; omega
  · have : l[i + j] = l[i] := by congr 1; omega
    omega
theorem cnt_split (l : List Int) (v : Int) (i : Nat) : l.count v = (l.take i).count v + (l.drop i).count v := by
  rw [← List.count_append, List.take_append_drop]
/-- half or more: one of the two middles -/
theorem sorted_half {l : List Int} (hs : l.Pairwise (· ≤ ·)) {v : Int} (h1 : 1 ≤ l.length) (h : l.length ≤ 2 * l.count v) : l[(l.length - 1) / 2]'(by omega) = v ∨ l[l.length / 2]'(by omega) = v := by
  have hi : (l.length - 1) / 2 < l.length := by omega
  have hj : l.length / 2 < l.length := by omega
  have t1 : ∀ k, (l.take k).count v ≤ k := fun k => Nat.le_trans List.count_le_length (by rw [List.length_take]; omega)
  have t2 : ∀ k, (l.drop k).count v ≤ l.length - k := fun k => Nat.le_trans List.count_le_length (by rw [List.length_drop]; omega)
  rcases Int.lt_trichotomy (l[(l.length - 1) / 2]'hi) v with a | a | a
  · rcases Int.lt_trichotomy (l[l.length / 2]'hj) v with b | b | b
    · exfalso
      have c1 := cnt_low hs hj b
      have c2 := cnt_split l v (l.length / 2 + 1)
      have c3 := t2 (l.length / 2 + 1)
      omega
    · exact .inr b
    · exfalso
      have c1 := cnt_low hs hi a
      have c2 := cnt_high hs hj b
      by_cases q : l.length / 2 = (l.length - 1) / 2
      · have : l[l.length / 2]'hj = l[(l.length - 1) / 2]'hi := by congr 1
        omega
      · have e : (l.length - 1) / 2 + 1 = l.length / 2 := by omega
        rw [e] at c1
        have c3 := cnt_split l v (l.length / 2)
        omega
  · exact .inl a
  · exfalso
    have c1 := cnt_high hs hi a
    have c2 := cnt_split l v ((l.length - 1) / 2)
    have c3 := t1 ((l.length - 1) / 2)
    omega
theorem sorted_maj {l : List Int} (hs : l.Pairwise (· ≤ ·)) {v : Int} (h : Maj l v) {i : Nat} (hi : i < l.length) (he : i = (l.length - 1) / 2 ∨ i = l.length / 2) : l[i] = v := by
  have hc : l.count v ≤ l.length := List.count_le_length
  unfold Maj at h
  exact sorted_mid l hs v i hi (by omega) (by omega)
theorem maj_map {l : List Int} {m : Int} (f : Int → Int) (h : Maj l m) : Maj (l.map f) (f m) := by
  unfold Maj at *
  have := count_map_ge f m l
  rw [List.length_map]; omega
theorem half_map {l : List Int} {m : Int} (f : Int → Int) (h : Half l m) : Half (l.map f) (f m) := by
  unfold Half at *
  have := count_map_ge f m l
  rw [List.length_map]; omega
/-- what the places' sort says of the sorted keys -/
theorem ris_list {ns : List Int} {g : Int → Int} {p : Array Nat} (hp : p.Perm (List.range ns.length).toArray) (hr : Ris (fun i => g (ns.getD i 0)) p ns.length) :
    (p.toList.map fun i => g (ns.getD i 0)).Pairwise (· ≤ ·) ∧ (p.toList.map fun i => g (ns.getD i 0)).Perm (ns.map g) := by
  have hz : p.size = ns.length := by rw [hp.size_eq]; simp
  constructor
  · rw [List.pairwise_iff_getElem]
    intro i j hi hj hij
    rw [List.length_map, Array.length_toList, hz] at hi hj
    have := hr i j (Nat.le_of_lt hij) hj
    have e : ∀ k (hk : k < p.size), kk (fun i => g (ns.getD i 0)) p k = g (ns.getD (p[k]) 0) := fun k hk => by
      unfold kk; simp [Array.getD, hk]
    rw [e i (by omega), e j (by omega)] at this
    simpa using this
  · have h1 : p.toList.Perm (List.range ns.length) := by simpa using hp.toList
    have h2 := h1.map fun i => g (ns.getD i 0)
    refine h2.trans (List.Perm.of_eq ?_)
    refine List.ext_getElem (by simp) fun i h1 h2 => ?_
    rw [List.length_map, List.length_range] at h1
    simp [h1]
end Mine
end
section
open PySem PySem.W PySem.Spec PySem.Calls PyProof.Rows
namespace Mine
/-- a code object with its second name -/
noncomputable def codeO (qual : Str) (a0 : Value) (q : Tok) (rest : List Value) (d : Option Addr) (sl : Array (Option Value)) : Obj := { cls := .type "code", dict := d, data := .fields ⟨a0 :: .str qual q :: rest⟩, slots := sl }
theorem code_shape {h : Heap} {c P' : Addr} {qual : Str} (hr : h.CodeRec (.ref c) qual) (ht : h.TableAt c P' #[]) : ∃ a0 q rest d sl, h.get? c = some (codeO qual a0 q rest d sl) := by
  obtain ⟨⟨o, vs, e1, e2, e3, _⟩, _⟩ := ht
  obtain ⟨c2, o2, vs2, q, ec, g1, g2, g3⟩ := hr
  cases ec
  rw [e1] at g1; cases g1
  rw [e3] at g2; cases g2
  obtain ⟨cls, d, data, sl⟩ := o
  cases e2; cases e3
  obtain ⟨l⟩ := vs
  match l, g3 with
  | a0 :: b :: rest, g3 =>
    have : b = .str qual q := by simpa using g3
    subst this
    exact ⟨a0, q, rest, d, sl, e1⟩
  | [_], g3 => simp at g3
  | [], g3 => simp at g3
section
variable {M : Model} {A : Around} {E : Value → Shared → Prop} {s : Shared} {h₀ : Heap} {L a c P : Addr} {m mg mb : Str → Option Value} {cn : Str} {cs : Scope} {ccd : Value} {cl : List (Str × Addr)} {news : List (Addr × Obj)}
  {p : Program} {loose : List Str} {mean : ExcName → Option Value} {name qual : Str} {params : Arguments} {body : PySem.Expr} {scope : Scope} {ps : Array Value} {pos : Pos} {firstLine : Nat} {clos : List (Str × Addr)} {Q : Value → Shared → Prop}
/-- functionCode where the position is new to the table: what stands but the table stands -/
theorem lam_tail (hcl : closureFor scope (envX cn cs L a ccd cl) = pure clos) (hg : s.heap.Ns mainGlobals mg) (hcode : ccd = .ref c) (C : CodeHd s.heap c P) (hP : s.heap.get? P = some (tabObj ps)) (ht : TriplesOk ps.toList)
    (hnf : codeAmong pos ps.toList = none) (hgP : mainGlobals ≠ P) (hb : s.heap.BuiltinsAt mg P)
    (h : ∀ c' ctv a0 q rest d sl h' tk, Heap.ExtBut P s.heap h' → s.heap.objs.size ≤ c' → c' < h'.objs.size → h'.get? c' = some (codeO qual a0 q rest d sl) → h'.get? P = some (tabObj (ps ++ #[rawInt pos.line, rawInt pos.col, .ref c'])) →
      Q (.ref h'.objs.size) { s with heap := h'.push (kla_obj name qual params body scope clos ((mg "__name__").getD .none) c' ctv), toks := tk }) :
    wpAny M A (makeTail name qual params (.expr body) scope (envX cn cs L a ccd cl) .none .none none pos firstLine) Q E s := by
  obtain ⟨bm, ob, hbm, hne0, _, hneP, hbo, hcls, hdict, hdata⟩ := hb
  have tail : ∀ (ct : Value) (H : Heap), (∀ b o, s.heap.get? b = some o → H.get? b = some o) → s.heap.objs.size ≤ H.objs.size →
      wpAny M A (functionCode (envX cn cs L a ccd cl) pos firstLine name qual params scope (.expr body)) (fun code s₁ => wpAny M A (builtinsFor mainGlobals builtinsNs) (fun bns s₂ => wpAny M A (nsGet mainGlobals "__name__") (fun nm s₃ =>
        wpAny M A (newObj (.type "function") (.func { name, qualname := qual, params, body := .expr body, scope, globals := mainGlobals, closure := clos, defaults := .none, kwdefaults := .none, doc := .none, pyModule := nm.getD .none, annotations := none, code := code, closureTuple := ct, builtins := bns })) Q E s₃) E s₂) E s₁) E { s with heap := H } := by
    intro ct H hk hz
    have C' := C.keeps hk
    refine wpAny_functionCodeX hcode (C'.code (hk _ _ hP) ht) (C'.tab (hk _ _ hP)) hnf fun c' h' tk hx hge hlt _ hrec htb ⟨P', _, _, ht'⟩ => ?_
    have hx' : Heap.ExtBut P s.heap h' := fun b o hb' e => hx b o hb' (hk b o e)
    have hg' := hg.extBut hx' hgP
    obtain ⟨a0, q, rest, d, sl, hc'⟩ := code_shape hrec ht'
    refine wpAny_builtinsFor hg' hbm hne0 (hx' _ _ hneP hbo) hcls hdict hdata (wpAny_nsGet hg' ?_)
    exact wpAny_newObj_type (h c' ct a0 q rest d sl h' tk hx' (Nat.le_trans hz hge) hlt hc' htb.2) (by size_fits)
  unfold makeTail
  rw [hcl]
  refine wpAny_bind (wpAny_pure ?_)
  cases clos with
  | nil =>
    simp only [List.isEmpty_nil, if_true]
    refine wpAny_bind (wpAny_pure ?_)
    refine wpAny_bind (wpAny_mono (tail .none s.heap (fun _ _ e => e) (Nat.le_refl _)) (fun _ _ x => ?_) fun _ _ e => e)
    exact wpAny_bind (wpAny_mono x (fun _ _ y => wpAny_bind (wpAny_mono y (fun _ _ z => wpAny_bind (wpAny_pure z)) fun _ _ e => e)) fun _ _ e => e)
  | cons r rs =>
    simp only [List.isEmpty_cons, Bool.false_eq_true, if_false]
    refine wpAny_bind (wpAny_newTextTuple ?_)
    refine wpAny_bind (wpAny_mono (tail (.ref s.heap.objs.size) (s.heap.push _) (fun _ _ e => Heap.get?_push_of_some _ e) (by rw [Heap.size_push]; omega)) (fun _ _ x => ?_) fun _ _ e => e)
    exact wpAny_bind (wpAny_mono x (fun _ _ y => wpAny_bind (wpAny_mono y (fun _ _ z => wpAny_bind (wpAny_pure z)) fun _ _ e => e)) fun _ _ e => e)
end
end Mine
end
section
open PySem PySem.W PySem.W.X PyProof.Rows PySem.Spec PySem.Calls
namespace Mine
/-- _law_middles' body -/
noncomputable def midBody : List Stmt := match (PySem.Challenge.rw_mr0138_02.prog.main.body.drop 11).head? with
  | some (Stmt.FunctionDef _ _ b _ _ _ _ _ _ _) => b
  | _ => []
noncomputable def midScope : Scope := match (PySem.Challenge.rw_mr0138_02.prog.main.body.drop 11).head? with
  | some (Stmt.FunctionDef _ _ _ _ _ _ sc _ _ _) => sc
  | _ => default
noncomputable def midObj (P : Params) : Obj := ((KF P).lookup 76).getD default
theorem mid_f1 (P : Params) : (KF P).lookup 76 = some (midObj P) := by kernel_rfl
theorem mid_f2 (P : Params) : (midObj P).data = .func (fdOf (midObj P)) := by kernel_rfl
theorem mid_f3 (P : Params) : (fdOf (midObj P)).scope.isCoroutine = false := by kernel_rfl
theorem mid_f4 (P : Params) : (fdOf (midObj P)).scope.isGenerator = false := by kernel_rfl
theorem mid_f5 (P : Params) : (fdOf (midObj P)).body = .stmts midBody := by kernel_rfl
theorem mid_f6 (P : Params) : codeIn (KF P) (fdOf (midObj P)).code (fdOf (midObj P)).qualname = true := by kernel_rfl
theorem mid_f7 (P : Params) (l f : Addr) : bindArgs (fdOf (midObj P)) ⟨[.ref l, .ref f], []⟩ = pure [(Str.ofString "row", .ref l), (Str.ofString "mark", .ref f)] := by kernel_rfl
noncomputable def midEnv (L : Addr) : Env := { scope := midScope, locals := L, globals := mainGlobals, cells := [(Str.ofString "keys", L + 4), (Str.ofString "key", L + 3), (Str.ofString "mark", L + 2), (Str.ofString "row", L + 1)], qual := Str.ofString "_law_middles" ++ Str.ofString ".<locals>.", func := some 76, code := .ref 75, frame := some L, builtins := builtinsNs }
noncomputable def cellE : Obj := { cls := .type "cell", data := .cell none }
theorem mid_f8 (P : Params) : (fdOf (midObj P)).scope = midScope := by kernel_rfl
theorem mid_f9 (P : Params) : (fdOf (midObj P)).qualname = Str.ofString "_law_middles" := by kernel_rfl
theorem mid_f10 (P : Params) : (fdOf (midObj P)).code = .ref 75 := by kernel_rfl
theorem ns_empty {h : Heap} {L : Addr} (e : h.get? L = some { cls := .type "frame", data := .dict #[] }) : h.Ns L fun _ => none := ⟨_, #[], 0, e, rfl, fun _ hm => by simp at hm, fun _ => rfl⟩
set_option maxHeartbeats 4000000 in
theorem mid_enter0 {w : World} {A A₀ : Around} {base h₀ : Heap} {outer : List Env} {L : Addr} {m : Str → Option Value} {env : Env} {s : Shared} {news : List (Addr × Obj)} {R : Result → Shared → Prop} {l f : Addr}
    (XF : InF w h₀) (B : Below A₀ base outer h₀) (F : Fr h₀ L s.heap m) (N : News h₀ L s.heap news) (hA : A.frames = some (env :: outer)) (hf : env.frame = some L) (hke : env.scope.kind = .function) (hroom : A.depth ≤ 460)
    (h : ∀ g L' h₁ tk, Fr h₀ L g m → Fr g L' h₁ (fun _ => none) → News g L' h₁ ((L' + 4, cellE) :: (L' + 3, cellE) :: (L' + 2, cellO f) :: (L' + 1, cellO l) :: news) → Below A base (env :: outer) g → h₀.StaysIn g → (∀ p ∈ news, p.1 < L') →
      wpAny (model PR w) (A.deeper (midEnv L')) (execs midBody (midEnv L')) (fun fl s' => LeaveK h₀ L m g R (match fl with | .ret v => v | _ => .none) s')
        (fun e s' => wpAny (model PR w) (A.deeper (midEnv L')) (leaving (midEnv L') e) (fun _ s'' => R (.error e) s'') (fun e' s'' => R (.error e') s'') s') { s with heap := h₁, toks := tk }) :
    codeAny (model PR w) A (.call (.ref 76) ⟨[.ref l, .ref f], []⟩) R s := by
  obtain ⟨FG, BG, st, lv⟩ := groundX (R := R) B F N hA hf hke
  have X : (KF w.params).In s.heap := fun a o e => F.keep a o (XF.out a o e)
  have hK : ∀ h' news, Led s.heap h' news → (KF w.params).In h' := fun h' news D a o e => D.keep a o (X a o e)
  have D : Led s.heap s.heap [] := ⟨fun _ _ e => e, (fun _ hp => nomatch hp), List.nodup_nil⟩
  obtain ⟨v, NN⟩ := names_new (w := w) 20 X
  have hv : v + 2 = s.heap.objs.size := NN 0 _ rfl
  have c1 : s.heap.get? 76 = some (midObj w.params) := X 76 (midObj w.params) (mid_f1 w.params)
  have c2 : s.heap.CodeRec (fdOf (midObj w.params)).code (fdOf (midObj w.params)).qualname := codeRec_of X (mid_f6 w.params)
  have c3 : A.depth < recursionLimit := Nat.lt_of_le_of_lt hroom (by decide)
  refine codeAny_call_function (prog := PR) (w := w) (a := 76) (args := ⟨[.ref l, .ref f], []⟩) (o := midObj w.params) (fd := fdOf (midObj w.params)) (body := midBody) c3 c1 (mid_f2 w.params) (mid_f3 w.params) (mid_f4 w.params) (mid_f5 w.params) c2 ?_
  with_reducible refine wpAny_of_eq (mid_f7 w.params l f) ?_
  with_reducible refine chunkE hK 100 [2, 2, 3, 3] _ ((namesFrom v 20).drop 5) (midEnv (v + 2)) ⟨[(v + 2 + 4, cellE), (v + 2 + 3, cellE), (v + 2 + 2, cellO f), (v + 2 + 1, cellO l), (v + 2, { cls := .type "frame", data := .dict #[] })], s.toks⟩ (ls := ⟨[], s.toks⟩) D NN (by kernel_rfl) (by kernel_rfl) fun h2 D2 N2 => ?_
  refine ⟨noLimit (hK _ _ D2), codeAny_func ?_⟩
  have lt : ∀ b o, s.heap.get? b = some o → (b : Nat) < v + 2 := fun b o e => hv ▸ Heap.lt_size e
  refine wpAny_mono (h _ (v + 2) h2 s.toks FG ⟨ns_empty (D2.at 4 _ _ rfl), fun b o e => D2.keep b o (of_hideAll _ e), Nat.le_of_eq (by rw [hideAll_size, hv])⟩ (fun p hp => ?_) BG st fun p hp => lt _ _ (N p hp).1) (fun fl s' hl => lv _ _ hl) fun _ _ y => y
  have new : ∀ (i : Nat) (a : Addr) (o : Obj), [(v + 2 + 4, cellE), (v + 2 + 3, cellE), (v + 2 + 2, cellO f), (v + 2 + 1, cellO l), (v + 2, ({ cls := .type "frame", data := .dict #[] } : Obj))][i]? = some (a, o) → (a : Nat) ≠ v + 2 → h2.get? a = some o ∧ a ≠ v + 2 ∧ (hideAll s.heap (news.map (·.1))).get? a = none := fun i a o e ne => by
    refine ⟨D2.at i a o e, ne, ?_⟩
    have z := (D2.nw (a, o) (List.mem_of_getElem? e)).2
    cases q : (hideAll s.heap (news.map (·.1))).get? a with
    | none => rfl
    | some o' => rw [of_hideAll _ q] at z; cases z
  rcases List.mem_cons.mp hp with rfl | hp
  · exact new 0 _ _ rfl (by show (v + 2 + 4 : Nat) ≠ v + 2; omega)
  rcases List.mem_cons.mp hp with rfl | hp
  · exact new 1 _ _ rfl (by show (v + 2 + 3 : Nat) ≠ v + 2; omega)
  rcases List.mem_cons.mp hp with rfl | hp
  · exact new 2 _ _ rfl (by show (v + 2 + 2 : Nat) ≠ v + 2; omega)
  rcases List.mem_cons.mp hp with rfl | hp
  · exact new 3 _ _ rfl (by show (v + 2 + 1 : Nat) ≠ v + 2; omega)
  exact ⟨D2.keep _ _ (N p hp).1, Nat.ne_of_lt (lt _ _ (N p hp).1), hideAll_none _ (List.mem_map_of_mem hp)⟩
theorem mid_enter {K : Frag} {w : World} {A A₀ : Around} {base h₀ : Heap} {outer : List Env} {L : Addr} {m mg mb : Str → Option Value} {env : Env} {s : Shared} {news : List (Addr × Obj)} {R : Result → Shared → Prop} {l f : Addr} {p : Program} {loose : List Str} {mean : ExcName → Option Value}
    {name qual : Str} {params : Arguments} {body : List Stmt} {scope : Scope} {dV kV doc pm cdv ct oc : Value} {an od : Option Addr} {osl : Array (Option Value)}
    (XF : InF w h₀) (B : Below A₀ base outer h₀) (F : Fr h₀ L s.heap m) (X₀ : K.In h₀) (N : News h₀ L s.heap news) (T : Top p loose mean mg mb h₀) (hA : A.frames = some (env :: outer)) (hf : env.frame = some L) (hke : env.scope.kind = .function)
    (ho : K.lookup 76 = some ⟨oc, od, .func (fnOf name qual params body scope dV kV doc pm an cdv ct), osl⟩) (hroom : A.depth ≤ 460)
    (h : ∀ g L' h₁ tk, Fr h₀ L g m → Fr g L' h₁ (fun _ => none) → News g L' h₁ ((L' + 4, cellE) :: (L' + 3, cellE) :: (L' + 2, cellO f) :: (L' + 1, cellO l) :: news) → Below A base (env :: outer) g → K.In g → Top p loose mean mg mb g → InF w g → (∀ p ∈ news, p.1 < L') →
      wpAny (model PR w) (A.deeper (envX qual scope L' 76 cdv [(Str.ofString "keys", L' + 4), (Str.ofString "key", L' + 3), (Str.ofString "mark", L' + 2), (Str.ofString "row", L' + 1)])) (execs body (envX qual scope L' 76 cdv [(Str.ofString "keys", L' + 4), (Str.ofString "key", L' + 3), (Str.ofString "mark", L' + 2), (Str.ofString "row", L' + 1)]))
        (fun fl s' => LeaveK h₀ L m g R (match fl with | .ret v => v | _ => .none) s')
        (fun e s' => wpAny (model PR w) (A.deeper (envX qual scope L' 76 cdv [(Str.ofString "keys", L' + 4), (Str.ofString "key", L' + 3), (Str.ofString "mark", L' + 2), (Str.ofString "row", L' + 1)])) (leaving (envX qual scope L' 76 cdv [(Str.ofString "keys", L' + 4), (Str.ofString "key", L' + 3), (Str.ofString "mark", L' + 2), (Str.ofString "row", L' + 1)]) e) (fun _ s'' => R (.error e) s'') (fun e' s'' => R (.error e') s'') s') { s with heap := h₁, toks := tk }) :
    codeAny (model PR w) A (.call (.ref 76) ⟨[.ref l, .ref f], []⟩) R s := by
  have e1 : midObj w.params = ⟨oc, od, .func (fnOf name qual params body scope dV kV doc pm an cdv ct), osl⟩ := Option.some.inj ((XF.out 76 _ (mid_f1 w.params)).symm.trans (X₀ 76 _ ho))
  have e2 : fdOf (midObj w.params) = fnOf name qual params body scope dV kV doc pm an cdv ct := by rw [e1]; rfl
  have b1 := mid_f5 w.params
  have b2 := mid_f8 w.params
  have b3 := mid_f9 w.params
  have b4 := mid_f10 w.params
  rw [e2] at b1 b2 b3 b4
  obtain rfl : body = midBody := by injection b1
  obtain rfl : scope = midScope := b2
  obtain rfl : qual = Str.ofString "_law_middles" := b3
  obtain rfl : cdv = .ref 75 := b4
  exact mid_enter0 XF B F N hA hf hke hroom fun g L' h₁ tk FG F' N' B' st l1 => h g L' h₁ tk FG F' N' B' (X₀.keeps st) (T.keeps st) (kf_keeps XF st) l1
end Mine
end
section
open PySem PySem.W PySem.W.X PyProof.Rows PySem.Spec PySem.Calls
namespace Mine
noncomputable abbrev Led1 := List (Addr × Obj)
noncomputable abbrev InL (n : Led1) : Addr → Obj → Prop := fun a o => (a, o) ∈ n
noncomputable def lamQ : Str := Str.ofString "_law_middles.<locals>.<lambda>"
/-- the lambda's code in its table -/
noncomputable def HasLam (R : Addr → Obj → Prop) : Prop := ∃ (c : Addr) (a0 : Value) (q : Tok) (rest : List Value) (d : Option Addr) (sl : Array (Option Value)), R 73 (tabObj #[rawInt 71, rawInt 21, .ref c]) ∧ R c (codeO lamQ a0 q rest d sl)
noncomputable def TabSt (R : Addr → Obj → Prop) : Prop := (R 43 (tabObj #[]) ∧ R 73 (tabObj #[])) ∨ (KCodesR R ∧ HasLam R)
noncomputable def MidT (R : Addr → Obj → Prop) : Prop := HasLam R ∧ (R 43 (tabObj #[]) ∨ KCodesR R)
noncomputable def Filled (R : Addr → Obj → Prop) : Prop := KCodesR R ∧ HasLam R
theorem KCodesR.mono {R R' : Addr → Obj → Prop} (M : KCodesR R) (hr : ∀ a o, R a o → o.data ≠ .fields #[] → R' a o) : KCodesR R' := by
  obtain ⟨cK, PK, c, a, r, n, i, nd, e, g1, g2, g3, g4, g5, g6, g7, g8, g9⟩ := M
  refine ⟨cK, PK, c, a, r, n, i, nd, e, hr _ _ g1 ?_, hr _ _ g2 ?_, hr _ _ g3 ?_, hr _ _ g4 ?_, hr _ _ g5 ?_, hr _ _ g6 ?_, hr _ _ g7 ?_, hr _ _ g8 ?_, hr _ _ g9 ?_⟩ <;> (intro q; injection q with q; have := congrArg Array.size q; simp at this)
theorem HasLam.mono {R R' : Addr → Obj → Prop} (M : HasLam R) (hr : ∀ a o, R a o → o.data ≠ .fields #[] → R' a o) : HasLam R' := by
  obtain ⟨c, a0, q, rest, d, sl, g1, g2⟩ := M
  refine ⟨c, a0, q, rest, d, sl, hr _ _ g1 ?_, hr _ _ g2 ?_⟩
  · intro z; injection z with z; have := congrArg Array.size z; simp at this
  · intro z; injection z with z; have := congrArg Array.size z; simp at this
theorem news_app {h₀ h : Heap} {L : Addr} {a b : Led1} (x : News h₀ L h a) (y : News h₀ L h b) : News h₀ L h (a ++ b) := fun p hp => (List.mem_append.mp hp).elim (x p) (y p)
theorem news_old {h₀ h h' : Heap} {L P : Addr} {n : Led1} {o : Obj} (N : News h₀ L h n) (hP : (P, o) ∈ n) (hx : ∀ b ob, b ≠ P → h.get? b = some ob → h'.get? b = some ob) : ∀ p ∈ n, (p.1 ≠ P ∨ p.2.data ≠ o.data) → h'.get? p.1 = some p.2 ∧ p.1 ≠ L ∧ h₀.get? p.1 = none := fun p hp hne => by
  have np : p.1 ≠ P := fun q => by
    rcases hne with h1 | h1
    · exact h1 q
    · have e1 := (N p hp).1
      have e2 := (N _ hP).1
      rw [q, e2] at e1
      exact h1 (by rw [← Option.some.inj e1])
  exact ⟨hx _ _ np (N p hp).1, (N p hp).2⟩
theorem fr_ext {h₀ h h' : Heap} {L P : Addr} {m : Str → Option Value} (F : Fr h₀ L h m) (hL : L ≠ P) (h0 : h₀.get? P = none) (hx : ∀ b ob, b ≠ P → h.get? b = some ob → h'.get? b = some ob) : Fr h₀ L h' m := by
  obtain ⟨o, es, ep, e, r⟩ := F.ns
  exact ⟨⟨o, es, ep, hx L o hL e, r⟩, fun b ob q => hx b ob (fun z => by rw [z, h0] at q; cases q) (F.keep b ob q), F.above⟩
theorem fresh_new {h₀ h h' : Heap} {L : Addr} {m : Str → Option Value} (F : Fr h₀ L h m) {a : Addr} {o : Obj} (e : h'.get? a = some o) (hn : h.get? a = none) : h'.get? a = some o ∧ a ≠ L ∧ h₀.get? a = none := by
  refine ⟨e, fun q => ?_, ?_⟩
  · obtain ⟨o', _, _, z, _⟩ := F.ns
    rw [q, z] at hn; cases hn
  · cases q : h₀.get? a with
    | none => rfl
    | some o' => rw [F.keep _ _ q] at hn; cases hn
section
variable {w : World} {A : Around} {E : Value → Shared → Prop} {s : Shared} {h₀ : Heap} {L a : Addr} {m mg mb : Str → Option Value} {cn : Str} {cs : Scope} {cl : List (Str × Addr)} {n : Led1} {Q : Value → Shared → Prop}
  {p : Program} {loose : List Str} {mean : ExcName → Option Value} {params : Arguments} {body : PySem.Expr} {scope : Scope} {pos : Pos} {cm : Addr}
theorem codeHd75 {P : Params} {h : Heap} (X : (KF P).In h) : CodeHd h 75 73 := codeHd_of_K X (by kernel_rfl)
theorem lam_mid {M : Model} (XF : InF w h₀) (F : Fr h₀ L s.heap m) (N : News h₀ L s.heap n) (T : Top p loose mean mg mb h₀) (hT : TabSt (InL n)) (hcl : closureFor scope (envX cn cs L a (.ref 75) cl) = pure [(Str.ofString "mark", cm)])
    (hq : (envX cn cs L a (.ref 75) cl).qual ++ Str.ofString "<lambda>" = lamQ) (hlam : lamE = .Lambda params body scope pos) (hpos : pos.line = 71 ∧ pos.col = 21) (hd : defaultsOf params (envX cn cs L a (.ref 75) cl) = ([], []))
    (h : ∀ f n1 h' tk', Fr h₀ L h' m → News h₀ L h' n1 → (∃ (c : Addr) (ct pm a0 : Value) (tq : Tok) (rest : List Value) (d : Option Addr) (sl : Array (Option Value)), (f, ({ cls := .type "function", dict := none, data := .func (lamD lamE lamQ [(Str.ofString "mark", cm)] c ct pm), slots := #[] } : Obj)) ∈ n1 ∧ (c, codeO lamQ a0 tq rest d sl) ∈ n1) →
      MidT (InL n1) → (∀ p ∈ n, (p.1 ≠ 73 ∨ p.2.data ≠ .fields #[]) → p ∈ n1) → Q (.ref f) { s with heap := h', toks := tk' }) :
    wpAny M A (eval (.Lambda params body scope pos) (envX cn cs L a (.ref 75) cl)) Q E s := by
  have C := codeHd75 XF.out
  refine kla_eval hd ?_
  rw [hq]
  have hlamD : ∀ (c : Addr) (ct pm : Value), lamD lamE lamQ [(Str.ofString "mark", cm)] c ct pm = kla_fn "<lambda>" lamQ params body scope [(Str.ofString "mark", cm)] pm (.ref c) ct := fun c ct pm => by rw [hlam]; rfl
  rcases hT with ⟨t43, t73⟩ | ⟨kc, c, a0, q, rest, d, sl, g1, g2⟩
  · have hm := N _ t73
    have hgs := T.g.keeps F.keep
    obtain ⟨bm, ob, b1, b2, b3, b4, b5, b6⟩ := T.bmain
    have hgP : mainGlobals ≠ 73 := fun q => by
      obtain ⟨o, es, ep, e, hd, _⟩ := hgs
      rw [q, hm.1] at e; cases e; cases hd
    have hbP : bm ≠ 73 := fun q => by
      have e := F.keep _ _ b3
      rw [q, hm.1] at e; cases e; cases b4
    have hbG : bm ≠ mainGlobals := fun q => by
      obtain ⟨o, es, ep, e, hd, _⟩ := T.g
      rw [q, e] at b3; cases b3; rw [hd] at b6; cases b6
    rw [makeFunction_eq]
    simp only [List.zip_nil_right, List.filterMap_nil, List.isEmpty_nil, if_true, pure_bind]
    refine lam_tail (c := 75) (P := 73) (ps := #[]) (mg := mg) hcl hgs rfl (C.keeps F.keep) hm.1 (by simp [TriplesOk]) (by rfl) hgP ⟨bm, ob, b1, b2, hbG, hbP, F.keep _ _ b3, b4, b5, b6⟩ fun c' ctv a0 q rest d sl h' tk hx hge hlt hc' htb => ?_
    have up : ∀ b o, h'.get? b = some o → (h'.push (kla_obj "<lambda>" lamQ params body scope [(Str.ofString "mark", cm)] ((mg "__name__").getD .none) c' ctv)).get? b = some o := fun b o e => Heap.get?_push_of_some _ e
    have hx' : ∀ b ob, b ≠ 73 → s.heap.get? b = some ob → (h'.push (kla_obj "<lambda>" lamQ params body scope [(Str.ofString "mark", cm)] ((mg "__name__").getD .none) c' ctv)).get? b = some ob := fun b ob hb e => up _ _ (hx b ob hb e)
    have F' := fr_ext F hm.2.1.symm hm.2.2 hx'
    have hsz : ∀ b : Addr, s.heap.objs.size ≤ b → s.heap.get? b = none := fun b hb => Heap.get?_none_of_le hb
    have old := news_old (o := tabObj #[]) N t73 hx'
    have ps : (#[] ++ #[rawInt pos.line, rawInt pos.col, .ref c'] : Array Value) = #[rawInt 71, rawInt 21, .ref c'] := by rw [hpos.1, hpos.2]; rfl
    rw [ps] at htb
    refine h h'.objs.size ((h'.objs.size, kla_obj "<lambda>" lamQ params body scope [(Str.ofString "mark", cm)] ((mg "__name__").getD .none) c' ctv) :: (c', codeO lamQ a0 q rest d sl) :: (73, tabObj #[rawInt 71, rawInt 21, .ref c']) :: n.filter fun p => p.1 != 73 || (match p.2.data with | .fields ⟨[]⟩ => false | _ => true)) _ tk F' ?_ ?_ ?_ ?_
    · intro p hp
      rcases List.mem_cons.mp hp with rfl | hp
      · exact fresh_new F (Heap.get?_push_size _ rfl) (hsz _ (Nat.le_trans hge (Nat.le_of_lt hlt)))
      rcases List.mem_cons.mp hp with rfl | hp
      · exact fresh_new F (up _ _ hc') (hsz _ hge)
      rcases List.mem_cons.mp hp with rfl | hp
      · exact ⟨up _ _ htb, hm.2⟩
      · obtain ⟨h1, h2⟩ := List.mem_filter.mp hp
        refine old p h1 ?_
        rcases Bool.or_eq_true_iff.mp h2 with h3 | h3
        · exact .inl (by simpa using h3)
        · refine .inr fun z => ?_
          rw [z] at h3; cases h3
    · refine ⟨c', ctv, (mg "__name__").getD .none, a0, q, rest, d, sl, ?_, .tail _ (.head _)⟩
      rw [hlamD]; exact .head _
    · refine ⟨⟨c', a0, q, rest, d, sl, .tail _ (.tail _ (.head _)), .tail _ (.head _)⟩, .inl (.tail _ (.tail _ (.tail _ (List.mem_filter.mpr ⟨t43, ?_⟩))))⟩
      rfl
    · intro p hp hne
      refine .tail _ (.tail _ (.tail _ (List.mem_filter.mpr ⟨hp, ?_⟩)))
      rcases hne with h1 | h1
      · rw [Bool.or_eq_true]; exact .inl (by simpa using h1)
      · rw [Bool.or_eq_true]; refine .inr ?_
        split
        · rename_i z; exact absurd z h1
        · rfl
  · refine kla_hit (c := 75) (P := 73) (ps := #[rawInt 71, rawInt 21, .ref c]) (c' := c) F N T C rfl g1 (by simp [TriplesOk, rawInt]) ?_ hcl fun f ctv h' tk F' N' l1 => ?_
    · obtain ⟨l0, c0, l1, c1⟩ := pos
      obtain ⟨rfl, rfl⟩ := hpos
      rfl
    · refine h f _ h' tk F' N' ⟨c, ctv, (mg "__name__").getD .none, a0, q, rest, d, sl, ?_, .tail _ g2⟩ ⟨⟨c, a0, q, rest, d, sl, .tail _ g1, .tail _ g2⟩, .inr (kc.mono fun a o x _ => .tail _ x)⟩ fun p hp _ => .tail _ hp
      rw [hlamD]; exact .head _
end
end Mine
end
section
open PySem PySem.W PySem.W.X PyProof.Rows PySem.Spec PySem.Calls
namespace Mine
section
variable {w : World} {A : Around} {E : Value → Shared → Prop} {s : Shared} {h₀ : Heap} {L a : Addr} {m : Str → Option Value} {cn : Str} {cs : Scope} {cl : List (Str × Addr)} {ccd : Value} {n : Led1} {f C : Addr}
theorem ck_mid {Q : Value → Shared → Prop} (XF : InF w h₀) (hh : A.handled = none) (hd : A.depth ≤ 460) (hu : A.units ≤ 160) (F : Fr h₀ L s.heap m) (N : News h₀ L s.heap n) (hT : MidT (InL n))
    (h : ∀ C n1 h' tk', Fr h₀ L h' m → News h₀ L h' n1 → KMadeR w (InL n1) C f → Filled (InL n1) → (∀ p ∈ n, (p.1 ≠ 43 ∨ p.2.data ≠ .fields #[]) → p ∈ n1) → Q (.ref C) { s with heap := h', toks := tk' }) :
    wpAny (model PR w) A (call (.ref 48) [.ref f]) Q E s := by
  have X : (KF w.params).In s.heap := fun a o e => F.keep a o (XF.out a o e)
  obtain ⟨hl, tt⟩ := hT
  refine wpAny_call ?_
  rcases tt with t43 | kc
  · refine ck_call w A s.heap s.gens s.drawn s.toks s.os f _ X (XF.obj.keeps F.keep) (N _ t43).1 hh hd hu fun C t' h' hx ⟨kl, tl, K⟩ => ?_
    have hm := N _ t43
    have F' := fr_ext F hm.2.1.symm hm.2.2 hx
    have old := news_old (o := tabObj #[]) N t43 hx
    refine h C (kl ++ tl ++ n.filter fun p => p.1 != 43 || (match p.2.data with | .fields ⟨[]⟩ => false | _ => true)) h' t' F' (news_app (news_app (fun p hp => fresh_new F (K.kf p hp).1 (K.kf p hp).2) fun p hp => ?_) fun p hp => ?_) (K.made.mono fun a o x => List.mem_append_left _ x) ⟨K.codes.mono fun a o x _ => List.mem_append_left _ (List.mem_append_right _ x), ?_⟩ fun p hp hne => List.mem_append_right _ (List.mem_filter.mpr ⟨hp, ?_⟩)
    · obtain ⟨e1, e2⟩ := K.tf p hp
      rcases e2 with e2 | e2
      · refine ⟨e1, ?_, ?_⟩
        · rw [e2]; exact hm.2.1
        · rw [e2]; exact hm.2.2
      · exact fresh_new F e1 e2
    · obtain ⟨h1, h2⟩ := List.mem_filter.mp hp
      refine old p h1 ?_
      rcases Bool.or_eq_true_iff.mp h2 with h3 | h3
      · exact .inl (by simpa using h3)
      · refine .inr fun z => ?_
        rw [z] at h3; cases h3
    · refine hl.mono fun a o x hne => List.mem_append_right _ (List.mem_filter.mpr ⟨x, ?_⟩)
      rw [Bool.or_eq_true]; refine .inr ?_
      split
      · rename_i z; exact absurd z hne
      · rfl
    · rcases hne with h1 | h1
      · rw [Bool.or_eq_true]; exact .inl (by simpa using h1)
      · rw [Bool.or_eq_true]; refine .inr ?_
        split
        · rename_i z; exact absurd z h1
        · rfl
  · refine ck_call2 w A s.heap s.gens s.drawn s.toks s.os f _ X (XF.obj.keeps F.keep) (tl := n) (fun p hp => (N p hp).1) kc hh hd hu fun C t' h' kl u kf km => ?_
    refine h C (kl ++ n) h' t' (F.keeps u) (news_app (fun p hp => fresh_new F (kf p hp).1 (kf p hp).2) (N.grown u)) km ⟨kc.mono fun a o x _ => List.mem_append_right _ x, hl.mono fun a o x _ => List.mem_append_right _ x⟩ fun p hp _ => List.mem_append_right _ hp
theorem store_cell {M : Model} {Q : Unit → Shared → Prop} {c : Addr} {o : Obj} {x : Str} {v : Value} {v₀ : Option Value} (F : Fr h₀ L s.heap m) (N : News h₀ L s.heap n) (hc : cl.lookup x = some c) (hm : (c, o) ∈ n) (hd : o.data = .cell v₀)
    (h : ∀ h' o' n1, Fr h₀ L h' m → News h₀ L h' n1 → (c, o') ∈ n1 → o'.data = .cell (some v) → (∀ p ∈ n, (p.1 ≠ c ∨ p.2.data ≠ o.data) → p ∈ n1) → Q () { s with heap := h' })
    (hk : cs.kind = .function := by rfl) (hx : (envX cn cs L a ccd cl).kindOf x = some .cell := by rfl) : wpAny M A (storeName (envX cn cs L a ccd cl) x v) Q E s := by
  have hmem := N _ hm
  refine wpAny_storeName_cell hk hx hc ⟨o, hmem.1, hd⟩ fun h' hv hs => ?_
  obtain ⟨o', ho', hd'⟩ := hv
  have hx' : ∀ b ob, b ≠ c → s.heap.get? b = some ob → h'.get? b = some ob := fun b ob ne e => (hs.2 b ne).trans e
  have old := news_old N hm hx'
  refine h h' o' ((c, o') :: n.filter fun p => p.1 != c) (fr_ext F (Ne.symm hmem.2.1) hmem.2.2 hx') (fun p hp => ?_) (.head _) hd' fun p hp hne => ?_
  · rcases List.mem_cons.mp hp with rfl | hp
    · exact ⟨ho', hmem.2⟩
    · obtain ⟨h1, h2⟩ := List.mem_filter.mp hp
      exact old p h1 (.inl (by simpa using h2))
  · refine .tail _ (List.mem_filter.mpr ⟨hp, ?_⟩)
    rcases hne with h1 | h1
    · simpa using h1
    · have : p.1 ≠ c := fun q => by
        have e1 := (N p hp).1
        rw [q, hmem.1] at e1
        exact h1 (by rw [← Option.some.inj e1])
      simpa using this
theorem key_new {Q : Value → Shared → Prop} {i : Int} {t : Tok} (XF : InF w h₀) (hh : A.handled = none) (hd : A.depth ≤ 500) (hu : A.units ≤ 200) (F : Fr h₀ L s.heap m) (N : News h₀ L s.heap n) (M : KMadeR w (InL n) C f)
    (h : ∀ x dx h' tk', Fr h₀ L h' m → News h₀ L h' ((x, instK C dx i t) :: n) → (∀ p ∈ n, p.1 ≠ x) → Q (.ref x) { s with heap := h', toks := tk' }) :
    wpAny (model PR w) A (call (.ref C) [.int i t]) Q E s := by
  have X : (KF w.params).In s.heap := fun a o e => F.keep a o (XF.out a o e)
  have M' : KMade w s.heap C f := M.mono fun a o x => (N _ x).1
  refine wpAny_mono (wpAS (key_call (s := s) (n := i) (tn := t) X M') hh hd hu) (fun v s' hv => ?_) fun _ _ e => e.elim
  obtain ⟨x, dx, h', t', rfl, rfl, u, hx, hn⟩ := hv
  refine h x dx h' t' (F.keeps u) (fun p hp => ?_) fun p hp q => ?_
  · rcases List.mem_cons.mp hp with rfl | hp
    · exact fresh_new F hx hn
    · exact N.grown u p hp
  · have := (N p hp).1
    rw [q, hn] at this; cases this
theorem mark_call {Q : Value → Shared → Prop} {fm : Addr} {g : Int → Int} {i : Int} {t : Tok} (XF : InF w h₀) (hh : A.handled = none) (hd : A.depth ≤ 500) (hu : A.units ≤ 200) (F : Fr h₀ L s.heap m) (N : News h₀ L s.heap n) (M : MarkR (InL n) fm g)
    (h : ∀ u h' tk', Fr h₀ L h' m → News h₀ L h' n → Q (.int (g i) u) { s with heap := h', toks := tk' }) :
    wpAny (model PR w) A (call (.ref fm) [.int i t]) Q E s := by
  have X : (KF w.params).In s.heap := fun a o e => F.keep a o (XF.out a o e)
  obtain ⟨j, c, ct, pm, a0, tq, rest, d, sl, hj, rfl, g1, g2⟩ := M
  have e1 := (N _ g1).1
  have e2 := (N _ g2).1
  have fin : wpAny (model PR w) AS (call (.ref fm) [.int i t]) (fun v s' => ∃ h' t' u, v = .int (markG j i) u ∧ s' = ⟨h', s.gens, s.drawn, t', s.os⟩ ∧ Up s.heap h') (fun _ _ => False) s := by
    match j, hj, e1 with
    | 0, _, e1 => exact x_mark0 w s fm c t tq i ct pm a0 d rest sl e1 e2 X
    | 1, _, e1 => exact x_mark1 w s fm c t tq i ct pm a0 d rest sl e1 e2 X
    | 2, _, e1 => exact x_mark2 w s fm c t tq i ct pm a0 d rest sl e1 e2 X
    | 3, _, e1 => exact x_mark3 w s fm c t tq i ct pm a0 d rest sl e1 e2 X
    | j + 4, hj, _ => exact absurd hj (by omega)
  refine wpAny_mono (wpAS fin hh hd hu) (fun v s' hv => ?_) fun _ _ e => e.elim
  obtain ⟨h', t', u, rfl, rfl, up⟩ := hv
  exact h u h' t' (F.keeps up) (N.grown up)
end
end Mine
end
section
open PySem PySem.W PySem.W.X PyProof.Rows PySem.Spec PySem.Calls
namespace Mine
noncomputable abbrev lc2 (elt t1 i1 t2 i2 : PySem.Expr) (fs : List PySem.Expr) (scope : Scope) (pos : Pos) : PySem.Expr := .ListComp elt [⟨t1, i1, [], 0⟩, ⟨t2, i2, fs, 0⟩] scope pos
theorem turn_two0 (elt t1 i1 t2 i2 : PySem.Expr) (fs : List PySem.Expr) (scope : Scope) (pos : Pos) (it acc : Value) (env : Env) :
    compTurn (lc2 elt t1 i1 t2 i2 fs scope pos) 0 it acc env = (do
      standAt i1.pos
      match ← pyNext it with
      | none => pure (.done .next)
      | some v =>
        letOwnedTupleGo t1 it v
        assign t1 env v
        let mut ok := true
        for c in ([] : List PySem.Expr) do
          if ok then ok ← isTrue c env (eval c env)
        if ok then
          let x ← eval i2 env
          standAt i2.pos
          let x ← foldedSetIterable i2 env x
          let _ ← runOwn (.compStart (lc2 elt t1 i1 t2 i2 fs scope pos) 1 (← holding [x] (pyIter x)) acc env) env
        again (.compLoop (lc2 elt t1 i1 t2 i2 fs scope pos) 0 it acc env)) := by rfl
theorem turn_two1 (elt t1 i1 t2 i2 : PySem.Expr) (fs : List PySem.Expr) (scope : Scope) (pos : Pos) (it acc : Value) (env : Env) :
    compTurn (lc2 elt t1 i1 t2 i2 fs scope pos) 1 it acc env = (do
      standAt i2.pos
      match ← pyNext it with
      | none => pure (.done .next)
      | some v =>
        letOwnedTupleGo t2 it v
        assign t2 env v
        let mut ok := true
        for c in fs do
          if ok then ok ← isTrue c env (eval c env)
        if ok then
          (do let _ ← call (.builtin "list.append") [acc, ← eval elt env])
        again (.compLoop (lc2 elt t1 i1 t2 i2 fs scope pos) 1 it acc env)) := by rfl
section
variable {prog : Program} {w : World} {A : Around} {R : Result → Shared → Prop} {s : Shared} {elt t1 i1 t2 i2 : PySem.Expr} {fs : List PySem.Expr} {scope : Scope} {pos : Pos} {it acc : Value} {env : Env}
theorem code_outer2 (I : Nat → Shared → Prop)
    (turn : ∀ n s, I n s → wpAny (model prog w) A (pyNext it) (fun r s₁ => match r with
      | none => R (.ok .next) s₁
      | some v => wpAny (model prog w) A (assign t1 env v) (fun _ s₂ => wpAny (model prog w) A (eval i2 env) (fun x s₃ => wpAny (model prog w) A (pyIter x) (fun it2 s₄ =>
          codeAny (model prog w) A (.compStart (lc2 elt t1 i1 t2 i2 fs scope pos) 1 it2 acc env) (fun r s₅ => match r with | .ok _ => ∃ m, m < n ∧ I m s₅ | .error _ => False) s₄)
          (notedBy (model prog w) A env fun e s' => R (.error e) s') s₃) (notedBy (model prog w) A env fun e s' => R (.error e) s') s₂) (notedBy (model prog w) A env fun e s' => R (.error e) s') s₁) (notedBy (model prog w) A env fun e s' => R (.error e) s') s)
    (n : Nat) (h : I n s) (ht : ∀ v, letOwnedTupleGo t1 it v = pure () := by intro _; rfl) (hs : ∀ x, foldedSetIterable i2 env x = pure x := by intro _; rfl) :
    codeAny (model prog w) A (.compLoop (lc2 elt t1 i1 t2 i2 fs scope pos) 0 it acc env) R s := by
  refine codeAny_loop rfl I (fun n s hI => ?_) n h
  show wpAny _ A ((compTurn (lc2 elt t1 i1 t2 i2 fs scope pos) 0 it acc env).onRaise (fun x => do noteFrame x env; theTreesLotGoes x)) _ _ s
  refine wpAny_noted ?_
  rw [turn_two0]
  refine wpAny_bind (wpAny_standAt (wpAny_bind (wpAny_mono (turn n s hI) (fun r s₁ h₁ => ?_) fun _ _ h' => h')))
  cases r with
  | none => exact wpAny_pure h₁
  | some v =>
    refine wpAny_bind (wpAny_of_eq (ht v) ?_)
    refine wpAny_bind (wpAny_mono h₁ (fun _ s₂ h₂ => ?_) fun _ _ h' => h')
    refine wpAny_bind (wpAny_pure ?_)
    refine wpAny_bind (wpAny_mono h₂ (fun x s₃ h₃ => ?_) fun _ _ h' => h')
    refine wpAny_bind (wpAny_standAt (wpAny_bind (wpAny_of_eq (hs x) ?_)))
    refine wpAny_bind (wpAny_holding (wpAny_mono h₃ (fun it2 s₄ h₄ => ?_) fun _ _ h' => h'))
    refine wpAny_bind (wpAny_runOwn ?_)
    rw [Around.mark_none]
    refine codeAny_mono h₄ fun r s₅ h₅ => ?_
    cases r with
    | ok f => exact wpAny_pure ⟨rfl, h₅⟩
    | error e => exact h₅.elim
theorem code_inner2 (I : Nat → Shared → Prop)
    (turn : ∀ n s, I n s → wpAny (model prog w) A (pyNext it) (fun r s₁ => match r with
      | none => R (.ok .next) s₁
      | some v => wpAny (model prog w) A (assign t2 env v) (fun _ s₂ =>
          wpAny (model prog w) A (forIn fs true fun c r => if r = true then do let ok ← isTrue c env (eval c env); pure (ForInStep.yield ok) else pure (ForInStep.yield r)) (fun ok s₃ =>
            if ok = true then wpAny (model prog w) A (eval elt env) (fun x s₄ =>
              wpAny (model prog w) A (call (.builtin "list.append") [acc, x]) (fun _ s₅ => ∃ m, m < n ∧ I m s₅) (notedBy (model prog w) A env fun e s' => R (.error e) s') s₄) (notedBy (model prog w) A env fun e s' => R (.error e) s') s₃
            else ∃ m, m < n ∧ I m s₃) (notedBy (model prog w) A env fun e s' => R (.error e) s') s₂) (notedBy (model prog w) A env fun e s' => R (.error e) s') s₁) (notedBy (model prog w) A env fun e s' => R (.error e) s') s)
    (n : Nat) (h : I n s) (ht : ∀ v, letOwnedTupleGo t2 it v = pure () := by intro _; rfl) :
    codeAny (model prog w) A (.compLoop (lc2 elt t1 i1 t2 i2 fs scope pos) 1 it acc env) R s := by
  refine codeAny_loop rfl I (fun n s hI => ?_) n h
  show wpAny _ A ((compTurn (lc2 elt t1 i1 t2 i2 fs scope pos) 1 it acc env).onRaise (fun x => do noteFrame x env; theTreesLotGoes x)) _ _ s
  refine wpAny_noted ?_
  rw [turn_two1]
  refine wpAny_bind (wpAny_standAt (wpAny_bind (wpAny_mono (turn n s hI) (fun r s₁ h₁ => ?_) fun _ _ h' => h')))
  cases r with
  | none => exact wpAny_pure h₁
  | some v =>
    refine wpAny_bind (wpAny_of_eq (ht v) ?_)
    refine wpAny_bind (wpAny_mono h₁ (fun _ s₂ h₂ => wpAny_bind (wpAny_mono h₂ (fun ok s₃ h₃ => ?_) fun _ _ h' => h')) fun _ _ h' => h')
    cases ok with
    | false => exact wpAny_pure ⟨rfl, h₃⟩
    | true =>
      exact wpAny_bind (wpAny_bind (wpAny_mono h₃ (fun x s₄ h₄ => wpAny_bind (wpAny_mono h₄ (fun _ s₅ h₅ => wpAny_pure (wpAny_pure ⟨rfl, h₅⟩)) fun _ _ h' => h')) fun _ _ h' => h'))
theorem code_start1
    (h0 : codeAny (model prog w) A (.compLoop (lc2 elt t1 i1 t2 i2 fs scope pos) 1 it acc env) R s)
    (h : wpAny (model prog w) A (pyIter it) (fun it' s' => codeAny (model prog w) A (.compLoop (lc2 elt t1 i1 t2 i2 fs scope pos) 1 it' acc env) R s') (notedBy (model prog w) A env fun x s' => R (.error x) s') s) :
    codeAny (model prog w) A (.compStart (lc2 elt t1 i1 t2 i2 fs scope pos) 1 it acc env) R s := by
  refine codeAny_of_tree ?_
  show wpAny _ _ ((compStart (lc2 elt t1 i1 t2 i2 fs scope pos) 1 it acc env).onRaise (fun x => do noteFrame x env; standAt theWindowsPlace)) _ _ s
  refine wpAny_notedAt ?_
  unfold compStart
  show wpAny _ _ (ask >>= _) _ _ s
  refine wpAny_bind (wpAny_askSetting (wpAny_ite ?_))
  split
  · first
      | exact wpAny_bind (wpAny_pure (wpAny_pure (And.intro rfl h0)))
      | exact wpAny_pure (And.intro rfl h0)
  · first
      | exact wpAny_bind (wpAny_rule (wpAny_bind (wpAny_standAt (wpAny_bind (wpAny_mono h (fun it' s' h' => wpAny_pure (And.intro rfl h')) fun _ _ x => x)))))
      | (refine wpAny_bind (wpAny_rule ?_); show wpAny _ _ (standAt i2.pos >>= fun _ => _) _ _ s; exact wpAny_bind (wpAny_standAt (wpAny_bind (wpAny_mono h (fun it' s' h' => wpAny_pure (And.intro rfl h')) fun _ _ x => x))))
end
end Mine
end
section
open PySem PySem.W PySem.W.X PyProof.Rows PySem.Spec PySem.Calls PyProof.Rows.LCg
namespace Mine
section
variable (prog : Program) (w : World) (A : Around) (h₀ : Heap) (L : Addr) (m : Str → Option Value) (env : Env) (scope : Scope) (cl : List (Str × Addr)) (s : Shared) (i2 c elt : PySem.Expr) (x1 x2 : Str) (nw : Led1) (cnt : Nat)
/-- what a turn of the outer loop owes: its item u is met at the place j alone, there the element is a -/
structure TurnOb (u : Value) (j : Nat) (a : Int) : Prop where
  lt : j < cnt
  src : ∀ (I C D : Addr) (oI oC oD : Obj) (m₂ : Str → Option Value) (h : Heap) (tk : Nat) (E' : Value → Shared → Prop), NsObj oC m₂ → m₂ x1 = some u → Fr h₀ L h m → News h₀ L h ((I, oI) :: (C, oC) :: (D, oD) :: nw) →
    wpAny (model prog w) A (eval i2 (compEnvC scope cl C env)) (fun xv s₁ => ∃ r t1 t2 t3 h' tk', xv = .ref r ∧ s₁ = { s with heap := h', toks := tk' } ∧ Fr h₀ L h' m ∧ News h₀ L h' ((I, oI) :: (C, oC) :: (D, oD) :: nw) ∧ IsRange h' r 0 (cnt : Int) 1 t1 t2 t3) E' { s with heap := h, toks := tk }
  test : ∀ (I I2 C D : Addr) (oI oI2 oC oD : Obj) (m₂ : Str → Option Value) (k : Nat) (t : Tok) (h : Heap) (tk : Nat) (E' : Value → Shared → Prop), k < cnt → NsObj oC m₂ → m₂ x1 = some u → m₂ x2 = some (.int (k : Int) t) → Fr h₀ L h m → News h₀ L h ((I, oI) :: (I2, oI2) :: (C, oC) :: (D, oD) :: nw) →
    wpAny (model prog w) A (isTrue c (compEnvC scope cl C env) (eval c (compEnvC scope cl C env))) (fun b s₁ => b = decide (k = j) ∧ ∃ h' tk', s₁ = { s with heap := h', toks := tk' } ∧ Fr h₀ L h' m ∧ News h₀ L h' ((I, oI) :: (I2, oI2) :: (C, oC) :: (D, oD) :: nw)) E' { s with heap := h, toks := tk }
  elt : ∀ (I I2 C D : Addr) (oI oI2 oC oD : Obj) (m₂ : Str → Option Value) (t : Tok) (h : Heap) (tk : Nat) (E' : Value → Shared → Prop), NsObj oC m₂ → m₂ x1 = some u → m₂ x2 = some (.int (j : Int) t) → Fr h₀ L h m → News h₀ L h ((I, oI) :: (I2, oI2) :: (C, oC) :: (D, oD) :: nw) →
    wpAny (model prog w) A (eval elt (compEnvC scope cl C env)) (fun y s₁ => ∃ t h' tk', y = .int a t ∧ s₁ = { s with heap := h', toks := tk' } ∧ Fr h₀ L h' m ∧ News h₀ L h' ((I, oI) :: (I2, oI2) :: (C, oC) :: (D, oD) :: nw)) E' { s with heap := h, toks := tk }
end
section
variable {prog : Program} {w : World} {A : Around} {h₀ : Heap} {L : Addr} {m : Str → Option Value} {env : Env} {scope : Scope} {cl : List (Str × Addr)} {s : Shared} {i1 i2 c elt : PySem.Expr} {x1 x2 : Str} {nw : Led1} {cnt : Nat} {px1 px2 pos : Pos}
/-- the inner loop -/
theorem inner_run {u : Value} {j : Nat} {a : Int} (O : TurnOb prog w A h₀ L m env scope cl s i2 c elt x1 x2 nw cnt u j a) (hh : A.handled = none) (hkind : scope.kind = .function) (hx2 : scope.names.lookup x2 = some .local) (hx12 : x1 ≠ x2)
    {I I2 C D : Addr} {oI : Obj} {ys : List Value} (hys : ys.length ≤ 4) (hCD : C ≠ D) (hIC : I ≠ C) (hID : I ≠ D) (h2I : I2 ≠ I) (h2C : I2 ≠ C) (h2D : I2 ≠ D) (hIL : I ≠ L) (hCL : C ≠ L) (hDL : D ≠ L) (h2L : I2 ≠ L)
    (zI : h₀.get? I = none) (zC : h₀.get? C = none) (zD : h₀.get? D = none) (z2 : h₀.get? I2 = none) (off : ∀ p ∈ nw, p.1 ≠ I ∧ p.1 ≠ C ∧ p.1 ≠ D ∧ p.1 ≠ I2)
    {R : Result → Shared → Prop} {h : Heap} {tk : Nat} {m' : Str → Option Value} (hr : IsRangeIter h I2 (0 + ((0 : Nat) : Int) * 1) ((cnt : Int) - ((0 : Nat) : Int)) 1) (eI : h.get? I = some oI) (F : Fr h₀ L h m) (hn : h.Ns C m') (hu : m' x1 = some u) (N : News h₀ L h ((D, lst ys) :: nw))
    (hR : ∀ h' tk' t m', h'.get? I = some oI → Fr h₀ L h' m → h'.Ns C m' → News h₀ L h' ((D, lst (ys ++ [.int a t])) :: nw) → R (.ok .next) { s with heap := h', toks := tk' }) :
    codeAny (model prog w) A (.compLoop (lc2 elt (.Name x1 px1) i1 (.Name x2 px2) i2 [c] scope pos) 1 (.ref I2) (.ref D) (compEnvC scope cl C env)) R { s with heap := h, toks := tk } := by
  have W := range_walks (prog := prog) (w := w) (A := A) (I := I2) hh 0 cnt
  refine code_inner2
    (fun q s' => ∃ h' tk' k ys' m', s' = { s with heap := h', toks := tk' } ∧ k ≤ cnt ∧ q = cnt + 1 - k ∧ IsRangeIter h' I2 (0 + (k : Int) * 1) ((cnt : Int) - (k : Int)) 1 ∧ h'.get? I = some oI ∧ Fr h₀ L h' m ∧ h'.Ns C m' ∧ m' x1 = some u ∧ News h₀ L h' ((D, lst ys') :: nw) ∧
      ((k ≤ j ∧ ys' = ys) ∨ (j < k ∧ ∃ t, ys' = ys ++ [.int a t]))) ?_ (cnt + 1)
    ⟨h, tk, 0, ys, m', rfl, Nat.zero_le _, rfl, hr, eI, F, hn, hu, N, .inl ⟨Nat.zero_le _, rfl⟩⟩
  rintro q s' ⟨h', tk', k, ys', m', rfl, hk, rfl, hr', eI', F', hn', hu', N', hcase⟩
  by_cases hlt : k < cnt
  · refine W.item k _ _ _ hlt hr' fun v h₂ tk₂ hPv hr₂ hk₂ => ?_
    obtain ⟨t, rfl⟩ := hPv
    have keep₂ : ∀ b o, b ≠ I2 → h'.get? b = some o → h₂.get? b = some o := fun b o hb e => hk₂ b o (fun hm => hb (List.mem_singleton.mp hm)) e
    refine wpAny_assign_Name (wpAny_storeName_local (lookup_relabel_local hx2) (hn'.at' fun o e => keep₂ _ o (Ne.symm h2C) e) (fun h₃ hn₃ hs₃ => ?_) (by simp [compEnvC, relabel, hkind]))
    have hn₃' : h₃.Ns C (fun z => if z = x2 then some (.int (0 + (k : Int)) t) else m' z) := hn₃
    have hs₃' : Heap.SameBut C h₂ h₃ := hs₃
    have keep₃ : ∀ b o, b ≠ I2 → b ≠ C → h'.get? b = some o → h₃.get? b = some o := fun b o hb hc e => hs₃'.extBut b o hc (keep₂ b o hb e)
    obtain ⟨oC, heC, hoC⟩ := ns_obj hn₃'
    have he2 : h₃.get? I2 = some _ := hs₃'.extBut I2 _ h2C hr₂
    have F₃ : Fr h₀ L h₃ m := by
      obtain ⟨o, es, ep, e, r⟩ := F'.ns
      refine ⟨⟨o, es, ep, keep₃ L o (Ne.symm h2L) (Ne.symm hCL) e, r⟩, fun b ob q => ?_, F'.above⟩
      exact keep₃ b ob (fun z => by rw [z, z2] at q; cases q) (fun z => by rw [z, zC] at q; cases q) (F'.keep b ob q)
    have N₃ : News h₀ L h₃ ((I, oI) :: (I2, _) :: (C, oC) :: (D, lst ys') :: nw) := fun p hp => by
      rcases List.mem_cons.mp hp with rfl | hp
      · exact ⟨keep₃ _ _ (Ne.symm h2I) hIC eI', hIL, zI⟩
      rcases List.mem_cons.mp hp with rfl | hp
      · exact ⟨he2, h2L, z2⟩
      rcases List.mem_cons.mp hp with rfl | hp
      · exact ⟨heC, hCL, zC⟩
      rcases List.mem_cons.mp hp with rfl | hp
      · exact ⟨keep₃ _ _ (Ne.symm h2D) (Ne.symm hCD) (N' _ (.head _)).1, hDL, zD⟩
      · have z := N' p (.tail _ hp)
        exact ⟨keep₃ _ _ (off p hp).2.2.2 (off p hp).2.1 z.1, z.2⟩
    have mu : (fun z => if z = x2 then some (Value.int (0 + (k : Int)) t) else m' z) x1 = some u := by simp only [if_neg hx12]; exact hu'
    have mk : (fun z => if z = x2 then some (Value.int (0 + (k : Int)) t) else m' z) x2 = some (.int (k : Int) t) := by simp
    refine wpAny_tests_one ?_
    refine wpAny_mono (O.test I I2 C D oI _ oC _ _ k t h₃ _ _ hlt hoC mu mk F₃ N₃) (fun b s₄ hb => ?_) fun _ _ e => e
    obtain ⟨rfl, h₄, tk₄, rfl, F₄, N₄⟩ := hb
    have hr₄ : IsRangeIter h₄ I2 (0 + ((k + 1 : Nat) : Int) * 1) ((cnt : Int) - ((k + 1 : Nat) : Int)) 1 := (N₄ (I2, _) (.tail _ (.head _))).1
    by_cases hkj : k = j
    · subst hkj
      simp only [decide_true, if_true]
      have e1 : ys' = ys := by
        rcases hcase with ⟨_, e⟩ | ⟨q, _⟩
        · exact e
        · exact absurd q (Nat.lt_irrefl _)
      subst e1
      refine wpAny_mono (O.elt I I2 C D oI _ oC _ _ t h₄ _ _ hoC mu mk F₄ N₄) (fun y s₅ hy => ?_) fun _ _ e => e
      obtain ⟨ta, h₅, tk₅, rfl, rfl, F₅, N₅⟩ := hy
      have zD' := (N₅ (D, lst ys') (.tail _ (.tail _ (.tail _ (.head _))))).1
      refine append_at (hsz := by show ys'.toArray.size ≤ sizeLine; rw [List.size_toArray, sizeLine_eq]; omega) zD' fun h₆ hs₆ hD₆ => ?_
      have k6 : ∀ b o, b ≠ D → h₅.get? b = some o → h₆.get? b = some o := fun b o hb e => hs₆.extBut b o hb e
      refine ⟨cnt + 1 - (k + 1), by omega, h₆, tk₅, k + 1, ys' ++ [.int a ta], _, rfl, hlt, rfl, k6 _ _ h2D (N₅ (I2, _) (.tail _ (.head _))).1, k6 _ _ hID (N₅ _ (.head _)).1, fr_ext F₅ (Ne.symm hDL) zD k6, hoC.ns (k6 _ _ hCD (N₅ (C, oC) (.tail _ (.tail _ (.head _)))).1), mu, fun p hp => ?_, .inr ⟨Nat.lt_succ_self _, ta, rfl⟩⟩
      rcases List.mem_cons.mp hp with rfl | hp
      · exact ⟨hD₆.trans (congrArg some (lst_snoc ys' _)), hDL, zD⟩
      · have z := N₅ p (.tail _ (.tail _ (.tail _ (.tail _ hp))))
        exact ⟨k6 _ _ (off p hp).2.2.1 z.1, z.2⟩
    · have hb : decide (k = j) = false := decide_eq_false hkj
      rw [hb]
      simp only [Bool.false_eq_true, if_false]
      refine ⟨cnt + 1 - (k + 1), by omega, h₄, tk₄, k + 1, ys', _, rfl, hlt, rfl, hr₄, (N₄ _ (.head _)).1, F₄, hoC.ns (N₄ (C, oC) (.tail _ (.tail _ (.head _)))).1, mu, fun p hp => ?_, ?_⟩
      · rcases List.mem_cons.mp hp with rfl | hp
        · exact N₄ _ (.tail _ (.tail _ (.tail _ (.head _))))
        · exact N₄ p (.tail _ (.tail _ (.tail _ (.tail _ hp))))
      · rcases hcase with ⟨q, e⟩ | ⟨q, e⟩
        · exact .inl ⟨by omega, e⟩
        · exact .inr ⟨by omega, e⟩
  · have ek : k = cnt := by omega
    subst ek
    refine W.done _ _ _ hr' fun h₂ tk₂ hk₂ => ?_
    have keep₂ : ∀ b o, b ≠ I2 → h'.get? b = some o → h₂.get? b = some o := fun b o hb e => hk₂ b o (fun hm => hb (List.mem_singleton.mp hm)) e
    rcases hcase with ⟨q, _⟩ | ⟨_, t, rfl⟩
    · exact absurd O.lt (by omega)
    · refine hR h₂ tk₂ t m' (keep₂ _ _ (Ne.symm h2I) eI') (fr_ext F' (Ne.symm h2L) z2 keep₂) (hn'.at' fun o e => keep₂ _ o (Ne.symm h2C) e) fun p hp => ?_
      rcases List.mem_cons.mp hp with rfl | hp
      · exact ⟨keep₂ _ _ (Ne.symm h2D) (N' _ (.head _)).1, hDL, zD⟩
      · have z := N' p (.tail _ hp)
        exact ⟨keep₂ _ _ (off p hp).2.2.2 z.1, z.2⟩
/-- the outer loop over two items -/
theorem outer_run {T : Addr} {eT : Nat} {u1 u2 : Value} {j1 j2 : Nat} {a1 a2 : Int} (O1 : TurnOb prog w A h₀ L m env scope cl s i2 c elt x1 x2 nw cnt u1 j1 a1) (O2 : TurnOb prog w A h₀ L m env scope cl s i2 c elt x1 x2 nw cnt u2 j2 a2)
    (hh : A.handled = none) (hkind : scope.kind = .function) (hx1 : scope.names.lookup x1 = some .local) (hx2 : scope.names.lookup x2 = some .local) (hx12 : x1 ≠ x2) (hcnt : cnt < 1000) (hT : (T, listOf #[u1, u2] eT) ∈ nw)
    {I C D : Addr} (hCD : C ≠ D) (hIC : I ≠ C) (hID : I ≠ D) (hIL : I ≠ L) (hCL : C ≠ L) (hDL : D ≠ L) (zI : h₀.get? I = none) (zC : h₀.get? C = none) (zD : h₀.get? D = none) (off : ∀ p ∈ nw, p.1 ≠ I ∧ p.1 ≠ C ∧ p.1 ≠ D)
    {R : Result → Shared → Prop} {h : Heap} {tk : Nat} {m' : Str → Option Value} (hit : h.IsListIter I T 0) (F : Fr h₀ L h m) (hn : h.Ns C m') (N : News h₀ L h ((D, lst []) :: nw))
    (hs : ∀ x, foldedSetIterable i2 (compEnvC scope cl C env) x = pure x)
    (hR : ∀ h' tk' t1 t2 m', Fr h₀ L h' m → h'.Ns C m' → News h₀ L h' ((D, lst [.int a1 t1, .int a2 t2]) :: nw) → R (.ok .next) { s with heap := h', toks := tk' }) :
    codeAny (model prog w) A (.compLoop (lc2 elt (.Name x1 px1) i1 (.Name x2 px2) i2 [c] scope pos) 0 (.ref I) (.ref D) (compEnvC scope cl C env)) R { s with heap := h, toks := tk } := by
  have hTI : T ≠ I := (off _ hT).1
  have W := Walks.list (prog := prog) (w := w) (A := A) hh I T hTI #[u1, u2]
  refine code_outer2
    (fun q s' => ∃ h' tk' i ys m', s' = { s with heap := h', toks := tk' } ∧ i ≤ 2 ∧ q = 3 - i ∧ h'.IsListIter I T i ∧ Fr h₀ L h' m ∧ h'.Ns C m' ∧ News h₀ L h' ((D, lst ys) :: nw) ∧
      ((i = 0 ∧ ys = []) ∨ (i = 1 ∧ ∃ t, ys = [.int a1 t]) ∨ (i = 2 ∧ ∃ t1 t2, ys = [.int a1 t1, .int a2 t2]))) ?_ 3
    ⟨h, tk, 0, [], m', rfl, by omega, rfl, hit, F, hn, N, .inl ⟨rfl, rfl⟩⟩ (hs := hs)
  rintro q s' ⟨h', tk', i, ys, m', rfl, hi, rfl, hit', F', hn', N', hcase⟩
  have hl' : h'.IsList T #[u1, u2] := News.isList N' (.tail _ hT)
  by_cases hlt : i < 2
  · refine W.item i _ _ _ hlt ⟨hit', hl'⟩ fun v h₂ tk₂ hPv hst₂ hk₂ => ?_
    have keep₂ : ∀ b o, b ≠ I → h'.get? b = some o → h₂.get? b = some o := fun b o hb e => hk₂ b o (fun hm => hb (List.mem_singleton.mp hm)) e
    refine wpAny_assign_Name (wpAny_storeName_local (lookup_relabel_local hx1) (hn'.at' fun o e => keep₂ _ o (Ne.symm hIC) e) (fun h₃ hn₃ hs₃ => ?_) (by simp [compEnvC, relabel, hkind]))
    have hn₃' : h₃.Ns C (fun z => if z = x1 then some v else m' z) := hn₃
    have hs₃' : Heap.SameBut C h₂ h₃ := hs₃
    have keep₃ : ∀ b o, b ≠ I → b ≠ C → h'.get? b = some o → h₃.get? b = some o := fun b o hb hc e => hs₃'.extBut b o hc (keep₂ b o hb e)
    obtain ⟨oC, heC, hoC⟩ := ns_obj hn₃'
    obtain ⟨oI, heI, hdI⟩ := hst₂.1
    have heI₃ : h₃.get? I = some oI := hs₃'.extBut I _ hIC heI
    have F₃ : Fr h₀ L h₃ m := by
      obtain ⟨o, es, ep, e, r⟩ := F'.ns
      refine ⟨⟨o, es, ep, keep₃ L o (Ne.symm hIL) (Ne.symm hCL) e, r⟩, fun b ob q => ?_, F'.above⟩
      exact keep₃ b ob (fun z => by rw [z, zI] at q; cases q) (fun z => by rw [z, zC] at q; cases q) (F'.keep b ob q)
    have N₃ : News h₀ L h₃ ((I, oI) :: (C, oC) :: (D, lst ys) :: nw) := fun p hp => by
      rcases List.mem_cons.mp hp with rfl | hp
      · exact ⟨heI₃, hIL, zI⟩
      rcases List.mem_cons.mp hp with rfl | hp
      · exact ⟨heC, hCL, zC⟩
      rcases List.mem_cons.mp hp with rfl | hp
      · exact ⟨keep₃ _ _ (Ne.symm hID) (Ne.symm hCD) (N' _ (.head _)).1, hDL, zD⟩
      · have z := N' p (.tail _ hp)
        exact ⟨keep₃ _ _ (off p hp).1 (off p hp).2.1 z.1, z.2⟩
    have mu : (fun z => if z = x1 then some v else m' z) x1 = some v := by simp
    have hys : ys.length ≤ 4 := by rcases hcase with ⟨_, rfl⟩ | ⟨_, t, rfl⟩ | ⟨_, t, t', rfl⟩ <;> simp
    -- the turn for any item with its obligations
    have go : ∀ (j : Nat) (a : Int), TurnOb prog w A h₀ L m env scope cl s i2 c elt x1 x2 nw cnt v j a → (∀ t, (i + 1 = 1 ∧ ys ++ [.int a t] = [.int a1 t]) ∨ (i + 1 = 2 ∧ ∃ t1 t2, ys ++ [.int a t] = [.int a1 t1, .int a2 t2])) → ∀ E1 : Value → Shared → Prop,
        wpAny (model prog w) A (eval i2 (compEnvC scope cl C env)) (fun x s₃ => wpAny (model prog w) A (pyIter x) (fun it2 s₄ =>
          codeAny (model prog w) A (.compStart (lc2 elt (.Name x1 px1) i1 (.Name x2 px2) i2 [c] scope pos) 1 it2 (.ref D) (compEnvC scope cl C env)) (fun r s₅ => match r with
            | .ok _ => ∃ q', q' < 3 - i ∧ ∃ h' tk' i ys m', s₅ = { s with heap := h', toks := tk' } ∧ i ≤ 2 ∧ q' = 3 - i ∧ h'.IsListIter I T i ∧ Fr h₀ L h' m ∧ h'.Ns C m' ∧ News h₀ L h' ((D, lst ys) :: nw) ∧
              ((i = 0 ∧ ys = []) ∨ (i = 1 ∧ ∃ t, ys = [.int a1 t]) ∨ (i = 2 ∧ ∃ t1 t2, ys = [.int a1 t1, .int a2 t2]))
            | .error _ => False) s₄) E1 s₃) E1 { s with heap := h₃, toks := tk₂ + 1 } := by
      intro j a O hout E1
      refine wpAny_mono (O.src I C D oI oC _ _ h₃ _ _ hoC mu F₃ N₃) (fun xv s₄ hx => ?_) fun _ _ e => e
      obtain ⟨r, t1, t2, t3, h₄, tk₄, rfl, rfl, F₄, N₄, hr⟩ := hx
      have hsm : Builtin.Range.small 0 (cnt : Int) 1 = true := small_one (by decide) (by decide) (by omega) (by omega)
      refine wpAny_pyIter_range hr hsm ?_
      have up : ∀ b o, h₄.get? b = some o → (h₄.push { cls := .type "range_iterator", data := .fields #[rawInt 0, rawInt (Builtin.Range.rangeSize 0 (cnt : Int) 1), rawInt 1] }).get? b = some o := fun b o e => Heap.get?_push_of_some _ e
      have ne2 : ∀ (b : Addr) o, h₄.get? b = some o → h₄.objs.size ≠ b := fun b o e => Ne.symm (Nat.ne_of_lt (Heap.lt_size e))
      have z2 : h₀.get? h₄.objs.size = none := by
        cases q : h₀.get? h₄.objs.size with
        | none => rfl
        | some o => exact absurd (Heap.lt_size (F₄.keep _ _ q)) (Nat.lt_irrefl _)
      have hL2 : h₄.objs.size ≠ L := by obtain ⟨o, _, _, e, _⟩ := F₄.ns; exact ne2 _ _ e
      have hsz : Builtin.Range.rangeSize 0 (cnt : Int) 1 = (cnt : Int) := by rw [rangeSize_nat]; simp
      have hri : IsRangeIter (h₄.push { cls := .type "range_iterator", data := .fields #[rawInt 0, rawInt (Builtin.Range.rangeSize 0 (cnt : Int) 1), rawInt 1] }) h₄.objs.size (0 + ((0 : Nat) : Int) * 1) ((cnt : Int) - ((0 : Nat) : Int)) 1 := by
        rw [hsz]
        simpa using Heap.get?_push_size _ rfl
      have loop := inner_run (px1 := px1) (px2 := px2) (i1 := i1) (pos := pos) O hh hkind hx2 hx12 (I := I) (I2 := h₄.objs.size) (C := C) (D := D) (oI := oI) (ys := ys) hys hCD hIC hID (ne2 _ _ (N₄ _ (.head _)).1) (ne2 _ _ (N₄ _ (.tail _ (.head _))).1) (ne2 _ _ (N₄ _ (.tail _ (.tail _ (.head _)))).1) hIL hCL hDL hL2 zI zC zD z2
        (fun p hp => ⟨(off p hp).1, (off p hp).2.1, (off p hp).2.2, Ne.symm (ne2 _ _ (N₄ p (.tail _ (.tail _ (.tail _ hp)))).1)⟩) (tk := tk₄) hri (up _ _ (N₄ _ (.head _)).1) (F₄.keeps up) (hoC.ns (up _ _ (N₄ (C, oC) (.tail _ (.head _))).1)) mu (fun p hp => (N₄.grown up) p (.tail _ (.tail _ hp)))
        (R := fun r s₅ => match r with
            | .ok _ => ∃ q', q' < 3 - i ∧ ∃ h' tk' i ys m', s₅ = { s with heap := h', toks := tk' } ∧ i ≤ 2 ∧ q' = 3 - i ∧ h'.IsListIter I T i ∧ Fr h₀ L h' m ∧ h'.Ns C m' ∧ News h₀ L h' ((D, lst ys) :: nw) ∧
              ((i = 0 ∧ ys = []) ∨ (i = 1 ∧ ∃ t, ys = [.int a1 t]) ∨ (i = 2 ∧ ∃ t1 t2, ys = [.int a1 t1, .int a2 t2]))
            | .error _ => False)
        (fun h₆ tk₆ t m₆ eI₆ F₆ hn₆ N₆ => ⟨3 - (i + 1), by omega, h₆, tk₆, i + 1, ys ++ [.int a t], m₆, rfl, hlt, rfl, ⟨oI, eI₆, hdI⟩, F₆, hn₆, N₆, by
          rcases hout t with ⟨e1, e2⟩ | ⟨e1, e2⟩
          · exact .inr (.inl ⟨e1, t, e2⟩)
          · exact .inr (.inr ⟨e1, e2⟩)⟩)
      exact code_start1 loop ((range_walks (prog := prog) (w := w) (A := A) (I := h₄.objs.size) hh 0 cnt).self 0 _ _ _ hri loop)
    rcases hcase with ⟨rfl, rfl⟩ | ⟨rfl, t, rfl⟩ | ⟨rfl, _⟩
    · have ev : v = u1 := by simpa using hPv.symm
      subst ev
      exact go j1 a1 O1 (fun t => .inl ⟨rfl, rfl⟩) _
    · have ev : v = u2 := by simpa using hPv.symm
      subst ev
      exact go j2 a2 O2 (fun t' => .inr ⟨rfl, t, t', rfl⟩) _
    · omega
  · have ei : i = 2 := by omega
    subst ei
    refine W.done _ _ _ ⟨hit', hl'⟩ fun h₂ tk₂ hk₂ => ?_
    have keep₂ : ∀ b o, b ≠ I → h'.get? b = some o → h₂.get? b = some o := fun b o hb e => hk₂ b o (fun hm => hb (List.mem_singleton.mp hm)) e
    rcases hcase with ⟨q, _⟩ | ⟨q, _⟩ | ⟨_, t1, t2, rfl⟩
    · omega
    · omega
    · refine hR h₂ tk₂ t1 t2 m' (fr_ext F' (Ne.symm hIL) zI keep₂) (hn'.at' fun o e => keep₂ _ o (Ne.symm hIC) e) fun p hp => ?_
      rcases List.mem_cons.mp hp with rfl | hp
      · exact ⟨keep₂ _ _ (Ne.symm hID) (N' _ (.head _)).1, hDL, zD⟩
      · have z := N' p (.tail _ hp)
        exact ⟨keep₂ _ _ (off p hp).1 z.1, z.2⟩
/-- the whole comprehension -/
theorem comp_two {E : Value → Shared → Prop} {Q : Value → Shared → Prop} {T : Addr} {eT : Nat} {u1 u2 : Value} {j1 j2 : Nat} {a1 a2 : Int} (hh : A.handled = none) (F : Fr h₀ L s.heap m) (N : News h₀ L s.heap nw)
    (hclos : closureFor scope env = pure cl) (hcell : ∀ y ∈ scope.names, y.2 ≠ .cell) (hkind : scope.kind = .function) (hnames : ∀ y ∈ scope.names, y.2 = .local → scope.names.lookup y.1 = some .local)
    (hx1 : scope.names.lookup x1 = some .local) (hx2 : scope.names.lookup x2 = some .local) (hx12 : x1 ≠ x2) (hcnt : cnt < 1000) (hT : (T, listOf #[u1, u2] eT) ∈ nw)
    (h1 : wpAny (model prog w) A (eval i1 env) (fun xv s₁ => xv = .ref T ∧ s₁ = s) E s)
    (O1 : TurnOb prog w A h₀ L m env scope cl s i2 c elt x1 x2 nw cnt u1 j1 a1) (O2 : TurnOb prog w A h₀ L m env scope cl s i2 c elt x1 x2 nw cnt u2 j2 a2)
    (hs1 : ∀ x, foldedSetIterable i1 env x = pure x) (hs2 : ∀ C x, foldedSetIterable i2 (compEnvC scope cl C env) x = pure x)
    (hQ : ∀ D h' tk' t1 t2, Fr h₀ L h' m → News h₀ L h' ((D, lst [.int a1 t1, .int a2 t2]) :: nw) → (∀ p ∈ nw, p.1 ≠ D) → Q (.ref D) { s with heap := h', toks := tk' }) :
    wpAny (model prog w) A (eval (lc2 elt (.Name x1 px1) i1 (.Name x2 px2) i2 [c] scope pos) env) Q E s := by
  show wpAny _ _ (eval (.ListComp _ _ _ _) _) _ _ _
  rw [eval_ListComp]
  refine wpAny_comprehension_free (use := none) rfl hs1 hclos hkind hnames (wpAny_mono h1 (fun xv s₁ h₁ => ?_) fun _ _ e => e)
  obtain ⟨rfl, rfl⟩ := h₁
  have hl := News.isList N hT
  refine wpAny_pyIter_list hl ?_
  generalize hG : s₁.heap.push { cls := .type "list_iterator", data := .fields #[.ref T, .int 0 0] } = G
  have upG : ∀ b o, s₁.heap.get? b = some o → G.get? b = some o := fun b o e => hG ▸ Heap.get?_push_of_some _ e
  have szG : G.objs.size = s₁.heap.objs.size + 1 := by rw [← hG, Heap.size_push]
  have itG : G.get? s₁.heap.objs.size = some { cls := .type "list_iterator", data := .fields #[.ref T, .int 0 0] } := hG ▸ Heap.get?_push_size _ rfl
  refine wpAny_newObj_type (wpAny_newFunctionEnv hcell (by intro y hy; simp at hy) (fun h₁ hns₁ hsb₁ => ?_) hkind)
  dsimp only at hns₁ hsb₁ ⊢
  generalize hH2 : G.push { cls := .type "list", dict := none, data := .seq ([] : List Value).toArray } = H2 at hns₁ hsb₁ ⊢
  have hC : H2.objs.size = s₁.heap.objs.size + 2 := by rw [← hH2, Heap.size_push, szG]
  have old : ∀ b o, G.get? b = some o → h₁.get? b = some o := fun b o e => by
    have hb := Heap.lt_size e
    exact hsb₁.extBut b o (Nat.ne_of_lt (by rw [hC]; rw [szG] at hb; exact Nat.lt_succ_of_lt hb)) (Heap.get?_push_of_some _ (hH2 ▸ Heap.get?_push_of_some _ e))
  have oldS : ∀ b o, s₁.heap.get? b = some o → h₁.get? b = some o := fun b o e => old b o (upG b o e)
  have hDC : G.objs.size ≠ H2.objs.size := by rw [hC, szG]; exact Nat.ne_of_lt (Nat.lt_succ_self _)
  have hacc : h₁.get? G.objs.size = some (lst []) := hsb₁.extBut _ _ hDC (Heap.get?_push_of_some _ (hH2 ▸ Heap.get?_push_size _ rfl))
  have fresh₀ : ∀ a : Addr, s₁.heap.objs.size ≤ a → h₀.get? a = none := fun a ha => by
    cases e : h₀.get? a with
    | none => rfl
    | some o' => exact absurd (Heap.lt_size (F.keep a o' e)) (Nat.not_lt.mpr ha)
  have big : ∀ (a b : Addr) o, s₁.heap.get? b = some o → s₁.heap.objs.size ≤ a → b ≠ a := fun a b o e ha q => absurd (Heap.lt_size e) (Nat.not_lt.mpr (q ▸ ha))
  have hDle : s₁.heap.objs.size ≤ G.objs.size := by rw [szG]; exact Nat.le_succ _
  have hCle : s₁.heap.objs.size ≤ H2.objs.size := by rw [hC]; exact Nat.le_add_right _ 2
  obtain ⟨oL, _, _, eL, _⟩ := id F.ns
  have hCL : H2.objs.size ≠ L := Ne.symm (big _ _ _ eL hCle)
  have hDL : G.objs.size ≠ L := Ne.symm (big _ _ _ eL hDle)
  have hIL : s₁.heap.objs.size ≠ L := Ne.symm (big _ _ _ eL (Nat.le_refl _))
  have loop : ∀ s₃ : Shared, s₃ = { s₁ with heap := h₁, toks := s₁.toks + ([] : List (Str × Value)).length } →
      codeAny (model prog w) A (.compLoop (lc2 elt (.Name x1 px1) i1 (.Name x2 px2) i2 [c] scope pos) 0 (.ref s₁.heap.objs.size) (.ref G.objs.size) (compEnvC scope cl H2.objs.size env)) (compPost (model prog w) A E none Q (.ref G.objs.size) H2.objs.size) s₃ := by
    rintro s₃ rfl
    refine outer_run O1 O2 hh hkind hx1 hx2 hx12 hcnt hT (Ne.symm hDC) (by rw [hC]; exact Nat.ne_of_lt (Nat.lt_add_of_pos_right (by decide))) (by rw [szG]; exact Nat.ne_of_lt (Nat.lt_succ_self _)) hIL hCL hDL (fresh₀ _ (Nat.le_refl _)) (fresh₀ _ hCle) (fresh₀ _ hDle)
      (fun p hp => ⟨big _ _ _ (N p hp).1 (Nat.le_refl _), big _ _ _ (N p hp).1 hCle, big _ _ _ (N p hp).1 hDle⟩) ⟨_, old _ _ itG, rfl, rfl⟩ (F.keeps oldS) hns₁ (fun p hp => ?_) (hs2 _) fun h' tk' t1 t2 m' F' hn' N' => ?_
    · rcases List.mem_cons.mp hp with rfl | hp
      · exact ⟨hacc, hDL, fresh₀ _ hDle⟩
      · exact ⟨oldS _ _ (N p hp).1, (N p hp).2⟩
    · refine ⟨m', hn', fun h'' hs'' => hQ _ h'' tk' t1 t2 (F'.change hs'' hCL (fresh₀ _ hCle)) (fun p hp => ?_) fun p hp => big _ _ _ (N p hp).1 hDle⟩
      refine ⟨hs''.extBut _ _ ?_ (N' p hp).1, (N' p hp).2⟩
      rcases List.mem_cons.mp hp with rfl | hp
      · exact hDC
      · exact big _ _ _ (N p hp).1 hCle
  exact codeAny_compStart_list (loop _ rfl) ((Walks.list (prog := prog) (w := w) (A := A) hh s₁.heap.objs.size T (Ne.symm (Nat.ne_of_gt (by obtain ⟨_, e, _⟩ := hl; exact Heap.lt_size e))) #[u1, u2]).self 0 _ _ _ ⟨⟨_, old _ _ itG, rfl, rfl⟩, by obtain ⟨o, e, r⟩ := hl; exact ⟨o, oldS _ _ e, r⟩⟩ (loop _ rfl))
end
end Mine
end
section
open PySem PySem.W PyProof.Rows PyProof.Rows.LCg
namespace Mine
noncomputable def okD (o : Obj) : Bool := match o.data with
  | .fields ⟨[]⟩ => false
  | .cell none => false
  | _ => true
theorem okD_f {o : Obj} (h : okD o = true) : o.data ≠ .fields #[] := fun e => by unfold okD at h; rw [e] at h; cases h
theorem okD_c {o : Obj} (h : okD o = true) : o.data ≠ .cell none := fun e => by unfold okD at h; rw [e] at h; cases h
theorem TabSt.mono {R R' : Addr → Obj → Prop} (M : TabSt R) (hr : ∀ a o, R a o → R' a o) : TabSt R' := M.elim (fun x => .inl ⟨hr _ _ x.1, hr _ _ x.2⟩) fun x => .inr ⟨x.1.mono fun a o h _ => hr a o h, x.2.mono fun a o h _ => hr a o h⟩
theorem MarkR.ok {R R' : Addr → Obj → Prop} {fm : Addr} {g : Int → Int} (M : MarkR R fm g) (hr : ∀ a o, R a o → okD o = true → R' a o) : MarkR R' fm g := by
  obtain ⟨i, c, ct, pm, a0, tq, rest, d, s, hi, hg, m1, m2⟩ := M
  exact ⟨i, c, ct, pm, a0, tq, rest, d, s, hi, hg, hr _ _ m1 rfl, hr _ _ m2 rfl⟩
theorem LamR.ok {R R' : Addr → Obj → Prop} {f fm : Addr} (M : LamR R f fm) (hr : ∀ a o, R a o → okD o = true → R' a o) : LamR R' f fm := by
  obtain ⟨cm, c, ct, pm, a0, tq, rest, d, s, m1, m2, m3⟩ := M
  exact ⟨cm, c, ct, pm, a0, tq, rest, d, s, hr _ _ m1 rfl, hr _ _ m2 rfl, hr _ _ m3 rfl⟩
theorem KMadeR.ok {w : World} {R R' : Addr → Obj → Prop} {C f : Addr} (M : KMadeR w R C f) (hr : ∀ a o, R a o → okD o = true → R' a o) : KMadeR w R' C f := by
  obtain ⟨NS, md, bT, sl, fI, fL, fG, fE, fLe, fGe, st, cell, cI, cL, ctL, k, a1, r1, a2, r2, n1, n2, t1, t2, tm, ta, tb, m1, m2, m3, m4, m5, m6, m7, m8⟩ := M
  exact ⟨NS, md, bT, sl, fI, fL, fG, fE, fLe, fGe, st, cell, cI, cL, ctL, k, a1, r1, a2, r2, n1, n2, t1, t2, tm, ta, tb, hr _ _ m1 rfl, hr _ _ m2 rfl, hr _ _ m3 rfl, hr _ _ m4 rfl, hr _ _ m5 rfl, hr _ _ m6 rfl, hr _ _ m7 rfl, hr _ _ m8 rfl⟩
theorem KeyR.ok {w : World} {R R' : Addr → Obj → Prop} {C : Addr} {g : Int → Int} (M : KeyR w R C g) (hr : ∀ a o, R a o → okD o = true → R' a o) : KeyR w R' C g := by
  obtain ⟨f, fm, a, b, c⟩ := M
  exact ⟨f, fm, a.ok hr, b.ok hr, c.ok hr⟩
theorem KCodesR.ok {R R' : Addr → Obj → Prop} (M : KCodesR R) (hr : ∀ a o, R a o → okD o = true → R' a o) : KCodesR R' := by
  obtain ⟨cK, PK, c, a, r, n, i, nd, e, g1, g2, g3, g4, g5, g6, g7, g8, g9⟩ := M
  exact ⟨cK, PK, c, a, r, n, i, nd, e, hr _ _ g1 rfl, hr _ _ g2 rfl, hr _ _ g3 rfl, hr _ _ g4 rfl, hr _ _ g5 rfl, hr _ _ g6 rfl, hr _ _ g7 rfl, hr _ _ g8 rfl, hr _ _ g9 rfl⟩
theorem HasLam.ok {R R' : Addr → Obj → Prop} (M : HasLam R) (hr : ∀ a o, R a o → okD o = true → R' a o) : HasLam R' := by
  obtain ⟨c, a0, q, rest, d, sl, g1, g2⟩ := M
  exact ⟨c, a0, q, rest, d, sl, hr _ _ g1 rfl, hr _ _ g2 rfl⟩
theorem Filled.ok {R R' : Addr → Obj → Prop} (M : Filled R) (hr : ∀ a o, R a o → okD o = true → R' a o) : Filled R' := ⟨M.1.ok hr, M.2.ok hr⟩
section
variable {prog : Program} {w : World} {A : Around} {h₀ : Heap} {L : Addr} {m : Str → Option Value} {env : Env} {scope : Scope} {cl : List (Str × Addr)} {s : Shared} {elt : PySem.Expr} {x : Str} {news : Led1} {S : Led1 → Prop} {P : Nat → Value → Prop} {Fin : List Value → Led1 → Prop} {n : Nat}
/-- a comprehension of any length by an invariant -/
theorem comp_ind (Inv : Nat → List Value → Led1 → Prop) (h0 : Inv 0 [] news)
    (turn : ∀ i ys news, i < n → Inv i ys news → ∀ v I oI C oC D m₂ h tk (E' : Value → Shared → Prop), P i v → NsObj oC m₂ → m₂ x = some v → Fr h₀ L h m → News h₀ L h ((I, oI) :: (C, oC) :: (D, lst ys) :: news) → Off3 I C D news → ((@Ne Nat I C) ∧ (@Ne Nat I D) ∧ (@Ne Nat C D)) →
      wpAny (model prog w) A (eval elt (compEnvC scope cl C env)) (CompEnd h₀ L m { s with heap := h, toks := tk } I oI C oC D (lst ys) S (fun y news' => Inv (i + 1) (ys ++ [y]) news')) E' { s with heap := h, toks := tk })
    (fin : ∀ ys news, Inv n ys news → Fin ys news) : CompRest prog w A h₀ L m env elt x scope cl s S P Fin n 0 [] news := by
  have all : ∀ k i ys news, i + k = n → Inv i ys news → CompRest prog w A h₀ L m env elt x scope cl s S P Fin k i ys news := by
    intro k
    induction k with
    | zero => intro i ys news e hI; exact CompRest.zero (fin ys news (by have : i = n := by omega
                                                                         exact this ▸ hI))
    | succ k ih =>
      intro i ys news e hI
      refine CompRest.succ fun v I oI C oC D m₂ h tk E' hP ho hx F N off ne => ?_
      refine wpAny_mono (turn i ys news (by omega) hI v I oI C oC D m₂ h tk E' hP ho hx F N off ne) (fun y s' hy => ?_) fun _ _ q => q
      obtain ⟨h', tk', news', e1, F', N', off', hS, hr⟩ := hy
      exact ⟨h', tk', news', e1, F', N', off', hS, ih (i + 1) (ys ++ [y]) news' (by omega) hr⟩
  exact all n 0 [] news (Nat.zero_add n) h0
end
theorem SortOk.cons {w : World} {l : Addr} {nw nw' : Led1} {N : Nat} {P : List Value → Prop} (S : SortOk w l nw N P) (h1 : ∀ p ∈ nw, p ∈ nw') (h2 : ∀ p ∈ nw', p ∈ nw) : SortOk w l nw' N P := by
  intro A E s h₀ L m Q hh hd hu X F N hQ
  refine S A E s h₀ L m Q hh hd hu X F (fun p hp => N p (h1 p hp)) fun D us c h' tk' hP hn F' N' l1 => ?_
  refine hQ D us c h' tk' hP hn F' (fun p hp => ?_) fun p hp => l1 p (h2 p hp)
  rcases List.mem_cons.mp hp with rfl | hp
  · exact N' _ (.head _)
  · exact N' _ (.tail _ (h2 p hp))
noncomputable def ClsAt (C : Addr) (h : Heap) : Prop := ∃ NS bT t1 t2, h.get? C = some (clsK C NS bT t1 t2)
theorem ClsAt.of {w : World} {h₀ h : Heap} {L C f : Addr} {n : Led1} (N : News h₀ L h n) (M : KMadeR w (InL n) C f) : ClsAt C h := by
  obtain ⟨NS, md, bT, sl, fI, fL, fG, fE, fLe, fGe, st, cell, cI, cL, ctL, k, a1, r1, a2, r2, n1, n2, t1, t2, tm, ta, tb, m1, _⟩ := M
  exact ⟨NS, bT, t1, t2, (N _ m1).1⟩
theorem keeps_C {M : Model} {C : Addr} (h : Heap) (X : ClsAt C h) : ∃ k, (k = Keeper.frame ∨ k = Keeper.machine ∨ k = Keeper.boundFrame) ∧ Looks M h (keeperOf (.ref C)) k := by
  obtain ⟨NS, bT, t1, t2, e⟩ := X
  refine ⟨.machine, .inr (.inl rfl), (Looks.ld (part := none) e).andThen ?_⟩
  have sp : Looks M h (specialOf (.ref C) "__call__") (some (.builtin "type.__call__")) := by
    refine Looks.andThen (a := Value.type "type") ((Looks.ld e).andThen .now) ?_
    exact looks_findIn (K := []) (fun a o q => by cases q) (by kernel_rfl)
  exact sp.andThen .now
section
variable {M : Model} {A : Around} {E : Value → Shared → Prop} {s : Shared} {env : Env} {pos : Pos} {first : List Value} {Q : Value → Shared → Prop} {C : Addr}
theorem callWith_C {e : PySem.Expr} {rest : List PySem.Expr} (_X : ClsAt C s.heap) (h : wpAny M A (spliced (backTo pos (starEach (e :: rest) env))) (fun vs s₁ => ClsAt C s₁.heap ∧ wpAny M A (call (.ref C) (first ++ vs)) Q E s₁) E s)
    (he : starEach (e :: rest) env = (false, eval e env) :: starEach rest env := by rfl) (hplain : (backTo pos (starEach rest env)).any (·.1) = false := by rfl) :
    wpAny M A (callWith pos (.ref C) first (backTo pos (starEach (e :: rest) env)) []) Q E s := by
  rw [he] at h ⊢
  exact callWith_of (by show ((false || (backTo pos (starEach rest env)).any (·.1)) || false) = false; rw [hplain]; rfl) keeps_C (PySem.Calls.evalArgs_plain h)
end
end Mine
end
section
open PySem PySem.W PyProof.Rows
namespace Mine
theorem low_any {w : World} {pT : Program} {lT : List Str} {mean : ExcName → Option Value} {mg mb : Str → Option Value} {dp un : Nat} {gd : Option (List Code)} {cn : Str} {cs : Scope} {a : Addr} {ccd : Value} {cl : List (Str × Addr)} {outer : List Env} {A₀ : Around} {base h₀ : Heap} {L : Addr} {m : Str → Option Value} {s : Shared} {Q E : Value → Shared → Prop}
    {l : Addr} {vs : List Value} {e n : Nat} {P : List Value → Prop} {nw : Led1}
    (B : Below A₀ base outer h₀) (F : Fr h₀ L s.heap m) (X : (hdk.heap_1 w.params).In h₀) (N : News h₀ L s.heap nw) (T : Top pT lT mean mg mb h₀) (hk : cs.kind = .function)
    (XF : InF w h₀) (hl : (l, listOf (List.toArray vs) e) ∈ nw) (S : SortOk w l nw n P) (h1 : 1 ≤ n) (h2 : n < 64) (hd : dp ≤ 470) (hu : un ≤ 140)
    (h : ∀ us v h' tk', P us → us[(n - 1) / 2]? = some v → Fr h₀ L h' m → News h₀ L h' nw → Q v { s with heap := h', toks := tk' }) :
    wpAny (model PySem.Challenge.rw_mr0138_02.prog w) (ktrTop dp un gd cn cs L a ccd cl outer) (call (.ref 34) [.ref l]) Q E s := by
  refine low_K w pT lT mean mg mb dp un gd cn cs a ccd cl outer A₀ base h₀ L m s Q E l vs e n P nw B F X (fun p hp => ?_) T hk XF (S.cons (fun p hp => .tail _ hp) fun p hp => ?_) h1 h2 hd hu fun us v h' tk' hP hv F' N' => h us v h' tk' hP hv F' fun p hp => N' p (.tail _ hp)
  · rcases List.mem_cons.mp hp with rfl | hp
    · exact N _ hl
    · exact N p hp
  · rcases List.mem_cons.mp hp with rfl | hp
    · exact hl
    · exact hp
theorem high_any {w : World} {pT : Program} {lT : List Str} {mean : ExcName → Option Value} {mg mb : Str → Option Value} {dp un : Nat} {gd : Option (List Code)} {cn : Str} {cs : Scope} {a : Addr} {ccd : Value} {cl : List (Str × Addr)} {outer : List Env} {A₀ : Around} {base h₀ : Heap} {L : Addr} {m : Str → Option Value} {s : Shared} {Q E : Value → Shared → Prop}
    {l : Addr} {vs : List Value} {e n : Nat} {P : List Value → Prop} {nw : Led1}
    (B : Below A₀ base outer h₀) (F : Fr h₀ L s.heap m) (X : (hdk.heap_1 w.params).In h₀) (N : News h₀ L s.heap nw) (T : Top pT lT mean mg mb h₀) (hk : cs.kind = .function)
    (XF : InF w h₀) (hl : (l, listOf (List.toArray vs) e) ∈ nw) (S : SortOk w l nw n P) (h1 : 1 ≤ n) (h2 : n < 64) (hd : dp ≤ 470) (hu : un ≤ 140)
    (h : ∀ us v h' tk', P us → us[n / 2]? = some v → Fr h₀ L h' m → News h₀ L h' nw → Q v { s with heap := h', toks := tk' }) :
    wpAny (model PySem.Challenge.rw_mr0138_02.prog w) (ktrTop dp un gd cn cs L a ccd cl outer) (call (.ref 41) [.ref l]) Q E s := by
  refine high_K w pT lT mean mg mb dp un gd cn cs a ccd cl outer A₀ base h₀ L m s Q E l vs e n P nw B F X (fun p hp => ?_) T hk XF (S.cons (fun p hp => .tail _ hp) fun p hp => ?_) h1 h2 hd hu fun us v h' tk' hP hv F' N' => h us v h' tk' hP hv F' fun p hp => N' p (.tail _ hp)
  · rcases List.mem_cons.mp hp with rfl | hp
    · exact N _ hl
    · exact N p hp
  · rcases List.mem_cons.mp hp with rfl | hp
    · exact hl
    · exact hp
/-- the sorted keys as sort_keys tells them -/
noncomputable def KSorted (ns : List Int) (g : Int → Int) (keys : List Addr) (us : List Value) : Prop :=
  ∃ p : Array Nat, p.Perm (List.range ns.length).toArray ∧ Ris (fun i => g (ns.getD i 0)) p ns.length ∧ us = p.toList.map fun i => (keys.map Value.ref).getD i Value.none
theorem key_pick {ns : List Int} {g : Int → Int} {keys : List Addr} {us : List Value} (hP : KSorted ns g keys us) (hk : keys.length = ns.length) {i : Nat} (hi : i < ns.length) {v : Value} (hv : us[i]? = some v) :
    ∃ (j : Nat) (x : Addr) (srt : List Int), j < ns.length ∧ keys[j]? = some x ∧ v = .ref x ∧ srt.Pairwise (· ≤ ·) ∧ srt.Perm (ns.map g) ∧ srt[i]? = some (g (ns.getD j 0)) := by
  obtain ⟨p, hp, hr, rfl⟩ := hP
  obtain ⟨h1, h2⟩ := ris_list hp hr
  have hz : p.size = ns.length := by rw [hp.size_eq]; simp
  have hpi : i < p.toList.length := by rw [Array.length_toList]; omega
  have hj : p.toList[i] < ns.length := by
    have : p.toList[i] ∈ p := Array.mem_def.mpr (List.getElem_mem hpi)
    have := hp.mem_iff.mp this
    simpa using this
  refine ⟨p.toList[i], keys[p.toList[i]]'(by omega), _, hj, List.getElem?_eq_getElem (by omega), ?_, h1, h2, ?_⟩
  · rw [List.getElem?_map, List.getElem?_eq_getElem hpi] at hv
    have e := Option.some.inj hv
    rw [← e]
    show (List.map Value.ref keys).getD p.toList[i] Value.none = _
    rw [List.getD_eq_getElem?_getD, List.getElem?_map, List.getElem?_eq_getElem (by omega)]; rfl
  · rw [List.getElem?_map, List.getElem?_eq_getElem hpi]; rfl
theorem sorted_same {a b c : List Int} (ha : a.Pairwise (· ≤ ·)) (hb : b.Pairwise (· ≤ ·)) (pa : a.Perm c) (pb : b.Perm c) : a = b :=
  (pa.trans pb.symm).eq_of_pairwise (fun _ _ _ _ h1 h2 => Int.le_antisymm h1 h2) ha hb
/-- the two middles told -/
theorem mid_vals {ns : List Int} {g : Int → Int} {mo : Int} {s1 s2 : List Int} {x y : Int} (h1 : 1 ≤ ns.length) (a1 : s1.Pairwise (· ≤ ·)) (a2 : s1.Perm (ns.map g)) (b1 : s2.Pairwise (· ≤ ·)) (b2 : s2.Perm (ns.map g))
    (hx : s1[(ns.length - 1) / 2]? = some x) (hy : s2[ns.length / 2]? = some y) : (Maj ns mo → x = g mo ∧ y = g mo) ∧ (Half ns mo → x = g mo ∨ y = g mo) := by
  obtain rfl := sorted_same a1 b1 a2 b2
  have hl : s1.length = ns.length := by rw [a2.length_eq, List.length_map]
  have hc : s1.count (g mo) = (ns.map g).count (g mo) := a2.count_eq _
  obtain ⟨h3, e3⟩ := List.getElem?_eq_some_iff.mp hx
  obtain ⟨h4, e4⟩ := List.getElem?_eq_some_iff.mp hy
  constructor
  · intro hm
    have hm' : Maj s1 (g mo) := by
      have := maj_map g hm
      unfold Maj at *
      rw [hc, hl]; rw [List.length_map] at this; exact this
    exact ⟨e3 ▸ sorted_maj a1 hm' h3 (.inl (by rw [hl])), e4 ▸ sorted_maj a1 hm' h4 (.inr (by rw [hl]))⟩
  · intro hm
    have hm' : s1.length ≤ 2 * s1.count (g mo) := by
      have := half_map g hm
      unfold Half at *
      rw [hc, hl]; rw [List.length_map] at this; exact this
    have := sorted_half a1 (by omega) hm'
    rcases this with q | q
    · refine .inl (e3 ▸ ?_)
      rw [← q]; congr 1; rw [hl]
    · refine .inr (e4 ▸ ?_)
      rw [← q]; congr 1; rw [hl]
end Mine
end
section
open PySem PySem.W PyProof.Rows PyProof.Rows.LCg
namespace Mine
theorem addr_ne {a i j : Nat} (h : i ≠ j) : a + i ≠ a + j := fun e => h (Nat.add_left_cancel e)
local macro_rules | `(tactic| walk_at "callWith ref") => `(tactic| (k_here; refine callWith_C (ClsAt.of (by k_asm) (by assumption)) ?_; k_whole))
local macro_rules | `(tactic| walk_at "callWith ref") => `(tactic| (k_here; k_dflt (refine' callWith_F ?k1 ?_; (case k1 => exact FnAt.of (by k_asm) (by assumption)); k_whole)))
local macro_rules | `(tactic| walk_at "FnAt") => `(tactic| exact FnAt.of (by k_asm) (by assumption))
local macro_rules | `(tactic| walk_at "ClsAt") => `(tactic| exact ClsAt.of (by k_asm) (by assumption))
local macro_rules | `(tactic| walk_at "call ref") => `(tactic| (k_here; (with_reducible show wpAny _ _ (call (Value.ref _) [_]) _ _ _); refine Halt.to ?_))
local macro_rules | `(tactic| walk_at "subscriptTail") => `(tactic| refine Halt.to ?_)
local macro_rules | `(tactic| walk_at "call builtin:len") => `(tactic| refine Halt.to ?_)
local macro_rules | `(tactic| walk_at "eval ListComp") => `(tactic| refine Halt.to ?_)
set_option maxHeartbeats 2000000 in
theorem mid_K (w : World) (pT : Program) (lT : List Str) (mean : ExcName → Option Value) (mg mb : Str → Option Value) (dp un : Nat) (gd : Option (List Code)) (cn : Str) (cs : Scope) (a : Addr) (ccd : Value) (cl : List (Str × Addr)) (outer : List Env) (A₀ : Around) (base h₀ : Heap) (L : Addr) (m : Str → Option Value) (s : Shared) (Q E : Value → Shared → Prop)
    (l fm : Addr) (vs : List Value) (ns : List Int) (e : Nat) (g : Int → Int) (mo : Int) (n0 : List (Addr × Obj)) :
    Below A₀ base outer h₀ → Fr h₀ L s.heap m → (hdk.heap_1 w.params).In h₀ → News h₀ L s.heap n0 → Top pT lT mean mg mb h₀ → cs.kind = .function →
    InF w h₀ → (l, listOf (List.toArray vs) e) ∈ n0 → IntsAre vs ns → 2 ≤ ns.length → ns.length < 64 → dp ≤ 450 → un ≤ 100 →
    MarkR (InL n0) fm g → TabSt (InL n0) →
    (∀ D a b t t' h' tk' n1, Fr h₀ L h' m → News h₀ L h' ((D, listOf #[.int a t, .int b t'] 2) :: n1) → (∀ p ∈ n0, okD p.2 = true → p ∈ n1) → Filled (InL n1) → (∀ p ∈ n1, p.1 ≠ D) →
      (Maj ns mo → a = g mo ∧ b = g mo) → (Half ns mo → a = g mo ∨ b = g mo) → Q (.ref D) { s with heap := h', toks := tk' }) →
    wpAny (model PySem.Challenge.rw_mr0138_02.prog w) (ktrTop dp un gd cn cs L a ccd cl outer) (call (.ref 76) [.ref l, .ref fm]) Q E s := by
  k_fill
  intros
  rename_i hB hF hX hN hT hcs XF hl hI hn1 hn2 hdp hun hM hTab hQ
  refine wpAny_call ?_
  refine mid_enter (K := hdk.heap_1 w.params) XF hB hF hX hN hT rfl rfl hcs (by k_dflt k_is) (by ktr_room) ?_
  intro g' L' h₁ tk₁ FG' F' N' B' X' T' XF' l1
  k_dflt ((try dsimp only); (try k_lift B'); (try k_fold))
  k_steps
  have hT0 : TabSt (InL ((L' + 4, cellE) :: (L' + 3, cellE) :: (L' + 2, cellO fm) :: (L' + 1, cellO l) :: n0)) := hTab.mono fun a o h => .tail _ (.tail _ (.tail _ (.tail _ h)))
  refine lam_mid (cm := L' + 2) XF' F' N' T' hT0 rfl rfl (by kernel_rfl) ⟨rfl, rfl⟩ rfl ?_
  intro f n1 h2 tk2 F2 N2 hlam2 hmt2 hk2
  have kn1 : ∀ p ∈ n0, okD p.2 = true → p ∈ n1 := fun p hp ok => hk2 p (.tail _ (.tail _ (.tail _ (.tail _ hp)))) (.inr (okD_f ok))
  have c4 : (L' + 4, cellE) ∈ n1 := hk2 _ (.head _) (.inr (by intro q; cases q))
  have c3 : (L' + 3, cellE) ∈ n1 := hk2 _ (.tail _ (.head _)) (.inr (by intro q; cases q))
  have c2 : (L' + 2, cellO fm) ∈ n1 := hk2 _ (.tail _ (.tail _ (.head _))) (.inr (by intro q; cases q))
  have c1 : (L' + 1, cellO l) ∈ n1 := hk2 _ (.tail _ (.tail _ (.tail _ (.head _)))) (.inr (by intro q; cases q))
  clear N' F' hT0 hk2
  k_steps
  refine ⟨?_⟩
  refine ck_mid XF' rfl (by ktr_room) (by ktr_units) F2 N2 hmt2 ?_
  intro C n2 h3 tk3 F3 N3 hkm3 hfil3 hk3
  have lam2 : LamR (InL n1) f fm := by
    obtain ⟨c, ct, pm, a0, tq, rest, d, sl, e1, e2⟩ := hlam2
    exact ⟨_, c, ct, pm, a0, tq, rest, d, sl, e1, e2, c2⟩
  have key3 : KeyR w (InL n2) C g := ⟨f, fm, hkm3, lam2.ok fun a o h ok => hk3 _ h (.inr (okD_f ok)), hM.ok fun a o h ok => hk3 _ (kn1 _ h ok) (.inr (okD_f ok))⟩
  replace kn1 : ∀ p ∈ n0, okD p.2 = true → p ∈ n2 := fun p hp ok => hk3 _ (kn1 p hp ok) (.inr (okD_f ok))
  replace c4 : (L' + 4, cellE) ∈ n2 := hk3 _ c4 (.inr (by intro q; cases q))
  replace c3 : (L' + 3, cellE) ∈ n2 := hk3 _ c3 (.inr (by intro q; cases q))
  replace c2 : (L' + 2, cellO fm) ∈ n2 := hk3 _ c2 (.inr (by intro q; cases q))
  replace c1 : (L' + 1, cellO l) ∈ n2 := hk3 _ c1 (.inr (by intro q; cases q))
  clear N2 F2 hk3 hlam2 hmt2 lam2
  k_steps
  refine store_cell (c := L' + 3) (v₀ := none) F3 N3 rfl c3 rfl ?_ rfl rfl
  intro h4 o4 n3 F4 N4 m4 d4 hk4
  have key4 : KeyR w (InL n3) C g := key3.ok fun a o h ok => hk4 _ h (.inr (okD_c ok))
  have fil4 : Filled (InL n3) := hfil3.ok fun a o h ok => hk4 _ h (.inr (okD_c ok))
  replace kn1 : ∀ p ∈ n0, okD p.2 = true → p ∈ n3 := fun p hp ok => hk4 _ (kn1 p hp ok) (.inr (okD_c ok))
  replace c4 : (L' + 4, cellE) ∈ n3 := hk4 _ c4 (.inl (addr_ne (by decide)))
  replace c2 : (L' + 2, cellO fm) ∈ n3 := hk4 _ c2 (.inl (addr_ne (by decide)))
  replace c1 : (L' + 1, cellO l) ∈ n3 := hk4 _ c1 (.inl (addr_ne (by decide)))
  have hkm4 : KMadeR w (InL n3) C f := hkm3.ok fun a o h ok => hk4 _ h (.inr (okD_c ok))
  clear N3 F3 hk4 key3 hfil3 c3 hkm3
  k_steps
  refine ⟨?_⟩
  refine LCg.ListComp_U (F₀ := F4) (by with_unfolding_all rfl) (by decide) (by rfl) (by decide) (by rfl) ?_
  refine nameX_C N4 rfl c1 rfl ?_
  refine LCg.CompSrc.ledger rfl F4 N4 (kn1 _ hl rfl) (by rw [List.size_toArray, hI.length, sizeLine_eq]; omega) ?_
  intro gg
  have hsz : vs.toArray.size = ns.length := by rw [List.size_toArray, hI.length]
  refine comp_ind (fun i ys nn => ∃ keys : List Addr, ys = keys.map Value.ref ∧ keys.length = i ∧ (∀ p ∈ n3, p ∈ nn) ∧ keys.Nodup ∧ (∀ x ∈ keys, x ∈ nn.map (·.1)) ∧ ∀ j, j < i → ∃ x dx tn, keys[j]? = some x ∧ (x, instK C dx (ns.getD j 0) tn) ∈ nn) ?_ ?_ ?_
  · exact ⟨[], rfl, rfl, fun _ h => h, List.nodup_nil, (fun _ h => nomatch h), fun j h => absurd h (Nat.not_lt_zero _)⟩
  · rintro i ys nn hi ⟨keys, rfl, hki, hsub, hnd, hmem, hkeys⟩ v I oI CC oC D m₂ h5 tk5 E' hv hoC hx F5 N5 off5 ne5
    have hin : i < ns.length := by omega
    obtain ⟨tv, hvx⟩ := hI.get i ns[i] (List.getElem?_eq_getElem hin)
    obtain rfl : v = .int ns[i] tv := by
      have : vs[i]? = some v := by simpa using hv
      rw [hvx] at this; exact (Option.some.inj this).symm
    have m5 : (L' + 3, o4) ∈ (I, oI) :: (CC, oC) :: (D, lst (List.map Value.ref keys)) :: nn := .tail _ (.tail _ (.tail _ (hsub _ m4)))
    have key5 : KMadeR w (InL ((I, oI) :: (CC, oC) :: (D, lst (List.map Value.ref keys)) :: nn)) C f := hkm4.mono fun a o h => .tail _ (.tail _ (.tail _ (hsub _ h)))
    k_steps
    refine ⟨?_⟩
    refine key_new (w := w) XF' rfl (by ktr_room) (by ktr_units) F5 N5 key5 ?_
    intro x dx h6 tk6 F6 N6 fr6
    have frn : ∀ p ∈ nn, p.1 ≠ x := fun p hp => fr6 p (.tail _ (.tail _ (.tail _ hp)))
    refine CompEnd.intro F6 N6 ((x, instK C dx ns[i] tv) :: nn) ?_ ?_ ?_ ?_
    · intro p hp
      rcases List.mem_cons.mp hp with rfl | hp
      · exact .tail _ (.head _)
      rcases List.mem_cons.mp hp with rfl | hp
      · exact .tail _ (.tail _ (.head _))
      rcases List.mem_cons.mp hp with rfl | hp
      · exact .tail _ (.tail _ (.tail _ (.head _)))
      rcases List.mem_cons.mp hp with rfl | hp
      · exact .head _
      · exact .tail _ (.tail _ (.tail _ (.tail _ hp)))
    · exact ⟨⟨Ne.symm (fr6 _ (.head _)), Ne.symm (fr6 _ (.tail _ (.head _))), Ne.symm (fr6 _ (.tail _ (.tail _ (.head _))))⟩, off5⟩
    · exact .inr ⟨_, .tail _ (hsub _ (kn1 _ hl rfl)), rfl, _, rfl⟩
    · refine ⟨keys ++ [x], by simp, by simp [hki], fun p hp => .tail _ (hsub p hp), ?_, ?_, ?_⟩
      · refine List.nodup_append.mpr ⟨hnd, by simp, fun b hb c hc q => ?_⟩
        rw [List.mem_singleton.mp hc] at q
        obtain ⟨p, hp, e1⟩ := List.mem_map.mp (hmem b hb)
        exact frn p hp (e1.trans q)
      · intro y hy
        rcases List.mem_append.mp hy with hy | hy
        · exact List.mem_cons_of_mem _ (hmem y hy)
        · rw [List.mem_singleton.mp hy]; exact List.mem_cons_self ..
      · intro j hj
        rcases Nat.lt_or_eq_of_le (Nat.le_of_lt_succ hj) with q | q
        · obtain ⟨y, dy, ty, e1, e2⟩ := hkeys j q
          exact ⟨y, dy, ty, by rw [List.getElem?_append_left (by omega)]; exact e1, .tail _ e2⟩
        · subst q
          refine ⟨x, dx, tv, by rw [List.getElem?_append_right (by omega), hki]; simp, ?_⟩
          rw [List.getD_eq_getElem?_getD, List.getElem?_eq_getElem hin]
          exact .head _
  · rintro _ nn ⟨keys, rfl, hki, hsub, hnd, hmem, hkeys⟩
    rw [hsz] at hki hkeys
    intro D h6 tk6 F6 N6 o6
    have offD : ∀ p ∈ nn, p.1 ≠ D := by
      have : ∀ {l : List (Addr × Obj)}, Off1 D l → ∀ p ∈ l, p.1 ≠ D := by
        intro l
        induction l with
        | nil => intro _ p hp; exact nomatch hp
        | cons q r ih =>
          intro h p hp
          rcases List.mem_cons.mp hp with rfl | hp
          · exact h.1
          · exact ih h.2 p hp
      exact this o6
    have key6 : KeyR w (InL ((D, lst (keys.map Value.ref)) :: nn)) C g := key4.mono fun a o h => .tail _ (hsub _ h)
    have fil6 : Filled (InL ((D, lst (keys.map Value.ref)) :: nn)) := fil4.ok fun a o h _ => .tail _ (hsub _ h)
    have kn6 : ∀ p ∈ n0, okD p.2 = true → p ∈ (D, lst (keys.map Value.ref)) :: nn := fun p hp ok => .tail _ (hsub _ (kn1 p hp ok))
    replace c4 : (L' + 4, cellE) ∈ (D, lst (keys.map Value.ref)) :: nn := .tail _ (hsub _ c4)
    replace c2 : (L' + 2, cellO fm) ∈ (D, lst (keys.map Value.ref)) :: nn := .tail _ (hsub _ c2)
    replace c1 : (L' + 1, cellO l) ∈ (D, lst (keys.map Value.ref)) :: nn := .tail _ (hsub _ c1)
    clear N4 F4 key4 fil4 kn1 hkm4 m4 d4 hsub o6
    k_steps
    refine store_cell (c := L' + 4) (v₀ := none) F6 N6 rfl c4 rfl ?_ rfl rfl
    intro h7 o7 n5 F7 N7 m7 d7 hk7
    have key7 : KeyR w (InL n5) C g := key6.ok fun a o h ok => hk7 _ h (.inr (okD_c ok))
    have fil7 : Filled (InL n5) := fil6.ok fun a o h ok => hk7 _ h (.inr (okD_c ok))
    have kn7 : ∀ p ∈ n0, okD p.2 = true → p ∈ n5 := fun p hp ok => hk7 _ (kn6 p hp ok) (.inr (okD_c ok))
    replace c2 : (L' + 2, cellO fm) ∈ n5 := hk7 _ c2 (.inl (addr_ne (by decide)))
    replace c1 : (L' + 1, cellO l) ∈ n5 := hk7 _ c1 (.inl (addr_ne (by decide)))
    have lk7 : (D, listOf (List.toArray (keys.map Value.ref)) (keys.map Value.ref).length) ∈ n5 := hk7 _ (.head _) (.inr (by intro q; cases q))
    have ks7 : ∀ j, j < ns.length → ∃ x dx tn, keys[j]? = some x ∧ (x, instK C dx (ns.getD j 0) tn) ∈ n5 := fun j hj => by
      obtain ⟨x, dx, tn, e1, e2⟩ := hkeys j hj
      exact ⟨x, dx, tn, e1, hk7 _ (.tail _ e2) (.inr (by intro q; cases q))⟩
    have hS7 : SortOk w D n5 ns.length (KSorted ns g keys) := sort_keys lk7 ks7 hki key7 hn1 hn2
    clear N6 F6 hk7 key6 fil6 c4 kn6 hkeys hmem offD
    k_steps
    refine ⟨?_⟩
    refine low_any B' F7 X' N7 T' rfl XF' lk7 hS7 (by omega) hn2 (by dsimp only [ktrTop]; omega) (by dsimp only [ktrTop]; omega) ?_
    intro us1 v1 h8 tk8 hP1 hv1 F8 N8
    k_steps
    refine ⟨?_⟩
    refine high_any B' F8 X' N8 T' rfl XF' lk7 hS7 (by omega) hn2 (by dsimp only [ktrTop]; omega) (by dsimp only [ktrTop]; omega) ?_
    intro us2 v2 h9 tk9 hP2 hv2 F9 N9
    k_steps
    rename_i T9 hh9 lt9 hT9 FT NT
    obtain ⟨j1, x1, s1, hj1, ek1, rfl, a1, a2, e1⟩ := key_pick hP1 hki (by omega) hv1
    obtain ⟨j2, x2, s2, hj2, ek2, rfl, b1, b2, e2⟩ := key_pick hP2 hki (by omega) hv2
    have hvals := mid_vals (mo := mo) (by omega) a1 a2 b1 b2 e1 e2
    clear a1 a2 b1 b2 e1 e2 s1 s2 hP1 hP2 hv1 hv2 hS7 key7
    refine ⟨?_⟩
    have hkl : (keys.map Value.ref).length = ns.length := by rw [List.length_map, hki]
    have hvl : vs.length = ns.length := hI.length
    refine comp_two (px1 := { line := 74, col := 29, endLine := 74, endCol := 32 }) (px2 := { line := 74, col := 45, endLine := 74, endCol := 46 }) (x1 := Str.ofString "one") (x2 := Str.ofString "k") (cnt := ns.length) (j1 := j1) (j2 := j2) (a1 := g (ns.getD j1 0)) (a2 := g (ns.getD j2 0)) (T := T9) rfl FT NT (by with_unfolding_all rfl) (by decide) (by rfl) (by decide) (by rfl) (by rfl) (by decide) (by omega) (.head _) ?_ ?_ ?_ (by intro _; rfl) (by intro _ _; rfl) ?_
    · exact nameX_L FT rfl ⟨rfl, rfl⟩
    · refine ⟨hj1, ?_, ?_, ?_⟩
      · intro I CC D' oI oC oD m₂ h10 tk10 E' hoC hu F10 N10
        have m5 : (L' + 4, o7) ∈ (I, oI) :: (CC, oC) :: (D', oD) :: (T9, listOf #[.ref x1, .ref x2] 0) :: n5 := (.tail _ (.tail _ (.tail _ (.tail _ m7))))
        have m6 : (D, listOf (List.toArray (keys.map Value.ref)) (keys.map Value.ref).length) ∈ (I, oI) :: (CC, oC) :: (D', oD) :: (T9, listOf #[.ref x1, .ref x2] 0) :: n5 := (.tail _ (.tail _ (.tail _ (.tail _ lk7))))
        k_steps
        refine ⟨?_⟩
        (refine' med_len ?k1 ?k2 ?k3 ?k4 ?_; (case k1 => k_asm); (case k2 => k_mem); (case k3 => assumption); (case k4 => assumption); k_whole); intro t' tk'
        k_steps
        all_goals assumption
      · intro I I2 CC D' oI oI2 oC oD m₂ k t h10 tk10 E' hk hoC hu hku F10 N10
        have m5 : (L' + 4, o7) ∈ (I, oI) :: (I2, oI2) :: (CC, oC) :: (D', oD) :: (T9, listOf #[.ref x1, .ref x2] 0) :: n5 := (.tail _ (.tail _ (.tail _ (.tail _ (.tail _ m7)))))
        have m6 : (D, listOf (List.toArray (keys.map Value.ref)) (keys.map Value.ref).length) ∈ (I, oI) :: (I2, oI2) :: (CC, oC) :: (D', oD) :: (T9, listOf #[.ref x1, .ref x2] 0) :: n5 := (.tail _ (.tail _ (.tail _ (.tail _ (.tail _ lk7)))))
        k_steps
        refine ⟨?_⟩
        (with_unfolding_all refine' med_item ?k1 ?k2 ?k3 ?k4 ?k5 ?_ ?k6; (case k1 => k_asm); (case k2 => k_mem); (case k3 => omega); (case k4 => omega); (case k5 => omega); (case k6 => with_unfolding_all rfl); k_whole); intro v9 hv9
        k_steps
        obtain ⟨xk, dxk, txk, ekk, mk9⟩ := ks7 k hk
        obtain rfl : v9 = .ref xk := by
          rw [Int.toNat_natCast, List.getElem?_map, ekk] at hv9; exact (Option.some.inj hv9).symm
        by_cases hkj : k = j1
        · subst hkj
          obtain rfl : xk = x1 := Option.some.inj (ekk.symm.trans ek1)
          refine wpAny_is_ref_self ?_
          k_steps
          all_goals first | assumption | simp
        · obtain ⟨xj, dxj, txj, ejj, mj9⟩ := ks7 j1 hj1
          obtain rfl : xj = x1 := Option.some.inj (ejj.symm.trans ek1)
          have nexx : xk ≠ xj := fun q => hkj (by
            obtain ⟨hlk, elk⟩ := List.getElem?_eq_some_iff.mp ekk
            obtain ⟨hlj, elj⟩ := List.getElem?_eq_some_iff.mp ejj
            exact (List.getElem_inj hnd).mp (elk.trans (q.trans elj.symm)))
          refine wpAny_is_ref_other nexx (N10 _ (.tail _ (.tail _ (.tail _ (.tail _ (.tail _ mk9)))))).1 (N10 _ (.tail _ (.tail _ (.tail _ (.tail _ (.tail _ mj9)))))).1 (by intro q; cases q) ?_
          k_steps
          all_goals first | assumption | simp [hkj]
      · intro I I2 CC D' oI oI2 oC oD m₂ t h10 tk10 E' hoC hu hku F10 N10
        have m5 : (L' + 1, cellO l) ∈ (I, oI) :: (I2, oI2) :: (CC, oC) :: (D', oD) :: (T9, listOf #[.ref x1, .ref x2] 0) :: n5 := (.tail _ (.tail _ (.tail _ (.tail _ (.tail _ c1)))))
        have m6 : (L' + 2, cellO fm) ∈ (I, oI) :: (I2, oI2) :: (CC, oC) :: (D', oD) :: (T9, listOf #[.ref x1, .ref x2] 0) :: n5 := (.tail _ (.tail _ (.tail _ (.tail _ (.tail _ c2)))))
        have dm : (cellO fm).data = .cell (some (.ref fm)) := rfl
        have dl : (cellO l).data = .cell (some (.ref l)) := rfl
        have m8 : (l, listOf (List.toArray vs) e) ∈ (I, oI) :: (I2, oI2) :: (CC, oC) :: (D', oD) :: (T9, listOf #[.ref x1, .ref x2] 0) :: n5 := (.tail _ (.tail _ (.tail _ (.tail _ (.tail _ (kn7 _ hl rfl))))))
        obtain ⟨im, cm9, ctm, pmm, a0m, tqm, restm, dm9, slm, him, hgm, q1, q2⟩ := hM
        have mfn : (fm, ({ cls := .type "function", dict := none, data := .func (lamD (markE im) "law.<locals>.<lambda>" [] cm9 ctm pmm), slots := #[] } : Obj)) ∈ (I, oI) :: (I2, oI2) :: (CC, oC) :: (D', oD) :: (T9, listOf #[.ref x1, .ref x2] 0) :: n5 := (.tail _ (.tail _ (.tail _ (.tail _ (.tail _ (kn7 _ q1 rfl))))))
        have hMk : MarkR (InL ((I, oI) :: (I2, oI2) :: (CC, oC) :: (D', oD) :: (T9, listOf #[.ref x1, .ref x2] 0) :: n5)) fm g := ⟨im, cm9, ctm, pmm, a0m, tqm, restm, dm9, slm, him, hgm, mfn, (.tail _ (.tail _ (.tail _ (.tail _ (.tail _ (kn7 _ q2 rfl))))))⟩
        k_steps
        refine ⟨?_⟩
        (with_unfolding_all refine' med_item ?k1 ?k2 ?k3 ?k4 ?k5 ?_ ?k6; (case k1 => k_asm); (case k2 => k_mem); (case k3 => omega); (case k4 => omega); (case k5 => omega); (case k6 => with_unfolding_all rfl); k_whole); intro v9 hv9
        k_steps
        refine ⟨?_⟩
        have hj9 : j1 < ns.length := hj1
        obtain ⟨tv9, hvx9⟩ := hI.get j1 ns[j1] (List.getElem?_eq_getElem hj9)
        obtain rfl : v9 = .int ns[j1] tv9 := by
          rw [Int.toNat_natCast, hvx9] at hv9; exact (Option.some.inj hv9).symm
        refine mark_call (w := w) XF' rfl (by ktr_room) (by ktr_units) F10 N10 hMk ?_
        intro u9 h11 tk11 F11 N11
        refine ⟨u9, h11, tk11, ?_, rfl, F11, N11⟩
        rw [List.getD_eq_getElem?_getD, List.getElem?_eq_getElem hj9]; rfl
    · refine ⟨hj2, ?_, ?_, ?_⟩
      · intro I CC D' oI oC oD m₂ h10 tk10 E' hoC hu F10 N10
        have m5 : (L' + 4, o7) ∈ (I, oI) :: (CC, oC) :: (D', oD) :: (T9, listOf #[.ref x1, .ref x2] 0) :: n5 := (.tail _ (.tail _ (.tail _ (.tail _ m7))))
        have m6 : (D, listOf (List.toArray (keys.map Value.ref)) (keys.map Value.ref).length) ∈ (I, oI) :: (CC, oC) :: (D', oD) :: (T9, listOf #[.ref x1, .ref x2] 0) :: n5 := (.tail _ (.tail _ (.tail _ (.tail _ lk7))))
        k_steps
        refine ⟨?_⟩
        (refine' med_len ?k1 ?k2 ?k3 ?k4 ?_; (case k1 => k_asm); (case k2 => k_mem); (case k3 => assumption); (case k4 => assumption); k_whole); intro t' tk'
        k_steps
        all_goals assumption
      · intro I I2 CC D' oI oI2 oC oD m₂ k t h10 tk10 E' hk hoC hu hku F10 N10
        have m5 : (L' + 4, o7) ∈ (I, oI) :: (I2, oI2) :: (CC, oC) :: (D', oD) :: (T9, listOf #[.ref x1, .ref x2] 0) :: n5 := (.tail _ (.tail _ (.tail _ (.tail _ (.tail _ m7)))))
        have m6 : (D, listOf (List.toArray (keys.map Value.ref)) (keys.map Value.ref).length) ∈ (I, oI) :: (I2, oI2) :: (CC, oC) :: (D', oD) :: (T9, listOf #[.ref x1, .ref x2] 0) :: n5 := (.tail _ (.tail _ (.tail _ (.tail _ (.tail _ lk7)))))
        k_steps
        refine ⟨?_⟩
        (with_unfolding_all refine' med_item ?k1 ?k2 ?k3 ?k4 ?k5 ?_ ?k6; (case k1 => k_asm); (case k2 => k_mem); (case k3 => omega); (case k4 => omega); (case k5 => omega); (case k6 => with_unfolding_all rfl); k_whole); intro v9 hv9
        k_steps
        obtain ⟨xk, dxk, txk, ekk, mk9⟩ := ks7 k hk
        obtain rfl : v9 = .ref xk := by
          rw [Int.toNat_natCast, List.getElem?_map, ekk] at hv9; exact (Option.some.inj hv9).symm
        by_cases hkj : k = j2
        · subst hkj
          obtain rfl : xk = x2 := Option.some.inj (ekk.symm.trans ek2)
          refine wpAny_is_ref_self ?_
          k_steps
          all_goals first | assumption | simp
        · obtain ⟨xj, dxj, txj, ejj, mj9⟩ := ks7 j2 hj2
          obtain rfl : xj = x2 := Option.some.inj (ejj.symm.trans ek2)
          have nexx : xk ≠ xj := fun q => hkj (by
            obtain ⟨hlk, elk⟩ := List.getElem?_eq_some_iff.mp ekk
            obtain ⟨hlj, elj⟩ := List.getElem?_eq_some_iff.mp ejj
            exact (List.getElem_inj hnd).mp (elk.trans (q.trans elj.symm)))
          refine wpAny_is_ref_other nexx (N10 _ (.tail _ (.tail _ (.tail _ (.tail _ (.tail _ mk9)))))).1 (N10 _ (.tail _ (.tail _ (.tail _ (.tail _ (.tail _ mj9)))))).1 (by intro q; cases q) ?_
          k_steps
          all_goals first | assumption | simp [hkj]
      · intro I I2 CC D' oI oI2 oC oD m₂ t h10 tk10 E' hoC hu hku F10 N10
        have m5 : (L' + 1, cellO l) ∈ (I, oI) :: (I2, oI2) :: (CC, oC) :: (D', oD) :: (T9, listOf #[.ref x1, .ref x2] 0) :: n5 := (.tail _ (.tail _ (.tail _ (.tail _ (.tail _ c1)))))
        have m6 : (L' + 2, cellO fm) ∈ (I, oI) :: (I2, oI2) :: (CC, oC) :: (D', oD) :: (T9, listOf #[.ref x1, .ref x2] 0) :: n5 := (.tail _ (.tail _ (.tail _ (.tail _ (.tail _ c2)))))
        have dm : (cellO fm).data = .cell (some (.ref fm)) := rfl
        have dl : (cellO l).data = .cell (some (.ref l)) := rfl
        have m8 : (l, listOf (List.toArray vs) e) ∈ (I, oI) :: (I2, oI2) :: (CC, oC) :: (D', oD) :: (T9, listOf #[.ref x1, .ref x2] 0) :: n5 := (.tail _ (.tail _ (.tail _ (.tail _ (.tail _ (kn7 _ hl rfl))))))
        obtain ⟨im, cm9, ctm, pmm, a0m, tqm, restm, dm9, slm, him, hgm, q1, q2⟩ := hM
        have mfn : (fm, ({ cls := .type "function", dict := none, data := .func (lamD (markE im) "law.<locals>.<lambda>" [] cm9 ctm pmm), slots := #[] } : Obj)) ∈ (I, oI) :: (I2, oI2) :: (CC, oC) :: (D', oD) :: (T9, listOf #[.ref x1, .ref x2] 0) :: n5 := (.tail _ (.tail _ (.tail _ (.tail _ (.tail _ (kn7 _ q1 rfl))))))
        have hMk : MarkR (InL ((I, oI) :: (I2, oI2) :: (CC, oC) :: (D', oD) :: (T9, listOf #[.ref x1, .ref x2] 0) :: n5)) fm g := ⟨im, cm9, ctm, pmm, a0m, tqm, restm, dm9, slm, him, hgm, mfn, (.tail _ (.tail _ (.tail _ (.tail _ (.tail _ (kn7 _ q2 rfl))))))⟩
        k_steps
        refine ⟨?_⟩
        (with_unfolding_all refine' med_item ?k1 ?k2 ?k3 ?k4 ?k5 ?_ ?k6; (case k1 => k_asm); (case k2 => k_mem); (case k3 => omega); (case k4 => omega); (case k5 => omega); (case k6 => with_unfolding_all rfl); k_whole); intro v9 hv9
        k_steps
        refine ⟨?_⟩
        have hj9 : j2 < ns.length := hj2
        obtain ⟨tv9, hvx9⟩ := hI.get j2 ns[j2] (List.getElem?_eq_getElem hj9)
        obtain rfl : v9 = .int ns[j2] tv9 := by
          rw [Int.toNat_natCast, hvx9] at hv9; exact (Option.some.inj hv9).symm
        refine mark_call (w := w) XF' rfl (by ktr_room) (by ktr_units) F10 N10 hMk ?_
        intro u9 h11 tk11 F11 N11
        refine ⟨u9, h11, tk11, ?_, rfl, F11, N11⟩
        rw [List.getD_eq_getElem?_getD, List.getElem?_eq_getElem hj9]; rfl
    · intro D9 h9 tk9 t1 t2 F9 N9 fr9
      k_steps
      exact hQ D9 _ _ t1 t2 _ _ _ (by assumption) (by assumption) (fun p hp ok => .tail _ (kn7 p hp ok)) (fil7.ok fun a o h _ => .tail _ h) fr9 hvals.1 hvals.2
end Mine
end
section
open PySem PySem.W PyProof.Rows PySem.Spec PySem.Calls
namespace Mine
/-- kept and no iterator -/
noncomputable def okI (o : Obj) : Bool := (match o.cls with
  | .type c => c != "list_iterator" && c != "range_iterator"
  | _ => true) && okD o
/-- no iterator -/
noncomputable def okJ (o : Obj) : Bool := match o.cls with
  | .type c => c != "list_iterator" && c != "range_iterator"
  | _ => true
theorem okI_j {o : Obj} (h : okI o = true) : okJ o = true := (Bool.and_eq_true_iff.mp h).1
theorem MarkR.okI {R R' : Addr → Obj → Prop} {fm : Addr} {g : Int → Int} (M : MarkR R fm g) (hr : ∀ a o, R a o → okI o = true → R' a o) : MarkR R' fm g := by
  obtain ⟨i, c, ct, pm, a0, tq, rest, d, s, hi, hg, m1, m2⟩ := M
  exact ⟨i, c, ct, pm, a0, tq, rest, d, s, hi, hg, hr _ _ m1 rfl, hr _ _ m2 rfl⟩
theorem KCodesR.okI {R R' : Addr → Obj → Prop} (M : KCodesR R) (hr : ∀ a o, R a o → okI o = true → R' a o) : KCodesR R' := by
  obtain ⟨cK, PK, c, a, r, n, i, nd, e, g1, g2, g3, g4, g5, g6, g7, g8, g9⟩ := M
  exact ⟨cK, PK, c, a, r, n, i, nd, e, hr _ _ g1 rfl, hr _ _ g2 rfl, hr _ _ g3 rfl, hr _ _ g4 rfl, hr _ _ g5 rfl, hr _ _ g6 rfl, hr _ _ g7 rfl, hr _ _ g8 rfl, hr _ _ g9 rfl⟩
theorem HasLam.okI {R R' : Addr → Obj → Prop} (M : HasLam R) (hr : ∀ a o, R a o → okI o = true → R' a o) : HasLam R' := by
  obtain ⟨c, a0, q, rest, d, sl, g1, g2⟩ := M
  exact ⟨c, a0, q, rest, d, sl, hr _ _ g1 rfl, hr _ _ g2 rfl⟩
theorem Filled.okI {R R' : Addr → Obj → Prop} (M : Filled R) (hr : ∀ a o, R a o → okI o = true → R' a o) : Filled R' := ⟨M.1.okI hr, M.2.okI hr⟩
theorem MarkR.cls {R R' : Addr → Obj → Prop} {fm : Addr} {g : Int → Int} (M : MarkR R fm g) (hr : ∀ a o, R a o → o.cls ≠ .none → R' a o) : MarkR R' fm g := by
  obtain ⟨i, c, ct, pm, a0, tq, rest, d, s, hi, hg, m1, m2⟩ := M
  exact ⟨i, c, ct, pm, a0, tq, rest, d, s, hi, hg, hr _ _ m1 (by intro q; cases q), hr _ _ m2 (by intro q; cases q)⟩
noncomputable def T78 (n : Led1) : Prop := ∃ x r, (78, tabObj ⟨x :: r⟩) ∈ n
theorem T78.ok {n n' : Led1} (h : T78 n) (hr : ∀ p ∈ n, okD p.2 = true → p ∈ n') : T78 n' := by
  obtain ⟨x, r, h⟩ := h
  exact ⟨x, r, hr _ h rfl⟩
theorem T78.okJ {n n' : Led1} (h : T78 n) (hr : ∀ p ∈ n, okJ p.2 = true → p ∈ n') : T78 n' := by
  obtain ⟨x, r, h⟩ := h
  exact ⟨x, r, hr _ h rfl⟩
theorem T78.app {n : Led1} {ps : Array Value} {a b c : Value} (h : (78, tabObj (ps ++ #[a, b, c])) ∈ n) : T78 n := by
  obtain ⟨l⟩ := ps
  have e : ((⟨l⟩ : Array Value) ++ #[a, b, c]) = ⟨l ++ [a, b, c]⟩ := by simp
  rw [e] at h
  cases l with
  | nil => exact ⟨_, _, h⟩
  | cons x r => exact ⟨_, _, h⟩
theorem TabSt.okJ {R R' : Addr → Obj → Prop} (M : TabSt R) (hr : ∀ a o, R a o → okJ o = true → R' a o) : TabSt R' :=
  M.elim (fun x => .inl ⟨hr _ _ x.1 rfl, hr _ _ x.2 rfl⟩) fun x => .inr ⟨x.1.okI fun a o h ok => hr a o h (okI_j ok), x.2.okI fun a o h ok => hr a o h (okI_j ok)⟩
theorem grown_of {h₀ h : Heap} {L : Addr} {n : Led1} (N : News h₀ L h n) (t : TabSt (InL n)) (q : T78 n) : GrownAll [(47, 43), (75, 73), (82, 78)] h := by
  obtain ⟨x, r, q⟩ := q
  rcases t with ⟨t1, t2⟩ | ⟨⟨cK, PK, c, a, rr, m, _, _, _, g1, _⟩, ⟨c', a0, q', rest, d, sl, g2, _⟩⟩
  · exact ⟨.of N t1, .of N t2, .of N q, True.intro⟩
  · exact ⟨.of N g1, .of N g2, .of N q, True.intro⟩
section
variable {prog : Program} {w : World} {A : Around} {E : Value → Shared → Prop} {s : Shared} {env : Env} {h₀ : Heap} {x : Str} {body : List Stmt} {Q : Flow → Shared → Prop}
/-- a turn's end, the ledger an abstract list -/
noncomputable def AbsEnd (h₀ : Heap) (L : Addr) (x : Str) (m₀ : Str → Option Value) (n' : Led1) (Inv : Led1 → Prop) (s₁ : Shared) (f : Flow) (s₂ : Shared) : Prop :=
  match f with
  | .ret _ => False
  | .brk => False
  | _ => ∃ h' tk n'' m', s₂ = { s₁ with heap := h', toks := tk } ∧ Fr h₀ L h' m' ∧ (∀ y, y ≠ x → m' y = m₀ y) ∧ News h₀ L h' n'' ∧ (∀ p ∈ n', okD p.2 = true → p ∈ n'') ∧ Inv n''
theorem abs_loop {I : Addr} {fp : List Addr} {N : Nat} {P : Nat → Value → Prop} {St : Nat → Heap → Prop} {m₀ : Str → Option Value} {nn : Led1} (Inv Inv2 : Led1 → Prop) (hInv1 : ∀ n n₂, (∀ p ∈ n, p ∈ n₂) → Inv n → Inv n₂) (hInv2 : ∀ n n₂, (∀ p ∈ n, okJ p.2 = true → p ∈ n₂) → Inv2 n → Inv n₂)
    (W : Walks prog w A I fp [I] N P St) (hL : env.locals ∉ fp) (hI0 : h₀.get? I = none) (hIf : ∀ i h, St i h → ∃ o, h.get? I = some o ∧ okJ o = false) (hfp : ∀ i h b o, St i h → b ∈ fp → h.get? b = some o → okD o = true) (hst : St 0 s.heap)
    (F : Fr h₀ env.locals s.heap m₀) (N₀ : News h₀ env.locals s.heap nn) (hnI : ∀ p ∈ nn, p.1 ≠ I) (h0 : Inv nn)
    (turn : ∀ i v n' h tk, P i v → i < N → Inv n' → Fr h₀ env.locals h (fun y => if y = x then some v else m₀ y) → News h₀ env.locals h n' →
      wpAny (model prog w) A (execs body env) (AbsEnd h₀ env.locals x m₀ n' Inv2 { s with heap := h, toks := tk }) (fun _ _ => False) { s with heap := h, toks := tk })
    (done : ∀ n h tk (u : Option Value), Inv n → Fr h₀ env.locals h (fun y => if y = x then u else m₀ y) → News h₀ env.locals h n → Q .next { s with heap := h, toks := tk }) :
    LoopAtV prog w A h₀ env x body Q E (.ref I) s := by
  refine ⟨I, fp, [I], N, P, St, m₀, nn, fun _ m n => Inv n ∧ ∀ y, y ≠ x → m y = m₀ y, rfl, W, hL, ?_, fun p hp hm => hnI p hp (List.mem_singleton.mp hm), hst, F, N₀, ⟨h0, fun _ _ => rfl⟩, ?_, ?_⟩
  · intro b hb; rw [List.mem_singleton.mp hb]; exact hI0
  · rintro i v m₁ news₁ s₁ own ⟨hh', tk', rfl⟩ hin hP ⟨hi, hm⟩ hoff hown hat hall hst' F₁ N₁
    obtain ⟨oI, hoI, hokJ⟩ := hIf _ _ hst'
    have okown : ∀ p ∈ own, okD p.2 = true := fun p hp => hfp _ _ _ _ hst' (hown p hp) (hat p hp)
    have hmI : (I, oI) ∈ own := hall I (W.sub I (List.mem_cons_self ..)) hI0 oI hoI
    have em : (fun y => if y = x then some v else m₁ y) = fun y => if y = x then some v else m₀ y := by
      funext y
      by_cases q : y = x
      · simp [q]
      · simp only [if_neg q]; exact hm y q
    rw [em] at F₁
    refine wpAny_mono (turn i v (own ++ news₁) hh' tk' hP hin (hInv1 _ _ (fun p hp => List.mem_append_right _ hp) hi) F₁ N₁) (fun f s₂ p => ?_) fun _ _ e => e.elim
    have fin : ∀ {s₂ : Shared}, (∃ h' tk n'' m', s₂ = { s with heap := h', toks := tk } ∧ Fr h₀ env.locals h' m' ∧ (∀ y, y ≠ x → m' y = m₀ y) ∧ News h₀ env.locals h' n'' ∧ (∀ p ∈ own ++ news₁, okD p.2 = true → p ∈ n'') ∧ Inv2 n'') →
        LoopStepU h₀ env.locals [I] own (fun m n => Inv n ∧ ∀ y, y ≠ x → m y = m₀ y) { s with heap := hh', toks := tk' } .next s₂ := by
      rintro s₂ ⟨h', tk, n'', m', rfl, F', hm', N', hk, hi'⟩
      refine ⟨rfl, h', tk, m', n''.filter fun p => okJ p.2, rfl, F', fun p hp => ?_, fun p hp hq => ?_, hInv2 _ _ (fun p hp ok => List.mem_filter.mpr ⟨hp, ok⟩) hi', hm'⟩
      · rcases List.mem_append.mp hp with hp | hp
        · exact N' p (hk p (List.mem_append_left _ hp) (okown p hp))
        · exact N' p (List.mem_filter.mp hp).1
      · obtain ⟨h1, h2⟩ := List.mem_filter.mp hp
        have e1 := (N' p h1).1
        have e2 := (N' _ (hk _ (List.mem_append_left _ hmI) (okown _ hmI))).1
        rw [List.mem_singleton.mp hq, e2] at e1
        have e3 := Option.some.inj e1
        rw [← e3, hokJ] at h2; cases h2
    cases f with
    | ret v => exact p.elim
    | brk => exact p.elim
    | next => exact .next (fin p)
    | cont => exact .cont (fin p)
  · rintro h' tk m' news' F' N' _ ⟨hi, hm⟩
    have em : m' = fun y => if y = x then m' x else m₀ y := by
      funext y
      by_cases q : y = x
      · simp [q]
      · simp only [if_neg q]; exact hm y q
    rw [em] at F'
    exact done news' h' tk (m' x) hi F' N'
/-- over a made list -/
theorem abs_list {l : Addr} {its : Array Value} {e : Nat} {m₀ : Str → Option Value} {nn : Led1} (Inv Inv2 : Led1 → Prop) (hInv1 : ∀ n n₂, (∀ p ∈ n, p ∈ n₂) → Inv n → Inv n₂) (hInv2 : ∀ n n₂, (∀ p ∈ n, okJ p.2 = true → p ∈ n₂) → Inv2 n → Inv n₂) (hh : A.handled = none)
    (F : Fr h₀ env.locals s.heap m₀) (N₀ : News h₀ env.locals s.heap nn) (hl : (l, listOf its e) ∈ nn) (h0 : Inv nn)
    (turn : ∀ v n' h tk, v ∈ its → Inv n' → Fr h₀ env.locals h (fun y => if y = x then some v else m₀ y) → News h₀ env.locals h n' →
      wpAny (model prog w) A (execs body env) (AbsEnd h₀ env.locals x m₀ n' Inv2 { s with heap := h, toks := tk }) (fun _ _ => False) { s with heap := h, toks := tk })
    (done : ∀ n h tk (u : Option Value), Inv n → Fr h₀ env.locals h (fun y => if y = x then u else m₀ y) → News h₀ env.locals h n → Q .next { s with heap := h, toks := tk }) :
    wpAny (model prog w) A (pyIter (.ref l)) (fun it s₂ => LoopAtV prog w A h₀ env x body Q E it s₂) E s := by
  have hL : s.heap.IsList l its := ⟨_, (N₀ _ hl).1, rfl, _, rfl⟩
  refine wpAny_pyIter_list hL ?_
  have sz : ∀ p ∈ nn, p.1 ≠ s.heap.objs.size := fun p hp => Nat.ne_of_lt (Heap.lt_size (N₀ p hp).1)
  have up : ∀ b o, s.heap.get? b = some o → (s.heap.push { cls := .type "list_iterator", data := .fields #[.ref l, .int 0 0] }).get? b = some o := fun b o e => Heap.get?_push_of_some _ e
  have hI₀ : h₀.get? s.heap.objs.size = none := by
    cases q : h₀.get? s.heap.objs.size with
    | none => rfl
    | some o => exact absurd (Heap.lt_size (F.keep _ _ q)) (Nat.lt_irrefl _)
  refine abs_loop (s := { s with heap := s.heap.push { cls := .type "list_iterator", data := .fields #[.ref l, .int 0 0] } }) Inv Inv2 hInv1 hInv2 (Walks.list hh s.heap.objs.size l (sz _ hl) its) ?_ hI₀ ?_ ?_ ⟨⟨_, Heap.get?_push_size _ rfl, rfl, rfl⟩, hL.push _⟩ (F.keeps up) (N₀.grown up) sz h0
    (fun i v n' h tk hv _ hi F₁ N₁ => turn v n' h tk (Array.mem_of_getElem? hv) hi F₁ N₁) done
  · intro hm
    rcases List.mem_cons.mp hm with q | q
    · exact Nat.ne_of_lt F.ns.lt q
    · exact (N₀ _ hl).2.1 (List.mem_singleton.mp q).symm
  · rintro i h ⟨⟨o, e1, e2, e3⟩, _⟩
    exact ⟨o, e1, by unfold okJ; rw [e2]; rfl⟩
  · rintro i h b o ⟨⟨oi, e1, e2, e3⟩, ol, f1, f2, nl, f3⟩ hb ho
    rcases List.mem_cons.mp hb with rfl | hb
    · rw [e1] at ho; cases ho; unfold okD; rw [e3]
    · rw [List.mem_singleton.mp hb, f1] at ho; cases ho; unfold okD; rw [f3]
/-- over a range from nought -/
theorem abs_range {r : Addr} {n : Nat} {t1 t2 t3 : Tok} {m₀ : Str → Option Value} {nn : Led1} (Inv Inv2 : Led1 → Prop) (hInv1 : ∀ n n₂, (∀ p ∈ n, p ∈ n₂) → Inv n → Inv n₂) (hInv2 : ∀ n n₂, (∀ p ∈ n, okJ p.2 = true → p ∈ n₂) → Inv2 n → Inv n₂) (hh : A.handled = none)
    (F : Fr h₀ env.locals s.heap m₀) (N₀ : News h₀ env.locals s.heap nn) (hr : IsRange s.heap r 0 (n : Int) 1 t1 t2 t3) (hn : n < 1000) (h0 : Inv nn)
    (turn : ∀ (k : Nat) t n' h tk, k < n → Inv n' → Fr h₀ env.locals h (fun y => if y = x then some (.int (k : Int) t) else m₀ y) → News h₀ env.locals h n' →
      wpAny (model prog w) A (execs body env) (AbsEnd h₀ env.locals x m₀ n' Inv2 { s with heap := h, toks := tk }) (fun _ _ => False) { s with heap := h, toks := tk })
    (done : ∀ n h tk (u : Option Value), Inv n → Fr h₀ env.locals h (fun y => if y = x then u else m₀ y) → News h₀ env.locals h n → Q .next { s with heap := h, toks := tk }) :
    wpAny (model prog w) A (pyIter (.ref r)) (fun it s₂ => LoopAtV prog w A h₀ env x body Q E it s₂) E s := by
  have hsz : Builtin.Range.rangeSize 0 (n : Int) 1 = (n : Int) := by rw [rangeSize_nat]; simp
  refine wpAny_pyIter_range hr (small_one (by decide) (by decide) (by omega) (by omega)) ?_
  rw [hsz]
  have sz : ∀ p ∈ nn, p.1 ≠ s.heap.objs.size := fun p hp => Nat.ne_of_lt (Heap.lt_size (N₀ p hp).1)
  have up : ∀ b o, s.heap.get? b = some o → (s.heap.push { cls := .type "range_iterator", data := .fields #[rawInt 0, rawInt (n : Int), rawInt 1] }).get? b = some o := fun b o e => Heap.get?_push_of_some _ e
  have hI₀ : h₀.get? s.heap.objs.size = none := by
    cases q : h₀.get? s.heap.objs.size with
    | none => rfl
    | some o => exact absurd (Heap.lt_size (F.keep _ _ q)) (Nat.lt_irrefl _)
  refine abs_loop (s := { s with heap := s.heap.push { cls := .type "range_iterator", data := .fields #[rawInt 0, rawInt (n : Int), rawInt 1] } }) Inv Inv2 hInv1 hInv2 (LCg.range_walks hh 0 n) ?_ hI₀ ?_ ?_ (by show IsRangeIter _ _ _ _ _; simpa using Heap.get?_push_size _ rfl) (F.keeps up) (N₀.grown up) sz h0
    (fun i v n' h tk hv hi' hi F₁ N₁ => by
      obtain ⟨t, rfl⟩ := hv
      rw [Int.zero_add] at F₁
      exact turn i t n' h tk hi' hi F₁ N₁) done
  · intro hm; exact Nat.ne_of_lt F.ns.lt (List.mem_singleton.mp hm)
  · intro i h st
    exact ⟨_, st, rfl⟩
  · intro i h b o st hb ho
    rw [List.mem_singleton.mp hb] at ho
    have st' : h.get? s.heap.objs.size = some _ := st
    rw [st'] at ho; cases ho; rfl
end
section
variable {w : World} {pT : Program} {lT : List Str} {mean : ExcName → Option Value} {mg mb : Str → Option Value} {dp un : Nat} {gd : Option (List Code)} {cn : Str} {cs : Scope} {a : Addr} {ccd : Value} {cl : List (Str × Addr)} {outer : List Env} {A₀ : Around} {base h₀ : Heap} {L : Addr} {m : Str → Option Value} {s : Shared} {Q E : Value → Shared → Prop}
  {l : Addr} {vs : List Value} {ns : List Int} {e : Nat} {nw : Led1}
theorem row_any {mo : Int} {tm : Tok} (B : Below A₀ base outer h₀) (F : Fr h₀ L s.heap m) (X : (hdk.heap_1 w.params).In h₀) (N : News h₀ L s.heap nw) (T : Top pT lT mean mg mb h₀) (hk : cs.kind = .function)
    (hl : (l, listOf (List.toArray vs) e) ∈ nw) (hI : IntsAre vs ns) (hlen : 2 ≤ ns.length ∧ ns.length ≤ 6) (hd : dp + 3 < recursionLimit) (hu : un + 16 < cLine)
    (h : ∀ D k us r h' tk', Fr h₀ L h' m → News h₀ L h' ((D, listOf (List.toArray us) k) :: nw) → (∀ p ∈ nw, p.1 < D) → IntsAre us r → Maj r mo → 5 ≤ r.length → r.length ≤ 13 → Q (.ref D) { s with heap := h', toks := tk' }) :
    wpAny (model PySem.Challenge.rw_mr0138_02.prog w) (ktrTop dp un gd cn cs L a ccd cl outer) (call (.ref 71) [.ref l, .int mo tm]) Q E s := by
  refine row_K w pT lT mean mg mb dp un gd cn cs a ccd cl outer A₀ base h₀ L m s Q E l vs ns e mo tm nw B F X (fun p hp => ?_) T hk hI hlen.2 hd hu fun D k us h' tk' F' N' l1 hi => ?_
  · rcases List.mem_cons.mp hp with rfl | hp
    · exact N _ hl
    · exact N p hp
  · have el : (rowL mo ns ++ [mo]).length = 2 * ns.length + 1 := by rw [List.length_append, rowL_len]; rfl
    refine h D k us _ h' tk' F' (fun p hp => ?_) (fun p hp => l1 p (.tail _ hp)) hi (row_maj mo ns) (by omega) (by omega)
    rcases List.mem_cons.mp hp with rfl | hp
    · exact N' _ (.head _)
    · exact N' p (.tail _ (.tail _ hp))
theorem red_any {mo : Int} {z : Addr} {t1' t2' : Tok} {k' : Nat} (B : Below A₀ base outer h₀) (F : Fr h₀ L s.heap m) (X : (hdk.heap_1 w.params).In h₀) (N : News h₀ L s.heap nw) (T : Top pT lT mean mg mb h₀) (hk : cs.kind = .function)
    (hl : (l, listOf (List.toArray vs) e) ∈ nw) (hz : (z, listOf #[.int 0 t1', .int 0 t2'] k') ∈ nw) (hI : IntsAre vs ns) (hM : Maj ns mo) (hd : dp + 3 < recursionLimit) (hu : un + 16 < cLine)
    (h : ∀ D k c t1 t2 h' tk', Fr h₀ L h' m → News h₀ L h' ((D, listOf #[.int mo t1, .int c t2] k) :: nw) → (∀ p ∈ nw, p.1 < D) → Q (.ref D) { s with heap := h', toks := tk' }) :
    wpAny (model PySem.Challenge.rw_mr0138_02.prog w) (ktrTop dp un gd cn cs L a ccd cl outer) (call (.ref 57) [.ref 64, .ref l, .ref z]) Q E s := by
  have hne : ns ≠ [] := by rintro rfl; unfold Maj at hM; simp at hM
  refine red_K w pT lT mean mg mb dp un gd cn cs a ccd cl outer A₀ base h₀ L m s Q E l z vs ns e k' t1' t2' nw B F X (fun p hp => ?_) T hk hI hne hd hu fun D k c t1 t2 h' tk' F' N' l1 => ?_
  · rcases List.mem_cons.mp hp with rfl | hp
    · exact N _ hl
    rcases List.mem_cons.mp hp with rfl | hp
    · exact N _ hz
    · exact N p hp
  · rw [vote_holds hM] at N'
    refine h D k c t1 t2 h' tk' F' (fun p hp => ?_) fun p hp => l1 p (.tail _ (.tail _ hp))
    rcases List.mem_cons.mp hp with rfl | hp
    · exact N' _ (.head _)
    · exact N' p (.tail _ (.tail _ (.tail _ hp)))
theorem ints_mid {us : List Value} {ns ns' : List Int} {mo : Int} {i : Nat} {v : Value} (h1 : IntsAre us ns') (h2 : ns'.Perm ns) (h3 : ns'.Pairwise (· ≤ ·)) (hM : Maj ns mo) (he : i = (ns.length - 1) / 2 ∨ i = ns.length / 2) (hv : us[i]? = some v) : ∃ t, v = .int mo t := by
  have hc : ns'.count mo = ns.count mo := h2.count_eq _
  have hl : ns'.length = ns.length := h2.length_eq
  have hM' : Maj ns' mo := by unfold Maj at *; rw [hc, hl]; exact hM
  have hi : i < ns'.length := by
    obtain ⟨h4, _⟩ := List.getElem?_eq_some_iff.mp hv
    rw [← h1.length]; exact h4
  obtain ⟨t, ht⟩ := h1.get i ns'[i] (List.getElem?_eq_getElem hi)
  rw [hv] at ht
  rw [sorted_maj h3 hM' hi (by rw [hl]; exact he)] at ht
  exact ⟨t, Option.some.inj ht⟩
theorem low_ints {mo : Int} (B : Below A₀ base outer h₀) (F : Fr h₀ L s.heap m) (X : (hdk.heap_1 w.params).In h₀) (N : News h₀ L s.heap nw) (T : Top pT lT mean mg mb h₀) (hk : cs.kind = .function) (XF : InF w h₀)
    (hl : (l, listOf (List.toArray vs) e) ∈ nw) (hI : IntsAre vs ns) (hM : Maj ns mo) (h64 : ns.length < 64) (hd : dp ≤ 470) (hu : un ≤ 140)
    (h : ∀ t h' tk', Fr h₀ L h' m → News h₀ L h' nw → Q (.int mo t) { s with heap := h', toks := tk' }) :
    wpAny (model PySem.Challenge.rw_mr0138_02.prog w) (ktrTop dp un gd cn cs L a ccd cl outer) (call (.ref 34) [.ref l]) Q E s := by
  refine low_any B F X N T hk XF hl (sort_ints hl hI h64) ?_ h64 hd hu fun us v h' tk' ⟨ns', a1, a2, a3⟩ hv F' N' => ?_
  · cases ns with
    | nil => unfold Maj at hM; simp at hM
    | cons => simp
  · obtain ⟨t, rfl⟩ := ints_mid a1 a2 a3 hM (.inl rfl) hv
    exact h t h' tk' F' N'
theorem high_ints {mo : Int} (B : Below A₀ base outer h₀) (F : Fr h₀ L s.heap m) (X : (hdk.heap_1 w.params).In h₀) (N : News h₀ L s.heap nw) (T : Top pT lT mean mg mb h₀) (hk : cs.kind = .function) (XF : InF w h₀)
    (hl : (l, listOf (List.toArray vs) e) ∈ nw) (hI : IntsAre vs ns) (hM : Maj ns mo) (h64 : ns.length < 64) (hd : dp ≤ 470) (hu : un ≤ 140)
    (h : ∀ t h' tk', Fr h₀ L h' m → News h₀ L h' nw → Q (.int mo t) { s with heap := h', toks := tk' }) :
    wpAny (model PySem.Challenge.rw_mr0138_02.prog w) (ktrTop dp un gd cn cs L a ccd cl outer) (call (.ref 41) [.ref l]) Q E s := by
  refine high_any B F X N T hk XF hl (sort_ints hl hI h64) ?_ h64 hd hu fun us v h' tk' ⟨ns', a1, a2, a3⟩ hv F' N' => ?_
  · cases ns with
    | nil => unfold Maj at hM; simp at hM
    | cons => simp
  · obtain ⟨t, rfl⟩ := ints_mid a1 a2 a3 hM (.inr rfl) hv
    exact h t h' tk' F' N'
theorem mid_any {fm : Addr} {g : Int → Int} {mo : Int} (B : Below A₀ base outer h₀) (F : Fr h₀ L s.heap m) (X : (hdk.heap_1 w.params).In h₀) (N : News h₀ L s.heap nw) (T : Top pT lT mean mg mb h₀) (hk : cs.kind = .function) (XF : InF w h₀)
    (hl : (l, listOf (List.toArray vs) e) ∈ nw) (hI : IntsAre vs ns) (h2 : 2 ≤ ns.length) (h64 : ns.length < 64) (hd : dp ≤ 450) (hu : un ≤ 100) (hM : MarkR (InL nw) fm g) (hT : TabSt (InL nw))
    (h : ∀ D a b t t' h' tk' n1, Fr h₀ L h' m → News h₀ L h' ((D, listOf #[.int a t, .int b t'] 2) :: n1) → (∀ p ∈ nw, okD p.2 = true → p ∈ n1) → Filled (InL n1) → (∀ p ∈ n1, p.1 ≠ D) →
      (Maj ns mo → a = g mo ∧ b = g mo) → (Half ns mo → a = g mo ∨ b = g mo) → Q (.ref D) { s with heap := h', toks := tk' }) :
    wpAny (model PySem.Challenge.rw_mr0138_02.prog w) (ktrTop dp un gd cn cs L a ccd cl outer) (call (.ref 76) [.ref l, .ref fm]) Q E s :=
  mid_K w pT lT mean mg mb dp un gd cn cs a ccd cl outer A₀ base h₀ L m s Q E l fm vs ns e g mo nw B F X N T hk XF hl hI h2 h64 hd hu hM hT h
end
theorem pack {h₀ h : Heap} {L DR : Addr} {m : Str → Option Value} {nw : Led1} {us : List Value} {r : List Int} {mo : Int} {k : Nat} {G : Prop} (_F : Fr h₀ L h m) (N : News h₀ L h nw) (_hr : m (Str.ofString "row") = some (.ref DR)) (hm : (DR, listOf (List.toArray us) k) ∈ nw) (hI : IntsAre us r) (hM : Maj r mo) (h5 : 5 ≤ r.length) (h13 : r.length ≤ 13)
    (t43 : ((43 : Addr), tabObj #[]) ∈ nw) (t73 : ((73 : Addr), tabObj #[]) ∈ nw) (t78 : ((78 : Addr), tabObj #[]) ∈ nw)
    (go : ∀ D' us' k' r' nn, D' = DR → us' = us → k' = k → r' = r → News h₀ L h nn → (D', listOf (List.toArray us') k') ∈ nn → ((43 : Addr), tabObj #[]) ∈ nn → ((73 : Addr), tabObj #[]) ∈ nn → ((78 : Addr), tabObj #[]) ∈ nn → IntsAre us' r' → Maj r' mo → 5 ≤ r'.length → r'.length ≤ 13 → G) : G := go DR us k r nw rfl rfl rfl rfl N hm t43 t73 t78 hI hM h5 h13
/-- a mark out of the four -/
theorem mark_in {n : Led1} {f0 f1 f2 f3 : Addr} {v : Value} (hv : v ∈ (#[.ref f0, .ref f1, .ref f2, .ref f3] : Array Value)) (h0 : MarkR (InL n) f0 (markG 0)) (h1 : MarkR (InL n) f1 (markG 1)) (h2 : MarkR (InL n) f2 (markG 2)) (h3 : MarkR (InL n) f3 (markG 3)) :
    ∃ f g, v = .ref f ∧ MarkR (InL n) f g := by
  simp only [List.mem_toArray, List.mem_cons, List.not_mem_nil, or_false] at hv
  rcases hv with rfl | rfl | rfl | rfl
  · exact ⟨_, _, rfl, h0⟩
  · exact ⟨_, _, rfl, h1⟩
  · exact ⟨_, _, rfl, h2⟩
  · exact ⟨_, _, rfl, h3⟩
theorem half_take {r : List Int} {mo : Int} (h : Maj r mo) : Half (r.take (r.length - 1)) mo := by
  unfold Half; unfold Maj at h
  have e : r = r.take (r.length - 1) ++ r.drop (r.length - 1) := (List.take_append_drop _ _).symm
  have hl : (r.drop (r.length - 1)).length ≤ 1 := by rw [List.length_drop]; omega
  have hc : (r.drop (r.length - 1)).count mo ≤ 1 := Nat.le_trans List.count_le_length hl
  have h1 : r.count mo = (r.take (r.length - 1)).count mo + (r.drop (r.length - 1)).count mo := by
    conv => lhs; rw [e]
    rw [List.count_append]
  rw [List.length_take]
  omega
theorem obj_ne {o : Obj} {ps : Array Value} (h : o.cls ≠ .none) : o ≠ tabObj ps := fun q => h (by rw [q])
section
variable {M : Model} {A : Around} {E : Value → Shared → Prop} {s : Shared} {h₀ : Heap} {L a : Addr} {m mg mb : Str → Option Value} {cn : Str} {cs : Scope} {n : Led1} {Q : Value → Shared → Prop}
  {p : Program} {loose : List Str} {mean : ExcName → Option Value} {params : Arguments} {body : PySem.Expr} {scope : Scope} {pos : Pos} {ps : Array Value}
/-- a lambda of law's: its code goes into the table 78 -/
theorem lam_law {i : Nat} (F : Fr h₀ L s.heap m) (N : News h₀ L s.heap n) (T : Top p loose mean mg mb h₀) (C : CodeHd h₀ 82 78) (t78 : (78, tabObj ps) ∈ n) (hok : TriplesOk ps.toList) (hnf : codeAmong pos ps.toList = none)
    (hcl : closureFor scope (envX cn cs L a (.ref 82) []) = pure []) (hq : (envX cn cs L a (.ref 82) []).qual ++ Str.ofString "<lambda>" = Str.ofString "law.<locals>.<lambda>") (hi : i < 4) (hlam : markE i = .Lambda params body scope pos) (hd : defaultsOf params (envX cn cs L a (.ref 82) []) = ([], []))
    (h : ∀ f n1 h' tk' c', Fr h₀ L h' m → News h₀ L h' n1 → MarkR (InL n1) f (markG i) → (78, tabObj (ps ++ #[rawInt pos.line, rawInt pos.col, .ref c'])) ∈ n1 → (∀ q ∈ n, (q.1 ≠ 78 ∨ q.2 ≠ tabObj ps) → q ∈ n1) → Q (.ref f) { s with heap := h', toks := tk' }) :
    wpAny M A (eval (.Lambda params body scope pos) (envX cn cs L a (.ref 82) [])) Q E s := by
  refine kla_eval hd ?_
  rw [hq]
  have hm := N _ t78
  have hgs := T.g.keeps F.keep
  obtain ⟨bm, ob, b1, b2, b3, b4, b5, b6⟩ := T.bmain
  have hgP : mainGlobals ≠ 78 := fun q => by
    obtain ⟨o, es, ep, e, hd, _⟩ := hgs
    rw [q, hm.1] at e; cases e; cases hd
  have hbP : bm ≠ 78 := fun q => by
    have e := F.keep _ _ b3
    rw [q, hm.1] at e; cases e; cases b4
  have hbG : bm ≠ mainGlobals := fun q => by
    obtain ⟨o, es, ep, e, hd, _⟩ := T.g
    rw [q, e] at b3; cases b3; rw [hd] at b6; cases b6
  rw [makeFunction_eq]
  simp only [List.zip_nil_right, List.filterMap_nil, List.isEmpty_nil, if_true, pure_bind]
  refine lam_tail (c := 82) (P := 78) (ps := ps) (mg := mg) hcl hgs rfl (C.keeps F.keep) hm.1 hok hnf hgP ⟨bm, ob, b1, b2, hbG, hbP, F.keep _ _ b3, b4, b5, b6⟩ fun c' ctv a0 q rest d sl h' tk hx hge hlt hc' htb => ?_
  have up : ∀ b o, h'.get? b = some o → (h'.push (kla_obj "<lambda>" (Str.ofString "law.<locals>.<lambda>") params body scope [] ((mg "__name__").getD .none) c' ctv)).get? b = some o := fun b o e => Heap.get?_push_of_some _ e
  have hx' : ∀ b ob, b ≠ 78 → s.heap.get? b = some ob → (h'.push (kla_obj "<lambda>" (Str.ofString "law.<locals>.<lambda>") params body scope [] ((mg "__name__").getD .none) c' ctv)).get? b = some ob := fun b ob hb e => up _ _ (hx b ob hb e)
  have F' := fr_ext F hm.2.1.symm hm.2.2 hx'
  have hsz : ∀ b : Addr, s.heap.objs.size ≤ b → s.heap.get? b = none := fun b hb => Heap.get?_none_of_le hb
  refine h h'.objs.size ((h'.objs.size, kla_obj "<lambda>" (Str.ofString "law.<locals>.<lambda>") params body scope [] ((mg "__name__").getD .none) c' ctv) :: (c', codeO (Str.ofString "law.<locals>.<lambda>") a0 q rest d sl) :: (78, tabObj (ps ++ #[rawInt pos.line, rawInt pos.col, .ref c'])) :: n.filter fun p => p.1 != 78) _ tk c' F' ?_ ?_ (.tail _ (.tail _ (.head _))) ?_
  · intro p hp
    rcases List.mem_cons.mp hp with rfl | hp
    · exact fresh_new F (Heap.get?_push_size _ rfl) (hsz _ (Nat.le_trans hge (Nat.le_of_lt hlt)))
    rcases List.mem_cons.mp hp with rfl | hp
    · exact fresh_new F (up _ _ hc') (hsz _ hge)
    rcases List.mem_cons.mp hp with rfl | hp
    · exact ⟨up _ _ htb, hm.2⟩
    · obtain ⟨h1, h2⟩ := List.mem_filter.mp hp
      have np : p.1 ≠ 78 := by simpa using h2
      exact ⟨hx' _ _ np (N p h1).1, (N p h1).2⟩
  · refine ⟨i, c', ctv, (mg "__name__").getD .none, a0, q, rest, d, sl, hi, rfl, ?_, .tail _ (.head _)⟩
    have e : lamD (markE i) "law.<locals>.<lambda>" [] c' ctv ((mg "__name__").getD .none) = kla_fn "<lambda>" (Str.ofString "law.<locals>.<lambda>") params body scope [] ((mg "__name__").getD .none) (.ref c') ctv := by rw [hlam]; rfl
    rw [e]; exact .head _
  · intro p hp hne
    refine .tail _ (.tail _ (.tail _ (List.mem_filter.mpr ⟨hp, ?_⟩)))
    have np : p.1 ≠ 78 := fun q => by
      rcases hne with h1 | h1
      · exact h1 q
      · have e1 := (N p hp).1
        rw [q, hm.1] at e1
        exact h1 (Option.some.inj e1).symm
    simpa using np
end
end Mine
end
section
open PySem PySem.W PyProof.Rows
namespace Mine
theorem kf_ghost {w : World} {h : Heap} (X : (KF w.params).In h) : (KF w.params).In (ghostOf h [(47, 43), (75, 73), (82, 78)]) := fun a o e => ghost_ne (X a o e) fun hm => by
  simp only [List.map_cons, List.map_nil, List.mem_cons, List.not_mem_nil, or_false] at hm
  have k43 : (KF w.params).lookup 43 = none := by kernel_rfl
  have k73 : (KF w.params).lookup 73 = none := by kernel_rfl
  have k78 : (KF w.params).lookup 78 = none := by kernel_rfl
  rcases hm with rfl | rfl | rfl
  · rw [k43] at e; cases e
  · rw [k73] at e; cases e
  · rw [k78] at e; cases e
/-- the main module's names as written -/
noncomputable def glEs (P : Params) : Array DictEntry := match (hdk.heap_1 P).lookup 3 with
  | some o => match o.data with | .dict es _ => es | _ => #[]
  | none => #[]
theorem nameObj_of {w : World} {pT : Program} {lT : List Str} {mean : ExcName → Option Value} {mg mb : Str → Option Value} {h : Heap} (T : Top pT lT mean mg mb h) (X : (hdk.heap_1 w.params).In h) : NameObj h := by
  refine ⟨mg, mb, T.g, ?_, T.b, ?_, ?_⟩
  rotate_left
  · exact (T.builtins _ (by decide)).trans PyProof.Rows.boot_object
  · exact (T.builtins _ (by decide)).trans (by decide +kernel)
  obtain ⟨o, es, ep, h1, h2, h3, h4⟩ := T.g
  have k3 : (hdk.heap_1 w.params).lookup 3 = some (((hdk.heap_1 w.params).lookup 3).getD default) := by kernel_rfl
  have e3 : (((hdk.heap_1 w.params).lookup 3).getD default).data = .dict (glEs w.params) (match (((hdk.heap_1 w.params).lookup 3).getD default).data with | .dict _ n => n | _ => 0) := by kernel_rfl
  have q := X 3 _ k3
  have q1 : h.get? 3 = some o := h1
  rw [q] at q1
  have q2 := Option.some.inj q1
  rw [q2, h2] at e3
  injection e3 with e4 _
  rw [← h4, e4]
  kernel_rfl
/-- the runs' written part, kept out of sight -/
structure InG (w : World) (h : Heap) : Prop where
  out : (KF w.params).In h
section
variable {w : World} {pT : Program} {lT : List Str} {mean : ExcName → Option Value} {mg mb : Str → Option Value} {dp un : Nat} {gd : Option (List Code)} {cn : Str} {cs : Scope} {a : Addr} {ccd : Value} {cl : List (Str × Addr)} {outer : List Env} {A₀ : Around} {base h₀ : Heap} {L : Addr} {m : Str → Option Value} {s : Shared} {Q E : Value → Shared → Prop}
  {l : Addr} {vs : List Value} {ns : List Int} {e : Nat} {nw : Led1}
theorem mid_maj {fm : Addr} {g : Int → Int} {mo : Int} (B : Below A₀ base outer h₀) (F : Fr h₀ L s.heap m) (X : (hdk.heap_1 w.params).In h₀) (N : News h₀ L s.heap nw) (T : Top pT lT mean mg mb h₀) (hk : cs.kind = .function) (XF : InF w h₀)
    (hl : (l, listOf (List.toArray vs) e) ∈ nw) (hI : IntsAre vs ns) (hMj : Maj ns mo) (h2 : 2 ≤ ns.length) (h64 : ns.length < 64) (hd : dp ≤ 450) (hu : un ≤ 100) (hM : MarkR (InL nw) fm g) (hT : TabSt (InL nw))
    (h : ∀ D t t' h' tk' n1, Fr h₀ L h' m → News h₀ L h' n1 → (D, listOf #[.int (g mo) t, .int (g mo) t'] 2) ∈ n1 → (∀ p ∈ nw, okD p.2 = true → p ∈ n1) → Filled (InL n1) → Q (.ref D) { s with heap := h', toks := tk' }) :
    wpAny (model PySem.Challenge.rw_mr0138_02.prog w) (ktrTop dp un gd cn cs L a ccd cl outer) (call (.ref 76) [.ref l, .ref fm]) Q E s :=
  mid_any (mo := mo) B F X N T hk XF hl hI h2 h64 hd hu hM hT fun D a b t t' h' tk' n1 F' N' k' f' _ hj _ => by
    obtain ⟨rfl, rfl⟩ := hj hMj
    exact h D t t' h' tk' _ F' N' (.head _) (fun p hp ok => .tail _ (k' p hp ok)) (f'.ok fun a o h _ => .tail _ h)
theorem mid_half {fm : Addr} {g : Int → Int} {mo : Int} (B : Below A₀ base outer h₀) (F : Fr h₀ L s.heap m) (X : (hdk.heap_1 w.params).In h₀) (N : News h₀ L s.heap nw) (T : Top pT lT mean mg mb h₀) (hk : cs.kind = .function) (XF : InF w h₀)
    (hl : (l, listOf (List.toArray vs) e) ∈ nw) (hI : IntsAre vs ns) (hMj : Half ns mo) (h2 : 2 ≤ ns.length) (h64 : ns.length < 64) (hd : dp ≤ 450) (hu : un ≤ 100) (hM : MarkR (InL nw) fm g) (hT : TabSt (InL nw))
    (h : ∀ D a b t t' h' tk' n1, a = g mo ∨ b = g mo → Fr h₀ L h' m → News h₀ L h' n1 → (D, listOf #[.int a t, .int b t'] 2) ∈ n1 → (∀ p ∈ nw, okD p.2 = true → p ∈ n1) → Filled (InL n1) → Q (.ref D) { s with heap := h', toks := tk' }) :
    wpAny (model PySem.Challenge.rw_mr0138_02.prog w) (ktrTop dp un gd cn cs L a ccd cl outer) (call (.ref 76) [.ref l, .ref fm]) Q E s :=
  mid_any (mo := mo) B F X N T hk XF hl hI h2 h64 hd hu hM hT fun D a b t t' h' tk' n1 F' N' k' f' _ _ hh => h D a b t t' h' tk' _ (hh hMj) F' N' (.head _) (fun p hp ok => .tail _ (k' p hp ok)) (f'.ok fun a o h _ => .tail _ h)
theorem int_item {prog : Program} {A : Around} {value slice : PySem.Expr} {k : Int} {u : Tok}
    (N : News h₀ L s.heap nw) (hl : (l, listOf (List.toArray vs) e) ∈ nw) (hI : IntsAre vs ns) (h0 : 0 ≤ k) (hk : k.toNat < ns.length) (hz : ns.length < 64) (h : ∀ t, Q (.int (ns.getD k.toNat 0) t) s)
    (hs : subscripted slice false (.ref l) (.int k u) = operate [.ref l, .int k u] (getItem (.ref l) (.int k u)) := by with_unfolding_all rfl) :
    wpAny (model prog w) A (subscriptTail value slice (.ref l) (.int k u)) Q E s :=
  med_item N hl h0 (by rw [hI.length]; exact hk) (by rw [hI.length]; exact hz) (fun v hv => by
    obtain ⟨t, ht⟩ := hI.get k.toNat ns[k.toNat] (List.getElem?_eq_getElem hk)
    rw [ht] at hv
    have e : ns.getD k.toNat 0 = ns[k.toNat] := by rw [List.getD_eq_getElem?_getD, List.getElem?_eq_getElem hk]; rfl
    rw [← Option.some.inj hv, ← e]; exact h t) hs
end
theorem AbsEnd.of {h₀ : Heap} {L : Addr} {x : Str} {m₀ : Str → Option Value} {n' : Led1} {Inv : Led1 → Prop} {s₁ s₂ : Shared}
    (h : ∃ h' tk n'' m', s₂ = { s₁ with heap := h', toks := tk } ∧ Fr h₀ L h' m' ∧ (∀ y, y ≠ x → m' y = m₀ y) ∧ News h₀ L h' n'' ∧ (∀ p ∈ n', okD p.2 = true → p ∈ n'') ∧ Inv n'') : AbsEnd h₀ L x m₀ n' Inv s₁ .next s₂ := h
theorem maj_cut {r : List Int} {mo : Int} {k : Nat} (h : Maj r mo) (hk : k + 1 < r.length) (hne : r.getD (k : Int).toNat 0 ≠ r.getD ((k : Int) + 1).toNat 0) : Maj (r.take (k : Int).toNat ++ r.drop ((k : Int) + 2).toNat) mo := by
  have e1 : ((k : Int) + 1).toNat = k + 1 := by omega
  have e2 : ((k : Int) + 2).toNat = k + 2 := by omega
  rw [e1, Int.toNat_natCast, List.getD_eq_getElem?_getD, List.getD_eq_getElem?_getD, List.getElem?_eq_getElem (by omega), List.getElem?_eq_getElem hk] at hne
  rw [e2, Int.toNat_natCast]
  exact maj_without h hk hne
/- hF: the written part once more, in a form that the quick looks leave as it stands: the head makes no twin of it (a twin is a megabyte, and the proof never uses it) -/
theorem dec_self : instDecidableEqStr = instDecidableEqStr := rfl
inductive Told : (Params → Frag) → Prop where
  | mk (x : Params → Frag) : Told x
def Told.frag {x : Params → Frag} (_ : Told x) : Params → Frag := x
noncomputable def hF : Params → Frag :=
  (fun (_ : instDecidableEqStr = instDecidableEqStr) (P : Params) => Told.frag (x := ?x) (by have h := Told.mk hdk.heap_1; unfold hdk.heap_1 at h; exact h) P) dec_self
structure Guard : Prop where
structure GuardM : Prop where
theorem nin_half {prog : Program} {w : World} {A : Around} {E : Value → Shared → Prop} {s : Shared} {l : Addr} {x a b : Int} {t t' u : Tok} {Q : Value → Shared → Prop} (hl : s.heap.IsList l #[.int a t, .int b t']) (hab : a = x ∨ b = x) (h : Q (.bool false) s) :
    wpAny (model prog w) A (compareOp .NotIn (.int x u) (.ref l)) Q E s := by
  refine notin_list_ints (vs := [.int a t, .int b t']) (ns := [a, b]) hl (.cons _ _ (.cons _ _ .nil)) ?_
  rcases hab with rfl | rfl <;> simpa using h
local macro_rules | `(tactic| walk_at "exec For Name List cons nil") => `(tactic| refine Halt.to ?_)
local macro_rules | `(tactic| walk_at "eval Lambda") => `(tactic| refine Halt.to ?_)
local macro_rules | `(tactic| walk_at "pyIter ref") => `(tactic| refine Halt.to ?_)
local macro_rules | `(tactic| walk_at "callWith ref") => `(tactic| (k_here; k_dflt (refine' callWith_F ?k1 ?_; (case k1 => exact FnAt.of (by k_asm) (by assumption)); k_whole)))
local macro_rules | `(tactic| walk_at "FnAt") => `(tactic| exact FnAt.of (by k_asm) (by assumption))
local macro_rules | `(tactic| walk_at "call builtin:len") => `(tactic| refine Halt.to ?_)
local macro_rules | `(tactic| walk_at "call ref") => `(tactic| refine Halt.to ?_)
local macro_rules | `(tactic| walk_at "subscriptTail") => `(tactic| ((with_reducible rename Guard => gd0); refine Halt.to ?_))
local macro_rules | `(tactic| walk_at "subscriptTail Name Slice ref ref") => `(tactic| ((with_reducible rename Guard => gd0); refine Halt.to ?_))
local macro_rules | `(tactic| k_mem) => `(tactic| ((have gm9 : GuardM := (by with_reducible assumption)); clear gm9; first | assumption | exact List.mem_cons_of_mem _ (by assumption) | exact List.mem_cons_of_mem _ (List.mem_cons_of_mem _ (by assumption)) | exact List.mem_cons_of_mem _ (List.mem_cons_of_mem _ (List.mem_cons_of_mem _ (by assumption)))))
local macro_rules | `(tactic| walk_at "GrownAll") => `(tactic| (k_dflt (exact grown_of (by k_asm) (by assumption) (by assumption))))
local macro_rules | `(tactic| walk_at "binaryOp Add ref ref") => `(tactic| ((with_reducible rename Guard => gd0); refine Halt.to ?_))
local macro_rules | `(tactic| walk_at "compareOp NotIn int ref") => `(tactic| (k_here; refine nin_half (by assumption) (by assumption) ?_; k_whole))
set_option maxHeartbeats 16000000 in
theorem law_K : PySem.Challenge.rw_mr0138_02.Holds := by
  w_on
  o_law
  o_head (bHook (kmHook Mine.hF [2, 3, 6, 15, 22, 23, 24, 25, 28, 30, 31, 33, 34, 35, 37, 38, 40, 41, 42, 44, 45, 47, 48, 49, 50, 51, 53, 54, 56, 57, 58, 60, 61, 63, 64, 65, 67, 68, 70, 71, 72, 75, 76, 77, 79, 80, 82, 83] (fun _ => by kernel_rfl) [43, 73, 78]) (kHook Mine.modK [4] (fun _ => by kernel_rfl)))
  (case hw => w_witness2)
  w_strict (
    have hk9 : (fun _ => hdk.heap_1 = hdk.heap_1) PySem.Challenge.rw_mr0138_02 := (by k_fill; rfl)
    clear hk9
    intro w s₀ s₁ mg mb G Y fa o pm cd doc dV kV ho hd hcd hD hmg hg args vals as hpre hlay hrd hwl hlo
    obtain ⟨Y, YX⟩ := Y
    have KX : (hdk.heap_1 w.params).In _ := km_in_of Y
    km_tabs Y
    have X := (Ground.X G).1
    have V := (Ground.X G).2
    refine Ground.open G ?_
    intro T B D TE TW
    try (refine guard_noD D (by decide +kernel) ?_; clear D)
    km_lay T hmg ho hd cd
    clear hmg
    have XG : InG w (ghostOf s₁.heap [(47, 43), (75, 73), (82, 78)]) := ⟨kf_ghost (kf_of KX YX)⟩
    clear YX
    wrow_args hpre hlay hrd hwl hlo
    all_goals (
      first | refine callC_kw (enter_call ?_) | refine enter_call ?_
      w_top on
      kn_posts
      w_call any ho hd hcd hD T F
      clear hd
      kn_ghosts F T
      k_drop
      skip)
    (all_goals try k_fold)
    rename InG _ _ => XG0
    rename Top _ _ _ _ _ _ => T0
    rename Frag.In _ _ => X0
    have XF0 : InF _ _ := ⟨XG0.out, nameObj_of T0 X0⟩
    clear XG0
    k_steps
    refine ⟨?_⟩
    (with_unfolding_all refine' row_any ?k1 ?k2 ?k3 ?k4 ?k5 ?k6 ?k7 ?k8 ?k9 ?ka ?kb ?_; (case k1 => k_asm); (case k2 => k_asm); (case k3 => k_asm); (case k4 => k_asm); (case k5 => k_asm); (case k6 => exact rfl); (case k7 => k_mem); (case k8 => assumption); (case k9 => (simp only [List.length_append, List.length_take, List.length_cons, List.length_nil]; omega)); (case ka => decide); (case kb => decide); k_whole); intro D' k' us' r' h' tk' F' N' l1 hI' hMaj' hLo' hHi'; (try k_lt l1); (try dsimp only); (try k_fold); (try k_sweep)
    k_steps
    refine ⟨?_⟩
    (with_unfolding_all refine' red_any ?k1 ?k2 ?k3 ?k4 ?k5 ?k6 ?k7 ?k8 ?k9 ?kc ?ka ?kb ?_; (case k1 => k_asm); (case k2 => k_asm); (case k3 => k_asm); (case k4 => k_asm); (case k5 => k_asm); (case k6 => exact rfl); (case k7 => k_mem); (case k8 => k_mem); (case k9 => assumption); (case kc => first | assumption | exact maj_reverse (by assumption)); (case ka => decide); (case kb => decide); k_whole); intro D' k' c' t1' t2' h' tk' F' N' l1; (try k_lt l1); (try dsimp only); (try k_fold); (try k_sweep)
    k_steps
    refine ⟨?_⟩
    (with_unfolding_all refine' red_any ?k1 ?k2 ?k3 ?k4 ?k5 ?k6 ?k7 ?k8 ?k9 ?kc ?ka ?kb ?_; (case k1 => k_asm); (case k2 => k_asm); (case k3 => k_asm); (case k4 => k_asm); (case k5 => k_asm); (case k6 => exact rfl); (case k7 => k_mem); (case k8 => k_mem); (case k9 => assumption); (case kc => first | assumption | exact maj_reverse (by assumption)); (case ka => decide); (case kb => decide); k_whole); intro D' k' c' t1' t2' h' tk' F' N' l1; (try k_lt l1); (try dsimp only); (try k_fold); (try k_sweep)
    k_steps
    refine ⟨?_⟩
    (with_unfolding_all refine' low_ints ?k1 ?k2 ?k3 ?k4 ?k5 ?k6 ?kx ?k7 ?k8 ?k9 ?kc ?ka ?kb ?_; (case k1 => k_asm); (case k2 => k_asm); (case k3 => k_asm); (case k4 => k_asm); (case k5 => k_asm); (case k6 => exact rfl); (case kx => assumption); (case k7 => k_mem); (case k8 => assumption); (case k9 => first | assumption | exact maj_reverse (by assumption)); (case kc => first | omega | (simp only [List.length_reverse]; omega)); (case ka => decide); (case kb => decide); k_whole); intro t' h' tk' F' N'; (try dsimp only); (try k_fold); (try k_sweep)
    k_steps
    refine ⟨?_⟩
    (with_unfolding_all refine' high_ints ?k1 ?k2 ?k3 ?k4 ?k5 ?k6 ?kx ?k7 ?k8 ?k9 ?kc ?ka ?kb ?_; (case k1 => k_asm); (case k2 => k_asm); (case k3 => k_asm); (case k4 => k_asm); (case k5 => k_asm); (case k6 => exact rfl); (case kx => assumption); (case k7 => k_mem); (case k8 => assumption); (case k9 => first | assumption | exact maj_reverse (by assumption)); (case kc => first | omega | (simp only [List.length_reverse]; omega)); (case ka => decide); (case kb => decide); k_whole); intro t' h' tk' F' N'; (try dsimp only); (try k_fold); (try k_sweep)
    k_steps
    refine ⟨?_⟩
    (with_unfolding_all refine' low_ints ?k1 ?k2 ?k3 ?k4 ?k5 ?k6 ?kx ?k7 ?k8 ?k9 ?kc ?ka ?kb ?_; (case k1 => k_asm); (case k2 => k_asm); (case k3 => k_asm); (case k4 => k_asm); (case k5 => k_asm); (case k6 => exact rfl); (case kx => assumption); (case k7 => k_mem); (case k8 => assumption); (case k9 => first | assumption | exact maj_reverse (by assumption)); (case kc => first | omega | (simp only [List.length_reverse]; omega)); (case ka => decide); (case kb => decide); k_whole); intro t' h' tk' F' N'; (try dsimp only); (try k_fold); (try k_sweep)
    k_steps
    refine ⟨?_⟩
    rename Fr _ _ _ _ => F0
    rename News _ _ _ _ => N0
    rename Below _ _ _ _ => B0
    refine pack F0 N0 (by exact rfl) (by k_mem) (by assumption) (by assumption) (by assumption) (by assumption) (by k_mem) (by k_mem) (by k_mem) ?_
    clear N0
    intro DR usR kR rR nn eDR eus ek er N0 hrow t43 t73 t78 hIr hMr h5r h13r
    subst eDR eus ek er
    (with_unfolding_all refine' For_invVF F0 ?k1 ?k2 ?_; (case k1 => exact rfl); (case k2 => exact rfl); k_whole)
    k_steps
    refine ⟨?_⟩
    refine lam_law (i := 0) F0 N0 T0 (by assumption) t78 True.intro rfl rfl rfl (by decide) (by kernel_rfl) rfl ?_
    intro f0 n1 h1 tk1 c0 F1 N1 M01 t78a k1
    clear N0 F0 t78
    replace hrow := k1 _ hrow (.inr (obj_ne (by intro q; cases q)))
    replace t43 := k1 _ t43 (.inl (by decide))
    replace t73 := k1 _ t73 (.inl (by decide))
    k_steps
    refine ⟨?_⟩
    refine lam_law (i := 1) F1 N1 T0 (by assumption) t78a (by simp [TriplesOk, rawInt]) rfl rfl rfl (by decide) (by kernel_rfl) rfl ?_
    intro f1 n2 h2 tk2 c1 F2 N2 M12 t78b k2
    replace hrow := k2 _ hrow (.inr (obj_ne (by intro q; cases q)))
    replace t43 := k2 _ t43 (.inl (by decide))
    replace t73 := k2 _ t73 (.inl (by decide))
    have M02 : MarkR (InL n2) f0 (markG 0) := M01.cls fun a o h hc => k2 _ h (.inr (obj_ne hc))
    clear N1 F1 t78a k1 M01 k2
    k_steps
    refine ⟨?_⟩
    refine lam_law (i := 2) F2 N2 T0 (by assumption) t78b (by simp [TriplesOk, rawInt]) rfl rfl rfl (by decide) (by kernel_rfl) rfl ?_
    intro f2 n3 h3 tk3 c2 F3 N3 M23 t78c k3
    replace hrow := k3 _ hrow (.inr (obj_ne (by intro q; cases q)))
    replace t43 := k3 _ t43 (.inl (by decide))
    replace t73 := k3 _ t73 (.inl (by decide))
    have M03 : MarkR (InL n3) f0 (markG 0) := M02.cls fun a o h hc => k3 _ h (.inr (obj_ne hc))
    have M13 : MarkR (InL n3) f1 (markG 1) := M12.cls fun a o h hc => k3 _ h (.inr (obj_ne hc))
    clear N2 F2 t78b M02 M12 k3
    k_steps
    refine ⟨?_⟩
    refine lam_law (i := 3) F3 N3 T0 (by assumption) t78c (by simp [TriplesOk, rawInt]) rfl rfl rfl (by decide) (by kernel_rfl) rfl ?_
    intro f3 n4 h4 tk4 c3 F4 N4 M34 t78d k4
    replace hrow := k4 _ hrow (.inr (obj_ne (by intro q; cases q)))
    replace t43 := k4 _ t43 (.inl (by decide))
    replace t73 := k4 _ t73 (.inl (by decide))
    have M04 : MarkR (InL n4) f0 (markG 0) := M03.cls fun a o h hc => k4 _ h (.inr (obj_ne hc))
    have M14 : MarkR (InL n4) f1 (markG 1) := M13.cls fun a o h hc => k4 _ h (.inr (obj_ne hc))
    have M24 : MarkR (InL n4) f2 (markG 2) := M23.cls fun a o h hc => k4 _ h (.inr (obj_ne hc))
    have g78 : T78 n4 := .app t78d
    clear N3 F3 t78c t78d M03 M13 M23 k4
    k_steps
    rename Fr _ _ _ _ => F5
    rename News _ _ _ _ => N5
    refine ⟨?_⟩
    refine abs_list (fun n => (DR, listOf (List.toArray usR) kR) ∈ n ∧ TabSt (InL n) ∧ MarkR (InL n) f0 (markG 0) ∧ MarkR (InL n) f1 (markG 1) ∧ MarkR (InL n) f2 (markG 2) ∧ MarkR (InL n) f3 (markG 3) ∧ T78 n)
      (fun n => (DR, listOf (List.toArray usR) kR) ∈ n ∧ Filled (InL n) ∧ MarkR (InL n) f0 (markG 0) ∧ MarkR (InL n) f1 (markG 1) ∧ MarkR (InL n) f2 (markG 2) ∧ MarkR (InL n) f3 (markG 3) ∧ T78 n) ?_ ?_ rfl F5 N5 (.head _)
      ⟨.tail _ hrow, .inl ⟨.tail _ t43, .tail _ t73⟩, M04.mono fun a o h => .tail _ h, M14.mono fun a o h => .tail _ h, M24.mono fun a o h => .tail _ h, M34.mono fun a o h => .tail _ h, g78.ok fun p h _ => .tail _ h⟩ ?_ ?_
    · rintro n n' hs ⟨a1, a2, a3, a4, a5, a6, a7⟩
      exact ⟨hs _ a1, a2.mono fun a o h => hs _ h, a3.mono fun a o h => hs _ h, a4.mono fun a o h => hs _ h, a5.mono fun a o h => hs _ h, a6.mono fun a o h => hs _ h, a7.ok fun p h _ => hs p h⟩
    · rintro n n' hs ⟨a1, a2, a3, a4, a5, a6, a7⟩
      replace hs : ∀ p ∈ n, okI p.2 = true → p ∈ n' := fun p hp ok => hs p hp (okI_j ok)
      obtain ⟨x7, r7, a7⟩ := a7
      exact ⟨hs _ a1 rfl, .inr (a2.okI fun a o h ok => hs _ h ok), a3.okI fun a o h ok => hs _ h ok, a4.okI fun a o h ok => hs _ h ok, a5.okI fun a o h ok => hs _ h ok, a6.okI fun a o h ok => hs _ h ok, x7, r7, hs _ a7 rfl⟩
    · clear N5 F5 hrow t43 t73 M04 M14 M24 M34
      rintro v n5 h5 tk5 hv ⟨hrow, tab5, q0, q1, q2, q3, q4⟩ F5 N5
      obtain ⟨fv, gv, rfl, hMk⟩ := mark_in hv q0 q1 q2 q3
      have gmm : GuardM := ⟨⟩
      k_steps
      rename Fr _ _ _ _ => F7
      rename News _ _ _ _ => N7
      refine ⟨?_⟩
      refine mid_maj B0 F7 X0 N7 T0 rfl XF0 hrow hIr hMr (by omega) (by omega) (by decide) (by decide) hMk tab5 ?_
      intro D6 t6 t6' h6 tk6 n6 F6 N6 m6 kp6 fil6
      replace hrow := kp6 _ hrow rfl
      replace hMk := hMk.ok fun a o h ok => kp6 _ h ok
      replace q0 := q0.ok fun a o h ok => kp6 _ h ok
      replace q1 := q1.ok fun a o h ok => kp6 _ h ok
      replace q2 := q2.ok fun a o h ok => kp6 _ h ok
      replace q3 := q3.ok fun a o h ok => kp6 _ h ok
      replace q4 := q4.ok fun p h ok => kp6 p h ok
      clear tab5 N7 F7
      obtain ⟨im, cm9, ctm, pmm, a0m, tqm, restm, dm9, slm, him, hgm, mf1, mf2⟩ := id hMk
      k_steps
      refine ⟨?_⟩
      refine mark_call (w := _) XF0 rfl (by first | ktr_room | exact Nat.le_of_ble_eq_true rfl) (by first | ktr_units | exact Nat.le_of_ble_eq_true rfl) F6 N6 hMk ?_
      intro u7 h7 tk7 F7 N7
      (try clear F6); (try clear N6)
      k_steps
      rename Fr _ _ _ _ => F8
      rename News _ _ _ _ => N8
      refine ⟨?_⟩
      refine mid_maj B0 F8 X0 N8 T0 rfl XF0 (.head _) (by assumption) (maj_reverse hMr) (by rw [List.length_reverse]; omega) (by rw [List.length_reverse]; omega) (by decide) (by decide) (hMk.mono fun a o h => .tail _ (.tail _ (.tail _ h))) (.inr (Filled.ok fil6 fun a o h _ => .tail _ (.tail _ (.tail _ h)))) ?_
      intro D8 t8 t8' h8 tk8 n8 F9 N9 m8 kp8 fil8
      have up8 : ∀ p ∈ n6, okD p.2 = true → p ∈ n8 := fun p hp ok => kp8 p (.tail _ (.tail _ (.tail _ hp))) ok
      clear kp8 m6; (try clear F8); (try clear N8); (try clear F7); (try clear N7)
      replace hrow := up8 _ hrow rfl
      replace mf1 := up8 _ mf1 rfl
      replace mf2 := up8 _ mf2 rfl
      replace hMk := hMk.ok fun a o h ok => up8 _ h ok
      replace q0 := q0.ok fun a o h ok => up8 _ h ok
      replace q1 := q1.ok fun a o h ok => up8 _ h ok
      replace q2 := q2.ok fun a o h ok => up8 _ h ok
      replace q3 := q3.ok fun a o h ok => up8 _ h ok
      replace q4 := q4.ok fun p h ok => up8 p h ok
      k_steps
      refine ⟨?_⟩
      refine mark_call (w := _) XF0 rfl (by first | ktr_room | exact Nat.le_of_ble_eq_true rfl) (by first | ktr_units | exact Nat.le_of_ble_eq_true rfl) F9 N9 hMk ?_
      intro u10 h10 tk10 F10 N10
      (try clear F9); (try clear N9)
      k_steps
      rename Fr _ _ _ _ => F11
      rename News _ _ _ _ => N11
      refine ⟨?_⟩
      refine mark_call (w := _) XF0 rfl (by first | ktr_room | exact Nat.le_of_ble_eq_true rfl) (by first | ktr_units | exact Nat.le_of_ble_eq_true rfl) F11 N11 (hMk.mono fun a o h => (by repeat (first | exact h | apply List.mem_cons_of_mem) : (a, o) ∈ _)) ?_
      intro u12 h12 tk12 F12 N12
      k_steps
      rename Fr _ _ _ _ => F13
      rename News _ _ _ _ => N13
      refine ⟨?_⟩
      refine mid_half B0 F13 X0 N13 T0 rfl XF0 (.head _) (by assumption) (half_take hMr) (by rw [List.length_take]; omega) (by rw [List.length_take]; omega) (by decide) (by decide) (hMk.mono fun a o h => (by repeat (first | exact h | apply List.mem_cons_of_mem) : (a, o) ∈ _)) (.inr (Filled.ok fil8 fun a o h _ => (by repeat (first | exact h | apply List.mem_cons_of_mem) : (a, o) ∈ _))) ?_
      intro D14 a14 b14 t14 t14' h14 tk14 n14 hab14 F14 N14 m14 kp14 fil14
      have up14 : ∀ p ∈ n8, okD p.2 = true → p ∈ n14 := fun p hp ok => kp14 p (by repeat (first | exact hp | apply List.mem_cons_of_mem)) ok
      clear kp14 m8; (try clear F13); (try clear N13); (try clear F12); (try clear N12); (try clear F11); (try clear N11)
      have L14 := News.isList N14 m14
      k_steps
      rename Fr _ _ _ _ => F15
      rename News _ _ _ _ => N15
      refine AbsEnd.of ⟨_, _, _, _, rfl, F15, fun y hy => if_neg hy, N15, ?_, ?_⟩
      · exact fun p hp ok => (by repeat (first | exact up14 p (up8 p (kp6 p hp ok) ok) ok | apply List.mem_cons_of_mem) : p ∈ _)
      · refine ⟨?_, ?_, ?_, ?_, ?_, ?_, ?_⟩
        · exact (by repeat (first | exact up14 _ hrow rfl | apply List.mem_cons_of_mem) : (_ : Addr × Obj) ∈ _)
        · exact Filled.ok fil14 fun a o h _ => (by repeat (first | exact h | apply List.mem_cons_of_mem) : (a, o) ∈ _)
        · exact q0.ok fun a o h ok => (by repeat (first | exact up14 _ h ok | apply List.mem_cons_of_mem) : (a, o) ∈ _)
        · exact q1.ok fun a o h ok => (by repeat (first | exact up14 _ h ok | apply List.mem_cons_of_mem) : (a, o) ∈ _)
        · exact q2.ok fun a o h ok => (by repeat (first | exact up14 _ h ok | apply List.mem_cons_of_mem) : (a, o) ∈ _)
        · exact q3.ok fun a o h ok => (by repeat (first | exact up14 _ h ok | apply List.mem_cons_of_mem) : (a, o) ∈ _)
        · exact q4.ok fun p h ok => (by repeat (first | exact up14 _ h ok | apply List.mem_cons_of_mem) : p ∈ _)
    · intro n5 h5 tk5 u5 ⟨hrow, tab5, _, _, _, _, q4⟩ F5 N5
      clear g78 t43 t73 M04 M14 M24 M34
      k_steps
      refine ⟨?_⟩
      (refine' med_len ?k1 ?k2 ?k3 ?k4 ?_; (case k1 => k_asm); (case k2 => k_mem); (case k3 => exact IntsAre.length (by assumption)); (case k4 => omega); k_whole); intro t' tk'
      k_steps
      refine ⟨?_⟩
      rename IsRange _ _ _ _ _ _ _ _ => hR
      rename Fr _ _ _ _ => F7
      rename News _ _ _ _ => N7
      have eR : ((rR.length : Int) - 1) = ((rR.length - 1 : Nat) : Int) := by omega
      rw [eR] at hR
      refine abs_range (fun n => (DR, listOf (List.toArray usR) kR) ∈ n ∧ TabSt (InL n) ∧ T78 n) (fun n => (DR, listOf (List.toArray usR) kR) ∈ n ∧ TabSt (InL n) ∧ T78 n) (fun _ _ hs a1 => ⟨hs _ a1.1, a1.2.1.mono fun a o h => hs _ h, a1.2.2.ok fun p h _ => hs p h⟩) (fun _ _ hs a1 => ⟨hs _ a1.1 rfl, a1.2.1.okJ fun a o h ok => hs _ h ok, a1.2.2.okJ hs⟩) rfl F7 N7 hR (by omega) ⟨(by repeat (first | exact hrow | apply List.mem_cons_of_mem)), tab5.mono fun a o h => (by repeat (first | exact h | apply List.mem_cons_of_mem) : (a, o) ∈ _), q4.ok fun p h _ => (by repeat (first | exact h | apply List.mem_cons_of_mem) : p ∈ _)⟩ ?_ ?_
      · clear F5 N5 F7 N7 hR hrow tab5 q4
        rintro k tv n6 h6 tk6 hk ⟨hrow, tab6, q6⟩ F6 N6
        have gd : Guard := ⟨⟩
        have gmm : GuardM := ⟨⟩
        k_steps
        refine ⟨?_⟩
        (with_unfolding_all refine' int_item ?k1 ?k2 ?kI ?k3 ?k4 ?k5 ?_ ?k6; (case k1 => k_asm); (case k2 => assumption); (case kI => assumption); (case k3 => omega); (case k4 => omega); (case k5 => omega); (case k6 => with_unfolding_all rfl); k_whole); intro t9'
        k_steps
        refine ⟨?_⟩
        (with_unfolding_all refine' int_item ?k1 ?k2 ?kI ?k3 ?k4 ?k5 ?_ ?k6; (case k1 => k_asm); (case k2 => assumption); (case kI => assumption); (case k3 => omega); (case k4 => omega); (case k5 => omega); (case k6 => with_unfolding_all rfl); k_whole); intro t9'
        k_steps
        refine ⟨?_⟩
        k_dflt (refine' kmk_slice_ints ?yF9 ?yN9 ?yl9 ?yp9 ?yq9 ?yi9 ?ym9 ?yc9 ?_ ?ys9 ?yt9 ?yz9; (case yF9 => k_asm); (case yN9 => k_asm); (case yl9 => exact News.isList (by k_asm) hrow); (case yp9 => kmk_part); (case yq9 => kmk_part); (case yi9 => exact hIr); (case ym9 => exact kmk_upto hIr (by omega)); (case yc9 => kmk_len); (case ys9 => with_unfolding_all rfl); (case yt9 => kmk_pure); (case yz9 => kmk_size))
        intro D8 ws8 h8 F8 N8 l8 hI8 hC8 _
        k_steps
        refine ⟨?_⟩
        k_dflt (refine' kmk_slice_ints ?yF9 ?yN9 ?yl9 ?yp9 ?yq9 ?yi9 ?ym9 ?yc9 ?_ ?ys9 ?yt9 ?yz9; (case yF9 => k_asm); (case yN9 => k_asm); (case yl9 => exact News.isList (by k_asm) (List.mem_cons_of_mem _ hrow)); (case yp9 => kmk_part); (case yq9 => kmk_part); (case yi9 => exact hIr); (case ym9 => exact kmk_from hIr (by omega)); (case yc9 => kmk_len); (case ys9 => with_unfolding_all rfl); (case yt9 => kmk_pure); (case yz9 => kmk_size))
        intro D9 ws9 h9 F9 N9 l9 hI9 hC9 _
        k_steps
        refine ⟨?_⟩
        k_dflt (refine' kmk_add_ints ?yF9 ?yN9 ?ya9 ?yb9 ?yi9 ?yj9 ?_ ?yz9; (case yF9 => k_asm); (case yN9 => k_asm); (case ya9 => exact News.isList (by k_asm) (List.mem_cons_of_mem _ (List.mem_cons_self ..))); (case yb9 => exact News.isList (by k_asm) (List.mem_cons_self ..)); (case yi9 => exact hI8); (case yj9 => exact hI9); (case yz9 => (simp only [sizeLine_eq]; omega)))
        intro D10 us10 h10 F10 N10 l10 hI10
        have hM10 := maj_cut (k := k) hMr (by omega) (by assumption)
        (try clear F8); (try clear N8); (try clear F9); (try clear N9)
        k_steps
        · refine ⟨?_⟩
          clear gmm
          refine red_any B0 (by k_asm) X0 (by k_asm) T0 rfl (List.mem_cons_of_mem _ (List.mem_cons_self ..)) (List.mem_cons_self ..) hI10 hM10 (by decide) (by decide) ?_
          intro D11 k11 c11 t11 t11' h11 tk11 F11 N11 l11
          rename Guard => gdd
          clear gdd
          k_steps
          · exfalso
            rename (_ : Int) ≠ _ => bad9
            exact bad9 rfl
          rename Fr _ _ _ _ => F15
          rename News _ _ _ _ => N15
          refine AbsEnd.of ⟨_, _, _, _, rfl, F15, fun y hy => if_neg hy, N15, fun p hp ok => ?_, ?_, ?_, ?_⟩
          · repeat (first | exact hp | apply List.mem_cons_of_mem)
          · repeat (first | exact hrow | apply List.mem_cons_of_mem)
          · refine tab6.mono fun a o h => ?_
            show (a, o) ∈ _
            repeat (first | exact h | apply List.mem_cons_of_mem)
          · refine q6.ok fun p h _ => ?_
            repeat (first | exact h | apply List.mem_cons_of_mem)
        · rename Fr _ _ _ _ => F15
          rename News _ _ _ _ => N15
          exact AbsEnd.of ⟨_, _, _, _, rfl, F15, fun y hy => if_neg hy, N15, fun p hp ok => hp, hrow, tab6, q6⟩
      · rintro n6 h6 tk6 u6 ⟨hrow6, tab6, q6⟩ F6 N6
        clear hrow tab5 q4 F5 N5 F7 N7 hR
        k_steps)
end Mine
end
theorem PySem.Challenge.cw_mr0138_02_holds : PySem.Challenge.rw_mr0138_02.Holds :=
  Mine.law_K
