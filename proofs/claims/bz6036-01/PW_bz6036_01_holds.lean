import PyProof.Rows.All
import Wide.All
import OpenK.AllK
import Wide.FinOn
import PySem.Challenge.RW_bz6036_01
set_option Elab.async false
section
open PySem PySem.W PyProof.Rows
set_option maxRecDepth 100000
set_option maxHeartbeats 8000000
namespace Mine
open_top hd for PySem.Challenge.rw_bz6036_01
end Mine
end
section
open PySem PySem.W PyProof.Rows
set_option maxRecDepth 100000
namespace Mine

abbrev rowO (vs : List Value) (n : Nat) : Obj := W.listOf vs.toArray n

/-- the ledger bears a table of H rows of W ints: its outer list at t, its rows at `rows`, the ints `T` -/
structure IsTab (news : List (Addr × Obj)) (t : Addr) (rows : List Addr) (T : List (List Int)) (H W : Nat) : Prop where
  outer : ∃ n, (t, rowO (rows.map Value.ref) n) ∈ news
  len : rows.length = H
  lenT : T.length = H
  nodup : rows.Nodup
  off : t ∉ rows
  row : ∀ (i : Nat) r, rows[i]? = some r → ∃ vs n ns, T[i]? = some ns ∧ (r, rowO vs n) ∈ news ∧ IntsAre vs ns
  wide : ∀ ns ∈ T, ns.length = W
  small : H < 1000 ∧ W < 1000

/-- what a cell costs more than the one above it to the left -/
def subC (one two : Str) (i j : Nat) : Int := if Txt.item one (i : Int) = Txt.item two (j : Int) then 0 else 1

def cell (T : List (List Int)) (i j : Nat) : Int := (T.getD i []).getD j 0

theorem isList_of {h : Heap} {a : Addr} {vs : List Value} {n : Nat} (e : h.get? a = some (rowO vs n)) : h.IsList a vs.toArray := PySem.IsL.isList (n := n) e

section
variable {prog : Program} {w : World} {A : Around} {E : Value → Shared → Prop} {s : Shared} {h₀ : Heap} {L : Addr} {m : Str → Option Value} {news : List (Addr × Obj)} {t : Addr} {rows : List Addr} {T : List (List Int)} {H W : Nat}

theorem tab_row {value slice : PySem.Expr} {k : Int} {u : Tok} {Q : Value → Shared → Prop} (N : News h₀ L s.heap news) (I : IsTab news t rows T H W)
    (h0 : 0 ≤ k) (h1 : k < H) (h : ∀ r, rows[k.toNat]? = some r → Q (.ref r) s)
    (hs : subscripted slice false (.ref t) (.int k u) = operate [.ref t, .int k u] (getItem (.ref t) (.int k u)) := by with_unfolding_all rfl) :
    wpAny (model prog w) A (subscriptTail value slice (.ref t) (.int k u)) Q E s := by
  obtain ⟨n, hn⟩ := I.outer
  have hl := isList_of (N.get hn)
  have hs1 := I.small.1
  have hk : k.toNat < rows.length := by have := I.len; omega
  have hx : rows[k.toNat]? = some rows[k.toNat] := List.getElem?_eq_getElem hk
  exact tail_any hl.typeIs slot_list_getitem.lookup (wpAny_getItem_list hl h0 (by omega) (by simp [hx]) (h _ hx)) hs

theorem tab_cell {value slice : PySem.Expr} {r : Addr} {i : Nat} {k : Int} {u : Tok} {Q : Value → Shared → Prop} (N : News h₀ L s.heap news) (I : IsTab news t rows T H W)
    (hr : rows[i]? = some r) (h0 : 0 ≤ k) (h1 : k < W) (h : ∀ tok, Q (.int (cell T i k.toNat) tok) s)
    (hs : subscripted slice false (.ref r) (.int k u) = operate [.ref r, .int k u] (getItem (.ref r) (.int k u)) := by with_unfolding_all rfl) :
    wpAny (model prog w) A (subscriptTail value slice (.ref r) (.int k u)) Q E s := by
  obtain ⟨vs, n, ns, hT, hn, hi⟩ := I.row i r hr
  have hl := isList_of (N.get hn)
  have hg : T.getD i [] = ns := by simp [List.getD, hT]
  have hs1 := I.wide ns (List.mem_of_getElem? hT)
  have hs2 := I.small.2
  unfold cell at h
  rw [hg] at h
  exact item_anyK hl hi h0 (by omega) (by omega) h hs

theorem IntsAre.setAt : ∀ {vs : List Value} {ns : List Int}, IntsAre vs ns → ∀ (j : Nat) (v : Int) (tok : Tok), IntsAre (vs.set j (.int v tok)) (ns.set j v)
  | _, _, .nil, _, _, _ => by simpa using IntsAre.nil
  | _, _, .cons n t r, 0, v, tok => by simpa using IntsAre.cons v tok r
  | _, _, .cons n t r, j + 1, v, tok => by simpa using IntsAre.cons n t (IntsAre.setAt r j v tok)

/-- the ledger with the object at r put anew -/
def updL (r : Addr) (o : Obj) (news : List (Addr × Obj)) : List (Addr × Obj) := news.map fun p => if p.1 = r then (r, o) else p

theorem updL_addrs (r : Addr) (o : Obj) (news : List (Addr × Obj)) : (updL r o news).map (·.1) = news.map (·.1) := by
  unfold updL
  rw [List.map_map]
  refine List.map_congr_left fun p _ => ?_
  by_cases h : p.1 = r <;> simp [h]

theorem updL_mem_ne {r : Addr} {o : Obj} {news : List (Addr × Obj)} {p : Addr × Obj} (h : p.1 ≠ r) (hp : p ∈ news) : p ∈ updL r o news :=
  List.mem_map.mpr ⟨p, hp, by simp [h]⟩
theorem updL_mem_self {r : Addr} {o o' : Obj} {news : List (Addr × Obj)} (hp : (r, o') ∈ news) : (r, o) ∈ updL r o news :=
  List.mem_map.mpr ⟨(r, o'), hp, by simp⟩

theorem news_updL {h : Heap} {r : Addr} {o o' : Obj} {f : Obj → Obj} (F : Fr h₀ L h m) (N : News h₀ L h news) (hp : (r, o) ∈ news) (e : f o = o') (hf : o'.isFreed = false) :
    Fr h₀ L (h.update r f) m ∧ News h₀ L (h.update r f) (updL r o' news) := by
  have D := N _ hp
  obtain ⟨oL, es, ep, hL, q⟩ := F.ns
  refine ⟨⟨⟨oL, es, ep, (Heap.get?_update_ne _ _ _ _ (Ne.symm D.2.1)).trans hL, q⟩, fun b x q => (Heap.get?_update_ne _ _ _ _ fun z => ?_).trans (F.keep b x q), F.above⟩, fun p hp => ?_⟩
  · have := D.2.2; rw [← z, q] at this; cases this
  · obtain ⟨p₀, hp₀, rfl⟩ := List.mem_map.mp hp
    by_cases h9 : p₀.1 = r
    · simp only [h9, if_true]
      exact ⟨e ▸ Heap.get?_update_self _ D.1 (e ▸ hf), D.2⟩
    · simp only [if_neg h9]
      have P := N p₀ hp₀
      exact ⟨(Heap.get?_update_ne _ _ _ _ h9).trans P.1, P.2⟩

def setT (T : List (List Int)) (i j : Nat) (v : Int) : List (List Int) := T.set i ((T.getD i []).set j v)

theorem IsTab.set {i j : Nat} {r : Addr} {v : Int} {vs : List Value} {n : Nat} {tok : Tok} (I : IsTab news t rows T H W) (hr : rows[i]? = some r) (hm : (r, rowO vs n) ∈ news) (hi : IntsAre vs (T.getD i [])) :
    IsTab (updL r (rowO (vs.set j (.int v tok)) n) news) t rows (setT T i j v) H W where
  outer := by
    obtain ⟨k, hk⟩ := I.outer
    exact ⟨k, updL_mem_ne (fun e => I.off (by rw [show t = r from e]; exact List.mem_of_getElem? hr)) hk⟩
  len := I.len
  lenT := by unfold setT; rw [List.length_set]; exact I.lenT
  nodup := I.nodup
  off := I.off
  row := by
    intro i' r' hr'
    by_cases h : i' = i
    · subst h
      rw [hr] at hr'; cases hr'
      have hlt : i' < T.length := by
        rw [I.lenT, ← I.len]
        exact (List.getElem?_eq_some_iff.mp hr).1
      refine ⟨_, n, (T.getD i' []).set j v, ?_, updL_mem_self hm, ?_⟩
      · unfold setT; rw [List.getElem?_set_self hlt]
      · exact IntsAre.setAt hi j v tok
    · obtain ⟨vs', n', ns', a, b, c⟩ := I.row i' r' hr'
      have hne : r' ≠ r := by
        intro e; subst e
        have h1 := List.getElem?_eq_some_iff.mp hr
        have h2 := List.getElem?_eq_some_iff.mp hr'
        exact h ((List.getElem_inj I.nodup).mp (h2.2.trans h1.2.symm))
      refine ⟨vs', n', ns', ?_, updL_mem_ne hne b, c⟩
      unfold setT; rw [List.getElem?_set_ne (Ne.symm h)]; exact a
  wide := by
    intro ns hns
    unfold setT at hns
    rcases List.mem_or_eq_of_mem_set hns with h | h
    · exact I.wide _ h
    · subst h
      rw [List.length_set]
      have hlt : i < T.length := by
        rw [I.lenT, ← I.len]
        exact (List.getElem?_eq_some_iff.mp hr).1
      rw [List.getD_eq_getElem?_getD, List.getElem?_eq_getElem hlt]
      exact I.wide _ (List.getElem_mem _)
  small := I.small

theorem tab_set {r : Addr} {i : Nat} {k v : Int} {u tok : Tok} {Q : Unit → Shared → Prop} (F : Fr h₀ L s.heap m) (N : News h₀ L s.heap news) (I : IsTab news t rows T H W)
    (hr : rows[i]? = some r) (h0 : 0 ≤ k) (h1 : k < W)
    (h : ∀ h' news', Fr h₀ L h' m → News h₀ L h' news' → IsTab news' t rows (setT T i k.toNat v) H W → news'.map (·.1) = news.map (·.1) → (∀ p ∈ news, p.1 ∉ rows → p ∈ news') → Q () { s with heap := h' }) :
    wpAny (model prog w) A (setItem (.ref r) (.int k u) (.int v tok)) Q E s := by
  obtain ⟨vs, n, ns, hT, hn, hi⟩ := I.row i r hr
  have hg : T.getD i [] = ns := by simp [List.getD, hT]
  have hs1 := I.wide ns (List.mem_of_getElem? hT)
  have hs2 := I.small.2
  have hlen := hi.length
  refine ki_setAt (N.get hn) h0 (by omega) (by simp; omega) ?_
  have e : Obj.mapSeq (·.setIfInBounds k.toNat (.int v tok)) (rowO vs n) = rowO (vs.set k.toNat (.int v tok)) n := by
    simp [Obj.mapSeq, rowO]
  have q := news_updL F N hn e rfl
  refine h _ _ q.1 q.2 (I.set hr hn (hg ▸ hi)) (updL_addrs _ _ _) fun p hp hp' => updL_mem_ne (fun e => hp' (e ▸ List.mem_of_getElem? hr)) hp

def stepV (one two : Str) (T : List (List Int)) (i j : Nat) : Int :=
  min (min (cell T (i - 1) j + 1) (cell T i (j - 1) + 1)) (min (cell T (i - 1) (j - 1) + subC one two (i - 1) (j - 1)) (cell T (i - 1) (j - 1) + subC one two (i - 1) (j - 1) + 1))
end
end Mine
end
section
open PySem PySem.W PyProof.Rows
set_option maxRecDepth 100000
namespace Mine
section
variable {prog : Program} {w : World} {A : Around} {E : Value → Shared → Prop} {s : Shared} {h₀ : Heap} {L : Addr} {m : Str → Option Value} {news : List (Addr × Obj)}
theorem args_min4 (a b c d : Value) : argsOk "min" ⟨[a, b, c, d], []⟩ := by unfold argsOk; kernel_rfl

abbrev four (a b c d : Int) (t u x y : Tok) : Array (Int × Tok) := #[(a, t), (b, u), (c, x), (d, y)]

/-- the least of four ints, as the built-in finds it -/
theorem min_four {a b c d : Int} {t u x y : Tok} {Q : Value → Shared → Prop} (hh : A.handled = none) (F₀ : Fr h₀ L s.heap m) (N : News h₀ L s.heap news)
    (h : ∀ h' tk t', Fr h₀ L h' m → News h₀ L h' news → Q (.int (min (min a b) (min c d)) t') { s with heap := h', toks := tk }) :
    wpAny (model prog w) A (call (.builtin "min") [.int a t, .int b u, .int c x, .int d y]) Q E s := by
  have hname : (toString "min" ++ toString ".loop" : String) = "min.loop" := by decide
  let h1 : Heap := s.heap.push { cls := .type "tuple", data := .seq #[.int a t, .int b u, .int c x, .int d y] }
  have hT : h1.IsTuple s.heap.objs.size (intItems (four a b c d t u x y)) := ⟨_, Heap.get?_push_size _ rfl, rfl, 0, by simp [intItems, four]⟩
  have hsz : h1.objs.size = s.heap.objs.size + 1 := Heap.size_push ..
  refine call_function_tree PySem.F.kind_min PySem.F.plain_min PySem.F.entry_min (args_min4 _ _ _ _) ?_
  show wpAny _ A.in1 (Builtin.Builtins.bindParams "min" ["key", "default"] 0 ⟨[], []⟩ >>= _) _ _ s
  refine wpAny_bind (wpAny_of_eq (show Builtin.Builtins.bindParams "min" ["key", "default"] 0 ⟨[], []⟩ = pure [none, none] from rfl) ?_)
  show wpAny _ A.in1 (newTuple [.int a t, .int b u, .int c x, .int d y] >>= _) _ _ s
  refine wpAny_bind (wpAny_newObj_type ?_)
  refine wpAny_bind (wpAny_pyIter_tuple hT ?_)
  refine wpAny_bind (wpAny_newObj_type ?_)
  rw [hname]
  have hne : s.heap.objs.size ≠ h1.objs.size := by rw [hsz]; exact Nat.ne_of_lt (Nat.lt_succ_self _)
  have W := Walks.tuple (prog := prog) (w := w) (A := A.in1) hh h1.objs.size s.heap.objs.size hne (intItems (four a b c d t u x y))
  refine wpAny_pure ⟨plainId_quiet PySem.F.plain_min_loop _, codeAny_min_loop_first W _ (CmpOf.ints_lt (numAt (four a b c d t u x y)) (fun _ _ => intItems_at)) _ ?_ (by simp [intItems, four]) ?_ (Heap.get?_push_size _ rfl) fun v h' tk hP hk => ?_⟩
  · intro hm
    rcases List.mem_cons.mp hm with e | hm
    · have e : (h1.push _).objs.size = h1.objs.size := e
      rw [Heap.size_push] at e; exact Nat.succ_ne_self _ e
    · have e : (h1.push _).objs.size = s.heap.objs.size := List.mem_singleton.mp hm
      rw [Heap.size_push, hsz] at e; omega
  · exact W.frame 0 (h1.push _) _ ⟨⟨_, Heap.get?_push_size _ rfl, rfl, rfl⟩, hT.push _⟩ fun b _ o e => Heap.get?_push_of_some _ e
  · have hold : ∀ d o, s.heap.get? d = some o → h'.get? d = some o := fun d o e => by
      have hlt := Heap.lt_size e
      refine hk d o (fun hm => ?_) (fun e1 => ?_) (Heap.get?_push_of_some _ (Heap.get?_push_of_some _ (Heap.get?_push_of_some _ e)))
      · have e1 : d = h1.objs.size := List.mem_singleton.mp hm
        rw [e1, hsz] at hlt; exact Nat.lt_irrefl _ (Nat.lt_of_succ_lt hlt)
      · have e1 : d = (h1.push _).objs.size := e1
        rw [e1, Heap.size_push, hsz] at hlt; exact Nat.lt_irrefl _ (Nat.lt_of_succ_lt (Nat.lt_of_succ_lt hlt))
    have hlen : (intItems (four a b c d t u x y)).size - 1 = 3 := by simp [intItems, four]
    have hP' : (intItems (four a b c d t u x y))[argBest (fun i j => decide (numAt (four a b c d t u x y) i < numAt (four a b c d t u x y) j)) 3]? = some v := by rw [← hlen]; exact hP
    obtain ⟨t', hv⟩ := intItems_at hP'
    obtain ⟨hle, hall⟩ := argBest_lt (numAt (four a b c d t u x y)) 3
    have e0 : numAt (four a b c d t u x y) 0 = a := rfl
    have e1 : numAt (four a b c d t u x y) 1 = b := rfl
    have e2 : numAt (four a b c d t u x y) 2 = c := rfl
    have e3 : numAt (four a b c d t u x y) 3 = d := rfl
    have q0 := hall 0 (by omega)
    have q1 := hall 1 (by omega)
    have q2 := hall 2 (by omega)
    have q3 := hall 3 (by omega)
    rw [e0] at q0; rw [e1] at q1; rw [e2] at q2; rw [e3] at q3
    generalize hb : argBest (fun i j => decide (numAt (four a b c d t u x y) i < numAt (four a b c d t u x y) j)) 3 = best at *
    have hval : numAt (four a b c d t u x y) best = min (min a b) (min c d) := by
      have hcase : best = 0 ∨ best = 1 ∨ best = 2 ∨ best = 3 := by omega
      rcases hcase with r | r | r | r <;> subst r <;> simp only [e0, e1, e2, e3] at * <;> omega
    rw [hv, hval]
    exact h h' tk t' (F₀.grownK hold) (N.grown hold)
end
end Mine
end
section
open PySem PySem.W PyProof.Rows
set_option maxRecDepth 100000
namespace Mine

/-- a frame's names: those of `ps` are known, the others of `stored` are not, the rest stands -/
def mapAt (m₀ : Str → Option Value) (stored : List Str) (u : Str → Option Value) (ps : List (Str × Value)) : Str → Option Value :=
  fun z => match ps.lookup z with
    | some v => some v
    | none => if stored.contains z then u z else m₀ z

theorem lookup_mem {z : Str} {v : Value} : ∀ {ps : List (Str × Value)}, ps.lookup z = some v → (z, v) ∈ ps
  | (y, w) :: r, h => by
    rw [List.lookup_cons] at h
    by_cases e : (z == y) = true
    · rw [e] at h
      have e1 : z = y := by simpa using e
      have e2 : w = v := by simpa using h
      rw [e1, e2]; exact List.mem_cons_self
    · have e : (z == y) = false := by simpa using e
      rw [e] at h
      exact List.mem_cons_of_mem _ (lookup_mem h)

theorem mapAt_eq {m₀ m' : Str → Option Value} {stored : List Str} {ps : List (Str × Value)} (h1 : ∀ p ∈ ps, m' p.1 = some p.2) (h2 : ∀ z, stored.contains z = false → m' z = m₀ z) : mapAt m₀ stored m' ps = m' := by
  funext z
  unfold mapAt
  cases e : ps.lookup z with
  | some v => exact (h1 _ (lookup_mem e)).symm
  | none =>
    show (if stored.contains z = true then m' z else m₀ z) = m' z
    cases hc : stored.contains z with
    | true => rfl
    | false => exact (h2 z hc).symm

section
variable {prog : Program} {w : World} {A : Around} {E : Value → Shared → Prop} {s : Shared} {env : Env} {h₀ : Heap} {x : Str} {body : List Stmt} {Q : Flow → Shared → Prop} {σ : Type}

def TurnS (h₀ : Heap) (L I : Addr) (o : Obj) (m₀ : Str → Option Value) (stored : List Str) (ps : σ → List (Str × Value)) (Jn : σ → List (Addr × Obj) → Prop) (s₁ s₂ : Shared) : Prop :=
  ∃ c h' tk m' news', s₂ = { s₁ with heap := h', toks := tk } ∧ Fr h₀ L h' m' ∧ News h₀ L h' ((I, o) :: news') ∧ (∀ p ∈ news', p.1 ≠ I) ∧ (∀ p ∈ ps c, m' p.1 = some p.2) ∧ (∀ z, stored.contains z = false → m' z = m₀ z) ∧ Jn c news'

def TurnPostS (h₀ : Heap) (L I : Addr) (o : Obj) (m₀ : Str → Option Value) (stored : List Str) (ps : σ → List (Str × Value)) (Jn : σ → List (Addr × Obj) → Prop) (s₁ : Shared) (Q : Flow → Shared → Prop) (f : Flow) (s₂ : Shared) : Prop :=
  match f with
  | .ret v => Q (.ret v) s₂
  | .brk => Q .next s₂
  | _ => TurnS h₀ L I o m₀ stored ps Jn s₁ s₂

theorem loopS {I : Addr} {fp : List Addr} {n : Nat} {P : Nat → Value → Prop} {St : Nat → Heap → Prop} {m₀ : Str → Option Value} {news : List (Addr × Obj)}
    (stored : List Str) (ps : σ → List (Str × Value)) (J : Nat → σ → List (Addr × Obj) → Prop) (c₀ : σ)
    (W : Walks prog w A I fp [I] n P St) (hLf : env.locals ∉ fp) (hI0 : h₀.get? I = none) (hnw : ∀ p ∈ news, p.1 ≠ I) (hst : St 0 s.heap) (hob : ∀ i h, St i h → ∃ o, h.get? I = some o)
    (hfp : ∀ b ∈ fp, b ≠ I → (∃ q, h₀.get? b = some q) ∨ ∃ q, ∀ i c news₁, J i c news₁ → (b, q) ∈ news₁)
    (F : Fr h₀ env.locals s.heap m₀) (N : News h₀ env.locals s.heap news) (hps : ∀ p ∈ ps c₀, m₀ p.1 = some p.2) (h0 : J 0 c₀ news)
    (turn : ∀ (k : Nat) v c u news₁ h tk o, k < n → P k v → J k c news₁ → (∀ p ∈ news₁, p.1 ≠ I) → Fr h₀ env.locals h (fun y => if y = x then some v else mapAt m₀ stored u (ps c) y) → News h₀ env.locals h ((I, o) :: news₁) →
      wpAny (model prog w) A (execs body env) (TurnPostS h₀ env.locals I o m₀ stored ps (J (k + 1)) { s with heap := h, toks := tk } Q) E { s with heap := h, toks := tk })
    (done : ∀ c u news₁ h tk, J n c news₁ → Fr h₀ env.locals h (mapAt m₀ stored u (ps c)) → News h₀ env.locals h news₁ → Q .next { s with heap := h, toks := tk }) :
    LoopAtV prog w A h₀ env x body Q E (.ref I) s := by
  let J' : Nat → (Str → Option Value) → List (Addr × Obj) → Prop := fun i m news₁ => ∃ c, J i c news₁ ∧ (∀ p ∈ ps c, m p.1 = some p.2) ∧ ∀ z, stored.contains z = false → m z = m₀ z
  refine ⟨I, fp, [I], n, P, St, m₀, news, J', rfl, W, hLf, ?_, ?_, hst, F, N, ⟨c₀, h0, hps, fun _ _ => rfl⟩, ?_, ?_⟩
  · intro b hb; rw [List.mem_singleton.mp hb]; exact hI0
  · intro p hp hm; exact hnw p hp (List.mem_singleton.mp hm)
  · rintro i v m₁ news₁ s₁ own ⟨h, tk, rfl⟩ hin hP ⟨c, hJ, h1, h2⟩ hoff hown hget hall hst' F₁ N₁
    have em := mapAt_eq h1 h2
    rw [← em] at F₁
    obtain ⟨o, ho⟩ := hob _ _ hst'
    have hIfp : I ∈ fp := W.sub I (List.mem_singleton.mpr rfl)
    have hio : (I, o) ∈ own := hall I hIfp hI0 o ho
    have hoff' : ∀ p ∈ news₁, p.1 ≠ I := fun p hp e => hoff p hp (List.mem_singleton.mpr e)
    have N₂ : News h₀ env.locals h ((I, o) :: news₁) := fun p hp => by
      rcases List.mem_cons.mp hp with e | hp
      · rw [e]; exact N₁ _ (List.mem_append_left _ hio)
      · exact N₁ _ (List.mem_append_right _ hp)
    refine wpAny_mono (turn i v c m₁ news₁ h tk o hin hP hJ hoff' F₁ N₂) (fun f s₂ p => ?_) fun _ _ e => e
    have fin : TurnS h₀ env.locals I o m₀ stored ps (J (i + 1)) { s with heap := h, toks := tk } s₂ → LoopStepU h₀ env.locals [I] own (J' (i + 1)) { s with heap := h, toks := tk } .next s₂ := by
      rintro ⟨c', h', tk', m', news', e, F', N', hne, hp1, hp2, hJ'⟩
      refine ⟨rfl, h', tk', m', news', e, F', ?_, ?_, c', hJ', hp1, hp2⟩
      · intro p hp
        rcases List.mem_append.mp hp with hp | hp
        · have hg := hget p hp
          by_cases hpI : p.1 = I
          · have : p.2 = o := by rw [hpI, ho] at hg; exact (Option.some.inj hg).symm
            have hpe : p = (I, o) := Prod.ext hpI this
            rw [hpe]; exact N' _ (List.mem_cons_self)
          · have hno := (N₁ p (List.mem_append_left _ hp)).2.2
            rcases hfp p.1 (hown p hp) hpI with ⟨q, hq⟩ | ⟨q, hq⟩
            · rw [hq] at hno; cases hno
            · have hq1 := (N₁ _ (List.mem_append_right _ (hq _ _ _ hJ))).1
              have : p.2 = q := by
                have hq1 : h.get? p.1 = some q := hq1
                rw [show h.get? p.1 = some p.2 from hg] at hq1; exact Option.some.inj hq1
              have hpe : p = (p.1, q) := Prod.ext rfl this
              rw [hpe]
              exact N' _ (List.mem_cons_of_mem _ (hq _ _ _ hJ'))
        · exact N' _ (List.mem_cons_of_mem _ hp)
      · intro p hp hm; exact hne p hp (List.mem_singleton.mp hm)
    cases f with
    | ret v => exact .ret p
    | brk => exact .brk p
    | next => exact .next (fin p)
    | cont => exact .cont (fin p)
  · rintro h' tk m' news' F' N' _ ⟨c, hJ, h1, h2⟩
    have em := mapAt_eq h1 h2
    rw [← em] at F'
    exact done c m' news' h' tk hJ F' N'

/-- a loop over a range by ones -/
theorem rangeS {r : Addr} {a₀ b₀ : Int} {t₀ u₀ v₀ : Tok} {n : Nat} {m₀ : Str → Option Value} {news : List (Addr × Obj)}
    (stored : List Str) (ps : σ → List (Str × Value)) (J : Nat → σ → List (Addr × Obj) → Prop) (c₀ : σ)
    (hh : A.handled = none) (hr : IsRange s.heap r a₀ b₀ 1 t₀ u₀ v₀) (hsmall : Builtin.Range.small a₀ b₀ 1 = true) (hn : Builtin.Range.rangeSize a₀ b₀ 1 = (n : Int))
    (F : Fr h₀ env.locals s.heap m₀) (N : News h₀ env.locals s.heap news) (hps : ∀ p ∈ ps c₀, m₀ p.1 = some p.2) (h0 : J 0 c₀ news)
    (turn : ∀ (k : Nat) t c u news₁ h tk I o, k < n → J k c news₁ → (∀ p ∈ news₁, p.1 ≠ I) → Fr h₀ env.locals h (fun y => if y = x then some (.int (a₀ + k) t) else mapAt m₀ stored u (ps c) y) → News h₀ env.locals h ((I, o) :: news₁) →
      wpAny (model prog w) A (execs body env) (TurnPostS h₀ env.locals I o m₀ stored ps (J (k + 1)) { s with heap := h, toks := tk } Q) E { s with heap := h, toks := tk })
    (done : ∀ c u news₁ h tk, J n c news₁ → Fr h₀ env.locals h (mapAt m₀ stored u (ps c)) → News h₀ env.locals h news₁ → Q .next { s with heap := h, toks := tk }) :
    wpAny (model prog w) A (pyIter (.ref r)) (fun it s₂ => LoopAtV prog w A h₀ env x body Q E it s₂) E s := by
  refine wpAny_pyIter_range hr hsmall ?_
  have W : Walks prog w A s.heap.objs.size [s.heap.objs.size] [s.heap.objs.size] n (fun i v => i < n ∧ ∃ t, v = .int (a₀ + i * 1) t)
      (fun i h => IsRangeIter h s.heap.objs.size (a₀ + (i : Nat) * 1) ((n : Int) - (i : Nat)) 1) := (Walks.range hh _ a₀ 1 n).bound
  refine loopS stored ps J c₀ W ?_ (next_is_new F) ?_ (by show IsRangeIter _ _ _ _ _; rw [hn]; simpa using Heap.get?_push_size _ rfl) (fun i h hs => ⟨_, hs⟩) ?_ (F.push _) (fun p hp => ⟨Heap.get?_push_of_some _ (N p hp).1, (N p hp).2⟩) hps h0 ?_ done
  · intro hm
    exact absurd F.ns.lt ((List.mem_singleton.mp hm) ▸ Nat.lt_irrefl _)
  · intro p hp hI
    exact absurd (Heap.lt_size (N p hp).1) (hI ▸ Nat.lt_irrefl _)
  · intro b hb hne; exact absurd (List.mem_singleton.mp hb) hne
  · rintro k v c u news₁ h tk o hk ⟨_, t, rfl⟩ hJ hoff F₁ N₁
    refine turn k t c u news₁ h tk _ o hk hJ hoff ?_ N₁
    simpa using F₁

/-- a loop over a list that the ledger bears -/
theorem listS {l : Addr} {vs : List Value} {nn : Nat} {m₀ : Str → Option Value} {news : List (Addr × Obj)}
    (stored : List Str) (ps : σ → List (Str × Value)) (J : Nat → σ → List (Addr × Obj) → Prop) (c₀ : σ)
    (hh : A.handled = none) (hl : ∀ i c news₁, J i c news₁ → (l, rowO vs nn) ∈ news₁)
    (F : Fr h₀ env.locals s.heap m₀) (N : News h₀ env.locals s.heap news) (hps : ∀ p ∈ ps c₀, m₀ p.1 = some p.2) (h0 : J 0 c₀ news)
    (turn : ∀ (k : Nat) v c u news₁ h tk I o, vs[k]? = some v → J k c news₁ → (∀ p ∈ news₁, p.1 ≠ I) → Fr h₀ env.locals h (fun y => if y = x then some v else mapAt m₀ stored u (ps c) y) → News h₀ env.locals h ((I, o) :: news₁) →
      wpAny (model prog w) A (execs body env) (TurnPostS h₀ env.locals I o m₀ stored ps (J (k + 1)) { s with heap := h, toks := tk } Q) E { s with heap := h, toks := tk })
    (done : ∀ c u news₁ h tk, J vs.length c news₁ → Fr h₀ env.locals h (mapAt m₀ stored u (ps c)) → News h₀ env.locals h news₁ → Q .next { s with heap := h, toks := tk }) :
    wpAny (model prog w) A (pyIter (.ref l)) (fun it s₂ => LoopAtV prog w A h₀ env x body Q E it s₂) E s := by
  have hm := hl 0 c₀ news h0
  have hls : s.heap.IsList l vs.toArray := isList_of (N.get hm)
  have hlt : l < s.heap.objs.size := Heap.lt_size (N.get hm)
  have hne : l ≠ s.heap.objs.size := Nat.ne_of_lt hlt
  refine wpAny_pyIter_list hls ?_
  have W := Walks.list (prog := prog) (w := w) hh s.heap.objs.size l hne vs.toArray
  rw [List.size_toArray] at W
  refine loopS stored ps J c₀ W ?_ (next_is_new F) ?_ ⟨⟨_, Heap.get?_push_size _ rfl, rfl, rfl⟩, hls.at fun o e => Heap.get?_push_of_some _ e⟩ (fun i h hs => let ⟨o, ho, _⟩ := hs.1; ⟨o, ho⟩) ?_ (F.push _) (fun p hp => ⟨Heap.get?_push_of_some _ (N p hp).1, (N p hp).2⟩) hps h0 ?_ done
  · intro hm'
    rcases List.mem_cons.mp hm' with e | hm'
    · exact absurd F.ns.lt (e ▸ Nat.lt_irrefl _)
    · exact (N _ hm).2.1 (List.mem_singleton.mp hm').symm
  · intro p hp hI
    exact absurd (Heap.lt_size (N p hp).1) (hI ▸ Nat.lt_irrefl _)
  · intro b hb hne'
    rcases List.mem_cons.mp hb with e | hb
    · exact absurd e hne'
    · rw [List.mem_singleton.mp hb]; exact .inr ⟨_, hl⟩
  · rintro k v c u news₁ h tk o hk hP hJ hoff F₁ N₁
    exact turn k v c u news₁ h tk _ o (by simpa using hP) hJ hoff F₁ N₁
end
end Mine
namespace Mine
section
variable {prog : Program} {w : World} {A : Around} {E : Value → Shared → Prop} {s : Shared} {env : Env} {h₀ : Heap} {L : Addr} {Q : Flow → Shared → Prop} {σ : Type}

def TurnW (h₀ : Heap) (L : Addr) (m₀ : Str → Option Value) (stored : List Str) (ps : σ → List (Str × Value)) (J : σ → List (Addr × Obj) → Prop) (μ : σ → Nat) (n : Nat) (s₁ s₂ : Shared) : Prop :=
  ∃ c h' tk m' news', s₂ = { s₁ with heap := h', toks := tk } ∧ Fr h₀ L h' m' ∧ News h₀ L h' news' ∧ (∀ p ∈ ps c, m' p.1 = some p.2) ∧ (∀ z, stored.contains z = false → m' z = m₀ z) ∧ J c news' ∧ μ c < n

def TurnPostW (h₀ : Heap) (L : Addr) (m₀ : Str → Option Value) (stored : List Str) (ps : σ → List (Str × Value)) (J : σ → List (Addr × Obj) → Prop) (μ : σ → Nat) (n : Nat) (s₁ : Shared) (Q : Flow → Shared → Prop) (f : Flow) (s₂ : Shared) : Prop :=
  match f with
  | .ret v => Q (.ret v) s₂
  | .brk => Q .next s₂
  | _ => TurnW h₀ L m₀ stored ps J μ n s₁ s₂

theorem turn_endW {s₁ : Shared} {m₀ m' : Str → Option Value} {stored : List Str} {ps : σ → List (Str × Value)} {J : σ → List (Addr × Obj) → Prop} {μ : σ → Nat} {n : Nat} {h' : Heap} {tk : Nat} {newsX : List (Addr × Obj)} (c : σ)
    (F : Fr h₀ L h' m') (N : News h₀ L h' newsX) (hps : ∀ p ∈ ps c, m' p.1 = some p.2) (hst : ∀ z, stored.contains z = false → m' z = m₀ z) (hJ : J c newsX) (hm : μ c < n) :
    TurnW h₀ L m₀ stored ps J μ n s₁ { s₁ with heap := h', toks := tk } := ⟨c, h', tk, m', newsX, rfl, F, N, hps, hst, hJ, hm⟩

theorem whileS {test : PySem.Expr} {body : List Stmt} {pos : Pos} {m₀ : Str → Option Value} {news : List (Addr × Obj)} (stored : List Str) (ps : σ → List (Str × Value)) (J : σ → List (Addr × Obj) → Prop) (μ : σ → Nat) (c₀ : σ)
    (F : Fr h₀ L s.heap m₀) (N : News h₀ L s.heap news) (hps : ∀ p ∈ ps c₀, m₀ p.1 = some p.2) (h0 : J c₀ news)
    (turn : ∀ c u news₁ h tk, J c news₁ → Fr h₀ L h (mapAt m₀ stored u (ps c)) → News h₀ L h news₁ →
      wpAny (model prog w) A (isTrue test env (eval test env)) (fun b s₂ =>
        if b = true then wpAny (model prog w) A (execs body env) (TurnPostW h₀ L m₀ stored ps J μ (μ c) s Q) E s₂ else Q .next s₂) E { s with heap := h, toks := tk })
    (hE : PassesOwn (model prog w) A env E := by passes_own) :
    wpAny (model prog w) A (exec (.While test body [] pos) env) Q E s := by
  refine While_inv2 (fun n m nx => ∃ c : σ, μ c = n ∧ J c nx ∧ (∀ p ∈ ps c, m p.1 = some p.2) ∧ (∀ z, stored.contains z = false → m z = m₀ z)) F N ⟨c₀, rfl, h0, hps, fun _ _ => rfl⟩ ?_ hE
  rintro n m₁ nx h tk F₁ N₁ ⟨c, rfl, hJ, h1, h2⟩
  rw [← mapAt_eq h1 h2] at F₁
  refine wpAny_mono (turn c m₁ nx h tk hJ F₁ N₁) (fun b s₂ p => ?_) fun _ _ x => x
  cases b with
  | false => simpa using p
  | true =>
    simp only [if_true] at p ⊢
    refine wpAny_mono p (fun f s₃ q => ?_) fun _ _ x => x
    have fin : TurnW h₀ L m₀ stored ps J μ (μ c) s s₃ → WhileStep2 h₀ L s (fun n m nx => ∃ c : σ, μ c = n ∧ J c nx ∧ (∀ p ∈ ps c, m p.1 = some p.2) ∧ (∀ z, stored.contains z = false → m z = m₀ z)) Q (μ c) .next s₃ := by
      rintro ⟨c', h', tk', m', news', rfl, F', N', hp1, hp2, hJ', hm⟩
      exact ⟨h', tk', m', news', μ c', rfl, F', N', hm, c', rfl, hJ', hp1, hp2⟩
    cases f with
    | ret v => exact q
    | brk => exact q
    | next => exact fin q
    | cont => exact fin q
end
end Mine
namespace Mine
section
variable {prog : Program} {w : World} {A : Around} {E : Value → Shared → Prop} {s : Shared} {env : Env} {h₀ : Heap} {target : PySem.Expr} {body : List Stmt} {Q : Flow → Shared → Prop} {σ : Type}

/-- a loop over a list that the ledger bears, whatever its target -/
theorem turnsS {l : Addr} {vs : List Value} {nn : Nat} {m₀ : Str → Option Value} {news : List (Addr × Obj)}
    (stored : List Str) (ps : σ → List (Str × Value)) (J : Nat → σ → List (Addr × Obj) → Prop) (c₀ : σ)
    (hh : A.handled = none) (hl : ∀ i c news₁, J i c news₁ → (l, rowO vs nn) ∈ news₁)
    (F : Fr h₀ env.locals s.heap m₀) (N : News h₀ env.locals s.heap news) (hps : ∀ p ∈ ps c₀, m₀ p.1 = some p.2) (h0 : J 0 c₀ news)
    (turn : ∀ (k : Nat) v c u news₁ h tk I o, vs[k]? = some v → J k c news₁ → (∀ p ∈ news₁, p.1 ≠ I) → Fr h₀ env.locals h (mapAt m₀ stored u (ps c)) → News h₀ env.locals h ((I, o) :: news₁) →
      wpAny (model prog w) A (assign target env v) (fun _ s₂ => wpAny (model prog w) A (execs body env) (TurnPostS h₀ env.locals I o m₀ stored ps (J (k + 1)) { s with heap := h, toks := tk } Q) E s₂) E { s with heap := h, toks := tk })
    (done : ∀ c u news₁ h tk, J vs.length c news₁ → Fr h₀ env.locals h (mapAt m₀ stored u (ps c)) → News h₀ env.locals h news₁ → Q .next { s with heap := h, toks := tk }) :
    wpAny (model prog w) A (pyIter (.ref l)) (fun it s₂ => W.TurnsAt prog w A h₀ env target body Q E it s₂) E s := by
  have hm := hl 0 c₀ news h0
  have hls : s.heap.IsList l vs.toArray := isList_of (N.get hm)
  have hlt : l < s.heap.objs.size := Heap.lt_size (N.get hm)
  have hne : l ≠ s.heap.objs.size := Nat.ne_of_lt hlt
  refine wpAny_pyIter_list hls ?_
  have W := W.KTurns.ofWalks (target := target) (Walks.list (prog := prog) (w := w) hh s.heap.objs.size l hne vs.toArray) fun i v s Q E st q => letGo_listiter st.1 q
  rw [List.size_toArray] at W
  let I := s.heap.objs.size
  have hI0 : h₀.get? I = none := next_is_new F
  let J' : Nat → (Str → Option Value) → List (Addr × Obj) → Prop := fun i m news₁ => ∃ c, J i c news₁ ∧ (∀ p ∈ ps c, m p.1 = some p.2) ∧ ∀ z, stored.contains z = false → m z = m₀ z
  refine ⟨I, _, [I], vs.length, _, _, _, m₀, news, J', rfl, W, ?_, ?_, ?_, ⟨⟨_, Heap.get?_push_size _ rfl, rfl, rfl⟩, hls.at fun o e => Heap.get?_push_of_some _ e⟩, F.push _, (fun p hp => ⟨Heap.get?_push_of_some _ (N p hp).1, (N p hp).2⟩), ⟨c₀, h0, hps, fun _ _ => rfl⟩, ?_, ?_⟩
  · intro hm'
    rcases List.mem_cons.mp hm' with e | hm'
    · exact absurd F.ns.lt (e ▸ Nat.lt_irrefl _)
    · exact (N _ hm).2.1 (List.mem_singleton.mp hm').symm
  · intro b hb; rw [List.mem_singleton.mp hb]; exact hI0
  · intro p hp hI
    exact absurd (Heap.lt_size (N p hp).1) ((List.mem_singleton.mp hI) ▸ Nat.lt_irrefl _)
  · rintro i v m₁ news₁ h tk own hin hP ⟨c, hJ, h1, h2⟩ hoff hown hget hall hst' F₁ N₁
    have em := mapAt_eq h1 h2
    rw [← em] at F₁
    obtain ⟨o, ho, _⟩ := hst'.1
    have ho : h.get? I = some o := ho
    have hio : (I, o) ∈ own := hall I (by simp [I]) hI0 o ho
    have hoff' : ∀ p ∈ news₁, p.1 ≠ I := fun p hp e => hoff p hp (List.mem_singleton.mpr e)
    have N₂ : News h₀ env.locals h ((I, o) :: news₁) := fun p hp => by
      rcases List.mem_cons.mp hp with e | hp
      · rw [e]; exact N₁ _ (List.mem_append_left _ hio)
      · exact N₁ _ (List.mem_append_right _ hp)
    refine wpAny_mono (turn i v c m₁ news₁ h tk I o (by simpa using hP) hJ hoff' F₁ N₂) (fun _ s₂ q => wpAny_mono q (fun f s₂ p => ?_) fun _ _ e => e) fun _ _ e => e
    have fin : TurnS h₀ env.locals I o m₀ stored ps (J (i + 1)) { s with heap := h, toks := tk } s₂ → LoopStepU h₀ env.locals [I] own (J' (i + 1)) { s with heap := h, toks := tk } .next s₂ := by
      rintro ⟨c', h', tk', m', news', e, F', N', hne', hp1, hp2, hJ'⟩
      refine ⟨rfl, h', tk', m', news', e, F', ?_, ?_, c', hJ', hp1, hp2⟩
      · intro p hp
        rcases List.mem_append.mp hp with hp | hp
        · have hg := hget p hp
          by_cases hpI : p.1 = I
          · have : p.2 = o := by rw [hpI, ho] at hg; exact (Option.some.inj hg).symm
            have hpe : p = (I, o) := Prod.ext hpI this
            rw [hpe]; exact N' _ (List.mem_cons_self)
          · have hb := hown p hp
            have hpl : p.1 = l := by
              rcases List.mem_cons.mp hb with e | hb
              · exact absurd e hpI
              · exact List.mem_singleton.mp hb
            have hq1 := (N₁ _ (List.mem_append_right _ (hl _ _ _ hJ))).1
            have : p.2 = rowO vs nn := by
              have hq1 : h.get? l = some (rowO vs nn) := hq1
              rw [← hpl, show h.get? p.1 = some p.2 from hg] at hq1; exact Option.some.inj hq1
            have hpe : p = (l, rowO vs nn) := Prod.ext hpl this
            rw [hpe]
            exact N' _ (List.mem_cons_of_mem _ (hl _ _ _ hJ'))
        · exact N' _ (List.mem_cons_of_mem _ hp)
      · intro p hp hm; exact hne' p hp (List.mem_singleton.mp hm)
    cases f with
    | ret v => exact .ret p
    | brk => exact .brk p
    | next => exact .next (fin p)
    | cont => exact .cont (fin p)
  · rintro h' tk m' news' F' N' _ ⟨c, hJ, h1, h2⟩
    have em := mapAt_eq h1 h2
    rw [← em] at F'
    exact done c m' news' h' tk hJ F' N'
end
end Mine
end
section
open PySem PySem.W PyProof.Rows
set_option maxRecDepth 100000
namespace Mine
/-- a mark: the walk halts here -/
structure Stop (P : Prop) : Prop where
  out : P
section
variable {prog : Program} {w : World} {A : Around} {E : Value → Shared → Prop} {s : Shared} {h₀ : Heap} {L : Addr} {m : Str → Option Value} {news : List (Addr × Obj)}

theorem allLt_mem {d : Addr} (l : List (Addr × Obj)) : AllLt d l → ∀ p ∈ l, p.1 < d := by
  induction l with
  | nil => intro _ p hp; cases hp
  | cons q r ih =>
    intro h p hp
    rcases List.mem_cons.mp hp with e | hp
    · rw [e]; exact h.1
    · exact ih h.2 p hp

theorem news_same {h h' : Heap} {r : Addr} {o o' : Obj} (F : Fr h₀ L h m) (N : News h₀ L h news) (hp : (r, o) ∈ news) (hs : Heap.SameBut r h h') (e : h'.get? r = some o') :
    Fr h₀ L h' m ∧ News h₀ L h' (updL r o' news) := by
  have D := N _ hp
  refine ⟨F.change hs D.2.1 D.2.2, fun p hp => ?_⟩
  obtain ⟨p₀, hp₀, rfl⟩ := List.mem_map.mp hp
  by_cases h9 : p₀.1 = r
  · simp only [h9, if_true]
    exact ⟨e, D.2⟩
  · simp only [if_neg h9]
    have P := N p₀ hp₀
    exact ⟨(hs.2 p₀.1 h9).trans P.1, P.2⟩

theorem app_L {t : Addr} {vs : List Value} {n : Nat} {v : Value} {Q : Value → Shared → Prop} (F : Fr h₀ L s.heap m) (N : News h₀ L s.heap news) (hm : (t, rowO vs n) ∈ news) (hsz : vs.length ≤ 1000)
    (h : ∀ h', Fr h₀ L h' m → News h₀ L h' (updL t (rowO (vs ++ [v]) (n + 1)) news) → Q .none { s with heap := h' }) :
    wpAny (model prog w) A (call (.builtin "list.append") [.ref t, v]) Q E s := by
  refine append_at (N.get hm) (fun h' hs ho' => ?_) (by rw [sizeLine_eq]; simp; omega)
  have q := news_same F N hm hs (o' := rowO (vs ++ [v]) (n + 1)) (by rw [ho']; simp [rowO])
  exact h h' q.1 q.2

theorem rep_fold {α : Type} (v : α) (n : Nat) (a : Array α) : (List.foldl (fun x1 x2 => x1 ++ x2) a (List.replicate n #[v])) = a ++ (List.replicate n v).toArray := by
  induction n generalizing a with
  | zero => exact (Array.append_empty).symm
  | succ n ih =>
    rw [List.replicate_succ, List.foldl_cons, ih]
    apply Array.toList_inj.mp
    rw [Array.toList_append, Array.toList_append, Array.toList_append, List.append_assoc]
    rfl

theorem rep_L {l : Addr} {v : Value} {n : Nat} {W : Nat} {u : Tok} {Q : Value → Shared → Prop} (F : Fr h₀ L s.heap m) (N : News h₀ L s.heap news) (hm : (l, rowO [v] n) ∈ news) (hsz : W ≤ 1000)
    (h : ∀ a h', Fr h₀ L h' m → News h₀ L h' ((a, rowO (List.replicate W v) 0) :: news) → (∀ p ∈ news, p.1 < a) → Q (.ref a) { s with heap := h' }) :
    wpAny (model prog w) A (binaryOp .Mult (.ref l) (.int W u)) Q E s := by
  refine mul_list F N (N.get hm) (by omega) (by omega) (by simp; omega) fun h' F' N' => ?_
  refine h _ h' F' ?_ fun p hp => Heap.lt_size (N p hp).1
  have e : List.foldl (fun x1 x2 => x1 ++ x2) #[] (List.replicate (if ([v].toArray).isEmpty = true then 0 else (W : Int).toNat) [v].toArray) = (List.replicate W v).toArray := by
    show List.foldl (fun x1 x2 => x1 ++ x2) #[] (List.replicate W #[v]) = _
    rw [rep_fold, Array.empty_append]
  rw [e] at N'
  exact N'
end
end Mine
namespace Mine
section
variable {h₀ : Heap} {L : Addr} {news : List (Addr × Obj)} {t : Addr} {rows : List Addr} {T : List (List Int)} {H W : Nat} {σ : Type}

def offL (I : Addr) (news : List (Addr × Obj)) : List (Addr × Obj) := news.filter fun p => decide (p.1 ≠ I)
theorem mem_offL {I : Addr} {news : List (Addr × Obj)} {p : Addr × Obj} : p ∈ offL I news ↔ p ∈ news ∧ p.1 ≠ I := by
  unfold offL; rw [List.mem_filter]; simp

theorem IsTab.tmem (I : IsTab news t rows T H W) : ∃ o, (t, o) ∈ news := let ⟨_, h⟩ := I.outer; ⟨_, h⟩
theorem IsTab.rmem (I : IsTab news t rows T H W) {r : Addr} (hr : r ∈ rows) : ∃ o, (r, o) ∈ news := by
  obtain ⟨i, hi⟩ := List.getElem?_of_mem hr
  obtain ⟨vs, n, ns, _, h, _⟩ := I.row i r hi
  exact ⟨_, h⟩
theorem IsTab.apart {I : Addr} (hT : IsTab news t rows T H W) (h : ∀ p ∈ news, p.1 ≠ I) : t ≠ I ∧ I ∉ rows := by
  obtain ⟨o, ho⟩ := hT.tmem
  refine ⟨h _ ho, fun hm => ?_⟩
  obtain ⟨o, ho⟩ := hT.rmem hm
  exact h _ ho rfl
theorem IsTab.sub {news' : List (Addr × Obj)} (hT : IsTab news t rows T H W) (h : ∀ p ∈ news, p.1 = t ∨ p.1 ∈ rows → p ∈ news') : IsTab news' t rows T H W where
  outer := let ⟨n, hn⟩ := hT.outer; ⟨n, h _ hn (.inl rfl)⟩
  len := hT.len
  lenT := hT.lenT
  nodup := hT.nodup
  off := hT.off
  row := fun i r hr => let ⟨vs, n, ns, a, b, c⟩ := hT.row i r hr; ⟨vs, n, ns, a, h _ b (.inr (List.mem_of_getElem? hr)), c⟩
  wide := hT.wide
  small := hT.small
theorem IsTab.offL {I : Addr} (hT : IsTab news t rows T H W) (ht : t ≠ I) (hr : I ∉ rows) : IsTab (offL I news) t rows T H W :=
  hT.sub fun p hp h => mem_offL.mpr ⟨hp, fun e => h.elim (fun q => ht (q ▸ e)) fun q => hr (e ▸ q)⟩

theorem turn_end {I : Addr} {o : Obj} {m₀ m' : Str → Option Value} {stored : List Str} {ps : σ → List (Str × Value)} {Jn : σ → List (Addr × Obj) → Prop} {s₁ : Shared} {h' : Heap} {tk : Nat} {newsX : List (Addr × Obj)} (c : σ)
    (F : Fr h₀ L h' m') (N : News h₀ L h' newsX) (hI : (I, o) ∈ newsX) (hps : ∀ p ∈ ps c, m' p.1 = some p.2) (hst : ∀ z, stored.contains z = false → m' z = m₀ z) (hJ : Jn c (offL I newsX)) :
    TurnS h₀ L I o m₀ stored ps Jn s₁ { s₁ with heap := h', toks := tk } := by
  refine ⟨c, h', tk, m', Mine.offL I newsX, rfl, F, fun p hp => ?_, fun p hp => (mem_offL.mp hp).2, hps, hst, hJ⟩
  rcases List.mem_cons.mp hp with e | hp
  · rw [e]; exact N _ hI
  · exact N _ (mem_offL.mp hp).1

theorem cell_setT {i j i' j' : Nat} {v : Int} (hT : IsTab news t rows T H W) (hi : i < H) (hj : j < W) : cell (setT T i j v) i' j' = if i' = i ∧ j' = j then v else cell T i' j' := by
  have hlt : i < T.length := by rw [hT.lenT]; exact hi
  have hw : (T.getD i []).length = W := by
    rw [List.getD_eq_getElem?_getD, List.getElem?_eq_getElem hlt]
    exact hT.wide _ (List.getElem_mem _)
  unfold cell setT
  by_cases h1 : i' = i
  · subst h1
    rw [List.getD_eq_getElem?_getD (l := T.set _ _), List.getElem?_set_self hlt]
    simp only [Option.getD_some, true_and]
    by_cases h2 : j' = j
    · subst h2
      rw [if_pos rfl, List.getD_eq_getElem?_getD, List.getElem?_set_self (by omega)]; rfl
    · rw [if_neg h2, List.getD_eq_getElem?_getD, List.getElem?_set_ne (Ne.symm h2), ← List.getD_eq_getElem?_getD]
  · rw [if_neg (fun h => h1 h.1), List.getD_eq_getElem?_getD (l := T.set _ _), List.getElem?_set_ne (Ne.symm h1), ← List.getD_eq_getElem?_getD]

theorem cell_zero (H W i j : Nat) : cell (List.replicate H (List.replicate W 0)) i j = 0 := by
  unfold cell
  rw [List.getD_eq_getElem?_getD, List.getD_eq_getElem?_getD, List.getElem?_replicate]
  split
  · rw [Option.getD_some, List.getElem?_replicate]; split <;> rfl
  · rfl

theorem IntsAre.rep (t : Tok) : ∀ n, IntsAre (List.replicate n (.int 0 t)) (List.replicate n 0)
  | 0 => .nil
  | n + 1 => .cons 0 t (IntsAre.rep t n)

/-- a row of noughts put behind -/
theorem IsTab.grow {news' : List (Addr × Obj)} {k n n' : Nat} {a : Addr} {tok : Tok} (hT : IsTab news t rows (List.replicate k (List.replicate W 0)) k W) (hk : k + 1 < 1000)
    (hn : ∀ p ∈ news, p.1 < a) (ht : (t, rowO ((rows ++ [a]).map Value.ref) n) ∈ news') (ha : (a, rowO (List.replicate W (.int 0 tok)) n') ∈ news') (hr : ∀ p ∈ news, p.1 ∈ rows → p ∈ news') :
    IsTab news' t (rows ++ [a]) (List.replicate (k + 1) (List.replicate W 0)) (k + 1) W where
  outer := ⟨n, ht⟩
  len := by rw [List.length_append, hT.len]; rfl
  lenT := List.length_replicate
  nodup := by
    refine List.nodup_append.mpr ⟨hT.nodup, List.nodup_cons.mpr ⟨by simp, .nil⟩, fun x hx y hy e => ?_⟩
    rw [List.mem_singleton.mp hy] at e
    obtain ⟨o, ho⟩ := hT.rmem hx
    have := hn _ ho
    rw [e] at this
    exact Nat.lt_irrefl _ this
  off := by
    intro hm
    rcases List.mem_append.mp hm with hm | hm
    · exact hT.off hm
    · obtain ⟨o, ho⟩ := hT.tmem
      have := hn _ ho
      rw [List.mem_singleton.mp hm] at this
      exact Nat.lt_irrefl _ this
  row := by
    intro i r hi
    by_cases h : i < rows.length
    · rw [List.getElem?_append_left h] at hi
      obtain ⟨vs, q, ns, a1, b1, c1⟩ := hT.row i r hi
      refine ⟨vs, q, ns, ?_, hr _ b1 (List.mem_of_getElem? hi), c1⟩
      rw [List.getElem?_replicate] at a1 ⊢
      have h2 : i < k := by rw [← hT.len]; exact h
      rw [if_pos h2] at a1
      rw [if_pos (by omega)]; exact a1
    · rw [List.getElem?_append_right (by omega)] at hi
      have h0 : i - rows.length = 0 := by
        have := (List.getElem?_eq_some_iff.mp hi).1
        simp only [List.length_cons, List.length_nil] at this; omega
      rw [h0] at hi
      have e : a = r := by simpa using hi
      subst e
      refine ⟨_, n', _, ?_, ha, IntsAre.rep tok W⟩
      have hl := hT.len
      rw [List.getElem?_replicate, if_pos (by omega)]
  wide := by
    intro ns hns
    rw [List.eq_of_mem_replicate hns, List.length_replicate]
  small := ⟨hk, hT.small.2⟩
end
end Mine
namespace Mine
theorem keep_mapAt {m₀ : Str → Option Value} {stored : List Str} {u : Str → Option Value} {ps : List (Str × Value)} (hp : (ps.all fun p => stored.contains p.1) = true) : ∀ z, stored.contains z = false → mapAt m₀ stored u ps z = m₀ z := by
  intro z hz
  unfold mapAt
  cases e : ps.lookup z with
  | some v =>
    have := List.all_eq_true.mp hp _ (lookup_mem e)
    rw [hz] at this; cases this
  | none => show (if stored.contains z = true then u z else m₀ z) = m₀ z; rw [hz]; rfl
theorem keep_ite {m₀ f : Str → Option Value} {stored : List Str} {x : Str} {v : Option Value} (hx : stored.contains x = true) (h : ∀ z, stored.contains z = false → f z = m₀ z) :
    ∀ z, stored.contains z = false → (fun y => if y = x then v else f y) z = m₀ z := by
  intro z hz
  by_cases e : z = x
  · rw [e, hx] at hz; cases hz
  · show (if z = x then v else f z) = m₀ z; rw [if_neg e]; exact h z hz
end Mine
namespace Mine
section
variable {h₀ : Heap} {L : Addr} {news : List (Addr × Obj)} {t : Addr} {rows : List Addr} {T : List (List Int)} {H W : Nat}
theorem IsTab.cons {p : Addr × Obj} (hT : IsTab news t rows T H W) : IsTab (p :: news) t rows T H W := hT.sub fun _ hq _ => List.mem_cons_of_mem _ hq
/-- behind a turn that stores into the table: the iterator's object is let go, the rest is kept -/
theorem IsTab.back {I : Addr} {o : Obj} {news' : List (Addr × Obj)} {T' : List (List Int)} (hT' : IsTab news' t rows T' H W) (hT : IsTab news t rows T H W) (hI : ∀ p ∈ news, p.1 ≠ I) (hk : ∀ p ∈ (I, o) :: news, p.1 ∉ rows → p ∈ news') :
    IsTab (Mine.offL I news') t rows T' H W ∧ (I, o) ∈ news' ∧ ∀ p ∈ news, p.1 ∉ rows → p ∈ Mine.offL I news' := by
  have ha := hT.apart hI
  exact ⟨hT'.offL ha.1 ha.2, hk _ (List.mem_cons_self) ha.2, fun p hp h => mem_offL.mpr ⟨hk p (List.mem_cons_of_mem _ hp) h, hI p hp⟩⟩
end
end Mine
namespace Mine
theorem keep_map2 {m₀ f : Str → Option Value} {stored stored' : List Str} {u : Str → Option Value} {ps : List (Str × Value)} (hp : (ps.all fun p => stored.contains p.1) = true) (hs : (stored'.all fun z => stored.contains z) = true)
    (h : ∀ z, stored.contains z = false → f z = m₀ z) : ∀ z, stored.contains z = false → mapAt f stored' u ps z = m₀ z := by
  intro z hz
  unfold mapAt
  cases e : ps.lookup z with
  | some v =>
    have := List.all_eq_true.mp hp _ (lookup_mem e)
    rw [hz] at this; cases this
  | none =>
    show (if stored'.contains z = true then u z else f z) = m₀ z
    cases hc : stored'.contains z with
    | true =>
      have := List.all_eq_true.mp hs z (by simpa using hc)
      rw [hz] at this; cases this
    | false => exact h z hz
end Mine
namespace Mine
section
variable {prog : Program} {w : World} {A : Around} {E : Value → Shared → Prop} {s : Shared} {h₀ : Heap} {L : Addr} {m : Str → Option Value} {news : List (Addr × Obj)} {t : Addr} {rows : List Addr} {T : List (List Int)} {H W : Nat}
theorem tab_len {r : Addr} {i : Nat} {Q : Value → Shared → Prop} (N : News h₀ L s.heap news) (I : IsTab news t rows T H W) (hr : rows[i]? = some r) (h : ∀ tok tk', Q (.int W tok) { s with toks := tk' }) :
    wpAny (model prog w) A (call (.builtin "len") [.ref r]) Q E s := by
  obtain ⟨vs, n, ns, hT, hn, hi⟩ := I.row i r hr
  have hs1 := I.wide ns (List.mem_of_getElem? hT)
  have hs2 := I.small.2
  have hl := hi.length
  refine len_ints_fit (isList_of (N.get hn)) hi (by omega) ?_
  rw [hs1]; exact h _ _
theorem tab_lenT {Q : Value → Shared → Prop} (N : News h₀ L s.heap news) (I : IsTab news t rows T H W) (h : ∀ tok tk', Q (.int H tok) { s with toks := tk' }) :
    wpAny (model prog w) A (call (.builtin "len") [.ref t]) Q E s := by
  obtain ⟨n, hn⟩ := I.outer
  have hs2 := I.small.1
  have hl := I.len
  refine Calls.call_len_list (isList_of (N.get hn)) (by simp; omega) ?_
  rw [List.size_toArray, List.length_map, hl]; exact h _ _
end
end Mine
namespace Mine
theorem cell_setF {news : List (Addr × Obj)} {t : Addr} {rows : List Addr} {T : List (List Int)} {H W : Nat} {i j : Nat} {v : Int} (hT : IsTab news t rows T H W) (hi : i < H) (hj : j < W) :
    cell (setT T i j v) = fun i' j' => if i' = i ∧ j' = j then v else cell T i' j' := by
  funext i' j'; exact cell_setT hT hi hj
end Mine
end
section
namespace Mine

/-- a cell by its three neighbours -/
def stepF (f : Nat → Nat → Int) (sub : Nat → Nat → Int) (i j : Nat) : Int :=
  min (min (f (i - 1) j + 1) (f i (j - 1) + 1)) (min (f (i - 1) (j - 1) + sub (i - 1) (j - 1)) (f (i - 1) (j - 1) + sub (i - 1) (j - 1) + 1))

/-- the table as far as it is filled: rows below i0 whole, row i0 below j0 -/
structure Part (inB : Nat → Nat → Bool) (sub : Nat → Nat → Int) (H W : Nat) (f : Nat → Nat → Int) (i0 j0 : Nat) : Prop where
  out : ∀ i j, i < H → j < W → inB i j = false → f i j = 99
  top : ∀ j, j < W → inB 0 j = true → f 0 j = j
  left : ∀ i, i < H → inB i 0 = true → f i 0 = i
  done : ∀ i j, 1 ≤ i → 1 ≤ j → i < H → j < W → inB i j = true → (i < i0 ∨ (i = i0 ∧ j < j0)) → f i j = stepF f sub i j

section
variable {inB : Nat → Nat → Bool} {sub : Nat → Nat → Int} {H W : Nat} {f : Nat → Nat → Int} {i0 j0 : Nat}

theorem Part.store (P : Part inB sub H W f i0 j0) (hi : 1 ≤ i0) (hj : 1 ≤ j0) (hb : inB i0 j0 = true) : Part inB sub H W (fun i j => if i = i0 ∧ j = j0 then stepF f sub i0 j0 else f i j) i0 (j0 + 1) where
  out := by
    intro i j h1 h2 h3
    have hne : ¬ (i = i0 ∧ j = j0) := fun ⟨a, b⟩ => by rw [a, b, hb] at h3; cases h3
    simp only [if_neg hne]; exact P.out i j h1 h2 h3
  top := by
    intro j h1 h2
    have hne : ¬ (0 = i0 ∧ j = j0) := fun ⟨a, _⟩ => by omega
    simp only [if_neg hne]; exact P.top j h1 h2
  left := by
    intro i h1 h2
    have hne : ¬ (i = i0 ∧ 0 = j0) := fun ⟨_, a⟩ => by omega
    simp only [if_neg hne]; exact P.left i h1 h2
  done := by
    intro i j h1 h2 h3 h4 h5 h6
    unfold stepF
    have n1 : ¬ (i - 1 = i0 ∧ j = j0) := fun ⟨a, b⟩ => by omega
    have n2 : ¬ (i = i0 ∧ j - 1 = j0) := fun ⟨a, b⟩ => by omega
    have n3 : ¬ (i - 1 = i0 ∧ j - 1 = j0) := fun ⟨a, b⟩ => by omega
    simp only [if_neg n1, if_neg n2, if_neg n3]
    by_cases h : i = i0 ∧ j = j0
    · obtain ⟨rfl, rfl⟩ := h
      simp
    · simp only [if_neg h]
      exact P.done i j h1 h2 h3 h4 h5 (by omega)

theorem Part.skip (P : Part inB sub H W f i0 j0) (hb : inB i0 j0 = false) : Part inB sub H W f i0 (j0 + 1) where
  out := P.out
  top := P.top
  left := P.left
  done := by
    intro i j h1 h2 h3 h4 h5 h6
    refine P.done i j h1 h2 h3 h4 h5 ?_
    by_cases h : i = i0 ∧ j = j0
    · rw [h.1, h.2, hb] at h5; cases h5
    · omega

theorem Part.row (P : Part inB sub H W f i0 W) : Part inB sub H W f (i0 + 1) 1 where
  out := P.out
  top := P.top
  left := P.left
  done := fun i j h1 h2 h3 h4 h5 _ => P.done i j h1 h2 h3 h4 h5 (by omega)
end
end Mine
namespace Mine
def inBand (b : Int) (i j : Nat) : Bool := decide ((((i : Int) - (j : Int)).natAbs : Int) ≤ b)
def cell0 (i j : Nat) : Int := if i = 0 then (j : Int) else if j = 0 then (i : Int) else 0
end Mine
namespace Mine
/-- the three ways back from (i, j): cost, row, column -/
def cst (f : Nat → Nat → Int) (sub : Nat → Nat → Int) (i j : Nat) : Nat → Int × Int × Int
  | 0 => (if i = 0 ∨ j = 0 then 1000000000 else f (i - 1) (j - 1) + sub (i - 1) (j - 1), (i : Int) - 1, (j : Int) - 1)
  | 1 => (if i = 0 then 1000000000 else f (i - 1) j + 1, (i : Int) - 1, (j : Int))
  | _ => (if j = 0 then 1000000000 else f i (j - 1) + 1, (i : Int), (j : Int) - 1)
end Mine
namespace Mine
/-- (i', j') is a way back from (i, j) that costs least -/
def Back (f : Nat → Nat → Int) (sub : Nat → Nat → Int) (p p' : Nat × Nat) : Prop :=
  ∃ q, q < 3 ∧ (∀ q', q' < 3 → (cst f sub p.1 p.2 q).1 ≤ (cst f sub p.1 p.2 q').1) ∧ (p'.1 : Int) = (cst f sub p.1 p.2 q).2.1 ∧ (p'.2 : Int) = (cst f sub p.1 p.2 q).2.2

/-- the points visited, from the last cell down to (i, j) -/
structure Trail (f : Nat → Nat → Int) (sub : Nat → Nat → Int) (H W : Nat) (P : List (Nat × Nat)) (i j : Nat) : Prop where
  first : P[0]? = some (H - 1, W - 1)
  last : P[P.length - 1]? = some (i, j)
  steps : ∀ (k : Nat) p p', P[k]? = some p → P[k + 1]? = some p' → p ≠ (0, 0) ∧ Back f sub p p'

theorem Trail.start {f : Nat → Nat → Int} {sub : Nat → Nat → Int} {H W : Nat} : Trail f sub H W [(H - 1, W - 1)] (H - 1) (W - 1) where
  first := rfl
  last := rfl
  steps := by intro k p p' _ h; simp at h

theorem Trail.next {f : Nat → Nat → Int} {sub : Nat → Nat → Int} {H W : Nat} {P : List (Nat × Nat)} {i j i' j' : Nat} (t : Trail f sub H W P i j) (hne : ¬ (i = 0 ∧ j = 0)) (hb : Back f sub (i, j) (i', j')) : Trail f sub H W (P ++ [(i', j')]) i' j' := by
  have hpos : 0 < P.length := (List.getElem?_eq_some_iff.mp t.first).1
  refine ⟨?_, ?_, ?_⟩
  · rw [List.getElem?_append_left hpos]; exact t.first
  · rw [List.length_append]; simp
  · intro k p p' h1 h2
    by_cases hk : k + 1 < P.length
    · rw [List.getElem?_append_left (by omega)] at h1
      rw [List.getElem?_append_left hk] at h2
      exact t.steps k p p' h1 h2
    · have hk2 : k + 1 < (P ++ [(i', j')]).length := (List.getElem?_eq_some_iff.mp h2).1
      simp only [List.length_append, List.length_cons, List.length_nil] at hk2
      have hk3 : k = P.length - 1 := by omega
      rw [List.getElem?_append_left (by omega), hk3, t.last] at h1
      rw [List.getElem?_append_right (by omega), show k + 1 - P.length = 0 from by omega] at h2
      have e1 : (i, j) = p := Option.some.inj h1
      have e2 : (i', j') = p' := by simpa using h2
      subst e1; subst e2
      exact ⟨fun e => hne ⟨congrArg Prod.fst e, congrArg Prod.snd e⟩, hb⟩
end Mine
end
section
open PySem PySem.W PyProof.Rows
set_option maxRecDepth 100000
namespace Mine
section
variable {M : Model} {A : Around} {E : Value → Shared → Prop} {s : Shared} {h₀ : Heap} {L a c P : Addr} {m mg mb : Str → Option Value} {cn : Str} {cs : Scope} {ccd : Value} {cl : List (Str × Addr)} {news : List (Addr × Obj)}
  {p : Program} {loose : List Str} {mean : ExcName → Option Value} {params : Arguments} {body : PySem.Expr} {scope : Scope} {pos : Pos} {clos : List (Str × Addr)}

/-- what is kept of the lambda's code: nothing yet, or the code made before -/
def LamSt (P : Addr) (pos : Pos) (qual : Str) (news : List (Addr × Obj)) : Prop :=
  (P, tabObj #[]) ∈ news ∨ ∃ c' oc vs t, (P, tabObj #[rawInt pos.line, rawInt pos.col, .ref c']) ∈ news ∧ (c', oc) ∈ news ∧ oc.data = .fields vs ∧ vs[1]? = some (.str qual t)

theorem LamSt.mem {qual : Str} (h : LamSt P pos qual news) : ∃ o, (P, o) ∈ news := by
  rcases h with h | ⟨_, _, _, _, h, _⟩
  · exact ⟨_, h⟩
  · exact ⟨_, h⟩

theorem LamSt.mono {qual : Str} {news' : List (Addr × Obj)} (h : LamSt P pos qual news) (hs : ∀ p ∈ news, p ∈ news') : LamSt P pos qual news' := by
  rcases h with h | ⟨c', oc, vs, t, h1, h2, h3⟩
  · exact .inl (hs _ h)
  · exact .inr ⟨c', oc, vs, t, hs _ h1, hs _ h2, h3⟩

theorem lam_L {Q : Value → Shared → Prop} (F : Fr h₀ L s.heap m) (N : News h₀ L s.heap news) (T : Top p loose mean mg mb h₀) (C : CodeHd h₀ c P) (hcd : ccd = .ref c)
    (hst : LamSt P pos ((envX cn cs L a ccd cl).qual ++ "<lambda>") news) (hdef : defaultsOf params (envX cn cs L a ccd cl) = ([], [])) (hcl : closureFor scope (envX cn cs L a ccd cl) = pure clos)
    (h : ∀ f c' oc vs t ctv h' tk news', Fr h₀ L h' m → News h₀ L h' news' → (f, kla_obj "<lambda>" ((envX cn cs L a ccd cl).qual ++ "<lambda>") params body scope clos ((mg "__name__").getD .none) c' ctv) ∈ news' →
      (P, tabObj #[rawInt pos.line, rawInt pos.col, .ref c']) ∈ news' → (c', oc) ∈ news' → oc.data = .fields vs → vs[1]? = some (.str ((envX cn cs L a ccd cl).qual ++ "<lambda>") t) → (∀ q ∈ news, q.1 ≠ P → q ∈ news') → Q (.ref f) { s with heap := h', toks := tk }) :
    wpAny M A (eval (.Lambda params body scope pos) (envX cn cs L a ccd cl)) Q E s := by
  refine kla_eval hdef ?_
  rcases hst with hm | ⟨c', oc, vs, t, hm, hc, hd, hv⟩
  · have N2 : News h₀ L s.heap ((P, tabObj #[]) :: offL P news) := fun q hq => by
      rcases List.mem_cons.mp hq with e | hq
      · rw [e]; exact N _ hm
      · exact N _ (mem_offL.mp hq).1
    refine kla_nest F N2 T C hcd (.head fun q hq => (mem_offL.mp hq).2) True.intro rfl hcl fun f c' oc vs t ctv h' tk F' N' hd hv hlt hcf => ?_
    refine h f c' oc vs t ctv h' tk _ F' N' List.mem_cons_self ?_ (List.mem_cons_of_mem _ List.mem_cons_self) hd hv fun q hq hne => List.mem_cons_of_mem _ (List.mem_cons_of_mem _ (List.mem_cons_of_mem _ (mem_offL.mpr ⟨hq, hne⟩)))
    exact List.mem_cons_of_mem _ (List.mem_cons_of_mem _ (by simp))
  · refine kla_hit (c' := c') F N T C hcd hm ?_ ?_ hcl fun f ctv h' tk F' N' hlt => ?_
    · simp [TriplesOk, rawInt]
    · simp [codeAmong, rawInt]
    · exact h f c' oc vs t ctv h' tk _ F' N' List.mem_cons_self (List.mem_cons_of_mem _ hm) (List.mem_cons_of_mem _ hc) hd hv fun q hq _ => List.mem_cons_of_mem _ hq
end
end Mine
namespace Mine
theorem ne32 {h₀ h : Heap} {L P a : Addr} {o : Obj} {pos : Pos} {qual : Str} {news : List (Addr × Obj)} (N : News h₀ L h news) (hl : LamSt P pos qual news) (hm : (a, o) ∈ news) (ho : ∀ ps, o ≠ tabObj ps) : a ≠ P := by
  intro e
  have q1 := (N _ hm).1
  rcases hl with h | ⟨_, _, _, _, h, _⟩
  · have q2 := (N _ h).1
    rw [show (a, o).1 = P from e] at q1
    rw [show ((P, tabObj #[]) : Addr × Obj).1 = P from rfl, q1] at q2
    exact ho _ (Option.some.inj q2)
  · have q2 := (N _ h).1
    rw [show (a, o).1 = P from e] at q1
    rw [q1] at q2
    exact ho _ (Option.some.inj q2)
end Mine
end
section
open PySem PySem.W PyProof.Rows
set_option maxRecDepth 100000
namespace Mine
/-- a tuple's object -/
abbrev tupO (vs : List Value) : Obj := { cls := .type "tuple", data := .seq vs.toArray }

/-- the list at al bears the points P -/
structure IsWay (news : List (Addr × Obj)) (al : Addr) (as : List Addr) (P : List (Nat × Nat)) : Prop where
  outer : ∃ n, (al, rowO (as.map Value.ref) n) ∈ news
  len : as.length = P.length
  pt : ∀ (k : Nat) a, as[k]? = some a → ∃ (i j : Nat) (ti tj : Tok), P[k]? = some (i, j) ∧ (a, tupO [.int i ti, .int j tj]) ∈ news

structure WSt where
  i : Nat
  j : Nat
  ti : Tok
  tj : Tok
  as : List Addr
  P : List (Nat × Nat)

/-- behind k of the three ways -/
structure DirJ (f : Nat → Nat → Int) (sub : Nat → Nat → Int) (i j : Nat) (dc dl d1 d2 d3 : Addr) (nw : List (Addr × Obj)) (k : Nat) (es : List (Addr × Addr)) (nk : List (Addr × Obj)) : Prop where
  dirs : (dl, rowO [.ref d1, .ref d2, .ref d3] 0) ∈ nk
  len : es.length = k
  costs : ∃ n, (dc, rowO (es.map fun e => .ref e.1) n) ∈ nk
  each : ∀ (q : Nat) e, es[q]? = some e → ∃ tok t1 t2, (e.1, tupO [.int (cst f sub i j q).1 tok, .ref e.2]) ∈ nk ∧ (e.2, tupO [.int (cst f sub i j q).2.1 t1, .int (cst f sub i j q).2.2 t2]) ∈ nk ∧ e.1 ≠ dc ∧ e.2 ≠ dc
  w1 : ∃ t1 t2, (d1, tupO [.int ((i : Int) - 1) t1, .int ((j : Int) - 1) t2]) ∈ nk
  w2 : ∃ t1 t2, (d2, tupO [.int ((i : Int) - 1) t1, .int j t2]) ∈ nk
  w3 : ∃ t1 t2, (d3, tupO [.int i t1, .int ((j : Int) - 1) t2]) ∈ nk
  keep : ∀ p ∈ nw, p ∈ nk
  apart : dl ≠ dc ∧ d1 ≠ dc ∧ d2 ≠ dc ∧ d3 ≠ dc ∧ ∀ p ∈ nw, p.1 ≠ dc

theorem DirJ.next {f : Nat → Nat → Int} {sub : Nat → Nat → Int} {i j : Nat} {dc dl d1 d2 d3 : Addr} {nw : List (Addr × Obj)} {k : Nat} {es : List (Addr × Addr)} {nk : List (Addr × Obj)}
    (D : DirJ f sub i j dc dl d1 d2 d3 nw k es nk) {I ct pt : Addr} {o : Obj} {n0 : Nat} {cost pi pj : Int} {tok t1 t2 : Tok}
    (hdc : (dc, rowO (es.map fun e => .ref e.1) n0) ∈ nk) (hI : ∀ p ∈ nk, p.1 ≠ I) (h1 : I < pt ∧ AllLt pt nk) (h2 : pt < ct ∧ I < ct ∧ AllLt ct nk) (hc : cst f sub i j k = (cost, pi, pj)) :
    DirJ f sub i j dc dl d1 d2 d3 nw (k + 1) (es ++ [(ct, pt)])
      (offL I (updL dc (rowO ((es.map fun e => Value.ref e.1) ++ [.ref ct]) (n0 + 1)) ((ct, tupO [.int cost tok, .ref pt]) :: (pt, tupO [.int pi t1, .int pj t2]) :: (I, o) :: nk))) := by
  have a1 := allLt_mem _ h1.2
  have a2 := allLt_mem _ h2.2.2
  have hcI : ct ≠ I := Ne.symm (Nat.ne_of_lt h2.2.1)
  have hpI : pt ≠ I := Ne.symm (Nat.ne_of_lt h1.1)
  have hcd : ct ≠ dc := Ne.symm (Nat.ne_of_lt (a2 _ hdc))
  have hpd : pt ≠ dc := Ne.symm (Nat.ne_of_lt (a1 _ hdc))
  have hdI : dc ≠ I := hI _ hdc
  have up : ∀ p ∈ nk, p.1 ≠ dc → p ∈ offL I (updL dc (rowO ((es.map fun e => Value.ref e.1) ++ [.ref ct]) (n0 + 1)) ((ct, tupO [.int cost tok, .ref pt]) :: (pt, tupO [.int pi t1, .int pj t2]) :: (I, o) :: nk)) :=
    fun p hp hne => mem_offL.mpr ⟨updL_mem_ne hne (List.mem_cons_of_mem _ (List.mem_cons_of_mem _ (List.mem_cons_of_mem _ hp))), hI p hp⟩
  refine ⟨up _ D.dirs D.apart.1, by simp [D.len], ⟨n0 + 1, mem_offL.mpr ⟨?_, hdI⟩⟩, ?_, ?_, ?_, ?_, fun p hp => up _ (D.keep p hp) (D.apart.2.2.2.2 p hp), D.apart⟩
  · rw [List.map_append]
    exact updL_mem_self (o' := rowO (es.map fun e => .ref e.1) n0) (List.mem_cons_of_mem _ (List.mem_cons_of_mem _ (List.mem_cons_of_mem _ hdc)))
  · intro q e he
    by_cases hq : q < es.length
    · rw [List.getElem?_append_left hq] at he
      obtain ⟨tok, t1, t2, m1, m2, n1, n2⟩ := D.each q e he
      exact ⟨tok, t1, t2, up _ m1 n1, up _ m2 n2, n1, n2⟩
    · rw [List.getElem?_append_right (by omega)] at he
      have h0 : q - es.length = 0 := by
        have := (List.getElem?_eq_some_iff.mp he).1
        simp only [List.length_cons, List.length_nil] at this; omega
      rw [h0] at he
      have e1 : (ct, pt) = e := by simpa using he
      subst e1
      have hqk : q = k := by have := D.len; omega
      subst hqk
      rw [hc]
      refine ⟨tok, t1, t2, mem_offL.mpr ⟨updL_mem_ne hcd List.mem_cons_self, hcI⟩, mem_offL.mpr ⟨updL_mem_ne hpd (List.mem_cons_of_mem _ List.mem_cons_self), hpI⟩, hcd, hpd⟩
  · obtain ⟨t1, t2, h⟩ := D.w1; exact ⟨t1, t2, up _ h D.apart.2.1⟩
  · obtain ⟨t1, t2, h⟩ := D.w2; exact ⟨t1, t2, up _ h D.apart.2.2.1⟩
  · obtain ⟨t1, t2, h⟩ := D.w3; exact ⟨t1, t2, up _ h D.apart.2.2.2.1⟩
end Mine
namespace Mine
section
variable {T : List (List Int)} {one two : Str} {i j : Nat}
theorem cst0_out (h : i = 0 ∨ j = 0) : cst (cell T) (subC one two) i j 0 = (1000000000, (i : Int) - 1, (j : Int) - 1) := by
  show (if i = 0 ∨ j = 0 then _ else _, _, _) = _; rw [if_pos h]
theorem cst0_eq (hi : ¬ ((i : Int) - 1 < 0)) (hj : ¬ ((j : Int) - 1 < 0)) (h : (Txt.item one ((i : Int) - 1) == Txt.item two ((j : Int) - 1)) = true) :
    cst (cell T) (subC one two) i j 0 = (cell T ((i : Int) - 1).toNat ((j : Int) - 1).toNat + 0, (i : Int) - 1, (j : Int) - 1) := by
  show (if i = 0 ∨ j = 0 then _ else cell T (i - 1) (j - 1) + (if Txt.item one ((i - 1 : Nat) : Int) = Txt.item two ((j - 1 : Nat) : Int) then 0 else 1), _, _) = _
  rw [if_neg (by omega)]
  have e1 : ((i : Int) - 1).toNat = i - 1 := by omega
  have e2 : ((j : Int) - 1).toNat = j - 1 := by omega
  have e3 : ((i - 1 : Nat) : Int) = (i : Int) - 1 := by omega
  have e4 : ((j - 1 : Nat) : Int) = (j : Int) - 1 := by omega
  rw [e1, e2, e3, e4, if_pos (by simpa using h)]
theorem cst0_ne (hi : ¬ ((i : Int) - 1 < 0)) (hj : ¬ ((j : Int) - 1 < 0)) (h : (Txt.item one ((i : Int) - 1) == Txt.item two ((j : Int) - 1)) = false) :
    cst (cell T) (subC one two) i j 0 = (cell T ((i : Int) - 1).toNat ((j : Int) - 1).toNat + 1, (i : Int) - 1, (j : Int) - 1) := by
  show (if i = 0 ∨ j = 0 then _ else cell T (i - 1) (j - 1) + (if Txt.item one ((i - 1 : Nat) : Int) = Txt.item two ((j - 1 : Nat) : Int) then 0 else 1), _, _) = _
  rw [if_neg (by omega)]
  have e1 : ((i : Int) - 1).toNat = i - 1 := by omega
  have e2 : ((j : Int) - 1).toNat = j - 1 := by omega
  have e3 : ((i - 1 : Nat) : Int) = (i : Int) - 1 := by omega
  have e4 : ((j - 1 : Nat) : Int) = (j : Int) - 1 := by omega
  rw [e1, e2, e3, e4, if_neg (by simpa using h)]
theorem cst1_out (h : i = 0) : cst (cell T) (subC one two) i j 1 = (1000000000, (i : Int) - 1, (j : Int)) := by
  show (if i = 0 then _ else _, _, _) = _; rw [if_pos h]
theorem cst1_in (hi : ¬ ((i : Int) - 1 < 0)) : cst (cell T) (subC one two) i j 1 = (cell T ((i : Int) - 1).toNat (j : Int).toNat + 1, (i : Int) - 1, (j : Int)) := by
  have e1 : ((i : Int) - 1).toNat = i - 1 := by omega
  show (if i = 0 then _ else _, _, _) = _
  rw [if_neg (by omega), e1]; rfl
theorem cst2_out (h : j = 0) : cst (cell T) (subC one two) i j 2 = (1000000000, (i : Int), (j : Int) - 1) := by
  show (if j = 0 then _ else _, _, _) = _; rw [if_pos h]
theorem cst2_in (hj : ¬ ((j : Int) - 1 < 0)) : cst (cell T) (subC one two) i j 2 = (cell T (i : Int).toNat ((j : Int) - 1).toNat + 1, (i : Int), (j : Int) - 1) := by
  have e1 : ((j : Int) - 1).toNat = j - 1 := by omega
  show (if j = 0 then _ else _, _, _) = _
  rw [if_neg (by omega), e1]; rfl
end
end Mine
namespace Mine
theorem IsWay.push {news news' : List (Addr × Obj)} {al na : Addr} {as : List Addr} {P : List (Nat × Nat)} {n : Nat} {i j : Nat} {ti tj : Tok} (I : IsWay news al as P) (hm : (al, rowO (as.map Value.ref ++ [.ref na]) n) ∈ news')
    (hna : (na, tupO [.int i ti, .int j tj]) ∈ news') (hk : ∀ a ∈ as, ∀ o, (a, o) ∈ news → (a, o) ∈ news') : IsWay news' al (as ++ [na]) (P ++ [(i, j)]) where
  outer := ⟨n, by rw [List.map_append]; exact hm⟩
  len := by rw [List.length_append, List.length_append, I.len]; rfl
  pt := by
    intro k a h
    by_cases hl : k < as.length
    · rw [List.getElem?_append_left hl] at h
      obtain ⟨i', j', ti', tj', h1, h2⟩ := I.pt k a h
      exact ⟨i', j', ti', tj', by rw [List.getElem?_append_left (by rw [← I.len]; exact hl)]; exact h1, hk a (List.mem_of_getElem? h) _ h2⟩
    · have hl2 : k < (as ++ [na]).length := (List.getElem?_eq_some_iff.mp h).1
      simp only [List.length_append, List.length_cons, List.length_nil] at hl2
      have hl3 := I.len
      rw [List.getElem?_append_right (by omega), show k - as.length = 0 from by omega] at h
      have e : na = a := by simpa using h
      subst e
      refine ⟨i, j, ti, tj, ?_, hna⟩
      rw [List.getElem?_append_right (by omega), show k - P.length = 0 from by omega]; rfl
end Mine
namespace Mine
abbrev keyPos : Pos := ⟨36, 40, 36, 58⟩
abbrev keyQual : Str := Str.ofString "_edit_dist_backtrace" ++ Str.ofString ".<locals>." ++ Str.ofString "<lambda>"
/-- between the turns of the while -/
structure WhileJ (f : Nat → Nat → Int) (sub : Nat → Nat → Int) (H W : Nat) (news : List (Addr × Obj)) (al : Addr) (c : WSt) (nw : List (Addr × Obj)) : Prop where
  hi : c.i < H
  hj : c.j < W
  keep : ∀ p ∈ news, p.1 ≠ 32 → p ∈ nw
  way : IsWay nw al c.as c.P
  trail : Trail f sub H W c.P c.i c.j
  room : c.as.length + (c.i + c.j) ≤ H + W
  lam : LamSt 32 keyPos keyQual nw
  fresh : ∀ p ∈ news, p.1 ≠ al

theorem back_fin {f : Nat → Nat → Int} {sub : Nat → Nat → Int} {H W i j q : Nat} (hbd : ∀ i j, i < H → j < W → 0 ≤ f i j ∧ f i j ≤ 1000) (hi : i < H) (hj : j < W) (hz : ¬ (i = 0 ∧ j = 0)) (hq : q < 3)
    (hmin : ∀ q', q' < 3 → (cst f sub i j q).1 ≤ (cst f sub i j q').1) :
    ∃ i' j' : Nat, (i' : Int) = (cst f sub i j q).2.1 ∧ (j' : Int) = (cst f sub i j q).2.2 ∧ i' ≤ i ∧ j' ≤ j ∧ i' + j' < i + j := by
  have hfin : (cst f sub i j q).1 ≤ 1001 := by
    by_cases h0 : i = 0
    · have h := hmin 2 (by omega)
      have e : (cst f sub i j 2).1 = f i (j - 1) + 1 := by
        show (if j = 0 then _ else _) = _; rw [if_neg (by omega)]
      have := (hbd i (j - 1) hi (by omega)).2
      omega
    · have h := hmin 1 (by omega)
      have e : (cst f sub i j 1).1 = f (i - 1) j + 1 := by
        show (if i = 0 then _ else _) = _; rw [if_neg h0]
      have := (hbd (i - 1) j (by omega) hj).2
      omega
  have hc : q = 0 ∨ q = 1 ∨ q = 2 := by omega
  rcases hc with rfl | rfl | rfl
  · have h0 : ¬ (i = 0 ∨ j = 0) := by
      intro h
      have e : (cst f sub i j 0).1 = 1000000000 := by
        show (if i = 0 ∨ j = 0 then _ else _) = _; rw [if_pos h]
      omega
    refine ⟨i - 1, j - 1, ?_, ?_, by omega, by omega, by omega⟩
    · show ((i - 1 : Nat) : Int) = (i : Int) - 1; omega
    · show ((j - 1 : Nat) : Int) = (j : Int) - 1; omega
  · have h0 : ¬ (i = 0) := by
      intro h
      have e : (cst f sub i j 1).1 = 1000000000 := by
        show (if i = 0 then _ else _) = _; rw [if_pos h]
      omega
    refine ⟨i - 1, j, ?_, rfl, by omega, by omega, by omega⟩
    show ((i - 1 : Nat) : Int) = (i : Int) - 1; omega
  · have h0 : ¬ (j = 0) := by
      intro h
      have e : (cst f sub i j 2).1 = 1000000000 := by
        show (if j = 0 then _ else _) = _; rw [if_pos h]
      omega
    refine ⟨i, j - 1, rfl, ?_, by omega, by omega, by omega⟩
    show ((j - 1 : Nat) : Int) = (j : Int) - 1; omega

theorem WhileJ.next {f : Nat → Nat → Int} {sub : Nat → Nat → Int} {H W : Nat} {news nw nk nl : List (Addr × Obj)} {al na lc : Addr} {c : WSt} {h₀ h h' : Heap} {L L' : Addr} {aln i' j' : Nat} {t1 t2 : Tok} {oc : Obj} {vs : Array Value} {tq : Tok} {x y : Int}
    (J : WhileJ f sub H W news al c nw) (N6 : News h₀ L h nk) (N7 : News h₀ L' h' nl) (hz : ¬ (c.i = 0 ∧ c.j = 0)) (hk1 : ∀ p ∈ nw, p ∈ nk) (hk2 : ∀ p ∈ nk, p.1 ≠ 32 → p ∈ nl)
    (hal : (al, rowO (c.as.map Value.ref) aln) ∈ nl) (hlt : ∀ p ∈ nl, p.1 < na)
    (htab : (32, tabObj #[rawInt keyPos.line, rawInt keyPos.col, .ref lc]) ∈ nl) (hoc : (lc, oc) ∈ nl) (hod : oc.data = .fields vs) (hov : vs[1]? = some (.str keyQual tq))
    (hx : (i' : Int) = x) (hy : (j' : Int) = y) (hi' : i' ≤ c.i) (hj' : j' ≤ c.j) (hs' : i' + j' < c.i + c.j) (hb : Back f sub (c.i, c.j) (i', j')) :
    WhileJ f sub H W news al ⟨i', j', t1, t2, c.as ++ [na], c.P ++ [(i', j')]⟩ (updL al (rowO (c.as.map Value.ref ++ [.ref na]) (aln + 1)) ((na, tupO [.int x t1, .int y t2]) :: nl)) := by
  subst hx; subst hy
  have hnal : na ≠ al := Ne.symm (Nat.ne_of_lt (hlt _ hal))
  have lamk := J.lam.mono hk1
  have hasn : ∀ a ∈ c.as, a ≠ al ∧ a ≠ 32 := by
    intro a ha
    obtain ⟨k, hk⟩ := List.getElem?_of_mem ha
    obtain ⟨_, _, _, _, _, hm⟩ := J.way.pt k a hk
    have h32 := ne32 N6 lamk (hk1 _ hm) (by intro ps e; cases e)
    refine ⟨fun e => ?_, h32⟩
    have q1 := (N7 _ (hk2 _ (hk1 _ hm) h32)).1
    have q2 := (N7 _ hal).1
    subst e
    have q1 : h'.get? a = _ := q1
    rw [show h'.get? a = some (rowO (c.as.map Value.ref) aln) from q2] at q1
    have q3 := congrArg (Option.map Obj.cls) q1
    simp at q3
  have up : ∀ p ∈ nl, p.1 ≠ al → p ∈ updL al (rowO (c.as.map Value.ref ++ [.ref na]) (aln + 1)) ((na, tupO [.int i' t1, .int j' t2]) :: nl) :=
    fun p hp hne => updL_mem_ne hne (List.mem_cons_of_mem _ hp)
  refine ⟨?_, ?_, ?_, ?_, J.trail.next hz hb, ?_, .inr ⟨lc, oc, vs, tq, up _ htab ?_, up _ hoc ?_, hod, hov⟩, J.fresh⟩
  · exact Nat.lt_of_le_of_lt hi' J.hi
  · exact Nat.lt_of_le_of_lt hj' J.hj
  · exact fun p hp hne => up p (hk2 p (hk1 p (J.keep p hp hne)) hne) (J.fresh p hp)
  · refine J.way.push (n := aln + 1) (updL_mem_self (List.mem_cons_of_mem _ hal)) (updL_mem_ne hnal List.mem_cons_self) fun a ha o ho => ?_
    exact up _ (hk2 _ (hk1 _ ho) (hasn a ha).2) (hasn a ha).1
  · have := J.room
    simp only [List.length_append, List.length_cons, List.length_nil]
    omega
  · intro e
    have q1 := (N7 _ htab).1
    have q2 := (N7 _ hal).1
    rw [show ((32 : Addr), tabObj #[rawInt keyPos.line, rawInt keyPos.col, .ref lc]).1 = al from e] at q1
    have q1 : h'.get? al = _ := q1
    rw [show h'.get? al = some (rowO (c.as.map Value.ref) aln) from q2] at q1
    cases q1
  · intro e
    have q1 := (N7 _ hoc).1
    have q2 := (N7 _ hal).1
    rw [show (lc, oc).1 = al from e] at q1
    have q1 : h'.get? al = _ := q1
    rw [show h'.get? al = some (rowO (c.as.map Value.ref) aln) from q2] at q1
    cases q1
    cases hod
end Mine
namespace Mine
theorem IsWay.rev {news news' : List (Addr × Obj)} {al S : Addr} {as : List Addr} {P : List (Nat × Nat)} {n : Nat} (I : IsWay news al as P) (hm : (S, rowO (as.map Value.ref).reverse n) ∈ news') (hk : ∀ p ∈ news, p ∈ news') : IsWay news' S as.reverse P.reverse where
  outer := ⟨n, by rw [List.map_reverse]; exact hm⟩
  len := by rw [List.length_reverse, List.length_reverse, I.len]
  pt := by
    intro k a h
    have hl : k < as.reverse.length := (List.getElem?_eq_some_iff.mp h).1
    rw [List.length_reverse] at hl
    rw [List.getElem?_reverse hl] at h
    obtain ⟨i, j, ti, tj, h1, h2⟩ := I.pt _ a h
    refine ⟨i, j, ti, tj, ?_, hk _ h2⟩
    rw [List.getElem?_reverse (by rw [← I.len]; exact hl), ← I.len]; exact h1
end Mine
end
section
open PySem PySem.W PyProof.Rows
set_option maxRecDepth 100000
namespace Mine
theorem nolen_lri : typeLookup (.type "list_reverseiterator") "__len__" = pure none := by rw [typeLookup_type, builtinLookup_eq_fast]; kernel_rfl
theorem hint_lri : typeLookup (.type "list_reverseiterator") "__length_hint__" = pure (some (.builtin "list_reverseiterator.__length_hint__")) := by rw [typeLookup_type, builtinLookup_eq_fast]; kernel_rfl

section
variable {prog : Program} {w : World} {A : Around} {E : Value → Shared → Prop} {s : Shared} {R : Result → Shared → Prop}

theorem rev_extend {I l S : Addr} {items : Array Value} (hh : A.handled = none) (hne : l ≠ I) (hSI : S ≠ I) (hSl : S ≠ l) (hit : s.heap.IsRevIter I l ((items.size : Int) - 1)) (hl : s.heap.IsList l items) (hn : items.size ≤ 1000) (res : Value) (c₀ : Nat)
    (hS : s.heap.get? S = some { cls := .type "list", data := .seq #[] c₀ })
    (hR : ∀ h' tk acc' c', (∀ b o, b ≠ S → b ≠ I → s.heap.get? b = some o → h'.get? b = some o) → h'.get? S = some { cls := .type "list", dict := none, data := .seq acc' c', slots := #[] } →
      ItemsOf (fun i v => items[items.size - 1 - i]? = some v) acc' items.size → R (.ok (.ret res)) { s with heap := h', toks := tk }) :
    wpAny (model prog w) A.in1 (Builtin.List.listExtendWith (.ref S) (.ref I) res)
      (fun fin s' => match fin with | .done f => R (.ok f) s' | .again c' => c'.quiet = true ∧ codeAny (model prog w) A c' R s') (fun e s' => R (.error e) s') s := by
  have hSf : S ∉ [I, l] := fun hm => by
    rcases List.mem_cons.mp hm with e | hm
    · exact hSI e
    · exact hSl (List.mem_singleton.mp hm)
  have W := (Walks.listRev (prog := prog) (w := w) (A := A.in1) hh I l hne items).toS
  have hT : s.TypeIs (.ref I) "list_reverseiterator" := hit.typeIs
  have h1 : Builtin.List.listSameRef (.ref S) (.ref I) = false := by simp [Builtin.List.listSameRef, hSI]
  unfold Builtin.List.listExtendWith
  refine wpAny_bind (wpAny_typeOf hT ?_)
  have h2 : (Value.type "list_reverseiterator" == Value.type "list") = false := by decide
  have h3 : (Value.type "list_reverseiterator" == Value.type "tuple") = false := by decide
  simp only [h1, h2, h3, Bool.or_false, Bool.false_eq_true, if_false]
  refine wpAny_bind (wpAny_pyIter_revIter hit ?_)
  refine wpAny_bind (wpAny_holding ?_)
  unfold Builtin.List.listLengthHint
  refine wpAny_bind (wpAny_specialOf hT nolen_lri ?_)
  show wpAny _ A.in1 (specialOf (Value.ref I) (Str.ofString "__length_hint__") >>= _) _ _ _
  refine wpAny_bind (wpAny_specialOf hT hint_lri ?_)
  (generalize hid : ("list_reverseiterator.__length_hint__" : String) = id0; wp_delta; rw [show splitId id0 = some ("list_reverseiterator", "__length_hint__") from by subst hid; decide +kernel]; subst hid)
  refine wpAny_bind (wpAny_isInstance (b := true) hT (by rw [isSubtype_type]; kernel_rfl) ?_)
  refine wpAny_pure ?_
  rw [if_neg (by decide)]
  refine wpAny_pure ⟨plainId_quiet PySem.F.plain_extend_loop _, codeAny_extend_loopS W (by rw [sizeLine_eq]; omega) S hSf res items.size 0 _ #[] c₀ rfl (Nat.zero_le _) ⟨Nat.zero_le _, by simpa using hit, hl⟩ hS (ItemsOf.nil _) fun s' acc' c' hm hS' hacc => ?_⟩
  rw [Moved.eq_with hm]
  refine hR s'.heap s'.toks acc' c' (fun b o hb1 hb2 e => hm.heap b o (fun hmem => ?_) e) hS' hacc
  rcases List.mem_cons.mp hmem with e' | hmem
  · exact hb1 e'
  · exact hb2 (List.mem_singleton.mp hmem)

theorem rev_init {I l S : Addr} {items : Array Value} (hh : A.handled = none) (hne : l ≠ I) (hSI : S ≠ I) (hSl : S ≠ l) (hit : s.heap.IsRevIter I l ((items.size : Int) - 1)) (hl : s.heap.IsList l items) (hn : items.size ≤ 1000)
    (hS : s.heap.get? S = some { cls := .type "list", data := .seq #[] })
    (hR : ∀ h' tk acc' c', (∀ b o, b ≠ S → b ≠ I → s.heap.get? b = some o → h'.get? b = some o) → h'.get? S = some { cls := .type "list", dict := none, data := .seq acc' c', slots := #[] } →
      ItemsOf (fun i v => items[items.size - 1 - i]? = some v) acc' items.size → R (.ok (.ret .none)) { s with heap := h', toks := tk }) :
    wpAny (model prog w) A.in1 (Builtin.«list.__init__» ⟨[.ref S, .ref I], []⟩)
      (fun fin s' => match fin with | .done f => R (.ok f) s' | .again c' => c'.quiet = true ∧ codeAny (model prog w) A c' R s') (fun e s' => R (.error e) s') s := by
  show wpAny _ A.in1 (do let old ← Builtin.List.listItems (.ref S); Builtin.List.listUpdate (.ref S) (fun _ => #[]); letGo old.toList.reverse; Builtin.List.listExtendWith (.ref S) (.ref I) .none) _ _ s
  refine wpAny_bind ?_
  unfold Builtin.List.listItems
  refine wpAny_bind (wpAny_seqItems hS rfl (wpAny_pure ?_))
  show wpAny _ A.in1 (updateSeq S (fun _ => #[]) >>= fun _ => letGo (#[] : Array Value).toList.reverse >>= fun _ => Builtin.List.listExtendWith (.ref S) (.ref I) .none) _ _ s
  refine wpAny_bind (wpAny_updateSeq hS rfl ?_)
  have hS₂ := Heap.get?_update_self (Obj.mapSeq (fun _ => (#[] : Array Value))) hS rfl
  have oth : ∀ b o, b ≠ S → s.heap.get? b = some o → (s.heap.update S (Obj.mapSeq (fun _ => (#[] : Array Value)))).get? b = some o :=
    fun b o hb e => (Heap.get?_update_other _ _ (Ne.symm hb)).trans e
  refine wpAny_bind (wpAny_letGo ?_)
  refine rev_extend hh hne hSI hSl (hit.at fun o e => oth I o (Ne.symm hSI) e) (hl.at fun o e => oth l o (Ne.symm hSl) e) hn .none _ hS₂ fun h' tk acc' c' hk hS' hacc => ?_
  exact hR h' tk acc' c' (fun b o hb hb2 e => hk b o hb hb2 (oth b o hb e)) hS' hacc

/-- list(reversed(..)) of a list that the ledger bears -/
theorem list_rev {h₀ : Heap} {L I l : Addr} {m : Str → Option Value} {news : List (Addr × Obj)} {vs : List Value} {n : Nat} {Q : Value → Shared → Prop} (hh : A.handled = none) (F : Fr h₀ L s.heap m)
    (N : News h₀ L s.heap ((I, revObj l ((vs.length : Int) - 1)) :: news)) (hl : (l, rowO vs n) ∈ news) (hI : ∀ p ∈ news, p.1 ≠ I) (hn : vs.length ≤ 1000)
    (h : ∀ S h' tk c', Fr h₀ L h' m → News h₀ L h' ((S, rowO vs.reverse c') :: news) → (∀ p ∈ news, p.1 < S) → Q (.ref S) { s with heap := h', toks := tk }) :
    wpAny (model prog w) A (call (.type "list") [.ref I]) Q E s := by
  refine callType_codes (Q₁ := fun obj s₁ => obj = .ref s.heap.objs.size ∧ s₁ = { s with heap := s.heap.push { cls := .type "list", data := .seq #[] } }) PySem.F.called_list (PySem.F.typeCall_list_1 _) PySem.F.entry_list_init
    (code_list_new _ ⟨rfl, rfl⟩) fun obj s₁ h₁ => ?_
  obtain ⟨rfl, rfl⟩ := h₁
  have hS : (s.heap.push { cls := .type "list", data := .seq #[] }).get? s.heap.objs.size = some { cls := .type "list", data := .seq #[] } := Heap.get?_push_size _ rfl
  have gI := (N _ List.mem_cons_self)
  have gl := (N _ (List.mem_cons_of_mem _ hl))
  have hlI : l ≠ I := hI _ hl
  have hSI : s.heap.objs.size ≠ I := Ne.symm (Nat.ne_of_lt (Heap.lt_size gI.1))
  have hSl : s.heap.objs.size ≠ l := Ne.symm (Nat.ne_of_lt (Heap.lt_size gl.1))
  have hsz : vs.toArray.size = vs.length := List.size_toArray ..
  refine ⟨⟨_, hS, rfl⟩, PySem.F.args_list_init_2 _ _, rev_init (A := A.in1) (items := vs.toArray) (l := l) hh hlI hSI hSl ⟨_, Heap.get?_push_of_some _ gI.1, rfl, by rw [hsz]; rfl⟩ (isList_of (Heap.get?_push_of_some _ gl.1)) (by rw [hsz]; exact hn) hS fun h' tk acc' c' hk hS' hacc => ?_⟩
  refine ⟨rfl, ?_⟩
  have hold : ∀ b o, b ≠ I → s.heap.get? b = some o → h'.get? b = some o := fun b o hb e => hk b o (Nat.ne_of_lt (Heap.lt_size e)) hb (Heap.get?_push_of_some _ e)
  have hacc2 : acc' = vs.reverse.toArray := by
    apply Array.toList_inj.mp
    apply List.ext_getElem?
    intro i
    have hz := hacc.1
    rw [hsz] at hz
    have hzl : acc'.toList.length = vs.length := by rw [Array.length_toList]; exact hz
    by_cases hi : i < vs.length
    · have hx : acc'[i]? = some acc'[i] := Array.getElem?_eq_getElem (by omega)
      have h9 := hacc.2 i _ hx
      rw [hsz] at h9
      have h9 : vs[vs.length - 1 - i]? = some acc'[i] := by simpa using h9
      rw [Array.getElem?_toList, hx, ← h9]
      show _ = vs.reverse[i]?
      rw [List.getElem?_reverse hi]
    · rw [List.getElem?_eq_none (by omega)]
      show none = vs.reverse[i]?
      rw [List.getElem?_eq_none (by rw [List.length_reverse]; omega)]
  rw [hacc2] at hS'
  have F' : Fr h₀ L h' m := by
    obtain ⟨oL, a1, a2, hoL, a3⟩ := F.ns
    refine ⟨⟨oL, a1, a2, hold _ _ (fun q => gI.2.1 q.symm) hoL, a3⟩, fun b x e => hold b x (fun q => ?_) (F.keep b x e), F.above⟩
    have := gI.2.2
    rw [q] at e
    rw [show h₀.get? I = none from this] at e; cases e
  refine h _ h' tk c' F' (fun p hp => ?_) fun p hp => Heap.lt_size (N p (List.mem_cons_of_mem _ hp)).1
  rcases List.mem_cons.mp hp with e | hp
  · rw [e]
    refine ⟨hS', Nat.ne_of_gt F.ns.lt, next_is_new F⟩
  · have := N p (List.mem_cons_of_mem _ hp)
    exact ⟨hold _ _ (hI p hp) this.1, this.2⟩
end
end Mine
end
section
open PySem PySem.W PyProof.Rows
set_option maxRecDepth 100000
namespace Mine
section
variable {prog : Program} {w : World} {A : Around} {E : Value → Shared → Prop} {s : Shared} {h₀ : Heap} {L : Addr} {m : Str → Option Value} {news : List (Addr × Obj)} {wy : Addr} {as : List Addr} {P : List (Nat × Nat)}

theorem IsWay.mono {news' : List (Addr × Obj)} (I : IsWay news wy as P) (h : ∀ p ∈ news, p ∈ news') : IsWay news' wy as P where
  outer := let ⟨n, hn⟩ := I.outer; ⟨n, h _ hn⟩
  len := I.len
  pt := fun k a hk => let ⟨i, j, ti, tj, h1, h2⟩ := I.pt k a hk; ⟨i, j, ti, tj, h1, h _ h2⟩

theorem way_at {value slice : PySem.Expr} {k : Int} {u : Tok} {Q : Value → Shared → Prop} (N : News h₀ L s.heap news) (I : IsWay news wy as P) (hsm : P.length ≤ 1000)
    (h0 : 0 ≤ k) (h1 : k < P.length) (h : ∀ a i j ti tj, P[k.toNat]? = some (i, j) → (a, tupO [.int i ti, .int j tj]) ∈ news → Q (.ref a) s)
    (hs : subscripted slice false (.ref wy) (.int k u) = operate [.ref wy, .int k u] (getItem (.ref wy) (.int k u)) := by with_unfolding_all rfl) :
    wpAny (model prog w) A (subscriptTail value slice (.ref wy) (.int k u)) Q E s := by
  obtain ⟨n, hn⟩ := I.outer
  have hl := isList_of (N.get hn)
  have hk : k.toNat < as.length := by have := I.len; omega
  have hx : as[k.toNat]? = some as[k.toNat] := List.getElem?_eq_getElem hk
  obtain ⟨i, j, ti, tj, hp, hm⟩ := I.pt _ _ hx
  exact tail_any hl.typeIs slot_list_getitem.lookup (wpAny_getItem_list hl h0 (by omega) (by simp [hx]) (h _ _ _ _ _ hp hm)) hs

theorem way_atK {value slice : PySem.Expr} {k : Int} {u : Tok} {i j : Nat} {Q : Value → Shared → Prop} (N : News h₀ L s.heap news) (I : IsWay news wy as P) (hsm : P.length ≤ 1000)
    (hp : P[k.toNat]? = some (i, j)) (h0 : 0 ≤ k) (h : ∀ a ti tj, (a, tupO [.int i ti, .int j tj]) ∈ news → Q (.ref a) s)
    (hs : subscripted slice false (.ref wy) (.int k u) = operate [.ref wy, .int k u] (getItem (.ref wy) (.int k u)) := by with_unfolding_all rfl) :
    wpAny (model prog w) A (subscriptTail value slice (.ref wy) (.int k u)) Q E s := by
  have hk : k < P.length := by have := (List.getElem?_eq_some_iff.mp hp).1; omega
  refine way_at N I hsm h0 hk (fun a i' j' ti tj hp' hm => ?_) hs
  rw [hp] at hp'; cases hp'
  exact h _ _ _ hm

theorem way_last {value slice : PySem.Expr} {k : Int} {u : Tok} {Q : Value → Shared → Prop} (N : News h₀ L s.heap news) (I : IsWay news wy as P) (hsm : P.length ≤ 1000)
    (hk : k = -1) (h1 : 0 < P.length) (h : ∀ a i j ti tj, P[P.length - 1]? = some (i, j) → (a, tupO [.int i ti, .int j tj]) ∈ news → Q (.ref a) s)
    (hs : subscripted slice false (.ref wy) (.int k u) = operate [.ref wy, .int k u] (getItem (.ref wy) (.int k u)) := by with_unfolding_all rfl) :
    wpAny (model prog w) A (subscriptTail value slice (.ref wy) (.int k u)) Q E s := by
  subst hk
  obtain ⟨n, hn⟩ := I.outer
  have hl := isList_of (N.get hn)
  have hk : P.length - 1 < as.length := by have := I.len; omega
  have hx : as[P.length - 1]? = some as[P.length - 1] := List.getElem?_eq_getElem hk
  obtain ⟨i, j, ti, tj, hp, hm⟩ := I.pt _ _ hx
  have hsz : (as.map Value.ref).toArray.size = P.length := by rw [List.size_toArray, List.length_map, I.len]
  refine tail_any hl.typeIs slot_list_getitem.lookup (wpAny_getItem_list_neg (x := .ref as[P.length - 1]) hl (by decide) (by rw [hsz]; omega) (by decide) ?_ (h _ _ _ _ _ hp hm)) hs
  rw [hsz, show (-1 + (P.length : Int)).toNat = P.length - 1 from by omega]
  simp [hx]

theorem way_len {Q : Value → Shared → Prop} (N : News h₀ L s.heap news) (I : IsWay news wy as P) (hsm : P.length ≤ 1000) (h : ∀ tok tk', Q (.int P.length tok) { s with toks := tk' }) :
    wpAny (model prog w) A (call (.builtin "len") [.ref wy]) Q E s := by
  obtain ⟨n, hn⟩ := I.outer
  have hl := I.len
  refine Calls.call_len_list (isList_of (N.get hn)) (by simp; omega) ?_
  rw [List.size_toArray, List.length_map, hl]; exact h _ _
end
end Mine
end
section
open PySem PySem.W PySem.Calls PyProof.Rows PySem.Spec PyProof.Rows.LCg
set_option maxRecDepth 100000
set_option maxHeartbeats 2000000
namespace Mine
section
variable {prog : Program} {w : World} {A : Around} {E : Value → Shared → Prop} {s : Shared} {h₀ : Heap} {L : Addr} {m : Str → Option Value} {env : Env}

/-- [elt for x, x₂ in a list of pairs if c], where c holds of none: the empty list -/
theorem comp_none {elt iter c : PySem.Expr} {x x₂ : Str} {px px₂ tp : Pos} {kk : Nat} {scope : Scope} {cl : List (Str × Addr)} {pos : Pos} {Q : Value → Shared → Prop} {news : List (Addr × Obj)} {al : Addr} {vs : List Value} {nn : Nat}
    (F : Fr h₀ L s.heap m) (N : News h₀ L s.heap news) (hh : A.handled = none)
    (hclos : closureFor scope env = pure cl) (hcell : ∀ y ∈ scope.names, y.2 ≠ .cell) (hkind : scope.kind = .function)
    (hnames : ∀ y ∈ scope.names, y.2 = .local → scope.names.lookup y.1 = some .local) (hx : scope.names.lookup x = some .local) (hx₂ : scope.names.lookup x₂ = some .local) (hxx : x ≠ x₂)
    (hl : (al, rowO vs nn) ∈ news)
    (hit : ∀ R : Value → Shared → Prop, R (.ref al) s → wpAny (model prog w) A (eval iter env) R E s)
    (hvs : ∀ (k : Nat) v, vs[k]? = some v → ∃ t v₁ v₂, v = .ref t ∧ (t, tupO [v₁, v₂]) ∈ news ∧
      ∀ I oI C oC D m₂ h tk (E' : Value → Shared → Prop), NsObj oC m₂ → m₂ x = some v₁ → m₂ x₂ = some v₂ → Fr h₀ L h m → News h₀ L h ((I, oI) :: (C, oC) :: (D, lst []) :: news) →
        wpAny (model prog w) A (isTrue c (compEnvC scope cl C env) (eval c (compEnvC scope cl C env)))
          (fun b s' => b = false ∧ ∃ h' tk', s' = { s with heap := h', toks := tk' } ∧ Fr h₀ L h' m ∧ News h₀ L h' ((I, oI) :: (C, oC) :: (D, lst []) :: news)) E' { s with heap := h, toks := tk })
    (h : ∀ D h' tk', Fr h₀ L h' m → News h₀ L h' ((D, lst []) :: news) → (∀ p ∈ news, p.1 < D) → Q (.ref D) { s with heap := h', toks := tk' })
    (hs : ∀ x, foldedSetIterable iter env x = pure x := by intro _; rfl) :
    wpAny (model prog w) A (eval (.ListComp elt [⟨.Tuple [.Name x px, .Name x₂ px₂] kk tp, iter, [c], 0⟩] scope pos) env) Q E s := by
  rw [eval_ListComp]
  refine wpAny_comprehension_free (use := none) rfl hs hclos hkind hnames (hit _ ?_)
  have hlm := N _ hl
  have hl0 : s.heap.IsList al vs.toArray := isList_of hlm.1
  have hlt : al < s.heap.objs.size := Heap.lt_size hlm.1
  refine wpAny_pyIter_list hl0 ?_
  generalize hI : s.heap.objs.size = I at *
  generalize hH1 : s.heap.push { cls := .type "list_iterator", data := .fields #[.ref al, .int 0 0] } = H1
  have hne : al ≠ I := Nat.ne_of_lt hlt
  have W := Walks.list (prog := prog) (w := w) hh I al hne vs.toArray
  rw [List.size_toArray] at W
  have up1 : ∀ b o, s.heap.get? b = some o → H1.get? b = some o := fun b o e => hH1 ▸ Heap.get?_push_of_some _ e
  have hItI : H1.IsListIter I al 0 := ⟨_, hH1 ▸ hI ▸ Heap.get?_push_size _ rfl, rfl, rfl⟩
  have F1 : Fr h₀ L H1 m := F.keeps up1
  have N1 : News h₀ L H1 news := fun p hp => ⟨up1 _ _ (N p hp).1, (N p hp).2⟩
  have hH1s : H1.objs.size = I + 1 := by rw [← hH1, Heap.size_push, hI]
  have hI₀ : h₀.get? I = none := hI ▸ next_is_new F
  have hIL : L ≠ I := hI ▸ Nat.ne_of_lt F.ns.lt
  have nlt : ∀ p ∈ news, p.1 < I := fun p hp => hI ▸ Heap.lt_size (N p hp).1
  refine wpAny_newObj_type (wpAny_newFunctionEnv hcell (by intro y hy; simp at hy) (fun h₁ hns₁ hsb₁ => ?_) hkind)
  dsimp only at hns₁ hsb₁ ⊢
  obtain ⟨H2, hH2⟩ : ∃ H2, H2 = H1.push { cls := .type "list", dict := none, data := .seq ([] : List Value).toArray } := ⟨_, rfl⟩
  replace hns₁ : h₁.Ns H2.objs.size (fun x => List.lookup x [].reverse) := by rw [hH2]; exact hns₁
  replace hsb₁ : Heap.SameBut H2.objs.size (H2.push { cls := Value.type (if (some env).isSome = true then "dict" else "frame"), data := Data.dict #[] }) h₁ := by rw [hH2]; exact hsb₁
  have hC : H2.objs.size = I + 2 := by rw [hH2, Heap.size_push, hH1s]
  obtain ⟨D, hDs⟩ : ∃ D, H1.objs.size = D := ⟨_, rfl⟩
  obtain ⟨C, hCs⟩ : ∃ C, H2.objs.size = C := ⟨_, rfl⟩
  rw [hCs] at hns₁ hsb₁
  rw [hCs] at hC
  have hH1s : (D : Nat) = I + 1 := hDs ▸ hH1s
  have hC : (C : Nat) = I + 2 := hC
  have hDC : D ≠ C := by omega
  have old : ∀ b o, H1.get? b = some o → h₁.get? b = some o := fun b o e => by
    have h9 := Heap.lt_size e
    refine hsb₁.extBut b o (fun q => ?_) (Heap.get?_push_of_some _ (by rw [hH2]; exact Heap.get?_push_of_some _ e))
    have q' : @Eq Nat b C := q
    have h9 : @LT.lt Nat instLTNat b H1.objs.size := h9
    rw [hDs] at h9
    omega
  have hacc : h₁.get? D = some (lst []) := hsb₁.extBut _ _ hDC (Heap.get?_push_of_some _ (by rw [hH2, ← hDs]; exact Heap.get?_push_size _ rfl))
  have fresh₀ : ∀ a, I ≤ a → h₀.get? a = none := fun a ha => by
    cases e : h₀.get? a with
    | none => rfl
    | some o' =>
      have h9 : @LT.lt Nat instLTNat a s.heap.objs.size := Heap.lt_size (F.keep a o' e)
      have ha : @LE.le Nat instLENat I a := ha
      omega
  have hD₀ : h₀.get? D = none := fresh₀ _ (by omega)
  have hC₀ : h₀.get? C = none := fresh₀ _ (by omega)
  have hLlt : @LT.lt Nat instLTNat L I := hI ▸ F.ns.lt
  have hDL : D ≠ L := by intro q; have q' : @Eq Nat D L := q; omega
  have hCL : C ≠ L := by intro q; have q' : @Eq Nat C L := q; omega
  have hCI : I ≠ C := by intro q; have q' : @Eq Nat I C := q; omega
  have hDI : I ≠ D := by intro q; have q' : @Eq Nat I D := q; omega
  have loop : ∀ s₃ : Shared, (∃ tk, s₃ = { s with heap := h₁, toks := tk }) → ∀ RR : Result → Shared → Prop, (∀ h tk m', Fr h₀ L h m → News h₀ L h ((D, lst []) :: news) → h.Ns C m' → RR (.ok .next) { s with heap := h, toks := tk }) →
      codeAny (model prog w) A (.compLoop (.ListComp elt [⟨.Tuple [.Name x px, .Name x₂ px₂] kk tp, iter, [c], 0⟩] scope pos) 0 (.ref I) (.ref D) (compEnvC scope cl C env)) RR s₃ := by
    rintro s₃ ⟨tk0, rfl⟩ RR hRR
    refine kct_loop
      (fun k s' => ∃ h' tk i m', s' = { s with heap := h', toks := tk } ∧ i ≤ vs.length ∧ k = vs.length + 1 - i ∧ (h'.IsListIter I al i ∧ h'.IsList al vs.toArray) ∧ Fr h₀ L h' m ∧ h'.Ns C m' ∧ News h₀ L h' ((D, lst []) :: news)) ?_ (vs.length + 1)
      ⟨h₁, _, 0, _, rfl, Nat.zero_le _, rfl, ⟨by obtain ⟨o, e, r⟩ := hItI; exact ⟨o, old _ _ e, r⟩, isList_of (old _ _ (N1 _ hl).1)⟩, F1.keeps old, hns₁, fun p hp => ?_⟩
    · rintro k s' ⟨h', tk, i, m', rfl, hi, rfl, hst', F', hn', N'⟩
      by_cases hlt : i < vs.length
      · refine W.item i _ _ _ hlt hst' fun v h₂ tk₂ hPv hst₂ hk₂ => ?_
        obtain ⟨t, v₁, v₂, rfl, hmt, R''⟩ := hvs i v (by simpa using hPv)
        have N₂ : News h₀ L h₂ ((D, lst []) :: news) := news_but N' hk₂ fun p hp => by
          rcases List.mem_cons.mp hp with rfl | hp
          · exact Ne.symm hDI
          · exact Nat.ne_of_lt (nlt p hp)
        have ht : IsTup h₂ t #[v₁, v₂] := ⟨tupO [v₁, v₂], (N₂ _ (List.mem_cons_of_mem _ hmt)).1, rfl, _, rfl⟩
        refine wpAny_letOwnedTupleGo_listiter hst₂.1 ?_
        refine assign_Tuple_tuple hh ht rfl rfl fun h₅ he => ?_
        have he' : ∀ b o, h₂.get? b = some o → h₅.get? b = some o := fun b o e => he b o (Nat.ne_of_lt (Heap.lt_size e)) e
        refine assignInOrder_cons (wpAny_assign_Name (wpAny_storeName_local (lookup_relabel_local hx) ((hn'.at' fun o e => hk₂ _ o (by simpa using Ne.symm hCI) e).at' fun o e => he' _ o e) (fun h₆ hn₆ hs₆ => ?_) (by simp [compEnvC, relabel, hkind])))
        refine assignInOrder_cons (wpAny_assign_Name (wpAny_storeName_local (lookup_relabel_local hx₂) hn₆ (fun h₃ hn₃ hs₃ => ?_) (by simp [compEnvC, relabel, hkind])))
        refine assignInOrder_nil ?_
        have old3 : ∀ b o, b ≠ C → h₂.get? b = some o → h₃.get? b = some o := fun b o hb e => hs₃.extBut b o hb (hs₆.extBut b o hb (he' b o e))
        obtain ⟨oI, heI⟩ : ∃ oI, h₃.get? I = some oI := by obtain ⟨o, e, _⟩ := hst₂.1; exact ⟨o, old3 _ _ hCI e⟩
        have hst₃ : h₃.IsListIter I al (i + 1) := by obtain ⟨o, e, r⟩ := hst₂.1; exact ⟨o, old3 _ _ hCI e, r⟩
        obtain ⟨oC, heC, hoC⟩ := ns_obj hn₃
        have F₃ : Fr h₀ L h₃ m := (((fr_but F' hk₂ hIL hI₀).keeps he').change hs₆ hCL hC₀).change hs₃ hCL hC₀
        have N₃ : News h₀ L h₃ ((I, oI) :: (C, oC) :: (D, lst []) :: news) := fun p hp => by
          rcases List.mem_cons.mp hp with rfl | hp
          · exact ⟨heI, Ne.symm hIL, hI₀⟩
          · rcases List.mem_cons.mp hp with rfl | hp
            · exact ⟨heC, hCL, hC₀⟩
            · have z := N₂ p hp
              refine ⟨old3 _ _ ?_ z.1, z.2⟩
              rcases List.mem_cons.mp hp with rfl | hp
              · exact hDC
              · have h9 : @LT.lt Nat instLTNat p.1 I := nlt p hp; intro q; have q' : @Eq Nat p.1 C := q; omega
        refine wpAny_mono (R'' I oI C oC D _ h₃ _ _ hoC (by simp [hxx]) (by simp) F₃ N₃) (fun okb s₄ h₄ => ?_) fun _ _ e => e
        obtain ⟨rfl, h₄, tk₄, rfl, F₄, N₄⟩ := h₄
        have zI := (N₄ (I, oI) List.mem_cons_self).1
        have zC := (N₄ (C, oC) (List.mem_cons_of_mem _ List.mem_cons_self)).1
        simp only [Bool.false_eq_true, if_false]
        refine ⟨vs.length + 1 - (i + 1), by omega, h₄, tk₄, i + 1, _, rfl, hlt, rfl, ⟨?_, ?_⟩, F₄, hoC.ns zC, fun q hq => N₄ q (List.mem_cons_of_mem _ (List.mem_cons_of_mem _ hq))⟩
        · obtain ⟨o, e, r⟩ := hst₃
          rw [heI] at e; cases e
          exact ⟨oI, zI, r⟩
        · exact isList_of (N₄ _ (List.mem_cons_of_mem _ (List.mem_cons_of_mem _ (List.mem_cons_of_mem _ hl)))).1
      · obtain rfl : i = vs.length := Nat.le_antisymm hi (Nat.not_lt.mp hlt)
        refine W.done _ _ _ hst' fun h₂ tk₂ hk₂ => ?_
        exact hRR h₂ tk₂ _ (fr_but F' hk₂ hIL hI₀) (news_but N' hk₂ fun p hp => by
          rcases List.mem_cons.mp hp with rfl | hp
          · exact Ne.symm hDI
          · exact Nat.ne_of_lt (nlt p hp)) (hn'.at' fun o e => hk₂ _ o (by simpa using Ne.symm hCI) e)
    · rcases List.mem_cons.mp hp with rfl | hp
      · exact ⟨hacc, hDL, hD₀⟩
      · exact ⟨old _ _ (N1 p hp).1, (N1 p hp).2⟩
  have fin : ∀ h' tk m', Fr h₀ L h' m → News h₀ L h' ((D, lst []) :: news) → h'.Ns C m' → ∀ h'', True → Heap.SameBut C h' h'' → Q (.ref D) { s with heap := h'', toks := tk } := fun h' tk m' F' N' hn h'' _ hs'' => h D h'' tk (F'.change hs'' hCL hC₀) (fun p hp => by
    refine ⟨hs''.extBut _ _ ?_ (N' p hp).1, (N' p hp).2⟩
    rcases List.mem_cons.mp hp with rfl | hp
    · exact hDC
    · have h9 : @LT.lt Nat instLTNat p.1 I := nlt p hp; intro q; have q' : @Eq Nat p.1 C := q; omega) fun p hp => by
    have h9 : @LT.lt Nat instLTNat p.1 I := nlt p hp
    show @LT.lt Nat instLTNat p.1 D
    omega
  rw [hDs]
  rw [show (H1.push { cls := Value.type "list", data := Data.seq ([] : List Value).toArray }).objs.size = C from by rw [← hCs, hH2]]
  refine codeAny_compStart_list (loop _ ⟨_, rfl⟩ _ fun h' tk m' F' N' hn => ?_) (W.self 0 _ _ _ ⟨by obtain ⟨o, e, r⟩ := hItI; exact ⟨o, old _ _ e, r⟩, isList_of (old _ _ (N1 _ hl).1)⟩ (loop _ ⟨_, rfl⟩ _ fun h' tk m' F' N' hn => ?_))
  · exact ⟨m', hn, fun h'' hs'' => fin h' tk m' F' N' hn h'' (by trivial) hs''⟩
  · exact ⟨m', hn, fun h'' hs'' => fin h' tk m' F' N' hn h'' (by trivial) hs''⟩
end
end Mine
end
section
open PySem PySem.W PyProof.Rows
set_option maxRecDepth 100000
namespace Mine
section
variable {prog : Program} {w : World} {A : Around} {E : Value → Shared → Prop} {s : Shared} {env : Env} {h₀ : Heap} {x : Str} {body : List Stmt} {Q : Flow → Shared → Prop} {σ : Type}
/-- a loop over a list of the ground -/
theorem listB {l : Addr} {vs : List Value} {m₀ : Str → Option Value} {news : List (Addr × Obj)}
    (stored : List Str) (ps : σ → List (Str × Value)) (J : Nat → σ → List (Addr × Obj) → Prop) (c₀ : σ)
    (hh : A.handled = none) (hl : h₀.IsList l vs.toArray)
    (F : Fr h₀ env.locals s.heap m₀) (N : News h₀ env.locals s.heap news) (hps : ∀ p ∈ ps c₀, m₀ p.1 = some p.2) (h0 : J 0 c₀ news)
    (turn : ∀ (k : Nat) v c u news₁ h tk I o, vs[k]? = some v → J k c news₁ → (∀ p ∈ news₁, p.1 ≠ I) → Fr h₀ env.locals h (fun y => if y = x then some v else mapAt m₀ stored u (ps c) y) → News h₀ env.locals h ((I, o) :: news₁) →
      wpAny (model prog w) A (execs body env) (TurnPostS h₀ env.locals I o m₀ stored ps (J (k + 1)) { s with heap := h, toks := tk } Q) E { s with heap := h, toks := tk })
    (done : ∀ c u news₁ h tk, J vs.length c news₁ → Fr h₀ env.locals h (mapAt m₀ stored u (ps c)) → News h₀ env.locals h news₁ → Q .next { s with heap := h, toks := tk }) :
    wpAny (model prog w) A (pyIter (.ref l)) (fun it s₂ => LoopAtV prog w A h₀ env x body Q E it s₂) E s := by
  have hls : s.heap.IsList l vs.toArray := hl.at fun o e => F.keep _ _ e
  obtain ⟨oL, hL0, hcL, nL, hdL⟩ := id hl
  have hlt : l < s.heap.objs.size := Heap.lt_size (F.keep _ _ hL0)
  have hne : l ≠ s.heap.objs.size := Nat.ne_of_lt hlt
  refine wpAny_pyIter_list hls ?_
  have W := Walks.list (prog := prog) (w := w) hh s.heap.objs.size l hne vs.toArray
  rw [List.size_toArray] at W
  refine loopS stored ps J c₀ W ?_ (next_is_new F) ?_ ⟨⟨_, Heap.get?_push_size _ rfl, rfl, rfl⟩, hls.at fun o e => Heap.get?_push_of_some _ e⟩ (fun i h hs => let ⟨o, ho, _⟩ := hs.1; ⟨o, ho⟩) ?_ (F.push _) (fun p hp => ⟨Heap.get?_push_of_some _ (N p hp).1, (N p hp).2⟩) hps h0 ?_ done
  · intro hm'
    rcases List.mem_cons.mp hm' with e | hm'
    · exact absurd F.ns.lt (e ▸ Nat.lt_irrefl _)
    · have e : env.locals = l := List.mem_singleton.mp hm'
      have h1 := F.above
      have h2 := Heap.lt_size hL0
      rw [← e] at h2
      exact absurd h2 (Nat.not_lt.mpr h1)
  · intro p hp hI
    exact absurd (Heap.lt_size (N p hp).1) (hI ▸ Nat.lt_irrefl _)
  · intro b hb hne'
    rcases List.mem_cons.mp hb with e | hb
    · exact absurd e hne'
    · rw [List.mem_singleton.mp hb]; exact .inl ⟨_, hL0⟩
  · rintro k v c u news₁ h tk o hk hP hJ hoff F₁ N₁
    exact turn k v c u news₁ h tk _ o (by simpa using hP) hJ hoff F₁ N₁
end
end Mine
namespace Mine
section
variable {prog : Program} {w : World} {A : Around} {E : Value → Shared → Prop} {s : Shared} {h₀ : Heap} {L : Addr} {news : List (Addr × Obj)}
theorem len_L {fa : Addr} {zs : List Value} {n : Nat} {Q : Value → Shared → Prop} (N : News h₀ L s.heap news) (hm : (fa, rowO zs n) ∈ news) (hb : zs.length ≤ 1000) (h : ∀ tok tk', Q (.int zs.length tok) { s with toks := tk' }) :
    wpAny (model prog w) A (call (.builtin "len") [.ref fa]) Q E s := by
  refine Calls.call_len_list (isList_of (N.get hm)) (by simp; omega) ?_
  rw [List.size_toArray]; exact h _ _
end
end Mine
namespace Mine
theorem fmod_in (a : Int) : 0 ≤ a.fmod 2147483647 ∧ a.fmod 2147483647 < 2147483648 := by
  rw [Int.fmod_eq_emod_of_nonneg _ (by decide)]; omega
end Mine
namespace Mine
section
variable {prog : Program} {w : World} {A : Around} {E : Value → Shared → Prop} {s : Shared} {h₀ : Heap} {L : Addr} {news : List (Addr × Obj)}
theorem lit_at {value slice : PySem.Expr} {k : Int} {u : Tok} {fa : Addr} {ws : List Value} {n : Nat} {v : Value} {Q : Value → Shared → Prop} (N : News h₀ L s.heap news) (hm : (fa, rowO ws n) ∈ news)
    (h0 : 0 ≤ k) (h1 : k < 1000) (hx : ws[k.toNat]? = some v) (h : Q v s)
    (hs : subscripted slice false (.ref fa) (.int k u) = operate [.ref fa, .int k u] (getItem (.ref fa) (.int k u)) := by with_unfolding_all rfl) :
    wpAny (model prog w) A (subscriptTail value slice (.ref fa) (.int k u)) Q E s := by
  have hl := isList_of (N.get hm)
  exact tail_any hl.typeIs slot_list_getitem.lookup (wpAny_getItem_list hl h0 (by omega) (by simpa using hx) h) hs
end
end Mine
end
section
open PySem PySem.W PyProof.Rows PySem.Spec PySem.Calls PyProof.Rows.LCg
set_option maxRecDepth 100000
namespace Mine
section
variable {prog : Program} {w : World} {A : Around} {h₀ : Heap} {L : Addr} {m : Str → Option Value} {env : Env} {elt : PySem.Expr} {x : Str} {scope : Scope} {cl : List (Str × Addr)} {s : Shared} {S : List (Addr × Obj) → Prop} {Fin : List Value → List (Addr × Obj) → Prop} {news : List (Addr × Obj)}
/-- a comprehension over a range whose items are letters -/
theorem strs_rest {n : Nat} {a : Int} (hS : S news)
    (turn : ∀ (k : Nat) t I oI C oC D m₂ ys h tk (E' : Value → Shared → Prop), k < n → NsObj oC m₂ → m₂ x = some (.int (a + k) t) → Fr h₀ L h m → News h₀ L h ((I, oI) :: (C, oC) :: (D, lst ys) :: news) →
      wpAny (model prog w) A (eval elt (compEnvC scope cl C env)) (fun y s' => (∃ c t', y = .str c t' ∧ c.length ≤ 1) ∧ ∃ h' tk', s' = { s with heap := h', toks := tk' } ∧ Fr h₀ L h' m ∧ News h₀ L h' ((I, oI) :: (C, oC) :: (D, lst ys) :: news)) E' { s with heap := h, toks := tk })
    (fin : ∀ ys ss, StrsAre ys ss → (∀ c ∈ ss, c.length ≤ 1) → ss.length = n → Fin ys news) :
    CompRest prog w A h₀ L m env elt x scope cl s S (fun i v => ∃ t, v = .int (a + (i : Int)) t) Fin n 0 [] news := by
  have key : ∀ (j i : Nat) (ys : List Value) (ss : List Str), i + j = n → StrsAre ys ss → (∀ c ∈ ss, c.length ≤ 1) → ss.length = i → CompRest prog w A h₀ L m env elt x scope cl s S (fun i v => ∃ t, v = .int (a + (i : Int)) t) Fin j i ys news := by
    intro j
    induction j with
    | zero =>
      intro i ys ss hi hy h1 hl
      exact CompRest.zero (fin ys ss hy h1 (by omega))
    | succ j ih =>
      intro i ys ss hi hy h1 hl
      refine CompRest.succ ?_
      intro v I oI C oC D m₂ h tk E' hv hC hx F N off ne
      obtain ⟨t, rfl⟩ := hv
      refine wpAny_mono (turn i t I oI C oC D m₂ ys h tk E' (by omega) hC hx F N) (fun y s₂ hq => ?_) fun _ _ e => e
      obtain ⟨⟨c, t', rfl, hc⟩, h', tk', rfl, F', N'⟩ := hq
      refine ⟨h', tk', news, rfl, F', N', off, hS, ih (i + 1) _ (ss ++ [c]) (by omega) (hy.append' (.cons c t' .nil)) ?_ (by rw [List.length_append, List.length_singleton, hl])⟩
      intro c' hc'
      rcases List.mem_append.mp hc' with hc' | hc'
      · exact h1 c' hc'
      · rw [List.mem_singleton.mp hc']; exact hc
  exact key n 0 [] [] (by omega) .nil (by intro c hc; cases hc) rfl

theorem sum_le_of_one : ∀ {ss : List Str}, (∀ c ∈ ss, c.length ≤ 1) → (ss.map (·.length)).sum ≤ ss.length
  | [], _ => Nat.le_refl _
  | c :: r, h => by
    have ih := sum_le_of_one (ss := r) fun c hc => h c (List.mem_cons_of_mem _ hc)
    have hc := h c List.mem_cons_self
    simp only [List.map_cons, List.sum_cons, List.length_cons]
    omega

theorem join_one_le {sep : Str} {ss : List Str} (h0 : sep.length = 0) (h : ∀ c ∈ ss, c.length ≤ 1) : (Txt.join sep ss).length ≤ ss.length := by
  have e : Txt.join sep ss = Str.join sep ss := StrLaws.glued_eq_join sep ss
  have h1 := StrLaws.join_length_le sep ss
  have h2 := sum_le_of_one h
  rw [h0] at h1
  rw [e]; omega

theorem join_L {E : Value → Shared → Prop} {D : Addr} {ys : List Value} {ss : List Str} {k : Nat} {sep : Str} {t : Tok} {nw : List (Addr × Obj)} {Q : Value → Shared → Prop} (N : News h₀ L s.heap nw) (hm : (D, rowO ys k) ∈ nw) (hi : StrsAre ys ss) (h0 : sep.length = 0) (h : ∀ c ∈ ss, c.length ≤ 1) (hn : ss.length ≤ 100)
    (hQ : ∀ z t' k, z.length ≤ ss.length → Q (.str z t') { s with toks := k }) : wpAny (model prog w) A (call (.builtin "str.join") [.str sep t, .ref D]) Q E s := by
  have h2 := sum_le_of_one h
  exact join_listW (isList_of (N.get hm)) (by simpa using hi) (by omega) (by omega) fun t' k => hQ _ t' k (join_one_le h0 h)
theorem fmod_lt (a b : Int) (h : 0 < b) : 0 ≤ a.fmod b ∧ a.fmod b < b := by
  rw [Int.fmod_eq_emod_of_nonneg _ (by omega)]
  exact ⟨Int.emod_nonneg _ (by omega), Int.emod_lt_of_pos _ h⟩
theorem pow3 {A : Around} {E : Value → Shared → Prop} {n : Int} {t u : Tok} {Q : Value → Shared → Prop} (hn : 0 ≤ n) (hn2 : n ≤ 8) (h : ∀ b t, 1 ≤ b → b ≤ 6561 → Q (.int b t) { s with toks := s.toks + 1 }) :
    wpAny (model prog w) A (binaryOp .Pow (.int 3 t) (.int n u)) Q E s := by
  refine pow_int_small hn (by omega) (by decide) (h _ _ ?_ ?_)
  all_goals
    have h9 : n.toNat = 0 ∨ n.toNat = 1 ∨ n.toNat = 2 ∨ n.toNat = 3 ∨ n.toNat = 4 ∨ n.toNat = 5 ∨ n.toNat = 6 ∨ n.toNat = 7 ∨ n.toNat = 8 := by omega
    rcases h9 with h | h | h | h | h | h | h | h | h <;> rw [h] <;> decide
theorem item_f {A : Around} {E : Value → Shared → Prop} {value slice : PySem.Expr} {S' : Str} {t u : Tok} {a b : Int} {Q : Value → Shared → Prop} (hb : b = (S'.length : Int)) (h1 : 1 ≤ S'.length) (h2 : S'.length ≤ 1000) (h : ∀ c t', c.length ≤ 1 → Q (.str c t') { s with toks := s.toks + 1 })
    (hs : subscripted slice false (.str S' t) (.int (a.fmod b) u) = operate [.str S' t, .int (a.fmod b) u] (getItem (.str S' t) (.int (a.fmod b) u)) := by with_unfolding_all rfl)
    (ht : ∀ r, letTemporaryGo value (.str S' t) r = pure () := by intro _; with_unfolding_all rfl) :
    wpAny (model prog w) A (subscriptTail value slice (.str S' t) (.int (a.fmod b) u)) Q E s := by
  have h3 := fmod_lt a b (by omega)
  exact item_str (fitsSsize_of (N := 9223372036854775808) (by omega) (by omega) (Int.le_refl _)) (by omega) (by omega) (fun e => h _ _ e.2) hs ht
end
end Mine
end
section
open PySem PySem.W PyProof.Rows PySem.Spec PySem.Calls PyProof.Rows.LCg
set_option maxRecDepth 100000
namespace Mine
/-- the end of a turn of rest_grow (a form that the walk does not split) -/
def GrowEnd (h₀ : Heap) (L : Addr) (m : Str → Option Value) (s : Shared) (I : Addr) (oI : Obj) (C : Addr) (oC : Obj) (D : Addr) (ys : List Value) (S : List (Addr × Obj) → Prop) (J : List Value → List (Addr × Obj) → Prop) (y : Value) (s' : Shared) : Prop :=
  ∃ h' tk' nw', s' = { s with heap := h', toks := tk' } ∧ Fr h₀ L h' m ∧ News h₀ L h' ((I, oI) :: (C, oC) :: (D, lst ys) :: nw') ∧ (∀ p ∈ nw', p.1 ≠ I ∧ p.1 ≠ C ∧ p.1 ≠ D) ∧ S nw' ∧ J (ys ++ [y]) nw'
section
variable {prog : Program} {w : World} {A : Around} {h₀ : Heap} {L : Addr} {m : Str → Option Value} {env : Env} {elt : PySem.Expr} {x : Str} {scope : Scope} {cl : List (Str × Addr)} {s : Shared} {S : List (Addr × Obj) → Prop} {Fin : List Value → List (Addr × Obj) → Prop} {news : List (Addr × Obj)} {P : Nat → Value → Prop}
/-- the turns of a comprehension, by an invariant over the items made and the ledger -/
theorem rest_grow {n : Nat} (J : Nat → List Value → List (Addr × Obj) → Prop) (h0 : J 0 [] news)
    (turn : ∀ (k : Nat) v I oI C oC D m₂ ys nw h tk (E' : Value → Shared → Prop), k < n → P k v → J k ys nw → NsObj oC m₂ → m₂ x = some v → Fr h₀ L h m → News h₀ L h ((I, oI) :: (C, oC) :: (D, lst ys) :: nw) → (∀ p ∈ nw, p.1 ≠ I ∧ p.1 ≠ C ∧ p.1 ≠ D) →
      wpAny (model prog w) A (eval elt (compEnvC scope cl C env)) (GrowEnd h₀ L m s I oI C oC D ys S (J (k + 1))) E' { s with heap := h, toks := tk })
    (fin : ∀ ys nw, J n ys nw → Fin ys nw) :
    CompRest prog w A h₀ L m env elt x scope cl s S P Fin n 0 [] news := by
  have key : ∀ (j i : Nat) (ys : List Value) (nw : List (Addr × Obj)), i + j = n → J i ys nw → CompRest prog w A h₀ L m env elt x scope cl s S P Fin j i ys nw := by
    intro j
    induction j with
    | zero =>
      intro i ys nw hi hJ
      exact CompRest.zero (fin ys nw (by have e : i = n := by omega
                                         rwa [e] at hJ))
    | succ j ih =>
      intro i ys nw hi hJ
      refine CompRest.succ ?_
      intro v I oI C oC D m₂ h tk E' hv hC hx F N off ne
      refine wpAny_mono (turn i v I oI C oC D m₂ ys nw h tk E' (by omega) hv hJ hC hx F N off.mem) (fun y s₂ hq => ?_) fun _ _ e => e
      obtain ⟨h', tk', nw', rfl, F', N', off', hS', hJ'⟩ := hq
      exact ⟨h', tk', nw', rfl, F', N', Off3.of off', hS', ih (i + 1) _ nw' (by omega) hJ'⟩
  exact key n 0 [] news (by omega) h0

theorem ints_one {ws : List Value} {ms : List Int} {n : Nat} (h : IntsAre ws ms) (hn : ms.length = n + 1) : ∃ f u ws' ms', ws = .int f u :: ws' ∧ IntsAre ws' ms' ∧ ms'.length = n := by
  cases h with
  | nil => simp at hn
  | cons f u r => exact ⟨f, u, _, _, rfl, r, by simpa using hn⟩

theorem nine {ws : List Value} {ms : List Int} (h : IntsAre ws ms) (hn : ms.length = 9) : ∃ f0 f1 f2 f3 f4 f5 f6 f7 f8 u0 u1 u2 u3 u4 u5 u6 u7 u8,
    ws = [.int f0 u0, .int f1 u1, .int f2 u2, .int f3 u3, .int f4 u4, .int f5 u5, .int f6 u6, .int f7 u7, .int f8 u8] := by
  obtain ⟨f0, u0, w0, m0, rfl, h, hn⟩ := ints_one h hn
  obtain ⟨f1, u1, w1, m1, rfl, h, hn⟩ := ints_one h hn
  obtain ⟨f2, u2, w2, m2, rfl, h, hn⟩ := ints_one h hn
  obtain ⟨f3, u3, w3, m3, rfl, h, hn⟩ := ints_one h hn
  obtain ⟨f4, u4, w4, m4, rfl, h, hn⟩ := ints_one h hn
  obtain ⟨f5, u5, w5, m5, rfl, h, hn⟩ := ints_one h hn
  obtain ⟨f6, u6, w6, m6, rfl, h, hn⟩ := ints_one h hn
  obtain ⟨f7, u7, w7, m7, rfl, h, hn⟩ := ints_one h hn
  obtain ⟨f8, u8, w8, m8, rfl, h, hn⟩ := ints_one h hn
  cases h with
  | nil => exact ⟨f0, f1, f2, f3, f4, f5, f6, f7, f8, u0, u1, u2, u3, u4, u5, u6, u7, u8, rfl⟩
  | cons _ _ _ => simp at hn
end
end Mine
end
section
open PySem PySem.W PyProof.Rows PySem.Spec PySem.Calls PyProof.Rows.LCg
set_option maxRecDepth 100000
namespace Mine
section
variable {prog : Program} {w : World} {A : Around} {E : Value → Shared → Prop} {s : Shared} {h₀ : Heap} {L : Addr} {m : Str → Option Value} {news : List (Addr × Obj)} {t : Addr} {rows : List Addr} {T : List (List Int)} {H W : Nat}

theorem tab_rowK {value slice : PySem.Expr} {k : Int} {u : Tok} {r : Addr} {Q : Value → Shared → Prop} (N : News h₀ L s.heap news) (I : IsTab news t rows T H W)
    (hr : rows[k.toNat]? = some r) (h0 : 0 ≤ k) (h : Q (.ref r) s)
    (hs : subscripted slice false (.ref t) (.int k u) = operate [.ref t, .int k u] (getItem (.ref t) (.int k u)) := by with_unfolding_all rfl) :
    wpAny (model prog w) A (subscriptTail value slice (.ref t) (.int k u)) Q E s := by
  have hk := (List.getElem?_eq_some_iff.mp hr).1
  have hl := I.len
  refine tab_row N I h0 (by omega) (fun r' hr' => ?_) hs
  rw [hr] at hr'; cases hr'; exact h

theorem tab_last {value slice : PySem.Expr} {k : Int} {u : Tok} {r : Addr} {Q : Value → Shared → Prop} (N : News h₀ L s.heap news) (I : IsTab news t rows T H W)
    (hk : k = -1) (hr : rows[H - 1]? = some r) (h : Q (.ref r) s)
    (hs : subscripted slice false (.ref t) (.int k u) = operate [.ref t, .int k u] (getItem (.ref t) (.int k u)) := by with_unfolding_all rfl) :
    wpAny (model prog w) A (subscriptTail value slice (.ref t) (.int k u)) Q E s := by
  subst hk
  obtain ⟨n, hn⟩ := I.outer
  have hl := isList_of (N.get hn)
  have hk := (List.getElem?_eq_some_iff.mp hr).1
  have hlen := I.len
  have hsz : (rows.map Value.ref).toArray.size = H := by rw [List.size_toArray, List.length_map, hlen]
  refine tail_any hl.typeIs slot_list_getitem.lookup (wpAny_getItem_list_neg (x := .ref r) hl (by decide) (by rw [hsz]; omega) (by decide) ?_ h) hs
  rw [hsz, show (-1 + (H : Int)).toNat = H - 1 from by omega]
  simp [hr]

theorem row_last {value slice : PySem.Expr} {r : Addr} {i : Nat} {k : Int} {u : Tok} {Q : Value → Shared → Prop} (N : News h₀ L s.heap news) (I : IsTab news t rows T H W)
    (hk : k = -1) (hr : rows[i]? = some r) (hW : 1 ≤ W) (h : ∀ tok, Q (.int (cell T i (W - 1)) tok) s)
    (hs : subscripted slice false (.ref r) (.int k u) = operate [.ref r, .int k u] (getItem (.ref r) (.int k u)) := by with_unfolding_all rfl) :
    wpAny (model prog w) A (subscriptTail value slice (.ref r) (.int k u)) Q E s := by
  subst hk
  obtain ⟨vs, n, ns, hT, hn, hi⟩ := I.row i r hr
  have hl := isList_of (N.get hn)
  have hg : T.getD i [] = ns := by simp [List.getD, hT]
  have hs1 := I.wide ns (List.mem_of_getElem? hT)
  have hlen := hi.length
  have hsz : vs.toArray.size = W := by rw [List.size_toArray, hlen, hs1]
  have hx : ns[W - 1]? = some (ns[W - 1]'(by omega)) := List.getElem?_eq_getElem (by omega)
  obtain ⟨tok, hv⟩ := hi.get _ _ hx
  have hc : cell T i (W - 1) = ns[W - 1]'(by omega) := by
    unfold cell
    rw [hg, List.getD_eq_getElem?_getD, hx]; rfl
  have h9 := h tok
  rw [hc] at h9
  refine tail_any hl.typeIs slot_list_getitem.lookup (wpAny_getItem_list_neg (x := .int (ns[W - 1]'(by omega)) tok) hl (by decide) (by rw [hsz]; omega) (by decide) ?_ h9) hs
  rw [hsz, show (-1 + (W : Int)).toNat = W - 1 from by omega]
  simpa using hv

theorem IsTab.sub' {news' : List (Addr × Obj)} (I : IsTab news t rows T H W) (h : ∀ p ∈ news, p ∈ news') : IsTab news' t rows T H W := I.sub fun p hp _ => h p hp
end
end Mine
end
section
open PySem PySem.W PyProof.Rows PySem.Spec PySem.Calls
set_option maxRecDepth 100000
namespace Mine
abbrev tabD (T : List (List Int)) : PyData := .list (T.map fun ns => .list (ns.map PyData.int))

theorem tabD_lay : ∀ T : List (List Int), PyData.canLayAll0 (T.map fun ns => .list (ns.map PyData.int)) = true
  | [] => rfl
  | ns :: r => by
    rw [List.map_cons]
    simp only [PyData.canLayAll0, PyData.canLay0, ke_canLayAll0, tabD_lay r, Bool.and_self]
theorem tabD_depth : ∀ T : List (List Int), PyData.depthAll (T.map fun ns => .list (ns.map PyData.int)) ≤ 1
  | [] => Nat.zero_le _
  | ns :: r => by
    have ih := tabD_depth r
    rw [List.map_cons]
    simp only [PyData.depthAll, PyData.depth, ke_depthAll]
    omega
theorem tabD_shaped (T : List (List Int)) : SeqAt.shaped (tabD T) = true := by
  have h := tabD_depth T
  unfold SeqAt.shaped tabD
  simp only [PyData.canLay0, PyData.depth, tabD_lay, Bool.true_and]
  exact decide_eq_true (by omega)

theorem readsAll_rows {h : Heap} : ∀ (rows : List Addr) (T : List (List Int)), T.length = rows.length →
    (∀ (k : Nat) r, rows[k]? = some r → ∃ ns as, T[k]? = some ns ∧ Reads h (.ref r) (.list (ns.map PyData.int)) as) → ∃ as, ReadsAll h (rows.map Value.ref) (T.map fun ns => .list (ns.map PyData.int)) as
  | [], [], _, _ => ⟨_, .nil⟩
  | r :: rs, ns :: T, hl, hk => by
    obtain ⟨ns', as, e, hr⟩ := hk 0 r rfl
    have e' : ns = ns' := by simpa using e
    subst e'
    obtain ⟨bs, hb⟩ := readsAll_rows rs T (by simpa using hl) fun k r hr => by
      obtain ⟨ns, as, e, h⟩ := hk (k + 1) r (by simpa using hr)
      exact ⟨ns, as, by simpa using e, h⟩
    exact ⟨_, .cons hr hb⟩
section
variable {prog : Program} {w : World} {A : Around} {E : Value → Shared → Prop} {s : Shared} {h₀ : Heap} {L : Addr} {m : Str → Option Value} {news : List (Addr × Obj)} {t : Addr} {rows : List Addr} {T : List (List Int)} {H W : Nat}
theorem tab_reads (N : News h₀ L s.heap news) (I : IsTab news t rows T H W) : ∃ as, Reads s.heap (.ref t) (tabD T) as := by
  obtain ⟨n, hn⟩ := I.outer
  obtain ⟨as, ha⟩ := readsAll_rows (h := s.heap) rows T (by rw [I.len, I.lenT]) fun k r hr => by
    obtain ⟨vs, n, ns, hT, hm, hi⟩ := I.row k r hr
    exact ⟨ns, _, hT, reads_newData (isList_of (N.get hm)) (ke_carried hi)⟩
  exact ⟨_, reads_list_at (N.get hn) rfl rfl (by simpa using ha)⟩

theorem tab_ne {t' : Addr} {rows' : List Addr} {Q : Value → Shared → Prop} (N : News h₀ L s.heap news) (I : IsTab news t rows T H W) (I' : IsTab news t' rows' T H W) (hu : A.units + 64 < cLine) (h : Q (.bool false) s) :
    wpAny (model prog w) A (compareOp .NotEq (.ref t) (.ref t')) Q E s := by
  obtain ⟨as, ra⟩ := tab_reads N I
  obtain ⟨bs, rb⟩ := tab_reads N I'
  refine ne_dataH ra rb (tabD_shaped T) (tabD_shaped T) hu ?_
  rw [SeqAt.eqv_refl _ (SeqAt.canLay_of_shaped (tabD_shaped T))]
  exact h
end
theorem rk_eq (n : Nat) : (List.range (n + 1)).map (fun (i : Nat) => (i : Int)) = rangeKs 0 ((n : Int) + 1 - 0).toNat := by
  rw [show ((n : Int) + 1 - 0).toNat = n + 1 from by omega]
  unfold rangeKs
  simp
theorem row0_eq {T : List (List Int)} {W : Nat} {ns : List Int} (h0 : T[0]? = some ns) (hl : ns.length = W) (h : ∀ j, j < W → cell T 0 j = j) : ns = (List.range W).map fun (i : Nat) => (i : Int) := by
  refine List.ext_getElem (by simp [hl]) fun j h1 h2 => ?_
  have h3 := h j (by omega)
  unfold cell at h3
  have hg : T.getD 0 [] = ns := by simp [List.getD, h0]
  rw [hg, List.getD_eq_getElem?_getD, List.getElem?_eq_getElem h1, Option.getD_some] at h3
  simpa using h3
end Mine
namespace Mine
section
variable {prog : Program} {w : World} {A : Around} {E : Value → Shared → Prop} {s : Shared} {h₀ : Heap} {L : Addr} {m : Str → Option Value} {news : List (Addr × Obj)} {t : Addr} {rows : List Addr} {T : List (List Int)} {H W : Nat}
theorem tab_top {value slice : PySem.Expr} {k : Int} {u : Tok} {Q : Value → Shared → Prop} (N : News h₀ L s.heap news) (I : IsTab news t rows T H W) (hk : k = 0) (hH : 1 ≤ H)
    (hrow : ∀ j, j < W → cell T 0 j = j) (h : ∀ r vs n, (r, rowO vs n) ∈ news → IntsAre vs ((List.range W).map fun (i : Nat) => (i : Int)) → Q (.ref r) s)
    (hs : subscripted slice false (.ref t) (.int k u) = operate [.ref t, .int k u] (getItem (.ref t) (.int k u)) := by with_unfolding_all rfl) :
    wpAny (model prog w) A (subscriptTail value slice (.ref t) (.int k u)) Q E s := by
  subst hk
  refine tab_row N I (by omega) (by omega) (fun r hr => ?_) hs
  obtain ⟨vs, n, ns, hT, hm, hi⟩ := I.row 0 r hr
  have e := row0_eq hT (I.wide _ (List.mem_of_getElem? hT)) hrow
  rw [e] at hi
  exact h r vs n hm hi
end
end Mine
namespace Mine
section
variable {prog : Program} {w : World} {A : Around} {E : Value → Shared → Prop} {s : Shared} {a b : Addr} {xs ys : List Value} {ns ms : List Int} {Q : Value → Shared → Prop}
theorem ne_ints_same (ha : s.heap.IsList a xs.toArray) (hb : s.heap.IsList b ys.toArray) (hi : IntsAre xs ns) (hj : IntsAre ys ms) (he : ns = ms) (hu : A.units + 64 < cLine) (h : Q (.bool false) s) :
    wpAny (model prog w) A (compareOp .NotEq (.ref a) (.ref b)) Q E s :=
  ke_ne_ints ha hb hi hj hu (by rw [decide_eq_true he]; exact h)
end
end Mine
namespace Mine
section
variable {prog : Program} {w : World} {A : Around} {E : Value → Shared → Prop} {s : Shared} {h₀ : Heap} {L : Addr} {m : Str → Option Value} {news : List (Addr × Obj)} {t : Addr} {rows : List Addr} {T : List (List Int)} {H W : Nat}
theorem tab_top2 {value slice : PySem.Expr} {k : Int} {u : Tok} {Q : Value → Shared → Prop} (N : News h₀ L s.heap news) (I : IsTab news t rows T H (W + 1)) (hk : k = 0) (hH : 1 ≤ H)
    (hrow : ∀ j, j < W + 1 → cell T 0 j = j) (h : ∀ r vs n ns, (r, rowO vs n) ∈ news → IntsAre vs ns → ns = rangeKs 0 ((W : Int) + 1 - 0).toNat → Q (.ref r) s)
    (hs : subscripted slice false (.ref t) (.int k u) = operate [.ref t, .int k u] (getItem (.ref t) (.int k u)) := by with_unfolding_all rfl) :
    wpAny (model prog w) A (subscriptTail value slice (.ref t) (.int k u)) Q E s :=
  tab_top N I hk hH hrow (fun r vs n hm hi => h r vs n _ hm hi (rk_eq W)) hs
end
end Mine
namespace Mine
/-- the ledger bears at r a list of the ints ks (a form that no line of the kit looks into) -/
def RowIs (news : List (Addr × Obj)) (r : Addr) (ks : List Int) : Prop := ∃ vs n, (r, rowO vs n) ∈ news ∧ IntsAre vs ks
section
variable {prog : Program} {w : World} {A : Around} {E : Value → Shared → Prop} {s : Shared} {h₀ : Heap} {L : Addr} {m : Str → Option Value} {news : List (Addr × Obj)} {t : Addr} {rows : List Addr} {T : List (List Int)} {H W : Nat}
theorem tab_top3 {value slice : PySem.Expr} {k : Int} {u : Tok} {Q : Value → Shared → Prop} (N : News h₀ L s.heap news) (I : IsTab news t rows T H (W + 1)) (hk : k = 0) (hH : 1 ≤ H)
    (hrow : ∀ j, j < W + 1 → cell T 0 j = j) (h : ∀ r, RowIs news r (rangeKs 0 ((W : Int) + 1 - 0).toNat) → Q (.ref r) s)
    (hs : subscripted slice false (.ref t) (.int k u) = operate [.ref t, .int k u] (getItem (.ref t) (.int k u)) := by with_unfolding_all rfl) :
    wpAny (model prog w) A (subscriptTail value slice (.ref t) (.int k u)) Q E s :=
  tab_top2 N I hk hH hrow (fun r vs n ns hm hi he => h r ⟨vs, n, hm, he ▸ hi⟩) hs
theorem ne_row {news' : List (Addr × Obj)} {a b : Addr} {ys : List Value} {ks : List Int} {Q : Value → Shared → Prop} (R : RowIs news a ks) (N : News h₀ L s.heap news') (hsub : ∀ p ∈ news, p ∈ news')
    (hb : s.heap.IsList b ys.toArray) (hj : IntsAre ys ks) (hu : A.units + 64 < cLine) (h : Q (.bool false) s) : wpAny (model prog w) A (compareOp .NotEq (.ref a) (.ref b)) Q E s := by
  obtain ⟨vs, n, hm, hi⟩ := R
  exact ne_ints_same (isList_of (N.get (hsub _ hm))) hb hi hj rfl hu h
end
end Mine
namespace Mine
theorem off1_mem {D : Addr} : ∀ {l : List (Addr × Obj)}, LCg.Off1 D l → ∀ p ∈ l, p.1 ≠ D
  | [], _, _, h => nomatch h
  | _ :: _, x, p, h => by
    rcases List.mem_cons.mp h with rfl | h
    · exact x.1
    · exact off1_mem x.2 p h
/-- a list of copied rows is a table of the same ints -/
theorem copy_tab {news nw' : List (Addr × Obj)} {t D : Addr} {rows krows : List Addr} {T : List (List Int)} {H W n : Nat} (hT : IsTab news t rows T H W) (hkl : krows.length = n) (hn : n = H) (hnd : krows.Nodup)
    (hkr : ∀ (i : Nat) r, krows[i]? = some r → ∃ vs n ns, T[i]? = some ns ∧ (r, rowO vs n) ∈ nw' ∧ IntsAre vs ns) (off : LCg.Off1 D nw') : IsTab ((D, LCg.lst (krows.map Value.ref)) :: nw') D krows T H W where
  outer := ⟨_, List.mem_cons_self⟩
  len := by rw [hkl, hn]
  lenT := hT.lenT
  nodup := hnd
  off := fun hm => by
    obtain ⟨i, hi⟩ := List.getElem?_of_mem hm
    obtain ⟨_, _, _, _, h, _⟩ := hkr i _ hi
    exact off1_mem off _ h rfl
  row := fun i r hr => by
    obtain ⟨vs, n, ns, a, b, c⟩ := hkr i r hr
    exact ⟨vs, n, ns, a, List.mem_cons_of_mem _ b, c⟩
  wide := hT.wide
  small := hT.small
/-- the address of the kept code is no list's -/
theorem ne32_row {h₀ h : Heap} {L a : Addr} {vs : List Value} {n : Nat} {news : List (Addr × Obj)} (N : News h₀ L h news) (h32 : (32, tabObj #[]) ∈ news) (hm : (a, rowO vs n) ∈ news) : a ≠ 32 := by
  intro e
  have q1 := (N _ h32).1
  have q2 := (N _ hm).1
  dsimp only at q1 q2
  rw [e, q1] at q2; cases q2
theorem IsTab.ne32 {h₀ h : Heap} {L t : Addr} {rows : List Addr} {T : List (List Int)} {H W : Nat} {news : List (Addr × Obj)} (I : IsTab news t rows T H W) (N : News h₀ L h news) (h32 : (32, tabObj #[]) ∈ news) : t ≠ 32 ∧ ∀ r ∈ rows, r ≠ 32 := by
  obtain ⟨n, hn⟩ := I.outer
  refine ⟨ne32_row N h32 hn, fun r hr => ?_⟩
  obtain ⟨i, hi⟩ := List.getElem?_of_mem hr
  obtain ⟨_, _, _, _, hm, _⟩ := I.row i r hi
  exact ne32_row N h32 hm
end Mine
end
section
namespace Mine
/-- the edit distance of the first i and the first j letters -/
def ed (sub : Nat → Nat → Int) : Nat → Nat → Int
  | 0, j => j
  | i + 1, 0 => (i : Int) + 1
  | i + 1, j + 1 => min (min (ed sub i (j + 1) + 1) (ed sub (i + 1) j + 1)) (ed sub i j + sub i j)

section
variable {sub : Nat → Nat → Int} (h : ∀ i j, sub i j = 0 ∨ sub i j = 1)

theorem ed_zero (j : Nat) : ed sub 0 j = j := by rw [ed]
theorem ed_left (i : Nat) : ed sub i 0 = i := by cases i <;> rw [ed] <;> simp
theorem ed_succ (i j : Nat) : ed sub (i + 1) (j + 1) = min (min (ed sub i (j + 1) + 1) (ed sub (i + 1) j + 1)) (ed sub i j + sub i j) := by rw [ed]

theorem ed_up_a (i j : Nat) : ed sub (i + 1) j ≤ ed sub i j + 1 := by
  cases j with
  | zero => rw [ed_left, ed_left]; omega
  | succ j => rw [ed_succ]; omega
theorem ed_up_b (i j : Nat) : ed sub i (j + 1) ≤ ed sub i j + 1 := by
  cases i with
  | zero => rw [ed_zero, ed_zero]; omega
  | succ i => rw [ed_succ]; omega
include h
theorem ed_lo_a (i j : Nat) : ed sub i j ≤ ed sub (i + 1) j + 1 := by
  induction j with
  | zero => rw [ed_left, ed_left]; omega
  | succ j ih =>
    rw [ed_succ]
    have h1 := ed_up_b (sub := sub) i j
    have h2 := h i j
    omega
theorem ed_lo_b (i j : Nat) : ed sub i j ≤ ed sub i (j + 1) + 1 := by
  induction i with
  | zero => rw [ed_zero, ed_zero]; omega
  | succ i ih =>
    rw [ed_succ]
    have h1 := ed_up_a (sub := sub) i j
    have h2 := h i j
    omega
theorem ed_diag (i j : Nat) : ed sub i j ≤ ed sub (i + 1) (j + 1) ∧ ed sub (i + 1) (j + 1) ≤ ed sub i j + 1 := by
  have h1 := ed_lo_a h i j
  have h2 := ed_lo_b h i j
  have h3 := h i j
  rw [ed_succ]
  omega
theorem ed_in (i j : Nat) : (i : Int) - j ≤ ed sub i j ∧ (j : Int) - i ≤ ed sub i j ∧ ed sub i j ≤ i + j := by
  induction i generalizing j with
  | zero => rw [ed_zero]; omega
  | succ i ih =>
    induction j with
    | zero => rw [ed_left]; omega
    | succ j ihj =>
      rw [ed_succ]
      have h1 := ih (j + 1)
      have h2 := ih j
      have h3 := h i j
      omega
theorem ed_nonneg (i j : Nat) : 0 ≤ ed sub i j := by have := ed_in h i j; omega

/-- the whole table is the edit distance -/
theorem Part.whole {H W : Nat} {f : Nat → Nat → Int} (P : Part (fun _ _ => true) sub H W f H 1) : ∀ i j, i < H → j < W → f i j = ed sub i j := by
  intro i
  induction i with
  | zero => intro j _ hj; rw [P.top j hj rfl, ed_zero]
  | succ i ih =>
    intro j
    induction j with
    | zero => intro hi _; rw [P.left (i + 1) hi rfl, ed_left]
    | succ j ihj =>
      intro hi hj
      rw [P.done (i + 1) (j + 1) (by omega) (by omega) hi hj rfl (by omega), ed_succ]
      unfold stepF
      simp only [Nat.add_sub_cancel]
      rw [ih (j + 1) (by omega) hj, ih j (by omega) (by omega), ihj hi (by omega)]
      omega

theorem Part.band_ge {b : Int} {H W : Nat} {g : Nat → Nat → Int} (P : Part (inBand b) sub H W g H 1) (hH : H ≤ 40) (hW : W ≤ 40) : ∀ i j, i < H → j < W → ed sub i j ≤ g i j := by
  intro i
  have hout : ∀ i j, i < H → j < W → inBand b i j = false → ed sub i j ≤ g i j := by
    intro i j hi hj hb
    rw [P.out i j hi hj hb]
    have := ed_in h i j; omega
  induction i with
  | zero =>
    intro j hi hj
    cases hb : inBand b 0 j with
    | false => exact hout 0 j hi hj hb
    | true => rw [P.top j hj hb, ed_zero]; omega
  | succ i ih =>
    intro j
    induction j with
    | zero =>
      intro hi hj
      cases hb : inBand b (i + 1) 0 with
      | false => exact hout _ _ hi hj hb
      | true => rw [P.left (i + 1) hi hb, ed_left]; omega
    | succ j ihj =>
      intro hi hj
      cases hb : inBand b (i + 1) (j + 1) with
      | false => exact hout _ _ hi hj hb
      | true =>
        rw [P.done (i + 1) (j + 1) (by omega) (by omega) hi hj hb (by omega), ed_succ]
        unfold stepF
        simp only [Nat.add_sub_cancel]
        have h1 := ih (j + 1) (by omega) hj
        have h2 := ih j (by omega) (by omega)
        have h3 := ihj hi (by omega)
        have h4 := h i j
        omega

theorem Part.band_eq {b : Int} {H W : Nat} {g : Nat → Nat → Int} (P : Part (inBand b) sub H W g H 1) (hH : H ≤ 40) (hW : W ≤ 40) : ∀ i j, i < H → j < W → ed sub i j ≤ b → g i j = ed sub i j := by
  intro i
  have hin : ∀ i j, ed sub i j ≤ b → inBand b i j = true := by
    intro i j hb
    have := ed_in h i j
    unfold inBand
    exact decide_eq_true (by omega)
  induction i with
  | zero => intro j hi hj hb; rw [P.top j hj (hin 0 j hb), ed_zero]
  | succ i ih =>
    intro j
    induction j with
    | zero => intro hi hj hb; rw [P.left (i + 1) hi (hin _ _ hb), ed_left]
    | succ j ihj =>
      intro hi hj hb
      have hge := P.band_ge h hH hW (i + 1) (j + 1) hi hj
      have e1 := P.done (i + 1) (j + 1) (by omega) (by omega) hi hj (hin _ _ hb) (by omega)
      unfold stepF at e1
      simp only [Nat.add_sub_cancel] at e1
      have h1 := ih (j + 1) (by omega) hj
      have h2 := ih j (by omega) (by omega)
      have h3 := ihj hi (by omega)
      have h4 := h i j
      have e2 := ed_succ (sub := sub) i j
      have c : ed sub (i + 1) (j + 1) = ed sub i (j + 1) + 1 ∨ ed sub (i + 1) (j + 1) = ed sub (i + 1) j + 1 ∨ ed sub (i + 1) (j + 1) = ed sub i j + sub i j := by omega
      rcases c with c | c | c
      · have := h1 (by omega); omega
      · have := h3 (by omega); omega
      · have := h2 (by omega); omega

/-- a least way back costs what the cell is -/
theorem back_ed {H W : Nat} {f : Nat → Nat → Int} (hf : ∀ i j, i < H → j < W → f i j = ed sub i j) (hH : H ≤ 40) (hW : W ≤ 40) {p p' : Nat × Nat} (h1 : p.1 < H) (h2 : p.2 < W) (hne : p ≠ (0, 0)) (hb : Back f sub p p') :
    (p.1 = p'.1 + 1 ∧ p.2 = p'.2 + 1 ∧ ed sub p.1 p.2 = ed sub p'.1 p'.2 + sub p'.1 p'.2) ∨ (p.1 = p'.1 + 1 ∧ p.2 = p'.2 ∧ ed sub p.1 p.2 = ed sub p'.1 p'.2 + 1) ∨ (p.1 = p'.1 ∧ p.2 = p'.2 + 1 ∧ ed sub p.1 p.2 = ed sub p'.1 p'.2 + 1) := by
  obtain ⟨i, j⟩ := p
  obtain ⟨i', j'⟩ := p'
  obtain ⟨q, hq, hmin, ha, hc⟩ := hb
  dsimp only at h1 h2 hmin ha hc ⊢
  have m0 := hmin 0 (by omega)
  have m1 := hmin 1 (by omega)
  have m2 := hmin 2 (by omega)
  have hbig : ∀ i j, ed sub i j ≤ i + j := fun i j => (ed_in h i j).2.2
  cases i with
  | zero =>
    cases j with
    | zero => exact absurd rfl hne
    | succ j =>
      have e0 : (cst f sub 0 (j + 1) 0) = (1000000000, ((0 : Nat) : Int) - 1, ((j + 1 : Nat) : Int) - 1) := by
        show (if 0 = 0 ∨ j + 1 = 0 then _ else _, _, _) = _; rw [if_pos (.inl rfl)]
      have e1 : (cst f sub 0 (j + 1) 1) = (1000000000, ((0 : Nat) : Int) - 1, ((j + 1 : Nat) : Int)) := by
        show (if 0 = 0 then _ else _, _, _) = _; rw [if_pos rfl]
      have e2 : (cst f sub 0 (j + 1) 2) = (f 0 j + 1, ((0 : Nat) : Int), ((j + 1 : Nat) : Int) - 1) := by
        show (if j + 1 = 0 then _ else _, _, _) = _; rw [if_neg (by omega)]; rfl
      rw [hf 0 j h1 (by omega), ed_zero] at e2
      rw [e0] at m0; rw [e1] at m1; rw [e2] at m2
      dsimp only at m0 m1 m2
      have hq2 : q = 0 ∨ q = 1 ∨ q = 2 := by omega
      rcases hq2 with rfl | rfl | rfl
      · rw [e0] at m2; dsimp only at m2; omega
      · rw [e1] at m2; dsimp only at m2; omega
      · rw [e2] at ha hc; dsimp only at ha hc
        have a1 : i' = 0 := by omega
        have a2 : j' = j := by omega
        subst a1; subst a2
        rw [ed_zero, ed_zero]; omega
  | succ i =>
    cases j with
    | zero =>
      have e0 : (cst f sub (i + 1) 0 0) = (1000000000, ((i + 1 : Nat) : Int) - 1, ((0 : Nat) : Int) - 1) := by
        show (if i + 1 = 0 ∨ 0 = 0 then _ else _, _, _) = _; rw [if_pos (.inr rfl)]
      have e1 : (cst f sub (i + 1) 0 1) = (f i 0 + 1, ((i + 1 : Nat) : Int) - 1, ((0 : Nat) : Int)) := by
        show (if i + 1 = 0 then _ else _, _, _) = _; rw [if_neg (by omega)]; rfl
      have e2 : (cst f sub (i + 1) 0 2) = (1000000000, ((i + 1 : Nat) : Int), ((0 : Nat) : Int) - 1) := by
        show (if 0 = 0 then _ else _, _, _) = _; rw [if_pos rfl]
      rw [hf i 0 (by omega) h2, ed_left] at e1
      rw [e0] at m0; rw [e1] at m1; rw [e2] at m2
      dsimp only at m0 m1 m2
      have hq2 : q = 0 ∨ q = 1 ∨ q = 2 := by omega
      rcases hq2 with rfl | rfl | rfl
      · rw [e0] at m1; dsimp only at m1; omega
      · rw [e1] at ha hc; dsimp only at ha hc
        have a1 : i' = i := by omega
        have a2 : j' = 0 := by omega
        subst a1; subst a2
        rw [ed_left, ed_left]; omega
      · rw [e2] at m1; dsimp only at m1; omega
    | succ j =>
      have e0 : (cst f sub (i + 1) (j + 1) 0) = (f i j + sub i j, ((i + 1 : Nat) : Int) - 1, ((j + 1 : Nat) : Int) - 1) := by
        show (if i + 1 = 0 ∨ j + 1 = 0 then _ else _, _, _) = _; rw [if_neg (by omega)]; rfl
      have e1 : (cst f sub (i + 1) (j + 1) 1) = (f i (j + 1) + 1, ((i + 1 : Nat) : Int) - 1, ((j + 1 : Nat) : Int)) := by
        show (if i + 1 = 0 then _ else _, _, _) = _; rw [if_neg (by omega)]; rfl
      have e2 : (cst f sub (i + 1) (j + 1) 2) = (f (i + 1) j + 1, ((i + 1 : Nat) : Int), ((j + 1 : Nat) : Int) - 1) := by
        show (if j + 1 = 0 then _ else _, _, _) = _; rw [if_neg (by omega)]; rfl
      rw [hf i j (by omega) (by omega)] at e0
      rw [hf i (j + 1) (by omega) h2] at e1
      rw [hf (i + 1) j h1 (by omega)] at e2
      rw [e0] at m0; rw [e1] at m1; rw [e2] at m2
      dsimp only at m0 m1 m2
      have hs := ed_succ (sub := sub) i j
      have hq2 : q = 0 ∨ q = 1 ∨ q = 2 := by omega
      rcases hq2 with rfl | rfl | rfl
      · rw [e0] at m0 m1 m2 ha hc; dsimp only at m0 m1 m2 ha hc
        have a1 : i' = i := by omega
        have a2 : j' = j := by omega
        subst a1; subst a2
        exact .inl ⟨rfl, rfl, by omega⟩
      · rw [e1] at m0 m1 m2 ha hc; dsimp only at m0 m1 m2 ha hc
        have a1 : i' = i := by omega
        have a2 : j' = j + 1 := by omega
        subst a1; subst a2
        exact .inr (.inl ⟨rfl, rfl, by omega⟩)
      · rw [e2] at m0 m1 m2 ha hc; dsimp only at m0 m1 m2 ha hc
        have a1 : i' = i + 1 := by omega
        have a2 : j' = j := by omega
        subst a1; subst a2
        exact .inr (.inr ⟨rfl, rfl, by omega⟩)
end
end Mine
end
section
namespace Mine
section
variable {sub : Nat → Nat → Int} {E : Nat → Nat → Prop} [∀ i j, Decidable (E i j)] {H W : Nat} {f : Nat → Nat → Int} {P : List (Nat × Nat)}

structure WayOk (sub : Nat → Nat → Int) (E : Nat → Nat → Prop) [∀ i j, Decidable (E i j)] (n m : Nat) (worth : Int) (V : Nat → Int) (P : List (Nat × Nat)) : Prop where
  pos : 0 < P.length
  first : P[0]? = some (0, 0)
  last : P[P.length - 1]? = some (n, m)
  bd : ∀ p ∈ P, p.1 ≤ n ∧ p.2 ≤ m
  wd : ∀ p ∈ P, (((p.1 : Int) - (p.2 : Int)).natAbs : Int) ≤ worth
  step : ∀ (k : Nat) p p', P[k]? = some p → P[k + 1]? = some p' → (p'.1 = p.1 + 1 ∧ p'.2 = p.2 + 1) ∨ (p'.1 = p.1 + 1 ∧ p'.2 = p.2) ∨ (p'.1 = p.1 ∧ p'.2 = p.2 + 1)
  v0 : V 0 = 0
  v : ∀ (k : Nat) p p', P[k]? = some p → P[k + 1]? = some p' → V (k + 1) = V k + if p'.1 = p.1 + 1 ∧ p'.2 = p.2 + 1 ∧ E p.1 p.2 then 0 else 1
  vl : V (P.length - 1) = worth

theorem way_ok (h : ∀ i j, sub i j = if E i j then 0 else 1) (hf : ∀ i j, i < H → j < W → f i j = ed sub i j) (hH : H ≤ 40) (hW : W ≤ 40) (hH1 : 1 ≤ H) (hW1 : 1 ≤ W) (t : Trail f sub H W P 0 0) :
    WayOk sub E (H - 1) (W - 1) (ed sub (H - 1) (W - 1)) (fun k => match P.reverse[k]? with | some p => ed sub p.1 p.2 | none => 0) P.reverse := by
  have h01 : ∀ i j, sub i j = 0 ∨ sub i j = 1 := by intro i j; rw [h]; split <;> simp
  have hpos : 0 < P.length := (List.getElem?_eq_some_iff.mp t.first).1
  have all : ∀ (k : Nat) p, P[k]? = some p → (p.1 < H ∧ p.2 < W) ∧ ed sub p.1 p.2 ≤ ed sub (H - 1) (W - 1) := by
    intro k
    induction k with
    | zero =>
      intro p hp
      rw [t.first] at hp
      have e : (H - 1, W - 1) = p := Option.some.inj hp
      subst e
      exact ⟨⟨by show H - 1 < H; omega, by show W - 1 < W; omega⟩, Int.le_refl _⟩
    | succ k ih =>
      intro p' hp'
      have hk : k < P.length := by have := (List.getElem?_eq_some_iff.mp hp').1; omega
      have hp := List.getElem?_eq_getElem hk
      obtain ⟨⟨i1, i2⟩, i3⟩ := ih _ hp
      obtain ⟨s1, s2⟩ := t.steps k _ _ hp hp'
      have b := back_ed h01 hf hH hW i1 i2 s1 s2
      have hs := h01 p'.1 p'.2
      omega
  have hrev : ∀ (k : Nat), k < P.length → P.reverse[k]? = P[P.length - 1 - k]? := fun k hk => List.getElem?_reverse hk
  have hmem : ∀ p ∈ P.reverse, (p.1 < H ∧ p.2 < W) ∧ ed sub p.1 p.2 ≤ ed sub (H - 1) (W - 1) := by
    intro p hp
    obtain ⟨k, hk⟩ := List.getElem?_of_mem (List.mem_reverse.mp hp)
    exact all k p hk
  have hst : ∀ (k : Nat) p p', P.reverse[k]? = some p → P.reverse[k + 1]? = some p' →
      (p'.1 = p.1 + 1 ∧ p'.2 = p.2 + 1 ∧ ed sub p'.1 p'.2 = ed sub p.1 p.2 + sub p.1 p.2) ∨ (p'.1 = p.1 + 1 ∧ p'.2 = p.2 ∧ ed sub p'.1 p'.2 = ed sub p.1 p.2 + 1) ∨ (p'.1 = p.1 ∧ p'.2 = p.2 + 1 ∧ ed sub p'.1 p'.2 = ed sub p.1 p.2 + 1) := by
    intro k p p' h1 h2
    have hk : k + 1 < P.length := by have := (List.getElem?_eq_some_iff.mp h2).1; rwa [List.length_reverse] at this
    rw [hrev k (by omega)] at h1
    rw [hrev (k + 1) hk] at h2
    rw [show P.length - 1 - k = P.length - 1 - (k + 1) + 1 from by omega] at h1
    obtain ⟨s1, s2⟩ := t.steps _ _ _ h2 h1
    obtain ⟨⟨i1, i2⟩, _⟩ := all _ _ h2
    exact back_ed h01 hf hH hW i1 i2 s1 s2
  have hl : P.reverse.length = P.length := List.length_reverse
  have hfirst : P.reverse[0]? = some (0, 0) := by
    rw [hrev 0 hpos, Nat.sub_zero]; exact t.last
  have hlast : P.reverse[P.reverse.length - 1]? = some (H - 1, W - 1) := by
    rw [hl, hrev _ (by omega), show P.length - 1 - (P.length - 1) = 0 from by omega]; exact t.first
  refine ⟨by rw [hl]; exact hpos, hfirst, hlast, ?_, ?_, ?_, ?_, ?_, ?_⟩
  · intro p hp; have := hmem p hp; omega
  · intro p hp
    have h1 := hmem p hp
    have h2 := ed_in h01 p.1 p.2
    omega
  · intro k p p' h1 h2
    rcases hst k p p' h1 h2 with ⟨a, b, _⟩ | ⟨a, b, _⟩ | ⟨a, b, _⟩
    · exact .inl ⟨a, b⟩
    · exact .inr (.inl ⟨a, b⟩)
    · exact .inr (.inr ⟨a, b⟩)
  · simp only [hfirst]; rw [ed_zero]; rfl
  · intro k p p' h1 h2
    simp only [h1, h2]
    rcases hst k p p' h1 h2 with ⟨a, b, c⟩ | ⟨a, b, c⟩ | ⟨a, b, c⟩
    · rw [c, h]
      by_cases e : E p.1 p.2
      · rw [if_pos e, if_pos ⟨a, b, e⟩]
      · rw [if_neg e, if_neg (fun q => e q.2.2)]
    · rw [c, if_neg (fun q => by omega)]
    · rw [c, if_neg (fun q => by omega)]
  · simp only [hlast]
end
end Mine
namespace Mine
theorem WayOk.len {sub : Nat → Nat → Int} {E : Nat → Nat → Prop} [∀ i j, Decidable (E i j)] {n m : Nat} {worth : Int} {V : Nat → Int} {P : List (Nat × Nat)} (w : WayOk sub E n m worth V P) : P.length ≤ n + m + 1 := by
  have all : ∀ (k : Nat) p, P[k]? = some p → k ≤ p.1 + p.2 := by
    intro k
    induction k with
    | zero => intro p _; omega
    | succ k ih =>
      intro p' hp'
      have hk : k < P.length := by have := (List.getElem?_eq_some_iff.mp hp').1; omega
      have hp := List.getElem?_eq_getElem hk
      have h1 := ih _ hp
      have h2 := w.step k _ _ hp hp'
      omega
  have h1 := all _ _ w.last
  have h2 := w.pos
  dsimp only at h1
  omega
end Mine
end
section
open PySem PySem.W PyProof.Rows
set_option maxRecDepth 100000
set_option maxHeartbeats 2000000
namespace Mine

/-- one laying of a hash into a set's table of n elements, as layNew does it -/
def stepT (t : SetTable) (n : Nat) (h : Int) : SetTable × Bool :=
  match t.freeSlot h with
  | some (slot, wd) => (((t.put slot).1).orStandIn (n + 1), wd)
  | none => (t.standIn (n + 1), false)
def tabs (led : Bool) (l : List Int) : SetTable :=
  (l.foldl (fun (p : SetTable × Nat) n => ((stepT p.1 p.2 (hashInt n)).1, p.2 + 1)) (SetTable.fresh 0 0 led, 0)).1

theorem tabs_len (led : Bool) (l : List Int) : ∀ p : SetTable × Nat,
    (l.foldl (fun (p : SetTable × Nat) n => ((stepT p.1 p.2 (hashInt n)).1, p.2 + 1)) p).2 = p.2 + l.length := by
  induction l with
  | nil => intro p; rfl
  | cons a r ih => intro p; rw [List.foldl_cons, ih, List.length_cons]; omega
theorem tabs_snoc (led : Bool) (l : List Int) (n : Int) : tabs led (l ++ [n]) = (stepT (tabs led l) l.length (hashInt n)).1 := by
  unfold tabs
  rw [List.foldl_append, List.foldl_cons, List.foldl_nil]
  rw [tabs_len led l, Nat.zero_add]
theorem stepT_fits (t : SetTable) (n : Nat) (h : Int) : (stepT t n h).1.fits (n + 1) = true := by
  unfold stepT
  split
  · exact SetTable.orStandIn_fits ..
  · exact SetTable.standIn_fits ..
theorem tabs_fits (led : Bool) (l : List Int) : (tabs led l).fits l.length = true := by
  rcases List.eq_nil_or_concat l with rfl | ⟨r, n, rfl⟩
  · rfl
  · rw [List.concat_eq_append, tabs_snoc, List.length_append, List.length_singleton]; exact stepT_fits ..
theorem layNew_step (t : SetTable) (es : Array (Int × Value)) (h : Int) (x : Value) :
    ∃ es' gave, layNew t es h x = (es', (stepT t es.size h).1, (stepT t es.size h).2, gave) ∧ es'.toList.Perm (es.toList ++ [(h, x)]) := by
  have hp := layNew_perm t es h x
  rw [Array.toList_push] at hp
  have hs : (layNew t es h x).1.size = es.size + 1 := by
    have := hp.length_eq
    rw [List.length_append, List.length_singleton, Array.length_toList, Array.length_toList] at this
    exact this
  unfold layNew at hp hs ⊢
  unfold stepT
  cases ht : t.freeSlot h with
  | none => rw [ht] at hp hs; exact ⟨_, _, rfl, hp⟩
  | some q =>
    obtain ⟨slot, wd⟩ := q
    rw [ht] at hp hs
    dsimp only at hp hs ⊢
    exact ⟨_, !(t.put slot).fst.fits (SetTable.insertAt es (t.put slot).snd (h, x)).size, by rw [hs], hp⟩

/-- a set made in the call, of the ints l, laid one by one -/
def SetK (w : World) (h : Heap) (a : Addr) (l : List Int) : Prop :=
  ∃ es ep, h.get? a = some { cls := .type "set", dict := none, data := .set es ep (tabs (!(w.params.followText "set-order")) l), slots := #[] } ∧
    (∀ e ∈ es.toList, ∃ k ∈ l, ∃ tk, e = (hashInt k, .int k tk)) ∧ (∀ k ∈ l, ∃ e ∈ es.toList, ∃ tk, e.2 = .int k tk) ∧ es.size = l.length

section
variable {prog : Program} {w : World} {A : Around} {E : Value → Shared → Prop} {s : Shared}
theorem elems_ints {es : Array (Int × Value)} {l : List Int} (h : ∀ e ∈ es.toList, ∃ k ∈ l, ∃ tk, e = (hashInt k, .int k tk)) : ElemsOf (intKind prog w) es.toList := by
  intro e he
  obtain ⟨k, _, tk, rfl⟩ := h e he
  exact ⟨⟨k, intKind_is _ _ _ _, rfl⟩, rfl⟩

theorem add_int {a : Addr} {l : List Int} {n : Int} {tk : Tok} {Q : Bool → Shared → Prop} (hS : SetK w s.heap a l) (hroom : l.length + 1 < scanBound)
    (hok : n ∉ l → (stepT (tabs (!(w.params.followText "set-order")) l) l.length (hashInt n)).1.tooFull = false)
    (h : ∀ b h', Heap.SameBut a s.heap h' → SetK w h' a (step_dedup l n) → Q b { s with heap := h' }) :
    wpAny (model prog w) A (setAddHashed a (.int n tk) (hashInt n)) Q E s := by
  obtain ⟨es, ep, ho, h1, h2, hn⟩ := id hS
  have hf : (tabs (!(w.params.followText "set-order")) l).fits es.size = true := by rw [hn]; exact tabs_fits ..
  have hel : ElemsOf (intKind prog w) es.toList := elems_ints h1
  unfold setAddHashed setAddHashedIn
  refine wpAny_holding (wpAny_bind (wpAny_setState_of ho rfl hf ?_))
  dsimp only
  rw [byScan_of (knd := intKind prog w) (x := .int n tk) rfl (by omega) hel]
  simp only [↓reduceIte]
  unfold setAddByScan
  refine wpAny_bind (wpAny_bind (wpAny_rule (wpAny_bind ?_)))
  refine wpAny_setScan_of (knd := intKind prog w) (k := n) (intKind_is _ _ _ _) ho rfl hf hel ?_
  cases hr : List.findIdx? (fun e => (intKind prog w).is n e.2) es.toList with
  | some j =>
    dsimp only
    obtain ⟨hj, hpj, _⟩ := List.findIdx?_eq_some_iff_getElem.mp hr
    obtain ⟨k, hk, tk', e⟩ := h1 _ (List.getElem_mem hj)
    rw [e] at hpj
    have hkn : k = n := by simpa [intKind, Value.isInt] using hpj
    subst hkn
    have hd : step_dedup l k = l := by
      unfold step_dedup
      rw [if_pos (List.any_eq_true.mpr ⟨k, hk, by simp⟩)]
    refine wpAny_pure (wpAny_pure ?_)
    exact h false s.heap (Heap.SameBut.refl a s.heap) (by rw [hd]; exact hS)
  | none =>
    dsimp only
    have hnl : n ∉ l := fun hm => by
      obtain ⟨e, he, tk', h3⟩ := h2 n hm
      have := List.findIdx?_eq_none_iff.mp hr e he
      rw [h3] at this
      exact absurd this (by simp [intKind, Value.isInt])
    have hd : step_dedup l n = l ++ [n] := by
      unfold step_dedup
      rw [if_neg (fun hc => by
        obtain ⟨k, hk, hkn⟩ := List.any_eq_true.mp hc
        exact hnl (by rw [← (by simpa using hkn : k = n)]; exact hk))]
    have htf := hok hnl
    obtain ⟨es', gave, hL, hp⟩ := layNew_step (tabs (!(w.params.followText "set-order")) l) es (hashInt n) (.int n tk)
    rw [hn] at hL
    rw [hL]
    dsimp only
    have hsz : es'.size = l.length + 1 := by
      have := hp.length_eq
      rw [List.length_append, List.length_singleton, Array.length_toList, Array.length_toList, hn] at this
      exact this
    refine wpAny_bind (m := _) ?_
    have hK : SetK w (s.heap.update a (Obj.putSet es' (stepT (tabs (!(w.params.followText "set-order")) l) l.length (hashInt n)).1)) a (l ++ [n]) := by
      have hg := Heap.get?_update_self (Obj.putSet es' (stepT (tabs (!(w.params.followText "set-order")) l) l.length (hashInt n)).1) ho (by rw [putSet_of es' _ rfl]; rfl)
      rw [putSet_of es' _ rfl] at hg
      refine ⟨es', ep + 1, ?_, ?_, ?_, by rw [List.length_append, List.length_singleton]; exact hsz⟩
      · rw [tabs_snoc]; exact hg
      · intro e he
        rcases List.mem_append.mp (hp.mem_iff.mp he) with he | he
        · obtain ⟨k, hk, r⟩ := h1 e he
          exact ⟨k, List.mem_append_left _ hk, r⟩
        · exact ⟨n, List.mem_append_right _ (List.mem_singleton.mpr rfl), tk, List.mem_singleton.mp he⟩
      · intro k hk
        rcases List.mem_append.mp hk with hk | hk
        · obtain ⟨e, he, r⟩ := h2 k hk
          exact ⟨e, hp.mem_iff.mpr (List.mem_append_left _ he), r⟩
        · rw [List.mem_singleton.mp hk]
          exact ⟨_, hp.mem_iff.mpr (List.mem_append_right _ (List.mem_singleton.mpr rfl)), tk, rfl⟩
    have fin := h true _ (Heap.SameBut.update s.heap a _) (by rw [hd]; exact hK)
    have hgw : ∀ (b : Bool) {s₁ : Shared} {Q' : Unit → Shared → Prop}, Q' () s₁ → wpAny (model prog w) A (match b with | true => rule "set.scan.the-table-gave-way" | false => pure ()) Q' E s₁ :=
      fun b s₁ Q' hq => by cases b <;> first | exact wpAny_pure hq | exact wpAny_rule hq
    have hsl : es'.size ≤ sizeLine := fits_of_scanBound (by rw [hsz]; exact hroom)
    refine hgw gave ?_
    have hby : hashByValue 8 (.int n tk) = pure true := by
      have := hashByValue_scannable 8 (x := .int n tk) rfl
      exact this
    split
    · refine wpAny_bind ?_
      rw [hby]
      refine wpAny_pure ?_
      simp only [↓reduceIte]
      refine wpAny_bind (wpAny_storeSet_of ho rfl ?_ hsl)
      rw [htf, Bool.and_false]
      simp only [Bool.false_eq_true, ↓reduceIte]
      exact wpAny_pure (wpAny_pure fin)
    · refine wpAny_bind (wpAny_pure ?_)
      simp only [↓reduceIte]
      refine wpAny_bind (wpAny_storeSet_of ho rfl ?_ hsl)
      rw [htf, Bool.and_false]
      simp only [Bool.false_eq_true, ↓reduceIte]
      exact wpAny_pure (wpAny_pure fin)
end
end Mine
end
section
open PySem PySem.W PyProof.Rows
set_option maxRecDepth 100000
set_option maxHeartbeats 2000000
namespace Mine

theorem entry_set_iter : entryFor table "set.__iter__" = some Builtin.«frozenset.__iter__» :=
  entryFor_alias (id' := "frozenset.__iter__") (by rw [fastTable_eq_tree]; kernel_rfl) rfl (by decide +kernel) (by rw [fastTable_eq_tree]; kernel_rfl)
theorem slot_si_next : Slot "set_iterator" "__next__" "set_iterator.__next__" :=
  .of (owner := "set_iterator") (n := "__next__") (by rw [typeLookup_type, builtinLookup_eq_fast]; kernel_rfl) (by decide +kernel) (by decide +kernel) (by decide +kernel)
    (by first | exact .inl (by decide +kernel) | exact .inr (by decide +kernel)) (by rw [isSubtype_type]; kernel_rfl)
theorem slot_si_iter : Slot "set_iterator" "__iter__" "set_iterator.__iter__" :=
  .of (owner := "set_iterator") (n := "__iter__") (by rw [typeLookup_type, builtinLookup_eq_fast]; kernel_rfl) (by decide +kernel) (by decide +kernel) (by decide +kernel)
    (by first | exact .inl (by decide +kernel) | exact .inr (by decide +kernel)) (by rw [isSubtype_type]; kernel_rfl)
theorem entry_si_next : entryFor table "set_iterator.__next__" = some Builtin.«set_iterator.__next__» := entryFor_of_tree (by kernel_rfl)
theorem args_si_next (a : Value) : argsOk "set_iterator.__next__" ⟨[a], []⟩ := by unfold argsOk; kernel_rfl
theorem entry_si_iter : entryFor table "set_iterator.__iter__" = some Builtin.«dict_keyiterator.__iter__» :=
  entryFor_alias (id' := "dict_keyiterator.__iter__") (by rw [fastTable_eq_tree]; kernel_rfl) rfl (by decide +kernel) (by rw [fastTable_eq_tree]; kernel_rfl)
theorem args_si_iter (a : Value) : argsOk "set_iterator.__iter__" ⟨[a], []⟩ := by unfold argsOk; kernel_rfl
theorem len_set : typeLookup (.type "set") "__len__" = pure (some (.builtin "set.__len__")) := by rw [typeLookup_type, builtinLookup_eq_fast]; kernel_rfl

/-- the iterator over a set: where it stands (slot), how much it gave -/
def IsSI (h : Heap) (it a : Addr) (σ i n ep : Nat) : Prop :=
  ∃ o, h.get? it = some o ∧ o.cls = .type "set_iterator" ∧ o.data = .fields #[.int σ 0, .int i 0, .ref a, .int n 0, .int ep 0]
theorem IsSI.typeIs {s : Shared} {it a : Addr} {σ i n ep : Nat} (x : IsSI s.heap it a σ i n ep) : s.TypeIs (.ref it) "set_iterator" := let ⟨o, ho, hc, _⟩ := x; ⟨o, ho, hc⟩

section
variable {prog : Program} {w : World} {A : Around} {E : Value → Shared → Prop} {s : Shared}

theorem hint_set {r : Addr} {Q : Bool → Shared → Prop} (hT : s.TypeIs (.ref r) "set") (h : Q false s) : wpAny (model prog w) A (Builtin.List.listLengthHint (.ref r)) Q E s := by
  unfold Builtin.List.listLengthHint
  refine wpAny_bind (wpAny_specialOf hT len_set ?_)
  generalize hid : ("set.__len__" : String) = id0
  wp_delta
  rw [show splitId id0 = some ("set", "__len__") from by subst hid; decide +kernel]
  subst hid
  refine wpAny_bind (wpAny_isInstance (T := "set") (b := true) hT (by rw [isSubtype_type]; kernel_rfl) ?_)
  refine wpAny_ite_split (fun hab => absurd hab (by decide)) (fun _ => ?_)
  refine wpAny_ite_split (fun _ => ?_) (fun hab => absurd (by decide +kernel) hab)
  refine wpAny_bind (wpAny_typeOf hT ?_)
  exact wpAny_pure h

variable {a : Addr} {o : Obj} {es : Array (Int × Value)} {ep : Nat} {t : SetTable}

theorem iter_set {Q : Value → Shared → Prop} (ho : s.heap.get? a = some o) (hc : o.cls = .type "set") (hd : o.data = .set es ep t) (hf : t.fits es.size = true) (hpl : t.plain = true)
    (hQ : Q (.ref s.heap.objs.size) { s with heap := s.heap.push { cls := .type "set_iterator", data := .fields #[.int 0 0, .int 0 0, .ref a, .int es.size 0, .int ep 0] } }) :
    wpAny (model prog w) A (pyIter (.ref a)) Q E s := by
  have hT : s.TypeIs (.ref a) "set" := ⟨o, ho, hc⟩
  refine wpAny_pyIter_slot hT PySem.F.slot_set_iter (wpAny_call_entry PySem.F.slot_set_iter hT entry_set_iter ?_ (PySem.F.args_set_iter_1 _))
  unfold Builtin.«frozenset.__iter__»
  refine wpAny_bind (m := Builtin.Frozenset.slot0 "__iter__" _) (wpAny_pure ?_)
  refine wpAny_bind ?_
  unfold Builtin.Frozenset.sizeOf
  refine wpAny_bind (wpAny_setEntries_of ho hd hf (wpAny_pure ?_))
  refine wpAny_bind ?_
  refine wpAny_bind ?_
  refine wpAny_setState_of ho hd hf ?_
  dsimp only
  unfold setsByText
  refine wpAny_bind (wpAny_bind (wpAny_askSetting (wpAny_pure ?_)))
  have hdr : (!((model prog w).w.params.followText "set-order") && (!t.plain && decide (es.size > 1))) = false := by rw [hpl]; simp
  refine wpAny_pure ?_
  show wpAny _ _ (if (!((model prog w).w.params.followText "set-order") && (!t.plain && decide (es.size > 1))) = true then _ else _) _ _ s
  rw [hdr]
  simp only [Bool.false_eq_true, ↓reduceIte]
  refine wpAny_bind (wpAny_pure ?_)
  refine wpAny_bind (wpAny_setEpoch_of ho hd hf ?_)
  refine wpAny_bind (wpAny_newObj_type (wpAny_pure ⟨_, rfl, "set_iterator", _, ⟨_, Heap.get?_push_size _ rfl, rfl⟩, slot_si_next.lookup, ?_⟩))
  exact hQ

theorem next_set {it : Addr} {σ i : Nat} {r : Option (Value × Nat)} {Q : Option Value → Shared → Prop} (hh : A.handled = none) (hit : IsSI s.heap it a σ i es.size ep)
    (ho : s.heap.get? a = some o) (hd : o.data = .set es ep t) (hf : t.fits es.size = true)
    (hn : ∀ (A : Around) (E : Value → Shared → Prop) (Q : Option (Value × Nat) → Shared → Prop), Q r s → wpAny (model prog w) A (setNext a σ i ep) Q E s)
    (hQ : match r with
      | some (x, σ') => ∀ h', IsSI h' it a σ' (i + 1) es.size ep → Heap.SameBut it s.heap h' → Q (some x) { s with heap := h' }
      | none => ∀ h', Heap.ExtBut it s.heap h' → Q none { s with heap := h' }) :
    wpAny (model prog w) A (pyNext (.ref it)) Q E s := by
  obtain ⟨oi, hoi, hci, hdi⟩ := id hit
  unfold pyNext
  refine wpAny_bind (wpAny_attempt (wpAny_callSpecial?_slot (name := Str.ofString "__next__") hit.typeIs slot_si_next
    (wpAny_call_entry slot_si_next hit.typeIs entry_si_next ?_ (args_si_next _))))
  unfold Builtin.«set_iterator.__next__»
  refine wpAny_bind (wpAny_pure ?_)
  refine wpAny_bind (wpAny_fieldsOf hoi hdi ?_)
  dsimp only
  refine wpAny_bind (wpAny_setEntries_of ho hd hf ?_)
  rw [if_neg (by simp)]
  simp only [Int.toNat_natCast]
  refine wpAny_bind (hn _ _ _ ?_)
  cases r with
  | some q =>
    obtain ⟨x, σ'⟩ := q
    dsimp only at hQ ⊢
    refine wpAny_bind (wpAny_setField hoi hdi (by simp) ?_)
    have h1 := Heap.get?_update_self (Obj.mapFields fun fs => fs.set! 0 (rawInt σ')) hoi (Obj.isFreed_of_fields (Obj.data_mapFields hdi _))
    have hd1 := Obj.data_mapFields hdi (fun fs => fs.set! 0 (rawInt σ'))
    refine wpAny_bind (wpAny_setField h1 hd1 (by simp) ?_)
    refine wpAny_pure ⟨x, rfl, wpAny_pure (hQ _ ?_ ((Heap.SameBut.update ..).trans (Heap.SameBut.update ..)))⟩
    exact ⟨_, Heap.get?_update_self _ h1 (Obj.isFreed_of_fields (Obj.data_mapFields hd1 _)), (Obj.cls_mapFields ..).trans ((Obj.cls_mapFields ..).trans hci), by
      rw [Obj.data_mapFields hd1]; simp [rawInt]⟩
  | none =>
    dsimp only at hQ ⊢
    refine wpAny_bind (wpAny_setField hoi hdi (by simp) ?_)
    show wpAny _ _ (newExc (.type "StopIteration") [] >>= _) _ _ _
    refine wpAny_bind ?_
    simp only [newExc, newTuple]
    refine wpAny_bind (wpAny_newObj_type ?_ (by size_fits))
    refine wpAny_bind (m := firstArgMember _ _) (wpAny_of_eq (a := Value.none) (by first | rfl | (simp only [firstArgMember]; rfl)) ?_)
    refine wpAny_newObj_type ?_ (by size_fits)
    simp only [raiseNew]
    refine wpAny_bind (wpAny_handled ?_)
    rw [show A.in1.handled = none from hh]
    refine wpAny_bind (wpAny_pure (wpAny_throw ?_))
    refine wpAny_bind (wpAny_isInstance (T := "StopIteration") (b := true) ⟨_, Heap.get?_push_size _ rfl, rfl⟩ isSubtype_stop ?_)
    exact wpAny_pure (hQ _ (((Heap.SameBut.update ..).extBut.push _).push _))
end
end Mine
end
section
open PySem PySem.W PyProof.Rows
set_option maxRecDepth 100000
set_option maxHeartbeats 2000000
namespace Mine

/-- from slot 0 on, each element of the table is met once, in its order -/
def chainAt (place : Array Nat) (i : Nat) : Nat := match i with
  | 0 => 0
  | j + 1 => place.getD j 0 + 1
def chainOk (place : Array Nat) : Bool := (List.range (place.size + 1)).all fun i => SetTable.below place (chainAt place i) == i

theorem pick_go {α : Type} (next : Nat → Nat) : ∀ (fuel k : Nat) (left : List α) (out : Array α),
    (∀ x ∈ (pickOrder.go next fuel k left out).toList, x ∈ left ∨ x ∈ out.toList) ∧ (pickOrder.go next fuel k left out).size ≤ out.size + fuel
  | 0, k, left, out => ⟨fun x hx => .inr hx, Nat.le_refl _⟩
  | fuel + 1, k, left, out => by
    unfold pickOrder.go
    split
    · rename_i x hx
      obtain ⟨h1, h2⟩ := pick_go next fuel (k + 1) (left.eraseIdx (next k % left.length)) (out.push x)
      refine ⟨fun y hy => ?_, by rw [Array.size_push] at h2; omega⟩
      rcases h1 y hy with h | h
      · exact .inl (List.mem_of_mem_eraseIdx h)
      · rw [Array.toList_push] at h
        rcases List.mem_append.mp h with h | h
        · exact .inr h
        · rw [List.mem_singleton.mp h]; exact .inl (List.mem_of_getElem? hx)
    · exact ⟨fun x hx => .inr hx, by omega⟩

section
variable {prog : Program} {w : World} {A : Around} {E : Value → Shared → Prop} {s : Shared}
variable {a : Addr} {o : Obj} {es : Array (Int × Value)} {ep : Nat} {t : SetTable}

/-- the world reads sets by the text -/
theorem next_text (ho : s.heap.get? a = some o) (hd : o.data = .set es ep t) (hf : t.fits es.size = true) (hw : w.params.followText "set-order" = true) {σ i : Nat} {Q : Option (Value × Nat) → Shared → Prop}
    (h : Q (((pickOrder (w.params.setOrder a ep) es)[i]?).map fun e => (e.2, σ)) s) : wpAny (model prog w) A (setNext a σ i ep) Q E s := by
  have hby : ∀ {A : Around} {E : Value → Shared → Prop} {Q : Bool → Shared → Prop}, Q true s → wpAny (model prog w) A setsByText Q E s := by
    intro A E Q h
    unfold setsByText
    exact wpAny_bind (wpAny_askSetting (wpAny_pure (by show Q (w.params.followText "set-order") s; rw [hw]; exact h)))
  unfold setNext
  refine wpAny_bind (wpAny_setState_of ho hd hf ?_)
  dsimp only
  refine wpAny_bind (hby ?_)
  simp only [↓reduceIte]
  rw [if_neg (by simp)]
  refine wpAny_bind ?_
  unfold setWalk
  refine wpAny_bind (wpAny_setState_of ho hd hf ?_)
  dsimp only
  refine wpAny_bind (hby ?_)
  simp only [↓reduceIte]
  refine wpAny_bind (wpAny_askSetting (wpAny_pure ?_))
  exact wpAny_pure h

/-- the world reads sets by their tables -/
theorem next_led (ho : s.heap.get? a = some o) (hd : o.data = .set es ep t) (hf : t.fits es.size = true) (hw : w.params.followText "set-order" = false) (hpl : t.plain = true) (hl : t.led = true) {σ i : Nat} {Q : Option (Value × Nat) → Shared → Prop}
    (h : Q (match es[SetTable.below t.place σ]?, t.place[SetTable.below t.place σ]? with | some (_, x), some j => some (x, j + 1) | _, _ => none) s) : wpAny (model prog w) A (setNext a σ i ep) Q E s := by
  unfold setNext
  refine wpAny_bind (wpAny_setState_of ho hd hf ?_)
  dsimp only
  unfold setsByText
  refine wpAny_bind (wpAny_bind (wpAny_askSetting (wpAny_pure ?_)))
  rw [show (model prog w).w.params.followText "set-order" = false from hw]
  simp only [Bool.false_eq_true, ↓reduceIte]
  rw [if_neg (by show ¬ ((!t.plain && decide (es.size > 1)) = true); rw [hpl]; simp)]
  refine wpAny_bind ?_
  show wpAny _ _ (if (!t.led && !es.isEmpty) = true then _ else _) _ _ s
  rw [hl]
  simp only [Bool.not_true, Bool.false_and, Bool.false_eq_true, ↓reduceIte]
  exact wpAny_pure (wpAny_pure h)

/-- a set walked: what each step gives, whatever the world's way -/
theorem walk_set (hh : A.handled = none) {I n : Nat} (hne : a ≠ I) (hf : t.fits es.size = true) (hd : o.data = .set es ep t)
    (f : Nat → Nat → Option (Value × Nat)) (σ : Nat → Nat) (P : Nat → Value → Prop)
    (hnext : ∀ (A : Around) (E : Value → Shared → Prop) (s : Shared) (σ i : Nat) (Q : Option (Value × Nat) → Shared → Prop), s.heap.get? a = some o → Q (f σ i) s → wpAny (model prog w) A (setNext a σ i ep) Q E s)
    (hs : ∀ i < n, ∃ x, f (σ i) i = some (x, σ (i + 1)) ∧ P i x) (hdn : f (σ n) n = none) :
    Walks prog w A I [I, a] [I] n P (fun i h => IsSI h I a (σ i) i es.size ep ∧ h.get? a = some o) where
  sub := fun b hb => by simp at hb; simp [hb]
  frame := fun i h h' st hk => ⟨let ⟨oi, ho, r⟩ := st.1; ⟨oi, hk I (by simp) oi ho, r⟩, hk a (by simp) o st.2⟩
  item := fun i s Q E hi st hQ => by
    obtain ⟨x, hx, hP⟩ := hs i hi
    refine next_set (r := some (x, σ (i + 1))) hh st.1 st.2 hd hf (fun A E Q hq => hnext A E s _ _ Q st.2 (by rw [hx]; exact hq)) ?_
    intro h' hit' hsb
    exact hQ x h' s.toks hP ⟨hit', hsb.extBut a o hne st.2⟩ fun b o hb e => hsb.extBut b o (fun h => hb (by simp [h])) e
  done := fun s Q E st hQ => by
    refine next_set (r := none) hh st.1 st.2 hd hf (fun A E Q hq => hnext A E s _ _ Q st.2 (by rw [hdn]; exact hq)) ?_
    intro h' he
    exact hQ h' s.toks fun b o hb e => he b o (fun h => hb (by simp [h])) e
  self := fun i s Q E st hQ => by
    refine wpAny_pyIter_slot st.1.typeIs slot_si_iter (wpAny_call_entry slot_si_iter st.1.typeIs entry_si_iter ?_ (args_si_iter _))
    show wpAny _ _ (ret (.ref I)) _ _ s
    exact wpAny_pure ⟨_, rfl, "set_iterator", _, st.1.typeIs, slot_si_next.lookup, hQ⟩
end

/-- the object of a set that the call made, of the ints l -/
def SetObjK (w : World) (o : Obj) (l : List Int) : Prop :=
  ∃ es ep, o = { cls := .type "set", dict := none, data := .set es ep (tabs (!(w.params.followText "set-order")) l), slots := #[] } ∧
    (∀ e ∈ es.toList, ∃ k ∈ l, ∃ tk, e = (hashInt k, .int k tk)) ∧ (∀ k ∈ l, ∃ e ∈ es.toList, ∃ tk, e.2 = .int k tk) ∧ es.size = l.length
theorem SetK.obj {w : World} {h : Heap} {a : Addr} {l : List Int} (x : SetK w h a l) : ∃ o, h.get? a = some o ∧ SetObjK w o l :=
  let ⟨es, ep, ho, r⟩ := x; ⟨_, ho, es, ep, rfl, r⟩
def IntIn (l : List Int) (v : Value) : Prop := ∃ k ∈ l, ∃ tk, v = .int k tk
theorem ints_of {l : List Int} : ∀ {vs : List Value}, (∀ v ∈ vs, IntIn l v) → ∃ ns, IntsAre vs ns ∧ ∀ k ∈ ns, k ∈ l
  | [], _ => ⟨[], .nil, fun _ h => nomatch h⟩
  | v :: vs, h => by
    obtain ⟨k, hk, tk, rfl⟩ := h v List.mem_cons_self
    obtain ⟨ns, h1, h2⟩ := ints_of (vs := vs) fun v hv => h v (List.mem_cons_of_mem _ hv)
    refine ⟨k :: ns, .cons k tk h1, fun j hj => ?_⟩
    rcases List.mem_cons.mp hj with rfl | hj
    · exact hk
    · exact h2 j hj

section
variable {prog : Program} {w : World} {A : Around} {E : Value → Shared → Prop} {s : Shared} {h₀ : Heap} {L : Addr} {m : Str → Option Value} {news : List (Addr × Obj)} {Q : Value → Shared → Prop}

theorem src_set {a : Addr} {o : Obj} {l : List Int} (hso : SetObjK w o l) (hpl : (tabs (!(w.params.followText "set-order")) l).plain = true) (hled : (tabs (!(w.params.followText "set-order")) l).led = !(w.params.followText "set-order"))
    (hch : chainOk (tabs (!(w.params.followText "set-order")) l).place = true) :
    ∃ n, n ≤ l.length ∧ KdlSrc prog w "set" a a n (fun _ v => IntIn l v) (fun h => h.get? a = some o) := by
  obtain ⟨es, ep, rfl, h1, h2, hn⟩ := hso
  have hf : (tabs (!(w.params.followText "set-order")) l).fits es.size = true := by rw [hn]; exact tabs_fits ..
  have key : ∃ n, n ≤ l.length ∧ ∃ (f : Nat → Nat → Option (Value × Nat)) (σ : Nat → Nat), σ 0 = 0 ∧
      (∀ (A : Around) (E : Value → Shared → Prop) (s : Shared) (σ i : Nat) (Q : Option (Value × Nat) → Shared → Prop), s.heap.get? a = some { cls := .type "set", dict := none, data := .set es ep (tabs (!(w.params.followText "set-order")) l), slots := #[] } → Q (f σ i) s → wpAny (model prog w) A (setNext a σ i ep) Q E s) ∧
      (∀ i < n, ∃ x, f (σ i) i = some (x, σ (i + 1)) ∧ IntIn l x) ∧ f (σ n) n = none := by
    cases hw : w.params.followText "set-order" with
    | true =>
      have hpo := pick_go (w.params.setOrder a ep) es.size 0 es.toList #[]
      have hpe : pickOrder (w.params.setOrder a ep) es = pickOrder.go (w.params.setOrder a ep) es.size 0 es.toList #[] := rfl
      rw [← hpe] at hpo
      rw [hw] at hf
      refine ⟨(pickOrder (w.params.setOrder a ep) es).size, ?_, fun σ i => ((pickOrder (w.params.setOrder a ep) es)[i]?).map fun e => (e.2, σ), fun _ => 0, rfl, ?_, ?_, ?_⟩
      · have := hpo.2
        simp at this
        omega
      · intro A E s σ i Q ho hq
        exact next_text ho rfl hf hw hq
      · intro i hi
        refine ⟨(pickOrder (w.params.setOrder a ep) es)[i].2, by simp [hi], ?_⟩
        have hm : (pickOrder (w.params.setOrder a ep) es)[i] ∈ (pickOrder (w.params.setOrder a ep) es).toList := by
          rw [← Array.getElem_toList]; exact List.getElem_mem _
        rcases hpo.1 _ hm with h | h
        · obtain ⟨k, hk, tk, e⟩ := h1 _ h
          exact ⟨k, hk, tk, by rw [e]⟩
        · simp at h
      · simp
    | false =>
      rw [hw] at hf hpl hled hch
      generalize ht : tabs (!false) l = t at hf hpl hled hch
      have hps : t.place.size = es.size := by
        simp only [SetTable.fits, Bool.and_eq_true, beq_iff_eq] at hf
        exact hf.1
      have hb : ∀ i, i ≤ es.size → SetTable.below t.place (chainAt t.place i) = i := by
        intro i hi
        have := List.all_eq_true.mp hch i (List.mem_range.mpr (by omega))
        exact beq_iff_eq.mp this
      refine ⟨es.size, by omega, fun σ i => (match es[SetTable.below t.place σ]?, t.place[SetTable.below t.place σ]? with | some (_, x), some j => some (x, j + 1) | _, _ => none), chainAt t.place, rfl, ?_, ?_, ?_⟩
      · intro A E s σ i Q ho hq
        exact next_led (t := t) ho rfl hf hw hpl (by rw [hled]; rfl) hq
      · intro i hi
        dsimp only
        rw [hb i (Nat.le_of_lt hi)]
        have hi2 : i < t.place.size := by omega
        rw [Array.getElem?_eq_getElem hi, Array.getElem?_eq_getElem hi2]
        refine ⟨es[i].2, ?_, ?_⟩
        · show some (es[i].2, t.place[i] + 1) = some (es[i].2, t.place.getD i 0 + 1)
          rw [Array.getD_eq_getD_getElem?, Array.getElem?_eq_getElem hi2]; rfl
        · have hm : es[i] ∈ es.toList := by rw [← Array.getElem_toList]; exact List.getElem_mem _
          obtain ⟨k, hk, tk, e⟩ := h1 _ hm
          exact ⟨k, hk, tk, by rw [e]⟩
      · dsimp only
        rw [hb es.size (Nat.le_refl _)]
        simp
  obtain ⟨n, hnl, f, σ, h0, hnext, hs, hdn⟩ := key
  refine ⟨n, hnl, ?_⟩
  refine ⟨fun s ho => ⟨_, ho, rfl⟩, fun h ho => ⟨Heap.lt_size ho, Heap.lt_size ho⟩, fun h h' ho hk => hk a (.inl rfl) _ ho, by decide, by decide,
    fun A E s Q ho hq => hint_set ⟨_, ho, rfl⟩ hq, fun A s hh ho => ?_⟩
  refine ⟨{ cls := .type "set_iterator", data := .fields #[.int 0 0, .int 0 0, .ref a, .int es.size 0, .int ep 0] }, _, fun E Q hq => iter_set ho rfl rfl hf hpl hq,
    walk_set hh (Nat.ne_of_lt (Heap.lt_size ho)) hf rfl f σ _ hnext hs hdn, ?_, Heap.get?_push_of_some _ ho⟩
  exact ⟨_, Heap.get?_push_size _ rfl, rfl, by rw [h0]; rfl⟩

theorem sorted_set {a : Addr} {o : Obj} {l : List Int} (hh : A.handled = none) (F : Fr h₀ L s.heap m) (N : News h₀ L s.heap news) (hm : (a, o) ∈ news) (hso : SetObjK w o l) (hl : l.length < 64)
    (hpl : (tabs (!(w.params.followText "set-order")) l).plain = true) (hled : (tabs (!(w.params.followText "set-order")) l).led = !(w.params.followText "set-order"))
    (hch : chainOk (tabs (!(w.params.followText "set-order")) l).place = true)
    (h : ∀ (D : Addr) (h' : Heap) (tk : Nat) (vs : List Value) (c : Nat), Fr h₀ L h' m → News h₀ L h' ((D, PySem.W.listOf vs.toArray c) :: news) → (∀ q ∈ news, q.1 < D) → vs.length ≤ l.length → (∀ v ∈ vs, IntIn l v) → Q (.ref D) { s with heap := h', toks := tk }) :
    wpAny (model prog w) A (call (.builtin "sorted") [.ref a]) Q E s := by
  obtain ⟨n, hn, K⟩ := src_set (prog := prog) (a := a) hso hpl hled hch
  refine kdu_sorted K hh F N (N.get hm) (by rw [sizeLine_eq]; omega) fun D h' tk vs F' N' hlt hvl hv => ?_
  have hmem : ∀ v ∈ vs, IntIn l v := fun v hv' => by
    obtain ⟨j, hj⟩ := List.getElem?_of_mem hv'
    exact hv j v hj
  obtain ⟨ns, hI, hns⟩ := ints_of hmem
  have hD : h'.get? D = some (seqObj "list" vs.toArray 0) := (N' _ List.mem_cons_self).1
  have hDL : D ≠ L := (N' _ List.mem_cons_self).2.1
  have hD0 : h₀.get? D = none := (N' _ List.mem_cons_self).2.2
  refine wpAny_call_entry slot_list_sort ⟨_, hD, rfl⟩ entry_list_sort (list_sort_tree hD hI (by omega) fun out ns' a1 a2 a3 => ⟨_, rfl, ?_⟩) (args_list_sort _)
  have hk : ∀ b o, b ≠ D → h'.get? b = some o → (sortedHeap h' D vs out).get? b = some o := fun b o hb e => by
    rw [sortedHeap_old hb (Heap.lt_size e)]; exact e
  obtain ⟨e, he⟩ := sortedHeap_at (out := out) hD
  have hout : ∀ v ∈ out.toList, IntIn l v := fun v hv' => by
    obtain ⟨i, hi⟩ := List.getElem?_of_mem hv'
    obtain ⟨t, ht⟩ := PyProof.Rows.IntsAre.int_at a1 i v hi
    have hlt : i < ns'.length := by rw [← IntsAre.length a1]; exact (List.getElem?_eq_some_iff.mp hi).1
    refine ⟨ns'.getD i 0, hns _ (a2.mem_iff.mp ?_), t, ht⟩
    rw [List.getD_eq_getElem?_getD, List.getElem?_eq_getElem hlt]
    exact List.getElem_mem hlt
  refine h D (sortedHeap h' D vs out) tk out.toList e ?_ ?_ hlt ?_ hout
  · obtain ⟨oL, b1, b2, hL, b3⟩ := F'.ns
    exact ⟨⟨oL, b1, b2, hk _ _ (Ne.symm hDL) hL, b3⟩, fun b o eb => hk b o (fun hbD => by rw [hbD, hD0] at eb; cases eb) (F'.keep b o eb), F'.above⟩
  · intro p hp
    rcases List.mem_cons.mp hp with rfl | hp
    · exact ⟨by rw [Array.toArray_toList]; exact he, hDL, hD0⟩
    · have := N' p (List.mem_cons_of_mem _ hp)
      exact ⟨hk _ _ (Nat.ne_of_lt (hlt p hp)) this.1, this.2⟩
  · rw [IntsAre.length a1, a2.length_eq, ← IntsAre.length hI, hvl]; exact hn
end
end Mine
end
section
open PySem PySem.W PyProof.Rows PySem.Spec
set_option maxRecDepth 100000
set_option maxHeartbeats 4000000
namespace Mine

/-- each int of the list can be laid without the table being made anew -/
def LayOk (led : Bool) (val : Nat → Int) (n : Nat) : Prop :=
  ∀ i, i < n → val i ∉ firstMet val i → (stepT (tabs led (firstMet val i)) (firstMet val i).length (hashInt (val i))).1.tooFull = false

section
variable {prog : Program} {w : World} {A : Around} {R : Result → Shared → Prop} {I : Addr} {fp wr : List Addr} {G : Array GenState → Array GenState → Prop} {n : Nat} {P : Nat → Value → Prop} {St : Nat → Shared → Prop}

theorem update_loop (W : WalksS prog w A.in1 I fp wr G n P St) (S : Addr) (hSf : S ∉ fp)
    (val : Nat → Int) (hval : ∀ i v, P i v → ∃ t, v = .int (val i) t) (hb : n + 1 < scanBound) (hlay : LayOk (!(w.params.followText "set-order")) val n) :
    ∀ (k i : Nat) (s : Shared), n - i = k → i ≤ n → St i s → SetK w s.heap S (firstMet val i) →
      (∀ s', Moved (S :: wr) G s s' → SetK w s'.heap S (firstMet val n) → R (.ok (.ret .none)) s') →
      codeAny (model prog w) A (.builtin "set.update.loop" ⟨[.ref S, .ref I], []⟩) R s := by
  have hSw : S ∉ wr := fun h => hSf (W.sub _ h)
  have hsub : ∀ b ∈ wr, b ∈ S :: wr := fun b hb => List.mem_cons_of_mem _ hb
  intro k
  induction k with
  | zero =>
    intro i s hk hi hst hS hR
    obtain rfl : i = n := by omega
    refine codeAny_builtin PyProof.Rows.F.entry_set_update_loop ?_
    rw [Around.under_plainId PyProof.Rows.F.plain_set_update_loop _]
    show wpAny _ A.in1 (pyNext (.ref I) >>= _) _ _ s
    refine wpAny_bind (W.done s _ _ hst fun s' hm => ?_)
    show wpAny _ A.in1 (ret Value.none) _ _ s'
    obtain ⟨es, ep, ho, r⟩ := hS
    exact wpAny_pure (hR s' (hm.mono hsub) ⟨es, ep, hm.heap S _ hSw ho, r⟩)
  | succ k ih =>
    intro i s hk hi hst hS hR
    have hlt : i < n := by omega
    refine codeAny_builtin PyProof.Rows.F.entry_set_update_loop ?_
    rw [Around.under_plainId PyProof.Rows.F.plain_set_update_loop _]
    show wpAny _ A.in1 (pyNext (.ref I) >>= _) _ _ s
    refine wpAny_bind (W.item i s _ _ hlt hst fun v s' hP hst' hm => ?_)
    obtain ⟨t, rfl⟩ := hval i v hP
    have hS' : SetK w s'.heap S (firstMet val i) := by
      obtain ⟨es, ep, ho, r⟩ := hS
      exact ⟨es, ep, hm.heap S _ hSw ho, r⟩
    show wpAny _ A.in1 (holding [Value.int (val i) t] (setAdd S (.int (val i) t)) >>= _) _ _ s'
    refine wpAny_bind (wpAny_holding ?_)
    unfold setAdd
    refine wpAny_holding ?_
    refine wpAny_bind ((intKind prog w).pyHash (k := val i) (intKind_is _ _ _ _) ?_)
    have hroom : (firstMet val i).length + 1 < scanBound := by have := firstMet_length_le val i; omega
    refine add_int (s := { s' with toks := s'.toks + 1 }) hS' hroom (hlay i hlt) fun b h' hsb hS2 => ?_
    rw [← firstMet_succ] at hS2
    refine wpAny_pure ⟨plainId_quiet PyProof.Rows.F.plain_set_update_loop _, ih (i + 1) _ (by omega) hlt (W.frame _ s' _ _ hst' (Nat.le_succ _) fun b hb o e => ?_) hS2 fun s'' hm'' hS'' => ?_⟩
    · rw [hsb.2 b (fun h : b = S => hSf (by rw [← h]; exact hb))]; exact e
    · refine hR s'' (Moved.trans W.gtrans ((hm.mono hsub).then_heap (Nat.le_succ _) fun b o hb e => ?_) hm'') hS''
      rw [hsb.2 b (fun h : b = S => hb (by rw [h]; exact List.mem_cons_self))]; exact e
end

section
variable {prog : Program} {w : World} {A : Around} {E : Value → Shared → Prop} {s : Shared}

theorem new_set (a : Value) {Q₁ : Value → Shared → Prop}
    (h : Q₁ (.ref s.heap.objs.size) { s with heap := s.heap.push { cls := .type "set", dict := none, data := .set #[] 0 (.fresh 0 0 (!(w.params.followText "set-order"))) } }) :
    codeAny (model prog w) A (.call (.builtin "set.__new__") ⟨[.type "set", a], []⟩) (wants Q₁ E) s := by
  refine codeAny_of_tree ?_
  show wpAny _ A.in1 (do checkBuiltinCall "set.__new__" ⟨[.type "set", a], []⟩; again (.builtin "set.__new__" ⟨[.type "set", a], []⟩)) _ _ s
  refine wpAny_bind (wpAny_of_eq (PySem.F.newCall_set_1 a) (wpAny_pure ⟨plainId_quiet PySem.F.plain_set_new _, codeAny_builtin PySem.F.entry_set_new ?_⟩))
  rw [Around.under_plainId PySem.F.plain_set_new _]
  unfold Builtin.«set.__new__» Builtin.Frozenset.newClass
  have hsub := sub_set_self
  obtain ⟨hp, g, d, tk, os⟩ := s
  dsimp only
  wp_walk
  refine wpAny_askSetting (wpAny_pure ?_)
  dsimp only
  simp only [newObj]
  refine wpAny_bind (wpAny_alloc (wpAny_pure ?_))
  exact wpAny_pure h

theorem set_of_list {l : Addr} {items : Array Value} {ns : List Int} {Q : Value → Shared → Prop}
    (hh : A.handled = none) (hl : s.heap.IsList l items) (hi : IntsAre items.toList ns) (hb : items.size + 1 < scanBound) (hlay : LayOk (!(w.params.followText "set-order")) (fun i => ns.getD i 0) items.size)
    (h : ∀ (h' : Heap) (tk : Nat), SetK w h' s.heap.objs.size (firstMet (fun i => ns.getD i 0) items.size) →
      (∀ b o, b < s.heap.objs.size → s.heap.get? b = some o → h'.get? b = some o) → Q (.ref s.heap.objs.size) { s with heap := h', toks := tk }) :
    wpAny (model prog w) A (call (.type "set") [.ref l]) Q E s := by
  obtain ⟨c, tl, hmro⟩ := PySem.F.called_set.mro
  have hmade := PySem.F.called_set.made
  have hsub := PySem.F.called_set.sub
  refine wpAny_call (codeAny_of_tree ?_)
  show wpAny _ _ (callAny (.type "set") _) _ _ _
  refine wpAny_pure ⟨Code.quiet_builtin _ (by decide +kernel), codeAny_builtin PySem.F.entry_type_call ?_⟩
  rw [Around.under_plain (weight_type_call_type "set" [.ref l] []) rfl]
  have h1 := PySem.F.called_set.notType
  have h2 := PySem.F.called_set.canCreate
  have hct := PySem.F.typeCall_set_1 (.ref l)
  repeat (any_goals (first | assumption | wp_step))
  generalize hO : ({ cls := .type "set", dict := none, data := .set #[] 0 (.fresh 0 0 (!(w.params.followText "set-order"))) } : Obj) = O
  refine codeAny_mono (new_set (.ref l) (E := E) (Q₁ := fun obj s₁ => obj = .ref s.heap.objs.size ∧ s₁ = { s with heap := s.heap.push O }) ⟨rfl, by rw [hO]⟩) fun r s₁ hr => ?_
  have hOc : O.cls = .type "set" := by rw [← hO]
  have hOf : O.isFreed = false := by rw [← hO]; rfl
  cases r with
  | error e => exact hr
  | ok fl =>
    cases fl with
    | ret obj =>
      obtain ⟨rfl, rfl⟩ := hr
      have hS : (s.heap.push O).get? s.heap.objs.size = some O := Heap.get?_push_size _ hOf
      have hT : Shared.TypeIs { s with heap := s.heap.push O } (.ref s.heap.objs.size) "set" := ⟨_, hS, hOc⟩
      have hli := PySem.F.called_set.init.lookup
      have hbi := PySem.F.called_set.init.bind (.ref s.heap.objs.size)
      repeat (any_goals (first | assumption | wp_step))
      refine codeAny_mono (codeAny_call_builtin (R := wants (fun r s₂ => r = .none ∧ ∃ h' tk, s₂ = { s with heap := h', toks := tk } ∧
          SetK w h' s.heap.objs.size (firstMet (fun i => ns.getD i 0) items.size) ∧
          (∀ b o, b < s.heap.objs.size → s.heap.get? b = some o → h'.get? b = some o)) E) PySem.F.called_set.init.plain PySem.F.entry_set_init (check_set_init_1 hT ?_)) fun r₂ s₂ hr₂ => ?_
      · obtain ⟨ol, hol, hcl, nl, hdl⟩ := hl
        obtain ⟨ocls, odict, odata, oslots⟩ := ol
        simp only at hcl hdl
        subst hcl; subst hdl
        have hol' : (s.heap.push O).get? l = some { cls := .type "list", dict := odict, data := .seq items nl, slots := oslots } := Heap.get?_push_of_some _ hol
        have hsls := PySem.F.sub_list_set
        have hslf := PySem.F.sub_list_frozenset
        have hne : (Value.type "list" == Value.type "dict") = false := by decide
        have hl1 : (s.heap.push O).IsList l items := ⟨_, hol', rfl, nl, rfl⟩
        subst hO
        unfold Builtin.«set.__init__» noKeywords Builtin.Frozenset.updateFrom
        generalize hPI : pyIter = PI
        wp_walk
        subst hPI
        refine wpAny_pyIter_list hl1 ?_
        refine wpAny_bind (wpAny_runValue ?_)
        have hlS : l < s.heap.objs.size := Heap.lt_size hol
        have hh3 : A.in1.in1.in1.handled = none := by simp [hh]
        generalize hOO : ({ cls := .type "set", dict := none, data := .set #[] 0 (.fresh 0 0 (!(w.params.followText "set-order"))) } : Obj) = O at hS hl1 ⊢
        have hneI : l ≠ (s.heap.push O).objs.size := by
          rw [Heap.size_push]; exact Nat.ne_of_lt (Nat.lt_succ_of_lt hlS)
        have hSf : s.heap.objs.size ∉ [(s.heap.push O).objs.size, l] := by
          rw [Heap.size_push]; simp only [List.mem_cons, List.not_mem_nil, or_false, not_or]
          exact ⟨Nat.ne_of_lt (Nat.lt_succ_self _), Nat.ne_of_gt hlS⟩
        have hval : ∀ (i : Nat) (v : Value), items[i]? = some v → ∃ t, v = .int ((fun i => ns.getD i 0) i) t := fun i v hv =>
          PyProof.Rows.IntsAre.int_at hi i v (by rw [Array.getElem?_toList]; exact hv)
        refine update_loop ((Walks.list hh3 _ l hneI items).toS) s.heap.objs.size hSf (fun i => ns.getD i 0) hval hb hlay (items.size - 0) 0 _ (by omega) (Nat.zero_le _)
          ⟨⟨_, Heap.get?_push_size _ rfl, rfl, rfl⟩, (hl1.push _)⟩ ?hS0 ?hR
        case hS0 =>
          refine ⟨#[], 0, ?_, (by intro e he; simp at he), (by intro k hk; cases hk), rfl⟩
          refine (Heap.get?_push_of_some _ hS).trans ?_
          rw [← hOO]; rfl
        case hR =>
          intro s' hm hS'
          obtain ⟨h', g', d', tk', os'⟩ := s'
          have eg : g' = s.gens := hm.gens
          have ed : d' = s.drawn := hm.drawn
          have eo : os' = s.os := hm.os
          subst eg; subst ed; subst eo
          show wpAny _ _ _ _ _ _
          refine wpAny_pure ?_
          show wpAny _ _ (ret Value.none) _ _ _
          refine wpAny_pure ⟨rfl, h', tk', rfl, hS', fun b o hb e => ?_⟩
          have hb1 : b ≠ s.heap.objs.size := Nat.ne_of_lt hb
          have hb2 : b ≠ (s.heap.push O).objs.size := by
            rw [Heap.size_push]; exact Nat.ne_of_lt (Nat.lt_succ_of_lt hb)
          exact hm.heap b o (by simp only [List.mem_cons, List.not_mem_nil, or_false, not_or]; exact ⟨hb1, hb2⟩) (Heap.get?_push_of_some _ (Heap.get?_push_of_some _ e))
      · cases r₂ with
        | error e => exact hr₂
        | ok fl₂ =>
          cases fl₂ with
          | ret r =>
            obtain ⟨rfl, h', tk, rfl, hS', hk'⟩ := hr₂
            repeat (any_goals (first | assumption | wp_step))
            exact h _ _ hS' hk'
          | _ => exact hr₂.elim
    | _ => exact hr.elim

variable {h₀ : Heap} {L : Addr} {m : Str → Option Value} {news : List (Addr × Obj)} {Q : Value → Shared → Prop}
theorem set_N {la : Addr} {vs : List Value} {ns : List Int} (hh : A.handled = none) (F : Fr h₀ L s.heap m) (N : News h₀ L s.heap news) (hl : s.heap.IsList la vs.toArray) (hi : IntsAre vs ns)
    (hb : vs.length + 1 < scanBound) (hlay : LayOk (!(w.params.followText "set-order")) (fun i => ns.getD i 0) vs.length)
    (h : ∀ (D : Addr) (h' : Heap) (tk : Nat) (o : Obj), Fr h₀ L h' m → News h₀ L h' ((D, o) :: news) → (∀ q ∈ news, q.1 < D) → SetObjK w o (firstMet (fun i => ns.getD i 0) vs.length) → Q (.ref D) { s with heap := h', toks := tk }) :
    wpAny (model prog w) A (call (.type "set") [.ref la]) Q E s := by
  have hsz : vs.toArray.size = vs.length := List.size_toArray
  refine set_of_list hh hl (by simpa using hi) (by rw [hsz]; exact hb) (by rw [hsz]; exact hlay) fun h' tk hS hk => ?_
  rw [hsz] at hS
  obtain ⟨o, ho, hso⟩ := hS.obj
  have hk' : ∀ b o, s.heap.get? b = some o → h'.get? b = some o := fun b o e => hk b o (Heap.lt_size e) e
  exact h _ h' tk o (F.keeps hk') (news_pushed F N hk' ho rfl) (fun q hq => Heap.lt_size (N q hq).1) hso
end
end Mine
end
section
open PySem PySem.W PyProof.Rows PySem.Spec
set_option maxRecDepth 100000
set_option maxHeartbeats 4000000
namespace Mine

/-- a table of eight places with these taken -/
def mkT (led : Bool) (p : List Nat) : SetTable := { mask := 7, place := p.toArray, dummies := #[], finger := 0, led := led, moves := 0, plain := true }
/-- the places taken by at most four ints, the first in place 0 -/
def subs : Nat → List (List Nat)
  | 1 => [[0]]
  | 2 => (List.range 7).map fun a => [0, a + 1]
  | 3 => (List.range 7).flatMap fun a => (List.range (6 - a)).map fun b => [0, a + 1, a + b + 2]
  | 4 => (List.range 7).flatMap fun a => (List.range (6 - a)).flatMap fun b => (List.range (5 - a - b)).map fun c => [0, a + 1, a + b + 2, a + b + c + 3]
  | _ => []
def stepOk (led : Bool) (k : Nat) (p : List Nat) (h : Nat) : Bool :=
  decide ((stepT (mkT led p) k (hashInt h)).1 = mkT led (stepT (mkT led p) k (hashInt h)).1.place.toList) && (subs (k + 1)).contains (stepT (mkT led p) k (hashInt h)).1.place.toList
def stepsOk (led : Bool) (k : Nat) : Bool := (subs k).all fun p => (List.range 10).all fun h => stepOk led k p h
theorem steps1 : stepsOk true 1 = true ∧ stepsOk false 1 = true := by decide +kernel
theorem steps2 : stepsOk true 2 = true ∧ stepsOk false 2 = true := by decide +kernel
theorem steps3t : stepsOk true 3 = true := by decide +kernel
theorem steps3f : stepsOk false 3 = true := by decide +kernel
theorem chains : ∀ k ∈ [1, 2, 3, 4], (subs k).all (fun p => chainOk p.toArray && !(mkT true p).tooFull) = true := by decide +kernel
theorem steps_at (led : Bool) {k h : Nat} {p : List Nat} (hk0 : 1 ≤ k) (hk : k ≤ 3) (hp : p ∈ subs k) (hh : h < 10) :
    ∃ p' ∈ subs (k + 1), (stepT (mkT led p) k (hashInt h)).1 = mkT led p' := by
  have key : stepsOk led k = true := by
    obtain rfl | rfl | rfl : k = 1 ∨ k = 2 ∨ k = 3 := by omega
    · cases led; exact steps1.2; exact steps1.1
    · cases led; exact steps2.2; exact steps2.1
    · cases led; exact steps3f; exact steps3t
  have h1 := List.all_eq_true.mp (List.all_eq_true.mp key p hp) h (List.mem_range.mpr hh)
  unfold stepOk at h1
  rw [Bool.and_eq_true] at h1
  exact ⟨_, by simpa using h1.2, of_decide_eq_true h1.1⟩
theorem chain_at {k : Nat} {p : List Nat} (hk0 : 1 ≤ k) (hk : k ≤ 4) (hp : p ∈ subs k) : chainOk p.toArray = true ∧ ∀ led, (mkT led p).tooFull = false := by
  have hm : k ∈ [1, 2, 3, 4] := by
    obtain rfl | rfl | rfl | rfl : k = 1 ∨ k = 2 ∨ k = 3 ∨ k = 4 := by omega
    all_goals simp
  have h1 := List.all_eq_true.mp (chains k hm) p hp
  rw [Bool.and_eq_true, Bool.not_eq_true'] at h1
  exact ⟨h1.1, fun led => h1.2⟩
theorem first_step (led : Bool) : (stepT (tabs led []) 0 (hashInt 0)).1 = mkT led [0] := by
  cases led <;> decide +kernel
theorem tabs_sub (led : Bool) : ∀ (n : Nat) (l : List Int), l.length = n + 1 → n ≤ 3 → l.head? = some 0 → (∀ k ∈ l, 0 ≤ k ∧ k < 10) → ∃ p ∈ subs (n + 1), tabs led l = mkT led p
  | 0, l, hl, _, hh, _ => by
    match l, hl, hh with
    | [x], _, hh =>
      have hx : x = 0 := by simpa using hh
      subst hx
      refine ⟨[0], by simp [subs], ?_⟩
      rw [show ([0] : List Int) = [] ++ [0] from rfl, tabs_snoc]
      exact first_step led
  | n + 1, l, hl, hn, hh, hk => by
    rcases List.eq_nil_or_concat l with rfl | ⟨r, x, rfl⟩
    · cases hl
    · rw [List.concat_eq_append] at hl hh hk ⊢
      rw [List.length_append, List.length_singleton] at hl
      have hr : r.length = n + 1 := by omega
      have hrh : r.head? = some 0 := by
        cases r with
        | nil => cases hr
        | cons y r => simpa using hh
      obtain ⟨p, hp, e⟩ := tabs_sub led n r hr (by omega) hrh fun k hk' => hk k (List.mem_append_left _ hk')
      obtain ⟨hx0, hx1⟩ := hk x (List.mem_append_right _ (List.mem_singleton.mpr rfl))
      obtain ⟨y, rfl⟩ := Int.eq_ofNat_of_zero_le hx0
      obtain ⟨p', hp', e'⟩ := steps_at led (h := y) (by omega) (by omega) hp (by omega)
      exact ⟨p', hp', by rw [tabs_snoc, e, hr]; exact e'⟩

theorem met_head {val : Nat → Int} (h0 : val 0 = 0) : ∀ i, (firstMet val (i + 1)).head? = some 0
  | 0 => by rw [firstMet_succ, firstMet_zero, h0]; rfl
  | i + 1 => by
    rw [firstMet_succ]
    have ih := met_head h0 i
    unfold step_dedup
    split
    · exact ih
    · cases hf : firstMet val (i + 1) with
      | nil => rw [hf] at ih; cases ih
      | cons y r => rw [hf] at ih; simpa using ih
theorem met_in {val : Nat → Int} : ∀ i, ∀ k ∈ firstMet val i, ∃ j, j < i ∧ k = val j
  | 0, k, h => by rw [firstMet_zero] at h; cases h
  | i + 1, k, h => by
    rw [firstMet_succ] at h
    unfold step_dedup at h
    split at h
    · obtain ⟨j, hj, e⟩ := met_in i k h
      exact ⟨j, by omega, e⟩
    · rcases List.mem_append.mp h with h | h
      · obtain ⟨j, hj, e⟩ := met_in i k h
        exact ⟨j, by omega, e⟩
      · exact ⟨i, by omega, List.mem_singleton.mp h⟩

theorem lay4 {val : Nat → Int} (led : Bool) (h0 : val 0 = 0) (hv : ∀ i, i < 4 → 0 ≤ val i ∧ val i < 10) :
    LayOk led val 4 ∧ (tabs led (firstMet val 4)).plain = true ∧ (tabs led (firstMet val 4)).led = led ∧ chainOk (tabs led (firstMet val 4)).place = true := by
  have hlen : ∀ i, i < 4 → ∃ n, (firstMet val (i + 1)).length = n + 1 ∧ n ≤ i := fun i hi => by
    have h1 := firstMet_length_le val (i + 1)
    have h2 := met_head h0 i
    cases hf : firstMet val (i + 1) with
    | nil => rw [hf] at h2; cases h2
    | cons y r => rw [hf] at h1; exact ⟨r.length, rfl, by simpa using h1⟩
  have hin : ∀ i, i < 4 → ∀ k ∈ firstMet val (i + 1), 0 ≤ k ∧ k < 10 := fun i hi k hk => by
    obtain ⟨j, hj, rfl⟩ := met_in _ _ hk
    exact hv j (by omega)
  have hsub : ∀ i, i < 4 → ∃ n p, (firstMet val (i + 1)).length = n + 1 ∧ n ≤ i ∧ p ∈ subs (n + 1) ∧ tabs led (firstMet val (i + 1)) = mkT led p := fun i hi => by
    obtain ⟨n, hn, hni⟩ := hlen i hi
    obtain ⟨p, hp, e⟩ := tabs_sub led n _ hn (by omega) (met_head h0 i) (hin i hi)
    exact ⟨n, p, hn, hni, hp, e⟩
  refine ⟨fun i hi _ => ?_, ?_⟩
  · cases i with
    | zero => rw [firstMet_zero, h0]; rw [show ([] : List Int).length = 0 from rfl, first_step]; exact (chain_at (k := 1) (by omega) (by omega) (by simp [subs])).2 led
    | succ i =>
      obtain ⟨n, p, hn, hni, hp, e⟩ := hsub i (by omega)
      obtain ⟨hx0, hx1⟩ := hv (i + 1) hi
      obtain ⟨y, hy⟩ := Int.eq_ofNat_of_zero_le hx0
      rw [hy] at hx1
      obtain ⟨p', hp', e'⟩ := steps_at led (h := y) (by omega) (by omega) hp (by omega)
      rw [e, hn, hy, e']
      exact (chain_at (by omega) (by omega) hp').2 led
  · obtain ⟨n, p, hn, hni, hp, e⟩ := hsub 3 (by omega)
    rw [e]
    exact ⟨rfl, rfl, (chain_at (by omega) (by omega) hp).1⟩
end Mine
end
section
open PySem PySem.W PyProof.Rows
set_option maxRecDepth 100000
set_option maxHeartbeats 8000000
namespace Mine
local macro_rules | `(tactic| walk_at "subscriptTail") => `(tactic| (k_here; (with_reducible show wpAny _ _ (subscriptTail _ _ (Value.str _ _) (Value.int _ _)) _ _ _); refine' item_str (fitsSsize_of (N := 9223372036854775808) ?k1 ?k2 (Int.le_refl _)) ?k3 ?k4 ?_ ?k5 ?k6; (case k5 => with_unfolding_all rfl); (case k6 => intro _; with_unfolding_all rfl); (case k1 => omega); (case k2 => omega); (case k3 => omega); (case k4 => omega); intro _))
local macro_rules | `(tactic| walk_at "subscriptTail") => `(tactic| (k_here; (with_reducible show wpAny _ _ (subscriptTail _ _ (Value.ref _) (Value.int _ _)) _ _ _); k_dflt (refine' tab_row ?k1 ?k2 ?k3 ?k4 ?_ ?k5; (case k1 => k_asm); (case k2 => with_reducible assumption); (case k3 => omega); (case k4 => omega); (case k5 => with_unfolding_all rfl); intro r9 hr9)))
local macro_rules | `(tactic| walk_at "subscriptTail") => `(tactic| (k_here; (with_reducible show wpAny _ _ (subscriptTail _ _ (Value.ref _) (Value.int _ _)) _ _ _); k_dflt (refine' tab_cell ?k1 ?k2 ?k0 ?k3 ?k4 ?_ ?k5; (case k1 => k_asm); (case k0 => with_reducible assumption); (case k2 => with_reducible assumption); (case k3 => omega); (case k4 => omega); (case k5 => with_unfolding_all rfl); intro r9)))
local macro_rules | `(tactic| walk_at "call builtin:min") => `(tactic| (k_here; (with_reducible show wpAny _ _ (call (Value.builtin "min") [Value.int _ _, Value.int _ _, Value.int _ _, Value.int _ _]) _ _ _); k_dflt (refine' min_four ?k1 ?k2 ?k3 ?_; (case k1 => exact rfl); (case k2 => k_asm); (case k3 => k_asm); intro h' tk' t' F' N'; try k_sweep)))
local macro_rules | `(tactic| walk_at "setItem ref int") => `(tactic| (k_here; k_dflt (refine' tab_set ?k1 ?k2 ?k3 ?k4 ?k5 ?k6 ?_; (case k1 => k_asm); (case k2 => k_asm); (case k3 => with_reducible assumption); (case k4 => with_reducible assumption); (case k5 => omega); (case k6 => omega); intro h' news' F' N' I' ha' hk'; try k_sweep)))
local macro_rules | `(tactic| walk_at "exec For Name Call cons nil") => `(tactic| (k_here; (rename Fr _ _ _ _ => lF'); (with_unfolding_all refine' For_invVF lF' ?k1 ?k2 ?_; (case k1 => exact rfl); (case k2 => exact rfl); k_whole)))
local macro_rules | `(tactic| walk_at "exec For Name Name cons nil") => `(tactic| (k_here; (rename Fr _ _ _ _ => lF'); (with_unfolding_all refine' For_invVF lF' ?k1 ?k2 ?_; (case k1 => exact rfl); (case k2 => exact rfl); k_whole)))
local macro_rules | `(tactic| walk_at "pyIter ref") => `(tactic| ((with_reducible show wpAny _ _ (pyIter (Value.ref _)) (fun it s₂ => LoopAtV _ _ _ _ _ _ _ _ _ it s₂) _ _); refine Stop.out ?_))
local macro_rules | `(tactic| walk_at "pyIter ref") => `(tactic| ((with_reducible show wpAny _ _ (pyIter (Value.ref _)) (fun it s₂ => TurnsAt _ _ _ _ _ _ _ _ _ it s₂) _ _); refine Stop.out ?_))
local macro_rules | `(tactic| k_asm) => `(tactic| with_reducible assumption)
local macro_rules | `(tactic| k_mem) => `(tactic| ((show @Membership.mem (Addr × Obj) (List (Addr × Obj)) _ _ _); with_reducible assumption))
local macro_rules | `(tactic| walk_at "call builtin:list.append") => `(tactic| (k_here; (with_reducible show wpAny _ _ (call (Value.builtin "list.append") [Value.ref _, _]) _ _ _); k_dflt (refine' app_L ?k1 ?k2 ?k3 ?k4 ?_; (case k1 => k_asm); (case k2 => k_asm); (case k3 => k_mem); (case k4 => ((try simp only [List.length_map, List.length_append, List.length_cons, List.length_nil]); omega)); intro h' F' N'; try k_sweep)))
local macro_rules | `(tactic| walk_at "binaryOp Mult ref int") => `(tactic| (k_here; (with_reducible show wpAny _ _ (binaryOp Operator.Mult (Value.ref _) (Value.int (Nat.cast _) _)) _ _ _); k_dflt (refine' rep_L ?k1 ?k2 ?k3 ?k4 ?_; (case k1 => k_asm); (case k2 => k_asm); (case k3 => k_mem); (case k4 => omega); intro a' h' F' N' l1; try k_sweep)))
local macro_rules | `(tactic| walk_at "call ref") => `(tactic| (k_here; (with_reducible show wpAny _ _ (call (Value.ref _) _) _ _ _); refine Stop.out ?_))
local macro_rules | `(tactic| walk_at "call builtin:len") => `(tactic| (k_here; (with_reducible show wpAny _ _ (call (Value.builtin "len") [Value.ref _]) _ _ _); k_dflt (refine' tab_len ?k1 ?k2 ?k3 ?_; (case k1 => k_asm); (case k2 => with_reducible assumption); (case k3 => with_reducible assumption); intro tok' tk')))
local macro_rules | `(tactic| walk_at "call builtin:len") => `(tactic| (k_here; (with_reducible show wpAny _ _ (call (Value.builtin "len") [Value.ref _]) _ _ _); k_dflt (refine' tab_lenT ?k1 ?k2 ?_; (case k1 => k_asm); (case k2 => with_reducible assumption); intro tok' tk')))
local macro_rules | `(tactic| units_room) => `(tactic| ((try simp only [units_in1, units_deeper, Around.mark_units]); (try dsimp only [ktrTop]); omega))
theorem off_FInit : True := by
  w_top off
  exact True.intro
theorem init_call
  {w : World} {p : Program} {loose : List Str} {mean : ExcName → Option Value} {mg mb : Str → Option Value}
  {dp un : Nat} {gd : Option (List Code)} {cn : Str} {cs : Scope} {a : Addr} {ccd : Value} {cl : List (Str × Addr)} {outer : List Env} {A₀ : Around} {base h₀ : Heap} {L : Addr} {m : Str → Option Value} {s : Shared} {Q E : Value → Shared → Prop}
  {news : List (Addr × Obj)}
  (B : Below A₀ base outer h₀) (F : Fr h₀ L s.heap m) (X : (hd.heap_39 w.params).In h₀) (N : News h₀ L s.heap news) (Tp : Top p loose mean mg mb h₀) (hk : cs.kind = .function)
  {H W : Nat} {x y : Int} {tH tW : Tok}
  (hdp : dp + 1 < recursionLimit) (hx : x = (H : Int)) (hy : y = (W : Int))
  (hH : 1 ≤ H) (hH2 : H < 1000) (hW : 1 ≤ W) (hW2 : W < 1000)
  (ret : ∀ h' tk' t rows T news', Fr h₀ L h' m → News h₀ L h' news' → IsTab news' t rows T H W → (∀ i j, i < H → j < W → cell T i j = if i = 0 then (j : Int) else if j = 0 then (i : Int) else 0) →
    (∀ p ∈ news, p ∈ news') → (∀ p ∈ news, p.1 ≠ t ∧ p.1 ∉ rows) → Q (.ref t) { s with heap := h', toks := tk' })
  :
  wpAny (model PySem.Challenge.rw_bz6036_01.row.prog w) (ktrTop dp un gd cn cs L a ccd cl outer) (call (.ref 21) [.int x tH, .int y tW]) Q E s := by
  subst hx hy
  refine wpAny_call ?_
  revert X; k_fill; intro X
  k_dflt (refine' code_def ?k1 ?k2 ?k3 ?k4 ?k5 ?kA ?kF ?kK ?k6 ?k7 ?k8 ?k9 ?kB ?_ ?c2 ?c3 ?c4 ?c5; (case kA => exact rfl); (case kF => exact rfl); (case kK => assumption); (case k1 => k_asm); (case k2 => k_asm); (case k3 => k_asm); (case k4 => k_asm); (case k5 => k_asm); (case k6 => k_is); (case k7 => k_is); (case k8 => ktr_room); (case k9 => first | exact BindsTo.of_eq rfl | exact binds_K (by k_in) rfl (by k_is) rfl rfl rfl | fail "k_enter: no rule for these arguments"); (case c5 => decide); (case kB => exact locs rfl); (case c2 => exact rfl); (case c3 => exact rfl); (case c4 => exact rfl); k_whole; intro g' L' h' FG' F' N' B' X' T'; (try dsimp only); (try k_fold))
  replace F' : Fr g' L' h' (fun y => List.lookup y [(Str.ofString "len2", Value.int W tW), (Str.ofString "len1", Value.int H tH)]) := F'
  k_steps
  rename_i t hx1 hlt hx2 Fx Nx hx3 tkx tt1 tt2 tt3 hR F1 N1 hkk
  clear Fx Nx hkk
  refine Stop.mk ?_
  refine rangeS (n := H) (σ := List Addr) [Str.ofString "i"] (fun _ => []) (fun k rows nw => IsTab nw t rows (List.replicate k (List.replicate W 0)) k W ∧ (∀ p ∈ news, p ∈ nw) ∧ (∀ p ∈ news, p.1 ≠ t ∧ p.1 ∉ rows)) [] rfl hR (small_one (by omega) (by omega) (by omega) (by omega)) (by rw [rangeSize_nat]; rfl) F1 N1 (by simp) ?_ ?_ ?_
  · refine ⟨⟨⟨0, by simp⟩, rfl, by simp, .nil, by simp, by simp, by simp, by omega, by omega⟩, fun p hp => List.mem_cons_of_mem _ hp, fun p hp => ⟨Nat.ne_of_lt (hlt p hp), by simp⟩⟩
  · intro k tk1 rows u nw h tk2 I o hk ⟨hT, hold, hoff⟩ hI F2 N2
    obtain ⟨n0, hm0⟩ := hT.outer
    have hlen := hT.len
    change Fr g' L' h _ at F2
    change News g' L' h _ at N2
    try k_fold
    k_steps
    rename_i lz hz1 hz2 ra hz3 hlt2 hz4 F3 N3
    have htI : t ≠ I := hI _ hm0
    have hnr : ∀ p ∈ nw, p.1 < ra := fun p hp => hlt2 p (by simp [hp])
    have hIr : I < ra := hlt2 (I, o) (by simp)
    have hnt : ∀ p ∈ nw, p.1 ∈ rows → p.1 ≠ t := fun p hp h e => hT.off (e ▸ h)
    refine turn_end (rows ++ [ra]) F3 N3 (updL_mem_ne (Ne.symm htI) (by simp)) (by simp) (keep_ite (by decide) (keep_mapAt (by decide))) ⟨?_, ?_, ?_⟩
    · refine hT.grow (n := n0 + 1) (n' := 0) (tok := tk2) (by omega) hnr (mem_offL.mpr ⟨?_, htI⟩) (mem_offL.mpr ⟨updL_mem_ne (Ne.symm (Nat.ne_of_lt (hnr _ hm0))) (by simp), Ne.symm (Nat.ne_of_lt hIr)⟩) fun p hp hr => mem_offL.mpr ⟨updL_mem_ne (hnt p hp hr) (by simp [hp]), hI p hp⟩
      have := updL_mem_self (o := rowO (List.map Value.ref (rows ++ [ra])) (n0 + 1)) (List.mem_cons_of_mem (ra, rowO (List.replicate W (Value.int 0 tk2)) 0) (List.mem_cons_of_mem (lz, rowO [Value.int 0 tk2] 0) (List.mem_cons_of_mem (I, o) hm0)))
      simpa using this
    · exact fun p hp => mem_offL.mpr ⟨updL_mem_ne (hoff p hp).1 (by simp [hold p hp]), hI p (hold p hp)⟩
    · refine fun p hp => ⟨(hoff p hp).1, fun hm => ?_⟩
      rcases List.mem_append.mp hm with hm | hm
      · exact (hoff p hp).2 hm
      · have := hnr p (hold p hp)
        rw [List.mem_singleton.mp hm] at this
        exact Nat.lt_irrefl _ this
  · intro rows u nw h tk2 ⟨hT, hold, hoff⟩ F2 N2
    change Fr g' L' h _ at F2
    change News g' L' h _ at N2
    k_steps
    rename_i hy1 tky ua ub uc hR2 F3 N3 hkk2
    clear hkk2
    refine Stop.mk ?_
    refine rangeS (n := H) (σ := List (List Int)) [Str.ofString "i"] (fun _ => []) (fun k T nw => IsTab nw t rows T H W ∧ (∀ i j, cell T i j = if i < k ∧ j = 0 then (i : Int) else 0) ∧ (∀ p ∈ news, p ∈ nw)) (List.replicate H (List.replicate W 0)) rfl hR2 (small_one (by omega) (by omega) (by omega) (by omega)) (by rw [rangeSize_nat]; rfl) F3 N3 (by simp) ?_ ?_ ?_
    · exact ⟨hT, fun i j => by rw [cell_zero]; split <;> omega, hold⟩
    · intro k tk3 T u2 nw2 h2 tk4 I o hk ⟨hT2, hc, hold2⟩ hI F4 N4
      change Fr g' L' h2 _ at F4
      change News g' L' h2 _ at N4
      have hT3 := hT2.cons (p := (I, o))
      try k_fold
      k_steps
      rename_i r9 hr9 hz1 nX F5 N5 I5 ha5 hk5
      obtain ⟨q1, q2, q3⟩ := I5.back hT2 hI hk5
      refine turn_end _ F5 N5 q2 (by simp) (keep_ite (by decide) (keep_mapAt (by decide))) ⟨q1, fun i j => ?_, fun p hp => q3 p (hold2 p hp) (hoff p hp).2⟩
      rw [cell_setT hT2 (by omega) (by simp; omega), hc]
      repeat' split
      all_goals omega
    · intro T u2 nw2 h2 tk4 ⟨hT2, hc, hold2⟩ F4 N4
      change Fr g' L' h2 _ at F4
      change News g' L' h2 _ at N4
      k_steps
      rename_i hy1 tky ua ub uc hR3 F5 N5 hkk3
      clear hkk3
      refine Stop.mk ?_
      refine rangeS (n := W) (σ := List (List Int)) [Str.ofString "j"] (fun _ => []) (fun k T nw => IsTab nw t rows T H W ∧ (∀ i j, cell T i j = if i = 0 ∧ j < k then (j : Int) else if i < H ∧ j = 0 then (i : Int) else 0) ∧ (∀ p ∈ news, p ∈ nw)) T rfl hR3 (small_one (by omega) (by omega) (by omega) (by omega)) (by rw [rangeSize_nat]; rfl) F5 N5 (by simp) ?_ ?_ ?_
      · exact ⟨hT2, fun i j => by rw [hc]; simp, hold2⟩
      · intro k tk3 T3 u3 nw3 h3 tk5 I o hk ⟨hT3, hc3, hold3⟩ hI F6 N6
        change Fr g' L' h3 _ at F6
        change News g' L' h3 _ at N6
        have hT4 := hT3.cons (p := (I, o))
        try k_fold
        k_steps
        rename_i r9 hr9 hz1 nX F7 N7 I7 ha7 hk7
        obtain ⟨q1, q2, q3⟩ := I7.back hT3 hI hk7
        refine turn_end _ F7 N7 q2 (by simp) (keep_ite (by decide) (keep_mapAt (by decide))) ⟨q1, fun i j => ?_, fun p hp => q3 p (hold3 p hp) (hoff p hp).2⟩
        rw [cell_setT hT3 (by simp; omega) (by omega), hc3]
        repeat' split
        all_goals omega
      · intro T3 u3 nw3 h3 tk5 ⟨hT3, hc3, hold3⟩ F6 N6
        change Fr g' L' h3 _ at F6
        change News g' L' h3 _ at N6
        k_steps
        refine ret _ _ _ _ _ _ (by assumption) (by assumption) hT3 (fun i j hi hj => ?_) hold3 hoff
        rw [hc3]
        repeat' split
        all_goals omega
end Mine
end
section
open PySem PySem.W PyProof.Rows
set_option maxRecDepth 100000
set_option maxHeartbeats 8000000
namespace Mine
local macro_rules | `(tactic| walk_at "subscriptTail") => `(tactic| (k_here; (with_reducible show wpAny _ _ (subscriptTail _ _ (Value.str _ _) (Value.int _ _)) _ _ _); refine' item_str (fitsSsize_of (N := 9223372036854775808) ?k1 ?k2 (Int.le_refl _)) ?k3 ?k4 ?_ ?k5 ?k6; (case k5 => with_unfolding_all rfl); (case k6 => intro _; with_unfolding_all rfl); (case k1 => omega); (case k2 => omega); (case k3 => omega); (case k4 => omega); intro _))
local macro_rules | `(tactic| walk_at "subscriptTail") => `(tactic| (k_here; (with_reducible show wpAny _ _ (subscriptTail _ _ (Value.ref _) (Value.int _ _)) _ _ _); k_dflt (refine' tab_row ?k1 ?k2 ?k3 ?k4 ?_ ?k5; (case k1 => k_asm); (case k2 => with_reducible assumption); (case k3 => omega); (case k4 => omega); (case k5 => with_unfolding_all rfl); intro r9 hr9)))
local macro_rules | `(tactic| walk_at "subscriptTail") => `(tactic| (k_here; (with_reducible show wpAny _ _ (subscriptTail _ _ (Value.ref _) (Value.int _ _)) _ _ _); k_dflt (refine' tab_cell ?k1 ?k2 ?k0 ?k3 ?k4 ?_ ?k5; (case k1 => k_asm); (case k0 => with_reducible assumption); (case k2 => with_reducible assumption); (case k3 => omega); (case k4 => omega); (case k5 => with_unfolding_all rfl); intro r9)))
local macro_rules | `(tactic| walk_at "call builtin:min") => `(tactic| (k_here; (with_reducible show wpAny _ _ (call (Value.builtin "min") [Value.int _ _, Value.int _ _, Value.int _ _, Value.int _ _]) _ _ _); k_dflt (refine' min_four ?k1 ?k2 ?k3 ?_; (case k1 => exact rfl); (case k2 => k_asm); (case k3 => k_asm); intro h' tk' t' F' N'; try k_sweep)))
local macro_rules | `(tactic| walk_at "setItem ref int") => `(tactic| (k_here; k_dflt (refine' tab_set ?k1 ?k2 ?k3 ?k4 ?k5 ?k6 ?_; (case k1 => k_asm); (case k2 => k_asm); (case k3 => with_reducible assumption); (case k4 => with_reducible assumption); (case k5 => omega); (case k6 => omega); intro h' news' F' N' I' ha' hk'; try k_sweep)))
local macro_rules | `(tactic| walk_at "exec For Name Call cons nil") => `(tactic| (k_here; (rename Fr _ _ _ _ => lF'); (with_unfolding_all refine' For_invVF lF' ?k1 ?k2 ?_; (case k1 => exact rfl); (case k2 => exact rfl); k_whole)))
local macro_rules | `(tactic| walk_at "exec For Name Name cons nil") => `(tactic| (k_here; (rename Fr _ _ _ _ => lF'); (with_unfolding_all refine' For_invVF lF' ?k1 ?k2 ?_; (case k1 => exact rfl); (case k2 => exact rfl); k_whole)))
local macro_rules | `(tactic| walk_at "pyIter ref") => `(tactic| ((with_reducible show wpAny _ _ (pyIter (Value.ref _)) (fun it s₂ => LoopAtV _ _ _ _ _ _ _ _ _ it s₂) _ _); refine Stop.out ?_))
local macro_rules | `(tactic| walk_at "pyIter ref") => `(tactic| ((with_reducible show wpAny _ _ (pyIter (Value.ref _)) (fun it s₂ => TurnsAt _ _ _ _ _ _ _ _ _ it s₂) _ _); refine Stop.out ?_))
local macro_rules | `(tactic| k_asm) => `(tactic| with_reducible assumption)
local macro_rules | `(tactic| k_mem) => `(tactic| ((show @Membership.mem (Addr × Obj) (List (Addr × Obj)) _ _ _); with_reducible assumption))
local macro_rules | `(tactic| walk_at "call builtin:list.append") => `(tactic| (k_here; (with_reducible show wpAny _ _ (call (Value.builtin "list.append") [Value.ref _, _]) _ _ _); k_dflt (refine' app_L ?k1 ?k2 ?k3 ?k4 ?_; (case k1 => k_asm); (case k2 => k_asm); (case k3 => k_mem); (case k4 => ((try simp only [List.length_map, List.length_append, List.length_cons, List.length_nil]); omega)); intro h' F' N'; try k_sweep)))
local macro_rules | `(tactic| walk_at "binaryOp Mult ref int") => `(tactic| (k_here; (with_reducible show wpAny _ _ (binaryOp Operator.Mult (Value.ref _) (Value.int (Nat.cast _) _)) _ _ _); k_dflt (refine' rep_L ?k1 ?k2 ?k3 ?k4 ?_; (case k1 => k_asm); (case k2 => k_asm); (case k3 => k_mem); (case k4 => omega); intro a' h' F' N' l1; try k_sweep)))
local macro_rules | `(tactic| walk_at "call ref") => `(tactic| (k_here; (with_reducible show wpAny _ _ (call (Value.ref _) _) _ _ _); refine Stop.out ?_))
local macro_rules | `(tactic| walk_at "call builtin:len") => `(tactic| (k_here; (with_reducible show wpAny _ _ (call (Value.builtin "len") [Value.ref _]) _ _ _); k_dflt (refine' tab_len ?k1 ?k2 ?k3 ?_; (case k1 => k_asm); (case k2 => with_reducible assumption); (case k3 => with_reducible assumption); intro tok' tk')))
local macro_rules | `(tactic| walk_at "call builtin:len") => `(tactic| (k_here; (with_reducible show wpAny _ _ (call (Value.builtin "len") [Value.ref _]) _ _ _); k_dflt (refine' tab_lenT ?k1 ?k2 ?_; (case k1 => k_asm); (case k2 => with_reducible assumption); intro tok' tk')))
local macro_rules | `(tactic| units_room) => `(tactic| ((try simp only [units_in1, units_deeper, Around.mark_units]); (try dsimp only [ktrTop]); omega))
local macro_rules | `(tactic| walk_at "none") => `(tactic| fail)
theorem off_FStep : True := by
  w_top off
  exact True.intro
theorem step_call
  {w : World} {p : Program} {loose : List Str} {mean : ExcName → Option Value} {mg mb : Str → Option Value}
  {dp un : Nat} {gd : Option (List Code)} {cn : Str} {cs : Scope} {a : Addr} {ccd : Value} {cl : List (Str × Addr)} {outer : List Env} {A₀ : Around} {base h₀ : Heap} {L : Addr} {m : Str → Option Value} {s : Shared} {Q E : Value → Shared → Prop}
  {news : List (Addr × Obj)}
  (B : Below A₀ base outer h₀) (F : Fr h₀ L s.heap m) (X : (hd.heap_39 w.params).In h₀) (N : News h₀ L s.heap news) (Tp : Top p loose mean mg mb h₀) (hk : cs.kind = .function)
  {t : Addr} {rows : List Addr} {T : List (List Int)} {H W : Nat} {i j : Int} {ti tj t1 t2 t0 t0' : Tok} {one two : Str}
  (hdp : dp + 1 < recursionLimit)
  (I : IsTab news t rows T H W) (hi : 1 ≤ i) (hi2 : i < H) (hj : 1 ≤ j) (hj2 : j < W) (h1 : (one.length : Int) + 1 = H) (h2 : (two.length : Int) + 1 = W)
  (ret : ∀ h' tk' news', Fr h₀ L h' m → News h₀ L h' news' → IsTab news' t rows (setT T i.toNat j.toNat (stepV one two T i.toNat j.toNat)) H W → (∀ p ∈ news, p.1 ∉ rows → p ∈ news') → Q .none { s with heap := h', toks := tk' }) :
  wpAny (model PySem.Challenge.rw_bz6036_01.row.prog w) (ktrTop dp un gd cn cs L a ccd cl outer) (call (.ref 29) [.ref t, .int i ti, .int j tj, .str one t1, .str two t2, .int 0 t0, .int 0 t0']) Q E s := by
  have hs := I.small
  have e1 : ((i - 1).toNat : Int) = i - 1 := by omega
  have e2 : ((j - 1).toNat : Int) = j - 1 := by omega
  have e3 : (i - 1).toNat = i.toNat - 1 := by omega
  have e4 : (j - 1).toNat = j.toNat - 1 := by omega
  unfold stepV subC at ret
  simp only [← e3, ← e4, e1, e2] at ret
  refine wpAny_call ?_
  revert X; k_fill; intro X
  k_dflt (refine' code_def ?k1 ?k2 ?k3 ?k4 ?k5 ?kA ?kF ?kK ?k6 ?k7 ?k8 ?k9 ?kB ?_ ?c2 ?c3 ?c4 ?c5; (case kA => exact rfl); (case kF => exact rfl); (case kK => assumption); (case k1 => k_asm); (case k2 => k_asm); (case k3 => k_asm); (case k4 => k_asm); (case k5 => k_asm); (case k6 => k_is); (case k7 => k_is); (case k8 => ktr_room); (case k9 => first | exact BindsTo.of_eq rfl | exact binds_K (by k_in) rfl (by k_is) rfl rfl rfl | fail "k_enter: no rule for these arguments"); (case c5 => decide); (case kB => exact locs rfl); (case c2 => exact rfl); (case c3 => exact rfl); (case c4 => exact rfl); k_whole; intro g' L' h' FG' F' N' B' X' T'; (try dsimp only); (try k_fold))
  k_steps
  all_goals (
    refine ret _ _ _ (by assumption) (by assumption) ?_ (by assumption)
    rename IsTab _ _ _ (setT _ _ _ _) _ _ => hI
    rename (Txt.item _ _ != Txt.item _ _) = _ => hc
    first
      | (rw [if_neg (bne_iff_ne.mp hc)]; exact hI)
      | (rw [if_pos (by simpa using hc)]; exact hI))
end Mine
end
section
open PySem PySem.W PyProof.Rows
set_option maxRecDepth 100000
set_option maxHeartbeats 8000000
namespace Mine
local macro_rules | `(tactic| walk_at "subscriptTail") => `(tactic| (k_here; (with_reducible show wpAny _ _ (subscriptTail _ _ (Value.str _ _) (Value.int _ _)) _ _ _); refine' item_str (fitsSsize_of (N := 9223372036854775808) ?k1 ?k2 (Int.le_refl _)) ?k3 ?k4 ?_ ?k5 ?k6; (case k5 => with_unfolding_all rfl); (case k6 => intro _; with_unfolding_all rfl); (case k1 => omega); (case k2 => omega); (case k3 => omega); (case k4 => omega); intro _))
local macro_rules | `(tactic| walk_at "subscriptTail") => `(tactic| (k_here; (with_reducible show wpAny _ _ (subscriptTail _ _ (Value.ref _) (Value.int _ _)) _ _ _); k_dflt (refine' tab_row ?k1 ?k2 ?k3 ?k4 ?_ ?k5; (case k1 => k_asm); (case k2 => with_reducible assumption); (case k3 => omega); (case k4 => omega); (case k5 => with_unfolding_all rfl); intro r9 hr9)))
local macro_rules | `(tactic| walk_at "subscriptTail") => `(tactic| (k_here; (with_reducible show wpAny _ _ (subscriptTail _ _ (Value.ref _) (Value.int _ _)) _ _ _); k_dflt (refine' tab_cell ?k1 ?k2 ?k0 ?k3 ?k4 ?_ ?k5; (case k1 => k_asm); (case k0 => with_reducible assumption); (case k2 => with_reducible assumption); (case k3 => omega); (case k4 => omega); (case k5 => with_unfolding_all rfl); intro r9)))
local macro_rules | `(tactic| walk_at "call builtin:min") => `(tactic| (k_here; (with_reducible show wpAny _ _ (call (Value.builtin "min") [Value.int _ _, Value.int _ _, Value.int _ _, Value.int _ _]) _ _ _); k_dflt (refine' min_four ?k1 ?k2 ?k3 ?_; (case k1 => exact rfl); (case k2 => k_asm); (case k3 => k_asm); intro h' tk' t' F' N'; try k_sweep)))
local macro_rules | `(tactic| walk_at "setItem ref int") => `(tactic| (k_here; k_dflt (refine' tab_set ?k1 ?k2 ?k3 ?k4 ?k5 ?k6 ?_; (case k1 => k_asm); (case k2 => k_asm); (case k3 => with_reducible assumption); (case k4 => with_reducible assumption); (case k5 => omega); (case k6 => omega); intro h' news' F' N' I' ha' hk'; try k_sweep)))
local macro_rules | `(tactic| walk_at "exec For Name Call cons nil") => `(tactic| (k_here; (rename Fr _ _ _ _ => lF'); (with_unfolding_all refine' For_invVF lF' ?k1 ?k2 ?_; (case k1 => exact rfl); (case k2 => exact rfl); k_whole)))
local macro_rules | `(tactic| walk_at "exec For Name Name cons nil") => `(tactic| (k_here; (rename Fr _ _ _ _ => lF'); (with_unfolding_all refine' For_invVF lF' ?k1 ?k2 ?_; (case k1 => exact rfl); (case k2 => exact rfl); k_whole)))
local macro_rules | `(tactic| walk_at "pyIter ref") => `(tactic| ((with_reducible show wpAny _ _ (pyIter (Value.ref _)) (fun it s₂ => LoopAtV _ _ _ _ _ _ _ _ _ it s₂) _ _); refine Stop.out ?_))
local macro_rules | `(tactic| walk_at "pyIter ref") => `(tactic| ((with_reducible show wpAny _ _ (pyIter (Value.ref _)) (fun it s₂ => TurnsAt _ _ _ _ _ _ _ _ _ it s₂) _ _); refine Stop.out ?_))
local macro_rules | `(tactic| k_asm) => `(tactic| with_reducible assumption)
local macro_rules | `(tactic| k_mem) => `(tactic| ((show @Membership.mem (Addr × Obj) (List (Addr × Obj)) _ _ _); with_reducible assumption))
local macro_rules | `(tactic| walk_at "call builtin:list.append") => `(tactic| (k_here; (with_reducible show wpAny _ _ (call (Value.builtin "list.append") [Value.ref _, _]) _ _ _); k_dflt (refine' app_L ?k1 ?k2 ?k3 ?k4 ?_; (case k1 => k_asm); (case k2 => k_asm); (case k3 => k_mem); (case k4 => ((try simp only [List.length_map, List.length_append, List.length_cons, List.length_nil]); omega)); intro h' F' N'; try k_sweep)))
local macro_rules | `(tactic| walk_at "binaryOp Mult ref int") => `(tactic| (k_here; (with_reducible show wpAny _ _ (binaryOp Operator.Mult (Value.ref _) (Value.int (Nat.cast _) _)) _ _ _); k_dflt (refine' rep_L ?k1 ?k2 ?k3 ?k4 ?_; (case k1 => k_asm); (case k2 => k_asm); (case k3 => k_mem); (case k4 => omega); intro a' h' F' N' l1; try k_sweep)))
local macro_rules | `(tactic| walk_at "call ref") => `(tactic| (k_here; (with_reducible show wpAny _ _ (call (Value.ref _) _) _ _ _); refine Stop.out ?_))
local macro_rules | `(tactic| walk_at "call builtin:len") => `(tactic| (k_here; (with_reducible show wpAny _ _ (call (Value.builtin "len") [Value.ref _]) _ _ _); k_dflt (refine' tab_len ?k1 ?k2 ?k3 ?_; (case k1 => k_asm); (case k2 => with_reducible assumption); (case k3 => with_reducible assumption); intro tok' tk')))
local macro_rules | `(tactic| walk_at "call builtin:len") => `(tactic| (k_here; (with_reducible show wpAny _ _ (call (Value.builtin "len") [Value.ref _]) _ _ _); k_dflt (refine' tab_lenT ?k1 ?k2 ?_; (case k1 => k_asm); (case k2 => with_reducible assumption); intro tok' tk')))
local macro_rules | `(tactic| units_room) => `(tactic| ((try simp only [units_in1, units_deeper, Around.mark_units]); (try dsimp only [ktrTop]); omega))
local macro_rules | `(tactic| walk_at "none") => `(tactic| fail)
local macro_rules | `(tactic| walk_at "none") => `(tactic| fail)
theorem off_FTab : True := by
  w_top off
  exact True.intro
theorem table_none
  {w : World} {p : Program} {loose : List Str} {mean : ExcName → Option Value} {mg mb : Str → Option Value}
  {dp un : Nat} {gd : Option (List Code)} {cn : Str} {cs : Scope} {a : Addr} {ccd : Value} {cl : List (Str × Addr)} {outer : List Env} {A₀ : Around} {base h₀ : Heap} {L : Addr} {m : Str → Option Value} {s : Shared} {Q E : Value → Shared → Prop}
  {news : List (Addr × Obj)}
  (B : Below A₀ base outer h₀) (F : Fr h₀ L s.heap m) (X : (hd.heap_39 w.params).In h₀) (N : News h₀ L s.heap news) (Tp : Top p loose mean mg mb h₀) (hk : cs.kind = .function)
  {one two : Str} {t1 t2 : Tok}
  (hdp : dp + 2 < recursionLimit) (h1 : one.length ≤ 20) (h2 : two.length ≤ 20)
  (ret : ∀ h' tk' t rows T news', Fr h₀ L h' m → News h₀ L h' news' → IsTab news' t rows T (one.length + 1) (two.length + 1) → Part (fun _ _ => true) (subC one two) (one.length + 1) (two.length + 1) (cell T) (one.length + 1) 1 →
    (∀ p ∈ news, p ∈ news') → (∀ p ∈ news, p.1 ≠ t ∧ p.1 ∉ rows) → Q (.ref t) { s with heap := h', toks := tk' }) :
  wpAny (model PySem.Challenge.rw_bz6036_01.row.prog w) (ktrTop dp un gd cn cs L a ccd cl outer) (call (.ref 54) [.str one t1, .str two t2, .none]) Q E s := by
  refine wpAny_call ?_
  revert X; k_fill; intro X
  k_dflt (refine' code_def ?k1 ?k2 ?k3 ?k4 ?k5 ?kA ?kF ?kK ?k6 ?k7 ?k8 ?k9 ?kB ?_ ?c2 ?c3 ?c4 ?c5; (case kA => exact rfl); (case kF => exact rfl); (case kK => assumption); (case k1 => k_asm); (case k2 => k_asm); (case k3 => k_asm); (case k4 => k_asm); (case k5 => k_asm); (case k6 => k_is); (case k7 => k_is); (case k8 => ktr_room); (case k9 => first | exact BindsTo.of_eq rfl | exact binds_K (by k_in) rfl (by k_is) rfl rfl rfl | fail "k_enter: no rule for these arguments"); (case c5 => decide); (case kB => exact locs rfl); (case c2 => exact rfl); (case c3 => exact rfl); (case c4 => exact rfl); k_whole; intro g' L' h' FG' F' N' B' X' T'; (try dsimp only); (try k_fold))
  replace F' : Fr g' L' h' (fun y => List.lookup y [(Str.ofString "band", Value.none), (Str.ofString "two", Value.str two t2), (Str.ofString "one", Value.str one t1)]) := F'
  k_steps
  refine Stop.mk ?_
  k_dflt refine init_call (H := one.length + 1) (W := two.length + 1) B' F' X' N' T' rfl ?_ rfl rfl (by omega) (by omega) (by omega) (by omega) ?_
  · ktr_room
  intro h2 tk2 t rows T0 nw0 F2 N2 hT0 hc0 hold0 hoff
  k_steps
  rename_i hy1 tky ua ub uc hR3 F3 N3 hkk3
  clear hkk3
  refine Stop.mk ?_
  refine rangeS (n := one.length) (σ := List (List Int)) [Str.ofString "i", Str.ofString "j"] (fun _ => [])
    (fun k T nw => IsTab nw t rows T (one.length + 1) (two.length + 1) ∧ Part (fun _ _ => true) (subC one two) (one.length + 1) (two.length + 1) (cell T) (k + 1) 1 ∧ (∀ p ∈ news, p ∈ nw)) T0
    rfl hR3 (small_one (by omega) (by omega) (by omega) (by omega)) (by rw [rangeSize_nat]; omega) F3 N3 (by simp) ?_ ?_ ?_
  · refine ⟨hT0, ⟨(fun _ _ _ _ h => by cases h), fun j hj _ => ?_, fun i hi _ => ?_, (fun i j hi _ _ _ _ h => by omega)⟩, hold0⟩
    · rw [hc0 0 j (by omega) hj, if_pos rfl]
    · rw [hc0 i 0 hi (by omega)]; split <;> simp_all
  · intro k tk3 T1 u1 nw1 h3 tk4 I o hk ⟨hT1, hP1, hold1⟩ hI F4 N4
    change Fr g' L' h3 _ at F4
    change News g' L' h3 _ at N4
    have hap := hT1.apart hI
    try k_fold
    k_steps
    rename_i hz1 tkz va vb vc hR5 F5 N5 hkk5
    clear hkk5
    refine Stop.mk ?_
    refine rangeS (n := two.length) (σ := List (List Int)) [Str.ofString "j"] (fun _ => [])
      (fun l T nw => IsTab nw t rows T (one.length + 1) (two.length + 1) ∧ Part (fun _ _ => true) (subC one two) (one.length + 1) (two.length + 1) (cell T) (k + 1) (l + 1) ∧ (∀ p ∈ (I, o) :: news, p ∈ nw)) T1
      rfl hR5 (small_one (by omega) (by omega) (by omega) (by omega)) (by rw [rangeSize_nat]; omega) F5 N5 (by simp) ?_ ?_ ?_
    · refine ⟨hT1.cons, hP1, fun p hp => ?_⟩
      rcases List.mem_cons.mp hp with e | hp
      · rw [e]; exact List.mem_cons_self
      · exact List.mem_cons_of_mem _ (hold1 p hp)
    · intro l tk5 T2 u2 nw2 h4 tk6 I2 o2 hl ⟨hT2, hP2, hold2⟩ hI2 F6 N6
      change Fr g' L' h4 _ at F6
      change News g' L' h4 _ at N6
      try k_fold
      k_steps
      refine Stop.mk ?_
      k_dflt refine step_call (H := one.length + 1) (W := two.length + 1) B' (by k_asm) X' N6 T' rfl ?_ hT2.cons (by omega) (by omega) (by omega) (by omega) (by omega) (by omega) ?_
      · ktr_room
      intro h5 tk7 nw5 F7 N7 hT5 hk5
      k_steps
      have e1 : (1 + (k : Int)).toNat = k + 1 := by omega
      have e2 : (1 + (l : Int)).toNat = l + 1 := by omega
      rw [e1, e2] at hT5
      obtain ⟨q1, q2, q3⟩ := hT5.back hT2 hI2 hk5
      refine turn_end _ (by k_asm) N7 q2 (by simp) (keep_ite (by decide) (keep_mapAt (by decide))) ⟨q1, ?_, fun p hp => q3 p (hold2 p hp) ?_⟩
      · rw [cell_setF hT2 (by omega) (by omega)]
        exact hP2.store (by omega) (by omega) rfl
      · rcases List.mem_cons.mp hp with e | hp
        · rw [e]; exact hap.2
        · exact (hoff p hp).2
    · intro T2 u2 nw2 h4 tk6 ⟨hT2, hP2, hold2⟩ F6 N6
      change Fr g' L' h4 _ at F6
      change News g' L' h4 _ at N6
      k_steps
      refine turn_end T2 (by k_asm) (by k_asm) (hold2 _ List.mem_cons_self) (by simp) (keep_map2 (by decide) (by decide) (keep_ite (by decide) (keep_mapAt (by decide)))) ⟨hT2.offL hap.1 hap.2, hP2.row, fun p hp => mem_offL.mpr ⟨hold2 p (List.mem_cons_of_mem _ hp), hI p (hold1 p hp)⟩⟩
  · intro T1 u1 nw1 h3 tk4 ⟨hT1, hP1, hold1⟩ F4 N4
    change Fr g' L' h3 _ at F4
    change News g' L' h3 _ at N4
    k_steps
    exact ret _ _ _ _ _ _ (by assumption) (by assumption) hT1 hP1 hold1 hoff
end Mine
end
section
open PySem PySem.W PyProof.Rows
set_option maxRecDepth 100000
set_option maxHeartbeats 8000000
namespace Mine
local macro_rules | `(tactic| walk_at "subscriptTail") => `(tactic| (k_here; (with_reducible show wpAny _ _ (subscriptTail _ _ (Value.str _ _) (Value.int _ _)) _ _ _); refine' item_str (fitsSsize_of (N := 9223372036854775808) ?k1 ?k2 (Int.le_refl _)) ?k3 ?k4 ?_ ?k5 ?k6; (case k5 => with_unfolding_all rfl); (case k6 => intro _; with_unfolding_all rfl); (case k1 => omega); (case k2 => omega); (case k3 => omega); (case k4 => omega); intro _))
local macro_rules | `(tactic| walk_at "subscriptTail") => `(tactic| (k_here; (with_reducible show wpAny _ _ (subscriptTail _ _ (Value.ref _) (Value.int _ _)) _ _ _); k_dflt (refine' tab_row ?k1 ?k2 ?k3 ?k4 ?_ ?k5; (case k1 => k_asm); (case k2 => with_reducible assumption); (case k3 => omega); (case k4 => omega); (case k5 => with_unfolding_all rfl); intro r9 hr9)))
local macro_rules | `(tactic| walk_at "subscriptTail") => `(tactic| (k_here; (with_reducible show wpAny _ _ (subscriptTail _ _ (Value.ref _) (Value.int _ _)) _ _ _); k_dflt (refine' tab_cell ?k1 ?k2 ?k0 ?k3 ?k4 ?_ ?k5; (case k1 => k_asm); (case k0 => with_reducible assumption); (case k2 => with_reducible assumption); (case k3 => omega); (case k4 => omega); (case k5 => with_unfolding_all rfl); intro r9)))
local macro_rules | `(tactic| walk_at "call builtin:min") => `(tactic| (k_here; (with_reducible show wpAny _ _ (call (Value.builtin "min") [Value.int _ _, Value.int _ _, Value.int _ _, Value.int _ _]) _ _ _); k_dflt (refine' min_four ?k1 ?k2 ?k3 ?_; (case k1 => exact rfl); (case k2 => k_asm); (case k3 => k_asm); intro h' tk' t' F' N'; try k_sweep)))
local macro_rules | `(tactic| walk_at "setItem ref int") => `(tactic| (k_here; k_dflt (refine' tab_set ?k1 ?k2 ?k3 ?k4 ?k5 ?k6 ?_; (case k1 => k_asm); (case k2 => k_asm); (case k3 => with_reducible assumption); (case k4 => with_reducible assumption); (case k5 => omega); (case k6 => omega); intro h' news' F' N' I' ha' hk'; try k_sweep)))
local macro_rules | `(tactic| walk_at "exec For Name Call cons nil") => `(tactic| (k_here; (rename Fr _ _ _ _ => lF'); (with_unfolding_all refine' For_invVF lF' ?k1 ?k2 ?_; (case k1 => exact rfl); (case k2 => exact rfl); k_whole)))
local macro_rules | `(tactic| walk_at "exec For Name Name cons nil") => `(tactic| (k_here; (rename Fr _ _ _ _ => lF'); (with_unfolding_all refine' For_invVF lF' ?k1 ?k2 ?_; (case k1 => exact rfl); (case k2 => exact rfl); k_whole)))
local macro_rules | `(tactic| walk_at "pyIter ref") => `(tactic| ((with_reducible show wpAny _ _ (pyIter (Value.ref _)) (fun it s₂ => LoopAtV _ _ _ _ _ _ _ _ _ it s₂) _ _); refine Stop.out ?_))
local macro_rules | `(tactic| walk_at "pyIter ref") => `(tactic| ((with_reducible show wpAny _ _ (pyIter (Value.ref _)) (fun it s₂ => TurnsAt _ _ _ _ _ _ _ _ _ it s₂) _ _); refine Stop.out ?_))
local macro_rules | `(tactic| k_asm) => `(tactic| with_reducible assumption)
local macro_rules | `(tactic| k_mem) => `(tactic| ((show @Membership.mem (Addr × Obj) (List (Addr × Obj)) _ _ _); with_reducible assumption))
local macro_rules | `(tactic| walk_at "call builtin:list.append") => `(tactic| (k_here; (with_reducible show wpAny _ _ (call (Value.builtin "list.append") [Value.ref _, _]) _ _ _); k_dflt (refine' app_L ?k1 ?k2 ?k3 ?k4 ?_; (case k1 => k_asm); (case k2 => k_asm); (case k3 => k_mem); (case k4 => ((try simp only [List.length_map, List.length_append, List.length_cons, List.length_nil]); omega)); intro h' F' N'; try k_sweep)))
local macro_rules | `(tactic| walk_at "binaryOp Mult ref int") => `(tactic| (k_here; (with_reducible show wpAny _ _ (binaryOp Operator.Mult (Value.ref _) (Value.int (Nat.cast _) _)) _ _ _); k_dflt (refine' rep_L ?k1 ?k2 ?k3 ?k4 ?_; (case k1 => k_asm); (case k2 => k_asm); (case k3 => k_mem); (case k4 => omega); intro a' h' F' N' l1; try k_sweep)))
local macro_rules | `(tactic| walk_at "call ref") => `(tactic| (k_here; (with_reducible show wpAny _ _ (call (Value.ref _) _) _ _ _); refine Stop.out ?_))
local macro_rules | `(tactic| walk_at "call builtin:len") => `(tactic| (k_here; (with_reducible show wpAny _ _ (call (Value.builtin "len") [Value.ref _]) _ _ _); k_dflt (refine' tab_len ?k1 ?k2 ?k3 ?_; (case k1 => k_asm); (case k2 => with_reducible assumption); (case k3 => with_reducible assumption); intro tok' tk')))
local macro_rules | `(tactic| walk_at "call builtin:len") => `(tactic| (k_here; (with_reducible show wpAny _ _ (call (Value.builtin "len") [Value.ref _]) _ _ _); k_dflt (refine' tab_lenT ?k1 ?k2 ?_; (case k1 => k_asm); (case k2 => with_reducible assumption); intro tok' tk')))
local macro_rules | `(tactic| units_room) => `(tactic| ((try simp only [units_in1, units_deeper, Around.mark_units]); (try dsimp only [ktrTop]); omega))
local macro_rules | `(tactic| walk_at "none") => `(tactic| fail)
local macro_rules | `(tactic| walk_at "none") => `(tactic| fail)
local macro_rules | `(tactic| walk_at "none") => `(tactic| fail)
theorem off_FBand : True := by
  w_top off
  exact True.intro
theorem table_band
  {w : World} {p : Program} {loose : List Str} {mean : ExcName → Option Value} {mg mb : Str → Option Value}
  {dp un : Nat} {gd : Option (List Code)} {cn : Str} {cs : Scope} {a : Addr} {ccd : Value} {cl : List (Str × Addr)} {outer : List Env} {A₀ : Around} {base h₀ : Heap} {L : Addr} {m : Str → Option Value} {s : Shared} {Q E : Value → Shared → Prop}
  {news : List (Addr × Obj)}
  (B : Below A₀ base outer h₀) (F : Fr h₀ L s.heap m) (X : (hd.heap_39 w.params).In h₀) (N : News h₀ L s.heap news) (Tp : Top p loose mean mg mb h₀) (hk : cs.kind = .function)
  {one two : Str} {b : Int} {t1 t2 tb : Tok}
  (hdp : dp + 2 < recursionLimit) (h1 : one.length ≤ 20) (h2 : two.length ≤ 20) (hb : 0 ≤ b) (hb2 : b ≤ 1000)
  (ret : ∀ h' tk' t rows T news', Fr h₀ L h' m → News h₀ L h' news' → IsTab news' t rows T (one.length + 1) (two.length + 1) → Part (inBand b) (subC one two) (one.length + 1) (two.length + 1) (cell T) (one.length + 1) 1 →
    (∀ p ∈ news, p ∈ news') → (∀ p ∈ news, p.1 ≠ t ∧ p.1 ∉ rows) → Q (.ref t) { s with heap := h', toks := tk' }) :
  wpAny (model PySem.Challenge.rw_bz6036_01.row.prog w) (ktrTop dp un gd cn cs L a ccd cl outer) (call (.ref 54) [.str one t1, .str two t2, .int b tb]) Q E s := by
  refine wpAny_call ?_
  revert X; k_fill; intro X
  k_dflt (refine' code_def ?k1 ?k2 ?k3 ?k4 ?k5 ?kA ?kF ?kK ?k6 ?k7 ?k8 ?k9 ?kB ?_ ?c2 ?c3 ?c4 ?c5; (case kA => exact rfl); (case kF => exact rfl); (case kK => assumption); (case k1 => k_asm); (case k2 => k_asm); (case k3 => k_asm); (case k4 => k_asm); (case k5 => k_asm); (case k6 => k_is); (case k7 => k_is); (case k8 => ktr_room); (case k9 => first | exact BindsTo.of_eq rfl | exact binds_K (by k_in) rfl (by k_is) rfl rfl rfl | fail "k_enter: no rule for these arguments"); (case c5 => decide); (case kB => exact locs rfl); (case c2 => exact rfl); (case c3 => exact rfl); (case c4 => exact rfl); k_whole; intro g' L' h' FG' F' N' B' X' T'; (try dsimp only); (try k_fold))
  replace F' : Fr g' L' h' (fun y => List.lookup y [(Str.ofString "band", Value.int b tb), (Str.ofString "two", Value.str two t2), (Str.ofString "one", Value.str one t1)]) := F'
  k_steps
  refine Stop.mk ?_
  k_dflt refine init_call (H := one.length + 1) (W := two.length + 1) B' F' X' N' T' rfl ?_ rfl rfl (by omega) (by omega) (by omega) (by omega) ?_
  · ktr_room
  intro h2 tk2 t rows T0 nw0 F2 N2 hT0 hc0 hold0 hoff
  obtain ⟨nn, hnn⟩ := hT0.outer
  k_steps
  rename_i hy0 Fy Ny
  refine Stop.mk ?_
  refine listS (l := t) (vs := rows.map Value.ref) (nn := nn) (σ := List (List Int)) [Str.ofString "row", Str.ofString "i", Str.ofString "j"] (fun _ => [])
    (fun k T nw => IsTab nw t rows T (one.length + 1) (two.length + 1) ∧ (∀ i j, i < one.length + 1 → j < two.length + 1 → cell T i j = if i < k ∧ inBand b i j = false then 99 else cell0 i j) ∧ (∀ p ∈ news, p ∈ nw) ∧ (t, rowO (rows.map Value.ref) nn) ∈ nw) T0
    rfl (fun _ _ _ h => h.2.2.2) Fy Ny (by simp) ?_ ?_ ?_
  · refine ⟨hT0, fun i j hi hj => ?_, hold0, hnn⟩
    show cell T0 i j = if i < 0 ∧ inBand b i j = false then 99 else cell0 i j
    rw [hc0 i j hi hj]; exact (if_neg (fun h => Nat.not_lt_zero _ h.1)).symm
  · intro k v T1 u1 nw1 h3 tk4 I o hv ⟨hT1, hP1, hold1, hn1⟩ hI F4 N4
    change Fr g' L' h3 _ at F4
    change News g' L' h3 _ at N4
    have hap := hT1.apart hI
    obtain ⟨r, hr, rfl⟩ : ∃ r, rows[k]? = some r ∧ v = Value.ref r := by
      rw [List.getElem?_map] at hv
      cases e : rows[k]? with
      | none => rw [e] at hv; cases hv
      | some r => rw [e] at hv; exact ⟨r, rfl, (Option.some.inj hv).symm⟩
    have hkH : k < one.length + 1 := by rw [← hT1.len]; exact (List.getElem?_eq_some_iff.mp hr).1
    have hck : cell T1 k (Int.toNat 0) = k := by
      show cell T1 k 0 = k
      rw [hP1 k 0 hkH (by omega), if_neg (by omega)]
      unfold cell0; split <;> simp_all
    have hT1' := hT1.cons (p := (I, o))
    try k_fold
    k_steps
    rename_i r9 hz0 Fz Nz tok1 tkz hz1 tkz2 va vb vc hR5 F5 N5 hkk5
    clear hkk5 Fz Nz
    refine Stop.mk ?_
    refine rangeS (n := two.length + 1) (σ := List (List Int)) [Str.ofString "j"] (fun _ => [])
      (fun l T nw => IsTab nw t rows T (one.length + 1) (two.length + 1) ∧ (∀ i j, i < one.length + 1 → j < two.length + 1 → cell T i j = if (i < k ∨ (i = k ∧ j < l)) ∧ inBand b i j = false then 99 else cell0 i j) ∧ (∀ p ∈ (I, o) :: news, p ∈ nw) ∧ (t, rowO (rows.map Value.ref) nn) ∈ nw) T1
      rfl hR5 (small_one (by omega) (by omega) (by omega) (by omega)) (by rw [rangeSize_nat]; rfl) F5 N5 (by simp) ?_ ?_ ?_
    · refine ⟨hT1.cons, fun i j hi hj => ?_, fun p hp => ?_, List.mem_cons_of_mem _ hn1⟩
      · rw [hP1 i j hi hj]
        have e : (i < k ∨ (i = k ∧ j < 0)) ↔ i < k := by omega
        simp only [e]
      · rcases List.mem_cons.mp hp with e | hp
        · rw [e]; exact List.mem_cons_self
        · exact List.mem_cons_of_mem _ (hold1 p hp)
    · intro l tk5 T2 u2 nw2 h4 tk6 I2 o2 hl ⟨hT2, hP2, hold2, hn2⟩ hI2 F6 N6
      change Fr g' L' h4 _ at F6
      change News g' L' h4 _ at N6
      have hT2' := hT2.cons (p := (I2, o2))
      try k_fold
      k_steps
      · rename_i ux tkx hc nX hz9 F7 N7 I7 ha7 hk7
        have e0 : (0 + (l : Int)).toNat = l := by omega
        rw [e0] at I7
        obtain ⟨q1, q2, q3⟩ := I7.back hT2 hI2 hk7
        have hin : inBand b k l = false := by
          rw [hck] at hc
          unfold inBand
          apply decide_eq_false
          split at hc <;> omega
        refine turn_end _ (by k_asm) N7 q2 (by simp) (keep_ite (by decide) (keep_mapAt (by decide))) ⟨q1, fun i j hi hj => ?_, fun p hp => q3 p (hold2 p hp) ?_, q3 _ hn2 hT2.off⟩
        · rw [cell_setT hT2 hkH hl, hP2 i j hi hj]
          by_cases h : i = k ∧ j = l
          · rw [if_pos h, if_pos ⟨by omega, by rw [h.1, h.2]; exact hin⟩]
          · rw [if_neg h]
            have e : (i < k ∨ (i = k ∧ j < l)) ↔ (i < k ∨ (i = k ∧ j < l + 1)) := by omega
            simp only [e]
        · rcases List.mem_cons.mp hp with e | hp
          · rw [e]; exact hap.2
          · exact (hoff p hp).2
      · rename_i ux tkx hc
        have hin : inBand b k l = true := by
          rw [hck] at hc
          unfold inBand
          apply decide_eq_true
          split at hc <;> omega
        refine turn_end T2 (by k_asm) (by k_asm) (List.mem_cons_self) (by simp) (keep_ite (by decide) (keep_mapAt (by decide))) ⟨(hT2'.offL (hT2.apart hI2).1 (hT2.apart hI2).2), fun i j hi hj => ?_, fun p hp => ?_, ?_⟩
        · rw [hP2 i j hi hj]
          by_cases h : i = k ∧ j = l
          · rw [h.1, h.2, hin]; simp
          · have e : (i < k ∨ (i = k ∧ j < l)) ↔ (i < k ∨ (i = k ∧ j < l + 1)) := by omega
            simp only [e]
        · exact mem_offL.mpr ⟨List.mem_cons_of_mem _ (hold2 p hp), hI2 _ (hold2 p hp)⟩
        · exact mem_offL.mpr ⟨List.mem_cons_of_mem _ hn2, hI2 _ hn2⟩
    · intro T2 u2 nw2 h4 tk6 ⟨hT2, hP2, hold2, hn2⟩ F6 N6
      change Fr g' L' h4 _ at F6
      change News g' L' h4 _ at N6
      k_steps
      refine turn_end T2 (by k_asm) (by k_asm) (hold2 _ List.mem_cons_self) (by simp) (keep_map2 (by decide) (by decide) (keep_ite (by decide) (keep_ite (by decide) (keep_mapAt (by decide))))) ⟨hT2.offL hap.1 hap.2, fun i j hi hj => ?_, fun p hp => mem_offL.mpr ⟨hold2 p (List.mem_cons_of_mem _ hp), hI p (hold1 p hp)⟩, mem_offL.mpr ⟨hn2, hap.1⟩⟩
      rw [hP2 i j hi hj]
      have e : (i < k ∨ (i = k ∧ j < two.length + 1)) ↔ i < k + 1 := by omega
      simp only [e]
  · intro T1 u1 nw1 h3 tk4 ⟨hT1, hP1, hold1, hn1⟩ F4 N4
    change Fr g' L' h3 _ at F4
    change News g' L' h3 _ at N4
    have hlen : (rows.map Value.ref).length = one.length + 1 := by rw [List.length_map]; exact hT0.len
    rw [hlen] at hP1
    k_steps
    rename_i hy1 tky ua ub uc hR3 F3 N3 hkk3
    clear hkk3
    refine Stop.mk ?_
    refine rangeS (n := one.length) (σ := List (List Int)) [Str.ofString "i", Str.ofString "j"] (fun _ => [])
      (fun k T nw => IsTab nw t rows T (one.length + 1) (two.length + 1) ∧ Part (inBand b) (subC one two) (one.length + 1) (two.length + 1) (cell T) (k + 1) 1 ∧ (∀ p ∈ news, p ∈ nw)) T1
      rfl hR3 (small_one (by omega) (by omega) (by omega) (by omega)) (by rw [rangeSize_nat]; omega) F3 N3 (by simp) ?_ ?_ ?_
    · refine ⟨hT1, ⟨fun i j hi hj hb => ?_, fun j hj hb => ?_, fun i hi hb => ?_, (fun i j hi _ _ _ _ h => by omega)⟩, hold1⟩
      · rw [hP1 i j hi hj, if_pos ⟨hi, hb⟩]
      · rw [hP1 0 j (by omega) hj, if_neg (fun h => by rw [hb] at h; cases h.2)]; rfl
      · rw [hP1 i 0 hi (by omega), if_neg (fun h => by rw [hb] at h; cases h.2)]
        unfold cell0; split <;> simp_all
    · intro k tk3 T1 u1 nw1 h3 tk4 I o hk ⟨hT1, hP1, hold1⟩ hI F4 N4
      change Fr g' L' h3 _ at F4
      change News g' L' h3 _ at N4
      have hap := hT1.apart hI
      try k_fold
      k_steps
      rename_i hz1 tkz va vb vc hR5 F5 N5 hkk5
      clear hkk5
      refine Stop.mk ?_
      refine rangeS (n := two.length) (σ := List (List Int)) [Str.ofString "j"] (fun _ => [])
        (fun l T nw => IsTab nw t rows T (one.length + 1) (two.length + 1) ∧ Part (inBand b) (subC one two) (one.length + 1) (two.length + 1) (cell T) (k + 1) (l + 1) ∧ (∀ p ∈ (I, o) :: news, p ∈ nw)) T1
        rfl hR5 (small_one (by omega) (by omega) (by omega) (by omega)) (by rw [rangeSize_nat]; omega) F5 N5 (by simp) ?_ ?_ ?_
      · refine ⟨hT1.cons, hP1, fun p hp => ?_⟩
        rcases List.mem_cons.mp hp with e | hp
        · rw [e]; exact List.mem_cons_self
        · exact List.mem_cons_of_mem _ (hold1 p hp)
      · intro l tk5 T2 u2 nw2 h4 tk6 I2 o2 hl ⟨hT2, hP2, hold2⟩ hI2 F6 N6
        change Fr g' L' h4 _ at F6
        change News g' L' h4 _ at N6
        try k_fold
        k_steps
        · refine Stop.mk ?_
          rename_i tkc hc
          k_dflt refine step_call (H := one.length + 1) (W := two.length + 1) B' (by k_asm) X' (by k_asm) T' rfl ?_ hT2.cons (by omega) (by omega) (by omega) (by omega) (by omega) (by omega) ?_
          · ktr_room
          intro h5 tk7 nw5 F7 N7 hT5 hk5
          k_steps
          have e1 : (1 + (k : Int)).toNat = k + 1 := by omega
          have e2 : (1 + (l : Int)).toNat = l + 1 := by omega
          rw [e1, e2] at hT5
          have hin : inBand b (k + 1) (l + 1) = true := by
            unfold inBand
            apply decide_eq_true
            split at hc <;> omega
          obtain ⟨q1, q2, q3⟩ := hT5.back hT2 hI2 hk5
          refine turn_end _ (by k_asm) N7 q2 (by simp) (keep_ite (by decide) (keep_mapAt (by decide))) ⟨q1, ?_, fun p hp => q3 p (hold2 p hp) ?_⟩
          · rw [cell_setF hT2 (by omega) (by omega)]
            exact hP2.store (by omega) (by omega) hin
          · rcases List.mem_cons.mp hp with e | hp
            · rw [e]; exact hap.2
            · exact (hoff p hp).2
        · rename_i tkc hc
          have hin : inBand b (k + 1) (l + 1) = false := by
            unfold inBand
            apply decide_eq_false
            split at hc <;> omega
          refine turn_end T2 (by k_asm) (by k_asm) (List.mem_cons_self) (by simp) (keep_ite (by decide) (keep_mapAt (by decide))) ⟨(hT2.cons.offL (hT2.apart hI2).1 (hT2.apart hI2).2), hP2.skip hin, fun p hp => mem_offL.mpr ⟨List.mem_cons_of_mem _ (hold2 p hp), hI2 _ (hold2 p hp)⟩⟩
      · intro T2 u2 nw2 h4 tk6 ⟨hT2, hP2, hold2⟩ F6 N6
        change Fr g' L' h4 _ at F6
        change News g' L' h4 _ at N6
        k_steps
        refine turn_end T2 (by k_asm) (by k_asm) (hold2 _ List.mem_cons_self) (by simp) (keep_map2 (by decide) (by decide) (keep_ite (by decide) (keep_mapAt (by decide)))) ⟨hT2.offL hap.1 hap.2, hP2.row, fun p hp => mem_offL.mpr ⟨hold2 p (List.mem_cons_of_mem _ hp), hI p (hold1 p hp)⟩⟩
    · intro T1 u1 nw1 h3 tk4 ⟨hT1, hP1, hold1⟩ F4 N4
      change Fr g' L' h3 _ at F4
      change News g' L' h3 _ at N4
      k_steps
      exact ret _ _ _ _ _ _ (by assumption) (by assumption) hT1 hP1 hold1 hoff
end Mine
end
section
open PySem PySem.W PyProof.Rows
set_option maxRecDepth 100000
set_option maxHeartbeats 8000000
namespace Mine
local macro_rules | `(tactic| walk_at "subscriptTail") => `(tactic| (k_here; (with_reducible show wpAny _ _ (subscriptTail _ _ (Value.str _ _) (Value.int _ _)) _ _ _); refine' item_str (fitsSsize_of (N := 9223372036854775808) ?k1 ?k2 (Int.le_refl _)) ?k3 ?k4 ?_ ?k5 ?k6; (case k5 => with_unfolding_all rfl); (case k6 => intro _; with_unfolding_all rfl); (case k1 => omega); (case k2 => omega); (case k3 => omega); (case k4 => omega); intro _))
local macro_rules | `(tactic| walk_at "subscriptTail") => `(tactic| (k_here; (with_reducible show wpAny _ _ (subscriptTail _ _ (Value.ref _) (Value.int _ _)) _ _ _); k_dflt (refine' tab_row ?k1 ?k2 ?k3 ?k4 ?_ ?k5; (case k1 => k_asm); (case k2 => with_reducible assumption); (case k3 => omega); (case k4 => omega); (case k5 => with_unfolding_all rfl); intro r9 hr9)))
local macro_rules | `(tactic| walk_at "subscriptTail") => `(tactic| (k_here; (with_reducible show wpAny _ _ (subscriptTail _ _ (Value.ref _) (Value.int _ _)) _ _ _); k_dflt (refine' tab_cell ?k1 ?k2 ?k0 ?k3 ?k4 ?_ ?k5; (case k1 => k_asm); (case k0 => with_reducible assumption); (case k2 => with_reducible assumption); (case k3 => omega); (case k4 => omega); (case k5 => with_unfolding_all rfl); intro r9)))
local macro_rules | `(tactic| walk_at "call builtin:min") => `(tactic| (k_here; (with_reducible show wpAny _ _ (call (Value.builtin "min") [Value.int _ _, Value.int _ _, Value.int _ _, Value.int _ _]) _ _ _); k_dflt (refine' min_four ?k1 ?k2 ?k3 ?_; (case k1 => exact rfl); (case k2 => k_asm); (case k3 => k_asm); intro h' tk' t' F' N'; try k_sweep)))
local macro_rules | `(tactic| walk_at "setItem ref int") => `(tactic| (k_here; k_dflt (refine' tab_set ?k1 ?k2 ?k3 ?k4 ?k5 ?k6 ?_; (case k1 => k_asm); (case k2 => k_asm); (case k3 => with_reducible assumption); (case k4 => with_reducible assumption); (case k5 => omega); (case k6 => omega); intro h' news' F' N' I' ha' hk'; try k_sweep)))
local macro_rules | `(tactic| walk_at "exec For Name Call cons nil") => `(tactic| (k_here; (rename Fr _ _ _ _ => lF'); (with_unfolding_all refine' For_invVF lF' ?k1 ?k2 ?_; (case k1 => exact rfl); (case k2 => exact rfl); k_whole)))
local macro_rules | `(tactic| walk_at "exec For Name Name cons nil") => `(tactic| (k_here; (rename Fr _ _ _ _ => lF'); (with_unfolding_all refine' For_invVF lF' ?k1 ?k2 ?_; (case k1 => exact rfl); (case k2 => exact rfl); k_whole)))
local macro_rules | `(tactic| walk_at "pyIter ref") => `(tactic| ((with_reducible show wpAny _ _ (pyIter (Value.ref _)) (fun it s₂ => LoopAtV _ _ _ _ _ _ _ _ _ it s₂) _ _); refine Stop.out ?_))
local macro_rules | `(tactic| walk_at "pyIter ref") => `(tactic| ((with_reducible show wpAny _ _ (pyIter (Value.ref _)) (fun it s₂ => TurnsAt _ _ _ _ _ _ _ _ _ it s₂) _ _); refine Stop.out ?_))
local macro_rules | `(tactic| k_asm) => `(tactic| with_reducible assumption)
local macro_rules | `(tactic| k_mem) => `(tactic| ((show @Membership.mem (Addr × Obj) (List (Addr × Obj)) _ _ _); with_reducible assumption))
local macro_rules | `(tactic| walk_at "call builtin:list.append") => `(tactic| (k_here; (with_reducible show wpAny _ _ (call (Value.builtin "list.append") [Value.ref _, _]) _ _ _); k_dflt (refine' app_L ?k1 ?k2 ?k3 ?k4 ?_; (case k1 => k_asm); (case k2 => k_asm); (case k3 => k_mem); (case k4 => ((try simp only [List.length_map, List.length_append, List.length_cons, List.length_nil]); omega)); intro h' F' N'; try k_sweep)))
local macro_rules | `(tactic| walk_at "binaryOp Mult ref int") => `(tactic| (k_here; (with_reducible show wpAny _ _ (binaryOp Operator.Mult (Value.ref _) (Value.int (Nat.cast _) _)) _ _ _); k_dflt (refine' rep_L ?k1 ?k2 ?k3 ?k4 ?_; (case k1 => k_asm); (case k2 => k_asm); (case k3 => k_mem); (case k4 => omega); intro a' h' F' N' l1; try k_sweep)))
local macro_rules | `(tactic| walk_at "call ref") => `(tactic| (k_here; (with_reducible show wpAny _ _ (call (Value.ref _) _) _ _ _); refine Stop.out ?_))
local macro_rules | `(tactic| walk_at "call builtin:len") => `(tactic| (k_here; (with_reducible show wpAny _ _ (call (Value.builtin "len") [Value.ref _]) _ _ _); k_dflt (refine' tab_len ?k1 ?k2 ?k3 ?_; (case k1 => k_asm); (case k2 => with_reducible assumption); (case k3 => with_reducible assumption); intro tok' tk')))
local macro_rules | `(tactic| walk_at "call builtin:len") => `(tactic| (k_here; (with_reducible show wpAny _ _ (call (Value.builtin "len") [Value.ref _]) _ _ _); k_dflt (refine' tab_lenT ?k1 ?k2 ?_; (case k1 => k_asm); (case k2 => with_reducible assumption); intro tok' tk')))
local macro_rules | `(tactic| units_room) => `(tactic| ((try simp only [units_in1, units_deeper, Around.mark_units]); (try dsimp only [ktrTop]); omega))
local macro_rules | `(tactic| walk_at "none") => `(tactic| fail)
local macro_rules | `(tactic| walk_at "none") => `(tactic| fail)
local macro_rules | `(tactic| walk_at "none") => `(tactic| fail)
local macro_rules | `(tactic| walk_at "none") => `(tactic| fail)
theorem off_FSmooth : True := by
  w_top off
  exact True.intro
theorem smooth_call
  {w : World} {p : Program} {loose : List Str} {mean : ExcName → Option Value} {mg mb : Str → Option Value}
  {dp un : Nat} {gd : Option (List Code)} {cn : Str} {cs : Scope} {a : Addr} {ccd : Value} {cl : List (Str × Addr)} {outer : List Env} {A₀ : Around} {base h₀ : Heap} {L : Addr} {m : Str → Option Value} {s : Shared} {Q E : Value → Shared → Prop}
  {news : List (Addr × Obj)}
  (B : Below A₀ base outer h₀) (F : Fr h₀ L s.heap m) (X : (hd.heap_39 w.params).In h₀) (N : News h₀ L s.heap news) (Tp : Top p loose mean mg mb h₀) (hk : cs.kind = .function)
  {t : Addr} {rows : List Addr} {T : List (List Int)} {H W : Nat}
  (hdp : dp + 2 < recursionLimit) (hT : IsTab news t rows T H W) (hH : 1 ≤ H) (hW : 1 ≤ W)
  (s1 : ∀ i j, i + 1 < H → j < W → -1 ≤ cell T (i + 1) j - cell T i j ∧ cell T (i + 1) j - cell T i j ≤ 1)
  (s2 : ∀ i j, i < H → j + 1 < W → -1 ≤ cell T i (j + 1) - cell T i j ∧ cell T i (j + 1) - cell T i j ≤ 1)
  (s3 : ∀ i j, i + 1 < H → j + 1 < W → 0 ≤ cell T (i + 1) (j + 1) - cell T i j ∧ cell T (i + 1) (j + 1) - cell T i j ≤ 1)
  (ret : ∀ h' tk', Fr h₀ L h' m → News h₀ L h' news → Q (.bool true) { s with heap := h', toks := tk' }) :
  wpAny (model PySem.Challenge.rw_bz6036_01.row.prog w) (ktrTop dp un gd cn cs L a ccd cl outer) (call (.ref 61) [.ref t]) Q E s := by
  refine wpAny_call ?_
  revert X; k_fill; intro X
  k_dflt (refine' code_def ?k1 ?k2 ?k3 ?k4 ?k5 ?kA ?kF ?kK ?k6 ?k7 ?k8 ?k9 ?kB ?_ ?c2 ?c3 ?c4 ?c5; (case kA => exact rfl); (case kF => exact rfl); (case kK => assumption); (case k1 => k_asm); (case k2 => k_asm); (case k3 => k_asm); (case k4 => k_asm); (case k5 => k_asm); (case k6 => k_is); (case k7 => k_is); (case k8 => ktr_room); (case k9 => first | exact BindsTo.of_eq rfl | exact binds_K (by k_in) rfl (by k_is) rfl rfl rfl | fail "k_enter: no rule for these arguments"); (case c5 => decide); (case kB => exact locs rfl); (case c2 => exact rfl); (case c3 => exact rfl); (case c4 => exact rfl); k_whole; intro g' L' h' FG' F' N' B' X' T'; (try dsimp only); (try k_fold))
  replace F' : Fr g' L' h' (fun y => List.lookup y [(Str.ofString "table", Value.ref t)]) := F'
  have hsm := hT.small
  k_steps
  rename_i hy1 tky ua ub uc hR3 F3 N3 hkk3
  clear hkk3
  refine Stop.mk ?_
  refine rangeS (n := H) (σ := Unit) [Str.ofString "i", Str.ofString "j"] (fun _ => [])
    (fun k _ nw => ∀ p ∈ news, p ∈ nw) ()
    rfl hR3 (small_one (by omega) (by omega) (by omega) (by omega)) (by rw [rangeSize_nat]; rfl) F3 N3 (by simp) (fun _ hp => hp) ?_ ?_
  · intro k tk3 c1 u1 nw1 h3 tk4 I o hk hold1 hI F4 N4
    change Fr g' L' h3 _ at F4
    change News g' L' h3 _ at N4
    have hT1 : IsTab ((I, o) :: nw1) t rows T H W := hT.sub fun p hp _ => List.mem_cons_of_mem _ (hold1 p hp)
    try k_fold
    k_steps
    rename_i r9 hr9 tok1 tkz0 hz1 tkz va vb vc hR5 F5 N5 hkk5
    clear hkk5 hr9
    refine Stop.mk ?_
    refine rangeS (n := W) (σ := Unit) [Str.ofString "j"] (fun _ => [])
      (fun l _ nw => ∀ p ∈ (I, o) :: nw1, p ∈ nw) ()
      rfl hR5 (small_one (by omega) (by omega) (by omega) (by omega)) (by rw [rangeSize_nat]; rfl) F5 N5 (by simp) (fun _ hp => hp) ?_ ?_
    · intro l tk5 c2 u2 nw2 h4 tk6 I2 o2 hl hold2 hI2 F6 N6
      change Fr g' L' h4 _ at F6
      change News g' L' h4 _ at N6
      have hT2 : IsTab ((I2, o2) :: nw2) t rows T H W := hT1.sub fun p hp _ => List.mem_cons_of_mem _ (hold2 p hp)
      have e1 : (0 + (k : Int)).toNat = k := by omega
      have e2 : (0 + (l : Int)).toNat = l := by omega
      rcases Nat.eq_zero_or_pos k with hk0 | hk0 <;> rcases Nat.eq_zero_or_pos l with hl0 | hl0
      · try k_fold
        k_steps
        all_goals first
          | exact turn_end () (by k_asm) (by k_asm) (by simp) (by simp) (keep_ite (by decide) (keep_mapAt (by decide))) fun p hp => mem_offL.mpr ⟨by simp [hold2 p hp], hI2 _ (hold2 p hp)⟩
          | (exfalso
             rename List.any _ _ = false => hx
             simp only [List.any_cons, List.any_nil, Bool.or_false, Bool.or_eq_false_iff, beq_eq_false_iff_ne, ne_eq] at hx
             omega)
      · have e4 : (0 + (l : Int) - 1).toNat = l - 1 := by omega
        have f2 : -1 ≤ cell T (0 + (k : Int)).toNat (0 + (l : Int)).toNat - cell T (0 + (k : Int)).toNat (0 + (l : Int) - 1).toNat ∧ cell T (0 + (k : Int)).toNat (0 + (l : Int)).toNat - cell T (0 + (k : Int)).toNat (0 + (l : Int) - 1).toNat ≤ 1 := by
          rw [e1, e2, e4]
          have := s2 k (l - 1) hk (by omega)
          rwa [show l - 1 + 1 = l from by omega] at this
        try k_fold
        k_steps
        all_goals first
          | exact turn_end () (by k_asm) (by k_asm) (by simp) (by simp) (keep_ite (by decide) (keep_mapAt (by decide))) fun p hp => mem_offL.mpr ⟨by simp [hold2 p hp], hI2 _ (hold2 p hp)⟩
          | (exfalso
             rename List.any _ _ = false => hx
             simp only [List.any_cons, List.any_nil, Bool.or_false, Bool.or_eq_false_iff, beq_eq_false_iff_ne, ne_eq] at hx
             omega)
      · have e3 : (0 + (k : Int) - 1).toNat = k - 1 := by omega
        have f1 : -1 ≤ cell T (0 + (k : Int)).toNat (0 + (l : Int)).toNat - cell T (0 + (k : Int) - 1).toNat (0 + (l : Int)).toNat ∧ cell T (0 + (k : Int)).toNat (0 + (l : Int)).toNat - cell T (0 + (k : Int) - 1).toNat (0 + (l : Int)).toNat ≤ 1 := by
          rw [e1, e2, e3]
          have := s1 (k - 1) l (by omega) hl
          rwa [show k - 1 + 1 = k from by omega] at this
        try k_fold
        k_steps
        all_goals first
          | exact turn_end () (by k_asm) (by k_asm) (by simp) (by simp) (keep_ite (by decide) (keep_mapAt (by decide))) fun p hp => mem_offL.mpr ⟨by simp [hold2 p hp], hI2 _ (hold2 p hp)⟩
          | (exfalso
             rename List.any _ _ = false => hx
             simp only [List.any_cons, List.any_nil, Bool.or_false, Bool.or_eq_false_iff, beq_eq_false_iff_ne, ne_eq] at hx
             omega)
      · have e3 : (0 + (k : Int) - 1).toNat = k - 1 := by omega
        have e4 : (0 + (l : Int) - 1).toNat = l - 1 := by omega
        have f1 : -1 ≤ cell T (0 + (k : Int)).toNat (0 + (l : Int)).toNat - cell T (0 + (k : Int) - 1).toNat (0 + (l : Int)).toNat ∧ cell T (0 + (k : Int)).toNat (0 + (l : Int)).toNat - cell T (0 + (k : Int) - 1).toNat (0 + (l : Int)).toNat ≤ 1 := by
          rw [e1, e2, e3]
          have := s1 (k - 1) l (by omega) hl
          rwa [show k - 1 + 1 = k from by omega] at this
        have f2 : -1 ≤ cell T (0 + (k : Int)).toNat (0 + (l : Int)).toNat - cell T (0 + (k : Int)).toNat (0 + (l : Int) - 1).toNat ∧ cell T (0 + (k : Int)).toNat (0 + (l : Int)).toNat - cell T (0 + (k : Int)).toNat (0 + (l : Int) - 1).toNat ≤ 1 := by
          rw [e1, e2, e4]
          have := s2 k (l - 1) hk (by omega)
          rwa [show l - 1 + 1 = l from by omega] at this
        have f3 : 0 ≤ cell T (0 + (k : Int)).toNat (0 + (l : Int)).toNat - cell T (0 + (k : Int) - 1).toNat (0 + (l : Int) - 1).toNat ∧ cell T (0 + (k : Int)).toNat (0 + (l : Int)).toNat - cell T (0 + (k : Int) - 1).toNat (0 + (l : Int) - 1).toNat ≤ 1 := by
          rw [e1, e2, e3, e4]
          have := s3 (k - 1) (l - 1) (by omega) (by omega)
          rwa [show k - 1 + 1 = k from by omega, show l - 1 + 1 = l from by omega] at this
        try k_fold
        k_steps
        all_goals first
          | exact turn_end () (by k_asm) (by k_asm) (by simp) (by simp) (keep_ite (by decide) (keep_mapAt (by decide))) fun p hp => mem_offL.mpr ⟨by simp [hold2 p hp], hI2 _ (hold2 p hp)⟩
          | (exfalso
             rename List.any _ _ = false => hx
             simp only [List.any_cons, List.any_nil, Bool.or_false, Bool.or_eq_false_iff, beq_eq_false_iff_ne, ne_eq] at hx
             omega)
    · intro c2 u2 nw2 h4 tk6 hold2 F6 N6
      change Fr g' L' h4 _ at F6
      change News g' L' h4 _ at N6
      k_steps
      exact turn_end () (by k_asm) (by k_asm) (hold2 _ List.mem_cons_self) (by simp) (keep_map2 (by decide) (by decide) (keep_ite (by decide) (keep_mapAt (by decide)))) fun p hp => mem_offL.mpr ⟨hold2 p (List.mem_cons_of_mem _ (hold1 p hp)), hI p (hold1 p hp)⟩
  · intro c1 u1 nw1 h3 tk4 hold1 F4 N4
    change Fr g' L' h3 _ at F4
    change News g' L' h3 _ at N4
    k_steps
    rename_i kF kN _ _
    exact ret _ _ kF fun p hp => kN p (hold1 p hp)
end Mine
end
section
open PySem PySem.W PyProof.Rows
set_option maxRecDepth 100000
set_option maxHeartbeats 8000000
namespace Mine
local macro_rules | `(tactic| walk_at "subscriptTail") => `(tactic| (k_here; (with_reducible show wpAny _ _ (subscriptTail _ _ (Value.str _ _) (Value.int _ _)) _ _ _); refine' item_str (fitsSsize_of (N := 9223372036854775808) ?k1 ?k2 (Int.le_refl _)) ?k3 ?k4 ?_ ?k5 ?k6; (case k5 => with_unfolding_all rfl); (case k6 => intro _; with_unfolding_all rfl); (case k1 => omega); (case k2 => omega); (case k3 => omega); (case k4 => omega); intro _))
local macro_rules | `(tactic| walk_at "subscriptTail") => `(tactic| (k_here; (with_reducible show wpAny _ _ (subscriptTail _ _ (Value.ref _) (Value.int _ _)) _ _ _); k_dflt (refine' tab_row ?k1 ?k2 ?k3 ?k4 ?_ ?k5; (case k1 => k_asm); (case k2 => with_reducible assumption); (case k3 => omega); (case k4 => omega); (case k5 => with_unfolding_all rfl); intro r9 hr9)))
local macro_rules | `(tactic| walk_at "subscriptTail") => `(tactic| (k_here; (with_reducible show wpAny _ _ (subscriptTail _ _ (Value.ref _) (Value.int _ _)) _ _ _); k_dflt (refine' tab_cell ?k1 ?k2 ?k0 ?k3 ?k4 ?_ ?k5; (case k1 => k_asm); (case k0 => with_reducible assumption); (case k2 => with_reducible assumption); (case k3 => omega); (case k4 => omega); (case k5 => with_unfolding_all rfl); intro r9)))
local macro_rules | `(tactic| walk_at "call builtin:min") => `(tactic| (k_here; (with_reducible show wpAny _ _ (call (Value.builtin "min") [Value.int _ _, Value.int _ _, Value.int _ _, Value.int _ _]) _ _ _); k_dflt (refine' min_four ?k1 ?k2 ?k3 ?_; (case k1 => exact rfl); (case k2 => k_asm); (case k3 => k_asm); intro h' tk' t' F' N'; try k_sweep)))
local macro_rules | `(tactic| walk_at "setItem ref int") => `(tactic| (k_here; k_dflt (refine' tab_set ?k1 ?k2 ?k3 ?k4 ?k5 ?k6 ?_; (case k1 => k_asm); (case k2 => k_asm); (case k3 => with_reducible assumption); (case k4 => with_reducible assumption); (case k5 => omega); (case k6 => omega); intro h' news' F' N' I' ha' hk'; try k_sweep)))
local macro_rules | `(tactic| walk_at "exec For Name Call cons nil") => `(tactic| (k_here; (rename Fr _ _ _ _ => lF'); (with_unfolding_all refine' For_invVF lF' ?k1 ?k2 ?_; (case k1 => exact rfl); (case k2 => exact rfl); k_whole)))
local macro_rules | `(tactic| walk_at "exec For Name Name cons nil") => `(tactic| (k_here; (rename Fr _ _ _ _ => lF'); (with_unfolding_all refine' For_invVF lF' ?k1 ?k2 ?_; (case k1 => exact rfl); (case k2 => exact rfl); k_whole)))
local macro_rules | `(tactic| walk_at "pyIter ref") => `(tactic| ((with_reducible show wpAny _ _ (pyIter (Value.ref _)) (fun it s₂ => LoopAtV _ _ _ _ _ _ _ _ _ it s₂) _ _); refine Stop.out ?_))
local macro_rules | `(tactic| walk_at "pyIter ref") => `(tactic| ((with_reducible show wpAny _ _ (pyIter (Value.ref _)) (fun it s₂ => TurnsAt _ _ _ _ _ _ _ _ _ it s₂) _ _); refine Stop.out ?_))
local macro_rules | `(tactic| k_asm) => `(tactic| with_reducible assumption)
local macro_rules | `(tactic| k_mem) => `(tactic| ((show @Membership.mem (Addr × Obj) (List (Addr × Obj)) _ _ _); with_reducible assumption))
local macro_rules | `(tactic| walk_at "call builtin:list.append") => `(tactic| (k_here; (with_reducible show wpAny _ _ (call (Value.builtin "list.append") [Value.ref _, _]) _ _ _); k_dflt (refine' app_L ?k1 ?k2 ?k3 ?k4 ?_; (case k1 => k_asm); (case k2 => k_asm); (case k3 => k_mem); (case k4 => ((try simp only [List.length_map, List.length_append, List.length_cons, List.length_nil]); omega)); intro h' F' N'; try k_sweep)))
local macro_rules | `(tactic| walk_at "binaryOp Mult ref int") => `(tactic| (k_here; (with_reducible show wpAny _ _ (binaryOp Operator.Mult (Value.ref _) (Value.int (Nat.cast _) _)) _ _ _); k_dflt (refine' rep_L ?k1 ?k2 ?k3 ?k4 ?_; (case k1 => k_asm); (case k2 => k_asm); (case k3 => k_mem); (case k4 => omega); intro a' h' F' N' l1; try k_sweep)))
local macro_rules | `(tactic| walk_at "call ref") => `(tactic| (k_here; (with_reducible show wpAny _ _ (call (Value.ref _) _) _ _ _); refine Stop.out ?_))
local macro_rules | `(tactic| walk_at "call builtin:len") => `(tactic| (k_here; (with_reducible show wpAny _ _ (call (Value.builtin "len") [Value.ref _]) _ _ _); k_dflt (refine' tab_len ?k1 ?k2 ?k3 ?_; (case k1 => k_asm); (case k2 => with_reducible assumption); (case k3 => with_reducible assumption); intro tok' tk')))
local macro_rules | `(tactic| walk_at "call builtin:len") => `(tactic| (k_here; (with_reducible show wpAny _ _ (call (Value.builtin "len") [Value.ref _]) _ _ _); k_dflt (refine' tab_lenT ?k1 ?k2 ?_; (case k1 => k_asm); (case k2 => with_reducible assumption); intro tok' tk')))
local macro_rules | `(tactic| units_room) => `(tactic| ((try simp only [units_in1, units_deeper, Around.mark_units]); (try dsimp only [ktrTop]); omega))
local macro_rules | `(tactic| k_room) => `(tactic| ktr_room)
abbrev keyParams : Arguments := { posonlyargs := [], args := [{ arg := "one", annotation := none, pos := ⟨36, 47, 36, 50⟩ : PySem.Arg }], vararg := none, kwonlyargs := [], kw_defaults := [], kwarg := none, defaults := [] : PySem.Arguments }
abbrev keyBody : PySem.Expr := PySem.Expr.Subscript (PySem.Expr.Name "one" ⟨36, 52, 36, 55⟩) (PySem.Expr.Constant (PySem.Const.int 0) 0 ⟨36, 56, 36, 57⟩) ⟨36, 52, 36, 58⟩
abbrev keyScope : Scope := { kind := PySem.ScopeKind.function, names := [(PySem.Str.ofString "one", PySem.NameKind.local)], isGenerator := false, isCoroutine := false, more := [] : PySem.Scope }
local macro_rules | `(tactic| walk_at "none") => `(tactic| fail)
local macro_rules | `(tactic| walk_at "none") => `(tactic| fail)
local macro_rules | `(tactic| walk_at "none") => `(tactic| fail)
local macro_rules | `(tactic| walk_at "none") => `(tactic| fail)
local macro_rules | `(tactic| walk_at "none") => `(tactic| fail)
theorem off_FKey : True := by
  w_top off
  exact True.intro
theorem key_call
  {w : World} {p : Program} {loose : List Str} {mean : ExcName → Option Value} {mg mb : Str → Option Value}
  {dp un : Nat} {gd : Option (List Code)} {cn : Str} {cs : Scope} {a : Addr} {ccd : Value} {cl : List (Str × Addr)} {outer : List Env} {A₀ : Around} {base h₀ : Heap} {L : Addr} {m : Str → Option Value} {s : Shared} {Q E : Value → Shared → Prop}
  {news : List (Addr × Obj)}
  (B : Below A₀ base outer h₀) (F : Fr h₀ L s.heap m) (X : (hd.heap_39 w.params).In h₀) (N : News h₀ L s.heap news) (Tp : Top p loose mean mg mb h₀) (hk : cs.kind = .function)
  {f c' ct : Addr} {oc : Obj} {vs : Array Value} {tq : Tok} {qual : Str} {pm ctv v2 : Value} {k : Int} {tok : Tok}
  (hdp : dp + 2 < recursionLimit) (hlf : (f, kla_obj "<lambda>" qual keyParams keyBody keyScope [] pm c' ctv) ∈ news) (hoc : (c', oc) ∈ news) (hd : oc.data = .fields vs) (hv : vs[1]? = some (.str qual tq))
  (hct : (ct, tupO [.int k tok, v2]) ∈ news) :
  wpAny (model PySem.Challenge.rw_bz6036_01.row.prog w) (ktrTop dp un gd cn cs L a ccd cl outer).in1 (call (.ref f) [.ref ct]) (KskEnd h₀ L m news k s) (fun _ _ => False) s := by
  refine wpAny_call ?_
  revert X; k_fill; intro X
  k_dflt (refine' kla_code ?k1 ?k2 ?k3 ?k4 ?k5 ?kA ?kF ?kK ?k6 ?k7 ?k8 ?k9 ?kB ?_ ?c2 ?c3 ?c4 ?c5; (case kA => exact rfl); (case kF => exact rfl); (case kK => assumption); (case k1 => k_asm); (case k2 => k_asm); (case k3 => k_asm); (case k4 => k_asm); (case k5 => k_asm); (case k6 => exact hlf); (case k7 => exact codeRec_news (by k_asm) hoc hd hv); (case k8 => k_room); (case k9 => exact rfl); (case c5 => decide); (case kB => exact locs rfl); (case c2 => exact rfl); (case c3 => exact rfl); (case c4 => exact rfl); k_whole; intro g' L' h' FG' F' N' B' X' T'; (try dsimp only); (try k_fold))
  k_steps
end Mine
end
section
open PySem PySem.W PyProof.Rows
set_option maxRecDepth 100000
set_option maxHeartbeats 8000000
namespace Mine
local macro_rules | `(tactic| walk_at "subscriptTail") => `(tactic| (k_here; (with_reducible show wpAny _ _ (subscriptTail _ _ (Value.str _ _) (Value.int _ _)) _ _ _); refine' item_str (fitsSsize_of (N := 9223372036854775808) ?k1 ?k2 (Int.le_refl _)) ?k3 ?k4 ?_ ?k5 ?k6; (case k5 => with_unfolding_all rfl); (case k6 => intro _; with_unfolding_all rfl); (case k1 => omega); (case k2 => omega); (case k3 => omega); (case k4 => omega); intro _))
local macro_rules | `(tactic| walk_at "subscriptTail") => `(tactic| (k_here; (with_reducible show wpAny _ _ (subscriptTail _ _ (Value.ref _) (Value.int _ _)) _ _ _); k_dflt (refine' tab_row ?k1 ?k2 ?k3 ?k4 ?_ ?k5; (case k1 => k_asm); (case k2 => with_reducible assumption); (case k3 => omega); (case k4 => omega); (case k5 => with_unfolding_all rfl); intro r9 hr9)))
local macro_rules | `(tactic| walk_at "subscriptTail") => `(tactic| (k_here; (with_reducible show wpAny _ _ (subscriptTail _ _ (Value.ref _) (Value.int _ _)) _ _ _); k_dflt (refine' tab_cell ?k1 ?k2 ?k0 ?k3 ?k4 ?_ ?k5; (case k1 => k_asm); (case k0 => with_reducible assumption); (case k2 => with_reducible assumption); (case k3 => omega); (case k4 => omega); (case k5 => with_unfolding_all rfl); intro r9)))
local macro_rules | `(tactic| walk_at "call builtin:min") => `(tactic| (k_here; (with_reducible show wpAny _ _ (call (Value.builtin "min") [Value.int _ _, Value.int _ _, Value.int _ _, Value.int _ _]) _ _ _); k_dflt (refine' min_four ?k1 ?k2 ?k3 ?_; (case k1 => exact rfl); (case k2 => k_asm); (case k3 => k_asm); intro h' tk' t' F' N'; try k_sweep)))
local macro_rules | `(tactic| walk_at "setItem ref int") => `(tactic| (k_here; k_dflt (refine' tab_set ?k1 ?k2 ?k3 ?k4 ?k5 ?k6 ?_; (case k1 => k_asm); (case k2 => k_asm); (case k3 => with_reducible assumption); (case k4 => with_reducible assumption); (case k5 => omega); (case k6 => omega); intro h' news' F' N' I' ha' hk'; try k_sweep)))
local macro_rules | `(tactic| walk_at "exec For Name Call cons nil") => `(tactic| (k_here; (rename Fr _ _ _ _ => lF'); (with_unfolding_all refine' For_invVF lF' ?k1 ?k2 ?_; (case k1 => exact rfl); (case k2 => exact rfl); k_whole)))
local macro_rules | `(tactic| walk_at "exec For Name Name cons nil") => `(tactic| (k_here; (rename Fr _ _ _ _ => lF'); (with_unfolding_all refine' For_invVF lF' ?k1 ?k2 ?_; (case k1 => exact rfl); (case k2 => exact rfl); k_whole)))
local macro_rules | `(tactic| walk_at "pyIter ref") => `(tactic| ((with_reducible show wpAny _ _ (pyIter (Value.ref _)) (fun it s₂ => LoopAtV _ _ _ _ _ _ _ _ _ it s₂) _ _); refine Stop.out ?_))
local macro_rules | `(tactic| walk_at "pyIter ref") => `(tactic| ((with_reducible show wpAny _ _ (pyIter (Value.ref _)) (fun it s₂ => TurnsAt _ _ _ _ _ _ _ _ _ it s₂) _ _); refine Stop.out ?_))
local macro_rules | `(tactic| k_asm) => `(tactic| with_reducible assumption)
local macro_rules | `(tactic| k_mem) => `(tactic| ((show @Membership.mem (Addr × Obj) (List (Addr × Obj)) _ _ _); with_reducible assumption))
local macro_rules | `(tactic| walk_at "call builtin:list.append") => `(tactic| (k_here; (with_reducible show wpAny _ _ (call (Value.builtin "list.append") [Value.ref _, _]) _ _ _); k_dflt (refine' app_L ?k1 ?k2 ?k3 ?k4 ?_; (case k1 => k_asm); (case k2 => k_asm); (case k3 => k_mem); (case k4 => ((try simp only [List.length_map, List.length_append, List.length_cons, List.length_nil]); omega)); intro h' F' N'; try k_sweep)))
local macro_rules | `(tactic| walk_at "binaryOp Mult ref int") => `(tactic| (k_here; (with_reducible show wpAny _ _ (binaryOp Operator.Mult (Value.ref _) (Value.int (Nat.cast _) _)) _ _ _); k_dflt (refine' rep_L ?k1 ?k2 ?k3 ?k4 ?_; (case k1 => k_asm); (case k2 => k_asm); (case k3 => k_mem); (case k4 => omega); intro a' h' F' N' l1; try k_sweep)))
local macro_rules | `(tactic| walk_at "call ref") => `(tactic| (k_here; (with_reducible show wpAny _ _ (call (Value.ref _) _) _ _ _); refine Stop.out ?_))
local macro_rules | `(tactic| walk_at "call builtin:len") => `(tactic| (k_here; (with_reducible show wpAny _ _ (call (Value.builtin "len") [Value.ref _]) _ _ _); k_dflt (refine' tab_len ?k1 ?k2 ?k3 ?_; (case k1 => k_asm); (case k2 => with_reducible assumption); (case k3 => with_reducible assumption); intro tok' tk')))
local macro_rules | `(tactic| walk_at "call builtin:len") => `(tactic| (k_here; (with_reducible show wpAny _ _ (call (Value.builtin "len") [Value.ref _]) _ _ _); k_dflt (refine' tab_lenT ?k1 ?k2 ?_; (case k1 => k_asm); (case k2 => with_reducible assumption); intro tok' tk')))
local macro_rules | `(tactic| units_room) => `(tactic| ((try simp only [units_in1, units_deeper, Around.mark_units]); (try dsimp only [ktrTop]); omega))
local macro_rules | `(tactic| walk_at "exec While") => `(tactic| refine Stop.out ?_)
local macro_rules | `(tactic| walk_at "exec While Compare cons nil") => `(tactic| refine Stop.out ?_)
local macro_rules | `(tactic| walk_at "exec For Tuple Name cons nil") => `(tactic| (k_here; (rename Fr _ _ _ _ => lF'); (with_unfolding_all refine' For_turns lF' ?_; k_whole)))
local macro_rules | `(tactic| walk_at "eval Lambda") => `(tactic| refine Stop.out ?_)
local macro_rules | `(tactic| k_room) => `(tactic| ktr_room)
local macro_rules | `(tactic| walk_at "call builtin:min") => `(tactic| ((with_reducible show wpAny _ _ (call (Value.builtin "min") [Value.ref _] [_]) _ _ _); refine Stop.out ?_))
local macro_rules | `(tactic| walk_at "call type:reversed") => `(tactic| (k_here; (with_reducible show wpAny _ _ (call (Value.type _) [Value.ref _]) _ _ _); k_dflt (refine' krv_reversed ?F ?N ?l ?_; (case F => k_asm); (case N => k_asm); (case l => exact isList_of (News.get (by k_asm) (by k_mem))); intro D' h' F' N' l1; try k_sweep)))
local macro_rules | `(tactic| walk_at "call type:list") => `(tactic| (k_here; (with_reducible show wpAny _ _ (call (Value.type _) [Value.ref _]) _ _ _); k_dflt (refine' list_rev ?hh ?F ?N ?hl ?hI ?hn ?_; (case hh => exact rfl); (case F => k_asm); (case N => k_asm); (case hl => k_mem); (case hI => exact fun p hp => Nat.ne_of_lt (‹∀ p ∈ _, p.1 < _› p hp)); (case hn => (simp only [List.length_map]; omega)); intro S' h' tk' c' F' N' l1; try k_sweep)))
theorem off_FBack : True := by
  w_top off
  exact True.intro
theorem back_call
  {w : World} {p : Program} {loose : List Str} {mean : ExcName → Option Value} {mg mb : Str → Option Value}
  {dp un : Nat} {gd : Option (List Code)} {cn : Str} {cs : Scope} {a : Addr} {ccd : Value} {cl : List (Str × Addr)} {outer : List Env} {A₀ : Around} {base h₀ : Heap} {L : Addr} {m : Str → Option Value} {s : Shared} {Q E : Value → Shared → Prop}
  {news : List (Addr × Obj)}
  (B : Below A₀ base outer h₀) (F : Fr h₀ L s.heap m) (X : (hd.heap_39 w.params).In h₀) (N : News h₀ L s.heap news) (Tp : Top p loose mean mg mb h₀) (hk : cs.kind = .function)
  {t : Addr} {rows : List Addr} {T : List (List Int)} {H W : Nat} {one two : Str} {t1 t2 : Tok}
  (hdp : dp + 4 < recursionLimit) (hun : un + 200 < cLine) (hT : IsTab news t rows T H W) (hH : (one.length : Int) + 1 = H) (hW : (two.length : Int) + 1 = W) 
  (hHW : H ≤ 100 ∧ W ≤ 100) (codeHd : CodeHd h₀ 36 32) (hlam : (32, tabObj #[]) ∈ news) (hbd : ∀ i j, i < H → j < W → 0 ≤ cell T i j ∧ cell T i j ≤ 1000)
  (ret : ∀ h' tk' wy as P news', Fr h₀ L h' m → News h₀ L h' news' → Trail (cell T) (subC one two) H W P 0 0 → IsWay news' wy as P.reverse → (∀ p ∈ news, p.1 ≠ 32 → p ∈ news') → (∃ ps, ((32 : Addr), tabObj ps) ∈ news') → Q (.ref wy) { s with heap := h', toks := tk' }) :
  wpAny (model PySem.Challenge.rw_bz6036_01.row.prog w) (ktrTop dp un gd cn cs L a ccd cl outer) (call (.ref 37) [.ref t, .str one t1, .str two t2]) Q E s := by
  refine wpAny_call ?_
  revert X; k_fill; intro X
  k_dflt (refine' code_def ?k1 ?k2 ?k3 ?k4 ?k5 ?kA ?kF ?kK ?k6 ?k7 ?k8 ?k9 ?kB ?_ ?c2 ?c3 ?c4 ?c5; (case kA => exact rfl); (case kF => exact rfl); (case kK => assumption); (case k1 => k_asm); (case k2 => k_asm); (case k3 => k_asm); (case k4 => k_asm); (case k5 => k_asm); (case k6 => k_is); (case k7 => k_is); (case k8 => ktr_room); (case k9 => first | exact BindsTo.of_eq rfl | exact binds_K (by k_in) rfl (by k_is) rfl rfl rfl | fail "k_enter: no rule for these arguments"); (case c5 => decide); (case kB => exact locs rfl); (case c2 => exact rfl); (case c3 => exact rfl); (case c4 => exact rfl); k_whole; intro g' L' h' FG' F' N' B' X' T'; (try dsimp only); (try k_fold))
  replace F' : Fr g' L' h' (fun y => List.lookup y [(Str.ofString "substitution_cost", Value.int 1 222), (Str.ofString "s2", Value.str two t2), (Str.ofString "s1", Value.str one t1), (Str.ofString "lev", Value.ref t)]) := F'
  have hsm := hT.small
  k_steps
  rename_i tok1 tkz1 r9 hr9 tok2 tkz2 D1 hz0 hl1 hz1 hz2 hz3 tkz3 D2 hz4 hl2 al hz5 hl3 hz6 F1 N1
  refine Stop.mk ?_
  have h32 : ∀ p ∈ news, p.1 = t ∨ p.1 ∈ rows → p.1 ≠ 32 := by
    intro p hp h e
    have q1 := (N _ hlam).1
    rcases h with h | h
    · obtain ⟨n, hn⟩ := hT.outer
      have q2 := (N _ hn).1
      rw [← h, e, q1] at q2; cases q2
    · obtain ⟨k, hk⟩ := List.getElem?_of_mem h
      obtain ⟨vs, n, ns, _, hm, _⟩ := hT.row k _ hk
      have q2 := (N _ hm).1
      rw [e, q1] at q2; cases q2
  refine whileS (σ := WSt) [Str.ofString "i", Str.ofString "j", Str.ofString "directions", Str.ofString "direction_costs", Str.ofString "pi", Str.ofString "pj", Str.ofString "cost", Str.ofString "sub_cost"]
    (fun c => [(Str.ofString "i", Value.int c.i c.ti), (Str.ofString "j", Value.int c.j c.tj)])
    (WhileJ (cell T) (subC one two) H W news al) (fun c => c.i + c.j)
    ⟨H - 1, W - 1, tkz1 + 1, tkz2 + 1, [D2], [(H - 1, W - 1)]⟩ F1 N1 ?_ ?_ ?_
  · have e1 : ((H - 1 : Nat) : Int) = (H : Int) - 1 := by omega
    have e2 : ((W - 1 : Nat) : Int) = (W : Int) - 1 := by omega
    intro p hp
    rcases List.mem_cons.mp hp with e | hp
    · rw [e]; show _ = some (Value.int ((H - 1 : Nat) : Int) _); rw [e1]; rfl
    · rw [List.mem_singleton.mp hp]; show _ = some (Value.int ((W - 1 : Nat) : Int) _); rw [e2]; rfl
  · have e1 : ((H - 1 : Nat) : Int) = (H : Int) - 1 := by omega
    have e2 : ((W - 1 : Nat) : Int) = (W : Int) - 1 := by omega
    refine ⟨(by show H - 1 < H; omega), (by show W - 1 < W; omega), fun p hp _ => by simp [hp], ⟨⟨0, by simp⟩, rfl, ?_⟩, Trail.start, (by show 1 + (H - 1 + (W - 1)) ≤ H + W; omega), .inl (by simp [hlam]), fun p hp => Nat.ne_of_lt (allLt_mem _ hl3.2.2 p hp)⟩
    intro k a' hk
    rcases k with _ | k
    · have e : D2 = a' := by simpa using hk
      subst e
      exact ⟨H - 1, W - 1, _, _, rfl, by rw [e1, e2]; exact List.Mem.tail _ (List.Mem.head _)⟩
    · simp at hk
  · intro ⟨i, j, ti, tj, as, P⟩ u nw h3 tk3 hJ F3 N3
    have hi : i < H := hJ.hi
    have hj : j < W := hJ.hj
    have hold := hJ.keep
    have hway : IsWay nw al as P := hJ.way
    have hln : as.length + (i + j) ≤ H + W := hJ.room
    have hls := hJ.lam
    have h32p : ∃ ps, ((32 : Addr), tabObj ps) ∈ nw := by
      rcases hls with h | ⟨_, _, _, _, h, _⟩
      · exact ⟨_, h⟩
      · exact ⟨_, h⟩
    obtain ⟨aln0, hal0⟩ := hway.outer
    dsimp only at F3
    change Fr g' L' h3 _ at F3
    change News g' L' h3 _ at N3
    have hTw : IsTab nw t rows T H W := hT.sub fun p hp h => hold p hp (h32 p hp h)
    by_cases hz : i = 0 ∧ j = 0
    · obtain ⟨rfl, rfl⟩ := hz
      try k_fold
      k_steps
      · rename_i kF kN _ _
        exact ret _ _ _ _ _ _ kF kN hJ.trail (hway.rev List.mem_cons_self fun p hp => by simp [hp]) (fun p hp hne => by simp [hold p hp hne]) (let ⟨ps, hps⟩ := h32p; ⟨ps, by simp [hps]⟩)
    · try k_fold
      k_steps
      · exfalso
        rename ((_ == _) && (_ == _)) = true => hcond
        simp only [Bool.and_eq_true, beq_iff_eq] at hcond
        omega
      rename_i e4 g8 m6 e3 g7 m5 hcond tk9 d1 g6 m4 d2 g5 m3 d3 g4 m2 dl g3 m1 g2 dc g1 m0 g0 F4 N4
      have hnd : ∀ p ∈ nw, p.1 ≠ dc := fun p hp => Nat.ne_of_lt (allLt_mem _ m0.2.2.2.2.2.2 p hp)
      refine Stop.mk ?_
      refine turnsS (l := dl) (vs := [.ref d1, .ref d2, .ref d3]) (nn := 0) (σ := List (Addr × Addr)) [Str.ofString "pi", Str.ofString "pj", Str.ofString "cost", Str.ofString "sub_cost"] (fun _ => [])
        (DirJ (cell T) (subC one two) i j dc dl d1 d2 d3 nw) []
        rfl (fun _ _ _ h => h.dirs) F4 N4 (by simp) ?_ ?_ ?_
      · refine ⟨by simp, rfl, ⟨0, by simp⟩, fun q e h => by simp at h, ?_, ?_, ?_, fun p hp => by simp [hp], Nat.ne_of_lt m0.1, Nat.ne_of_lt m0.2.2.2.1, Nat.ne_of_lt m0.2.2.1, Nat.ne_of_lt m0.2.1, hnd⟩
        · exact ⟨_, _, List.Mem.tail _ (List.Mem.tail _ (List.Mem.tail _ (List.Mem.tail _ (List.Mem.head _))))⟩
        · exact ⟨_, _, List.Mem.tail _ (List.Mem.tail _ (List.Mem.tail _ (List.Mem.head _)))⟩
        · exact ⟨_, _, List.Mem.tail _ (List.Mem.tail _ (List.Mem.head _))⟩
      · --BEGIN
        intro k v es u5 nk h5 tk5 I o hv hD hI F6 N6
        change Fr g' L' h5 _ at F6
        change News g' L' h5 _ at N6
        have hT6 : IsTab ((I, o) :: nk) t rows T H W := hTw.sub fun p hp _ => List.mem_cons_of_mem _ (hD.keep p hp)
        obtain ⟨n0, hdc⟩ := hD.costs
        have hlen := hD.len
        obtain ⟨ta1, ta2, hd1⟩ := hD.w1
        obtain ⟨tb1, tb2, hd2⟩ := hD.w2
        obtain ⟨tc1, tc2, hd3⟩ := hD.w3
        rcases k with _ | _ | _ | k
        · obtain rfl : Value.ref d1 = v := by simpa using hv
          try k_fold
          k_steps
          all_goals first
            | (exfalso; omega)
            | (rename_i pt q8 hp1 ct q9 hp2 q10 F7 N7
               refine turn_end (es ++ [(ct, pt)]) F7 N7 (updL_mem_ne (Ne.symm (hI _ hdc)) (by simp)) (by simp) ?_ (hD.next hdc hI hp1 hp2 ?_)
               · repeat (first | exact keep_mapAt (by decide) | refine keep_ite (by decide) ?_)
               · first | exact cst0_out (by omega) | exact cst0_eq (by assumption) (by assumption) (by assumption) | exact cst0_ne (by assumption) (by assumption) (by assumption))
        · obtain rfl : Value.ref d2 = v := by simpa using hv
          try k_fold
          k_steps
          all_goals first
            | (exfalso; omega)
            | (rename_i pt q8 hp1 ct q9 hp2 q10 F7 N7
               refine turn_end (es ++ [(ct, pt)]) F7 N7 (updL_mem_ne (Ne.symm (hI _ hdc)) (by simp)) (by simp) ?_ (hD.next hdc hI hp1 hp2 ?_)
               · repeat (first | exact keep_mapAt (by decide) | refine keep_ite (by decide) ?_)
               · first | exact cst1_out (by omega) | exact cst1_in (by assumption))
        · obtain rfl : Value.ref d3 = v := by simpa using hv
          try k_fold
          k_steps
          all_goals first
            | (exfalso; omega)
            | (rename_i pt q8 hp1 ct q9 hp2 q10 F7 N7
               refine turn_end (es ++ [(ct, pt)]) F7 N7 (updL_mem_ne (Ne.symm (hI _ hdc)) (by simp)) (by simp) ?_ (hD.next hdc hI hp1 hp2 ?_)
               · repeat (first | exact keep_mapAt (by decide) | refine keep_ite (by decide) ?_)
               · first | exact cst2_out (by omega) | exact cst2_in (by assumption))
        · simp at hv
      · intro es u5 nk h5 tk5 hD F6 N6
        change Fr g' L' h5 _ at F6
        change News g' L' h5 _ at N6
        obtain ⟨n0, hdc⟩ := hD.costs
        have hlen := hD.len
        obtain ⟨⟨c1, p1⟩, ⟨c2, p2⟩, ⟨c3, p3⟩, rfl⟩ : ∃ a b c, es = [a, b, c] := by
          match es, hlen with
          | [a, b, c], _ => exact ⟨a, b, c, rfl⟩
        obtain ⟨ka1, ka2, ka3, hc1, hp1, hx1, hy1⟩ := hD.each 0 (c1, p1) rfl
        obtain ⟨kb1, kb2, kb3, hc2, hp2, hx2, hy2⟩ := hD.each 1 (c2, p2) rfl
        obtain ⟨kc1, kc2, kc3, hc3, hp3, hx3, hy3⟩ := hD.each 2 (c3, p3) rfl
        have hlsk : LamSt 32 keyPos keyQual nk := hls.mono hD.keep
        k_steps
        refine Stop.mk ?_
        k_dflt refine lam_L (P := 32) (c := 36) (by k_asm) N6 T' (codeHd.keeps FG'.keep) rfl hlsk rfl rfl ?_
        intro lf lc oc lvs ltq lctv h6 tk6 nl F7 N7 hlf htab hoc hod hov hkl
        have up : ∀ a vs n, (a, rowO vs n) ∈ nk → (a, rowO vs n) ∈ nl := fun a vs n hm => hkl _ hm (ne32 N6 hlsk hm (by intro ps e; cases e))
        have upt : ∀ a vs, (a, tupO vs) ∈ nk → (a, tupO vs) ∈ nl := fun a vs hm => hkl _ hm (ne32 N6 hlsk hm (by intro ps e; cases e))
        have hdcl := up _ _ _ hdc
        have hc1l := upt _ _ hc1
        have hc2l := upt _ _ hc2
        have hc3l := upt _ _ hc3
        have hp1l := upt _ _ hp1
        have hp2l := upt _ _ hp2
        have hp3l := upt _ _ hp3
        obtain ⟨aln, hal⟩ := hway.outer
        have hall := up _ _ _ (hD.keep _ hal)
        dsimp only at hc1l hc2l hc3l hp1l hp2l hp3l
        have hnx : ∀ (na : Addr) (i' j' : Nat) (t1 t2 : Tok) (x y : Int), (∀ p ∈ nl, p.1 < na) → (i' : Int) = x → (j' : Int) = y → i' ≤ i → j' ≤ j → i' + j' < i + j → Back (cell T) (subC one two) (i, j) (i', j') →
            WhileJ (cell T) (subC one two) H W news al ⟨i', j', t1, t2, as ++ [na], P ++ [(i', j')]⟩ (updL al (rowO (as.map Value.ref ++ [.ref na]) (aln + 1)) ((na, tupO [.int x t1, .int y t2]) :: nl)) :=
          fun na i' j' t1 t2 x y hna hx hy h1 h2 h3 hb => hJ.next N6 N7 hz hD.keep hkl hall hna htab hoc hod hov hx hy h1 h2 h3 hb
        k_steps
        k_dflt refine kmk_min_three (q := lf) (v₁ := .ref c1) (v₂ := .ref c2) (v₃ := .ref c3) (cst (cell T) (subC one two) i j 0).1 (cst (cell T) (subC one two) i j 1).1 (cst (cell T) (subC one two) i j 2).1 rfl (by k_asm) (by k_asm) (fun h _ Nn => isList_of (Nn.get hdcl)) ?_ ?_ ?_ ?_ ?_ ?_
        · intro h tk own Fh Nh
          k_dflt refine key_call (Q := fun _ _ => True) (E := fun _ _ => True) B' Fh X' Nh T' rfl ?_ (List.mem_append_left _ hlf) (List.mem_append_left _ hoc) hod hov (List.mem_append_left _ hc1l)
          ktr_room
        · intro h tk own Fh Nh
          k_dflt refine key_call (Q := fun _ _ => True) (E := fun _ _ => True) B' Fh X' Nh T' rfl ?_ (List.mem_append_left _ hlf) (List.mem_append_left _ hoc) hod hov (List.mem_append_left _ hc2l)
          ktr_room
        · intro h tk own Fh Nh
          k_dflt refine key_call (Q := fun _ _ => True) (E := fun _ _ => True) B' Fh X' Nh T' rfl ?_ (List.mem_append_left _ hlf) (List.mem_append_left _ hoc) hod hov (List.mem_append_left _ hc3l)
          ktr_room
        · intro hk1 hk2 h7 tk7 F8 N8
          try k_fold
          k_steps
          rename_i f1 f2 f3 tk8 na f4 hna f5 F9 N9
          have hmin : ∀ q', q' < 3 → (cst (cell T) (subC one two) i j 0).1 ≤ (cst (cell T) (subC one two) i j q').1 := by
            intro q' hq'
            match q', hq' with
            | 0, _ => first | exact Int.le_refl _ | exact hk1 | exact Int.le_of_lt hk1
            | 1, _ => first | exact Int.le_refl _ | exact hk1 | exact Int.le_of_lt hk2
            | 2, _ => first | exact Int.le_refl _ | exact hk2
          obtain ⟨i', j', e1, e2, l1, l2, l3⟩ := back_fin hbd hi hj hz (by omega) hmin
          refine turn_endW ⟨i', j', ka2, ka3, as ++ [na], P ++ [(i', j')]⟩ F9 N9 ?_ ?_ (hnx _ _ _ _ _ _ _ hna e1 e2 l1 l2 l3 ⟨0, by omega, hmin, e1, e2⟩) l3
          · intro p hp
            rcases List.mem_cons.mp hp with e | hp
            · rw [e]; show _ = some (Value.int (i' : Int) ka2); rw [e1]; rfl
            · rw [List.mem_singleton.mp hp]; show _ = some (Value.int (j' : Int) ka3); rw [e2]; rfl
          · repeat (first | exact keep_mapAt (by rfl) | refine keep_map2 (by rfl) (by decide) ?_ | refine keep_ite (by decide) ?_)
        · intro hk1 hk2 h7 tk7 F8 N8
          try k_fold
          k_steps
          rename_i f1 f2 f3 tk8 na f4 hna f5 F9 N9
          have hmin : ∀ q', q' < 3 → (cst (cell T) (subC one two) i j 1).1 ≤ (cst (cell T) (subC one two) i j q').1 := by
            intro q' hq'
            match q', hq' with
            | 0, _ => first | exact Int.le_refl _ | exact hk1 | exact Int.le_of_lt hk1
            | 1, _ => first | exact Int.le_refl _ | exact hk1 | exact Int.le_of_lt hk2
            | 2, _ => first | exact Int.le_refl _ | exact hk2
          obtain ⟨i', j', e1, e2, l1, l2, l3⟩ := back_fin hbd hi hj hz (by omega) hmin
          refine turn_endW ⟨i', j', kb2, kb3, as ++ [na], P ++ [(i', j')]⟩ F9 N9 ?_ ?_ (hnx _ _ _ _ _ _ _ hna e1 e2 l1 l2 l3 ⟨1, by omega, hmin, e1, e2⟩) l3
          · intro p hp
            rcases List.mem_cons.mp hp with e | hp
            · rw [e]; show _ = some (Value.int (i' : Int) kb2); rw [e1]; rfl
            · rw [List.mem_singleton.mp hp]; show _ = some (Value.int (j' : Int) kb3); rw [e2]; rfl
          · repeat (first | exact keep_mapAt (by rfl) | refine keep_map2 (by rfl) (by decide) ?_ | refine keep_ite (by decide) ?_)
        · intro hk1 hk2 h7 tk7 F8 N8
          try k_fold
          k_steps
          rename_i f1 f2 f3 tk8 na f4 hna f5 F9 N9
          have hmin : ∀ q', q' < 3 → (cst (cell T) (subC one two) i j 2).1 ≤ (cst (cell T) (subC one two) i j q').1 := by
            intro q' hq'
            match q', hq' with
            | 0, _ => first | exact Int.le_refl _ | exact hk1 | exact Int.le_of_lt hk1
            | 1, _ => first | exact Int.le_refl _ | exact hk1 | exact Int.le_of_lt hk2
            | 2, _ => first | exact Int.le_refl _ | exact hk2
          obtain ⟨i', j', e1, e2, l1, l2, l3⟩ := back_fin hbd hi hj hz (by omega) hmin
          refine turn_endW ⟨i', j', kc2, kc3, as ++ [na], P ++ [(i', j')]⟩ F9 N9 ?_ ?_ (hnx _ _ _ _ _ _ _ hna e1 e2 l1 l2 l3 ⟨2, by omega, hmin, e1, e2⟩) l3
          · intro p hp
            rcases List.mem_cons.mp hp with e | hp
            · rw [e]; show _ = some (Value.int (i' : Int) kc2); rw [e1]; rfl
            · rw [List.mem_singleton.mp hp]; show _ = some (Value.int (j' : Int) kc3); rw [e2]; rfl
          · repeat (first | exact keep_mapAt (by rfl) | refine keep_map2 (by rfl) (by decide) ?_ | refine keep_ite (by decide) ?_)
end Mine
end
section
open PySem PySem.W PyProof.Rows
set_option maxRecDepth 100000
set_option maxHeartbeats 1000000
namespace Mine
local macro_rules | `(tactic| walk_at "subscriptTail") => `(tactic| (k_here; (with_reducible show wpAny _ _ (subscriptTail _ _ (Value.str _ _) (Value.int _ _)) _ _ _); refine' item_str (fitsSsize_of (N := 9223372036854775808) ?k1 ?k2 (Int.le_refl _)) ?k3 ?k4 ?_ ?k5 ?k6; (case k5 => with_unfolding_all rfl); (case k6 => intro _; with_unfolding_all rfl); (case k1 => omega); (case k2 => omega); (case k3 => omega); (case k4 => omega); intro _))
local macro_rules | `(tactic| walk_at "subscriptTail") => `(tactic| (k_here; (with_reducible show wpAny _ _ (subscriptTail _ _ (Value.ref _) (Value.int _ _)) _ _ _); k_dflt (refine' tab_row ?k1 ?k2 ?k3 ?k4 ?_ ?k5; (case k1 => k_asm); (case k2 => with_reducible assumption); (case k3 => omega); (case k4 => omega); (case k5 => with_unfolding_all rfl); intro r9 hr9)))
local macro_rules | `(tactic| walk_at "subscriptTail") => `(tactic| (k_here; (with_reducible show wpAny _ _ (subscriptTail _ _ (Value.ref _) (Value.int _ _)) _ _ _); k_dflt (refine' tab_cell ?k1 ?k2 ?k0 ?k3 ?k4 ?_ ?k5; (case k1 => k_asm); (case k0 => with_reducible assumption); (case k2 => with_reducible assumption); (case k3 => omega); (case k4 => omega); (case k5 => with_unfolding_all rfl); intro r9)))
local macro_rules | `(tactic| walk_at "call builtin:min") => `(tactic| (k_here; (with_reducible show wpAny _ _ (call (Value.builtin "min") [Value.int _ _, Value.int _ _, Value.int _ _, Value.int _ _]) _ _ _); k_dflt (refine' min_four ?k1 ?k2 ?k3 ?_; (case k1 => exact rfl); (case k2 => k_asm); (case k3 => k_asm); intro h' tk' t' F' N'; try k_sweep)))
local macro_rules | `(tactic| walk_at "setItem ref int") => `(tactic| (k_here; k_dflt (refine' tab_set ?k1 ?k2 ?k3 ?k4 ?k5 ?k6 ?_; (case k1 => k_asm); (case k2 => k_asm); (case k3 => with_reducible assumption); (case k4 => with_reducible assumption); (case k5 => omega); (case k6 => omega); intro h' news' F' N' I' ha' hk'; try k_sweep)))
local macro_rules | `(tactic| walk_at "exec For Name Call cons nil") => `(tactic| (k_here; (rename Fr _ _ _ _ => lF'); (with_unfolding_all refine' For_invVF lF' ?k1 ?k2 ?_; (case k1 => exact rfl); (case k2 => exact rfl); k_whole)))
local macro_rules | `(tactic| walk_at "exec For Name Name cons nil") => `(tactic| (k_here; (rename Fr _ _ _ _ => lF'); (with_unfolding_all refine' For_invVF lF' ?k1 ?k2 ?_; (case k1 => exact rfl); (case k2 => exact rfl); k_whole)))
local macro_rules | `(tactic| walk_at "pyIter ref") => `(tactic| ((with_reducible show wpAny _ _ (pyIter (Value.ref _)) (fun it s₂ => LoopAtV _ _ _ _ _ _ _ _ _ it s₂) _ _); refine Stop.out ?_))
local macro_rules | `(tactic| walk_at "pyIter ref") => `(tactic| ((with_reducible show wpAny _ _ (pyIter (Value.ref _)) (fun it s₂ => TurnsAt _ _ _ _ _ _ _ _ _ it s₂) _ _); refine Stop.out ?_))
local macro_rules | `(tactic| k_asm) => `(tactic| with_reducible assumption)
local macro_rules | `(tactic| k_mem) => `(tactic| ((show @Membership.mem (Addr × Obj) (List (Addr × Obj)) _ _ _); with_reducible assumption))
local macro_rules | `(tactic| walk_at "call builtin:list.append") => `(tactic| (k_here; (with_reducible show wpAny _ _ (call (Value.builtin "list.append") [Value.ref _, _]) _ _ _); k_dflt (refine' app_L ?k1 ?k2 ?k3 ?k4 ?_; (case k1 => k_asm); (case k2 => k_asm); (case k3 => k_mem); (case k4 => ((try simp only [List.length_map, List.length_append, List.length_cons, List.length_nil]); omega)); intro h' F' N'; try k_sweep)))
local macro_rules | `(tactic| walk_at "binaryOp Mult ref int") => `(tactic| (k_here; (with_reducible show wpAny _ _ (binaryOp Operator.Mult (Value.ref _) (Value.int (Nat.cast _) _)) _ _ _); k_dflt (refine' rep_L ?k1 ?k2 ?k3 ?k4 ?_; (case k1 => k_asm); (case k2 => k_asm); (case k3 => k_mem); (case k4 => omega); intro a' h' F' N' l1; try k_sweep)))
local macro_rules | `(tactic| walk_at "call ref") => `(tactic| (k_here; (with_reducible show wpAny _ _ (call (Value.ref _) _) _ _ _); refine Stop.out ?_))
local macro_rules | `(tactic| walk_at "call builtin:len") => `(tactic| (k_here; (with_reducible show wpAny _ _ (call (Value.builtin "len") [Value.ref _]) _ _ _); k_dflt (refine' tab_len ?k1 ?k2 ?k3 ?_; (case k1 => k_asm); (case k2 => with_reducible assumption); (case k3 => with_reducible assumption); intro tok' tk')))
local macro_rules | `(tactic| walk_at "call builtin:len") => `(tactic| (k_here; (with_reducible show wpAny _ _ (call (Value.builtin "len") [Value.ref _]) _ _ _); k_dflt (refine' tab_lenT ?k1 ?k2 ?_; (case k1 => k_asm); (case k2 => with_reducible assumption); intro tok' tk')))
local macro_rules | `(tactic| units_room) => `(tactic| ((try simp only [units_in1, units_deeper, Around.mark_units]); (try dsimp only [ktrTop]); omega))
local macro_rules | `(tactic| k_mem) => `(tactic| ((show @Membership.mem (Addr × Obj) (List (Addr × Obj)) _ _ _); (repeat (first | with_reducible assumption | refine List.mem_cons_of_mem _ ?_)); done))
local macro_rules | `(tactic| walk_at "subscriptTail") => `(tactic| (k_here; (with_reducible show wpAny _ _ (subscriptTail _ _ (Value.ref _) (Value.int _ _)) _ _ _); k_dflt (refine' way_at ?k1 ?k2 ?k0 ?k3 ?k4 ?_ ?k5; (case k1 => k_asm); (case k2 => ((refine IsWay.mono (by with_reducible assumption) ?_; intro p hp; (repeat (first | exact hp | refine List.mem_cons_of_mem _ ?_)); done))); (case k0 => with_reducible assumption); (case k3 => omega); (case k4 => omega); (case k5 => with_unfolding_all rfl); intro a9 i9 j9 ti9 tj9 hp9 hm9)))
local macro_rules | `(tactic| walk_at "subscriptTail") => `(tactic| (k_here; (with_reducible show wpAny _ _ (subscriptTail _ _ (Value.ref _) (Value.int _ _)) _ _ _); k_dflt (refine' way_last ?k1 ?k2 ?k0 ?k3 ?k4 ?_ ?k5; (case k1 => k_asm); (case k2 => ((refine IsWay.mono (by with_reducible assumption) ?_; intro p hp; (repeat (first | exact hp | refine List.mem_cons_of_mem _ ?_)); done))); (case k0 => with_reducible assumption); (case k3 => exact rfl); (case k4 => assumption); (case k5 => with_unfolding_all rfl); intro a9 i9 j9 ti9 tj9 hp9 hm9)))
set_option hygiene false in
local macro_rules | `(tactic| walk_at "subscriptTail") => `(tactic| (k_here; (with_reducible show wpAny _ _ (subscriptTail _ _ (Value.ref _) (Value.int _ _)) _ _ _); k_dflt (refine' way_atK ?k1 ?k2 ?k0 ?k3 ?k4 ?_ ?k5; (case k3 => (first | exact hq0 _ (by omega) | exact hq1 _ (by omega))); (case k1 => k_asm); (case k2 => ((refine IsWay.mono (by with_reducible assumption) ?_; intro p hp; (repeat (first | exact hp | refine List.mem_cons_of_mem _ ?_)); done))); (case k0 => with_reducible assumption); (case k4 => omega); (case k5 => with_unfolding_all rfl); intro a9 ti9 tj9 hm9)))
local macro_rules | `(tactic| walk_at "call builtin:len") => `(tactic| (k_here; (with_reducible show wpAny _ _ (call (Value.builtin "len") [Value.ref _]) _ _ _); k_dflt (refine' way_len ?k1 ?k2 ?k0 ?_; (case k1 => k_asm); (case k2 => ((refine IsWay.mono (by with_reducible assumption) ?_; intro p hp; (repeat (first | exact hp | refine List.mem_cons_of_mem _ ?_)); done))); (case k0 => with_reducible assumption); intro tok' tk')))
local macro_rules | `(tactic| walk_at "compareOp NotIn ref ref") => `(tactic| (k_here; (with_reducible show wpAny _ _ (compareOp CmpOp.NotIn (Value.ref _) (Value.ref _)) _ _ _); k_dflt (refine' SeqAt.notIn_tuple_reads ?rc ?rx ?hx ?hd ?hu ?_; (case rc => ke_read); (case rx => ke_read); (case hx => rfl); (case hd => rfl); (case hu => (refine Nat.lt_of_le_of_lt (Nat.add_le_add_left (Nat.le_trans (Nat.min_le_right _ _) (Nat.le_of_ble_eq_true (rfl : Nat.ble _ 9 = true))) _) ?_; units_room))); ke_norm))
local macro_rules | `(tactic| walk_at "eval ListComp") => `(tactic| (refine Stop.out ?_))
theorem off_FWay : True := by
  w_top off
  exact True.intro
theorem way_call
  {w : World} {p : Program} {loose : List Str} {mean : ExcName → Option Value} {mg mb : Str → Option Value}
  {dp un : Nat} {gd : Option (List Code)} {cn : Str} {cs : Scope} {a : Addr} {ccd : Value} {cl : List (Str × Addr)} {outer : List Env} {A₀ : Around} {base h₀ : Heap} {L : Addr} {m : Str → Option Value} {s : Shared} {Q E : Value → Shared → Prop}
  {news : List (Addr × Obj)}
  (B : Below A₀ base outer h₀) (F : Fr h₀ L s.heap m) (X : (hd.heap_39 w.params).In h₀) (N : News h₀ L s.heap news) (Tp : Top p loose mean mg mb h₀) (hk : cs.kind = .function)
  {wy : Addr} {as : List Addr} {P : List (Nat × Nat)} {one two : Str} {t1 t2 t3 : Tok} {worth : Int} {V : Nat → Int}
  (hdp : dp + 2 < recursionLimit) (hun : un + 200 < cLine) (hW : IsWay news wy as P) (hsm : P.length ≤ 1000) (hpos : 0 < P.length) (hl1 : one.length ≤ 20) (hl2 : two.length ≤ 20)
  (hfirst : P[0]? = some (0, 0)) (hlast : P[P.length - 1]? = some (one.length, two.length)) (hbd : ∀ p ∈ P, p.1 ≤ one.length ∧ p.2 ≤ two.length)
  (hwd : ∀ p ∈ P, (((p.1 : Int) - (p.2 : Int)).natAbs : Int) ≤ worth)
  (hstep : ∀ (k : Nat) p p', P[k]? = some p → P[k + 1]? = some p' → (p'.1 = p.1 + 1 ∧ p'.2 = p.2 + 1) ∨ (p'.1 = p.1 + 1 ∧ p'.2 = p.2) ∨ (p'.1 = p.1 ∧ p'.2 = p.2 + 1))
  (hV0 : V 0 = 0) (hV : ∀ (k : Nat) p p', P[k]? = some p → P[k + 1]? = some p' → V (k + 1) = V k + if p'.1 = p.1 + 1 ∧ p'.2 = p.2 + 1 ∧ Txt.item one p.1 = Txt.item two p.2 then 0 else 1) (hVl : V (P.length - 1) = worth)
  (ret : ∀ h' tk', Fr h₀ L h' m → News h₀ L h' news → Q (.bool true) { s with heap := h', toks := tk' }) :
  wpAny (model PySem.Challenge.rw_bz6036_01.row.prog w) (ktrTop dp un gd cn cs L a ccd cl outer) (call (.ref 66) [.ref wy, .str one t1, .str two t2, .int worth t3]) Q E s := by
  refine wpAny_call ?_
  revert X; k_fill; intro X
  k_dflt (refine' code_defC ?k1 ?k2 ?k3 ?k4 ?k5 ?kA ?kF ?kK ?k6 ?k7 ?k8 ?k9 ?kB ?kD ?_ ?c2 ?c3 ?c4; (case kA => exact rfl); (case kF => exact rfl); (case kK => assumption); (case k1 => k_asm); (case k2 => k_asm); (case k3 => k_asm); (case k4 => k_asm); (case k5 => k_asm); (case k6 => k_is); (case k7 => k_is); (case k8 => ktr_room); (case k9 => first | exact BindsTo.of_eq rfl | exact binds_K (by k_in) rfl (by k_is) rfl rfl rfl | fail "k_enter: no rule for these arguments"); (case kB => exact rfl); (case kD => decide +kernel); (case c2 => exact rfl); (case c3 => exact rfl); (case c4 => exact rfl); k_whole; intro g' L' h' tk' cells' FG' F' N' Y' B' X' T' l1; k_cells Y'; (try simp only [List.cons_append, List.nil_append] at N'); (try dsimp only); (try k_fold))
  replace F' : Fr g' L' h' (fun y => if y = Str.ofString "two" then some (Value.str two t2) else if y = Str.ofString "one" then some (Value.str one t1) else if y = Str.ofString "way" then some (Value.ref wy) else none) := F'
  rename_i oc hcell
  replace hcell : oc.data = Data.cell (some (Value.int worth t3)) := hcell
  k_steps
  · rename_i hR3 F3 N3 hkk3
    clear hkk3
    replace N3 : News g' L' _ ((L' + 1, oc) :: news) := fun p hp => N3 p (List.mem_cons_of_mem _ (List.mem_cons_of_mem _ hp))
    refine Stop.mk ?_
    refine rangeS (n := P.length - 1) (σ := Int × Tok) [Str.ofString "k", Str.ofString "i", Str.ofString "j", Str.ofString "step", Str.ofString "paid"] (fun c => [(Str.ofString "paid", Value.int c.1 c.2)])
      (fun k c nw => c.1 = V k ∧ ∀ p ∈ (L' + 1, oc) :: news, p ∈ nw) (0, _)
      rfl hR3 (small_one (by omega) (by omega) (by omega) (by omega)) (by rw [rangeSize_nat]; omega) F3 N3 (by intro p hp; rw [List.mem_singleton.mp hp]; rfl) ⟨hV0.symm, fun _ hp => hp⟩ ?_ ?_
    · intro k tk3 ⟨v, tv⟩ u1 nw1 h3 tk4 I o hk ⟨hv, hold1⟩ hI F4 N4
      change Fr g' L' h3 _ at F4
      change News g' L' h3 _ at N4
      dsimp only at hv
      replace hW : IsWay nw1 wy as P := hW.mono fun p hp => hold1 p (List.mem_cons_of_mem _ hp)
      obtain ⟨⟨x, y⟩, hPk⟩ : ∃ p, P[k]? = some p := ⟨_, List.getElem?_eq_getElem (by omega)⟩
      obtain ⟨⟨x', y'⟩, hPk'⟩ : ∃ p, P[k + 1]? = some p := ⟨_, List.getElem?_eq_getElem (by omega)⟩
      have hq0 : ∀ z : Int, z = k → P[z.toNat]? = some (x, y) := by intro z hz; rw [hz]; exact hPk
      have hq1 : ∀ z : Int, z = (k : Int) + 1 → P[z.toNat]? = some (x', y') := by intro z hz; rw [show z.toNat = k + 1 from by omega]; exact hPk'
      have hs3 := hstep k _ _ hPk hPk'
      have hVk := hV k _ _ hPk hPk'
      have hb1 := hbd _ (List.mem_of_getElem? hPk')
      clear hstep hV hbd hwd hfirst hlast hV0 hVl hPk hPk'
      dsimp only at hs3 hVk hb1
      try k_fold
      k_steps
      · rename ((_ == _) && (_ == _)) = true => hc
        simp only [Bool.and_eq_true, beq_iff_eq] at hc
        rename_i hit2 _ F7 N7
        refine turn_end (v + 0, _) F7 N7 (by simp) (by intro p hp; rw [List.mem_singleton.mp hp]; rfl) (by repeat (first | exact keep_mapAt (by rfl) | refine keep_map2 (by rfl) (by decide) (fun _ _ => rfl) | refine keep_ite (by decide) ?_)) ⟨?_, fun p hp => mem_offL.mpr ⟨by simp [hold1 p hp], hI p (hold1 p hp)⟩⟩
        rw [hVk, hv, if_pos ⟨by omega, by omega, by simpa using hit2⟩]
      · rename_i hit2 _ F7 N7
        refine turn_end (v + 1, _) F7 N7 (by simp) (by intro p hp; rw [List.mem_singleton.mp hp]; rfl) (by repeat (first | exact keep_mapAt (by rfl) | refine keep_map2 (by rfl) (by decide) (fun _ _ => rfl) | refine keep_ite (by decide) ?_)) ⟨?_, fun p hp => mem_offL.mpr ⟨by simp [hold1 p hp], hI p (hold1 p hp)⟩⟩
        rw [hVk, hv, if_neg (fun ⟨_, _, q⟩ => by simp [q] at hit2)]
      · rename_i hc _ F7 N7
        refine turn_end (v + 1, _) F7 N7 (by simp) (by intro p hp; rw [List.mem_singleton.mp hp]; rfl) (by repeat (first | exact keep_mapAt (by rfl) | refine keep_map2 (by rfl) (by decide) (fun _ _ => rfl) | refine keep_ite (by decide) ?_)) ⟨?_, fun p hp => mem_offL.mpr ⟨by simp [hold1 p hp], hI p (hold1 p hp)⟩⟩
        rw [hVk, hv, if_neg (fun ⟨q1, q2, _⟩ => by simp only [Bool.and_eq_false_iff, beq_eq_false_iff_ne, ne_eq] at hc; omega)]
      · exfalso
        rename_i hc
        rcases hs3 with ⟨q1, q2⟩ | ⟨q1, q2⟩ | ⟨q1, q2⟩ <;> subst q1 <;> subst q2
        · rw [show ((x + 1 : Nat) : Int) - x = 1 from by omega, show ((y + 1 : Nat) : Int) - y = 1 from by omega] at hc
          exact absurd hc (by decide)
        · rw [show ((x + 1 : Nat) : Int) - x = 1 from by omega, show (y' : Int) - y' = 0 from by omega] at hc
          exact absurd hc (by decide)
        · rw [show (x' : Int) - x' = 0 from by omega, show ((y + 1 : Nat) : Int) - y = 1 from by omega] at hc
          exact absurd hc (by decide)
    · intro ⟨v, tv⟩ u1 nw1 h3 tk4 ⟨hv, hold1⟩ F4 N4
      change Fr g' L' h3 _ at F4
      change News g' L' h3 _ at N4
      dsimp only at hv
      replace N4 : News g' L' h3 ((L' + 1, oc) :: news) := fun p hp => N4 p (hold1 p hp)
      clear hold1
      rw [hVl] at hv
      subst hv
      k_steps
      · refine Stop.mk ?_
        obtain ⟨wn, hwn⟩ := hW.outer
        k_dflt refine comp_none (F := F4) (N := N4) rfl (by with_unfolding_all rfl) (by decide) (by rfl) (by decide) (by rfl) (by rfl) (by decide) (hl := List.mem_cons_of_mem _ hwn) ?_ ?_ ?_
        · intro R hR
          k_steps
          exact hR
        · intro k vw hk
          rw [List.getElem?_map] at hk
          obtain ⟨aw, haw, rfl⟩ := Option.map_eq_some_iff.mp hk
          obtain ⟨pi, pj, ti, tj, hpw, hmw⟩ := hW.pt k aw haw
          refine ⟨aw, _, _, rfl, List.mem_cons_of_mem _ hmw, ?_⟩
          intro I oI C oC D m₂ h5 tk5 E' hC h1 h2 F5 N5
          have hwk := hwd _ (List.mem_of_getElem? hpw)
          dsimp only at hwk
          k_steps
          all_goals first
            | exact F5
            | exact N5
            | (refine decide_eq_false ?_; split <;> omega)
        · intro D h5 tk5 F5 N5 hD
          k_steps
          rename_i kF kN _ _
          exact ret _ _ kF fun p hp => kN p (List.mem_cons_of_mem _ (List.mem_cons_of_mem _ (List.mem_cons_of_mem _ hp)))
      · exact absurd rfl ‹_ ≠ _›
  · exfalso
    rename_i hp _ _ _ _ _ _ hx _ _ _ _
    rw [hlast] at hp
    cases hp
    simp at hx
  · exfalso
    rename_i hp _ _ _ _ _ _ hx _ _ _ _
    rw [show P[Int.toNat 0]? = some (0, 0) from hfirst] at hp
    cases hp
    simp at hx
end Mine
end
section
open PySem PySem.W PyProof.Rows
set_option maxRecDepth 100000
set_option maxHeartbeats 1000000
namespace Mine
local macro_rules | `(tactic| walk_at "subscriptTail") => `(tactic| (k_here; (with_reducible show wpAny _ _ (subscriptTail _ _ (Value.str _ _) (Value.int _ _)) _ _ _); refine' item_str (fitsSsize_of (N := 9223372036854775808) ?k1 ?k2 (Int.le_refl _)) ?k3 ?k4 ?_ ?k5 ?k6; (case k5 => with_unfolding_all rfl); (case k6 => intro _; with_unfolding_all rfl); (case k1 => omega); (case k2 => omega); (case k3 => omega); (case k4 => omega); intro _))
local macro_rules | `(tactic| walk_at "subscriptTail") => `(tactic| (k_here; (with_reducible show wpAny _ _ (subscriptTail _ _ (Value.ref _) (Value.int _ _)) _ _ _); k_dflt (refine' tab_row ?k1 ?k2 ?k3 ?k4 ?_ ?k5; (case k1 => k_asm); (case k2 => with_reducible assumption); (case k3 => omega); (case k4 => omega); (case k5 => with_unfolding_all rfl); intro r9 hr9)))
local macro_rules | `(tactic| walk_at "subscriptTail") => `(tactic| (k_here; (with_reducible show wpAny _ _ (subscriptTail _ _ (Value.ref _) (Value.int _ _)) _ _ _); k_dflt (refine' tab_cell ?k1 ?k2 ?k0 ?k3 ?k4 ?_ ?k5; (case k1 => k_asm); (case k0 => with_reducible assumption); (case k2 => with_reducible assumption); (case k3 => omega); (case k4 => omega); (case k5 => with_unfolding_all rfl); intro r9)))
local macro_rules | `(tactic| walk_at "call builtin:min") => `(tactic| (k_here; (with_reducible show wpAny _ _ (call (Value.builtin "min") [Value.int _ _, Value.int _ _, Value.int _ _, Value.int _ _]) _ _ _); k_dflt (refine' min_four ?k1 ?k2 ?k3 ?_; (case k1 => exact rfl); (case k2 => k_asm); (case k3 => k_asm); intro h' tk' t' F' N'; try k_sweep)))
local macro_rules | `(tactic| walk_at "setItem ref int") => `(tactic| (k_here; k_dflt (refine' tab_set ?k1 ?k2 ?k3 ?k4 ?k5 ?k6 ?_; (case k1 => k_asm); (case k2 => k_asm); (case k3 => with_reducible assumption); (case k4 => with_reducible assumption); (case k5 => omega); (case k6 => omega); intro h' news' F' N' I' ha' hk'; try k_sweep)))
local macro_rules | `(tactic| walk_at "exec For Name Call cons nil") => `(tactic| (k_here; (rename Fr _ _ _ _ => lF'); (with_unfolding_all refine' For_invVF lF' ?k1 ?k2 ?_; (case k1 => exact rfl); (case k2 => exact rfl); k_whole)))
local macro_rules | `(tactic| walk_at "exec For Name Name cons nil") => `(tactic| (k_here; (rename Fr _ _ _ _ => lF'); (with_unfolding_all refine' For_invVF lF' ?k1 ?k2 ?_; (case k1 => exact rfl); (case k2 => exact rfl); k_whole)))
local macro_rules | `(tactic| walk_at "pyIter ref") => `(tactic| ((with_reducible show wpAny _ _ (pyIter (Value.ref _)) (fun it s₂ => LoopAtV _ _ _ _ _ _ _ _ _ it s₂) _ _); refine Stop.out ?_))
local macro_rules | `(tactic| walk_at "pyIter ref") => `(tactic| ((with_reducible show wpAny _ _ (pyIter (Value.ref _)) (fun it s₂ => TurnsAt _ _ _ _ _ _ _ _ _ it s₂) _ _); refine Stop.out ?_))
local macro_rules | `(tactic| k_asm) => `(tactic| with_reducible assumption)
local macro_rules | `(tactic| k_mem) => `(tactic| ((show @Membership.mem (Addr × Obj) (List (Addr × Obj)) _ _ _); with_reducible assumption))
local macro_rules | `(tactic| walk_at "call builtin:list.append") => `(tactic| (k_here; (with_reducible show wpAny _ _ (call (Value.builtin "list.append") [Value.ref _, _]) _ _ _); k_dflt (refine' app_L ?k1 ?k2 ?k3 ?k4 ?_; (case k1 => k_asm); (case k2 => k_asm); (case k3 => k_mem); (case k4 => ((try simp only [List.length_map, List.length_append, List.length_cons, List.length_nil]); omega)); intro h' F' N'; try k_sweep)))
local macro_rules | `(tactic| walk_at "binaryOp Mult ref int") => `(tactic| (k_here; (with_reducible show wpAny _ _ (binaryOp Operator.Mult (Value.ref _) (Value.int (Nat.cast _) _)) _ _ _); k_dflt (refine' rep_L ?k1 ?k2 ?k3 ?k4 ?_; (case k1 => k_asm); (case k2 => k_asm); (case k3 => k_mem); (case k4 => omega); intro a' h' F' N' l1; try k_sweep)))
local macro_rules | `(tactic| walk_at "call ref") => `(tactic| (k_here; (with_reducible show wpAny _ _ (call (Value.ref _) _) _ _ _); refine Stop.out ?_))
local macro_rules | `(tactic| walk_at "call builtin:len") => `(tactic| (k_here; (with_reducible show wpAny _ _ (call (Value.builtin "len") [Value.ref _]) _ _ _); k_dflt (refine' tab_len ?k1 ?k2 ?k3 ?_; (case k1 => k_asm); (case k2 => with_reducible assumption); (case k3 => with_reducible assumption); intro tok' tk')))
local macro_rules | `(tactic| walk_at "call builtin:len") => `(tactic| (k_here; (with_reducible show wpAny _ _ (call (Value.builtin "len") [Value.ref _]) _ _ _); k_dflt (refine' tab_lenT ?k1 ?k2 ?_; (case k1 => k_asm); (case k2 => with_reducible assumption); intro tok' tk')))
local macro_rules | `(tactic| units_room) => `(tactic| ((try simp only [units_in1, units_deeper, Around.mark_units]); (try dsimp only [ktrTop]); omega))
local macro_rules | `(tactic| walk_at "exec While") => `(tactic| refine Stop.out ?_)
local macro_rules | `(tactic| walk_at "exec While Compare cons nil") => `(tactic| refine Stop.out ?_)
local macro_rules | `(tactic| walk_at "call builtin:len") => `(tactic| (k_here; (with_reducible show wpAny _ _ (call (Value.builtin "len") [Value.ref _]) _ _ _); k_dflt (refine' len_L ?k1 ?k2 ?k3 ?_; (case k1 => k_asm); (case k2 => k_mem); (case k3 => omega); intro tok' tk')))
local macro_rules | `(tactic| walk_at "none") => `(tactic| fail)
local macro_rules | `(tactic| walk_at "none") => `(tactic| fail)
local macro_rules | `(tactic| walk_at "none") => `(tactic| fail)
local macro_rules | `(tactic| walk_at "none") => `(tactic| fail)
local macro_rules | `(tactic| walk_at "none") => `(tactic| fail)
theorem off_FNum : True := by
  w_top off
  exact True.intro
theorem num_call
  {w : World} {p : Program} {loose : List Str} {mean : ExcName → Option Value} {mg mb : Str → Option Value}
  {dp un : Nat} {gd : Option (List Code)} {cn : Str} {cs : Scope} {a : Addr} {ccd : Value} {cl : List (Str × Addr)} {outer : List Env} {A₀ : Around} {base h₀ : Heap} {L : Addr} {m : Str → Option Value} {s : Shared} {Q E : Value → Shared → Prop}
  {news : List (Addr × Obj)}
  (B : Below A₀ base outer h₀) (F : Fr h₀ L s.heap m) (X : (hd.heap_39 w.params).In h₀) (N : News h₀ L s.heap news) (Tp : Top p loose mean mg mb h₀) (hk : cs.kind = .function)
  {sc : Addr} {t1 : Tok} {vs : List Value} {ns : List Int}
  (hdp : dp + 2 < recursionLimit) (hun : un + 200 < cLine) (hsc : h₀.IsList sc vs.toArray) (hi : IntsAre vs ns) (hlen : ns.length ≤ 63)
  (ret : ∀ h' tk' fa ws ms n news', Fr h₀ L h' m → News h₀ L h' news' → (fa, rowO ws n) ∈ news' → IntsAre ws ms → ms.length = 9 → (∀ p ∈ news, (∀ vs n, p.2 ≠ rowO vs n) → p ∈ news') → Q (.ref fa) { s with heap := h', toks := tk' }) :
  wpAny (model PySem.Challenge.rw_bz6036_01.row.prog w) (ktrTop dp un gd cn cs L a ccd cl outer) (call (.ref 42) [.ref sc, .int 9 t1]) Q E s := by
  refine wpAny_call ?_
  revert X; k_fill; intro X
  k_dflt (refine' code_def ?k1 ?k2 ?k3 ?k4 ?k5 ?kA ?kF ?kK ?k6 ?k7 ?k8 ?k9 ?kB ?_ ?c2 ?c3 ?c4 ?c5; (case kA => exact rfl); (case kF => exact rfl); (case kK => assumption); (case k1 => k_asm); (case k2 => k_asm); (case k3 => k_asm); (case k4 => k_asm); (case k5 => k_asm); (case k6 => k_is); (case k7 => k_is); (case k8 => ktr_room); (case k9 => first | exact BindsTo.of_eq rfl | exact binds_K (by k_in) rfl (by k_is) rfl rfl rfl | fail "k_enter: no rule for these arguments"); (case c5 => decide); (case kB => exact locs rfl); (case c2 => exact rfl); (case c3 => exact rfl); (case c4 => exact rfl); k_whole; intro g' L' h' FG' F' N' B' X' T'; (try dsimp only); (try k_fold))
  replace F' : Fr g' L' h' (fun y => List.lookup y [(Str.ofString "many", Value.int 9 t1), (Str.ofString "script", Value.ref sc)]) := F'
  have hsc' : g'.IsList sc vs.toArray := hsc.at fun o e => FG'.keep _ _ e
  clear hsc
  k_steps
  rename_i Dx wsx _ _ _ _ _ fa ys _ _ _ _ _ nX iX _ lF lN
  have hys : ys.length = min 9 ns.length := by
    have h9 := iX.length
    rw [List.length_map, List.filter_eq_self.mpr (fun _ _ => rfl), List.length_take] at h9
    omega
  have hfan : ∀ p ∈ news, (∀ vs n, p.2 ≠ rowO vs n) → p.1 ≠ fa := fun p hp hn e => by
    have h1 := (lN p (List.mem_cons_of_mem _ (List.mem_cons_of_mem _ hp))).1
    have h2 := (lN _ List.mem_cons_self).1
    rw [e] at h1
    dsimp only at h2
    rw [h2] at h1
    exact hn _ _ (Option.some.inj h1).symm
  refine Stop.mk ?_
  refine listB (σ := Int × Tok) [Str.ofString "x", Str.ofString "last"] (fun c => [(Str.ofString "last", Value.int c.1 c.2)])
    (fun k c nw => (0 ≤ c.1 ∧ c.1 < 2147483648) ∧ (∀ p ∈ news, (∀ vs n, p.2 ≠ rowO vs n) → p ∈ nw) ∧ ∃ n, (fa, rowO ys n) ∈ nw) (7 + (ns.length : Int), _)
    rfl hsc' lF lN (by intro p hp; rw [List.mem_singleton.mp hp]; rfl) ⟨(by show 0 ≤ 7 + (ns.length : Int) ∧ 7 + (ns.length : Int) < 2147483648; omega), fun p hp _ => List.mem_cons_of_mem _ (List.mem_cons_of_mem _ hp), nX, List.mem_cons_self⟩ ?_ ?_
  · intro k v ⟨la, tl⟩ u1 nw1 h3 tk4 I o hv ⟨hla, hold, fn, hfa⟩ hI F4 N4
    change Fr g' L' h3 _ at F4
    change News g' L' h3 _ at N4
    obtain ⟨xk, xt, rfl, hxk⟩ := hi.at k v hv
    dsimp only at hla
    try k_fold
    k_steps
    rename_i F7 N7
    exact turn_end ((la * 31 + xk).fmod 2147483647, _) F7 N7 List.mem_cons_self (by intro p hp; rw [List.mem_singleton.mp hp]; rfl) (by repeat (first | exact keep_mapAt (by rfl) | refine keep_map2 (by rfl) (by decide) (fun _ _ => rfl) | refine keep_ite (by decide) ?_)) ⟨fmod_in _, fun p hp hn => mem_offL.mpr ⟨List.mem_cons_of_mem _ (hold p hp hn), hI p (hold p hp hn)⟩, fn, mem_offL.mpr ⟨List.mem_cons_of_mem _ hfa, hI _ hfa⟩⟩
  · intro ⟨la, tl⟩ u1 nw1 h3 tk4 ⟨hla, hold, fn, hfa⟩ F4 N4
    change Fr g' L' h3 _ at F4
    change News g' L' h3 _ at N4
    dsimp only at hla
    k_steps
    refine Stop.mk ?_
    refine whileS (σ := Int × Tok × List Value × List Int) [Str.ofString "last"] (fun c => [(Str.ofString "last", Value.int c.1 c.2.1)])
      (fun c nw => (0 ≤ c.1 ∧ c.1 < 2147483648) ∧ (∀ p ∈ news, (∀ vs n, p.2 ≠ rowO vs n) → p ∈ nw) ∧ (∃ n, (fa, rowO c.2.2.1 n) ∈ nw) ∧ IntsAre c.2.2.1 c.2.2.2 ∧ c.2.2.1.length ≤ 9) (fun c => 9 - c.2.2.1.length)
      (la, tl, ys, _) F4 N4 (by intro p hp; rw [List.mem_singleton.mp hp]; rfl) ⟨hla, hold, ⟨fn, hfa⟩, iX, (by show ys.length ≤ 9; omega)⟩ ?_
    intro ⟨lb, tb, zs, ms⟩ u2 nw2 h5 tk5 ⟨hlb, hold2, ⟨fn2, hfa2⟩, hzs, hms⟩ F6 N6
    change Fr g' L' h5 _ at F6
    change News g' L' h5 _ at N6
    dsimp only at hlb hfa2 hzs hms
    try k_fold
    k_steps
    · rename_i F7 N7
      refine turn_endW ((lb * 48271 + 11).fmod 2147483647, _, zs ++ [_], ms ++ [_]) F7 N7 (by intro p hp; rw [List.mem_singleton.mp hp]; rfl) (by repeat (first | exact keep_mapAt (by rfl) | refine keep_map2 (by rfl) (by decide) (fun _ _ => rfl) | refine keep_ite (by decide) ?_)) ⟨fmod_in _, fun p hp hn => updL_mem_ne (hfan p hp hn) (hold2 p hp hn), ⟨_, updL_mem_self hfa2⟩, hzs.append (.cons _ _ .nil), ?_⟩ ?_
      · show (zs ++ [_]).length ≤ 9
        rw [List.length_append, List.length_singleton]; omega
      · show 9 - (zs ++ [_]).length < 9 - zs.length
        rw [List.length_append, List.length_singleton]; omega
    · rename_i kF kN _ _
      exact ret _ _ _ zs ms fn2 nw2 kF kN hfa2 hzs (by have := hzs.length; omega) hold2
end Mine
end
section
open PySem PySem.W PyProof.Rows
set_option maxRecDepth 100000
set_option maxHeartbeats 4000000
namespace Mine
local macro_rules | `(tactic| walk_at "subscriptTail") => `(tactic| (k_here; (with_reducible show wpAny _ _ (subscriptTail _ _ (Value.str _ _) (Value.int _ _)) _ _ _); refine' item_str (fitsSsize_of (N := 9223372036854775808) ?k1 ?k2 (Int.le_refl _)) ?k3 ?k4 ?_ ?k5 ?k6; (case k5 => with_unfolding_all rfl); (case k6 => intro _; with_unfolding_all rfl); (case k1 => omega); (case k2 => omega); (case k3 => omega); (case k4 => omega); intro _))
local macro_rules | `(tactic| walk_at "subscriptTail") => `(tactic| (k_here; (with_reducible show wpAny _ _ (subscriptTail _ _ (Value.ref _) (Value.int _ _)) _ _ _); k_dflt (refine' tab_row ?k1 ?k2 ?k3 ?k4 ?_ ?k5; (case k1 => k_asm); (case k2 => with_reducible assumption); (case k3 => omega); (case k4 => omega); (case k5 => with_unfolding_all rfl); intro r9 hr9)))
local macro_rules | `(tactic| walk_at "subscriptTail") => `(tactic| (k_here; (with_reducible show wpAny _ _ (subscriptTail _ _ (Value.ref _) (Value.int _ _)) _ _ _); k_dflt (refine' tab_cell ?k1 ?k2 ?k0 ?k3 ?k4 ?_ ?k5; (case k1 => k_asm); (case k0 => with_reducible assumption); (case k2 => with_reducible assumption); (case k3 => omega); (case k4 => omega); (case k5 => with_unfolding_all rfl); intro r9)))
local macro_rules | `(tactic| walk_at "call builtin:min") => `(tactic| (k_here; (with_reducible show wpAny _ _ (call (Value.builtin "min") [Value.int _ _, Value.int _ _, Value.int _ _, Value.int _ _]) _ _ _); k_dflt (refine' min_four ?k1 ?k2 ?k3 ?_; (case k1 => exact rfl); (case k2 => k_asm); (case k3 => k_asm); intro h' tk' t' F' N'; try k_sweep)))
local macro_rules | `(tactic| walk_at "setItem ref int") => `(tactic| (k_here; k_dflt (refine' tab_set ?k1 ?k2 ?k3 ?k4 ?k5 ?k6 ?_; (case k1 => k_asm); (case k2 => k_asm); (case k3 => with_reducible assumption); (case k4 => with_reducible assumption); (case k5 => omega); (case k6 => omega); intro h' news' F' N' I' ha' hk'; try k_sweep)))
local macro_rules | `(tactic| walk_at "exec For Name Call cons nil") => `(tactic| (k_here; (rename Fr _ _ _ _ => lF'); (with_unfolding_all refine' For_invVF lF' ?k1 ?k2 ?_; (case k1 => exact rfl); (case k2 => exact rfl); k_whole)))
local macro_rules | `(tactic| walk_at "exec For Name Name cons nil") => `(tactic| (k_here; (rename Fr _ _ _ _ => lF'); (with_unfolding_all refine' For_invVF lF' ?k1 ?k2 ?_; (case k1 => exact rfl); (case k2 => exact rfl); k_whole)))
local macro_rules | `(tactic| walk_at "pyIter ref") => `(tactic| ((with_reducible show wpAny _ _ (pyIter (Value.ref _)) (fun it s₂ => LoopAtV _ _ _ _ _ _ _ _ _ it s₂) _ _); refine Stop.out ?_))
local macro_rules | `(tactic| walk_at "pyIter ref") => `(tactic| ((with_reducible show wpAny _ _ (pyIter (Value.ref _)) (fun it s₂ => TurnsAt _ _ _ _ _ _ _ _ _ it s₂) _ _); refine Stop.out ?_))
local macro_rules | `(tactic| k_asm) => `(tactic| with_reducible assumption)
local macro_rules | `(tactic| k_mem) => `(tactic| ((show @Membership.mem (Addr × Obj) (List (Addr × Obj)) _ _ _); with_reducible assumption))
local macro_rules | `(tactic| walk_at "call builtin:list.append") => `(tactic| (k_here; (with_reducible show wpAny _ _ (call (Value.builtin "list.append") [Value.ref _, _]) _ _ _); k_dflt (refine' app_L ?k1 ?k2 ?k3 ?k4 ?_; (case k1 => k_asm); (case k2 => k_asm); (case k3 => k_mem); (case k4 => ((try simp only [List.length_map, List.length_append, List.length_cons, List.length_nil]); omega)); intro h' F' N'; try k_sweep)))
local macro_rules | `(tactic| walk_at "binaryOp Mult ref int") => `(tactic| (k_here; (with_reducible show wpAny _ _ (binaryOp Operator.Mult (Value.ref _) (Value.int (Nat.cast _) _)) _ _ _); k_dflt (refine' rep_L ?k1 ?k2 ?k3 ?k4 ?_; (case k1 => k_asm); (case k2 => k_asm); (case k3 => k_mem); (case k4 => omega); intro a' h' F' N' l1; try k_sweep)))
local macro_rules | `(tactic| walk_at "call ref") => `(tactic| (k_here; (with_reducible show wpAny _ _ (call (Value.ref _) _) _ _ _); refine Stop.out ?_))
local macro_rules | `(tactic| walk_at "call builtin:len") => `(tactic| (k_here; (with_reducible show wpAny _ _ (call (Value.builtin "len") [Value.ref _]) _ _ _); k_dflt (refine' tab_len ?k1 ?k2 ?k3 ?_; (case k1 => k_asm); (case k2 => with_reducible assumption); (case k3 => with_reducible assumption); intro tok' tk')))
local macro_rules | `(tactic| walk_at "call builtin:len") => `(tactic| (k_here; (with_reducible show wpAny _ _ (call (Value.builtin "len") [Value.ref _]) _ _ _); k_dflt (refine' tab_lenT ?k1 ?k2 ?_; (case k1 => k_asm); (case k2 => with_reducible assumption); intro tok' tk')))
local macro_rules | `(tactic| units_room) => `(tactic| ((try simp only [units_in1, units_deeper, Around.mark_units]); (try dsimp only [ktrTop]); omega))
local macro_rules | `(tactic| walk_at "eval ListComp") => `(tactic| (refine Stop.out ?_))
local macro_rules | `(tactic| k_mem) => `(tactic| ((show @Membership.mem (Addr × Obj) (List (Addr × Obj)) _ _ _); (repeat (first | with_reducible assumption | refine List.mem_cons_of_mem _ ?_)); done))
local macro_rules | `(tactic| walk_at "subscriptTail") => `(tactic| (k_here; (with_reducible show wpAny _ _ (subscriptTail _ _ (Value.ref _) (Value.int _ _)) _ _ _); k_dflt (refine' lit_at ?k1 ?k2 ?k3 ?k4 ?k5 ?_ ?k6; (case k1 => k_asm); (case k2 => k_mem); (case k3 => omega); (case k4 => omega); (case k5 => rfl); (case k6 => with_unfolding_all rfl))))
local macro_rules | `(tactic| k_updF) => `(tactic| (refine' UpdF.head ?a; (case a => (intro p hp; rcases List.mem_cons.mp hp with e | hp; (rw [e]; exact Nat.ne_of_lt (Nat.lt_succ_self _)); exact Nat.ne_of_lt (Nat.lt_of_lt_of_le (‹∀ p ∈ _, p.1 < _› p hp) (Nat.le_succ_of_le (Nat.le_succ _)))))))
local macro_rules | `(tactic| walk_at "CompSrc") => `(tactic| (refine Stop.out ?_))
local macro_rules | `(tactic| walk_at "subscriptTail") => `(tactic| (k_here; (with_reducible show wpAny _ _ (subscriptTail _ _ (Value.str _ _) (Value.int (Int.fmod _ _) _)) _ _ _); refine' item_f ?k1 ?k2 ?k3 ?_ ?k5 ?k6; (case k5 => with_unfolding_all rfl); (case k6 => intro _; with_unfolding_all rfl); (case k1 => exact rfl); (case k2 => omega); (case k3 => omega); intro c9 t9 hc9))
local macro_rules | `(tactic| walk_at "binaryOp Pow int int") => `(tactic| (k_here; (with_reducible show wpAny _ _ (binaryOp Operator.Pow (Value.int 3 _) (Value.int _ _)) _ _ _); refine' pow3 ?k1 ?k2 ?_; (case k1 => omega); (case k2 => omega); intro b9 tb9 hb9 hb9'))
local macro_rules | `(tactic| walk_at "call builtin:str.join") => `(tactic| (k_here; (with_reducible show wpAny _ _ (call (Value.builtin "str.join") [Value.str _ _, Value.ref _]) _ _ _); k_dflt (refine' join_L ?k1 ?k2 ?k3 ?k4 ?k5 ?k6 ?_; (case k1 => k_asm); (case k2 => k_mem); (case k3 => with_reducible assumption); (case k4 => rfl); (case k5 => with_reducible assumption); (case k6 => omega); intro z' t' k' hz')))
local macro_rules | `(tactic| walk_at "exec For Name Subscript cons nil") => `(tactic| (k_here; (rename Fr _ _ _ _ => lF'); (with_unfolding_all refine' For_invVF lF' ?k1 ?k2 ?_; (case k1 => exact rfl); (case k2 => exact rfl); k_whole)))
local macro_rules | `(tactic| walk_at "none") => `(tactic| fail)
local macro_rules | `(tactic| walk_at "none") => `(tactic| fail)
theorem off_FRows : True := by
  w_top off
  exact True.intro
theorem rows_call
  {w : World} {p : Program} {loose : List Str} {mean : ExcName → Option Value} {mg mb : Str → Option Value}
  {dp un : Nat} {gd : Option (List Code)} {cn : Str} {cs : Scope} {a : Addr} {ccd : Value} {cl : List (Str × Addr)} {outer : List Env} {A₀ : Around} {base h₀ : Heap} {L : Addr} {m : Str → Option Value} {s : Shared} {Q E : Value → Shared → Prop}
  {news : List (Addr × Obj)}
  (B : Below A₀ base outer h₀) (F : Fr h₀ L s.heap m) (X : (hd.heap_39 w.params).In h₀) (N : News h₀ L s.heap news) (Tp : Top p loose mean mg mb h₀) (hk : cs.kind = .function)
  {fa : Addr} {f0 f1 f2 f3 f4 f5 f6 f7 f8 : Int} {u0 u1 u2 u3 u4 u5 u6 u7 u8 : Tok} {n : Nat}
  (hdp : dp + 2 < recursionLimit) (hun : un + 200 < cLine) (hfa : (fa, rowO [.int f0 u0, .int f1 u1, .int f2 u2, .int f3 u3, .int f4 u4, .int f5 u5, .int f6 u6, .int f7 u7, .int f8 u8] n) ∈ news)
  (ret : ∀ h' tk' ta one two t1 t2 news', Fr h₀ L h' m → News h₀ L h' news' → (ta, tupO [.str one t1, .str two t2]) ∈ news' → one.length ≤ 9 → two.length ≤ 9 → (∀ p ∈ news, p ∈ news') → Q (.ref ta) { s with heap := h', toks := tk' }) :
  wpAny (model PySem.Challenge.rw_bz6036_01.row.prog w) (ktrTop dp un gd cn cs L a ccd cl outer) (call (.ref 47) [.ref fa]) Q E s := by
  refine wpAny_call ?_
  revert X; k_fill; intro X
  k_dflt (refine' code_defC ?k1 ?k2 ?k3 ?k4 ?k5 ?kA ?kF ?kK ?k6 ?k7 ?k8 ?k9 ?kB ?kD ?_ ?c2 ?c3 ?c4; (case kA => exact rfl); (case kF => exact rfl); (case kK => assumption); (case k1 => k_asm); (case k2 => k_asm); (case k3 => k_asm); (case k4 => k_asm); (case k5 => k_asm); (case k6 => k_is); (case k7 => k_is); (case k8 => ktr_room); (case k9 => first | exact BindsTo.of_eq rfl | exact binds_K (by k_in) rfl (by k_is) rfl rfl rfl | fail "k_enter: no rule for these arguments"); (case kB => exact rfl); (case kD => decide +kernel); (case c2 => exact rfl); (case c3 => exact rfl); (case c4 => exact rfl); k_whole; intro g' L' h' tk' cells' FG' F' N' Y' B' X' T' l1; k_cells Y'; (try simp only [List.cons_append, List.nil_append] at N'); (try dsimp only); (try k_fold))
  replace F' : Fr g' L' h' (fun _ => none) := F'
  rename_i oS oF dS dF
  replace dS : oS.data = Data.cell none := dS
  replace dF : oF.data = Data.cell (some (Value.ref fa)) := dF
  k_steps
  rename_i oS' F4 N4 dS'
  have hSl : 2 ≤ (Txt.slice "abc" none (some (2 + f0.fmod 2))).length ∧ (Txt.slice "abc" none (some (2 + f0.fmod 2))).length ≤ 3 := by
    have h1 := fmod_lt f0 2 (by decide)
    have h2 := slice_ns_cases "abc" (2 + f0.fmod 2) (by omega)
    have h3 : ("abc" : Str).length = 3 := rfl
    rw [h3] at h2
    omega
  generalize Txt.slice "abc" none (some (2 + f0.fmod 2)) = S at dS' hSl
  refine Stop.mk ?_
  k_dflt refine LCg.ListComp_U (F₀ := F4) (by with_unfolding_all rfl) (by decide) (by rfl) (by decide) (by rfl) ?_
  k_steps
  rename_i hR F5 N5 hk5
  obtain ⟨n1, hn1, hn1'⟩ : ∃ n : Nat, f1.fmod 9 = n ∧ n ≤ 8 := ⟨(f1.fmod 9).toNat, by have := fmod_lt f1 9 (by decide); omega⟩
  rw [hn1] at hR
  refine Stop.mk ?_
  refine LCg.CompSrc.range (n := n1) rfl F5 N5 hR (small_one (by omega) (by omega) (by omega) (by omega)) (by rw [rangeSize_nat]; omega) (Nat.le_trans hn1' (by decide)) ?_
  intro g
  refine strs_rest trivial ?_ ?_
  · intro k t I oI C oC D m₂ ys h tk E' hk hC hx F6 N6
    k_steps
    all_goals first
      | exact F6
      | exact N6
  · intro ys0 ss hy h1 hl
    intro D h tk F6 N6 off
    have hD : (D, rowO ys0 ys0.length) ∈ ((D, LCg.lst ys0) :: (L' + 1 + 1, oS') :: (L' + 1, oF) :: news) := List.mem_cons_self
    k_steps
    · rename_i one t1 _ hone _ F7 N7 _ _
      have hone' : one.length ≤ 8 := by omega
      clear hone hy h1 hl
      refine Stop.mk ?_
      k_dflt refine LCg.ListComp_U (F₀ := F7) (by with_unfolding_all rfl) (by decide) (by rfl) (by decide) (by rfl) ?_
      k_steps
      rename_i hR F8 N8 hk8
      obtain ⟨n2, hn2, hn2'⟩ : ∃ n : Nat, f5.fmod 9 = n ∧ n ≤ 8 := ⟨(f5.fmod 9).toNat, by have := fmod_lt f5 9 (by decide); omega⟩
      rw [hn2] at hR
      refine Stop.mk ?_
      refine LCg.CompSrc.range (n := n2) rfl F8 N8 hR (small_one (by omega) (by omega) (by omega) (by omega)) (by rw [rangeSize_nat]; omega) (Nat.le_trans hn2' (by decide)) ?_
      intro g2
      refine strs_rest trivial ?_ ?_
      · intro k t I oI C oC D m₂ ys h tk E' hk hC hx F6 N6
        k_steps
        all_goals first
          | exact F6
          | exact N6
      · intro ys ss hy h1 hl
        intro D2 h tk F9 N9 off2
        have hD2 : (D2, rowO ys ys.length) ∈ ((D2, LCg.lst ys) :: (D, LCg.lst ys0) :: (L' + 1 + 1, oS') :: (L' + 1, oF) :: news) := List.mem_cons_self
        k_steps
        rename_i two t2 _ htwo D' hT' l1' F10 N10 kF kN _ _
        exact ret _ _ _ one two t1 t2 _ kF kN List.mem_cons_self (by omega) (by omega) fun p hp => by simp [hp]
    · rename_i one t1 _ hone _ _ hf2 _ D3 ws _ F9 N9 hIw hCw hLw l9
      have hws : ws.length ≤ 3 := by
        have h4 := fmod_lt f2 4 (by decide)
        have h5 := hIw.length
        rw [h5, hCw]
        simp only [List.length_cons, List.length_nil]
        omega
      have hone' : one.length ≤ 8 := by omega
      clear hone hy h1 hl hCw hLw hD
      refine Stop.mk ?_
      refine listS (l := D3) (vs := ws) (nn := 0) (σ := Str × Tok) [Str.ofString "x", Str.ofString "at", Str.ofString "two"] (fun c => [(Str.ofString "two", Value.str c.1 c.2)])
        (fun k c nw => c.1.length ≤ 8 + k ∧ ∀ p ∈ ((D3, rowO ws 0) :: (D, LCg.lst ys0) :: (L' + 1 + 1, oS') :: (L' + 1, oF) :: news), p ∈ nw) (one, t1)
        rfl (fun _ _ _ h => h.2 _ List.mem_cons_self) F9 N9 (by intro p hp; rw [List.mem_singleton.mp hp]; rfl) ⟨by show one.length ≤ 8 + 0; omega, fun _ hp => hp⟩ ?_ ?_
      · intro k v ⟨two, t2⟩ u1 nw1 h3 tk4 I o hv ⟨htw, hold⟩ hI F10 N10
        change Fr g' L' h3 (fun y => if y = _ then some _ else mapAt _ _ u1 [(Str.ofString "two", Value.str two t2)] y) at F10
        change News g' L' h3 _ at N10
        obtain ⟨xk, xt, rfl, hxk⟩ := hIw.at k v hv
        have hk3 : k < ws.length := (List.getElem?_eq_some_iff.mp hv).1
        have hmS : (L' + 1 + 1, oS') ∈ nw1 := hold _ (List.mem_cons_of_mem _ (List.mem_cons_of_mem _ List.mem_cons_self))
        dsimp only at htw
        have htw' : two.length ≤ 11 := by omega
        have hat := fmod_lt (xk.fdiv 3) ((two.length : Int) + 1) (by omega)
        have hs1 := slice_ns_cases two ((xk.fdiv 3).fmod ((two.length : Int) + 1)) hat.1
        have hs2 := slice_sn_cases two ((xk.fdiv 3).fmod ((two.length : Int) + 1)) hat.1
        have hs3 := slice_sn_cases two ((xk.fdiv 3).fmod ((two.length : Int) + 1) + 1) (by omega)
        try k_fold
        k_steps
        all_goals
          rename_i F11 N11
          refine turn_end (_, _) F11 N11 List.mem_cons_self (by intro p hp; rw [List.mem_singleton.mp hp]; rfl) (by repeat (first | exact keep_mapAt (by rfl) | refine keep_map2 (by rfl) (by decide) (fun _ _ => rfl) | refine keep_ite (by decide) ?_)) ⟨?_, fun p hp => mem_offL.mpr ⟨List.mem_cons_of_mem _ (hold p hp), hI p (hold p hp)⟩⟩
          dsimp only
          omega
      · intro ⟨two, t2⟩ u1 nw1 h3 tk4 ⟨htw, hold⟩ F10 N10
        change Fr g' L' h3 _ at F10
        change News g' L' h3 _ at N10
        dsimp only at htw
        have htw' : two.length ≤ 11 := by omega
        replace N10 : News g' L' h3 ((D3, rowO ws 0) :: (D, LCg.lst ys0) :: (L' + 1 + 1, oS') :: (L' + 1, oF) :: news) := fun p hp => N10 p (hold p hp)
        have h9 := slice_ns_cases two 9 (by decide)
        k_steps
        rename_i D' hT' l1' F11 N11 kF kN _ _
        exact ret _ _ _ one _ t1 _ _ kF kN List.mem_cons_self (by omega) (by omega) fun p hp => by simp [hp]
end Mine
end
section
open PySem PySem.W PyProof.Rows
set_option maxRecDepth 100000
set_option maxHeartbeats 20000000
namespace Mine
local macro_rules | `(tactic| walk_at "subscriptTail") => `(tactic| (k_here; (with_reducible show wpAny _ _ (subscriptTail _ _ (Value.str _ _) (Value.int _ _)) _ _ _); refine' item_str (fitsSsize_of (N := 9223372036854775808) ?k1 ?k2 (Int.le_refl _)) ?k3 ?k4 ?_ ?k5 ?k6; (case k5 => with_unfolding_all rfl); (case k6 => intro _; with_unfolding_all rfl); (case k1 => omega); (case k2 => omega); (case k3 => omega); (case k4 => omega); intro _))
local macro_rules | `(tactic| walk_at "subscriptTail") => `(tactic| (k_here; (with_reducible show wpAny _ _ (subscriptTail _ _ (Value.ref _) (Value.int _ _)) _ _ _); k_dflt (refine' tab_row ?k1 ?k2 ?k3 ?k4 ?_ ?k5; (case k1 => k_asm); (case k2 => with_reducible assumption); (case k3 => omega); (case k4 => omega); (case k5 => with_unfolding_all rfl); intro r9 hr9)))
local macro_rules | `(tactic| walk_at "subscriptTail") => `(tactic| (k_here; (with_reducible show wpAny _ _ (subscriptTail _ _ (Value.ref _) (Value.int _ _)) _ _ _); k_dflt (refine' tab_cell ?k1 ?k2 ?k0 ?k3 ?k4 ?_ ?k5; (case k1 => k_asm); (case k0 => with_reducible assumption); (case k2 => with_reducible assumption); (case k3 => omega); (case k4 => omega); (case k5 => with_unfolding_all rfl); intro r9)))
local macro_rules | `(tactic| walk_at "call builtin:min") => `(tactic| (k_here; (with_reducible show wpAny _ _ (call (Value.builtin "min") [Value.int _ _, Value.int _ _, Value.int _ _, Value.int _ _]) _ _ _); k_dflt (refine' min_four ?k1 ?k2 ?k3 ?_; (case k1 => exact rfl); (case k2 => k_asm); (case k3 => k_asm); intro h' tk' t' F' N'; try k_sweep)))
local macro_rules | `(tactic| walk_at "setItem ref int") => `(tactic| (k_here; k_dflt (refine' tab_set ?k1 ?k2 ?k3 ?k4 ?k5 ?k6 ?_; (case k1 => k_asm); (case k2 => k_asm); (case k3 => with_reducible assumption); (case k4 => with_reducible assumption); (case k5 => omega); (case k6 => omega); intro h' news' F' N' I' ha' hk'; try k_sweep)))
local macro_rules | `(tactic| walk_at "exec For Name Call cons nil") => `(tactic| (k_here; (rename Fr _ _ _ _ => lF'); (with_unfolding_all refine' For_invVF lF' ?k1 ?k2 ?_; (case k1 => exact rfl); (case k2 => exact rfl); k_whole)))
local macro_rules | `(tactic| walk_at "exec For Name Name cons nil") => `(tactic| (k_here; (rename Fr _ _ _ _ => lF'); (with_unfolding_all refine' For_invVF lF' ?k1 ?k2 ?_; (case k1 => exact rfl); (case k2 => exact rfl); k_whole)))
local macro_rules | `(tactic| walk_at "pyIter ref") => `(tactic| ((with_reducible show wpAny _ _ (pyIter (Value.ref _)) (fun it s₂ => LoopAtV _ _ _ _ _ _ _ _ _ it s₂) _ _); refine Stop.out ?_))
local macro_rules | `(tactic| walk_at "pyIter ref") => `(tactic| ((with_reducible show wpAny _ _ (pyIter (Value.ref _)) (fun it s₂ => TurnsAt _ _ _ _ _ _ _ _ _ it s₂) _ _); refine Stop.out ?_))
local macro_rules | `(tactic| k_asm) => `(tactic| with_reducible assumption)
local macro_rules | `(tactic| k_mem) => `(tactic| ((show @Membership.mem (Addr × Obj) (List (Addr × Obj)) _ _ _); with_reducible assumption))
local macro_rules | `(tactic| walk_at "call builtin:list.append") => `(tactic| (k_here; (with_reducible show wpAny _ _ (call (Value.builtin "list.append") [Value.ref _, _]) _ _ _); k_dflt (refine' app_L ?k1 ?k2 ?k3 ?k4 ?_; (case k1 => k_asm); (case k2 => k_asm); (case k3 => k_mem); (case k4 => ((try simp only [List.length_map, List.length_append, List.length_cons, List.length_nil]); omega)); intro h' F' N'; try k_sweep)))
local macro_rules | `(tactic| walk_at "binaryOp Mult ref int") => `(tactic| (k_here; (with_reducible show wpAny _ _ (binaryOp Operator.Mult (Value.ref _) (Value.int (Nat.cast _) _)) _ _ _); k_dflt (refine' rep_L ?k1 ?k2 ?k3 ?k4 ?_; (case k1 => k_asm); (case k2 => k_asm); (case k3 => k_mem); (case k4 => omega); intro a' h' F' N' l1; try k_sweep)))
local macro_rules | `(tactic| walk_at "call ref") => `(tactic| (k_here; (with_reducible show wpAny _ _ (call (Value.ref _) _) _ _ _); refine Stop.out ?_))
local macro_rules | `(tactic| walk_at "call builtin:len") => `(tactic| (k_here; (with_reducible show wpAny _ _ (call (Value.builtin "len") [Value.ref _]) _ _ _); k_dflt (refine' tab_len ?k1 ?k2 ?k3 ?_; (case k1 => k_asm); (case k2 => with_reducible assumption); (case k3 => with_reducible assumption); intro tok' tk')))
local macro_rules | `(tactic| walk_at "call builtin:len") => `(tactic| (k_here; (with_reducible show wpAny _ _ (call (Value.builtin "len") [Value.ref _]) _ _ _); k_dflt (refine' tab_lenT ?k1 ?k2 ?_; (case k1 => k_asm); (case k2 => with_reducible assumption); intro tok' tk')))
local macro_rules | `(tactic| units_room) => `(tactic| ((try simp only [units_in1, units_deeper, Around.mark_units]); (try dsimp only [ktrTop]); omega))
local macro_rules | `(tactic| k_mem) => `(tactic| ((show @Membership.mem (Addr × Obj) (List (Addr × Obj)) _ _ _); (repeat (first | with_reducible assumption | refine List.mem_cons_of_mem _ ?_)); done))
local macro_rules | `(tactic| walk_at "eval ListComp") => `(tactic| (refine Stop.out ?_))
local macro_rules | `(tactic| walk_at "CompSrc") => `(tactic| (refine Stop.out ?_))
local macro_rules | `(tactic| walk_at "subscriptTail") => `(tactic| (k_here; (with_reducible show wpAny _ _ (subscriptTail _ _ (Value.ref _) (Value.int _ _)) _ _ _); k_dflt (refine' tab_top3 ?k1 ?k2 ?k3 ?k6 ?k4 ?_ ?k5; (case k1 => k_asm); (case k2 => ((refine IsTab.sub' (by with_reducible assumption) ?_; intro p hp; (repeat (first | exact hp | refine List.mem_cons_of_mem _ ?_)); done))); (case k3 => exact rfl); (case k6 => omega); (case k4 => with_reducible assumption); (case k5 => with_unfolding_all rfl); intro r9 hR9)))
local macro_rules | `(tactic| walk_at "subscriptTail") => `(tactic| (k_here; (with_reducible show wpAny _ _ (subscriptTail _ _ (Value.ref _) (Value.int _ _)) _ _ _); k_dflt (refine' tab_last ?k1 ?k2 ?k3 ?k4 ?_ ?k5; (case k1 => k_asm); (case k2 => ((refine IsTab.sub' (by with_reducible assumption) ?_; intro p hp; (repeat (first | exact hp | refine List.mem_cons_of_mem _ ?_)); done))); (case k3 => exact rfl); (case k4 => with_reducible assumption); (case k5 => with_unfolding_all rfl))))
local macro_rules | `(tactic| walk_at "subscriptTail") => `(tactic| (k_here; (with_reducible show wpAny _ _ (subscriptTail _ _ (Value.ref _) (Value.int _ _)) _ _ _); k_dflt (refine' row_last ?k1 ?k2 ?k3 ?k4 ?k6 ?_ ?k5; (case k1 => k_asm); (case k2 => ((refine IsTab.sub' (by with_reducible assumption) ?_; intro p hp; (repeat (first | exact hp | refine List.mem_cons_of_mem _ ?_)); done))); (case k3 => exact rfl); (case k4 => with_reducible assumption); (case k6 => omega); (case k5 => with_unfolding_all rfl); intro r9)))
local macro_rules | `(tactic| walk_at "subscriptTail") => `(tactic| (k_here; (with_reducible show wpAny _ _ (subscriptTail _ _ (Value.ref _) (Value.int _ _)) _ _ _); k_dflt (refine' tab_cell ?k1 ?k2 ?k0 ?k3 ?k4 ?_ ?k5; (case k1 => k_asm); (case k0 => with_reducible assumption); (case k2 => ((refine IsTab.sub' (by with_reducible assumption) ?_; intro p hp; (repeat (first | exact hp | refine List.mem_cons_of_mem _ ?_)); done))); (case k3 => omega); (case k4 => omega); (case k5 => with_unfolding_all rfl); intro r9)))
local macro_rules | `(tactic| walk_at "exec Assign cons ListComp") => `(tactic| (refine Stop.out ?_))
local macro_rules | `(tactic| walk_at "compareOp NotEq ref ref") => `(tactic| (k_here; (with_reducible show wpAny _ _ (compareOp CmpOp.NotEq (Value.ref _) (Value.ref _)) _ _ _); ((k_dflt (refine ne_ints_same (by is_list) (by is_list) (by l_ints) (by l_ints) (by with_reducible assumption) ?hu ?_; (case hu => exact Nat.le_of_ble_eq_true rfl))))))
local macro_rules | `(tactic| walk_at "compareOp NotEq ref ref") => `(tactic| (k_here; (with_reducible show wpAny _ _ (compareOp CmpOp.NotEq (Value.ref _) (Value.ref _)) _ _ _); k_dflt (refine' ne_row ?r1 ?r2 ?r3 ?r4 ?r5 ?hu ?_; (case r1 => with_reducible assumption); (case r2 => k_asm); (case r3 => (intro p hp; (repeat (first | exact hp | refine List.mem_cons_of_mem _ ?_)); done)); (case r4 => is_list); (case r5 => with_reducible assumption); (case hu => exact Nat.le_of_ble_eq_true rfl))))
local macro_rules | `(tactic| walk_at "call type:list") => `(tactic| (k_here; (with_reducible show wpAny _ _ (call (Value.type _) [Value.ref _]) _ _ _); k_dflt (refine' kup_listOf ?F ?N ?b ?e ?_ ?z; (case F => k_asm); (case N => k_asm); (case b => k_mem); (case e => exact rfl); (case z => exact Nat.le_trans (‹List.length _ ≤ 1000›) (by decide)); intro D' c' h' F' N' l1)))
local macro_rules | `(tactic| walk_at "compareOp NotEq ref ref") => `(tactic| (k_here; (with_reducible show wpAny _ _ (compareOp CmpOp.NotEq (Value.ref _) (Value.ref _)) _ _ _); k_dflt (refine' tab_ne ?r1 ?r2 ?r3 ?hu ?_; (case r1 => k_asm); (case r2 => with_reducible assumption); (case r3 => with_reducible assumption); (case hu => exact Nat.le_of_ble_eq_true rfl))))
local macro_rules | `(tactic| walk_at "subscriptTail") => `(tactic| (k_here; (with_reducible show wpAny _ _ (subscriptTail _ _ (Value.ref _) (Value.int 7 _)) _ _ _); k_dflt (refine' lit_at ?k1 ?k2 ?k3 ?k4 ?k5 ?_ ?k6; (case k1 => k_asm); (case k2 => k_mem); (case k3 => decide); (case k4 => decide); (case k5 => rfl); (case k6 => with_unfolding_all rfl))))
local macro_rules | `(tactic| walk_at "call type:set cons nil") => `(tactic| (refine Stop.out ?_))
local macro_rules | `(tactic| walk_at "call builtin:sorted") => `(tactic| (refine Stop.out ?_))
theorem off_FMain : True := by
  w_top off
  exact True.intro
theorem ed_max {sub : Nat → Nat → Int} (h : ∀ i j, sub i j = 0 ∨ sub i j = 1) : ∀ i j : Nat, ed sub i j ≤ (max i j : Nat)
  | 0, j => by rw [ed_zero]; omega
  | i + 1, 0 => by rw [ed_left]; omega
  | i + 1, j + 1 => by
    have h1 := ed_diag h i j
    have h2 := ed_max h i j
    omega
theorem main : PySem.Challenge.rw_bz6036_01.Holds := by
  refine hd ?_
  k_go0
  rename_i h1 X1 T1 B1 F1 N1 l01
  rename_i wd s0 s1 mg mb G Y fa0 o0 pm cd doc kV ho hcd hg X0 V0 T0 Tb TE TW ns hs hlay0 hL1 hr1 hl2 wa wb sc vs wc hL ra w1 r0 hI hr hc63 htr hD
  have hlen : ns.length ≤ 63 := by omega
  clear r0 w1 ra hL1 hs hr hr1 hl2 hlay0 hL htr hc63
  k_steps
  refine Stop.mk ?_
  k_dflt refine num_call B1 F1 X1 N1 T1 rfl ?_ ?_ lifted hI hlen ?_
  · ktr_room
  · decide
  intro h2 tk2 fa ws ms fn nw2 F2 N2 hfa hws hms hold2
  have h32 : (32, tabObj #[]) ∈ nw2 := hold2 _ (List.mem_singleton.mpr rfl) (by intro vs n e; cases e)
  obtain ⟨f0, f1, f2, f3, f4, f5, f6, f7, f8, u0, u1, u2, u3, u4, u5, u6, u7, u8, rfl⟩ := nine hws hms
  have N2' : News _ _ h2 [(fa, rowO [.int f0 u0, .int f1 u1, .int f2 u2, .int f3 u3, .int f4 u4, .int f5 u5, .int f6 u6, .int f7 u7, .int f8 u8] fn), (32, tabObj #[])] := fun p hp => by
    rcases List.mem_cons.mp hp with rfl | hp
    · exact N2 _ hfa
    · rw [List.mem_singleton.mp hp]; exact N2 _ h32
  clear N2 hfa hold2 h32 hws hms nw2
  k_steps
  refine Stop.mk ?_
  k_dflt refine rows_call B1 (by k_asm) X1 (by k_asm) T1 rfl ?_ ?_ List.mem_cons_self ?_
  · ktr_room
  · decide
  intro h3 tk3 ta one two t1 t2 nw3 F3 N3 hta ho1 ho2 hold3
  have h323 := hold3 _ (List.mem_cons_of_mem _ List.mem_cons_self)
  have hfa3 := hold3 _ List.mem_cons_self
  have N3' : News _ _ h3 [(ta, tupO [.str one t1, .str two t2]), (fa, rowO [.int f0 u0, .int f1 u1, .int f2 u2, .int f3 u3, .int f4 u4, .int f5 u5, .int f6 u6, .int f7 u7, .int f8 u8] fn), (32, tabObj #[])] := fun p hp => by
    rcases List.mem_cons.mp hp with rfl | hp
    · exact N3 _ hta
    · rcases List.mem_cons.mp hp with rfl | hp
      · exact N3 _ hfa3
      · rw [List.mem_singleton.mp hp]; exact N3 _ h323
  clear N3 hta hold3 h323 hfa3 nw3
  k_steps
  refine Stop.mk ?_
  k_dflt refine table_none B1 (by k_asm) X1 (by k_asm) T1 rfl ?_ (by omega) (by omega) ?_
  · ktr_room
  intro h4 tk4 t rows T nw4 F4 N4 hT hP hold4 hap4
  have hf4 := hold4 _ (List.mem_cons_of_mem _ List.mem_cons_self)
  have h324 := hold4 _ (List.mem_cons_of_mem _ (List.mem_cons_of_mem _ List.mem_cons_self))
  have hlr := hT.len
  have hlT := hT.lenT
  obtain ⟨r0, hr0⟩ : ∃ r, rows[(0 : Int).toNat]? = some r := ⟨_, List.getElem?_eq_getElem (by show 0 < rows.length; omega)⟩
  obtain ⟨rl, hrl⟩ : ∃ r, rows[one.length + 1 - 1]? = some r := ⟨_, List.getElem?_eq_getElem (by omega)⟩
  k_steps
  rename_i F5 N5
  have hsub : ∀ i j, subC one two i j = 0 ∨ subC one two i j = 1 := by
    intro i j; unfold subC; split <;> simp
  have hed : ∀ i j, i < one.length + 1 → j < two.length + 1 → cell T i j = ed (subC one two) i j := Part.whole hsub hP
  have hcol : ∀ i, i < one.length + 1 → cell T i 0 = i := fun i hi => by rw [hed i 0 hi (by omega), ed_left]
  have hrow : ∀ j, j < two.length + 1 → cell T 0 j = j := fun j hj => by rw [hed 0 j (by omega) hj, ed_zero]
  obtain ⟨on, hon⟩ := hT.outer
  have hsz : (rows.map Value.ref).toArray.size = one.length + 1 := by rw [List.size_toArray, List.length_map, hlr]
  refine Stop.mk ?_
  k_dflt refine LCg.ListComp_U (F₀ := F5) (by with_unfolding_all rfl) (by decide) (by rfl) (by decide) (by rfl) ?_
  k_steps
  refine Stop.mk ?_
  refine LCg.CompSrc.ledger rfl F5 N5 hon (Nat.le_trans (Nat.le_of_eq hsz) (Nat.le_trans (by omega : one.length + 1 ≤ 100) (by decide))) ?_
  intro g
  refine rest_grow (fun k ys nw => nw = nw4 ∧ IntsAre ys ((List.range k).map fun (i : Nat) => (i : Int))) ⟨rfl, .nil⟩ ?_ ?_
  · rintro k v I oI C oC D m₂ ys nw h tk E' hk hv ⟨rfl, hy⟩ hC hx F6 N6 hoff
    have hv' : (rows.map Value.ref)[k]? = some v := by simpa using hv
    rw [List.getElem?_map] at hv'
    obtain ⟨rk, hrk, rfl⟩ := Option.map_eq_some_iff.mp hv'
    have hk' : k < one.length + 1 := by rw [hsz] at hk; exact hk
    have hck : cell T k (0 : Int).toNat = k := hcol k hk'
    k_steps
    refine ⟨_, _, _, rfl, F6, N6, hoff, .inr ⟨_, hon, rfl, _, rfl⟩, rfl, ?_⟩
    rw [List.range_succ, List.map_append]
    exact hy.append (hck ▸ .cons _ _ .nil)
  · rintro ys nw ⟨rfl, hy⟩
    rw [hsz] at hy
    obtain ⟨nsy, hy, hnsy⟩ : ∃ ns, IntsAre ys ns ∧ ns = rangeKs 0 ((one.length : Int) + 1 - 0).toNat := ⟨_, hy, rk_eq _⟩
    intro D h tk F6 N6 off
    k_steps
    refine Stop.mk ?_
    k_dflt refine smooth_call (H := one.length + 1) (W := two.length + 1) B1 (by k_asm) X1 (by k_asm) T1 rfl ?_ (by ((refine IsTab.sub' (by with_reducible assumption) ?_; intro p hp; (repeat (first | exact hp | refine List.mem_cons_of_mem _ ?_)); done))) (by omega) (by omega) ?_ ?_ ?_ ?_
    · ktr_room
    · intro i j hi hj
      rw [hed _ _ hi hj, hed _ _ (by omega) hj]
      have h1 := ed_up_a (sub := subC one two) i j
      have h2 := ed_lo_a hsub i j
      omega
    · intro i j hi hj
      rw [hed _ _ hi hj, hed _ _ hi (by omega)]
      have h1 := ed_up_b (sub := subC one two) i j
      have h2 := ed_lo_b hsub i j
      omega
    · intro i j hi hj
      rw [hed _ _ hi hj, hed _ _ (by omega) (by omega)]
      have h1 := ed_diag hsub i j
      omega
    intro h5 tk5 F7 N7
    k_steps
    rename_i hI1 _ _ hRa _ _ _ _ _ _ _ _ _ _ _ _ hI2 _ tw h9 F8 N8
    clear hI1 hI2 hRa hy hnsy
    replace N8 : News _ _ h9 nw := fun p hp => N8 p (List.mem_cons_of_mem _ (List.mem_cons_of_mem _ (List.mem_cons_of_mem _ hp)))
    refine Stop.mk ?_
    k_dflt refine LCg.Assign_ListComp_U (F₀ := F8) (by rfl) (by with_unfolding_all rfl) (by with_unfolding_all rfl) (by decide) (by rfl) (by decide) (by rfl) (by rfl) (by rfl) ?_
    k_steps
    refine Stop.mk ?_
    refine LCg.CompSrc.ledger rfl F8 N8 hon (Nat.le_trans (Nat.le_of_eq hsz) (Nat.le_trans (by omega : one.length + 1 ≤ 100) (by decide))) ?_
    intro g9
    refine rest_grow (fun k ys nw' => (∀ p ∈ nw, p ∈ nw') ∧ ∃ krows : List Addr, ys = krows.map Value.ref ∧ krows.length = k ∧ krows.Nodup ∧ ∀ i r, krows[i]? = some r → ∃ vs n ns, T[i]? = some ns ∧ (r, rowO vs n) ∈ nw' ∧ IntsAre vs ns) ⟨fun _ hp => hp, [], rfl, rfl, List.nodup_nil, (by intro i r h; rw [List.getElem?_nil] at h; cases h)⟩ ?_ ?_
    · rintro k v I oI C oC D m₂ ys nw' h tk E' hk hv ⟨hkeep, krows, rfl, hkl, hnd, hkr⟩ hC hx F6 N6 hoff
      have hv' : (rows.map Value.ref)[k]? = some v := by simpa using hv
      rw [List.getElem?_map] at hv'
      obtain ⟨rk, hrk, rfl⟩ := Option.map_eq_some_iff.mp hv'
      have hk' : k < one.length + 1 := by rw [hsz] at hk; exact hk
      obtain ⟨vsk, nk, nsk, hTk, hmk, hik⟩ := hT.row k rk hrk
      have hmk' := hkeep _ hmk
      have hvl : vsk.length ≤ 1000 := by
        have e1 := hik.length
        have e2 := hT.wide _ (List.mem_of_getElem? hTk)
        omega
      k_steps
      rename_i Dk ck hk7 F7 N7 l7
      have hb : ∀ p ∈ nw', p.1 < Dk := fun p hp => l7 p (List.mem_cons_of_mem _ (List.mem_cons_of_mem _ (List.mem_cons_of_mem _ hp)))
      refine ⟨_, _, (Dk, rowO vsk ck) :: nw', rfl, F7, ?_, ?_, .inr ⟨_, List.mem_cons_of_mem _ (hkeep _ hon), rfl, _, rfl⟩, fun p hp => List.mem_cons_of_mem _ (hkeep p hp), krows ++ [Dk], by rw [List.map_append]; rfl, by rw [List.length_append, hkl]; rfl, ?_, ?_⟩
      · intro p hp
        refine N7 p ?_
        simp only [List.mem_cons] at hp ⊢
        rcases hp with hp | hp | hp | hp | hp <;> simp [hp]
      · intro p hp
        rcases List.mem_cons.mp hp with rfl | hp
        · exact ⟨Ne.symm (Nat.ne_of_lt (l7 (I, oI) List.mem_cons_self)), Ne.symm (Nat.ne_of_lt (l7 (C, oC) (List.mem_cons_of_mem _ List.mem_cons_self))), Ne.symm (Nat.ne_of_lt (l7 (D, _) (List.mem_cons_of_mem _ (List.mem_cons_of_mem _ List.mem_cons_self))))⟩
        · exact hoff p hp
      · rw [List.nodup_append]
        refine ⟨hnd, by simp, fun r hr r' hr' e => ?_⟩
        rw [List.mem_singleton.mp hr'] at e
        obtain ⟨i, hi⟩ := List.getElem?_of_mem hr
        obtain ⟨_, _, _, _, hm, _⟩ := hkr i r hi
        exact absurd (hb _ hm) (e ▸ Nat.lt_irrefl _)
      · intro i r hr
        by_cases hi : i < krows.length
        · rw [List.getElem?_append_left hi] at hr
          obtain ⟨a1, a2, a3, a4, a5, a6⟩ := hkr i r hr
          exact ⟨a1, a2, a3, a4, List.mem_cons_of_mem _ a5, a6⟩
        · have hi2 := (List.getElem?_eq_some_iff.mp hr).1
          rw [List.length_append, List.length_singleton] at hi2
          rw [List.getElem?_append_right (by omega), show i - krows.length = 0 from by omega] at hr
          have e : Dk = r := by simpa using hr
          subst e
          exact ⟨vsk, ck, nsk, by rw [show i = k from by omega]; exact hTk, List.mem_cons_self, hik⟩
    · rintro ys nw' ⟨hkeep, krows, rfl, hkl, hnd, hkr⟩
      intro D h tk F9 N9 off
      have hK := copy_tab hT hkl hsz hnd hkr off
      have h32k : (32, tabObj #[]) ∈ (D, LCg.lst (krows.map Value.ref)) :: nw' := List.mem_cons_of_mem _ (hkeep _ h324)
      have hT9 : IsTab ((D, LCg.lst (krows.map Value.ref)) :: nw') t rows T (one.length + 1) (two.length + 1) := hT.sub' fun p hp => List.mem_cons_of_mem _ (hkeep p hp)
      have hf9 := List.mem_cons_of_mem (D, LCg.lst (krows.map Value.ref)) (hkeep _ hf4)
      k_steps
      refine Stop.mk ?_
      k_dflt refine back_call B1 (by k_asm) X1 (by k_asm) T1 rfl ?_ ?_ hT9 (by omega) (by omega) ⟨by omega, by omega⟩ codeHd h32k ?_ ?_
      · ktr_room
      · decide
      · intro i j hi hj
        rw [hed i j hi hj]
        have := ed_in hsub i j
        omega
      intro h10 tk10 wy as P nw10 F10 N10 htr hway hk10 ⟨ps10, hp32⟩
      have hr32 := hT9.ne32 N9 h32k
      have hk32 := hK.ne32 N9 h32k
      have hT10 : IsTab nw10 t rows T (one.length + 1) (two.length + 1) := hT9.sub fun p hp h => hk10 p hp (by
        rcases h with h | h
        · rw [h]; exact hr32.1
        · exact hr32.2 _ h)
      have hK10 : IsTab nw10 D krows T (one.length + 1) (two.length + 1) := hK.sub fun p hp h => hk10 p hp (by
        rcases h with h | h
        · rw [h]; exact hk32.1
        · exact hk32.2 _ h)
      have hf10 := hk10 _ hf9 (ne32_row N9 h32k hf9)
      obtain ⟨V, hok⟩ : ∃ V, WayOk (subC one two) (fun i j => Txt.item one (i : Int) = Txt.item two (j : Int)) (one.length + 1 - 1) (two.length + 1 - 1) (ed (subC one two) (one.length + 1 - 1) (two.length + 1 - 1)) V P.reverse :=
        ⟨_, way_ok (sub := subC one two) (E := fun i j => Txt.item one (i : Int) = Txt.item two (j : Int)) (fun _ _ => rfl) hed (by omega) (by omega) (by omega) (by omega) htr⟩
      have hwv := hed (one.length + 1 - 1) (two.length + 1 - 1) (by omega) (by omega)
      rw [← hwv] at hok
      have hlenP := hok.len
      k_steps
      refine Stop.mk ?_
      k_dflt refine way_call B1 (by k_asm) X1 (by k_asm) T1 rfl ?_ ?_ hway (by omega) hok.pos (by omega) (by omega) hok.first hok.last hok.bd hok.wd hok.step hok.v0 hok.v hok.vl ?_
      · ktr_room
      · decide
      intro h11 tk11 F11 N11
      clear hf9 hT9 hK h32k hr32 hk32 hway htr hok
      k_steps
      rename_i u12 tk12 l12 h12 F12 N12 a12
      clear hK10 hk10 hf10 a12
      have hfm := fmod_lt f7 9 (by decide)
      have hwm := ed_max hsub (one.length + 1 - 1) (two.length + 1 - 1)
      have hw0 := ed_nonneg hsub (one.length + 1 - 1) (two.length + 1 - 1)
      rw [← hwv] at hwm hw0
      generalize hdv : (if (one.length : Int) - (two.length : Int) < 0 then -((one.length : Int) - (two.length : Int)) else (one.length : Int) - (two.length : Int)) = dv at N12
      have hd0 : 0 ≤ dv ∧ dv < 10 := by rw [← hdv]; split <;> omega
      clear hdv
      refine Stop.mk ?_
      have hlay := fun led => lay4 (val := fun i => [0, cell T (one.length + 1 - 1) (two.length + 1 - 1), f7.fmod 9, dv].getD i 0) led rfl (fun i hi => by
        obtain rfl | rfl | rfl | rfl : i = 0 ∨ i = 1 ∨ i = 2 ∨ i = 3 := by omega
        · exact ⟨Int.le_refl _, by show (0 : Int) < 10; decide⟩
        · show 0 ≤ cell T (one.length + 1 - 1) (two.length + 1 - 1) ∧ cell T (one.length + 1 - 1) (two.length + 1 - 1) < 10
          omega
        · show 0 ≤ f7.fmod 9 ∧ f7.fmod 9 < 10
          omega
        · exact hd0)
      refine set_N (ns := [0, cell T (one.length + 1 - 1) (two.length + 1 - 1), f7.fmod 9, dv]) (by rfl) F12 N12 (kso_isList N12 List.mem_cons_self rfl) (.cons _ _ (.cons _ _ (.cons _ _ (.cons _ _ .nil)))) (by show (5 : Nat) < 4096; decide) (hlay _).1 ?_
      intro D13 h13 tk13 o13 F13 N13 a13 hso
      k_steps
      refine Stop.mk ?_
      refine sorted_set (by rfl) F13 N13 List.mem_cons_self hso ?_ (hlay _).2.1 (hlay _).2.2.1 (hlay _).2.2.2 ?_
      · exact Nat.lt_of_le_of_lt (firstMet_length_le _ _) (by show (4 : Nat) < 64; decide)
      intro D14 h14 tk14 vs14 c14 F14 N14 a14 hl14 hv14
      k_steps
      refine Stop.mk ?_
      change News _ _ h14 ((D14, rowO vs14 c14) :: _) at N14
      have hv15 : ∀ v ∈ vs14, ∃ (b : Int) (tb : Tok), v = Value.int b tb ∧ 0 ≤ b ∧ b ≤ 1000 := by
        intro v hv
        obtain ⟨b, hb, tb, rfl⟩ := hv14 v hv
        obtain ⟨j, hj, rfl⟩ := met_in _ _ hb
        have hj4 : j < 4 := hj
        have h3 := (show 0 ≤ [0, cell T (one.length + 1 - 1) (two.length + 1 - 1), f7.fmod 9, dv].getD j 0 ∧ [0, cell T (one.length + 1 - 1) (two.length + 1 - 1), f7.fmod 9, dv].getD j 0 < 10 by
          obtain rfl | rfl | rfl | rfl : j = 0 ∨ j = 1 ∨ j = 2 ∨ j = 3 := by omega
          · exact ⟨Int.le_refl _, by show (0 : Int) < 10; decide⟩
          · show 0 ≤ cell T (one.length + 1 - 1) (two.length + 1 - 1) ∧ cell T (one.length + 1 - 1) (two.length + 1 - 1) < 10
            omega
          · show 0 ≤ f7.fmod 9 ∧ f7.fmod 9 < 10
            omega
          · exact hd0)
        exact ⟨_, tb, rfl, h3.1, by omega⟩
      clear hlay hso hv14 hd0 hfm hl14
      refine listS (l := D14) (vs := vs14) (nn := c14) (σ := Unit) [Str.ofString "bound", Str.ofString "part"] (fun _ => []) (fun k _ nw => (D14, rowO vs14 c14) ∈ nw ∧ ((32 : Addr), tabObj ps10) ∈ nw) ()
        rfl (fun _ _ _ h => h.1) F14 N14 (by intro p hp; cases hp) ⟨List.mem_cons_self, List.mem_cons_of_mem _ (List.mem_cons_of_mem _ (List.mem_cons_of_mem _ hp32))⟩ ?_ ?_
      · intro k v _ u15 nw15 h15 tk15 I15 o15 hv ⟨hm15, hp15⟩ hI15 F15 N15
        change Fr (ghostOf s1.heap [(36, 32)]) s1.heap.objs.size h15 _ at F15
        change News (ghostOf s1.heap [(36, 32)]) s1.heap.objs.size h15 _ at N15
        obtain ⟨b, tb, rfl, hb0, hb1⟩ := hv15 v (List.mem_of_getElem? hv)
        clear hv15 hv
        k_steps
        refine Stop.mk ?_
        k_dflt refine table_band B1 (by k_asm) X1 (by k_asm) T1 rfl ?_ (by omega) (by omega) hb0 hb1 ?_
        · ktr_room
        intro h16 tk16 t16 rows16 T16 nw16 F16 N16 hT16 hP16 hold16 hap16
        have hlr16 := hT16.len
        obtain ⟨rl16, hrl16⟩ : ∃ r, rows16[one.length + 1 - 1]? = some r := ⟨_, List.getElem?_eq_getElem (by omega)⟩
        have hge := Part.band_ge hsub hP16 (by omega) (by omega) (one.length + 1 - 1) (two.length + 1 - 1) (by omega) (by omega)
        have heq := Part.band_eq hsub hP16 (by omega) (by omega) (one.length + 1 - 1) (two.length + 1 - 1) (by omega) (by omega)
        rw [← hwv] at hge heq
        rcases Int.lt_or_le b (cell T (one.length + 1 - 1) (two.length + 1 - 1)) with hcb | hcb
        · have hcb2 : b < cell T16 (one.length + 1 - 1) (two.length + 1 - 1) := by omega
          clear heq
          k_steps
          rename_i h17 F17 N17 tk17 r17
          exact turn_end () F17 N17 (hold16 _ List.mem_cons_self) (by intro p hp; cases hp) (by repeat (first | exact keep_mapAt (by rfl) | refine keep_map2 (by rfl) (by decide) (fun _ _ => rfl) | refine keep_ite (by decide) ?_)) ⟨mem_offL.mpr ⟨hold16 _ (List.mem_cons_of_mem _ hm15), hI15 _ hm15⟩, mem_offL.mpr ⟨hold16 _ (List.mem_cons_of_mem _ hp15), hI15 _ hp15⟩⟩
        · have hcb2 := heq hcb
          clear heq
          k_steps
          · exact absurd hcb2 (by assumption)
          · rename_i h17 F17 N17 tk17 r17 a17
            exact turn_end () F17 N17 (hold16 _ List.mem_cons_self) (by intro p hp; cases hp) (by repeat (first | exact keep_mapAt (by rfl) | refine keep_map2 (by rfl) (by decide) (fun _ _ => rfl) | refine keep_ite (by decide) ?_)) ⟨mem_offL.mpr ⟨hold16 _ (List.mem_cons_of_mem _ hm15), hI15 _ hm15⟩, mem_offL.mpr ⟨hold16 _ (List.mem_cons_of_mem _ hp15), hI15 _ hp15⟩⟩
      · intro _ u15 nw15 h15 tk15 ⟨hm15, hp15⟩ F15 N15
        change Fr (ghostOf s1.heap [(36, 32)]) s1.heap.objs.size h15 _ at F15
        change News (ghostOf s1.heap [(36, 32)]) s1.heap.objs.size h15 _ at N15
        clear hv15 N14 a14 F14 N13 a13 F13 N12 hT10 hlr hlT hr0 hrl hsub hed hcol hrow hon hsz hwm hw0 hwv hlenP hf4 h324 ho1 ho2 hap4 hold4 hkr hnd hkl hP hkeep
        k_steps
end Mine
end
theorem PySem.Challenge.cw_bz6036_01_holds : PySem.Challenge.rw_bz6036_01.Holds := by
  exact Mine.main
