import PyProof.Rows.All
import Wide.All
import OpenK.AllK
import Wide.FinOn
import PySem.Challenge.RW_dp0042_01
open PySem PySem.W PyProof.Rows
set_option Elab.async false
namespace Mine
set_option maxRecDepth 100000
set_option maxHeartbeats 8000000
open_top hd for PySem.Challenge.rw_dp0042_01
end Mine

-- part B1
section
open PySem PySem.W PyProof.Rows
set_option Elab.async false
set_option maxRecDepth 100000
namespace Mine

/-- the order of pairs -/
def lex (p q : Int × Int) : Bool := if p.1 = q.1 then decide (p.2 < q.2) else decide (p.1 < q.1)

abbrev pairObj (p : Int × Int) (t u : Tok) (n : Nat) : Obj := { cls := .type "tuple", data := .seq #[.int p.1 t, .int p.2 u] n }
/-- v is a pair of ints in the heap -/
def PairAt (h : Heap) (v : Value) (p : Int × Int) : Prop := ∃ a t u n, v = .ref a ∧ h.get? a = some (pairObj p t u n)

theorem PairAt.keeps {h h' : Heap} {v : Value} {p : Int × Int} (x : PairAt h v p) (k : h.StaysIn h') : PairAt h' v p := by
  obtain ⟨a, t, u, n, rfl, ho⟩ := x
  exact ⟨a, t, u, n, rfl, k _ _ ho⟩

section
variable {prog : Program} {w : World} {A : Around} {E : Value → Shared → Prop} {s : Shared}

theorem tup_lt {x y : Addr} {p q : Int × Int} {t u t' u' : Tok} {n n' : Nat} {P : PySem.Fin → Shared → Prop} (hx : s.heap.get? x = some (pairObj p t u n)) (hy : s.heap.get? y = some (pairObj q t' u' n'))
    (h : P (.done (.ret (.bool (lex p q)))) s) : wpAny (model prog w) A (Builtin.«tuple.__lt__» ⟨[.ref x, .ref y], []⟩) P E s := by
  have hTb : s.TypeIs (.ref y) "tuple" := ⟨_, hy, rfl⟩
  show wpAny _ _ (isInstance (.ref y) (.type "tuple") >>= _) _ _ s
  refine wpAny_bind (wpAny_isInstance hTb isSubtype_tuple_tuple ?_)
  simp only [Bool.not_true, Bool.false_eq_true, if_false]
  refine wpAny_bind (wpAny_tupleItemsOf hx rfl ?_)
  refine wpAny_bind (wpAny_tupleItemsOf hy rfl ?_)
  refine wpAny_bind ?_
  show wpAny _ _ (forIn [(Value.int p.1 t, Value.int q.1 t'), (Value.int p.2 u, Value.int q.2 u')] _ _) _ _ s
  rw [List.forIn_cons]
  refine wpAny_bind (wpAny_bind (wpAny_eqBool_int ?_))
  unfold lex at h
  by_cases h1 : p.1 = q.1
  · rw [if_pos h1] at h
    have e1 : (p.1 == q.1) = true := by simp [h1]
    rw [e1]
    simp only [Bool.not_true, Bool.false_eq_true, if_false]
    refine wpAny_pure ?_
    dsimp only
    rw [List.forIn_cons]
    refine wpAny_bind (wpAny_bind (wpAny_eqBool_int ?_))
    by_cases h2 : p.2 = q.2
    · have e2 : (p.2 == q.2) = true := by simp [h2]
      rw [e2]
      simp only [Bool.not_true, Bool.false_eq_true, if_false]
      refine wpAny_pure ?_
      dsimp only
      rw [List.forIn_nil]
      refine wpAny_pure ?_
      have e3 : decide (p.2 < q.2) = false := by simp [h2]
      rw [e3] at h
      exact wpAny_pure h
    · have e2 : (p.2 == q.2) = false := by simp [h2]
      rw [e2]
      simp only [Bool.not_false, if_true]
      refine wpAny_bind (wpAny_rule (wpAny_bind (show wpAny _ _ (compareOp .Lt _ _) _ _ s from PyProof.Rows.lt_int ?_)))
      exact wpAny_pure (wpAny_pure (wpAny_pure h))
  · rw [if_neg h1] at h
    have e1 : (p.1 == q.1) = false := by simp [h1]
    rw [e1]
    simp only [Bool.not_false, if_true]
    refine wpAny_bind (wpAny_rule (wpAny_bind (show wpAny _ _ (compareOp .Lt _ _) _ _ s from PyProof.Rows.lt_int ?_)))
    exact wpAny_pure (wpAny_pure (wpAny_pure h))

theorem tup_gt {x y : Addr} {p q : Int × Int} {t u t' u' : Tok} {n n' : Nat} {P : PySem.Fin → Shared → Prop} (hx : s.heap.get? x = some (pairObj p t u n)) (hy : s.heap.get? y = some (pairObj q t' u' n'))
    (h : P (.done (.ret (.bool (lex q p)))) s) : wpAny (model prog w) A (Builtin.«tuple.__gt__» ⟨[.ref x, .ref y], []⟩) P E s := by
  have hTb : s.TypeIs (.ref y) "tuple" := ⟨_, hy, rfl⟩
  show wpAny _ _ (isInstance (.ref y) (.type "tuple") >>= _) _ _ s
  refine wpAny_bind (wpAny_isInstance hTb isSubtype_tuple_tuple ?_)
  simp only [Bool.not_true, Bool.false_eq_true, if_false]
  refine wpAny_bind (wpAny_tupleItemsOf hx rfl ?_)
  refine wpAny_bind (wpAny_tupleItemsOf hy rfl ?_)
  refine wpAny_bind ?_
  show wpAny _ _ (forIn [(Value.int p.1 t, Value.int q.1 t'), (Value.int p.2 u, Value.int q.2 u')] _ _) _ _ s
  rw [List.forIn_cons]
  refine wpAny_bind (wpAny_bind (wpAny_eqBool_int ?_))
  unfold lex at h
  by_cases h1 : p.1 = q.1
  · rw [if_pos h1.symm] at h
    have e1 : (p.1 == q.1) = true := by simp [h1]
    rw [e1]
    simp only [Bool.not_true, Bool.false_eq_true, if_false]
    refine wpAny_pure ?_
    dsimp only
    rw [List.forIn_cons]
    refine wpAny_bind (wpAny_bind (wpAny_eqBool_int ?_))
    by_cases h2 : p.2 = q.2
    · have e2 : (p.2 == q.2) = true := by simp [h2]
      rw [e2]
      simp only [Bool.not_true, Bool.false_eq_true, if_false]
      refine wpAny_pure ?_
      dsimp only
      rw [List.forIn_nil]
      refine wpAny_pure ?_
      have e3 : decide (q.2 < p.2) = false := by simp [h2]
      rw [e3] at h
      exact wpAny_pure h
    · have e2 : (p.2 == q.2) = false := by simp [h2]
      rw [e2]
      simp only [Bool.not_false, if_true]
      refine wpAny_bind (wpAny_rule (wpAny_bind (show wpAny _ _ (compareOp .Gt _ _) _ _ s from PyProof.Rows.gt_int ?_)))
      exact wpAny_pure (wpAny_pure (wpAny_pure h))
  · rw [if_neg (Ne.symm h1)] at h
    have e1 : (p.1 == q.1) = false := by simp [h1]
    rw [e1]
    simp only [Bool.not_false, if_true]
    refine wpAny_bind (wpAny_rule (wpAny_bind (show wpAny _ _ (compareOp .Gt _ _) _ _ s from PyProof.Rows.gt_int ?_)))
    exact wpAny_pure (wpAny_pure (wpAny_pure h))

theorem rich_lt {x y : Value} {p q : Int × Int} {Q : Value → Shared → Prop} (hu : A.units < cLine) (hx : PairAt s.heap x p) (hy : PairAt s.heap y q) (h : Q (.bool (lex p q)) s) :
    wpAny (model prog w) A (richCompare .Lt x y) Q E s := by
  obtain ⟨a, t, u, n, rfl, hx⟩ := hx
  obtain ⟨b, t', u', n', rfl, hy⟩ := hy
  exact wpAny_richCompare_same_room (op := .Lt) ⟨_, hx, rfl⟩ ⟨_, hy, rfl⟩ F.slot_tuple_lt
      (wpAny_call_entry F.slot_tuple_lt ⟨_, hx, rfl⟩ F.entry_tuple_lt (tup_lt hx hy ⟨_, rfl, (fun e => nomatch e), h⟩) (F.args_tuple_lt_2 _ _)) hu
theorem rich_gt {x y : Value} {p q : Int × Int} {Q : Value → Shared → Prop} (hu : A.units < cLine) (hx : PairAt s.heap x p) (hy : PairAt s.heap y q) (h : Q (.bool (lex q p)) s) :
    wpAny (model prog w) A (richCompare .Gt x y) Q E s := by
  obtain ⟨a, t, u, n, rfl, hx⟩ := hx
  obtain ⟨b, t', u', n', rfl, hy⟩ := hy
  exact wpAny_richCompare_same_room (op := .Gt) ⟨_, hx, rfl⟩ ⟨_, hy, rfl⟩ F.slot_tuple_gt
      (wpAny_call_entry F.slot_tuple_gt ⟨_, hx, rfl⟩ F.entry_tuple_gt (tup_gt hx hy ⟨_, rfl, (fun e => nomatch e), h⟩) (F.args_tuple_gt_2 _ _)) hu
theorem lt_pair {x y : Value} {p q : Int × Int} {Q : Value → Shared → Prop} (hu : A.units < cLine) (hx : PairAt s.heap x p) (hy : PairAt s.heap y q) (h : Q (.bool (lex p q)) s) :
    wpAny (model prog w) A (compareOp .Lt x y) Q E s := rich_lt hu hx hy h
end
end Mine
end

-- part B2
section
open PySem PySem.W PyProof.Rows
set_option Elab.async false
set_option maxRecDepth 100000
namespace Mine

noncomputable abbrev KF (w : World) : Frag := hd.heap_39 w.params
/-- what stands of the text: its defs, its names -/
structure Gd (w : World) (h : Heap) : Prop where
  k : (KF w).In h
  t : ∃ p loose mg mb, TopRead p loose mg mb h
theorem Gd.keeps {w : World} {h h' : Heap} (G : Gd w h) (k : h.StaysIn h') : Gd w h' := by
  obtain ⟨p, lo, mg, mb, T⟩ := G.t
  exact ⟨G.k.keeps k, p, lo, mg, mb, T.keeps k⟩
theorem Gd.nolimit {w : World} {h : Heap} (G : Gd w h) : h.NoLimit := by
  obtain ⟨_, _, _, _, T⟩ := G.t
  exact T.nolimit

/-- an element: the tuple's value, its two ints -/
abbrev Elt := Value × Int × Int
abbrev vals (es : List Elt) : Array Value := (es.map (·.1)).toArray
def PairsIn (h : Heap) (es : List Elt) : Prop := ∀ e ∈ es, PairAt h e.1 e.2
def KeptBut (l : Addr) (h h' : Heap) : Prop := ∀ b o, b ≠ l → h.get? b = some o → h'.get? b = some o
theorem KeptBut.refl {l : Addr} {h : Heap} : KeptBut l h h := fun _ _ _ e => e
theorem KeptBut.trans {l : Addr} {h h' h'' : Heap} (a : KeptBut l h h') (b : KeptBut l h' h'') : KeptBut l h h'' := fun x o n e => b x o n (a x o n e)
theorem PairAt.but {l : Addr} {h h' : Heap} {its : Array Value} {n : Nat} {v : Value} {p : Int × Int} (x : PairAt h v p) (hl : h.get? l = some (W.listOf its n)) (k : KeptBut l h h') : PairAt h' v p := by
  obtain ⟨a, t, u, n, rfl, ho⟩ := x
  refine ⟨a, t, u, n, rfl, k _ _ ?_ ho⟩
  rintro rfl
  rw [hl] at ho
  have q : Value.type "list" = Value.type "tuple" := congrArg Obj.cls (Option.some.inj ho)
  exact absurd q (by decide)
theorem PairsIn.but {l : Addr} {h h' : Heap} {its : Array Value} {n : Nat} {es : List Elt} (x : PairsIn h es) (hl : h.get? l = some (W.listOf its n)) (k : KeptBut l h h') : PairsIn h' es :=
  fun e he => (x e he).but hl k

/-- a frame at L that works on the one list at l; h₀ the heap at the call -/
structure Fb (w : World) (h₀ : Heap) (l L : Addr) (h : Heap) (m : Str → Option Value) (es : List Elt) (n : Nat) : Prop where
  ns : h.Ns L m
  keep : KeptBut l h₀ h
  lst : h.get? l = some (W.listOf (vals es) n)
  gd : ∃ hb, Gd w hb ∧ hb.StaysIn h₀ ∧ hb.get? l = none
  above : h₀.objs.size ≤ L
  lst0 : ∃ its n, h₀.get? l = some (W.listOf its n)
  prs : PairsIn h₀ es

section
variable {w : World} {h₀ h h' : Heap} {l L : Addr} {m m' : Str → Option Value} {es es' : List Elt} {n n' : Nat}
theorem Fb.ne (F : Fb w h₀ l L h m es n) : l ≠ L := by
  obtain ⟨its, n, e⟩ := F.lst0
  exact Nat.ne_of_lt (Nat.lt_of_lt_of_le (Heap.lt_size e) F.above)
theorem Fb.ground (F : Fb w h₀ l L h m es n) : Gd w h := by
  obtain ⟨hb, G, s, e⟩ := F.gd
  refine G.keeps fun b o q => F.keep b o ?_ (s b o q)
  rintro rfl
  rw [e] at q; cases q
theorem Fb.pairs (F : Fb w h₀ l L h m es n) : PairsIn h es := by
  obtain ⟨its, n, e⟩ := F.lst0
  exact F.prs.but e F.keep
theorem Fb.pair {v : Value} {p : Int × Int} (F : Fb w h₀ l L h m es n) (x : PairAt h₀ v p) : PairAt h v p := by
  obtain ⟨its, n, e⟩ := F.lst0
  exact x.but e F.keep
theorem Fb.set (F : Fb w h₀ l L h m es n) (hn : h'.Ns L m') (hs : Heap.SameBut L h h') : Fb w h₀ l L h' m' es n :=
  ⟨hn, fun b o q e => (hs.2 b (Nat.ne_of_lt (Nat.lt_of_lt_of_le (Heap.lt_size e) F.above))).trans (F.keep b o q e), (hs.2 l F.ne).trans F.lst, F.gd, F.above, F.lst0, F.prs⟩
theorem Fb.put (F : Fb w h₀ l L h m es n) (hs : Heap.SameBut l h h') (ho : h'.get? l = some (W.listOf (vals es') n')) (hp : PairsIn h₀ es') : Fb w h₀ l L h' m es' n' := by
  refine ⟨F.ns.sameBut hs (Ne.symm F.ne), fun b o q e => (hs.2 b q).trans (F.keep b o q e), ho, F.gd, F.above, F.lst0, hp⟩
theorem Fb.isList (F : Fb w h₀ l L h m es n) : h.IsList l (vals es) := PySem.IsL.isList (n := n) F.lst
end

section
variable {prog : Program} {w : World} {A : Around} {E : Value → Shared → Prop} {s : Shared} {h₀ : Heap} {l L : Addr} {m : Str → Option Value} {es : List Elt} {n : Nat} {fd : FuncData} {a : Addr} {env : Env}

theorem ldL {x : Str} {pos : Pos} {v : Value} {Q : Value → Shared → Prop} (F : Fb w h₀ l env.locals s.heap m es n) (hv : m x = some v) (h : Q v s)
    (hk : env.scope.kind = .function := by rfl) (hx : env.kindOf x = some .local := by rfl) (hd : (x == ("__debug__" : Str)) = false := by decide) :
    wpAny (model prog w) A (eval (.Name x pos) env) Q E s := wpAny_Name (wpAny_loadName_local hk hx F.ns hv h) hd
theorem stL {x : Str} {v : Value} {Q : Unit → Shared → Prop} (F : Fb w h₀ l env.locals s.heap m es n)
    (h : ∀ h', Fb w h₀ l env.locals h' (fun y => if y = x then some v else m y) es n → Q () { s with heap := h', toks := s.toks + 1 })
    (hk : env.scope.kind = .function := by rfl) (hx : env.kindOf x = some .local := by rfl) : wpAny (model prog w) A (storeName env x v) Q E s :=
  wpAny_storeName_local hx F.ns (fun h' hn hs => h h' (F.set hn hs)) (by rw [hk]; rfl)
theorem ldG {x : Str} {pos : Pos} {v : Value} {Q : Value → Shared → Prop} (G : Gd w s.heap) (e : nsIn (KF w) mainGlobals x = some (some v)) (h : Q v s)
    (hk : env.scope.kind = .function := by rfl) (hx : env.kindOf x = some .globalImplicit := by rfl) (hg : env.globals = mainGlobals := by rfl) (hd : (x == ("__debug__" : Str)) = false := by decide) :
    wpAny (model prog w) A (eval (.Name x pos) env) Q E s := by
  obtain ⟨_, _, mg, mb, T⟩ := G.t
  exact PySem.Calls.Name_function_global hk hx (PySem.Calls.loadGlobal_global (env := env) (by rw [hg]; exact T.g) (mg_of G.k T.g e) h) hd
theorem ldB {x : Str} {pos : Pos} {v : Value} {Q : Value → Shared → Prop} (G : Gd w s.heap) (e : nsIn (KF w) mainGlobals x = some none) (hv : bootBuiltins x = some v) (hn : x ≠ "__name__") (h : Q v s)
    (hk : env.scope.kind = .function := by rfl) (hx : env.kindOf x = some .globalImplicit := by rfl) (hg : env.globals = mainGlobals := by rfl) (hb : env.builtins = builtinsNs := by rfl) (hd : (x == ("__debug__" : Str)) = false := by decide) :
    wpAny (model prog w) A (eval (.Name x pos) env) Q E s := by
  obtain ⟨_, _, mg, mb, T⟩ := G.t
  exact PySem.Calls.Name_function_global hk hx (PySem.Calls.loadGlobal_builtin (env := env) (by rw [hg]; exact T.g) (mg_none_of G.k T.g e) (by rw [hb]; exact T.b) ((T.builtins x hn).trans hv) h) hd

/-- reading an item -/
theorem itemE {value slice : Expr} {k : Nat} {u : Tok} {Q : Value → Shared → Prop} (hl : s.heap.IsList l (vals es)) (hk : k < es.length) (hz : es.length < 2 ^ 60) (h : Q (es[k]).1 s)
    (hs : subscripted slice false (.ref l) (.int k u) = operate [.ref l, .int k u] (getItem (.ref l) (.int k u)) := by with_unfolding_all rfl) (hg : ∀ r, letTemporaryGo value (.ref l) r = pure () := by intro _; with_unfolding_all rfl) :
    wpAny (model prog w) A (subscriptTail value slice (.ref l) (.int k u)) Q E s :=
  item_list hl (Int.natCast_nonneg _) (by omega) (by simp [hk]) h hs hg
/-- storing an item -/
theorem setE {k : Nat} {u : Tok} {e : Elt} {Q : Unit → Shared → Prop} (F : Fb w h₀ l L s.heap m es n) (hk : k < es.length) (hz : es.length < 2 ^ 60) (he : PairAt h₀ e.1 e.2)
    (h : ∀ h', Fb w h₀ l L h' m (es.set k e) n → Q () { s with heap := h' }) : wpAny (model prog w) A (setItem (.ref l) (.int k u) e.1) Q E s := by
  have hsz : (k : Int) < (vals es).size := by simp; exact hk
  refine ki_setAt F.lst (Int.natCast_nonneg _) (by omega) hsz (h _ (F.put (Heap.SameBut.update ..) ?_ ?_))
  · have q := PySem.IsL.update F.lst (·.setIfInBounds (k : Int).toNat e.1)
    have e1 : (vals es).setIfInBounds (k : Int).toNat e.1 = vals (es.set k e) := by
      apply Array.toList_inj.mp; simp [List.map_set]
    rw [e1] at q
    rw [if_pos (by simp)] at q
    exact q
  · intro x hx
    rcases List.mem_or_eq_of_mem_set hx with h | rfl
    · exact F.prs _ h
    · exact he

theorem while_rule {test : Expr} {body : List Stmt} {pos : Pos} {Q : Flow → Shared → Prop} (I : Nat → Shared → Prop)
    (turn : ∀ n s, I n s → wpAny (model prog w) A (isTrue test env (eval test env)) (fun b s₂ =>
      if b = true then wpAny (model prog w) A (execs body env) (fun f s₃ => match f with
          | .next => ∃ m, m < n ∧ I m s₃
          | .cont => ∃ m, m < n ∧ I m s₃
          | .brk => Q .next s₃
          | .ret v => Q (.ret v) s₃) (fun _ _ => False) s₂
      else Q .next s₂) (fun _ _ => False) s) (n : Nat) (h : I n s) : wpAny (model prog w) A (exec (.While test body [] pos) env) Q (fun _ _ => False) s := by
  refine wpAny_While (codeAny_whileLoop I (fun n s hI => ?_) n h)
  refine wpAny_mono (turn n s hI) (fun b s₂ h₂ => ?_) fun _ _ x => x.elim
  cases b with
  | false =>
    simp only [Bool.false_eq_true, if_false] at h₂ ⊢
    exact wpAny_execs_nil h₂
  | true =>
    simp only [if_true] at h₂ ⊢
    refine wpAny_mono h₂ (fun f s₃ h₃ => ?_) fun _ _ x => x.elim
    cases f <;> exact h₃
end

end Mine
end

-- part B3
section
open PySem PySem.W PyProof.Rows
set_option Elab.async false
set_option maxRecDepth 100000
namespace Mine

def ltE (a b : Elt) : Bool := lex a.2 b.2
def gtE (a b : Elt) : Bool := lex b.2 a.2

def sdown (lt : Elt → Elt → Bool) (x : Elt) (es : List Elt) (pos : Nat) : List Elt :=
  if _h : pos = 0 then es.set 0 x
  else if lt x (es.getD ((pos - 1) / 2) x) then sdown lt x (es.set pos (es.getD ((pos - 1) / 2) x)) ((pos - 1) / 2)
  else es.set pos x
termination_by pos

theorem fdiv2 (p : Nat) (h : 0 < p) : ((p : Int) - 1).fdiv (2 ^ (1 : Int).toNat) = (((p - 1) / 2 : Nat) : Int) := by
  have e : (2 : Int) ^ (1 : Int).toNat = 2 := by decide
  rw [e, Int.fdiv_eq_ediv_of_nonneg _ (by omega)]
  omega

section
variable {prog : Program} {w : World} {A : Around} {s : Shared} {R : Result → Shared → Prop} {hb : Heap} {l : Addr} {es : List Elt} {n pos : Nat} {t u : Tok}

theorem siftdown_spec (G : Gd w hb) (hbs : hb.StaysIn s.heap) (hbl : hb.get? l = none) (hA : A.depth < 900) (hU : A.units < 9000)
    (hl : s.heap.get? l = some (W.listOf (vals es) n)) (hp : PairsIn s.heap es) (hpos : pos < es.length) (hz : es.length < 1000)
    (h : ∀ h' tk, KeptBut l s.heap h' → h'.get? l = some (W.listOf (vals (sdown ltE es[pos] es pos)) n) → R (.ok (.ret .none)) { s with heap := h', toks := tk }) :
    codeAny (model prog w) A (.call (.ref 56) ⟨[.ref l, .int 0 t, .int pos u], []⟩) R s := by
  have GS := G.keeps hbs
  refine codeAny_call_def (binds := [("heap", .ref l), ("startpos", .int 0 t), ("pos", .int pos u)]) (by unfold recursionLimit; omega) (GS.k _ _ rfl) rfl GS.nolimit (codeRec_of GS.k rfl) rfl (BindsTo.of_eq rfl) (by decide) (locs rfl) (fun h₁ hns hk₁ => ?_)
  refine wpAny_mono (Q := fun f s' => R (.ok (.ret (match f with | .ret v => v | _ => .none))) s') (E := fun _ _ => False) ?_ (fun _ _ x => x) (fun _ _ x => x.elim)
  have F : Fb w s.heap l s.heap.objs.size h₁ _ es n := ⟨hns, fun b o _ e => hk₁ b o e, hk₁ _ _ hl, ⟨hb, G, hbs, hbl⟩, Nat.le_refl _, ⟨_, _, hl⟩, hp⟩
  clear hns hk₁
  have hx := hp _ (List.getElem_mem hpos)
  generalize hxe : es[pos] = x at *
  refine wpAny_execs_cons ?_
  refine wpAny_Assign_Name ?_
  refine Subscript_ ?_
  refine ldL F rfl ?_
  refine ldL F rfl ?_
  refine itemE F.isList hpos (by omega) ?_
  refine stL F fun h₂ F => ?_
  rw [hxe] at F
  dsimp only
  refine wpAny_execs_cons ?_
  refine while_rule (fun k s' => ∃ m h' tk es' pos' u', k = pos' ∧ s' = { s with heap := h', toks := tk } ∧ Fb w s.heap l s.heap.objs.size h' m es' n ∧ m "heap" = some (.ref l) ∧ m "startpos" = some (.int 0 t) ∧
    m "pos" = some (.int (pos' : Nat) u') ∧ m "newitem" = some x.1 ∧ es'.length = es.length ∧ pos' < es.length ∧ sdown ltE x es' pos' = sdown ltE x es pos) ?_ pos ⟨_, _, _, es, pos, u, rfl, rfl, F, rfl, rfl, rfl, rfl, rfl, hpos, rfl⟩
  rintro k s' ⟨m, h', tk, es', k', u', rfl, rfl, F, m1, m2, m3, m4, hlen, hk, hsd⟩
  refine wpAny_isTrue_Compare1 ?_
  refine ldL F m3 ?_
  refine ldL F m2 ?_
  refine PyProof.Rows.gt_int ?_
  refine wpAny_truthy_bool ?_
  by_cases h0 : k = 0
  · subst h0
    rw [if_neg (by simp)]
    dsimp only
    refine wpAny_execs_cons ?_
    refine wpAny_Assign_Subscript ?_ ?_
    rotate_left
    · with_unfolding_all rfl
    refine ldL F m4 ?_
    refine ldL F m1 ?_
    refine ldL F m3 ?_
    refine setE F (by omega) (by omega) hx fun h'' F => ?_
    dsimp only
    refine wpAny_execs_nil ?_
    dsimp only
    refine h _ _ F.keep ?_
    have := F.lst
    rw [sdown, dif_pos rfl] at hsd
    rwa [hsd] at this
  · rw [if_pos (by simp; omega)]
    have hpar : (k - 1) / 2 < es'.length := by omega
    have hpx := F.prs _ (List.getElem_mem hpar)
    have hgd : es'.getD ((k - 1) / 2) x = es'[(k - 1) / 2] := by simp [hpar]
    rw [sdown, dif_neg h0, hgd] at hsd
    generalize hye : es'[(k - 1) / 2] = y at *
    refine wpAny_execs_cons ?_
    refine wpAny_Assign_Name ?_
    refine wpAny_BinOp ?_
    refine wpAny_BinOp ?_
    refine ldL F m3 ?_
    refine wpAny_Constant_int ?_
    refine sub_int ?_
    refine wpAny_Constant_int ?_
    refine rshift_int (by decide) ?_
    rw [fdiv2 _ (by omega)]
    refine stL F fun h'' F => ?_
    dsimp only
    refine wpAny_execs_cons ?_
    refine wpAny_Assign_Name ?_
    refine Subscript_ ?_
    refine ldL F m1 ?_
    refine ldL F rfl ?_
    refine itemE F.isList hpar (by omega) ?_
    refine stL F fun h'' F => ?_
    rw [hye] at F
    dsimp only
    refine wpAny_execs_cons ?_
    refine wpAny_If ?_
    refine wpAny_isTrue_Compare1 ?_
    refine ldL F m4 ?_
    refine ldL F rfl ?_
    refine lt_pair (by unfold cLine; show A.units + 3 < _; omega) (F.pair hx) (F.pair hpx) ?_
    refine wpAny_truthy_bool ?_
    by_cases hlt : lex x.2 y.2 = true
    · rw [if_pos hlt]
      refine wpAny_execs_cons ?_
      refine wpAny_Assign_Subscript ?_ ?_
      rotate_left
      · with_unfolding_all rfl
      refine ldL F rfl ?_
      refine ldL F m1 ?_
      refine ldL F m3 ?_
      refine setE F (by omega) (by omega) hpx fun h'' F => ?_
      dsimp only
      refine wpAny_execs_cons ?_
      refine wpAny_Assign_Name ?_
      refine ldL F rfl ?_
      refine stL F fun h'' F => ?_
      dsimp only
      refine wpAny_execs_cons ?_
      refine wpAny_Continue ?_
      dsimp only
      refine ⟨(k - 1) / 2, by omega, _, _, _, _, (k - 1) / 2, _, rfl, rfl, F, m1, m2, rfl, m4, ?_, ?_, ?_⟩
      · rw [List.length_set]; exact hlen
      · omega
      · rw [if_pos (show ltE x y = true from hlt)] at hsd
        exact hsd
    · rw [if_neg hlt]
      refine wpAny_execs_nil ?_
      dsimp only
      refine wpAny_execs_cons ?_
      refine wpAny_Break ?_
      dsimp only
      refine wpAny_execs_cons ?_
      refine wpAny_Assign_Subscript ?_ ?_
      rotate_left
      · with_unfolding_all rfl
      refine ldL F m4 ?_
      refine ldL F m1 ?_
      refine ldL F m3 ?_
      refine setE F (by omega) (by omega) hx fun h'' F => ?_
      dsimp only
      refine wpAny_execs_nil ?_
      dsimp only
      refine h _ _ F.keep ?_
      have := F.lst
      rw [if_neg (show ¬ ltE x y = true from hlt)] at hsd
      rwa [hsd] at this
end
end Mine
end

-- part B4
section
open PySem PySem.W PyProof.Rows
set_option Elab.async false
set_option maxRecDepth 100000
namespace Mine

/-- the child that moves up -/
def child (lt : Elt → Elt → Bool) (es : List Elt) (pos : Nat) (x : Elt) : Nat :=
  if 2 * pos + 2 < es.length ∧ lt (es.getD (2 * pos + 1) x) (es.getD (2 * pos + 2) x) = false then 2 * pos + 2 else 2 * pos + 1
theorem child_gt (lt : Elt → Elt → Bool) (es : List Elt) (pos : Nat) (x : Elt) : pos < child lt es pos x := by
  unfold child; split <;> omega
theorem child_lt {lt : Elt → Elt → Bool} {es : List Elt} {pos : Nat} {x : Elt} (h : 2 * pos + 1 < es.length) : child lt es pos x < es.length := by
  unfold child; split
  · rename_i h'; exact h'.1
  · exact h
def sup (lt : Elt → Elt → Bool) (x : Elt) (es : List Elt) (pos : Nat) : List Elt × Nat :=
  if _h : 2 * pos + 1 < es.length then sup lt x (es.set pos (es.getD (child lt es pos x) x)) (child lt es pos x)
  else (es, pos)
termination_by es.length - pos
decreasing_by
  have h1 := child_gt lt es pos x
  have h2 := child_lt (lt := lt) (x := x) _h
  rw [List.length_set]
  omega
/-- the whole of _siftup from the top -/
def siftup (lt : Elt → Elt → Bool) (x : Elt) (es : List Elt) : List Elt :=
  sdown lt x ((sup lt x es 0).1.set (sup lt x es 0).2 x) (sup lt x es 0).2

theorem some_int {i j : Int} {t : Tok} (h : i = j) : some (Value.int i t) = some (Value.int j t) := by rw [h]
theorem two_mul_one (p : Nat) : (2 : Int) * (p : Int) + 1 = ((2 * p + 1 : Nat) : Int) := by omega

section
variable {prog : Program} {w : World} {A : Around} {s : Shared} {R : Result → Shared → Prop} {hb : Heap} {l : Addr} {es : List Elt} {n pos : Nat} {t u : Tok}

theorem siftup_spec (G : Gd w hb) (hbs : hb.StaysIn s.heap) (hbl : hb.get? l = none) (hA : A.depth < 890) (hU : A.units < 8900)
    (hl : s.heap.get? l = some (W.listOf (vals es) n)) (hp : PairsIn s.heap es) (hpos : 0 < es.length) (hz : es.length < 1000)
    (h : ∀ h' tk, KeptBut l s.heap h' → h'.get? l = some (W.listOf (vals (siftup ltE es[0] es)) n) → R (.ok (.ret .none)) { s with heap := h', toks := tk }) :
    codeAny (model prog w) A (.call (.ref 63) ⟨[.ref l, .int 0 t], []⟩) R s := by
  have GS := G.keeps hbs
  refine codeAny_call_def (binds := [("heap", .ref l), ("pos", .int 0 t)]) (by unfold recursionLimit; omega) (GS.k _ _ rfl) rfl GS.nolimit (codeRec_of GS.k rfl) rfl (BindsTo.of_eq rfl) (by decide) (locs rfl) (fun h₁ hns hk₁ => ?_)
  refine wpAny_mono (Q := fun f s' => R (.ok (.ret (match f with | .ret v => v | _ => .none))) s') (E := fun _ _ => False) ?_ (fun _ _ x => x) (fun _ _ x => x.elim)
  have F : Fb w s.heap l s.heap.objs.size h₁ _ es n := ⟨hns, fun b o _ e => hk₁ b o e, hk₁ _ _ hl, ⟨hb, G, hbs, hbl⟩, Nat.le_refl _, ⟨_, _, hl⟩, hp⟩
  clear hns hk₁
  have hx := hp _ (List.getElem_mem hpos)
  generalize hxe : es[0] = x at *
  -- endpos = len(heap)
  refine wpAny_execs_cons ?_
  refine wpAny_Assign_Name ?_
  refine Call_ ?_
  refine ldB F.ground rfl boot_len (by decide) ?_
  refine PyProof.Rows.callWith_builtin1 ?_
  refine spliced_more ?_
  refine ldL F rfl ?_
  refine spliced_none ?_
  refine len_list F.isList (by simp; omega) ?_
  rw [show ((vals es).size : Int) = (es.length : Int) by simp]
  refine stL F fun h₂ F => ?_
  dsimp only
  -- startpos = pos
  refine wpAny_execs_cons ?_
  refine wpAny_Assign_Name ?_
  refine ldL F rfl ?_
  refine stL F fun h₂ F => ?_
  dsimp only
  -- newitem = heap[pos]
  refine wpAny_execs_cons ?_
  refine wpAny_Assign_Name ?_
  refine Subscript_ ?_
  refine ldL F rfl ?_
  refine ldL F rfl ?_
  refine itemE (k := 0) F.isList hpos (by omega) ?_
  refine stL F fun h₂ F => ?_
  rw [hxe] at F
  dsimp only
  -- childpos = 2 * pos + 1
  refine wpAny_execs_cons ?_
  refine wpAny_Assign_Name ?_
  refine wpAny_BinOp ?_
  refine wpAny_BinOp ?_
  refine wpAny_Constant_int ?_
  refine ldL F rfl ?_
  refine mul_int ?_
  refine wpAny_Constant_int ?_
  refine add_int ?_
  refine stL F fun h₂ F => ?_
  dsimp only
  refine wpAny_execs_cons ?_
  refine while_rule (fun k s' => ∃ m h' tk es' p u1 u2 u3, k = es.length - p ∧ s' = { s with heap := h', toks := tk } ∧ Fb w s.heap l s.heap.objs.size h' m es' n ∧ m "heap" = some (.ref l) ∧ m "startpos" = some (.int 0 t) ∧
    m "endpos" = some (.int (es.length : Nat) u1) ∧ m "pos" = some (.int (p : Nat) u2) ∧ m "childpos" = some (.int (2 * (p : Nat) + 1) u3) ∧ m "newitem" = some x.1 ∧ es'.length = es.length ∧ p < es.length ∧ sup ltE x es' p = sup ltE x es 0) ?_ es.length
    ⟨_, _, _, es, 0, _, _, _, rfl, rfl, F, rfl, rfl, rfl, rfl, rfl, rfl, rfl, hpos, rfl⟩
  rintro k s' ⟨m, h', tk, es', p, u1, u2, u3, rfl, rfl, F, m1, m2, m3, m4, m5, m6, hlen, hk, hsd⟩
  refine wpAny_isTrue_Compare1 ?_
  refine ldL F m5 ?_
  refine ldL F m3 ?_
  refine PyProof.Rows.lt_int ?_
  refine wpAny_truthy_bool ?_
  by_cases h0 : 2 * p + 1 < es.length
  · rw [if_pos (by simp; omega)]
    rw [sup, dif_pos (by omega)] at hsd
    -- rightpos = childpos + 1
    refine wpAny_execs_cons ?_
    refine wpAny_Assign_Name ?_
    refine wpAny_BinOp ?_
    refine ldL F m5 ?_
    refine wpAny_Constant_int ?_
    refine add_int ?_
    refine stL F fun h'' F => ?_
    dsimp only
    refine wpAny_execs_cons ?_
    refine wpAny_mono (Q := fun f s' => f = .next ∧ ∃ m h'' tk u4, s' = { s with heap := h'', toks := tk } ∧ Fb w s.heap l s.heap.objs.size h'' m es' n ∧ m "heap" = some (.ref l) ∧ m "startpos" = some (.int 0 t) ∧
        m "endpos" = some (.int (es.length : Nat) u1) ∧ m "pos" = some (.int (p : Nat) u2) ∧ m "childpos" = some (.int (child ltE es' p x : Nat) u4) ∧ m "newitem" = some x.1) (E := fun _ _ => False) ?_ ?_ (fun _ _ x => x)
    · refine wpAny_If ?_
      refine isTrue_and ?_
      refine wpAny_isTrue_Compare1 ?_
      refine ldL F rfl ?_
      refine ldL F m3 ?_
      refine PyProof.Rows.lt_int ?_
      refine wpAny_truthy_bool ?_
      by_cases h1 : 2 * p + 2 < es.length
      · rw [if_pos (by simp; omega)]
        have ha : 2 * p + 1 < es'.length := by omega
        have hc : 2 * p + 2 < es'.length := by omega
        have pa := F.prs _ (List.getElem_mem ha)
        have pc := F.prs _ (List.getElem_mem hc)
        have ea : es'.getD (2 * p + 1) x = es'[2 * p + 1] := by simp [ha]
        have ec : es'.getD (2 * p + 2) x = es'[2 * p + 2] := by simp [hc]
        have ch : child ltE es' p x = if lex es'[2 * p + 1].2 es'[2 * p + 2].2 = false then 2 * p + 2 else 2 * p + 1 := by
          unfold child; rw [ea, ec]
          show (if _ ∧ lex es'[2 * p + 1].2 es'[2 * p + 2].2 = false then _ else _) = _
          simp only [hc, true_and]
        refine isTrue_and ?_
        refine isTrue_not ?_
        refine wpAny_isTrue_Compare1 ?_
        refine Subscript_ ?_
        refine ldL F m1 ?_
        refine ldL F m5 ?_
        refine itemE (k := 2 * p + 1) F.isList ha (by omega) ?_
        refine Subscript_ ?_
        refine ldL F m1 ?_
        refine ldL F rfl ?_
        refine itemE (k := 2 * p + 2) F.isList hc (by omega) ?_
        refine lt_pair (by unfold cLine; show A.units + 3 < _; omega) (F.pair pa) (F.pair pc) ?_
        refine wpAny_truthy_bool ?_
        by_cases hlt : lex es'[2 * p + 1].2 es'[2 * p + 2].2 = true
        · have ch1 : child ltE es' p x = 2 * p + 1 := by rw [ch, hlt]; rfl
          rw [hlt]
          rw [if_neg (by simp)]
          rw [if_neg (by simp)]
          refine wpAny_execs_nil ?_
          refine ⟨rfl, _, _, _, u3, rfl, F, m1, m2, m3, m4, ?_, m6⟩
          rw [ch1]
          exact m5
        · have hlt' : lex es'[2 * p + 1].2 es'[2 * p + 2].2 = false := by simpa using hlt
          have ch1 : child ltE es' p x = 2 * p + 2 := by rw [ch, hlt']; rfl
          rw [hlt']
          rw [if_pos (by simp)]
          refine isTrue_and_nil ?_
          rw [if_pos rfl]
          refine wpAny_execs_cons ?_
          refine wpAny_Assign_Name ?_
          refine ldL F rfl ?_
          refine stL F fun h'' F => ?_
          dsimp only
          refine wpAny_execs_nil ?_
          refine ⟨rfl, _, _, _, ?u4, rfl, F, m1, m2, m3, m4, ?g, m6⟩
          case g =>
            rw [ch1]
            exact some_int (show (2 * (p : Int) + 1 + 1) = ((2 * p + 2 : Nat) : Int) by omega)
      · rw [if_neg (by simp; omega)]
        rw [if_neg (by simp)]
        refine wpAny_execs_nil ?_
        refine ⟨rfl, _, _, _, u3, rfl, F, m1, m2, m3, m4, ?_, m6⟩
        rw [show child ltE es' p x = 2 * p + 1 by unfold child; rw [if_neg (by omega)]]
        exact m5
    · rintro f s' ⟨rfl, m, h'', tk, u4, rfl, F, m1, m2, m3, m4, m5, m6⟩
      dsimp only
      have hc : child ltE es' p x < es'.length := child_lt (by omega)
      have hg := child_gt ltE es' p x
      have ec : es'.getD (child ltE es' p x) x = es'[child ltE es' p x] := by simp [hc]
      rw [ec] at hsd
      generalize child ltE es' p x = c at *
      have pc := F.prs _ (List.getElem_mem hc)
      -- heap[pos] = heap[childpos]
      refine wpAny_execs_cons ?_
      refine wpAny_Assign_Subscript ?_ ?_
      rotate_left
      · with_unfolding_all rfl
      refine Subscript_ ?_
      refine ldL F m1 ?_
      refine ldL F m5 ?_
      refine itemE F.isList hc (by omega) ?_
      refine ldL F m1 ?_
      refine ldL F m4 ?_
      refine setE F (by omega) (by omega) pc fun h'' F => ?_
      dsimp only
      -- pos = childpos
      refine wpAny_execs_cons ?_
      refine wpAny_Assign_Name ?_
      refine ldL F m5 ?_
      refine stL F fun h'' F => ?_
      dsimp only
      -- childpos = 2 * pos + 1
      refine wpAny_execs_cons ?_
      refine wpAny_Assign_Name ?_
      refine wpAny_BinOp ?_
      refine wpAny_BinOp ?_
      refine wpAny_Constant_int ?_
      refine ldL F rfl ?_
      refine mul_int ?_
      refine wpAny_Constant_int ?_
      refine add_int ?_
      refine stL F fun h'' F => ?_
      dsimp only
      refine wpAny_execs_nil ?_
      dsimp only
      refine ⟨es.length - c, by omega, _, _, _, _, c, _, _, _, rfl, rfl, F, m1, m2, m3, rfl, rfl, m6, ?_, ?_, hsd⟩
      · rw [List.length_set]; exact hlen
      · omega
  · rw [if_neg (by simp; omega)]
    rw [sup, dif_neg (by omega)] at hsd
    dsimp only
    -- heap[pos] = newitem
    refine wpAny_execs_cons ?_
    refine wpAny_Assign_Subscript ?_ ?_
    rotate_left
    · with_unfolding_all rfl
    refine ldL F m6 ?_
    refine ldL F m1 ?_
    refine ldL F m4 ?_
    refine setE F (by omega) (by omega) hx fun h'' F => ?_
    dsimp only
    -- _siftdown(heap, startpos, pos)
    refine wpAny_execs_cons ?_
    refine wpAny_Expr_any ?_
    refine Call_ ?_
    refine ldG F.ground rfl ?_
    refine callWith_K F.ground.k rfl ?_
    refine spliced_more ?_
    refine ldL F m1 ?_
    refine spliced_more ?_
    refine ldL F m2 ?_
    refine spliced_more ?_
    refine ldL F m4 ?_
    refine spliced_none ?_
    refine ⟨F.ground.k, ?_⟩
    have hlt : p < (es'.set p x).length := by rw [List.length_set]; omega
    refine wpAny_call (siftdown_spec (es := es'.set p x) (pos := p) G (fun b o q => F.keep b o (by rintro rfl; rw [hbl] at q; cases q) (hbs b o q)) hbl (by show A.depth + 1 < _; omega) (by show A.units + 3 < _; omega) F.lst F.pairs hlt (by rw [List.length_set]; omega) fun h3 tk k3 l3 => ?_)
    dsimp only
    refine wpAny_execs_nil ?_
    dsimp only
    refine h _ _ (F.keep.trans k3) ?_
    unfold siftup
    rw [← hsd]
    rw [show (es'.set p x)[p] = x by simp] at l3
    exact l3
end
end Mine
end

-- part B5
section
open PySem PySem.W PyProof.Rows
set_option Elab.async false
set_option maxRecDepth 100000
namespace Mine
section
variable {prog : Program} {w : World} {A : Around} {s : Shared} {R : Result → Shared → Prop} {hb : Heap} {l : Addr} {es : List Elt} {n pos : Nat} {t u : Tok}

theorem siftdown_max_spec (G : Gd w hb) (hbs : hb.StaysIn s.heap) (hbl : hb.get? l = none) (hA : A.depth < 900) (hU : A.units < 9000)
    (hl : s.heap.get? l = some (W.listOf (vals es) n)) (hp : PairsIn s.heap es) (hpos : pos < es.length) (hz : es.length < 1000)
    (h : ∀ h' tk, KeptBut l s.heap h' → h'.get? l = some (W.listOf (vals (sdown gtE es[pos] es pos)) n) → R (.ok (.ret .none)) { s with heap := h', toks := tk }) :
    codeAny (model prog w) A (.call (.ref 70) ⟨[.ref l, .int 0 t, .int pos u], []⟩) R s := by
  have GS := G.keeps hbs
  refine codeAny_call_def (binds := [("heap", .ref l), ("startpos", .int 0 t), ("pos", .int pos u)]) (by unfold recursionLimit; omega) (GS.k _ _ rfl) rfl GS.nolimit (codeRec_of GS.k rfl) rfl (BindsTo.of_eq rfl) (by decide) (locs rfl) (fun h₁ hns hk₁ => ?_)
  refine wpAny_mono (Q := fun f s' => R (.ok (.ret (match f with | .ret v => v | _ => .none))) s') (E := fun _ _ => False) ?_ (fun _ _ x => x) (fun _ _ x => x.elim)
  have F : Fb w s.heap l s.heap.objs.size h₁ _ es n := ⟨hns, fun b o _ e => hk₁ b o e, hk₁ _ _ hl, ⟨hb, G, hbs, hbl⟩, Nat.le_refl _, ⟨_, _, hl⟩, hp⟩
  clear hns hk₁
  have hx := hp _ (List.getElem_mem hpos)
  generalize hxe : es[pos] = x at *
  refine wpAny_execs_cons ?_
  refine wpAny_Assign_Name ?_
  refine Subscript_ ?_
  refine ldL F rfl ?_
  refine ldL F rfl ?_
  refine itemE F.isList hpos (by omega) ?_
  refine stL F fun h₂ F => ?_
  rw [hxe] at F
  dsimp only
  refine wpAny_execs_cons ?_
  refine while_rule (fun k s' => ∃ m h' tk es' pos' u', k = pos' ∧ s' = { s with heap := h', toks := tk } ∧ Fb w s.heap l s.heap.objs.size h' m es' n ∧ m "heap" = some (.ref l) ∧ m "startpos" = some (.int 0 t) ∧
    m "pos" = some (.int (pos' : Nat) u') ∧ m "newitem" = some x.1 ∧ es'.length = es.length ∧ pos' < es.length ∧ sdown gtE x es' pos' = sdown gtE x es pos) ?_ pos ⟨_, _, _, es, pos, u, rfl, rfl, F, rfl, rfl, rfl, rfl, rfl, hpos, rfl⟩
  rintro k s' ⟨m, h', tk, es', k', u', rfl, rfl, F, m1, m2, m3, m4, hlen, hk, hsd⟩
  refine wpAny_isTrue_Compare1 ?_
  refine ldL F m3 ?_
  refine ldL F m2 ?_
  refine PyProof.Rows.gt_int ?_
  refine wpAny_truthy_bool ?_
  by_cases h0 : k = 0
  · subst h0
    rw [if_neg (by simp)]
    dsimp only
    refine wpAny_execs_cons ?_
    refine wpAny_Assign_Subscript ?_ ?_
    rotate_left
    · with_unfolding_all rfl
    refine ldL F m4 ?_
    refine ldL F m1 ?_
    refine ldL F m3 ?_
    refine setE F (by omega) (by omega) hx fun h'' F => ?_
    dsimp only
    refine wpAny_execs_nil ?_
    dsimp only
    refine h _ _ F.keep ?_
    have := F.lst
    rw [sdown, dif_pos rfl] at hsd
    rwa [hsd] at this
  · rw [if_pos (by simp; omega)]
    have hpar : (k - 1) / 2 < es'.length := by omega
    have hpx := F.prs _ (List.getElem_mem hpar)
    have hgd : es'.getD ((k - 1) / 2) x = es'[(k - 1) / 2] := by simp [hpar]
    rw [sdown, dif_neg h0, hgd] at hsd
    generalize hye : es'[(k - 1) / 2] = y at *
    refine wpAny_execs_cons ?_
    refine wpAny_Assign_Name ?_
    refine wpAny_BinOp ?_
    refine wpAny_BinOp ?_
    refine ldL F m3 ?_
    refine wpAny_Constant_int ?_
    refine sub_int ?_
    refine wpAny_Constant_int ?_
    refine rshift_int (by decide) ?_
    rw [fdiv2 _ (by omega)]
    refine stL F fun h'' F => ?_
    dsimp only
    refine wpAny_execs_cons ?_
    refine wpAny_Assign_Name ?_
    refine Subscript_ ?_
    refine ldL F m1 ?_
    refine ldL F rfl ?_
    refine itemE F.isList hpar (by omega) ?_
    refine stL F fun h'' F => ?_
    rw [hye] at F
    dsimp only
    refine wpAny_execs_cons ?_
    refine wpAny_If ?_
    refine wpAny_isTrue_Compare1 ?_
    refine ldL F rfl ?_
    refine ldL F m4 ?_
    refine lt_pair (by unfold cLine; show A.units + 3 < _; omega) (F.pair hpx) (F.pair hx) ?_
    refine wpAny_truthy_bool ?_
    by_cases hlt : lex y.2 x.2 = true
    · rw [if_pos hlt]
      refine wpAny_execs_cons ?_
      refine wpAny_Assign_Subscript ?_ ?_
      rotate_left
      · with_unfolding_all rfl
      refine ldL F rfl ?_
      refine ldL F m1 ?_
      refine ldL F m3 ?_
      refine setE F (by omega) (by omega) hpx fun h'' F => ?_
      dsimp only
      refine wpAny_execs_cons ?_
      refine wpAny_Assign_Name ?_
      refine ldL F rfl ?_
      refine stL F fun h'' F => ?_
      dsimp only
      refine wpAny_execs_cons ?_
      refine wpAny_Continue ?_
      dsimp only
      refine ⟨(k - 1) / 2, by omega, _, _, _, _, (k - 1) / 2, _, rfl, rfl, F, m1, m2, rfl, m4, ?_, ?_, ?_⟩
      · rw [List.length_set]; exact hlen
      · omega
      · rw [if_pos (show gtE x y = true from hlt)] at hsd
        exact hsd
    · rw [if_neg hlt]
      refine wpAny_execs_nil ?_
      dsimp only
      refine wpAny_execs_cons ?_
      refine wpAny_Break ?_
      dsimp only
      refine wpAny_execs_cons ?_
      refine wpAny_Assign_Subscript ?_ ?_
      rotate_left
      · with_unfolding_all rfl
      refine ldL F m4 ?_
      refine ldL F m1 ?_
      refine ldL F m3 ?_
      refine setE F (by omega) (by omega) hx fun h'' F => ?_
      dsimp only
      refine wpAny_execs_nil ?_
      dsimp only
      refine h _ _ F.keep ?_
      have := F.lst
      rw [if_neg (show ¬ gtE x y = true from hlt)] at hsd
      rwa [hsd] at this

theorem siftup_max_spec (G : Gd w hb) (hbs : hb.StaysIn s.heap) (hbl : hb.get? l = none) (hA : A.depth < 890) (hU : A.units < 8900)
    (hl : s.heap.get? l = some (W.listOf (vals es) n)) (hp : PairsIn s.heap es) (hpos : 0 < es.length) (hz : es.length < 1000)
    (h : ∀ h' tk, KeptBut l s.heap h' → h'.get? l = some (W.listOf (vals (siftup gtE es[0] es)) n) → R (.ok (.ret .none)) { s with heap := h', toks := tk }) :
    codeAny (model prog w) A (.call (.ref 77) ⟨[.ref l, .int 0 t], []⟩) R s := by
  have GS := G.keeps hbs
  refine codeAny_call_def (binds := [("heap", .ref l), ("pos", .int 0 t)]) (by unfold recursionLimit; omega) (GS.k _ _ rfl) rfl GS.nolimit (codeRec_of GS.k rfl) rfl (BindsTo.of_eq rfl) (by decide) (locs rfl) (fun h₁ hns hk₁ => ?_)
  refine wpAny_mono (Q := fun f s' => R (.ok (.ret (match f with | .ret v => v | _ => .none))) s') (E := fun _ _ => False) ?_ (fun _ _ x => x) (fun _ _ x => x.elim)
  have F : Fb w s.heap l s.heap.objs.size h₁ _ es n := ⟨hns, fun b o _ e => hk₁ b o e, hk₁ _ _ hl, ⟨hb, G, hbs, hbl⟩, Nat.le_refl _, ⟨_, _, hl⟩, hp⟩
  clear hns hk₁
  have hx := hp _ (List.getElem_mem hpos)
  generalize hxe : es[0] = x at *
  -- endpos = len(heap)
  refine wpAny_execs_cons ?_
  refine wpAny_Assign_Name ?_
  refine Call_ ?_
  refine ldB F.ground rfl boot_len (by decide) ?_
  refine PyProof.Rows.callWith_builtin1 ?_
  refine spliced_more ?_
  refine ldL F rfl ?_
  refine spliced_none ?_
  refine len_list F.isList (by simp; omega) ?_
  rw [show ((vals es).size : Int) = (es.length : Int) by simp]
  refine stL F fun h₂ F => ?_
  dsimp only
  -- startpos = pos
  refine wpAny_execs_cons ?_
  refine wpAny_Assign_Name ?_
  refine ldL F rfl ?_
  refine stL F fun h₂ F => ?_
  dsimp only
  -- newitem = heap[pos]
  refine wpAny_execs_cons ?_
  refine wpAny_Assign_Name ?_
  refine Subscript_ ?_
  refine ldL F rfl ?_
  refine ldL F rfl ?_
  refine itemE (k := 0) F.isList hpos (by omega) ?_
  refine stL F fun h₂ F => ?_
  rw [hxe] at F
  dsimp only
  -- childpos = 2 * pos + 1
  refine wpAny_execs_cons ?_
  refine wpAny_Assign_Name ?_
  refine wpAny_BinOp ?_
  refine wpAny_BinOp ?_
  refine wpAny_Constant_int ?_
  refine ldL F rfl ?_
  refine mul_int ?_
  refine wpAny_Constant_int ?_
  refine add_int ?_
  refine stL F fun h₂ F => ?_
  dsimp only
  refine wpAny_execs_cons ?_
  refine while_rule (fun k s' => ∃ m h' tk es' p u1 u2 u3, k = es.length - p ∧ s' = { s with heap := h', toks := tk } ∧ Fb w s.heap l s.heap.objs.size h' m es' n ∧ m "heap" = some (.ref l) ∧ m "startpos" = some (.int 0 t) ∧
    m "endpos" = some (.int (es.length : Nat) u1) ∧ m "pos" = some (.int (p : Nat) u2) ∧ m "childpos" = some (.int (2 * (p : Nat) + 1) u3) ∧ m "newitem" = some x.1 ∧ es'.length = es.length ∧ p < es.length ∧ sup gtE x es' p = sup gtE x es 0) ?_ es.length
    ⟨_, _, _, es, 0, _, _, _, rfl, rfl, F, rfl, rfl, rfl, rfl, rfl, rfl, rfl, hpos, rfl⟩
  rintro k s' ⟨m, h', tk, es', p, u1, u2, u3, rfl, rfl, F, m1, m2, m3, m4, m5, m6, hlen, hk, hsd⟩
  refine wpAny_isTrue_Compare1 ?_
  refine ldL F m5 ?_
  refine ldL F m3 ?_
  refine PyProof.Rows.lt_int ?_
  refine wpAny_truthy_bool ?_
  by_cases h0 : 2 * p + 1 < es.length
  · rw [if_pos (by simp; omega)]
    rw [sup, dif_pos (by omega)] at hsd
    -- rightpos = childpos + 1
    refine wpAny_execs_cons ?_
    refine wpAny_Assign_Name ?_
    refine wpAny_BinOp ?_
    refine ldL F m5 ?_
    refine wpAny_Constant_int ?_
    refine add_int ?_
    refine stL F fun h'' F => ?_
    dsimp only
    refine wpAny_execs_cons ?_
    refine wpAny_mono (Q := fun f s' => f = .next ∧ ∃ m h'' tk u4, s' = { s with heap := h'', toks := tk } ∧ Fb w s.heap l s.heap.objs.size h'' m es' n ∧ m "heap" = some (.ref l) ∧ m "startpos" = some (.int 0 t) ∧
        m "endpos" = some (.int (es.length : Nat) u1) ∧ m "pos" = some (.int (p : Nat) u2) ∧ m "childpos" = some (.int (child gtE es' p x : Nat) u4) ∧ m "newitem" = some x.1) (E := fun _ _ => False) ?_ ?_ (fun _ _ x => x)
    · refine wpAny_If ?_
      refine isTrue_and ?_
      refine wpAny_isTrue_Compare1 ?_
      refine ldL F rfl ?_
      refine ldL F m3 ?_
      refine PyProof.Rows.lt_int ?_
      refine wpAny_truthy_bool ?_
      by_cases h1 : 2 * p + 2 < es.length
      · rw [if_pos (by simp; omega)]
        have ha : 2 * p + 1 < es'.length := by omega
        have hc : 2 * p + 2 < es'.length := by omega
        have pa := F.prs _ (List.getElem_mem ha)
        have pc := F.prs _ (List.getElem_mem hc)
        have ea : es'.getD (2 * p + 1) x = es'[2 * p + 1] := by simp [ha]
        have ec : es'.getD (2 * p + 2) x = es'[2 * p + 2] := by simp [hc]
        have ch : child gtE es' p x = if lex es'[2 * p + 2].2 es'[2 * p + 1].2 = false then 2 * p + 2 else 2 * p + 1 := by
          unfold child; rw [ea, ec]
          show (if _ ∧ lex es'[2 * p + 2].2 es'[2 * p + 1].2 = false then _ else _) = _
          simp only [hc, true_and]
        refine isTrue_and ?_
        refine isTrue_not ?_
        refine wpAny_isTrue_Compare1 ?_
        refine Subscript_ ?_
        refine ldL F m1 ?_
        refine ldL F rfl ?_
        refine itemE (k := 2 * p + 2) F.isList hc (by omega) ?_
        refine Subscript_ ?_
        refine ldL F m1 ?_
        refine ldL F m5 ?_
        refine itemE (k := 2 * p + 1) F.isList ha (by omega) ?_
        refine lt_pair (by unfold cLine; show A.units + 3 < _; omega) (F.pair pc) (F.pair pa) ?_
        refine wpAny_truthy_bool ?_
        by_cases hlt : lex es'[2 * p + 2].2 es'[2 * p + 1].2 = true
        · have ch1 : child gtE es' p x = 2 * p + 1 := by rw [ch, hlt]; rfl
          rw [hlt]
          rw [if_neg (by simp)]
          rw [if_neg (by simp)]
          refine wpAny_execs_nil ?_
          refine ⟨rfl, _, _, _, u3, rfl, F, m1, m2, m3, m4, ?_, m6⟩
          rw [ch1]
          exact m5
        · have hlt' : lex es'[2 * p + 2].2 es'[2 * p + 1].2 = false := by simpa using hlt
          have ch1 : child gtE es' p x = 2 * p + 2 := by rw [ch, hlt']; rfl
          rw [hlt']
          rw [if_pos (by simp)]
          refine isTrue_and_nil ?_
          rw [if_pos rfl]
          refine wpAny_execs_cons ?_
          refine wpAny_Assign_Name ?_
          refine ldL F rfl ?_
          refine stL F fun h'' F => ?_
          dsimp only
          refine wpAny_execs_nil ?_
          refine ⟨rfl, _, _, _, ?u4, rfl, F, m1, m2, m3, m4, ?g, m6⟩
          case g =>
            rw [ch1]
            exact some_int (show (2 * (p : Int) + 1 + 1) = ((2 * p + 2 : Nat) : Int) by omega)
      · rw [if_neg (by simp; omega)]
        rw [if_neg (by simp)]
        refine wpAny_execs_nil ?_
        refine ⟨rfl, _, _, _, u3, rfl, F, m1, m2, m3, m4, ?_, m6⟩
        rw [show child gtE es' p x = 2 * p + 1 by unfold child; rw [if_neg (by omega)]]
        exact m5
    · rintro f s' ⟨rfl, m, h'', tk, u4, rfl, F, m1, m2, m3, m4, m5, m6⟩
      dsimp only
      have hc : child gtE es' p x < es'.length := child_lt (by omega)
      have hg := child_gt gtE es' p x
      have ec : es'.getD (child gtE es' p x) x = es'[child gtE es' p x] := by simp [hc]
      rw [ec] at hsd
      generalize child gtE es' p x = c at *
      have pc := F.prs _ (List.getElem_mem hc)
      -- heap[pos] = heap[childpos]
      refine wpAny_execs_cons ?_
      refine wpAny_Assign_Subscript ?_ ?_
      rotate_left
      · with_unfolding_all rfl
      refine Subscript_ ?_
      refine ldL F m1 ?_
      refine ldL F m5 ?_
      refine itemE F.isList hc (by omega) ?_
      refine ldL F m1 ?_
      refine ldL F m4 ?_
      refine setE F (by omega) (by omega) pc fun h'' F => ?_
      dsimp only
      -- pos = childpos
      refine wpAny_execs_cons ?_
      refine wpAny_Assign_Name ?_
      refine ldL F m5 ?_
      refine stL F fun h'' F => ?_
      dsimp only
      -- childpos = 2 * pos + 1
      refine wpAny_execs_cons ?_
      refine wpAny_Assign_Name ?_
      refine wpAny_BinOp ?_
      refine wpAny_BinOp ?_
      refine wpAny_Constant_int ?_
      refine ldL F rfl ?_
      refine mul_int ?_
      refine wpAny_Constant_int ?_
      refine add_int ?_
      refine stL F fun h'' F => ?_
      dsimp only
      refine wpAny_execs_nil ?_
      dsimp only
      refine ⟨es.length - c, by omega, _, _, _, _, c, _, _, _, rfl, rfl, F, m1, m2, m3, rfl, rfl, m6, ?_, ?_, hsd⟩
      · rw [List.length_set]; exact hlen
      · omega
  · rw [if_neg (by simp; omega)]
    rw [sup, dif_neg (by omega)] at hsd
    dsimp only
    -- heap[pos] = newitem
    refine wpAny_execs_cons ?_
    refine wpAny_Assign_Subscript ?_ ?_
    rotate_left
    · with_unfolding_all rfl
    refine ldL F m6 ?_
    refine ldL F m1 ?_
    refine ldL F m4 ?_
    refine setE F (by omega) (by omega) hx fun h'' F => ?_
    dsimp only
    -- _siftdown(heap, startpos, pos)
    refine wpAny_execs_cons ?_
    refine wpAny_Expr_any ?_
    refine Call_ ?_
    refine ldG F.ground rfl ?_
    refine callWith_K F.ground.k rfl ?_
    refine spliced_more ?_
    refine ldL F m1 ?_
    refine spliced_more ?_
    refine ldL F m2 ?_
    refine spliced_more ?_
    refine ldL F m4 ?_
    refine spliced_none ?_
    refine ⟨F.ground.k, ?_⟩
    have hlt : p < (es'.set p x).length := by rw [List.length_set]; omega
    refine wpAny_call (siftdown_max_spec (es := es'.set p x) (pos := p) G (fun b o q => F.keep b o (by rintro rfl; rw [hbl] at q; cases q) (hbs b o q)) hbl (by show A.depth + 1 < _; omega) (by show A.units + 3 < _; omega) F.lst F.pairs hlt (by rw [List.length_set]; omega) fun h3 tk k3 l3 => ?_)
    dsimp only
    refine wpAny_execs_nil ?_
    dsimp only
    refine h _ _ (F.keep.trans k3) ?_
    unfold siftup
    rw [← hsd]
    rw [show (es'.set p x)[p] = x by simp] at l3
    exact l3
end
end Mine
end

-- part B6
section
open PySem PySem.W PyProof.Rows
set_option Elab.async false
set_option maxRecDepth 100000
namespace Mine

def LsAt (h : Heap) (l : Addr) (es : List Elt) : Prop := ∃ n, h.get? l = some (W.listOf (vals es) n)
def hpush (lt : Elt → Elt → Bool) (x : Elt) (es : List Elt) : List Elt := sdown lt x (es ++ [x]) es.length
/-- the list behind heappop of es, where last is es's last -/
def hpop (lt : Elt → Elt → Bool) (last : Elt) (es : List Elt) : List Elt :=
  if es.length = 1 then [] else siftup lt last (es.dropLast.set 0 last)
def hrep (lt : Elt → Elt → Bool) (x : Elt) (es : List Elt) : List Elt := siftup lt x (es.set 0 x)

theorem nsBut {h h' : Heap} {l L : Addr} {m : Str → Option Value} (hn : h.Ns L m) (k : KeptBut l h h') (ne : L ≠ l) : h'.Ns L m := by
  obtain ⟨oL, es, ep, hL, r⟩ := hn
  exact ⟨oL, es, ep, k _ _ ne hL, r⟩

section
variable {prog : Program} {w : World} {A : Around} {E : Value → Shared → Prop} {s : Shared} {h₀ : Heap} {l L : Addr} {m : Str → Option Value} {es : List Elt} {n : Nat}
theorem appE {x : Elt} {Q : Value → Shared → Prop} (F : Fb w h₀ l L s.heap m es n) (hz : es.length < 2 ^ 20) (he : PairAt h₀ x.1 x.2)
    (h : ∀ h', Fb w h₀ l L h' m (es ++ [x]) (n + 1) → Q .none { s with heap := h' }) : wpAny (model prog w) A (call (.builtin "list.append") [.ref l, x.1]) Q E s := by
  refine append_at F.lst (fun h' hs ho' => h h' (F.put hs ?_ ?_)) (by rw [sizeLine_eq]; simp; omega)
  · rw [ho']
    have e : (vals es).push x.1 = vals (es ++ [x]) := by simp
    rw [e]
  · intro e hm
    rcases List.mem_append.mp hm with hm | hm
    · exact F.prs _ hm
    · rw [List.mem_singleton.mp hm]; exact he
theorem popE {x : Elt} {ys : List Elt} {Q : Value → Shared → Prop} (F : Fb w h₀ l L s.heap m (ys ++ [x]) n) (hz : ys.length < 2 ^ 20)
    (h : ∀ h', Fb w h₀ l L h' m ys (n + 1) → Q x.1 { s with heap := h' }) : wpAny (model prog w) A (call (.builtin "list.pop") [.ref l]) Q E s := by
  have hk : (vals (ys ++ [x])).size - 1 = ys.length := by simp
  have hy : (vals (ys ++ [x]))[(vals (ys ++ [x])).size - 1]? = some x.1 := by rw [hk]; simp
  refine call_meets PySem.F.slot_list_pop ⟨_, F.lst, rfl⟩ PySem.F.entry_list_pop (PySem.F.args_list_pop_1 _) (PySem.MeetsSeq.list_pop_last l _ n x.1 hy (by rw [sizeLine_eq]; simp; omega)) ⟨F.lst, h _ (F.put (Heap.SameBut.update ..) ?_ ?_)⟩
  · have q := PySem.IsL.update F.lst (fun xs => xs.eraseIdxIfInBounds ((vals (ys ++ [x])).size - 1))
    have e : (vals (ys ++ [x])).eraseIdxIfInBounds ((vals (ys ++ [x])).size - 1) = vals ys := by
      rw [hk]
      have := kl_erase (ys.map (·.1)) [] x.1
      simpa using this
    rw [if_neg (by rw [e]; simp)] at q
    rw [e] at q
    exact q
  · exact fun e he => F.prs e (List.mem_append_left _ he)
theorem methE {name : Str} {id : String} {pl : Sem Bool} {Q : Value × List Value → Shared → Prop} (F : Fb w h₀ l L s.heap m es n) (slot : Slot "list" name id) (hty : typeOf (.builtin id) = pure (.type "method_descriptor"))
    (h : Q (.builtin id, [.ref l]) s) : wpAny (model prog w) A (getMethod (.ref l) name pl) Q E s :=
  getMethod_builtin ⟨_, F.lst, rfl⟩ PySem.F.plainAttrs_list slot hty (fun a e => by cases e; exact ⟨_, F.lst, rfl⟩) h
end

section
variable {prog : Program} {w : World} {A : Around} {s : Shared} {R : Result → Shared → Prop} {hb : Heap} {l : Addr} {es ys : List Elt} {x : Elt}

theorem heappush_spec (G : Gd w hb) (hbs : hb.StaysIn s.heap) (hbl : hb.get? l = none) (hA : A.depth < 880) (hU : A.units < 8800)
    (hl : LsAt s.heap l es) (hp : PairsIn s.heap es) (hx : PairAt s.heap x.1 x.2) (hz : es.length < 900)
    (h : ∀ h' tk, KeptBut l s.heap h' → LsAt h' l (hpush ltE x es) → R (.ok (.ret .none)) { s with heap := h', toks := tk }) :
    codeAny (model prog w) A (.call (.ref 21) ⟨[.ref l, x.1], []⟩) R s := by
  obtain ⟨n, hl⟩ := hl
  have GS := G.keeps hbs
  refine codeAny_call_def (binds := [("heap", .ref l), ("item", x.1)]) (by unfold recursionLimit; omega) (GS.k _ _ rfl) rfl GS.nolimit (codeRec_of GS.k rfl) rfl (BindsTo.of_eq rfl) (by decide) (locs rfl) (fun h₁ hns hk₁ => ?_)
  refine wpAny_mono (Q := fun f s' => R (.ok (.ret (match f with | .ret v => v | _ => .none))) s') (E := fun _ _ => False) ?_ (fun _ _ x => x) (fun _ _ x => x.elim)
  have F : Fb w s.heap l s.heap.objs.size h₁ _ es n := ⟨hns, fun b o _ e => hk₁ b o e, hk₁ _ _ hl, ⟨hb, G, hbs, hbl⟩, Nat.le_refl _, ⟨_, _, hl⟩, hp⟩
  clear hns hk₁
  refine wpAny_execs_cons ?_
  refine wpAny_Expr_any ?_
  refine MethodCall_ ?_
  refine ldL F rfl ?_
  refine methE F PySem.F.slot_list_append PySem.F.type_list_append ?_
  refine callWith_method1 ?_
  refine spliced_more ?_
  refine ldL F rfl ?_
  refine spliced_none ?_
  refine appE F (by omega) hx fun h₂ F => ?_
  dsimp only
  refine wpAny_execs_cons ?_
  refine wpAny_Expr_any ?_
  refine Call_ ?_
  refine ldG F.ground rfl ?_
  refine callWith_K F.ground.k rfl ?_
  refine spliced_more ?_
  refine ldL F rfl ?_
  refine spliced_more ?_
  refine wpAny_Constant_int ?_
  refine spliced_more ?_
  refine wpAny_BinOp ?_
  refine Call_ ?_
  refine ldB F.ground rfl boot_len (by decide) ?_
  refine PyProof.Rows.callWith_builtin1 ?_
  refine spliced_more ?_
  refine ldL F rfl ?_
  refine spliced_none ?_
  refine len_list F.isList (by simp; omega) ?_
  refine wpAny_Constant_int ?_
  refine sub_int ?_
  refine spliced_none ?_
  refine ⟨F.ground.k, ?_⟩
  rw [show ((vals (es ++ [x])).size : Int) - 1 = ((es.length : Nat) : Int) by simp]
  have hlt : es.length < (es ++ [x]).length := by simp
  refine wpAny_call (siftdown_spec (es := es ++ [x]) (pos := es.length) G (fun b o q => F.keep b o (by rintro rfl; rw [hbl] at q; cases q) (hbs b o q)) hbl (by show A.depth + 1 < _; omega) (by show A.units + 3 < _; omega) F.lst F.pairs hlt (by simp; omega) fun h3 tk k3 l3 => ?_)
  dsimp only
  refine wpAny_execs_nil ?_
  dsimp only
  refine h _ _ (F.keep.trans k3) ⟨n + 1, ?_⟩
  unfold hpush
  rw [show (es ++ [x])[es.length] = x by simp] at l3
  exact l3

theorem heappop_spec (G : Gd w hb) (hbs : hb.StaysIn s.heap) (hbl : hb.get? l = none) (hA : A.depth < 880) (hU : A.units < 8800)
    (hl : LsAt s.heap l (ys ++ [x])) (hp : PairsIn s.heap (ys ++ [x])) (hz : ys.length < 900)
    (h : ∀ h' tk, KeptBut l s.heap h' → LsAt h' l (hpop ltE x (ys ++ [x])) → R (.ok (.ret ((ys ++ [x]).head (by simp)).1)) { s with heap := h', toks := tk }) :
    codeAny (model prog w) A (.call (.ref 28) ⟨[.ref l], []⟩) R s := by
  obtain ⟨n, hl⟩ := hl
  have GS := G.keeps hbs
  refine codeAny_call_def (binds := [("heap", .ref l)]) (by unfold recursionLimit; omega) (GS.k _ _ rfl) rfl GS.nolimit (codeRec_of GS.k rfl) rfl (BindsTo.of_eq rfl) (by decide) (locs rfl) (fun h₁ hns hk₁ => ?_)
  refine wpAny_mono (Q := fun f s' => R (.ok (.ret (match f with | .ret v => v | _ => .none))) s') (E := fun _ _ => False) ?_ (fun _ _ x => x) (fun _ _ x => x.elim)
  have F : Fb w s.heap l s.heap.objs.size h₁ _ (ys ++ [x]) n := ⟨hns, fun b o _ e => hk₁ b o e, hk₁ _ _ hl, ⟨hb, G, hbs, hbl⟩, Nat.le_refl _, ⟨_, _, hl⟩, hp⟩
  clear hns hk₁
  have hx : PairAt s.heap x.1 x.2 := hp x (by simp)
  -- lastelt = heap.pop()
  refine wpAny_execs_cons ?_
  refine wpAny_Assign_Name ?_
  refine MethodCall_ ?_
  refine ldL F rfl ?_
  refine methE F PySem.F.slot_list_pop PySem.F.type_list_pop ?_
  refine callWith_method0 ?_
  refine popE F (by omega) fun h₂ F => ?_
  refine stL F fun h₂ F => ?_
  dsimp only
  refine wpAny_execs_cons ?_
  refine wpAny_If ?_
  refine isTrue_plain ?_
  refine ldL F rfl ?_
  refine wpAny_truthy_list F.isList (by simp; omega) ?_
  cases ys with
  | nil =>
    rw [if_neg (by simp)]
    refine wpAny_execs_nil ?_
    dsimp only
    refine wpAny_execs_cons ?_
    refine wpAny_Return_some ?_
    refine ldL F rfl ?_
    dsimp only
    exact h _ _ F.keep ⟨_, F.lst⟩
  | cons y ys =>
    rw [if_pos (by simp)]
    -- returnitem = heap[0]
    refine wpAny_execs_cons ?_
    refine wpAny_Assign_Name ?_
    refine Subscript_ ?_
    refine ldL F rfl ?_
    refine wpAny_Constant_int ?_
    refine itemE (k := 0) F.isList (by simp) (by simp at hz ⊢; omega) ?_
    refine stL F fun h₂ F => ?_
    dsimp only
    -- heap[0] = lastelt
    refine wpAny_execs_cons ?_
    refine wpAny_Assign_Subscript ?_ ?_
    rotate_left
    · with_unfolding_all rfl
    refine ldL F rfl ?_
    refine ldL F rfl ?_
    refine wpAny_Constant_int ?_
    refine setE (k := 0) F (by simp) (by simp at hz ⊢; omega) hx fun h'' F => ?_
    dsimp only
    -- _siftup(heap, 0)
    refine wpAny_execs_cons ?_
    refine wpAny_Expr_any ?_
    refine Call_ ?_
    refine ldG F.ground rfl ?_
    refine callWith_K F.ground.k rfl ?_
    refine spliced_more ?_
    refine ldL F rfl ?_
    refine spliced_more ?_
    refine wpAny_Constant_int ?_
    refine spliced_none ?_
    refine ⟨F.ground.k, ?_⟩
    refine wpAny_call (siftup_spec (es := (y :: ys).set 0 x) G (fun b o q => F.keep b o (by rintro rfl; rw [hbl] at q; cases q) (hbs b o q)) hbl (by show A.depth + 1 < _; omega) (by show A.units + 3 < _; omega) F.lst F.pairs (by simp) (by simp at hz ⊢; omega) fun h3 tk k3 l3 => ?_)
    dsimp only
    have F3 := nsBut F.ns k3 (Ne.symm F.ne)
    refine wpAny_execs_cons ?_
    refine wpAny_Return_some ?_
    refine wpAny_Name (wpAny_loadName_local rfl rfl F3 rfl ?_)
    dsimp only
    refine h _ _ (F.keep.trans k3) ⟨n + 1, ?_⟩
    unfold hpop
    rw [if_neg (by simp)]
    rw [List.dropLast_concat]
    exact l3

theorem heapreplace_spec {y : Elt} (G : Gd w hb) (hbs : hb.StaysIn s.heap) (hbl : hb.get? l = none) (hA : A.depth < 880) (hU : A.units < 8800)
    (hl : LsAt s.heap l (y :: ys)) (hp : PairsIn s.heap (y :: ys)) (hx : PairAt s.heap x.1 x.2) (hz : ys.length < 900)
    (h : ∀ h' tk, KeptBut l s.heap h' → LsAt h' l (hrep ltE x (y :: ys)) → R (.ok (.ret y.1)) { s with heap := h', toks := tk }) :
    codeAny (model prog w) A (.call (.ref 35) ⟨[.ref l, x.1], []⟩) R s := by
  obtain ⟨n, hl⟩ := hl
  have GS := G.keeps hbs
  refine codeAny_call_def (binds := [("heap", .ref l), ("item", x.1)]) (by unfold recursionLimit; omega) (GS.k _ _ rfl) rfl GS.nolimit (codeRec_of GS.k rfl) rfl (BindsTo.of_eq rfl) (by decide) (locs rfl) (fun h₁ hns hk₁ => ?_)
  refine wpAny_mono (Q := fun f s' => R (.ok (.ret (match f with | .ret v => v | _ => .none))) s') (E := fun _ _ => False) ?_ (fun _ _ x => x) (fun _ _ x => x.elim)
  have F : Fb w s.heap l s.heap.objs.size h₁ _ (y :: ys) n := ⟨hns, fun b o _ e => hk₁ b o e, hk₁ _ _ hl, ⟨hb, G, hbs, hbl⟩, Nat.le_refl _, ⟨_, _, hl⟩, hp⟩
  clear hns hk₁
  -- returnitem = heap[0]
  refine wpAny_execs_cons ?_
  refine wpAny_Assign_Name ?_
  refine Subscript_ ?_
  refine ldL F rfl ?_
  refine wpAny_Constant_int ?_
  refine itemE (k := 0) F.isList (by simp) (by simp; omega) ?_
  refine stL F fun h₂ F => ?_
  dsimp only
  -- heap[0] = item
  refine wpAny_execs_cons ?_
  refine wpAny_Assign_Subscript ?_ ?_
  rotate_left
  · with_unfolding_all rfl
  refine ldL F rfl ?_
  refine ldL F rfl ?_
  refine wpAny_Constant_int ?_
  refine setE (k := 0) F (by simp) (by simp; omega) hx fun h'' F => ?_
  dsimp only
  -- _siftup(heap, 0)
  refine wpAny_execs_cons ?_
  refine wpAny_Expr_any ?_
  refine Call_ ?_
  refine ldG F.ground rfl ?_
  refine callWith_K F.ground.k rfl ?_
  refine spliced_more ?_
  refine ldL F rfl ?_
  refine spliced_more ?_
  refine wpAny_Constant_int ?_
  refine spliced_none ?_
  refine ⟨F.ground.k, ?_⟩
  refine wpAny_call (siftup_spec (es := (y :: ys).set 0 x) G (fun b o q => F.keep b o (by rintro rfl; rw [hbl] at q; cases q) (hbs b o q)) hbl (by show A.depth + 1 < _; omega) (by show A.units + 3 < _; omega) F.lst F.pairs (by simp) (by simp; omega) fun h3 tk k3 l3 => ?_)
  dsimp only
  have F3 := nsBut F.ns k3 (Ne.symm F.ne)
  refine wpAny_execs_cons ?_
  refine wpAny_Return_some ?_
  refine wpAny_Name (wpAny_loadName_local rfl rfl F3 rfl ?_)
  dsimp only
  exact h _ _ (F.keep.trans k3) ⟨n, l3⟩
end
end Mine
end

-- part B7
section
open PySem PySem.W PyProof.Rows
set_option Elab.async false
set_option maxRecDepth 100000
namespace Mine
section
variable {prog : Program} {w : World} {A : Around} {s : Shared} {R : Result → Shared → Prop} {hb : Heap} {l : Addr} {es ys : List Elt} {x : Elt}

theorem pushmax_spec (G : Gd w hb) (hbs : hb.StaysIn s.heap) (hbl : hb.get? l = none) (hA : A.depth < 880) (hU : A.units < 8800)
    (hl : LsAt s.heap l es) (hp : PairsIn s.heap es) (hx : PairAt s.heap x.1 x.2) (hz : es.length < 900)
    (h : ∀ h' tk, KeptBut l s.heap h' → LsAt h' l (hpush gtE x es) → R (.ok (.ret .none)) { s with heap := h', toks := tk }) :
    codeAny (model prog w) A (.call (.ref 84) ⟨[.ref l, x.1], []⟩) R s := by
  obtain ⟨n, hl⟩ := hl
  have GS := G.keeps hbs
  refine codeAny_call_def (binds := [("heap", .ref l), ("pair", x.1)]) (by unfold recursionLimit; omega) (GS.k _ _ rfl) rfl GS.nolimit (codeRec_of GS.k rfl) rfl (BindsTo.of_eq rfl) (by decide) (locs rfl) (fun h₁ hns hk₁ => ?_)
  refine wpAny_mono (Q := fun f s' => R (.ok (.ret (match f with | .ret v => v | _ => .none))) s') (E := fun _ _ => False) ?_ (fun _ _ x => x) (fun _ _ x => x.elim)
  have F : Fb w s.heap l s.heap.objs.size h₁ _ es n := ⟨hns, fun b o _ e => hk₁ b o e, hk₁ _ _ hl, ⟨hb, G, hbs, hbl⟩, Nat.le_refl _, ⟨_, _, hl⟩, hp⟩
  clear hns hk₁
  refine wpAny_execs_cons ?_
  refine wpAny_Expr_any ?_
  refine MethodCall_ ?_
  refine ldL F rfl ?_
  refine methE F PySem.F.slot_list_append PySem.F.type_list_append ?_
  refine callWith_method1 ?_
  refine spliced_more ?_
  refine ldL F rfl ?_
  refine spliced_none ?_
  refine appE F (by omega) hx fun h₂ F => ?_
  dsimp only
  refine wpAny_execs_cons ?_
  refine wpAny_Expr_any ?_
  refine Call_ ?_
  refine ldG F.ground rfl ?_
  refine callWith_K F.ground.k rfl ?_
  refine spliced_more ?_
  refine ldL F rfl ?_
  refine spliced_more ?_
  refine wpAny_Constant_int ?_
  refine spliced_more ?_
  refine wpAny_BinOp ?_
  refine Call_ ?_
  refine ldB F.ground rfl boot_len (by decide) ?_
  refine PyProof.Rows.callWith_builtin1 ?_
  refine spliced_more ?_
  refine ldL F rfl ?_
  refine spliced_none ?_
  refine len_list F.isList (by simp; omega) ?_
  refine wpAny_Constant_int ?_
  refine sub_int ?_
  refine spliced_none ?_
  refine ⟨F.ground.k, ?_⟩
  rw [show ((vals (es ++ [x])).size : Int) - 1 = ((es.length : Nat) : Int) by simp]
  have hlt : es.length < (es ++ [x]).length := by simp
  refine wpAny_call (siftdown_max_spec (es := es ++ [x]) (pos := es.length) G (fun b o q => F.keep b o (by rintro rfl; rw [hbl] at q; cases q) (hbs b o q)) hbl (by show A.depth + 1 < _; omega) (by show A.units + 3 < _; omega) F.lst F.pairs hlt (by simp; omega) fun h3 tk k3 l3 => ?_)
  dsimp only
  refine wpAny_execs_nil ?_
  dsimp only
  refine h _ _ (F.keep.trans k3) ⟨n + 1, ?_⟩
  unfold hpush
  rw [show (es ++ [x])[es.length] = x by simp] at l3
  exact l3

theorem popmax_spec (G : Gd w hb) (hbs : hb.StaysIn s.heap) (hbl : hb.get? l = none) (hA : A.depth < 880) (hU : A.units < 8800)
    (hl : LsAt s.heap l (ys ++ [x])) (hp : PairsIn s.heap (ys ++ [x])) (hz : ys.length < 900)
    (h : ∀ h' tk, KeptBut l s.heap h' → LsAt h' l (hpop gtE x (ys ++ [x])) → R (.ok (.ret ((ys ++ [x]).head (by simp)).1)) { s with heap := h', toks := tk }) :
    codeAny (model prog w) A (.call (.ref 42) ⟨[.ref l], []⟩) R s := by
  obtain ⟨n, hl⟩ := hl
  have GS := G.keeps hbs
  refine codeAny_call_def (binds := [("heap", .ref l)]) (by unfold recursionLimit; omega) (GS.k _ _ rfl) rfl GS.nolimit (codeRec_of GS.k rfl) rfl (BindsTo.of_eq rfl) (by decide) (locs rfl) (fun h₁ hns hk₁ => ?_)
  refine wpAny_mono (Q := fun f s' => R (.ok (.ret (match f with | .ret v => v | _ => .none))) s') (E := fun _ _ => False) ?_ (fun _ _ x => x) (fun _ _ x => x.elim)
  have F : Fb w s.heap l s.heap.objs.size h₁ _ (ys ++ [x]) n := ⟨hns, fun b o _ e => hk₁ b o e, hk₁ _ _ hl, ⟨hb, G, hbs, hbl⟩, Nat.le_refl _, ⟨_, _, hl⟩, hp⟩
  clear hns hk₁
  have hx : PairAt s.heap x.1 x.2 := hp x (by simp)
  -- lastelt = heap.pop()
  refine wpAny_execs_cons ?_
  refine wpAny_Assign_Name ?_
  refine MethodCall_ ?_
  refine ldL F rfl ?_
  refine methE F PySem.F.slot_list_pop PySem.F.type_list_pop ?_
  refine callWith_method0 ?_
  refine popE F (by omega) fun h₂ F => ?_
  refine stL F fun h₂ F => ?_
  dsimp only
  refine wpAny_execs_cons ?_
  refine wpAny_If ?_
  refine isTrue_plain ?_
  refine ldL F rfl ?_
  refine wpAny_truthy_list F.isList (by simp; omega) ?_
  cases ys with
  | nil =>
    rw [if_neg (by simp)]
    refine wpAny_execs_nil ?_
    dsimp only
    refine wpAny_execs_cons ?_
    refine wpAny_Return_some ?_
    refine ldL F rfl ?_
    dsimp only
    exact h _ _ F.keep ⟨_, F.lst⟩
  | cons y ys =>
    rw [if_pos (by simp)]
    -- returnitem = heap[0]
    refine wpAny_execs_cons ?_
    refine wpAny_Assign_Name ?_
    refine Subscript_ ?_
    refine ldL F rfl ?_
    refine wpAny_Constant_int ?_
    refine itemE (k := 0) F.isList (by simp) (by simp at hz ⊢; omega) ?_
    refine stL F fun h₂ F => ?_
    dsimp only
    -- heap[0] = lastelt
    refine wpAny_execs_cons ?_
    refine wpAny_Assign_Subscript ?_ ?_
    rotate_left
    · with_unfolding_all rfl
    refine ldL F rfl ?_
    refine ldL F rfl ?_
    refine wpAny_Constant_int ?_
    refine setE (k := 0) F (by simp) (by simp at hz ⊢; omega) hx fun h'' F => ?_
    dsimp only
    -- _siftup(heap, 0)
    refine wpAny_execs_cons ?_
    refine wpAny_Expr_any ?_
    refine Call_ ?_
    refine ldG F.ground rfl ?_
    refine callWith_K F.ground.k rfl ?_
    refine spliced_more ?_
    refine ldL F rfl ?_
    refine spliced_more ?_
    refine wpAny_Constant_int ?_
    refine spliced_none ?_
    refine ⟨F.ground.k, ?_⟩
    refine wpAny_call (siftup_max_spec (es := (y :: ys).set 0 x) G (fun b o q => F.keep b o (by rintro rfl; rw [hbl] at q; cases q) (hbs b o q)) hbl (by show A.depth + 1 < _; omega) (by show A.units + 3 < _; omega) F.lst F.pairs (by simp) (by simp at hz ⊢; omega) fun h3 tk k3 l3 => ?_)
    dsimp only
    have F3 := nsBut F.ns k3 (Ne.symm F.ne)
    refine wpAny_execs_cons ?_
    refine wpAny_Return_some ?_
    refine wpAny_Name (wpAny_loadName_local rfl rfl F3 rfl ?_)
    dsimp only
    refine h _ _ (F.keep.trans k3) ⟨n + 1, ?_⟩
    unfold hpop
    rw [if_neg (by simp)]
    rw [List.dropLast_concat]
    exact l3

theorem replacemax_spec {y : Elt} (G : Gd w hb) (hbs : hb.StaysIn s.heap) (hbl : hb.get? l = none) (hA : A.depth < 880) (hU : A.units < 8800)
    (hl : LsAt s.heap l (y :: ys)) (hp : PairsIn s.heap (y :: ys)) (hx : PairAt s.heap x.1 x.2) (hz : ys.length < 900)
    (h : ∀ h' tk, KeptBut l s.heap h' → LsAt h' l (hrep gtE x (y :: ys)) → R (.ok (.ret y.1)) { s with heap := h', toks := tk }) :
    codeAny (model prog w) A (.call (.ref 49) ⟨[.ref l, x.1], []⟩) R s := by
  obtain ⟨n, hl⟩ := hl
  have GS := G.keeps hbs
  refine codeAny_call_def (binds := [("heap", .ref l), ("item", x.1)]) (by unfold recursionLimit; omega) (GS.k _ _ rfl) rfl GS.nolimit (codeRec_of GS.k rfl) rfl (BindsTo.of_eq rfl) (by decide) (locs rfl) (fun h₁ hns hk₁ => ?_)
  refine wpAny_mono (Q := fun f s' => R (.ok (.ret (match f with | .ret v => v | _ => .none))) s') (E := fun _ _ => False) ?_ (fun _ _ x => x) (fun _ _ x => x.elim)
  have F : Fb w s.heap l s.heap.objs.size h₁ _ (y :: ys) n := ⟨hns, fun b o _ e => hk₁ b o e, hk₁ _ _ hl, ⟨hb, G, hbs, hbl⟩, Nat.le_refl _, ⟨_, _, hl⟩, hp⟩
  clear hns hk₁
  -- returnitem = heap[0]
  refine wpAny_execs_cons ?_
  refine wpAny_Assign_Name ?_
  refine Subscript_ ?_
  refine ldL F rfl ?_
  refine wpAny_Constant_int ?_
  refine itemE (k := 0) F.isList (by simp) (by simp; omega) ?_
  refine stL F fun h₂ F => ?_
  dsimp only
  -- heap[0] = item
  refine wpAny_execs_cons ?_
  refine wpAny_Assign_Subscript ?_ ?_
  rotate_left
  · with_unfolding_all rfl
  refine ldL F rfl ?_
  refine ldL F rfl ?_
  refine wpAny_Constant_int ?_
  refine setE (k := 0) F (by simp) (by simp; omega) hx fun h'' F => ?_
  dsimp only
  -- _siftup(heap, 0)
  refine wpAny_execs_cons ?_
  refine wpAny_Expr_any ?_
  refine Call_ ?_
  refine ldG F.ground rfl ?_
  refine callWith_K F.ground.k rfl ?_
  refine spliced_more ?_
  refine ldL F rfl ?_
  refine spliced_more ?_
  refine wpAny_Constant_int ?_
  refine spliced_none ?_
  refine ⟨F.ground.k, ?_⟩
  refine wpAny_call (siftup_max_spec (es := (y :: ys).set 0 x) G (fun b o q => F.keep b o (by rintro rfl; rw [hbl] at q; cases q) (hbs b o q)) hbl (by show A.depth + 1 < _; omega) (by show A.units + 3 < _; omega) F.lst F.pairs (by simp) (by simp; omega) fun h3 tk k3 l3 => ?_)
  dsimp only
  have F3 := nsBut F.ns k3 (Ne.symm F.ne)
  refine wpAny_execs_cons ?_
  refine wpAny_Return_some ?_
  refine wpAny_Name (wpAny_loadName_local rfl rfl F3 rfl ?_)
  dsimp only
  exact h _ _ (F.keep.trans k3) ⟨n, l3⟩
end
end Mine
end

-- part M1
section
set_option Elab.async false
namespace Mine
open PySem

structure Ord (lt : Elt → Elt → Bool) : Prop where
  asym : ∀ a b, lt a b = true → lt b a = false
  ntr : ∀ a b c, lt a b = false → lt b c = false → lt a c = false

theorem lex_asym (p q : Int × Int) (h : lex p q = true) : lex q p = false := by
  unfold lex at *
  split at h <;> split <;> simp_all <;> omega
theorem lex_ntr (p q r : Int × Int) (h : lex p q = false) (h' : lex q r = false) : lex p r = false := by
  unfold lex at *
  split at h <;> split at h' <;> split <;> simp_all <;> omega
theorem lex_tot (p q : Int × Int) (h : lex p q = false) (h' : lex q p = false) : p = q := by
  obtain ⟨a, b⟩ := p
  obtain ⟨c, d⟩ := q
  unfold lex at *
  simp only at h h'
  by_cases e : a = c
  · rw [if_pos e] at h
    rw [if_pos e.symm] at h'
    simp at h h'
    rw [e, show b = d by omega]
  · rw [if_neg e] at h
    rw [if_neg (Ne.symm e)] at h'
    simp at h h'
    omega
theorem ord_lt : Ord ltE := ⟨fun _ _ => lex_asym _ _, fun _ _ _ => lex_ntr _ _ _⟩
theorem ord_gt : Ord gtE := ⟨fun _ _ => lex_asym _ _, fun _ _ _ h h' => lex_ntr _ _ _ h' h⟩

theorem getD_set {α : Type} {es : List α} {k i : Nat} {v d : α} (h : k < es.length) : (es.set k v).getD i d = if i = k then v else es.getD i d := by
  rw [List.getD_eq_getElem?_getD, List.getD_eq_getElem?_getD, List.getElem?_set]
  by_cases e : k = i
  · subst e; simp [h]
  · rw [if_neg e, if_neg (Ne.symm e)]

theorem sdown_len (lt : Elt → Elt → Bool) (x : Elt) (es : List Elt) (pos : Nat) : (sdown lt x es pos).length = es.length := by
  induction pos using Nat.strongRecOn generalizing es with
  | ind pos ih =>
    rw [sdown]
    split
    · simp
    · split
      · rw [ih _ (by omega)]; simp
      · simp

/-- moving a value within a list: a hole moved from i to j -/
theorem hole_perm {α : Type} (es : List α) (i j : Nat) (x d : α) (hi : i < es.length) (hj : j < es.length) :
    ((es.set i (es.getD j d)).set j x).Perm (es.set i x) := by
  by_cases e : i = j
  · subst e; rw [List.set_set]
  · have h1 : (es.set i x)[i]'(by simpa using hi) = x := by simp
    have h2 : (es.set i x)[j]'(by simpa using hj) = es[j] := by simp [e]
    have := List.set_set_perm (as := es.set i x) (i := i) (j := j) (by simpa using hi) (by simpa using hj)
    rw [h1, h2, List.set_set] at this
    rw [show es.getD j d = es[j] by simp [hj]]
    exact this

theorem sdown_perm (lt : Elt → Elt → Bool) (x : Elt) (es : List Elt) (pos : Nat) (h : pos < es.length) : (sdown lt x es pos).Perm (es.set pos x) := by
  induction pos using Nat.strongRecOn generalizing es with
  | ind pos ih =>
    rw [sdown]
    split
    · rename_i h0; subst h0; exact List.Perm.refl _
    · split
      · refine (ih _ (by omega) _ (by simp; omega)).trans ?_
        exact hole_perm es pos ((pos - 1) / 2) x x h (by omega)
      · exact List.Perm.refl _

theorem sup_spec (lt : Elt → Elt → Bool) (x : Elt) : ∀ (k : Nat) (es : List Elt) (pos : Nat), es.length - pos = k → pos < es.length →
    (sup lt x es pos).1.length = es.length ∧ (sup lt x es pos).2 < es.length ∧ ((sup lt x es pos).1.set (sup lt x es pos).2 x).Perm (es.set pos x) := by
  intro k
  induction k using Nat.strongRecOn with
  | ind k ih =>
    intro es pos hk hpos
    rw [sup]
    split
    · rename_i h
      have h1 := child_gt lt es pos x
      have h2 := child_lt (lt := lt) (x := x) h
      obtain ⟨a, b, c⟩ := ih (es.length - child lt es pos x) (by omega) (es.set pos (es.getD (child lt es pos x) x)) (child lt es pos x) (by simp) (by simpa using h2)
      simp only [List.length_set] at a b
      exact ⟨a, b, c.trans (hole_perm es pos _ x x hpos h2)⟩
    · exact ⟨rfl, hpos, List.Perm.refl _⟩

def IsHeap (lt : Elt → Elt → Bool) (es : List Elt) : Prop := ∀ d i, 0 < i → i < es.length → lt (es.getD i d) (es.getD ((i - 1) / 2) d) = false

theorem sdown_heap {lt : Elt → Elt → Bool} (O : Ord lt) (x : Elt) : ∀ (pos : Nat) (es : List Elt), pos < es.length →
    (∀ i, 0 < i → i < es.length → i ≠ pos → (i - 1) / 2 ≠ pos → lt (es.getD i x) (es.getD ((i - 1) / 2) x) = false) →
    (∀ i, 0 < i → i < es.length → (i - 1) / 2 = pos → lt (es.getD i x) x = false) →
    (∀ i, 0 < i → i < es.length → (i - 1) / 2 = pos → 0 < pos → lt (es.getD i x) (es.getD ((pos - 1) / 2) x) = false) →
    ∀ i, 0 < i → i < es.length → lt ((sdown lt x es pos).getD i x) ((sdown lt x es pos).getD ((i - 1) / 2) x) = false := by
  intro pos
  induction pos using Nat.strongRecOn with
  | ind pos ih =>
    intro es hp ha hb hc i hi hil
    rw [sdown]
    split
    · rename_i h0
      subst h0
      rw [getD_set hp, getD_set hp, if_neg (by omega)]
      split
      · rename_i e; exact hb i hi hil e
      · rename_i e; exact ha i hi hil (by omega) e
    · rename_i h0
      split
      · rename_i hlt
        have hpp : (pos - 1) / 2 < pos := by omega
        have hppl : (pos - 1) / 2 < es.length := by omega
        generalize hy : es.getD ((pos - 1) / 2) x = y at *
        refine ih _ hpp (es.set pos y) (by simpa using hppl) ?_ ?_ ?_ i hi (by simpa using hil)
        · intro j hj hjl hj1 hj2
          simp only [List.length_set] at hjl
          rw [getD_set hp, getD_set hp]
          by_cases e1 : j = pos
          · subst e1; exact absurd rfl hj2
          · rw [if_neg e1]
            by_cases e2 : (j - 1) / 2 = pos
            · rw [if_pos e2]; exact hc j hj hjl e2 (by omega)
            · rw [if_neg e2]; exact ha j hj hjl e1 e2
        · intro j hj hjl hj1
          simp only [List.length_set] at hjl
          rw [getD_set hp]
          by_cases e1 : j = pos
          · rw [if_pos e1]; exact O.asym _ _ hlt
          · rw [if_neg e1]
            have := ha j hj hjl e1 (by omega)
            rw [hj1, hy] at this
            exact O.ntr _ _ _ this (O.asym _ _ hlt)
        · intro j hj hjl hj1 hj0
          simp only [List.length_set] at hjl
          have h3 := ha ((pos - 1) / 2) hj0 hppl (by omega) (by omega)
          rw [hy] at h3
          rw [getD_set hp, getD_set hp, if_neg (show ¬ ((pos - 1) / 2 - 1) / 2 = pos by omega)]
          by_cases e1 : j = pos
          · rw [if_pos e1]; exact h3
          · rw [if_neg e1]
            have := ha j hj hjl e1 (by omega)
            rw [hj1, hy] at this
            exact O.ntr _ _ _ this h3
      · rename_i hlt
        rw [getD_set hp, getD_set hp]
        by_cases e1 : i = pos
        · subst e1
          rw [if_pos rfl, if_neg (by omega)]
          simpa using hlt
        · rw [if_neg e1]
          split
          · rename_i e2; exact hb i hi hil e2
          · rename_i e2; exact ha i hi hil e1 e2

theorem sup_heap {lt : Elt → Elt → Bool} (O : Ord lt) (x : Elt) : ∀ (k : Nat) (es : List Elt) (pos : Nat), es.length - pos = k → pos < es.length →
    (∀ i, 0 < i → i < es.length → i ≠ pos → (i - 1) / 2 ≠ pos → lt (es.getD i x) (es.getD ((i - 1) / 2) x) = false) →
    (∀ i, 0 < i → i < es.length → (i - 1) / 2 = pos → 0 < pos → lt (es.getD i x) (es.getD ((pos - 1) / 2) x) = false) →
    es.length ≤ 2 * (sup lt x es pos).2 + 1 ∧
    ∀ i, 0 < i → i < es.length → i ≠ (sup lt x es pos).2 → (i - 1) / 2 ≠ (sup lt x es pos).2 → lt ((sup lt x es pos).1.getD i x) ((sup lt x es pos).1.getD ((i - 1) / 2) x) = false := by
  intro k
  induction k using Nat.strongRecOn with
  | ind k ih =>
    intro es pos hk hp ha hc
    rw [sup]
    split
    · rename_i h
      have h1 := child_gt lt es pos x
      have h2 := child_lt (lt := lt) (x := x) h
      have hch : (child lt es pos x - 1) / 2 = pos := by unfold child; split <;> omega
      have hsib : ∀ j, 0 < j → j < es.length → (j - 1) / 2 = pos → j ≠ child lt es pos x → lt (es.getD j x) (es.getD (child lt es pos x) x) = false := by
        intro j hj hjl hjp hjc
        unfold child at hjc ⊢
        split
        · rename_i q
          rw [if_pos q] at hjc
          have : j = 2 * pos + 1 := by omega
          subst this
          exact q.2
        · rename_i q
          rw [if_neg q] at hjc
          have : j = 2 * pos + 2 := by omega
          subst this
          refine O.asym _ _ ?_
          cases hq : lt (es.getD (2 * pos + 1) x) (es.getD (2 * pos + 2) x)
          · exact absurd ⟨hjl, hq⟩ q
          · rfl
      generalize child lt es pos x = c at *
      have := ih (es.length - c) (by omega) (es.set pos (es.getD c x)) c (by simp) (by simpa using h2) ?_ ?_
      · simpa only [List.length_set] using this
      · intro j hj hjl hj1 hj2
        simp only [List.length_set] at hjl
        rw [getD_set hp, getD_set hp]
        by_cases e1 : j = pos
        · rw [if_pos e1, if_neg (by omega)]
          subst e1
          exact hc c (by omega) h2 hch hj
        · rw [if_neg e1]
          by_cases e2 : (j - 1) / 2 = pos
          · rw [if_pos e2]; exact hsib j hj hjl e2 hj1
          · rw [if_neg e2]; exact ha j hj hjl e1 e2
      · intro j hj hjl hj1 hj0
        simp only [List.length_set] at hjl
        rw [getD_set hp, getD_set hp, if_neg (show ¬ j = pos by omega), hch, if_pos rfl]
        have := ha j hj hjl (by omega) (by omega)
        rw [hj1] at this
        exact this
    · rename_i h
      exact ⟨by omega, ha⟩

theorem siftup_len (lt : Elt → Elt → Bool) (x : Elt) (es : List Elt) (h : 0 < es.length) : (siftup lt x es).length = es.length := by
  unfold siftup
  rw [sdown_len, List.length_set]
  exact (sup_spec lt x _ es 0 rfl h).1
theorem siftup_perm (lt : Elt → Elt → Bool) (x : Elt) (es : List Elt) (h : 0 < es.length) : (siftup lt x es).Perm (es.set 0 x) := by
  obtain ⟨a, b, c⟩ := sup_spec lt x _ es 0 rfl h
  unfold siftup
  refine (sdown_perm lt x _ _ (by rw [List.length_set, a]; exact b)).trans ?_
  rw [List.set_set]
  exact c
theorem heap_of {lt : Elt → Elt → Bool} {es : List Elt} (x : Elt) (h : ∀ i, 0 < i → i < es.length → lt (es.getD i x) (es.getD ((i - 1) / 2) x) = false) : IsHeap lt es := by
  intro d i hi hil
  have := h i hi hil
  rw [List.getD_eq_getElem?_getD, List.getD_eq_getElem?_getD, List.getElem?_eq_getElem hil, List.getElem?_eq_getElem (by omega : (i - 1) / 2 < es.length)] at this ⊢
  exact this
theorem siftup_heap {lt : Elt → Elt → Bool} (O : Ord lt) (x : Elt) (es : List Elt) (h : 0 < es.length)
    (hh : ∀ i, 0 < i → i < es.length → (i - 1) / 2 ≠ 0 → lt (es.getD i x) (es.getD ((i - 1) / 2) x) = false) : IsHeap lt (siftup lt x es) := by
  refine heap_of x ?_
  rw [siftup_len lt x es h]
  obtain ⟨a, b, _⟩ := sup_spec lt x _ es 0 rfl h
  obtain ⟨c, d⟩ := sup_heap O x _ es 0 rfl h (fun i hi hil _ h2 => hh i hi hil h2) (fun _ _ _ _ h0 => absurd h0 (by omega))
  unfold siftup
  generalize sup lt x es 0 = r at *
  have hb : r.2 < r.1.length := by omega
  have := sdown_heap O x r.2 (r.1.set r.2 x) (by simpa using hb) ?_ ?_ ?_
  · simpa only [List.length_set, a] using this
  · intro i hi hil h1 h2
    simp only [List.length_set, a] at hil
    rw [getD_set hb, getD_set hb, if_neg h1, if_neg h2]
    exact d i hi hil h1 h2
  · intro i hi hil h1
    simp only [List.length_set, a] at hil
    omega
  · intro i hi hil h1
    simp only [List.length_set, a] at hil
    omega

theorem IsHeap.root {lt : Elt → Elt → Bool} (O : Ord lt) {y : Elt} {ys : List Elt} (h : IsHeap lt (y :: ys)) : ∀ e ∈ y :: ys, lt e y = false := by
  have key : ∀ i, i < (y :: ys).length → lt ((y :: ys).getD i y) y = false := by
    intro i
    induction i using Nat.strongRecOn with
    | ind i ih =>
      intro hi
      by_cases h0 : i = 0
      · subst h0
        cases hq : lt y y
        · exact hq
        · have := O.asym _ _ hq; rw [hq] at this; cases this
      · exact O.ntr _ _ _ (h y i (by omega) hi) (ih _ (by omega) (by omega))
  intro e he
  obtain ⟨i, hi, rfl⟩ := List.getElem_of_mem he
  have := key i hi
  rwa [List.getD_eq_getElem?_getD, List.getElem?_eq_getElem hi] at this

theorem hpush_perm (lt : Elt → Elt → Bool) (x : Elt) (es : List Elt) : (hpush lt x es).Perm (x :: es) := by
  unfold hpush
  refine (sdown_perm lt x _ _ (by simp)).trans ?_
  rw [show (es ++ [x]).set es.length x = es ++ [x] by simp]
  exact List.perm_append_singleton x es
theorem hpush_heap {lt : Elt → Elt → Bool} (O : Ord lt) (x : Elt) {es : List Elt} (h : IsHeap lt es) : IsHeap lt (hpush lt x es) := by
  refine heap_of x ?_
  unfold hpush
  rw [sdown_len]
  refine sdown_heap O x _ _ (by simp) ?_ ?_ ?_
  · intro i hi hil h1 h2
    have h3 : i < es.length := by simp at hil; omega
    rw [List.getD_eq_getElem?_getD, List.getD_eq_getElem?_getD, List.getElem?_append_left h3, List.getElem?_append_left (by omega)]
    rw [← List.getD_eq_getElem?_getD, ← List.getD_eq_getElem?_getD]
    exact h x i hi h3
  · intro i hi hil h1; simp at hil; omega
  · intro i hi hil h1; simp at hil; omega
theorem hrep_perm (lt : Elt → Elt → Bool) (x y : Elt) (ys : List Elt) : (hrep lt x (y :: ys)).Perm (x :: ys) := by
  unfold hrep
  refine (siftup_perm lt x _ (by simp)).trans ?_
  simp
theorem hrep_heap {lt : Elt → Elt → Bool} (O : Ord lt) (x y : Elt) {ys : List Elt} (h : IsHeap lt (y :: ys)) : IsHeap lt (hrep lt x (y :: ys)) := by
  unfold hrep
  refine siftup_heap O x _ (by simp) fun i hi hil h1 => ?_
  rw [List.length_set] at hil
  rw [getD_set (by simp), getD_set (by simp), if_neg (by omega), if_neg h1]
  exact h x i hi hil
theorem hpop_perm (lt : Elt → Elt → Bool) (x : Elt) (ys : List Elt) : ((ys ++ [x]).head (by simp) :: hpop lt x (ys ++ [x])).Perm (ys ++ [x]) := by
  unfold hpop
  cases ys with
  | nil => simp
  | cons y ys =>
    rw [if_neg (by simp), List.dropLast_concat]
    refine (List.Perm.cons _ (siftup_perm lt x _ (by simp))).trans ?_
    simp only [List.set_cons_zero, List.cons_append, List.head_cons]
    exact List.Perm.cons _ (List.perm_append_singleton x ys).symm
theorem hpop_heap {lt : Elt → Elt → Bool} (O : Ord lt) (x : Elt) {ys : List Elt} (h : IsHeap lt (ys ++ [x])) : IsHeap lt (hpop lt x (ys ++ [x])) := by
  unfold hpop
  split
  · intro d i hi hil; simp at hil
  · rename_i hl
    rw [List.dropLast_concat]
    have h0 : 0 < ys.length := by
      rcases Nat.eq_zero_or_pos ys.length with e | e
      · exact absurd (by simp [e]) hl
      · exact e
    refine siftup_heap O x _ (by simpa using h0) fun i hi hil h1 => ?_
    rw [List.length_set] at hil
    rw [getD_set h0, getD_set h0, if_neg (by omega), if_neg h1]
    have := h x i hi (by simp; omega)
    rw [List.getD_eq_getElem?_getD, List.getD_eq_getElem?_getD, List.getElem?_append_left hil, List.getElem?_append_left (by omega)] at this
    rw [List.getD_eq_getElem?_getD, List.getD_eq_getElem?_getD]
    exact this
theorem heap_nil {lt : Elt → Elt → Bool} : IsHeap lt [] := fun _ _ _ h => absurd h (by simp)
end Mine
end

-- part S1
section
open PySem PySem.W PyProof.Rows
set_option Elab.async false
set_option maxRecDepth 100000
namespace Mine

theorem PairAt.inj {h : Heap} {v : Value} {p q : Int × Int} (a : PairAt h v p) (b : PairAt h v q) : p = q := by
  obtain ⟨x, t, u, n, rfl, ho⟩ := a
  obtain ⟨y, t', u', n', e, ho'⟩ := b
  cases e
  rw [ho] at ho'
  simp only [Option.some.injEq, Obj.mk.injEq, Data.seq.injEq, Array.mk.injEq, List.cons.injEq, Value.int.injEq, and_true, true_and] at ho'
  obtain ⟨⟨⟨e1, _⟩, e2, _⟩, _⟩ := ho'
  exact Prod.ext e1 e2

open Classical in
noncomputable def keyAt (h : Heap) (v : Value) : Int × Int := if q : ∃ p, PairAt h v p then q.choose else (0, 0)
theorem PairAt.key {h : Heap} {v : Value} {p : Int × Int} (a : PairAt h v p) : keyAt h v = p := by
  unfold keyAt
  have q : ∃ p, PairAt h v p := ⟨p, a⟩
  rw [dif_pos q]
  exact q.choose_spec.inj a

/-- the comparison the sort makes -/
noncomputable def blt (h : Heap) (x y : Keyed) : Bool := lex (keyAt h x.1) (keyAt h y.1)
def IsP (h : Heap) (x : Keyed) : Prop := ∃ p, PairAt h x.1 p
theorem blt_asym {h : Heap} {x y : Keyed} (a : blt h x y = true) : blt h y x = false := lex_asym _ _ a
theorem blt_ntr {h : Heap} {x y z : Keyed} (a : blt h x y = false) (b : blt h y z = false) : blt h x z = false := lex_ntr _ _ _ a b
theorem blt_irr {h : Heap} {x : Keyed} : blt h x x = false := by
  cases e : blt h x x
  · rfl
  · have := blt_asym e; rw [e] at this; cases this

section
variable {prog : Program} {w : World} {A : Around} {E : Value → Shared → Prop} {s : Shared}
theorem keyLt_pair {x y : Value} {p q : Int × Int} {Q : Bool → Shared → Prop} (hx : PairAt s.heap x p) (hy : PairAt s.heap y q) (h : Q (lex p q) s) : wpAny (model prog w) A (keyLt' (tuples' true) x y) Q E s := by
  obtain ⟨a, t, u, n, rfl, hx⟩ := hx
  obtain ⟨b, t', u', n', rfl, hy⟩ := hy
  refine kat_lt hx rfl hy rfl ?_
  show KatLex prog w A true _ Q [(Value.int p.1 t, Value.int q.1 t'), (Value.int p.2 u, Value.int q.2 u')] 0 s
  refine kat_cons (wpAny_eqBool_int ?_)
  unfold lex at h
  by_cases h1 : p.1 = q.1
  · rw [if_pos h1] at h
    rw [show (p.1 == q.1) = true by simp [h1]]
    refine kat_yes (kat_cons (wpAny_eqBool_int ?_))
    by_cases h2 : p.2 = q.2
    · rw [show (p.2 == q.2) = true by simp [h2]]
      refine kat_yes (kat_nil ?_)
      rw [show decide (p.2 < q.2) = false by simp [h2]] at h
      exact h
    · rw [show (p.2 == q.2) = false by simp [h2]]
      refine kat_no ?_
      show wpAny _ _ (oneLt' false _ _) _ _ s
      exact kat_one _ _ (PyProof.Rows.lt_int h)
  · rw [if_neg h1] at h
    rw [show (p.1 == q.1) = false by simp [h1]]
    refine kat_no ?_
    show wpAny _ _ (oneLt' true _ _) _ _ s
    exact oneLt_int h

theorem wpS_lt {st : SortSt} {x y : Keyed} {Q : Option Bool → SortSt → Prop} (hk : kindOf st = tuples' true) (hx : IsP s.heap x) (hy : IsP s.heap y) (h : Q (some (blt s.heap x y)) st) :
    wpS (model prog w) A E s (lt' x y) Q st := by
  obtain ⟨p, hp⟩ := hx
  obtain ⟨q, hq⟩ := hy
  rw [lt'_eq]
  refine wpS_bind (wpS_get ?_)
  rw [hk]
  unfold blt at h
  rw [hp.key, hq.key] at h
  refine wpS_bind (wpS_lift (wpAny_attempt (keyLt_pair hp hq ⟨rfl, ?_⟩)))
  exact wpS_pure h

theorem wpS_elem {st : SortSt} {arr : Array Keyed} {i : Nat} {x : Keyed} {Q : Keyed → SortSt → Prop} (hi : arr[i]? = some x) (h : Q x st) : wpS (model prog w) A E s (elem' arr i) Q st := by
  rw [elem'_eq, hi]
  exact wpS_pure h
theorem wpS_ltAt2 {st : SortSt} {i j : Nat} {x y : Keyed} {Q : Option Bool → SortSt → Prop} (hk : kindOf st = tuples' true) (hi : (arrOf st)[i]? = some x) (hj : (arrOf st)[j]? = some y) (hx : IsP s.heap x) (hy : IsP s.heap y)
    (h : Q (some (blt s.heap x y)) st) : wpS (model prog w) A E s (ltAt' i j) Q st := by
  rw [ltAt'_eq]
  refine wpS_bind (wpS_get ?_)
  dsimp only
  refine wpS_bind (wpS_elem hi (wpS_bind (wpS_elem hj (wpS_lt hk hx hy h))))
end

def gallop' : Bool → Keyed → Array Keyed → Nat → Nat → Nat → StateT SortSt Sem (Option Nat) := sortPriv% PySem.Builtin.gallop
def mergeLo' : Array Keyed → Array Keyed → StateT SortSt Sem (Array Keyed) := sortPriv% PySem.Builtin.mergeLo
def mergeHi' : Array Keyed → Array Keyed → StateT SortSt Sem (Array Keyed) := sortPriv% PySem.Builtin.mergeHi

section
variable {prog : Program} {w : World} {A : Around} {E : Value → Shared → Prop} {s : Shared}
theorem wpS_gallop {st : SortSt} {left : Bool} {key : Keyed} {arr : Array Keyed} {base n hint : Nat} {Q : Option Nat → SortSt → Prop} (hk : kindOf st = tuples' true) (hkey : IsP s.heap key) (f : Nat → Bool)
    (hel : ∀ i, i < n → ∃ x, arr[base + i]? = some x ∧ IsP s.heap x ∧ f i = (if left = true then blt s.heap x key else !blt s.heap key x))
    (anti : ∀ i j, i ≤ j → j < n → f j = true → f i = true) (hh : hint < n)
    (h : ∀ k, k ≤ n → (∀ i, i < k → f i = true) → (∀ i, k ≤ i → i < n → f i = false) → Q (some k) st) : wpS (model prog w) A E s (gallop' left key arr base n hint) Q st := by
  have anti' : ∀ i j, i ≤ j → j < n → f i = false → f j = false := by
    intro i j hij hj hi
    cases e : f j
    · rfl
    · rw [anti i j hij hj e] at hi; cases hi
  have hbey : ∀ i, i < n → ∀ (Q : Option Bool → SortSt → Prop), Q (some (f i)) st → wpS (model prog w) A E s (do
      let x ← elem' arr (base + i)
      if left = true then lt' x key
      else do
        let r ← lt' key x
        pure (Option.map (fun x => !x) r)) Q st := by
    intro i hi Q hQ
    obtain ⟨x, hx, px, fx⟩ := hel i hi
    refine wpS_bind (wpS_elem hx ?_)
    cases left with
    | true =>
      simp only [if_true] at fx ⊢
      rw [fx] at hQ
      exact wpS_lt hk px hkey hQ
    | false =>
      simp only [Bool.false_eq_true, if_false] at fx ⊢
      rw [fx] at hQ
      exact wpS_bind (wpS_lt hk hkey px (wpS_pure hQ))
  refine wpS_bind (hbey hint hh _ ?_)
  dsimp only
  by_cases hr : f hint = true
  case' pos =>
    rw [if_pos hr]
    refine wpS_bind (wpS_mono (wpS_forRange
      (I := fun x c st' => st' = st ∧ ∃ last ofs, c = (none, last, ofs) ∧ last < ofs ∧ hint + last < n ∧ f (hint + last) = true ∧ x + 1 ≤ ofs)
      (Q := fun c st' => st' = st ∧ ∃ last ofs, c = (none, last, ofs) ∧ last < ofs ∧ hint + last < n ∧ f (hint + last) = true ∧ (n - hint ≤ ofs ∨ (hint + ofs < n ∧ f (hint + ofs) = false))) ?step ?fin ?init) ?post)
    case init => exact ⟨rfl, 0, 1, rfl, by omega, by omega, hr, by omega⟩
    case fin =>
      rintro c st' ⟨rfl, last, ofs, rfl, h1, h2, h3, h4⟩
      exact ⟨rfl, last, ofs, rfl, h1, h2, h3, .inl (by omega)⟩
    case step =>
      rintro x c st' _ hx ⟨rfl, last, ofs, rfl, h1, h2, h3, h4⟩
      dsimp only
      by_cases hge : ofs ≥ n - hint
      · rw [if_pos hge]
        exact wpS_pure ⟨rfl, last, ofs, rfl, h1, h2, h3, .inl hge⟩
      · rw [if_neg hge]
        refine wpS_bind (hbey (hint + ofs) (by omega) _ ?_)
        dsimp only
        cases e : f (hint + ofs)
        · simp only [Bool.not_false, if_true]
          exact wpS_pure ⟨rfl, last, ofs, rfl, h1, h2, h3, .inr ⟨by omega, e⟩⟩
        · simp only [Bool.not_true, Bool.false_eq_true, if_false]
          exact wpS_pure ⟨rfl, ofs, 2 * ofs + 1, rfl, by omega, by omega, e, by omega⟩
    case' post =>
      rintro c st' ⟨rfl, last, ofs, rfl, h1, h2, h3, h4⟩
      dsimp only
      have a1 : hint + last + 1 ≤ hint + min ofs (n - hint) := by omega
      have a2 : hint + min ofs (n - hint) ≤ n := by omega
      have a3 : ∀ i, i < hint + last + 1 → f i = true := fun i hi => anti i (hint + last) (by omega) h2 h3
      have a4 : ∀ i, hint + min ofs (n - hint) ≤ i → i < n → f i = false := by
        intro i hi hin
        rcases h4 with h4 | ⟨h4, h5⟩
        · omega
        · exact anti' (hint + ofs) i (by omega) hin h5
      generalize hint + last + 1 = lo at *
      generalize hint + min ofs (n - hint) = hi at *
  case' neg =>
    have hr' : f hint = false := by simpa using hr
    rw [if_neg hr]
    refine wpS_bind (wpS_mono (wpS_forRange
      (I := fun x c st' => st' = st ∧ ∃ last ofs, c = (none, last, ofs) ∧ last < ofs ∧ last ≤ hint ∧ f (hint - last) = false ∧ x + 1 ≤ ofs)
      (Q := fun c st' => st' = st ∧ ∃ last ofs, c = (none, last, ofs) ∧ last < ofs ∧ last ≤ hint ∧ f (hint - last) = false ∧ (hint + 1 ≤ ofs ∨ (ofs ≤ hint ∧ f (hint - ofs) = true))) ?step ?fin ?init) ?post)
    case init => exact ⟨rfl, 0, 1, rfl, by omega, by omega, hr', by omega⟩
    case fin =>
      rintro c st' ⟨rfl, last, ofs, rfl, h1, h2, h3, h4⟩
      exact ⟨rfl, last, ofs, rfl, h1, h2, h3, .inl (by omega)⟩
    case step =>
      rintro x c st' _ hx ⟨rfl, last, ofs, rfl, h1, h2, h3, h4⟩
      dsimp only
      by_cases hge : ofs ≥ hint + 1
      · rw [if_pos hge]
        exact wpS_pure ⟨rfl, last, ofs, rfl, h1, h2, h3, .inl hge⟩
      · rw [if_neg hge]
        refine wpS_bind (hbey (hint - ofs) (by omega) _ ?_)
        dsimp only
        cases e : f (hint - ofs)
        · simp only [Bool.false_eq_true, if_false]
          exact wpS_pure ⟨rfl, ofs, 2 * ofs + 1, rfl, by omega, by omega, e, by omega⟩
        · simp only [if_true]
          exact wpS_pure ⟨rfl, last, ofs, rfl, h1, h2, h3, .inr ⟨by omega, e⟩⟩
    case' post =>
      rintro c st' ⟨rfl, last, ofs, rfl, h1, h2, h3, h4⟩
      dsimp only
      have a1 : hint + 1 - min ofs (hint + 1) ≤ hint - last := by omega
      have a2 : hint - last ≤ n := by omega
      have a3 : ∀ i, i < hint + 1 - min ofs (hint + 1) → f i = true := by
        intro i hi
        rcases h4 with h4 | ⟨h4, h5⟩
        · omega
        · exact anti i (hint - ofs) (by omega) (by omega) h5
      have a4 : ∀ i, hint - last ≤ i → i < n → f i = false := fun i hi hin => anti' (hint - last) i hi hin h3
      generalize hint + 1 - min ofs (hint + 1) = lo at *
      generalize hint - last = hi at *
  all_goals (
    refine wpS_bind (wpS_mono (wpS_forRange
      (Q := fun c st'' => st'' = st' ∧ ∃ lo hi, c = (none, lo, hi) ∧ hi ≤ n ∧ (∀ i, i < hi → f i = true) ∧ (∀ i, hi ≤ i → i < n → f i = false))
      (fun (x : Nat) (c : Option (Option Nat) × Nat × Nat) (st'' : SortSt) => st'' = st' ∧ ∃ lo hi, c = (none, lo, hi) ∧ lo ≤ hi ∧ hi ≤ n ∧ hi - lo ≤ n - x ∧ (∀ i, i < lo → f i = true) ∧ (∀ i, hi ≤ i → i < n → f i = false))
      ?step2 ?fin2 ⟨rfl, lo, hi, rfl, a1, a2, by omega, a3, a4⟩) ?post2)
    case fin2 =>
      rintro c st'' ⟨rfl, lo, hi, rfl, b1, b2, b3, b4, b5⟩
      have e : lo = hi := by omega
      subst e
      exact ⟨rfl, lo, lo, rfl, b2, b4, b5⟩
    case post2 =>
      rintro c st'' ⟨rfl, lo, hi, rfl, b2, b4, b5⟩
      exact wpS_pure (h hi b2 b4 b5)
    case step2 =>
      rintro x c st'' _ hx ⟨rfl, lo, hi, rfl, b1, b2, b3, b4, b5⟩
      dsimp only
      by_cases hge : lo ≥ hi
      · rw [if_pos hge]
        have e : lo = hi := by omega
        subst e
        exact wpS_pure ⟨rfl, lo, lo, rfl, b2, b4, b5⟩
      · rw [if_neg hge]
        refine wpS_bind (hbey (lo + (hi - lo) / 2) (by omega) _ ?_)
        dsimp only
        cases e : f (lo + (hi - lo) / 2)
        · simp only [Bool.false_eq_true, if_false]
          exact wpS_pure ⟨rfl, lo, lo + (hi - lo) / 2, rfl, by omega, by omega, by omega, b4, fun i h1 h2 => anti' _ i h1 h2 e⟩
        · simp only [if_true]
          exact wpS_pure ⟨rfl, lo + (hi - lo) / 2 + 1, hi, rfl, by omega, by omega, by omega, fun i h1 => anti i _ (by omega) (by omega) e, b5⟩)
end
end Mine
end

-- part S2
section
open PySem PySem.W PyProof.Rows
set_option Elab.async false
set_option maxRecDepth 100000
namespace Mine

/-- a merge under way: O is out, RA and RB are left -/
structure MI {α : Type} (le : α → α → Prop) (A B O RA RB : List α) : Prop where
  perm : (O ++ (RA ++ RB)).Perm (A ++ B)
  so : O.Pairwise le
  sa : RA.Pairwise le
  sb : RB.Pairwise le
  oa : ∀ o ∈ O, ∀ r ∈ RA, le o r
  ob : ∀ o ∈ O, ∀ r ∈ RB, le o r
def Merged {α : Type} (le : α → α → Prop) (A B r : List α) : Prop := r.Perm (A ++ B) ∧ r.Pairwise le

section
variable {α : Type} {le : α → α → Prop} {A B O RA RB X : List α}
theorem MI.advA (m : MI le A B O (X ++ RA) RB) (hx : ∀ x ∈ X, ∀ r ∈ RB, le x r) : MI le A B (O ++ X) RA RB := by
  have sa := List.pairwise_append.mp m.sa
  refine ⟨by simpa [List.append_assoc] using m.perm, List.pairwise_append.mpr ⟨m.so, sa.1, fun o ho x hx' => m.oa o ho x (List.mem_append_left _ hx')⟩, sa.2.1, m.sb, ?_, ?_⟩
  · intro o ho r hr
    rcases List.mem_append.mp ho with ho | ho
    · exact m.oa o ho r (List.mem_append_right _ hr)
    · exact sa.2.2 o ho r hr
  · intro o ho r hr
    rcases List.mem_append.mp ho with ho | ho
    · exact m.ob o ho r hr
    · exact hx o ho r hr
theorem MI.advB (m : MI le A B O RA (X ++ RB)) (hx : ∀ x ∈ X, ∀ r ∈ RA, le x r) : MI le A B (O ++ X) RA RB := by
  have sb := List.pairwise_append.mp m.sb
  refine ⟨?_, List.pairwise_append.mpr ⟨m.so, sb.1, fun o ho x hx' => m.ob o ho x (List.mem_append_left _ hx')⟩, m.sa, sb.2.1, ?_, ?_⟩
  · refine List.Perm.trans ?_ m.perm
    rw [List.append_assoc]
    refine List.Perm.append_left _ ?_
    rw [← List.append_assoc, ← List.append_assoc]
    exact List.Perm.append_right _ List.perm_append_comm
  · intro o ho r hr
    rcases List.mem_append.mp ho with ho | ho
    · exact m.oa o ho r hr
    · exact hx o ho r hr
  · intro o ho r hr
    rcases List.mem_append.mp ho with ho | ho
    · exact m.ob o ho r (List.mem_append_right _ hr)
    · exact sb.2.2 o ho r hr
theorem MI.endA (m : MI le A B O RA []) : Merged le A B (O ++ RA) :=
  ⟨by simpa using m.perm, List.pairwise_append.mpr ⟨m.so, m.sa, m.oa⟩⟩
theorem MI.endB (m : MI le A B O [] RB) : Merged le A B (O ++ RB) :=
  ⟨by simpa using m.perm, List.pairwise_append.mpr ⟨m.so, m.sb, m.ob⟩⟩
theorem MI.lastA {L : α} (m : MI le A B O [L] RB) (hl : ∀ y ∈ RB, le y L) : Merged le A B (O ++ (RB ++ [L])) := by
  refine ⟨List.Perm.trans (List.Perm.append_left _ List.perm_append_comm) m.perm, List.pairwise_append.mpr ⟨m.so, List.pairwise_append.mpr ⟨m.sb, List.pairwise_singleton _ _, ?_⟩, ?_⟩⟩
  · intro y hy z hz
    rw [List.mem_singleton.mp hz]
    exact hl y hy
  · intro o ho r hr
    rcases List.mem_append.mp hr with hr | hr
    · exact m.ob o ho r hr
    · exact m.oa o ho r hr
end

def leK (h : Heap) (x y : Keyed) : Prop := blt h y x = false
theorem leK_of_blt {h : Heap} {x y : Keyed} (a : blt h x y = true) : leK h x y := blt_asym a
theorem leK_trans {h : Heap} {x y z : Keyed} (a : leK h x y) (b : leK h y z) : leK h x z := blt_ntr b a

theorem have_elim {α β : Type} {P : β → Prop} (v : α) (f : α → β) (h : ∀ jp, jp = v → P (f jp)) : P (have x := v; f x) := h v rfl

/-- what the merge leaves as it was -/
def StOk (st st' : SortSt) : Prop := kindOf st' = kindOf st ∧ arrOf st' = arrOf st ∧ pendingOf st' = pendingOf st ∧ failedOf st' = failedOf st

theorem drop_get {α : Type} {l : List α} {i : Nat} {x : α} (h : l[i]? = some x) : l.drop i = x :: l.drop (i + 1) := by
  obtain ⟨hi, e⟩ := List.getElem?_eq_some_iff.mp h
  rw [List.drop_eq_getElem_cons hi, e]
theorem drop_split {α : Type} (l : List α) (i k : Nat) : l.drop i = (l.drop i).take k ++ l.drop (i + k) := by
  conv => lhs; rw [← List.take_append_drop k (l.drop i)]
  rw [List.drop_drop]
theorem ext_drop {α : Type} (a : Array α) (i : Nat) : (a.extract i).toList = a.toList.drop i := by
  simp only [Array.toList_extract, List.extract]
  rw [List.take_of_length_le (by simp)]
theorem ext_take {α : Type} (a : Array α) (i k : Nat) : (a.extract i (i + k)).toList = (a.toList.drop i).take k := by
  simp only [Array.toList_extract, List.extract]
  rw [Nat.add_sub_cancel_left]
theorem app_ext_self {α : Type} (o a : Array α) (i : Nat) : o ++ a.extract i i = o := by
  simp; omega
theorem pw_drop {α : Type} {R : α → α → Prop} {l : List α} (i : Nat) (h : l.Pairwise R) : (l.drop i).Pairwise R := h.sublist (List.drop_sublist i l)
theorem pw_get {α : Type} {R : α → α → Prop} (hr : ∀ x, R x x) {l : List α} (p : l.Pairwise R) {i j : Nat} {x y : α} (h : i ≤ j) (hx : l[i]? = some x) (hy : l[j]? = some y) : R x y := by
  obtain ⟨hi, rfl⟩ := List.getElem?_eq_some_iff.mp hx
  obtain ⟨hj, rfl⟩ := List.getElem?_eq_some_iff.mp hy
  rcases Nat.lt_or_ge i j with h' | h'
  · exact List.pairwise_iff_getElem.mp p i j hi hj h'
  · have : i = j := by omega
    subst this; exact hr _
theorem mem_head_le {h : Heap} {x : Keyed} {l : List Keyed} (p : (x :: l).Pairwise (leK h)) : ∀ y ∈ x :: l, leK h x y := by
  intro y hy
  rcases List.mem_cons.mp hy with rfl | hy
  · exact blt_irr
  · exact (List.pairwise_cons.mp p).1 y hy

section
variable {prog : Program} {w : World} {A : Around} {E : Value → Shared → Prop} {s : Shared}

theorem wpS_mergeLo {st : SortSt} {a b : Array Keyed} {Q : Array Keyed → SortSt → Prop} (hk : kindOf st = tuples' true)
    (pa : ∀ x ∈ a.toList, IsP s.heap x) (pb : ∀ x ∈ b.toList, IsP s.heap x) (sa : a.toList.Pairwise (leK s.heap)) (sb : b.toList.Pairwise (leK s.heap))
    (ha0 : 0 < a.size) (hb0 : 0 < b.size) (hfirst : ∀ x y, b.toList[0]? = some x → a.toList[0]? = some y → leK s.heap x y)
    (hlast : ∀ x, a.toList[a.size - 1]? = some x → ∀ y ∈ b.toList, leK s.heap y x)
    (h : ∀ r st', Merged (leK s.heap) a.toList b.toList r.toList → StOk st st' → Q r st') : wpS (model prog w) A E s (mergeLo' a b) Q st := by
  have geta : ∀ i, i < a.size → ∃ x, a[i]? = some x ∧ a.toList[i]? = some x ∧ IsP s.heap x := fun i hi => ⟨a[i], by simp [hi], by simp [hi], pa _ (by simp)⟩
  have getb : ∀ i, i < b.size → ∃ x, b[i]? = some x ∧ b.toList[i]? = some x ∧ IsP s.heap x := fun i hi => ⟨b[i], by simp [hi], by simp [hi], pb _ (by simp)⟩
  obtain ⟨b0, hb, hbl, hbp⟩ := getb 0 hb0
  obtain ⟨a0, hA0, hal, hap⟩ := geta 0 ha0
  have m0 : MI (leK s.heap) a.toList b.toList [b0] (a.toList.drop 0) (b.toList.drop 1) := by
    have e := drop_get hbl
    rw [List.drop_zero] at e
    refine ⟨?_, List.pairwise_singleton _ _, pw_drop 0 sa, pw_drop 1 sb, ?_, ?_⟩
    · rw [List.drop_zero]
      conv => rhs; rw [e]
      exact (List.perm_middle (a := b0) (l₁ := a.toList) (l₂ := b.toList.drop 1)).symm
    · intro o ho r hr
      rw [List.mem_singleton.mp ho]
      refine leK_trans (hfirst _ _ hbl hal) ?_
      have e2 := drop_get hal
      rw [e2] at hr
      have sa' := sa
      rw [← List.drop_zero (l := a.toList), e2] at sa'
      exact mem_head_le sa' r hr
    · intro o ho r hr
      rw [List.mem_singleton.mp ho]
      rw [e] at sb
      exact (List.pairwise_cons.mp sb).1 r hr
  have doneB : ∀ (out : Array Keyed) (ia ib : Nat), MI (leK s.heap) a.toList b.toList out.toList (a.toList.drop ia) (b.toList.drop ib) → ib = b.size → Merged (leK s.heap) a.toList b.toList (out ++ a.extract ia ++ b.extract ib).toList := by
    intro out ia ib m e
    have e2 : b.toList.drop ib = [] := by rw [e]; simp
    rw [e2] at m
    have := m.endA
    rw [Array.toList_append, Array.toList_append, ext_drop, ext_drop, e2, List.append_nil]
    exact this
  have doneA : ∀ (out : Array Keyed) (ia ib : Nat), MI (leK s.heap) a.toList b.toList out.toList (a.toList.drop ia) (b.toList.drop ib) → ia = a.size → Merged (leK s.heap) a.toList b.toList (out ++ a.extract ia ++ b.extract ib).toList := by
    intro out ia ib m e
    have e2 : a.toList.drop ia = [] := by rw [e]; simp
    rw [e2] at m
    have := m.endB
    rw [Array.toList_append, Array.toList_append, ext_drop, ext_drop, e2, List.append_nil]
    exact this
  have lastA : ∀ (out : Array Keyed) (ia ib : Nat), MI (leK s.heap) a.toList b.toList out.toList (a.toList.drop ia) (b.toList.drop ib) → ia + 1 = a.size → Merged (leK s.heap) a.toList b.toList (out ++ b.extract ib ++ a.extract ia).toList := by
    intro out ia ib m e
    obtain ⟨L, _, hL, _⟩ := geta ia (by omega)
    have e2 : a.toList.drop ia = [L] := by rw [drop_get hL, e]; simp
    rw [e2] at m
    have := m.lastA fun y hy => hlast L (by rw [← e]; exact hL) y (List.mem_of_mem_drop hy)
    rw [← e2] at this
    rw [Array.toList_append, Array.toList_append, ext_drop, ext_drop, List.append_assoc]
    exact this
  have ordA : ∀ i j x y, i ≤ j → a.toList[i]? = some x → a.toList[j]? = some y → leK s.heap x y := fun i j x y => pw_get (fun _ => blt_irr) sa
  have ordB : ∀ i j x y, i ≤ j → b.toList[i]? = some x → b.toList[j]? = some y → leK s.heap x y := fun i j x y => pw_get (fun _ => blt_irr) sb
  have pushB : ∀ (out : Array Keyed) (ia ib : Nat) (x y : Keyed), MI (leK s.heap) a.toList b.toList out.toList (a.toList.drop ia) (b.toList.drop ib) → a.toList[ia]? = some x → b.toList[ib]? = some y → leK s.heap y x →
      MI (leK s.heap) a.toList b.toList (out.push y).toList (a.toList.drop ia) (b.toList.drop (ib + 1)) := by
    intro out ia ib x y m hx hy hyx
    rw [drop_get hy] at m
    rw [Array.toList_push]
    refine MI.advB (X := [y]) m fun z hz r hr => ?_
    rw [List.mem_singleton.mp hz]
    refine leK_trans hyx ?_
    have sa' := pw_drop ia sa
    rw [drop_get hx] at hr sa'
    exact mem_head_le sa' r hr
  have pushA : ∀ (out : Array Keyed) (ia ib : Nat) (x y : Keyed), MI (leK s.heap) a.toList b.toList out.toList (a.toList.drop ia) (b.toList.drop ib) → a.toList[ia]? = some x → b.toList[ib]? = some y → leK s.heap x y →
      MI (leK s.heap) a.toList b.toList (out.push x).toList (a.toList.drop (ia + 1)) (b.toList.drop ib) := by
    intro out ia ib x y m hx hy hyx
    rw [drop_get hx] at m
    rw [Array.toList_push]
    refine MI.advA (X := [x]) m fun z hz r hr => ?_
    rw [List.mem_singleton.mp hz]
    refine leK_trans hyx ?_
    have sb' := pw_drop ib sb
    rw [drop_get hy] at hr sb'
    exact mem_head_le sb' r hr
  have blockA : ∀ (out : Array Keyed) (ia ib k : Nat) (y : Keyed), MI (leK s.heap) a.toList b.toList out.toList (a.toList.drop ia) (b.toList.drop ib) → b.toList[ib]? = some y →
      (∀ i x, i < k → a.toList[ia + i]? = some x → leK s.heap x y) → MI (leK s.heap) a.toList b.toList (out ++ a.extract ia (ia + k)).toList (a.toList.drop (ia + k)) (b.toList.drop ib) := by
    intro out ia ib k y m hy hle
    rw [drop_split a.toList ia k] at m
    rw [Array.toList_append, ext_take]
    refine MI.advA m fun z hz r hr => ?_
    obtain ⟨i, hi, e⟩ := List.getElem_of_mem hz
    have hik : i < k := by simp at hi; omega
    have e2 : a.toList[ia + i]? = some z := by
      rw [← e, List.getElem_take, List.getElem_drop]
      exact List.getElem?_eq_getElem _
    refine leK_trans (hle i z hik e2) ?_
    have sb' := pw_drop ib sb
    rw [drop_get hy] at hr sb'
    exact mem_head_le sb' r hr
  have blockB : ∀ (out : Array Keyed) (ia ib k : Nat) (x : Keyed), MI (leK s.heap) a.toList b.toList out.toList (a.toList.drop ia) (b.toList.drop ib) → a.toList[ia]? = some x →
      (∀ i y, i < k → b.toList[ib + i]? = some y → leK s.heap y x) → MI (leK s.heap) a.toList b.toList (out ++ b.extract ib (ib + k)).toList (a.toList.drop ia) (b.toList.drop (ib + k)) := by
    intro out ia ib k x m hx hle
    rw [drop_split b.toList ib k] at m
    rw [Array.toList_append, ext_take]
    refine MI.advB m fun z hz r hr => ?_
    obtain ⟨i, hi, e⟩ := List.getElem_of_mem hz
    have hik : i < k := by simp at hi; omega
    have e2 : b.toList[ib + i]? = some z := by
      rw [← e, List.getElem_take, List.getElem_drop]
      exact List.getElem?_eq_getElem _
    refine leK_trans (hle i z hik e2) ?_
    have sa' := pw_drop ia sa
    rw [drop_get hx] at hr sa'
    exact mem_head_le sa' r hr
  refine wpS_bind (wpS_lift (wpAny_rule ⟨rfl, ?_⟩))
  refine wpS_bind (wpS_elem hb ?_)
  dsimp only
  by_cases h1 : b.size = 1
  · rw [if_pos (by simp [h1])]
    exact wpS_pure (h _ _ (doneB #[b0] 0 1 m0 h1.symm) ⟨rfl, rfl, rfl, rfl⟩)
  rw [if_neg (by simp; omega)]
  by_cases h2 : a.size = 1
  · rw [if_pos (by simp [h2])]
    exact wpS_pure (h _ _ (lastA #[b0] 0 1 m0 (by omega)) ⟨rfl, rfl, rfl, rfl⟩)
  rw [if_neg (by simp; omega)]
  refine wpS_bind (wpS_get ?_)
  refine wpS_bind (wpS_mono (wpS_forRange
    (I := fun x c st' => ∃ out ia ib mg, c = (none, out, ia, ib, mg) ∧ MI (leK s.heap) a.toList b.toList out.toList (a.toList.drop ia) (b.toList.drop ib) ∧ ia + 1 < a.size ∧ ib < b.size ∧ x + 1 ≤ ia + ib ∧ StOk st st')
    (Q := fun c st' => ∃ r rest, c = (some r, rest) ∧ Merged (leK s.heap) a.toList b.toList r.toList ∧ StOk st st') ?step ?fin ⟨_, _, _, _, rfl, m0, by omega, by omega, by omega, rfl, rfl, rfl, rfl⟩) ?post)
  case fin =>
    rintro c st' ⟨out, ia, ib, mg, rfl, m, l1, l2, l3, l4⟩
    omega
  case post =>
    rintro c st' ⟨r, rest, rfl, hm, hs⟩
    exact wpS_pure (h r st' hm hs)
  case step =>
    rintro x c st' _ hx ⟨out, ia, ib, mg, rfl, m, l1, l2, l3, l4⟩
    dsimp only
    refine wpS_bind (wpS_mono (wpS_forRange
      (I := fun y c st'' => ∃ out ia ib ac bc, c = (none, out, ia, ib, ac, bc) ∧ MI (leK s.heap) a.toList b.toList out.toList (a.toList.drop ia) (b.toList.drop ib) ∧ ia + 1 < a.size ∧ ib < b.size ∧ x + 1 + min y 1 ≤ ia + ib ∧ st'' = st')
      (Q := fun c st'' => st'' = st' ∧ ((∃ r rest, c = (some r, rest) ∧ Merged (leK s.heap) a.toList b.toList r.toList) ∨
        ∃ out ia ib ac bc, c = (none, out, ia, ib, ac, bc) ∧ MI (leK s.heap) a.toList b.toList out.toList (a.toList.drop ia) (b.toList.drop ib) ∧ ia + 1 < a.size ∧ ib < b.size ∧ x + 2 ≤ ia + ib)) ?step1 ?fin1 ⟨_, _, _, _, _, rfl, m, l1, l2, by omega, rfl⟩) ?post1)
    case fin1 =>
      rintro c st'' ⟨out, ia, ib, ac, bc, rfl, m, l1, l2, l3, rfl⟩
      exact ⟨rfl, .inr ⟨out, ia, ib, ac, bc, rfl, m, l1, l2, by omega⟩⟩
    case step1 =>
      rintro y c st'' _ hy ⟨out, ia, ib, ac, bc, rfl, m, l1, l2, l3, rfl⟩
      dsimp only
      obtain ⟨bx, hb1, hb2, hb3⟩ := getb ib l2
      obtain ⟨ax, ha1, ha2, ha3⟩ := geta ia (by omega)
      refine wpS_bind (wpS_elem hb1 (wpS_bind (wpS_elem ha1 (wpS_bind (wpS_lt (l4.1.trans hk) hb3 ha3 ?_)))))
      dsimp only
      by_cases hw : blt s.heap bx ax = true
      · rw [if_pos hw]
        refine wpS_bind (wpS_elem hb1 ?_)
        have m' := pushB out ia ib ax bx m ha2 hb2 (leK_of_blt hw)
        by_cases e : ib + 1 = b.size
        · rw [if_pos (by simp [e])]
          exact wpS_pure ⟨rfl, .inl ⟨_, _, rfl, doneB _ _ _ m' e⟩⟩
        · rw [if_neg (by simp [e])]
          split
          · exact wpS_pure ⟨rfl, .inr ⟨_, _, _, _, _, rfl, m', l1, by omega, by omega⟩⟩
          · exact wpS_pure ⟨_, _, _, _, _, rfl, m', l1, by omega, by omega, rfl⟩
      · rw [if_neg hw]
        refine wpS_bind (wpS_elem ha1 ?_)
        have m' := pushA out ia ib ax bx m ha2 hb2 (by unfold leK; simpa using hw)
        by_cases e : ia + 1 + 1 = a.size
        · rw [if_pos (by simp [e])]
          exact wpS_pure ⟨rfl, .inl ⟨_, _, rfl, lastA _ _ _ m' e⟩⟩
        · rw [if_neg (by simp [e])]
          split
          · exact wpS_pure ⟨rfl, .inr ⟨_, _, _, _, _, rfl, m', by omega, l2, by omega⟩⟩
          · exact wpS_pure ⟨_, _, _, _, _, rfl, m', by omega, l2, by omega, rfl⟩
    case post1 =>
      rintro c st'' ⟨rfl, ⟨r, rest, rfl, hm⟩ | ⟨out, ia, ib, ac, bc, rfl, m, l1, l2, l3⟩⟩
      · exact wpS_pure ⟨r, _, rfl, hm, l4⟩
      · dsimp only
        refine wpS_bind (wpS_lift (wpAny_rule ⟨rfl, ?_⟩))
        refine wpS_bind (wpS_mono (wpS_forRange
          (I := fun y c st3 => ∃ out ia ib mg ac bc, c = (none, out, ia, ib, mg, ac, bc) ∧ MI (leK s.heap) a.toList b.toList out.toList (a.toList.drop ia) (b.toList.drop ib) ∧ ia + 1 < a.size ∧ ib < b.size ∧ x + 2 ≤ ia + ib ∧ StOk st st3)
          (Q := fun c st3 => StOk st st3 ∧ ((∃ r rest, c = (some r, rest) ∧ Merged (leK s.heap) a.toList b.toList r.toList) ∨
            ∃ out ia ib mg ac bc, c = (none, out, ia, ib, mg, ac, bc) ∧ MI (leK s.heap) a.toList b.toList out.toList (a.toList.drop ia) (b.toList.drop ib) ∧ ia + 1 < a.size ∧ ib < b.size ∧ x + 2 ≤ ia + ib)) ?step2 ?fin2 ⟨_, _, _, _, _, _, rfl, m, l1, l2, l3, l4⟩) ?post2)
        case fin2 =>
          rintro c st3 ⟨out, ia, ib, mg, ac, bc, rfl, m, l1, l2, l3, l4⟩
          exact ⟨l4, .inr ⟨out, ia, ib, mg, ac, bc, rfl, m, l1, l2, l3⟩⟩
        case post2 =>
          rintro c st3 ⟨l4, ⟨r, rest, rfl, hm⟩ | ⟨out, ia, ib, mg, ac, bc, rfl, m, l1, l2, l3⟩⟩
          · exact wpS_pure ⟨r, _, rfl, hm, l4⟩
          · dsimp only
            refine wpS_bind (wpS_modify (wpS_pure ⟨_, _, _, _, rfl, m, l1, l2, by omega, l4⟩))
        case step2 =>
          rintro y c st3 _ hy ⟨out, ia, ib, mg, ac, bc, rfl, m, l1, l2, l3, l4⟩
          obtain ⟨bx, hb1, hb2, hb3⟩ := getb ib l2
          have kd : kindOf st3 = tuples' true := l4.1.trans hk
          dsimp -zeta only
          by_cases hmg : mg > 1
          case' pos => rw [if_pos hmg]
          case' neg => rw [if_neg hmg]
          all_goals (
            refine wpS_bind (wpS_modify ?_)
            refine wpS_bind (wpS_elem hb1 ?_)
            refine wpS_bind (wpS_gallop (st := _) (by exact kd) hb3 (fun i => !blt s.heap bx (a.toList.getD (ia + i) bx)) ?hel ?anti (by omega) ?_)
            case hel =>
              intro i hi
              obtain ⟨ax, h1, h2, h3⟩ := geta (ia + i) (by omega)
              refine ⟨ax, h1, h3, ?_⟩
              simp only [Bool.false_eq_true, if_false]
              rw [List.getD_eq_getElem?_getD, h2]; rfl
            case anti =>
              intro i j hij hj hf
              obtain ⟨ax, h1, h2, h3⟩ := geta (ia + i) (by omega)
              obtain ⟨ay, h4, h5, h6⟩ := geta (ia + j) (by omega)
              rw [List.getD_eq_getElem?_getD, h5] at hf
              rw [List.getD_eq_getElem?_getD, h2]
              have o := ordA _ _ _ _ (by omega) h2 h5
              simp only [Option.getD_some, Bool.not_eq_true'] at hf ⊢
              exact leK_trans o hf
            intro k hk1 hk2 hk3
            dsimp only
            have m1 := blockA out ia ib k bx m hb2 (by
              intro i x hi hx
              have := hk2 i hi
              rw [List.getD_eq_getElem?_getD, hx] at this
              simpa [leK] using this)
            have q1 : ∀ x, a.toList[ia + k]? = some x → leK s.heap bx x := by
              intro x hx
              have hlt : ia + k < a.size := by
                obtain ⟨hlt, _⟩ := List.getElem?_eq_some_iff.mp hx
                simpa using hlt
              have := hk3 k (Nat.le_refl _) (by omega)
              rw [List.getD_eq_getElem?_getD, hx] at this
              exact leK_of_blt (by simpa using this)
            by_cases hk0 : k > 0
            case' pos =>
              rw [if_pos hk0]
              by_cases e1 : ia + k + 1 = a.size
              · rw [if_pos (by simp [e1])]
                exact wpS_pure ⟨l4, .inl ⟨_, _, rfl, lastA _ _ _ m1 e1⟩⟩
              rw [if_neg (by simp [e1])]
              by_cases e2 : ia + k = a.size
              · rw [if_pos (by simp [e2])]
                exact wpS_pure ⟨l4, .inl ⟨_, _, rfl, doneA _ _ _ m1 e2⟩⟩
              rw [if_neg (by simp [e2])]
              have g1 : ia + k + 1 < a.size := by omega
              have g2 : x + 2 ≤ ia + k + ib := by omega
              generalize out ++ a.extract ia (ia + k) = out1 at *
              generalize ia + k = ia1 at *
            case' neg =>
              rw [if_neg hk0]
              have e0 : k = 0 := by omega
              subst e0
              rw [Nat.add_zero, app_ext_self] at m1
              rw [Nat.add_zero] at q1
              have g1 : ia + 1 < a.size := by omega
              have g2 : x + 2 ≤ ia + ib := by omega
              generalize ia = ia1 at *
              generalize out = out1 at *
            all_goals (
              refine wpS_bind (wpS_elem hb1 ?_)
              obtain ⟨ax, ha1, ha2, ha3⟩ := geta ia1 (by omega)
              have m2 := pushB out1 ia1 ib ax bx m1 ha2 hb2 (q1 ax ha2)
              by_cases e3 : ib + 1 = b.size
              · rw [if_pos (by simp [e3])]
                exact wpS_pure ⟨l4, .inl ⟨_, _, rfl, doneB _ _ _ m2 e3⟩⟩
              rw [if_neg (by simp [e3])]
              refine wpS_bind (wpS_elem ha1 ?_)
              refine wpS_bind (wpS_gallop (st := _) (by exact kd) ha3 (fun i => blt s.heap (b.toList.getD (ib + 1 + i) ax) ax) ?hel2 ?anti2 (by omega) ?_)
              case hel2 =>
                intro i hi
                obtain ⟨by', h1, h2, h3⟩ := getb (ib + 1 + i) (by omega)
                refine ⟨by', h1, h3, ?_⟩
                simp only [if_true]
                rw [List.getD_eq_getElem?_getD, h2]; rfl
              case anti2 =>
                intro i j hij hj hf
                obtain ⟨ax', h1, h2, h3⟩ := getb (ib + 1 + i) (by omega)
                obtain ⟨ay', h4, h5, h6⟩ := getb (ib + 1 + j) (by omega)
                rw [List.getD_eq_getElem?_getD, h5] at hf
                rw [List.getD_eq_getElem?_getD, h2]
                have o := ordB _ _ _ _ (by omega) h2 h5
                simp only [Option.getD_some] at hf ⊢
                cases hq : blt s.heap ax' ax
                · have := blt_ntr (show blt s.heap ay' ax' = false from o) hq
                  rw [this] at hf; cases hf
                · rfl
              intro k2 hk4 hk5 hk6
              dsimp only
              have m3 := blockB (out1.push bx) ia1 (ib + 1) k2 ax m2 ha2 (by
                intro i z hi hz
                have := hk5 i hi
                rw [List.getD_eq_getElem?_getD, hz] at this
                exact leK_of_blt (by simpa using this))
              have q2 : ∀ z, b.toList[ib + 1 + k2]? = some z → leK s.heap ax z := by
                intro z hz
                have hlt : ib + 1 + k2 < b.size := by
                  obtain ⟨hlt, _⟩ := List.getElem?_eq_some_iff.mp hz
                  simpa using hlt
                have := hk6 k2 (Nat.le_refl _) (by omega)
                rw [List.getD_eq_getElem?_getD, hz] at this
                simpa [leK] using this
              by_cases hk7 : k2 > 0
              case' pos =>
                rw [if_pos hk7]
                by_cases e4 : ib + 1 + k2 = b.size
                · rw [if_pos (by simp [e4])]
                  exact wpS_pure ⟨l4, .inl ⟨_, _, rfl, doneB _ _ _ m3 e4⟩⟩
                rw [if_neg (by simp [e4])]
                have g3 : ib + 1 + k2 < b.size := by omega
                have g4 : x + 2 ≤ ia1 + (ib + 1 + k2) := by omega
                generalize out1.push bx ++ b.extract (ib + 1) (ib + 1 + k2) = out2 at *
                generalize ib + 1 + k2 = ib2 at *
              case' neg =>
                rw [if_neg hk7]
                have e0 : k2 = 0 := by omega
                subst e0
                rw [Nat.add_zero, app_ext_self] at m3
                rw [Nat.add_zero] at q2
                have g3 : ib + 1 < b.size := by omega
                have g4 : x + 2 ≤ ia1 + (ib + 1) := by omega
                generalize out1.push bx = out2 at *
                generalize ib + 1 = ib2 at *
              all_goals (
                refine wpS_bind (wpS_elem ha1 ?_)
                obtain ⟨bz, hz1, hz2, hz3⟩ := getb ib2 g3
                have m4 := pushA out2 ia1 ib2 ax bz m3 ha2 hz2 (q2 bz hz2)
                by_cases e5 : ia1 + 1 + 1 = a.size
                · rw [if_pos (by simp [e5])]
                  exact wpS_pure ⟨l4, .inl ⟨_, _, rfl, lastA _ _ _ m4 e5⟩⟩
                rw [if_neg (by simp [e5])]
                split
                · exact wpS_pure ⟨l4, .inr ⟨_, _, _, _, _, _, rfl, m4, by omega, g3, by omega⟩⟩
                · exact wpS_pure ⟨_, _, _, _, _, _, rfl, m4, by omega, g3, by omega, l4⟩)))
end
end Mine
end

-- part S3
section
open PySem PySem.W PyProof.Rows
set_option Elab.async false
set_option maxRecDepth 100000
namespace Mine

theorem MI.lastB {α : Type} {le : α → α → Prop} {A B O RA : List α} {L : α} (m : MI le A B O RA [L]) (hl : ∀ y ∈ RA, le y L) : Merged le A B (O ++ (RA ++ [L])) := by
  refine ⟨m.perm, List.pairwise_append.mpr ⟨m.so, List.pairwise_append.mpr ⟨m.sa, List.pairwise_singleton _ _, ?_⟩, ?_⟩⟩
  · intro y hy z hz
    rw [List.mem_singleton.mp hz]
    exact hl y hy
  · intro o ho r hr
    rcases List.mem_append.mp hr with hr | hr
    · exact m.oa o ho r hr
    · exact m.ob o ho r hr
def geK (h : Heap) (x y : Keyed) : Prop := leK h y x
theorem merged_rev {h : Heap} {A B r : List Keyed} (m : Merged (geK h) A.reverse B.reverse r.reverse) : Merged (leK h) A B r := by
  refine ⟨(List.reverse_perm r).symm.trans (m.1.trans ((List.reverse_perm A).append (List.reverse_perm B))), ?_⟩
  have := List.pairwise_reverse.mp m.2
  exact this
theorem take_get {α : Type} {l : List α} {i : Nat} {x : α} (h : l[i]? = some x) : (l.take (i + 1)).reverse = x :: (l.take i).reverse := by
  rw [List.take_add_one, h]; simp
theorem take_split {α : Type} (l : List α) {k n : Nat} (h : k ≤ n) : (l.take n).reverse = ((l.take n).drop k).reverse ++ (l.take k).reverse := by
  rw [← List.reverse_append]
  congr 1
  conv => lhs; rw [← List.take_append_drop k (l.take n)]
  rw [List.take_take, Nat.min_eq_left h]
theorem ext_take0 {α : Type} (a : Array α) (n : Nat) : (a.extract 0 n).toList = a.toList.take n := by
  simp [Array.toList_extract, List.extract]
theorem ext_mid {α : Type} (a : Array α) {k n : Nat} (h : k ≤ n) : (a.extract k n).toList = (a.toList.take n).drop k := by
  simp only [Array.toList_extract, List.extract]
  rw [List.take_drop, Nat.add_sub_cancel' h]
theorem pw_take_rev {h : Heap} {l : List Keyed} (n : Nat) (p : l.Pairwise (leK h)) : (l.take n).reverse.Pairwise (geK h) :=
  List.pairwise_reverse.mpr (p.sublist (List.take_sublist n l))
theorem mem_last_le {h : Heap} {l : List Keyed} {n : Nat} {x : Keyed} (p : l.Pairwise (leK h)) (hx : l[n]? = some x) : ∀ y ∈ (l.take (n + 1)).reverse, leK h y x := by
  intro y hy
  rw [List.mem_reverse] at hy
  obtain ⟨i, hi, rfl⟩ := List.getElem_of_mem hy
  have hi' : i < n + 1 := by simp at hi; omega
  refine pw_get (fun _ => blt_irr) p (i := i) (j := n) (by omega) ?_ hx
  rw [List.getElem_take]
  exact List.getElem?_eq_getElem _

section
variable {prog : Program} {w : World} {A : Around} {E : Value → Shared → Prop} {s : Shared}

theorem wpS_mergeHi {st : SortSt} {a b : Array Keyed} {Q : Array Keyed → SortSt → Prop} (hk : kindOf st = tuples' true)
    (pa : ∀ x ∈ a.toList, IsP s.heap x) (pb : ∀ x ∈ b.toList, IsP s.heap x) (sa : a.toList.Pairwise (leK s.heap)) (sb : b.toList.Pairwise (leK s.heap))
    (ha0 : 0 < a.size) (hb0 : 0 < b.size) (hfirst : ∀ x, b.toList[0]? = some x → ∀ y ∈ a.toList, leK s.heap x y)
    (hlast : ∀ x, a.toList[a.size - 1]? = some x → ∀ y ∈ b.toList, leK s.heap y x)
    (h : ∀ r st', Merged (leK s.heap) a.toList b.toList r.toList → StOk st st' → Q r st') : wpS (model prog w) A E s (mergeHi' a b) Q st := by
  have geta : ∀ i, i < a.size → ∃ x, a[i]? = some x ∧ a.toList[i]? = some x ∧ IsP s.heap x := fun i hi => ⟨a[i], by simp [hi], by simp [hi], pa _ (by simp)⟩
  have getb : ∀ i, i < b.size → ∃ x, b[i]? = some x ∧ b.toList[i]? = some x ∧ IsP s.heap x := fun i hi => ⟨b[i], by simp [hi], by simp [hi], pb _ (by simp)⟩
  let M := fun (out : Array Keyed) (na nb : Nat) => MI (geK s.heap) a.toList.reverse b.toList.reverse out.toList (a.toList.take na).reverse (b.toList.take nb).reverse
  have takeA : a.toList.take a.size = a.toList := List.take_of_length_le (by simp)
  have takeB : b.toList.take b.size = b.toList := List.take_of_length_le (by simp)
  obtain ⟨al, hA0, hal, hap⟩ := geta (a.size - 1) (by omega)
  have m0 : M #[al] (a.size - 1) b.size := by
    have e := take_get hal
    rw [show a.size - 1 + 1 = a.size by omega, takeA] at e
    refine ⟨?_, List.pairwise_singleton _ _, pw_take_rev _ sa, pw_take_rev _ sb, ?_, ?_⟩
    · rw [takeB]
      conv => rhs; rw [e]
      exact List.Perm.refl _
    · intro o ho r hr
      rw [List.mem_singleton.mp ho]
      have q : r ∈ (a.toList.take (a.size - 1 + 1)).reverse := by
        rw [take_get hal]; exact List.mem_cons_of_mem _ hr
      exact mem_last_le sa hal r q
    · intro o ho r hr
      rw [List.mem_singleton.mp ho]
      rw [takeB, List.mem_reverse] at hr
      exact hlast al hal r hr
  have doneA : ∀ (out : Array Keyed) (na nb : Nat), M out na nb → na = 0 → Merged (leK s.heap) a.toList b.toList (a.extract 0 na ++ b.extract 0 nb ++ out.reverse).toList := by
    intro out na nb m e
    subst e
    have m' : MI (geK s.heap) a.toList.reverse b.toList.reverse out.toList [] (b.toList.take nb).reverse := by simpa [M] using m
    refine merged_rev ?_
    have := m'.endB
    rw [Array.toList_append, Array.toList_append, ext_take0, ext_take0, Array.toList_reverse, List.reverse_append, List.reverse_reverse]
    simpa using this
  have doneB : ∀ (out : Array Keyed) (na nb : Nat), M out na nb → nb = 0 → Merged (leK s.heap) a.toList b.toList (a.extract 0 na ++ b.extract 0 nb ++ out.reverse).toList := by
    intro out na nb m e
    subst e
    have m' : MI (geK s.heap) a.toList.reverse b.toList.reverse out.toList (a.toList.take na).reverse [] := by simpa [M] using m
    refine merged_rev ?_
    have := m'.endA
    rw [Array.toList_append, Array.toList_append, ext_take0, ext_take0, Array.toList_reverse, List.reverse_append, List.reverse_reverse]
    simpa using this
  have firstB : ∀ (out : Array Keyed) (na nb : Nat), M out na nb → nb = 1 → Merged (leK s.heap) a.toList b.toList (b.extract 0 nb ++ a.extract 0 na ++ out.reverse).toList := by
    intro out na nb m e
    subst e
    obtain ⟨b0, _, hb2, _⟩ := getb 0 hb0
    have e2 : (b.toList.take 1).reverse = [b0] := by rw [take_get hb2]; simp
    have m' : MI (geK s.heap) a.toList.reverse b.toList.reverse out.toList (a.toList.take na).reverse [b0] := by
      have := m
      simp only [M] at this
      rwa [e2] at this
    refine merged_rev ?_
    have := m'.lastB fun y hy => hfirst b0 hb2 y (List.mem_of_mem_take (List.mem_reverse.mp hy))
    rw [Array.toList_append, Array.toList_append, ext_take0, ext_take0, Array.toList_reverse, List.reverse_append, List.reverse_reverse, List.reverse_append, e2]
    exact this
  have ordA : ∀ i j x y, i ≤ j → a.toList[i]? = some x → a.toList[j]? = some y → leK s.heap x y := fun i j x y => pw_get (fun _ => blt_irr) sa
  have ordB : ∀ i j x y, i ≤ j → b.toList[i]? = some x → b.toList[j]? = some y → leK s.heap x y := fun i j x y => pw_get (fun _ => blt_irr) sb
  have pushA : ∀ (out : Array Keyed) (na nb : Nat) (x y : Keyed), M out (na + 1) (nb + 1) → a.toList[na]? = some x → b.toList[nb]? = some y → leK s.heap y x → M (out.push x) na (nb + 1) := by
    intro out na nb x y m hx hy hyx
    simp only [M] at m ⊢
    rw [take_get hx] at m
    rw [Array.toList_push]
    refine MI.advA (X := [x]) m fun z hz r hr => ?_
    rw [List.mem_singleton.mp hz]
    exact leK_trans (mem_last_le sb hy r hr) hyx
  have pushB : ∀ (out : Array Keyed) (na nb : Nat) (x y : Keyed), M out (na + 1) (nb + 1) → a.toList[na]? = some x → b.toList[nb]? = some y → leK s.heap x y → M (out.push y) (na + 1) nb := by
    intro out na nb x y m hx hy hyx
    simp only [M] at m ⊢
    rw [take_get hy] at m
    rw [Array.toList_push]
    refine MI.advB (X := [y]) m fun z hz r hr => ?_
    rw [List.mem_singleton.mp hz]
    exact leK_trans (mem_last_le sa hx r hr) hyx
  have blockA : ∀ (out : Array Keyed) (na nb k : Nat) (y : Keyed), M out na (nb + 1) → b.toList[nb]? = some y → k ≤ na → (∀ i x, k ≤ i → i < na → a.toList[i]? = some x → leK s.heap y x) →
      M (out ++ (a.extract k na).reverse) k (nb + 1) := by
    intro out na nb k y m hy hkn hle
    simp only [M] at m ⊢
    rw [take_split a.toList hkn] at m
    rw [Array.toList_append, Array.toList_reverse, ext_mid a hkn]
    refine MI.advA m fun z hz r hr => ?_
    rw [List.mem_reverse] at hz
    obtain ⟨i, hi, e⟩ := List.getElem_of_mem hz
    have hik : k + i < na := by simp at hi; omega
    have e2 : a.toList[k + i]? = some z := by
      rw [← e, List.getElem_drop, List.getElem_take]
      exact List.getElem?_eq_getElem _
    exact leK_trans (mem_last_le sb hy r hr) (hle (k + i) z (by omega) hik e2)
  have blockB : ∀ (out : Array Keyed) (na nb k : Nat) (x : Keyed), M out (na + 1) nb → a.toList[na]? = some x → k ≤ nb → (∀ i y, k ≤ i → i < nb → b.toList[i]? = some y → leK s.heap x y) →
      M (out ++ (b.extract k nb).reverse) (na + 1) k := by
    intro out na nb k x m hx hkn hle
    simp only [M] at m ⊢
    rw [take_split b.toList hkn] at m
    rw [Array.toList_append, Array.toList_reverse, ext_mid b hkn]
    refine MI.advB m fun z hz r hr => ?_
    rw [List.mem_reverse] at hz
    obtain ⟨i, hi, e⟩ := List.getElem_of_mem hz
    have hik : k + i < nb := by simp at hi; omega
    have e2 : b.toList[k + i]? = some z := by
      rw [← e, List.getElem_drop, List.getElem_take]
      exact List.getElem?_eq_getElem _
    exact leK_trans (mem_last_le sa hx r hr) (hle (k + i) z (by omega) hik e2)
  refine wpS_bind (wpS_lift (wpAny_rule ⟨rfl, ?_⟩))
  refine wpS_bind (wpS_elem hA0 ?_)
  dsimp only
  by_cases h1 : a.size = 1
  · rw [if_pos (by simp [h1])]
    exact wpS_pure (h _ _ (doneA #[al] _ _ m0 (by omega)) ⟨rfl, rfl, rfl, rfl⟩)
  rw [if_neg (by simp; omega)]
  by_cases h2 : b.size = 1
  · rw [if_pos (by simp [h2])]
    exact wpS_pure (h _ _ (firstB #[al] _ _ m0 h2) ⟨rfl, rfl, rfl, rfl⟩)
  rw [if_neg (by simp; omega)]
  refine wpS_bind (wpS_get ?_)
  refine wpS_bind (wpS_mono (wpS_forRange
    (I := fun x c st' => ∃ out na nb mg, c = (none, na + 1, nb + 1, out, mg) ∧ M out (na + 1) (nb + 1) ∧ na < a.size ∧ 0 < nb ∧ nb < b.size ∧ na + nb + x + 3 ≤ a.size + b.size ∧ StOk st st')
    (Q := fun c st' => ∃ r rest, c = (some r, rest) ∧ Merged (leK s.heap) a.toList b.toList r.toList ∧ StOk st st') ?step ?fin
    ⟨#[al], a.size - 2, b.size - 1, _, by rw [show a.size - 2 + 1 = a.size - 1 by omega, show b.size - 1 + 1 = b.size by omega], by rw [show a.size - 2 + 1 = a.size - 1 by omega, show b.size - 1 + 1 = b.size by omega]; exact m0, by omega, by omega, by omega, by omega, rfl, rfl, rfl, rfl⟩) ?post)
  case fin =>
    rintro c st' ⟨out, na, nb, mg, rfl, m, l1, l2, l3, l5, l4⟩
    omega
  case post =>
    rintro c st' ⟨r, rest, rfl, hm, hs⟩
    exact wpS_pure (h r st' hm hs)
  case step =>
    rintro x c st' _ hx ⟨out, na, nb, mg, rfl, m, l1, l2, l3, l5, l4⟩
    dsimp only
    refine wpS_bind (wpS_mono (wpS_forRange
      (I := fun y c st'' => ∃ out na nb ac bc, c = (none, na + 1, nb + 1, out, ac, bc) ∧ M out (na + 1) (nb + 1) ∧ na < a.size ∧ 0 < nb ∧ nb < b.size ∧ na + nb + x + 3 + min y 1 ≤ a.size + b.size ∧ st'' = st')
      (Q := fun c st'' => st'' = st' ∧ ((∃ r rest, c = (some r, rest) ∧ Merged (leK s.heap) a.toList b.toList r.toList) ∨
        ∃ out na nb ac bc, c = (none, na + 1, nb + 1, out, ac, bc) ∧ M out (na + 1) (nb + 1) ∧ na < a.size ∧ 0 < nb ∧ nb < b.size ∧ na + nb + x + 4 ≤ a.size + b.size)) ?step1 ?fin1 ⟨_, _, _, _, _, rfl, m, l1, l2, l3, by omega, rfl⟩) ?post1)
    case fin1 =>
      rintro c st'' ⟨out, na, nb, ac, bc, rfl, m, l1, l2, l3, l5, rfl⟩
      exact ⟨rfl, .inr ⟨out, na, nb, ac, bc, rfl, m, l1, l2, l3, by omega⟩⟩
    case step1 =>
      rintro y c st'' _ hy ⟨out, na, nb, ac, bc, rfl, m, l1, l2, l3, l5, rfl⟩
      dsimp only
      obtain ⟨bx, hb1, hb2, hb3⟩ := getb nb l3
      obtain ⟨ax, ha1, ha2, ha3⟩ := geta na l1
      simp only [Nat.add_sub_cancel]
      refine wpS_bind (wpS_elem hb1 (wpS_bind (wpS_elem ha1 (wpS_bind (wpS_lt (l4.1.trans hk) hb3 ha3 ?_)))))
      dsimp only
      by_cases hw : blt s.heap bx ax = true
      · rw [if_pos hw]
        refine wpS_bind (wpS_elem ha1 ?_)
        have m' := pushA out na nb ax bx m ha2 hb2 (leK_of_blt hw)
        by_cases e : na = 0
        · rw [if_pos (by simp [e])]
          exact wpS_pure ⟨rfl, .inl ⟨_, _, rfl, doneA _ _ _ m' e⟩⟩
        · rw [if_neg (by simp [e])]
          obtain ⟨q, rfl⟩ : ∃ q, na = q + 1 := ⟨na - 1, by omega⟩
          split
          · exact wpS_pure ⟨rfl, .inr ⟨_, _, _, _, _, rfl, m', by omega, l2, l3, by omega⟩⟩
          · exact wpS_pure ⟨_, _, _, _, _, rfl, m', by omega, l2, l3, by omega, rfl⟩
      · rw [if_neg hw]
        refine wpS_bind (wpS_elem hb1 ?_)
        have m' := pushB out na nb ax bx m ha2 hb2 (by unfold leK; simpa using hw)
        by_cases e : nb = 1
        · rw [if_pos (by simp [e])]
          exact wpS_pure ⟨rfl, .inl ⟨_, _, rfl, firstB _ _ _ m' e⟩⟩
        · rw [if_neg (by simp [e])]
          obtain ⟨q, rfl⟩ : ∃ q, nb = q + 1 := ⟨nb - 1, by omega⟩
          split
          · exact wpS_pure ⟨rfl, .inr ⟨_, _, _, _, _, rfl, m', l1, by omega, by omega, by omega⟩⟩
          · exact wpS_pure ⟨_, _, _, _, _, rfl, m', l1, by omega, by omega, by omega, rfl⟩
    case post1 =>
      rintro c st'' ⟨rfl, ⟨r, rest, rfl, hm⟩ | ⟨out, na, nb, ac, bc, rfl, m, l1, l2, l3, l5⟩⟩
      · exact wpS_pure ⟨r, _, rfl, hm, l4⟩
      · dsimp only
        refine wpS_bind (wpS_lift (wpAny_rule ⟨rfl, ?_⟩))
        refine wpS_bind (wpS_mono (wpS_forRange
          (I := fun y c st3 => ∃ out na nb mg ac bc, c = (none, na + 1, nb + 1, out, mg, ac, bc) ∧ M out (na + 1) (nb + 1) ∧ na < a.size ∧ 0 < nb ∧ nb < b.size ∧ na + nb + x + 4 ≤ a.size + b.size ∧ StOk st st3)
          (Q := fun c st3 => StOk st st3 ∧ ((∃ r rest, c = (some r, rest) ∧ Merged (leK s.heap) a.toList b.toList r.toList) ∨
            ∃ out na nb mg ac bc, c = (none, na + 1, nb + 1, out, mg, ac, bc) ∧ M out (na + 1) (nb + 1) ∧ na < a.size ∧ 0 < nb ∧ nb < b.size ∧ na + nb + x + 4 ≤ a.size + b.size)) ?step2 ?fin2 ⟨_, _, _, _, _, _, rfl, m, l1, l2, l3, l5, l4⟩) ?post2)
        case fin2 =>
          rintro c st3 ⟨out, na, nb, mg, ac, bc, rfl, m, l1, l2, l3, l5, l4⟩
          exact ⟨l4, .inr ⟨out, na, nb, mg, ac, bc, rfl, m, l1, l2, l3, l5⟩⟩
        case post2 =>
          rintro c st3 ⟨l4, ⟨r, rest, rfl, hm⟩ | ⟨out, na, nb, mg, ac, bc, rfl, m, l1, l2, l3, l5⟩⟩
          · exact wpS_pure ⟨r, _, rfl, hm, l4⟩
          · dsimp only
            refine wpS_bind (wpS_modify (wpS_pure ⟨_, _, _, _, rfl, m, l1, l2, l3, by omega, l4⟩))
        case step2 =>
          rintro y c st3 _ hy ⟨out, na, nb, mg, ac, bc, rfl, m, l1, l2, l3, l5, l4⟩
          obtain ⟨bx, hb1, hb2, hb3⟩ := getb nb l3
          have kd : kindOf st3 = tuples' true := l4.1.trans hk
          dsimp -zeta only
          by_cases hmg : mg > 1
          case' pos => rw [if_pos hmg]
          case' neg => rw [if_neg hmg]
          all_goals (
            simp only [Nat.add_sub_cancel]
            refine wpS_bind (wpS_modify ?_)
            refine wpS_bind (wpS_elem hb1 ?_)
            refine wpS_bind (wpS_gallop (st := _) (by exact kd) hb3 (fun i => !blt s.heap bx (a.toList.getD i bx)) ?hel ?anti (by omega) ?_)
            case hel =>
              intro i hi
              obtain ⟨ax, h1, h2, h3⟩ := geta i (by omega)
              refine ⟨ax, by rw [Nat.zero_add]; exact h1, h3, ?_⟩
              simp only [Bool.false_eq_true, if_false]
              rw [List.getD_eq_getElem?_getD, h2]; rfl
            case anti =>
              intro i j hij hj hf
              obtain ⟨ax, h1, h2, h3⟩ := geta i (by omega)
              obtain ⟨ay, h4, h5, h6⟩ := geta j (by omega)
              rw [List.getD_eq_getElem?_getD, h5] at hf
              rw [List.getD_eq_getElem?_getD, h2]
              have o := ordA _ _ _ _ (by omega) h2 h5
              simp only [Option.getD_some, Bool.not_eq_true'] at hf ⊢
              exact leK_trans o hf
            intro k hk1 hk2 hk3
            dsimp only
            have m1 := blockA out (na + 1) nb k bx m hb2 hk1 (by
              intro i x hi hin hx
              have := hk3 i hi hin
              rw [List.getD_eq_getElem?_getD, hx] at this
              exact leK_of_blt (by simpa using this))
            have q1 : ∀ i x, i < k → a.toList[i]? = some x → leK s.heap x bx := by
              intro i x hi hx
              have := hk2 i hi
              rw [List.getD_eq_getElem?_getD, hx] at this
              simpa [leK] using this
            by_cases hk0 : na + 1 - k > 0
            case' pos =>
              rw [if_pos hk0]
              by_cases e1 : k = 0
              · rw [if_pos (by simp [e1])]
                exact wpS_pure ⟨l4, .inl ⟨_, _, rfl, doneA _ _ _ m1 e1⟩⟩
              rw [if_neg (by simp [e1])]
              obtain ⟨na1, rfl⟩ : ∃ q, k = q + 1 := ⟨k - 1, by omega⟩
              have g1 : na1 < a.size := by omega
              have g2 : na1 + nb + x + 4 ≤ a.size + b.size := by omega
              generalize out ++ (a.extract (na1 + 1) (na + 1)).reverse = out1 at *
            case' neg =>
              rw [if_neg hk0]
              have e0 : k = na + 1 := by omega
              subst e0
              rw [show out ++ (a.extract (na + 1) (na + 1)).reverse = out by rw [show a.extract (na + 1) (na + 1) = #[] by simp; omega]; simp] at m1
              have g1 : na < a.size := by omega
              have g2 : na + nb + x + 4 ≤ a.size + b.size := by omega
              generalize na = na1 at *
              generalize out = out1 at *
            all_goals (
              refine wpS_bind (wpS_elem hb1 ?_)
              obtain ⟨ax, ha1, ha2, ha3⟩ := geta na1 g1
              have m2 := pushB out1 na1 nb ax bx m1 ha2 hb2 (q1 na1 ax (by omega) ha2)
              by_cases e3 : nb = 1
              · rw [if_pos (by simp [e3])]
                exact wpS_pure ⟨l4, .inl ⟨_, _, rfl, firstB _ _ _ m2 e3⟩⟩
              rw [if_neg (by simp [e3])]
              (try simp only [Nat.add_sub_cancel])
              refine wpS_bind (wpS_elem ha1 ?_)
              refine wpS_bind (wpS_gallop (st := _) (by exact kd) ha3 (fun i => blt s.heap (b.toList.getD i ax) ax) ?hel2 ?anti2 (by omega) ?_)
              case hel2 =>
                intro i hi
                obtain ⟨by', h1, h2, h3⟩ := getb i (by omega)
                refine ⟨by', by rw [Nat.zero_add]; exact h1, h3, ?_⟩
                simp only [if_true]
                rw [List.getD_eq_getElem?_getD, h2]; rfl
              case anti2 =>
                intro i j hij hj hf
                obtain ⟨ax', h1, h2, h3⟩ := getb i (by omega)
                obtain ⟨ay', h4, h5, h6⟩ := getb j (by omega)
                rw [List.getD_eq_getElem?_getD, h5] at hf
                rw [List.getD_eq_getElem?_getD, h2]
                have o := ordB _ _ _ _ (by omega) h2 h5
                simp only [Option.getD_some] at hf ⊢
                cases hq : blt s.heap ax' ax
                · have := blt_ntr (show blt s.heap ay' ax' = false from o) hq
                  rw [this] at hf; cases hf
                · rfl
              intro k2 hk4 hk5 hk6
              dsimp only
              have m3 := blockB (out1.push bx) na1 nb k2 ax m2 ha2 hk4 (by
                intro i z hi hin hz
                have := hk6 i hi hin
                rw [List.getD_eq_getElem?_getD, hz] at this
                simpa [leK] using this)
              have q2 : ∀ i z, i < k2 → b.toList[i]? = some z → leK s.heap z ax := by
                intro i z hi hz
                have := hk5 i hi
                rw [List.getD_eq_getElem?_getD, hz] at this
                exact leK_of_blt (by simpa using this)
              by_cases hk7 : nb - k2 > 0
              case' pos =>
                rw [if_pos hk7]
                by_cases e4 : k2 = 1
                · rw [if_pos (by simp [e4])]
                  exact wpS_pure ⟨l4, .inl ⟨_, _, rfl, firstB _ _ _ m3 e4⟩⟩
                rw [if_neg (by simp [e4])]
                by_cases e6 : k2 = 0
                · rw [if_pos (by simp [e6])]
                  exact wpS_pure ⟨l4, .inl ⟨_, _, rfl, doneB _ _ _ m3 e6⟩⟩
                rw [if_neg (by simp [e6])]
                obtain ⟨nb2, rfl⟩ : ∃ q, k2 = q + 1 := ⟨k2 - 1, by omega⟩
                have g3 : 0 < nb2 := by omega
                have g5 : nb2 < b.size := by omega
                have g4 : na1 + nb2 + x + 4 ≤ a.size + b.size := by omega
                generalize out1.push bx ++ (b.extract (nb2 + 1) nb).reverse = out2 at *
              case' neg =>
                rw [if_neg hk7]
                have e0 : k2 = nb := by omega
                subst e0
                rw [show out1.push bx ++ (b.extract k2 k2).reverse = out1.push bx by rw [show b.extract k2 k2 = #[] by simp; omega]; simp] at m3
                obtain ⟨nb2, rfl⟩ : ∃ q, k2 = q + 1 := ⟨k2 - 1, by omega⟩
                have g3 : 0 < nb2 := by omega
                have g5 : nb2 < b.size := by omega
                have g4 : na1 + nb2 + x + 4 ≤ a.size + b.size := by omega
                generalize out1.push bx = out2 at *
              all_goals (
                refine wpS_bind (wpS_elem ha1 ?_)
                obtain ⟨bz, hz1, hz2, hz3⟩ := getb nb2 g5
                have m4 := pushA out2 na1 nb2 ax bz m3 ha2 hz2 (q2 nb2 bz (by omega) hz2)
                by_cases e5 : na1 = 0
                · rw [if_pos (by simp [e5])]
                  exact wpS_pure ⟨l4, .inl ⟨_, _, rfl, doneA _ _ _ m4 e5⟩⟩
                rw [if_neg (by simp [e5])]
                obtain ⟨na2, rfl⟩ : ∃ q, na1 = q + 1 := ⟨na1 - 1, by omega⟩
                split
                · exact wpS_pure ⟨l4, .inr ⟨_, _, _, _, _, _, rfl, m4, by omega, g3, g5, by omega⟩⟩
                · exact wpS_pure ⟨_, _, _, _, _, _, rfl, m4, by omega, g3, g5, by omega, l4⟩)))
end
end Mine
end

-- part S4
section
open PySem PySem.W PyProof.Rows
set_option Elab.async false
set_option maxRecDepth 100000
namespace Mine

noncomputable def kk (h : Heap) (a : Array Keyed) (i : Nat) : Int × Int := match a[i]? with
  | some x => keyAt h x.1
  | none => (0, 0)
theorem kk_congr {h : Heap} {a b : Array Keyed} {i j : Nat} (e : a[i]? = b[j]?) : kk h a i = kk h b j := by unfold kk; rw [e]
theorem kk_of {h : Heap} {a : Array Keyed} {i : Nat} {x : Keyed} (e : a[i]? = some x) : kk h a i = keyAt h x.1 := by unfold kk; rw [e]
theorem kk_bubble {h : Heap} {a : Array Keyed} {src d : Nat} (hs : src < a.size) (hd : d ≤ src) (k : Nat) :
    kk h (bubble a src d) k = if k = src - d then kk h a src else if src - d < k ∧ k ≤ src then kk h a (k - 1) else kk h a k := by
  have e := getElem?_bubble hs d hd k
  by_cases h1 : k = src - d
  · rw [if_pos h1] at e ⊢; exact kk_congr e
  · rw [if_neg h1] at e ⊢
    by_cases h2 : src - d < k ∧ k ≤ src
    · rw [if_pos h2] at e ⊢; exact kk_congr e
    · rw [if_neg h2] at e ⊢; exact kk_congr e
theorem kk_mirror {h : Heap} {a : Array Keyed} {i j : Nat} (hj : j ≤ a.size) (k : Nat) :
    kk h (mirror a i j ((j - i) / 2)) k = if i ≤ k ∧ k < j then kk h a (i + j - 1 - k) else kk h a k := by
  have e := getElem?_mirror_all (i := i) hj k
  by_cases h1 : i ≤ k ∧ k < j
  · rw [if_pos h1] at e ⊢; exact kk_congr e
  · rw [if_neg h1] at e ⊢; exact kk_congr e

/-- a slice in rising order -/
def Up (h : Heap) (a : Array Keyed) (lo hi : Nat) : Prop := ∀ i j, lo ≤ i → i ≤ j → j < hi → lex (kk h a j) (kk h a i) = false
def Down (h : Heap) (a : Array Keyed) (lo hi : Nat) : Prop := ∀ i j, lo ≤ i → i ≤ j → j < hi → lex (kk h a i) (kk h a j) = false
theorem lex_irr (p : Int × Int) : lex p p = false := by
  cases e : lex p p
  · rfl
  · have := lex_asym _ _ e; rw [e] at this; cases this

structure SB (h : Heap) (a₀ : Array Keyed) (st : SortSt) : Prop where
  perm : (arrOf st).Perm a₀
  failed : failedOf st = none
  kind : kindOf st = tuples' true
/-- what a₀ is -/
structure A0 (h : Heap) (a₀ : Array Keyed) : Prop where
  isP : ∀ x ∈ a₀.toList, IsP h x
  nd : (a₀.toList.map fun x => keyAt h x.1).Nodup
def Same (lo : Nat) (st st' : SortSt) : Prop := pendingOf st' = pendingOf st ∧ ∀ i, i < lo → (arrOf st')[i]? = (arrOf st)[i]?
theorem Same.refl {lo : Nat} {st : SortSt} : Same lo st st := ⟨rfl, fun _ _ => rfl⟩
theorem Same.trans {lo : Nat} {st st' st'' : SortSt} (a : Same lo st st') (b : Same lo st' st'') : Same lo st st'' := ⟨b.1.trans a.1, fun i hi => (b.2 i hi).trans (a.2 i hi)⟩

section
variable {h : Heap} {a₀ : Array Keyed} {st : SortSt}
theorem SB.size (B : SB h a₀ st) : (arrOf st).size = a₀.size := B.perm.size_eq
theorem SB.get (B : SB h a₀ st) (Z : A0 h a₀) {i : Nat} (hi : i < a₀.size) : ∃ x, (arrOf st)[i]? = some x ∧ IsP h x := by
  have hi' : i < (arrOf st).size := by rw [B.size]; exact hi
  refine ⟨(arrOf st)[i], getElem?_pos _ i hi', Z.isP _ ?_⟩
  exact (Array.perm_iff_toList_perm.mp B.perm).mem_iff.mp (by simp)
theorem SB.ne (B : SB h a₀ st) (Z : A0 h a₀) {i j : Nat} (hi : i < a₀.size) (hj : j < a₀.size) (hij : i ≠ j) : kk h (arrOf st) i ≠ kk h (arrOf st) j := by
  have hi' : i < (arrOf st).size := by rw [B.size]; exact hi
  have hj' : j < (arrOf st).size := by rw [B.size]; exact hj
  have nd : ((arrOf st).toList.map fun x => keyAt h x.1).Nodup := ((Array.perm_iff_toList_perm.mp B.perm).map _).nodup_iff.mpr Z.nd
  rw [kk_of (getElem?_pos _ i hi'), kk_of (getElem?_pos _ j hj')]
  intro e
  have := (List.getElem_inj (h₀ := by simpa using hi') (h₁ := by simpa using hj') nd).mp (by simpa using e)
  exact hij this
theorem SB.tot (B : SB h a₀ st) (Z : A0 h a₀) {i j : Nat} (hi : i < a₀.size) (hj : j < a₀.size) (hij : i ≠ j) (e : lex (kk h (arrOf st) i) (kk h (arrOf st) j) = false) : lex (kk h (arrOf st) j) (kk h (arrOf st) i) = true := by
  cases q : lex (kk h (arrOf st) j) (kk h (arrOf st) i)
  · exact absurd (lex_tot _ _ e q) (B.ne Z hi hj hij)
  · rfl
theorem SB.setArr {xs : Array Keyed} (B : SB h a₀ st) (hp : xs.Perm (arrOf st)) : SB h a₀ (setArr st xs) := ⟨hp.trans B.perm, B.failed, B.kind⟩
end

section
variable {prog : Program} {w : World} {A : Around} {E : Value → Shared → Prop} {s : Shared} {a₀ : Array Keyed}

theorem wpS_ltk {st : SortSt} {i j : Nat} {Q : Option Bool → SortSt → Prop} (B : SB s.heap a₀ st) (Z : A0 s.heap a₀) (hi : i < a₀.size) (hj : j < a₀.size)
    (h : Q (some (lex (kk s.heap (arrOf st) i) (kk s.heap (arrOf st) j))) st) : wpS (model prog w) A E s (ltAt' i j) Q st := by
  obtain ⟨x, hx, px⟩ := B.get Z hi
  obtain ⟨y, hy, py⟩ := B.get Z hj
  rw [kk_of hx, kk_of hy] at h
  exact wpS_ltAt2 B.kind hx hy px py h

theorem wpS_bin {st : SortSt} {lo n ok : Nat} {Q : Bool → SortSt → Prop} (Z : A0 s.heap a₀) (hn : lo + n ≤ a₀.size) (hok : ok ≤ n) (B : SB s.heap a₀ st) (hs : Up s.heap (arrOf st) lo (lo + ok))
    (h : ∀ st', SB s.heap a₀ st' → Same lo st st' → Up s.heap (arrOf st') lo (lo + n) → Q true st') : wpS (model prog w) A E s (binarySort' lo n ok) Q st := by
  refine wpS_bind (wpS_mono (wpS_forRange (I := fun k c st' => c = (none, ()) ∧ SB s.heap a₀ st' ∧ Same lo st st' ∧ Up s.heap (arrOf st') lo (lo + min k n))
    (Q := fun c st' => c = (none, ()) ∧ SB s.heap a₀ st' ∧ Same lo st st' ∧ Up s.heap (arrOf st') lo (lo + n)) ?step ?fin ?init) ?post)
  case post =>
    rintro c st' ⟨rfl, B', S', hs'⟩
    exact wpS_pure (h st' B' S' hs')
  case init =>
    refine ⟨rfl, B, Same.refl, fun i j hl hij hj => ?_⟩
    by_cases h1 : ok = 0
    · have : i = j := by omega
      subst this; exact lex_irr _
    · exact hs i j hl hij (by omega)
  case fin =>
    rintro c st' ⟨hc, B', S', hs'⟩
    refine ⟨hc, B', S', ?_⟩
    rwa [show min (max (max ok 1) n) n = n by omega] at hs'
  case step =>
    rintro k c st' hak hkn ⟨rfl, B', S', hs'⟩
    rw [show min k n = k by omega] at hs'
    have hk : lo + k < a₀.size := by omega
    refine wpS_bind (wpS_mono (wpS_forRange (I := fun x c st'' => st'' = st' ∧ ∃ l r, c = (none, l, r) ∧ l ≤ r ∧ r ≤ k ∧ r - l ≤ k - x ∧
        (∀ i, i < l → lex (kk s.heap (arrOf st') (lo + k)) (kk s.heap (arrOf st') (lo + i)) = false) ∧ (∀ i, r ≤ i → i < k → lex (kk s.heap (arrOf st') (lo + k)) (kk s.heap (arrOf st') (lo + i)) = true))
      (Q := fun c st'' => st'' = st' ∧ ∃ l r, c = (none, l, r) ∧ l ≤ k ∧
        (∀ i, i < l → lex (kk s.heap (arrOf st') (lo + k)) (kk s.heap (arrOf st') (lo + i)) = false) ∧ (∀ i, l ≤ i → i < k → lex (kk s.heap (arrOf st') (lo + k)) (kk s.heap (arrOf st') (lo + i)) = true)) ?istep ?ifin ?iinit) ?ipost)
    case iinit => exact ⟨rfl, 0, k, rfl, by omega, by omega, by omega, fun i hi => by omega, fun i h1 h2 => by omega⟩
    case ifin =>
      rintro c st'' ⟨rfl, l, r, rfl, hlr, hrk, hm, hlo, hhi⟩
      have : l = r := by omega
      subst this
      exact ⟨rfl, l, l, rfl, hrk, hlo, hhi⟩
    case istep =>
      rintro x c st'' _ hxk ⟨rfl, l, r, rfl, hlr, hrk, hm, hlo, hhi⟩
      dsimp only
      by_cases hge : l ≥ r
      · rw [if_pos hge]
        have : l = r := by omega
        subst this
        exact wpS_pure ⟨rfl, l, l, rfl, hrk, hlo, hhi⟩
      · rw [if_neg hge]
        refine wpS_bind (wpS_ltk B' Z hk (by omega) ?_)
        dsimp only
        cases hless : lex (kk s.heap (arrOf st'') (lo + k)) (kk s.heap (arrOf st'') (lo + (l + r) / 2))
        case true =>
          simp only [if_true]
          refine wpS_pure ⟨rfl, l, (l + r) / 2, rfl, by omega, by omega, by omega, hlo, fun i h1 h2 => ?_⟩
          cases q : lex (kk s.heap (arrOf st'') (lo + k)) (kk s.heap (arrOf st'') (lo + i))
          · have := lex_ntr _ _ _ q (hs' (lo + (l + r) / 2) (lo + i) (by omega) (by omega) (by omega))
            rw [this] at hless; cases hless
          · rfl
        case false =>
          simp only [Bool.false_eq_true, if_false]
          refine wpS_pure ⟨rfl, (l + r) / 2 + 1, r, rfl, by omega, by omega, by omega, fun i h1 => ?_, hhi⟩
          exact lex_ntr _ _ _ hless (hs' (lo + i) (lo + (l + r) / 2) (by omega) (by omega) (by omega))
    case ipost =>
      rintro c st'' ⟨rfl, l, r, rfl, hlk, hlo, hhi⟩
      dsimp only
      refine wpS_bind (?_ : wpS _ _ _ _ (moveDown' (lo + k) (lo + l)) _ _)
      rw [moveDown'_eq]
      have hks : lo + k < (arrOf st'').size := by rw [B'.size]; exact hk
      refine wpS_modify (wpS_pure ⟨rfl, B'.setArr (bubble_perm _ _ _), S'.trans ⟨rfl, fun i hi => ?_⟩, ?_⟩)
      · show (bubble (arrOf st'') (lo + k) (lo + k - (lo + l)))[i]? = _
        rw [getElem?_bubble hks _ (by omega), if_neg (by omega), if_neg (by omega)]
      · rw [show min (k + 1) n = k + 1 by omega]
        intro i j hi hij hj
        show lex (kk s.heap (bubble (arrOf st'') (lo + k) (lo + k - (lo + l))) j) (kk s.heap (bubble (arrOf st'') (lo + k) (lo + k - (lo + l))) i) = false
        rw [kk_bubble hks (by omega), kk_bubble hks (by omega), show lo + k - (lo + k - (lo + l)) = lo + l by omega]
        have hlo' : ∀ i, lo ≤ i → i < lo + l → lex (kk s.heap (arrOf st'') (lo + k)) (kk s.heap (arrOf st'') i) = false := fun i h1 h2 => by
          have := hlo (i - lo) (by omega); rwa [show lo + (i - lo) = i by omega] at this
        have hhi' : ∀ i, lo + l ≤ i → i < lo + k → lex (kk s.heap (arrOf st'') i) (kk s.heap (arrOf st'') (lo + k)) = false := fun i h1 h2 => by
          have := hhi (i - lo) (by omega) (by omega); rw [show lo + (i - lo) = i by omega] at this; exact lex_asym _ _ this
        repeat' split
        all_goals first
          | (exfalso; omega)
          | exact lex_irr _
          | exact hlo' _ (by omega) (by omega)
          | exact hhi' _ (by omega) (by omega)
          | exact hs' _ _ (by omega) (by omega) (by omega)

theorem up_snoc {h : Heap} {a : Array Keyed} {lo n : Nat} (hn : lo < n) (hs : Up h a lo n) (e : lex (kk h a n) (kk h a (n - 1)) = false) : Up h a lo (n + 1) := by
  intro i j hl hij hj
  by_cases hjx : j < n
  · exact hs i j hl hij hjx
  · have hj' : j = n := by omega
    subst hj'
    by_cases hi' : i = j
    · subst hi'; exact lex_irr _
    · exact lex_ntr _ _ _ e (hs i (j - 1) hl (by omega) (by omega))

theorem wpS_count {st : SortSt} {lo nrem : Nat} {Q : Option Nat → SortSt → Prop} (Z : A0 s.heap a₀) (hn : lo + nrem ≤ a₀.size) (h1 : 1 ≤ nrem) (B : SB s.heap a₀ st)
    (h : ∀ m st', SB s.heap a₀ st' → Same lo st st' → 1 ≤ m → m ≤ nrem → Up s.heap (arrOf st') lo (lo + m) → Q (some m) st') : wpS (model prog w) A E s (countRun' lo nrem) Q st := by
  refine wpS_bind (wpS_mono (wpS_forRange (I := fun x c st' => st' = st ∧ c = (none, x) ∧ Up s.heap (arrOf st) lo (lo + x))
    (Q := fun c st' => st' = st ∧ ∃ n, c = (none, n) ∧ 1 ≤ n ∧ n ≤ nrem ∧ Up s.heap (arrOf st) lo (lo + n) ∧ (n = nrem ∨ lex (kk s.heap (arrOf st) (lo + n)) (kk s.heap (arrOf st) (lo + n - 1)) = true)) ?step ?fin
    ⟨rfl, rfl, fun i j hl hij hj => by have : i = j := (by omega); subst this; exact lex_irr _⟩) ?post)
  case fin =>
    rintro c st' ⟨rfl, rfl, hs'⟩
    rw [show max 1 nrem = nrem by omega] at hs' ⊢
    exact ⟨rfl, nrem, rfl, h1, Nat.le_refl _, hs', .inl rfl⟩
  case step =>
    rintro x c st' hax hxn ⟨rfl, rfl, hs'⟩
    dsimp only
    refine wpS_bind (wpS_ltk B Z (by omega) (by omega) ?_)
    dsimp only
    cases hless : lex (kk s.heap (arrOf st') (lo + x)) (kk s.heap (arrOf st') (lo + x - 1))
    case true =>
      simp only [if_true]
      exact wpS_pure ⟨rfl, x, rfl, hax, by omega, hs', .inr hless⟩
    case false =>
      simp only [Bool.false_eq_true, if_false]
      exact wpS_pure ⟨rfl, rfl, up_snoc (n := lo + x) (by omega) hs' hless⟩
  case post =>
    rintro c st' ⟨rfl, n, rfl, hn1, hn2, hsn, hor⟩
    dsimp only
    by_cases hnn : n = nrem
    · rw [if_pos (by simpa using hnn)]
      exact wpS_pure (h n st' B Same.refl hn1 hn2 hsn)
    rw [if_neg (by simpa using hnn)]
    have hlt := hor.resolve_left hnn
    by_cases hgt : n > 1
    · rw [if_pos hgt]
      refine wpS_bind (wpS_ltk B Z (by omega) (by omega) ?_)
      dsimp only
      rw [if_pos (B.tot Z (by omega) (by omega) (by omega) (hsn lo (lo + n - 1) (Nat.le_refl _) (by omega) (by omega)))]
      exact wpS_pure (h n st' B Same.refl hn1 hn2 hsn)
    rw [if_neg hgt]
    have e1 : n = 1 := by omega
    subst e1
    refine wpS_bind (wpS_lift (wpAny_rule ⟨rfl, ?_⟩))
    refine wpS_bind (wpS_mono (wpS_forRange (I := fun x c st'' => st'' = st' ∧ c = (none, x, 0) ∧ Down s.heap (arrOf st') lo (lo + x))
      (Q := fun c st'' => st'' = st' ∧ ∃ n, c = (none, n, 0) ∧ 2 ≤ n ∧ n ≤ nrem ∧ Down s.heap (arrOf st') lo (lo + n)) ?step2 ?fin2 ?init2) ?post2)
    case init2 =>
      refine ⟨rfl, rfl, fun i j hl hij hj => ?_⟩
      by_cases hi' : i = j
      · subst hi'; exact lex_irr _
      · have e1 : i = lo := by omega
        have e2 : j = lo + 1 := by omega
        subst e1; subst e2
        exact lex_asym _ _ hlt
    case fin2 =>
      rintro c st'' ⟨rfl, rfl, hs'⟩
      rw [show max (1 + 1) nrem = nrem by omega] at hs' ⊢
      exact ⟨rfl, nrem, rfl, by omega, Nat.le_refl _, hs'⟩
    case step2 =>
      rintro x c st'' hax hxn ⟨rfl, rfl, hs'⟩
      dsimp only
      refine wpS_bind (wpS_ltk B Z (by omega) (by omega) ?_)
      dsimp only
      cases hless : lex (kk s.heap (arrOf st'') (lo + x)) (kk s.heap (arrOf st'') (lo + x - 1))
      case true =>
        simp only [if_true]
        rw [if_neg (by omega)]
        refine wpS_pure ⟨rfl, rfl, fun i j hl hij hj => ?_⟩
        by_cases hjx : j < lo + x
        · exact hs' i j hl hij hjx
        · have hj' : j = lo + x := by omega
          subst hj'
          by_cases hi' : i = lo + x
          · subst hi'; exact lex_irr _
          · exact lex_ntr _ _ _ (hs' i (lo + x - 1) hl (by omega) (by omega)) (lex_asym _ _ hless)
      case false =>
        simp only [Bool.false_eq_true, if_false]
        refine wpS_bind (wpS_ltk B Z (by omega) (by omega) ?_)
        dsimp only
        rw [if_pos (B.tot Z (by omega) (by omega) (by omega) hless)]
        exact wpS_pure ⟨rfl, x, rfl, by omega, by omega, hs'⟩
    case post2 =>
      rintro c st'' ⟨rfl, n, rfl, hn1, hn2, hsn⟩
      dsimp only
      rw [if_neg (by omega)]
      refine wpS_bind (?_ : wpS _ _ _ _ (reverseSlice' lo (lo + n)) _ _)
      rw [reverseSlice'_eq]
      have hsz : lo + n ≤ (arrOf st'').size := by rw [B.size]; omega
      refine wpS_modify ?_
      have B2 : SB s.heap a₀ (setArr st'' (mirror (arrOf st'') lo (lo + n) ((lo + n - lo) / 2))) := B.setArr (mirror_perm _ _ _ _)
      have S2 : Same lo st'' (setArr st'' (mirror (arrOf st'') lo (lo + n) ((lo + n - lo) / 2))) := ⟨rfl, fun i hi => by
        show (mirror (arrOf st'') lo (lo + n) ((lo + n - lo) / 2))[i]? = _
        rw [getElem?_mirror_all hsz, if_neg (by omega)]⟩
      have U2 : Up s.heap (arrOf (setArr st'' (mirror (arrOf st'') lo (lo + n) ((lo + n - lo) / 2)))) lo (lo + n) := by
        intro i j hl hij hj
        show lex (kk s.heap (mirror (arrOf st'') lo (lo + n) ((lo + n - lo) / 2)) j) (kk s.heap (mirror (arrOf st'') lo (lo + n) ((lo + n - lo) / 2)) i) = false
        rw [kk_mirror hsz, kk_mirror hsz, if_pos (by omega), if_pos (by omega)]
        exact hsn _ _ (by omega) (by omega) (by omega)
      generalize setArr st'' (mirror (arrOf st'') lo (lo + n) ((lo + n - lo) / 2)) = st3 at *
      refine wpS_bind (wpS_mono (wpS_forRange (I := fun x c st' => st' = st3 ∧ c = (none, x) ∧ Up s.heap (arrOf st3) lo (lo + x))
        (Q := fun c st' => st' = st3 ∧ ∃ n, c = (none, n) ∧ 1 ≤ n ∧ n ≤ nrem ∧ Up s.heap (arrOf st3) lo (lo + n)) ?step3 ?fin3 ⟨rfl, rfl, U2⟩) ?post3)
      case fin3 =>
        rintro c st' ⟨rfl, rfl, hs'⟩
        rw [show max n nrem = nrem by omega] at hs' ⊢
        exact ⟨rfl, nrem, rfl, by omega, Nat.le_refl _, hs'⟩
      case step3 =>
        rintro x c st' hax hxn ⟨rfl, rfl, hs'⟩
        dsimp only
        refine wpS_bind (wpS_ltk B2 Z (by omega) (by omega) ?_)
        dsimp only
        cases hless : lex (kk s.heap (arrOf st') (lo + x)) (kk s.heap (arrOf st') (lo + x - 1))
        case true =>
          simp only [if_true]
          exact wpS_pure ⟨rfl, x, rfl, by omega, by omega, hs'⟩
        case false =>
          simp only [Bool.false_eq_true, if_false]
          exact wpS_pure ⟨rfl, rfl, up_snoc (n := lo + x) (by omega) hs' hless⟩
      case post3 =>
        rintro c st' ⟨rfl, n, rfl, hn1, hn2, hsn⟩
        exact wpS_pure (h n _ B2 S2 hn1 hn2 hsn)
end
end Mine
end

-- part S5
section
open PySem PySem.W PyProof.Rows
set_option Elab.async false
set_option maxRecDepth 100000
namespace Mine

theorem mem_mid {α : Type} {l : List α} {k n : Nat} {x : α} (h : x ∈ (l.take n).drop k) : ∃ i, k ≤ i ∧ i < n ∧ l[i]? = some x := by
  obtain ⟨i, hi, e⟩ := List.getElem_of_mem h
  refine ⟨k + i, by omega, ?_, ?_⟩
  · simp at hi; omega
  · rw [← e, List.getElem_drop, List.getElem_take]; exact List.getElem?_eq_getElem _
theorem mem_take_idx {α : Type} {l : List α} {n : Nat} {x : α} (h : x ∈ l.take n) : ∃ i, i < n ∧ l[i]? = some x := by
  obtain ⟨i, _, h2, h3⟩ := mem_mid (k := 0) (by simpa using h)
  exact ⟨i, h2, h3⟩
theorem mem_drop_idx {α : Type} {l : List α} {n : Nat} {x : α} (h : x ∈ l.drop n) : ∃ i, n ≤ i ∧ l[i]? = some x := by
  obtain ⟨i, hi, e⟩ := List.getElem_of_mem h
  exact ⟨n + i, by omega, by rw [← e, List.getElem_drop]; exact List.getElem?_eq_getElem _⟩
theorem up_le {h : Heap} {a : Array Keyed} {lo hi i j : Nat} {x y : Keyed} (U : Up h a lo hi) (h1 : lo ≤ i) (h2 : i ≤ j) (h3 : j < hi) (hx : a.toList[i]? = some x) (hy : a.toList[j]? = some y) : leK h x y := by
  have := U i j h1 h2 h3
  rw [kk_of (i := i) (x := x) (by simpa using hx), kk_of (i := j) (x := y) (by simpa using hy)] at this
  exact this
theorem up_mid {h : Heap} {a : Array Keyed} {lo hi k n : Nat} (U : Up h a lo hi) (h1 : lo ≤ k) (h2 : n ≤ hi) : ((a.toList.take n).drop k).Pairwise (leK h) := by
  rw [List.pairwise_iff_getElem]
  intro i j hi hj hij
  have hj' : k + j < n := by simp at hj; omega
  refine up_le U (i := k + i) (j := k + j) (by omega) (by omega) (by omega) ?_ ?_
  · rw [List.getElem_drop, List.getElem_take]; exact List.getElem?_eq_getElem _
  · rw [List.getElem_drop, List.getElem_take]; exact List.getElem?_eq_getElem _
theorem up_all {h : Heap} {a : Array Keyed} (U : Up h a 0 a.size) : a.toList.Pairwise (leK h) := by
  have := up_mid U (k := 0) (n := a.size) (Nat.le_refl _) (Nat.le_refl _)
  rw [List.drop_zero, List.take_of_length_le (by simp)] at this
  exact this
theorem fold_set {α : Type} (sa : Nat) (S : List α) : ∀ (M N P : List α) (c : Nat) (arr : Array α), arr.toList = P ++ (N ++ S) → N.length = M.length → P.length = sa + c →
    ((M.zipIdx c).foldl (fun a x => a.setIfInBounds (sa + x.2) x.1) arr).toList = P ++ (M ++ S)
  | [], [], P, c, arr, h, _, _ => by simpa using h
  | [], _ :: _, _, _, _, _, h, _ => by simp at h
  | m :: M, [], _, _, _, _, h, _ => by simp at h
  | m :: M, n :: N, P, c, arr, h, hl, hp => by
    rw [List.zipIdx_cons, List.foldl_cons]
    have := fold_set sa S M N (P ++ [m]) (c + 1) (arr.setIfInBounds (sa + c) m) ?_ (by simpa using hl) (by simp; omega)
    · rw [this]; simp
    · rw [Array.toList_setIfInBounds, h, ← hp]
      simp

section
variable {prog : Program} {w : World} {A : Around} {E : Value → Shared → Prop} {s : Shared} {a₀ : Array Keyed}
theorem wpS_set {σ : Type} {M : Model} {st st' : σ} {Q : PUnit → σ → Prop} (h : Q ⟨⟩ st') : wpS M A E s (set st' : StateT σ Sem PUnit) Q st := by
  unfold wpS; rw [StateT.run_set]; exact wpAny_pure ⟨rfl, h⟩

theorem wpS_merge2 {st : SortSt} {n1 n2 p1 p2 : Nat} {Q : Bool → SortSt → Prop} (Z : A0 s.heap a₀) (B : SB s.heap a₀ st) (hp : pendingOf st = #[(0, n1, p1), (n1, n2, p2)]) (hn : n1 + n2 = a₀.size) (hn1 : 0 < n1) (hn2 : 0 < n2)
    (U1 : Up s.heap (arrOf st) 0 n1) (U2 : Up s.heap (arrOf st) n1 (n1 + n2))
    (h : ∀ st', SB s.heap a₀ st' → (pendingOf st').size = 1 → (arrOf st').toList.Pairwise (leK s.heap) → Q true st') : wpS (model prog w) A E s (mergeAt' 0) Q st := by
  refine wpS_bind (wpS_get ?_)
  have e0 : (pendingOf st)[0]? = some (0, n1, p1) := by rw [hp]; rfl
  have e1 : (pendingOf st)[0 + 1]? = some (n1, n2, p2) := by rw [hp]; rfl
  rw [e0, e1]
  dsimp only
  refine wpS_bind (wpS_set ?_)
  have hsz := B.size
  have gt : ∀ i, i < a₀.size → ∃ x, (arrOf st)[i]? = some x ∧ (arrOf st).toList[i]? = some x ∧ IsP s.heap x := fun i hi => by
    obtain ⟨x, hx, px⟩ := B.get Z hi
    exact ⟨x, hx, by simpa using hx, px⟩
  have hlen : (arrOf st).toList.length = n1 + n2 := by rw [Array.length_toList, hsz, hn]
  obtain ⟨b0, hb1, hb2, hb3⟩ := gt n1 (by omega)
  obtain ⟨al, ha1, ha2, ha3⟩ := gt (n1 - 1) (by omega)
  -- the state behind the set
  have B1 : ∀ pd mg, SB s.heap a₀ (SortSt.mk' (kindOf st) (arrOf st) pd mg (failedOf st)) := fun _ _ => ⟨B.perm, B.failed, B.kind⟩
  have pd1 : (((pendingOf st).setIfInBounds 0 (0, n1 + n2, p1)).eraseIdxIfInBounds (0 + 1)).size = 1 := by
    rw [hp, Array.eraseIdxIfInBounds, dif_pos (by simp)]; simp
  refine wpS_bind (wpS_elem hb1 ?_)
  refine wpS_bind (wpS_gallop (st := _) (by exact B.kind) hb3 (fun i => !blt s.heap b0 ((arrOf st).toList.getD i b0)) ?hel ?anti hn1 ?_)
  case hel =>
    intro i hi
    obtain ⟨ax, h1, h2, h3⟩ := gt i (by omega)
    refine ⟨ax, by rw [Nat.zero_add]; exact h1, h3, ?_⟩
    simp only [Bool.false_eq_true, if_false]
    rw [List.getD_eq_getElem?_getD, h2]; rfl
  case anti =>
    intro i j hij hj hf
    obtain ⟨ax, h1, h2, h3⟩ := gt i (by omega)
    obtain ⟨ay, h4, h5, h6⟩ := gt j (by omega)
    rw [List.getD_eq_getElem?_getD, h5] at hf
    rw [List.getD_eq_getElem?_getD, h2]
    have o := up_le U1 (Nat.zero_le _) hij hj h2 h5
    simp only [Option.getD_some, Bool.not_eq_true'] at hf ⊢
    exact leK_trans o hf
  intro k hk1 hk2 hk3
  dsimp only
  have q1 : ∀ i x, i < k → (arrOf st).toList[i]? = some x → leK s.heap x b0 := by
    intro i x hi hx
    have := hk2 i hi
    rw [List.getD_eq_getElem?_getD, hx] at this
    simpa [leK] using this
  have q2 : ∀ i x, k ≤ i → i < n1 → (arrOf st).toList[i]? = some x → leK s.heap b0 x := by
    intro i x hi hin hx
    have := hk3 i hi hin
    rw [List.getD_eq_getElem?_getD, hx] at this
    exact leK_of_blt (by simpa using this)
  -- where the last of the first run is not beyond the first of the second
  have whole : leK s.heap al b0 → (arrOf st).toList.Pairwise (leK s.heap) := by
    intro q
    have h1 := up_mid U1 (k := 0) (n := n1) (Nat.le_refl _) (Nat.le_refl _)
    have h2 := up_mid U2 (k := n1) (n := n1 + n2) (Nat.le_refl _) (Nat.le_refl _)
    rw [List.drop_zero] at h1
    rw [List.take_of_length_le (by omega)] at h2
    rw [← List.take_append_drop n1 (arrOf st).toList]
    refine List.pairwise_append.mpr ⟨h1, h2, fun x hx y hy => ?_⟩
    obtain ⟨i, hi, hxi⟩ := mem_take_idx hx
    obtain ⟨j, hj, hyj⟩ := mem_drop_idx hy
    have hj' : j < n1 + n2 := by
      obtain ⟨hlt, _⟩ := List.getElem?_eq_some_iff.mp hyj
      omega
    exact leK_trans (up_le U1 (Nat.zero_le _) (by omega) (by omega) hxi ha2) (leK_trans q (up_le U2 (Nat.le_refl _) hj hj' hb2 hyj))
  by_cases ek : n1 - k = 0
  · rw [if_pos (by simp [ek])]
    exact wpS_pure (h _ (B1 _ _) pd1 (whole (q1 (n1 - 1) al (by omega) ha2)))
  rw [if_neg (by simp [ek])]
  rw [show 0 + k + (n1 - k) - 1 = n1 - 1 by omega]
  refine wpS_bind (wpS_elem ha1 ?_)
  refine wpS_bind (wpS_gallop (st := _) (by exact B.kind) ha3 (fun i => blt s.heap ((arrOf st).toList.getD (n1 + i) al) al) ?hel2 ?anti2 (by omega) ?_)
  case hel2 =>
    intro i hi
    obtain ⟨by', h1, h2, h3⟩ := gt (n1 + i) (by omega)
    refine ⟨by', h1, h3, ?_⟩
    simp only [if_true]
    rw [List.getD_eq_getElem?_getD, h2]; rfl
  case anti2 =>
    intro i j hij hj hf
    obtain ⟨ax', h1, h2, h3⟩ := gt (n1 + i) (by omega)
    obtain ⟨ay', h4, h5, h6⟩ := gt (n1 + j) (by omega)
    rw [List.getD_eq_getElem?_getD, h5] at hf
    rw [List.getD_eq_getElem?_getD, h2]
    have o := up_le U2 (by omega) (by omega) (by omega) h2 h5
    simp only [Option.getD_some] at hf ⊢
    cases hq : blt s.heap ax' al
    · have := blt_ntr (show blt s.heap ay' ax' = false from o) hq
      rw [this] at hf; cases hf
    · rfl
  intro nb hk4 hk5 hk6
  dsimp only
  have q3 : ∀ i y, i < nb → (arrOf st).toList[n1 + i]? = some y → leK s.heap y al := by
    intro i y hi hy
    have := hk5 i hi
    rw [List.getD_eq_getElem?_getD, hy] at this
    exact leK_of_blt (by simpa using this)
  have q4 : ∀ i y, nb ≤ i → i < n2 → (arrOf st).toList[n1 + i]? = some y → leK s.heap al y := by
    intro i y hi hin hy
    have := hk6 i hi hin
    rw [List.getD_eq_getElem?_getD, hy] at this
    simpa [leK] using this
  by_cases en : nb = 0
  · rw [if_pos (by simp [en])]
    exact wpS_pure (h _ (B1 _ _) pd1 (whole (q4 0 b0 (by omega) hn2 hb2)))
  rw [if_neg (by simp [en])]
  rw [Nat.zero_add]
  have ex : ((arrOf st).extract k n1).toList = ((arrOf st).toList.take n1).drop k := ext_mid _ hk1
  have ey : ((arrOf st).extract n1 (n1 + nb)).toList = ((arrOf st).toList.take (n1 + nb)).drop n1 := ext_mid _ (by omega)
  have pall : ∀ x ∈ (arrOf st).toList, IsP s.heap x := fun x hx => Z.isP _ ((Array.perm_iff_toList_perm.mp B.perm).mem_iff.mp hx)
  have pX : ∀ x ∈ ((arrOf st).extract k n1).toList, IsP s.heap x := fun x hx => by
    rw [ex] at hx; exact pall x (List.mem_of_mem_take (List.mem_of_mem_drop hx))
  have pY : ∀ x ∈ ((arrOf st).extract n1 (n1 + nb)).toList, IsP s.heap x := fun x hx => by
    rw [ey] at hx; exact pall x (List.mem_of_mem_take (List.mem_of_mem_drop hx))
  have sX : ((arrOf st).extract k n1).toList.Pairwise (leK s.heap) := by rw [ex]; exact up_mid U1 (Nat.zero_le _) (Nat.le_refl _)
  have sY : ((arrOf st).extract n1 (n1 + nb)).toList.Pairwise (leK s.heap) := by rw [ey]; exact up_mid U2 (Nat.le_refl _) (by omega)
  have zX : ((arrOf st).extract k n1).size = n1 - k := by rw [Array.size_extract]; omega
  have zY : ((arrOf st).extract n1 (n1 + nb)).size = nb := by rw [Array.size_extract]; omega
  have fX : ∀ x, ((arrOf st).extract n1 (n1 + nb)).toList[0]? = some x → x = b0 := by
    intro x hx
    rw [ey, List.getElem?_drop, List.getElem?_take_of_lt (by omega), Nat.add_zero, hb2] at hx
    exact (Option.some.inj hx).symm
  have lX : ∀ x, ((arrOf st).extract k n1).toList[((arrOf st).extract k n1).size - 1]? = some x → x = al := by
    intro x hx
    rw [zX, ex, List.getElem?_drop, List.getElem?_take_of_lt (by omega), show k + (n1 - k - 1) = n1 - 1 by omega, ha2] at hx
    exact (Option.some.inj hx).symm
  have firstX : ∀ x, ((arrOf st).extract n1 (n1 + nb)).toList[0]? = some x → ∀ y ∈ ((arrOf st).extract k n1).toList, leK s.heap x y := by
    intro x hx y hy
    rw [fX x hx]
    rw [ex] at hy
    obtain ⟨i, h1, h2, h3⟩ := mem_mid hy
    exact q2 i y h1 h2 h3
  have lastX : ∀ x, ((arrOf st).extract k n1).toList[((arrOf st).extract k n1).size - 1]? = some x → ∀ y ∈ ((arrOf st).extract n1 (n1 + nb)).toList, leK s.heap y x := by
    intro x hx y hy
    rw [lX x hx]
    rw [ey] at hy
    obtain ⟨i, h1, h2, h3⟩ := mem_mid hy
    exact q3 (i - n1) y (by omega) (by rw [show n1 + (i - n1) = i by omega]; exact h3)
  have fin : ∀ (r : Array Keyed) (st' : SortSt), Merged (leK s.heap) ((arrOf st).extract k n1).toList ((arrOf st).extract n1 (n1 + nb)).toList r.toList → (pendingOf st').size = 1 → arrOf st' = arrOf st → failedOf st' = failedOf st → kindOf st' = kindOf st →
      wpS (model prog w) A E s (do
        modify fun s : SortSt => SortSt.mk' (kindOf s) (List.foldl (fun a (x : Keyed × Nat) => a.setIfInBounds (k + x.snd) x.fst) (arrOf s) r.toList.zipIdx) (pendingOf s) (gallopOf s) (failedOf s)
        let st ← get
        pure (failedOf st).isNone) Q st' := by
    intro r st' hm hpd hpa hpf hpk
    refine wpS_bind (wpS_modify (wpS_bind (wpS_get (wpS_pure ?_))))
    have hf : (failedOf (SortSt.mk' (kindOf st') (List.foldl (fun a (x : Keyed × Nat) => a.setIfInBounds (k + x.snd) x.fst) (arrOf st') r.toList.zipIdx) (pendingOf st') (gallopOf st') (failedOf st'))).isNone = true := by
      show (failedOf st').isNone = true
      rw [hpf, B.failed]; rfl
    rw [hf]
    have eL : (arrOf st').toList = (arrOf st).toList.take k ++ ((((arrOf st).extract k n1).toList ++ ((arrOf st).extract n1 (n1 + nb)).toList) ++ (arrOf st).toList.drop (n1 + nb)) := by
      rw [hpa, ex, ey]
      conv => lhs; rw [← List.take_append_drop (n1 + nb) (arrOf st).toList, ← List.take_append_drop n1 ((arrOf st).toList.take (n1 + nb)), List.take_take, Nat.min_eq_left (by omega), ← List.take_append_drop k ((arrOf st).toList.take n1), List.take_take, Nat.min_eq_left hk1]
      simp only [List.append_assoc]
    have eR := fold_set k ((arrOf st).toList.drop (n1 + nb)) r.toList (((arrOf st).extract k n1).toList ++ ((arrOf st).extract n1 (n1 + nb)).toList) ((arrOf st).toList.take k) 0 (arrOf st') eL hm.1.length_eq.symm (by rw [List.length_take]; omega)
    refine h _ ⟨?_, hpf.trans B.failed, hpk.trans B.kind⟩ hpd ?_
    · refine Array.Perm.trans (Array.perm_iff_toList_perm.mpr ?_) B.perm
      show (List.foldl _ (arrOf st') r.toList.zipIdx).toList.Perm _
      rw [eR]
      have eL' := eL
      rw [hpa] at eL'
      exact (List.Perm.append_left _ (List.Perm.append_right _ hm.1)).trans (List.Perm.of_eq eL'.symm)
    · show (List.foldl _ (arrOf st') r.toList.zipIdx).toList.Pairwise _
      rw [eR]
      have sP := up_mid U1 (k := 0) (n := k) (Nat.le_refl _) hk1
      rw [List.drop_zero] at sP
      have sS := up_mid U2 (k := n1 + nb) (n := n1 + n2) (by omega) (Nat.le_refl _)
      rw [List.take_of_length_le (by omega)] at sS
      have idx : ∀ y ∈ (arrOf st).toList.drop (n1 + nb), ∃ j, nb ≤ j ∧ j < n2 ∧ (arrOf st).toList[n1 + j]? = some y := by
        intro y hy
        obtain ⟨j, hj, hyj⟩ := mem_drop_idx hy
        obtain ⟨hlt, _⟩ := List.getElem?_eq_some_iff.mp hyj
        exact ⟨j - n1, by omega, by omega, by rw [show n1 + (j - n1) = j by omega]; exact hyj⟩
      refine List.pairwise_append.mpr ⟨sP, List.pairwise_append.mpr ⟨hm.2, sS, fun x hx y hy => ?_⟩, fun x hx y hy => ?_⟩
      · obtain ⟨j, h1, h2, h3⟩ := idx y hy
        rcases List.mem_append.mp (hm.1.mem_iff.mp hx) with hx | hx
        · rw [ex] at hx
          obtain ⟨i, h4, h5, h6⟩ := mem_mid hx
          exact leK_trans (up_le U1 (Nat.zero_le _) (by omega) (by omega) h6 ha2) (q4 j y h1 h2 h3)
        · rw [ey] at hx
          obtain ⟨i, h4, h5, h6⟩ := mem_mid hx
          exact up_le U2 h4 (by omega) (by omega) h6 h3
      · obtain ⟨i, hi, hxi⟩ := mem_take_idx hx
        have hxb := q1 i x hi hxi
        rcases List.mem_append.mp hy with hy | hy
        · rcases List.mem_append.mp (hm.1.mem_iff.mp hy) with hy | hy
          · rw [ex] at hy
            obtain ⟨j, h4, h5, h6⟩ := mem_mid hy
            exact up_le U1 (Nat.zero_le _) (by omega) h5 hxi h6
          · rw [ey] at hy
            obtain ⟨j, h4, h5, h6⟩ := mem_mid hy
            exact leK_trans hxb (up_le U2 (Nat.le_refl _) h4 (by omega) hb2 h6)
        · obtain ⟨j, h1, h2, h3⟩ := idx y hy
          exact leK_trans hxb (up_le U2 (Nat.le_refl _) (by omega) (by omega) hb2 h3)
  by_cases hle : n1 - k ≤ nb
  · rw [if_pos hle]
    refine wpS_bind (wpS_mergeLo (by exact B.kind) pX pY sX sY (by rw [zX]; omega) (by rw [zY]; omega) (fun x y hx hy => firstX x hx y (List.mem_of_getElem? hy)) lastX fun r st' hm hs => ?_)
    exact fin r st' hm (by rw [hs.2.2.1]; exact pd1) hs.2.1 hs.2.2.2 hs.1
  · rw [if_neg hle]
    refine wpS_bind (wpS_mergeHi (by exact B.kind) pX pY sX sY (by rw [zX]; omega) (by rw [zY]; omega) firstX lastX fun r st' hm hs => ?_)
    exact fin r st' hm (by rw [hs.2.2.1]; exact pd1) hs.2.1 hs.2.2.2 hs.1
end
end Mine
end

-- part S6
section
open PySem PySem.W PyProof.Rows
set_option Elab.async false
set_option maxRecDepth 100000
namespace Mine

theorem minRun_facts {n : Nat} (h2 : 2 ≤ n) (h : n < 128) : minRun' n n 0 ≤ n ∧ n ≤ 2 * minRun' n n 0 ∧ 1 ≤ minRun' n n 0 := by
  obtain ⟨f, hf⟩ : ∃ f, n = f + 2 := ⟨n - 2, by omega⟩
  by_cases h64 : n < 64
  · have : minRun' (f + 2) n 0 = n := by rw [minRun'_succ, if_pos h64]; rfl
    rw [← hf] at this
    omega
  · have : minRun' (f + 2) n 0 = n / 2 + max 0 (n % 2) := by
      rw [minRun'_succ, if_neg h64, minRun'_succ, if_pos (by omega)]
    rw [← hf] at this
    omega

section
variable {prog : Program} {w : World} {A : Around} {E : Value → Shared → Prop} {s : Shared} {a₀ : Array Keyed}
/-- the states of the runs' loop -/
def Run1 (h : Heap) (a₀ : Array Keyed) (n1 : Nat) (st : SortSt) : Prop := SB h a₀ st ∧ pendingOf st = #[(0, n1, 0)] ∧ Up h (arrOf st) 0 n1
def Run2 (h : Heap) (a₀ : Array Keyed) (st : SortSt) : Prop := SB h a₀ st ∧ ∃ n1 pw, 0 < n1 ∧ n1 < a₀.size ∧ pendingOf st = #[(0, n1, pw), (n1, a₀.size - n1, 0)] ∧ Up h (arrOf st) 0 n1 ∧ Up h (arrOf st) n1 a₀.size

theorem wpS_runs2 {st : SortSt} {Q : Unit → SortSt → Prop} (Z : A0 s.heap a₀) (B : SB s.heap a₀ st) (hp : pendingOf st = #[]) (h2 : 2 ≤ a₀.size) (h128 : a₀.size < 128)
    (h : ∀ st', SB s.heap a₀ st' → (arrOf st').toList.Pairwise (leK s.heap) → Q () st') : wpS (model prog w) A E s sortRuns' Q st := by
  obtain ⟨r1, r2, r3⟩ := minRun_facts h2 h128
  rw [sortRuns'_eq]
  refine wpS_bind (wpS_get ?_)
  dsimp only
  simp only [B.size]
  generalize minRun' a₀.size a₀.size 0 = mr at *
  refine wpS_bind (wpS_mono (wpS_forRange
    (I := fun x c st' => (x = 0 ∧ c = (none, 0) ∧ SB s.heap a₀ st' ∧ pendingOf st' = #[]) ∨ (x = 1 ∧ ∃ n1, c = (none, n1) ∧ mr ≤ n1 ∧ n1 ≤ a₀.size ∧ Run1 s.heap a₀ n1 st') ∨ (2 ≤ x ∧ c = (none, a₀.size) ∧ Run2 s.heap a₀ st'))
    (Q := fun c st' => c = (none, a₀.size) ∧ (Run1 s.heap a₀ a₀.size st' ∨ Run2 s.heap a₀ st')) ?step ?fin (.inl ⟨rfl, rfl, B, hp⟩)) ?post)
  case fin =>
    rintro c st' (⟨hx, _⟩ | ⟨hx, _⟩ | ⟨_, hc, hD⟩)
    · omega
    · omega
    · exact ⟨hc, .inr hD⟩
  case step =>
    rintro x c st' _ hx (⟨rfl, rfl, B', hp'⟩ | ⟨rfl, n1, rfl, hm1, hm2, R1⟩ | ⟨hx1, rfl, hD⟩)
    · dsimp only
      rw [if_neg (by omega)]
      refine wpS_bind (wpS_count Z (by omega) (by omega) B' fun m st2 B2 S2 hm1 hm2 U2 => ?_)
      dsimp only
      have pd2 : pendingOf st2 = #[] := S2.1.trans hp'
      by_cases hlt : m < mr
      · rw [if_pos hlt]
        refine wpS_bind (wpS_lift (wpAny_rule ⟨rfl, ?_⟩))
        refine wpS_bind (wpS_bin Z (by omega) (by omega) B2 U2 fun st3 B3 S3 U3 => ?_)
        simp only [Bool.not_true, Bool.false_eq_true, if_false]
        refine wpS_bind (wpS_get ?_)
        have hb : (pendingOf st3).back? = none := by rw [S3.1, pd2]; rfl
        rw [hb]
        dsimp only
        have em : min (a₀.size - 0) mr = mr := by omega
        rw [em, Nat.zero_add] at U3
        rw [em]
        refine wpS_bind (wpS_modify (wpS_pure (.inr (.inl ⟨by first | trivial | rfl, mr, by first | rfl | rw [Nat.zero_add], Nat.le_refl _, r1, ⟨B3.perm, B3.failed, B3.kind⟩, ?_, U3⟩))))
        show (pendingOf st3).push (0, mr, 0) = _
        rw [S3.1, pd2]; rfl
      · rw [if_neg hlt]
        refine wpS_bind (wpS_get ?_)
        have hb : (pendingOf st2).back? = none := by rw [pd2]; rfl
        rw [hb]
        dsimp only
        rw [Nat.zero_add] at U2
        refine wpS_bind (wpS_modify (wpS_pure (.inr (.inl ⟨rfl, m, by rw [Nat.zero_add], by omega, by omega, ⟨B2.perm, B2.failed, B2.kind⟩, ?_, U2⟩))))
        show (pendingOf st2).push (0, m, 0) = _
        rw [pd2]; rfl
    · obtain ⟨B1, pd1, U1⟩ := R1
      dsimp only
      by_cases hend : n1 ≥ a₀.size
      · have e : n1 = a₀.size := by omega
        subst e
        rw [if_pos (Nat.le_refl _)]
        exact wpS_pure ⟨rfl, .inl ⟨B1, pd1, U1⟩⟩
      rw [if_neg hend]
      refine wpS_bind (wpS_count Z (by omega) (by omega) B1 fun m st2 B2 S2 hm3 hm4 U2 => ?_)
      dsimp only
      have key : ∀ (st3 : SortSt) (n2 : Nat), n2 = a₀.size - n1 → SB s.heap a₀ st3 → Same n1 st' st3 → Up s.heap (arrOf st3) n1 (n1 + n2) → pendingOf st3 = #[(0, n1, 0)] ∧ Up s.heap (arrOf st3) 0 n1 ∧ Up s.heap (arrOf st3) n1 a₀.size := by
        intro st3 n2 e B3 S3 U3
        refine ⟨S3.1.trans pd1, fun i j h1 h2 h3 => ?_, ?_⟩
        · rw [kk_congr (S3.2 i (by omega)), kk_congr (S3.2 j h3)]
          exact U1 i j h1 h2 h3
        · rw [show a₀.size = n1 + n2 by omega]; exact U3
      have last : ∀ (st3 : SortSt) (n2 : Nat), n2 = a₀.size - n1 → SB s.heap a₀ st3 → pendingOf st3 = #[(0, n1, 0)] ∧ Up s.heap (arrOf st3) 0 n1 ∧ Up s.heap (arrOf st3) n1 a₀.size → ∀ (pw : Nat),
          Run2 s.heap a₀ (setPending (setPending st3 ((pendingOf st3).modify ((pendingOf st3).size - 1) fun x => (x.1, x.2.1, pw))) (((pendingOf st3).modify ((pendingOf st3).size - 1) fun x => (x.1, x.2.1, pw)).push (n1, n2, 0))) := by
        rintro st3 n2 e B3 ⟨p3, U3, U4⟩ pw
        refine ⟨⟨B3.perm, B3.failed, B3.kind⟩, n1, pw, by omega, by omega, ?_, U3, U4⟩
        show (((pendingOf st3).modify ((pendingOf st3).size - 1) fun x => (x.1, x.2.1, pw)).push (n1, n2, 0)) = _
        rw [p3, ← e]
        rfl
      by_cases hlt : m < mr
      case' pos =>
        rw [if_pos hlt]
        refine wpS_bind (wpS_lift (wpAny_rule ⟨rfl, ?_⟩))
        refine wpS_bind (wpS_bin Z (by omega) (by omega) B2 U2 fun st3 B3 S3 U3 => ?_)
        simp only [Bool.not_true, Bool.false_eq_true, if_false]
        have em : min (a₀.size - n1) mr = a₀.size - n1 := by omega
        rw [em] at U3 ⊢
        have k3 := key st3 _ rfl B3 (S2.trans S3) U3
      case' neg =>
        rw [if_neg hlt]
        have em : m = a₀.size - n1 := by omega
        subst em
        have k3 := key st2 _ rfl B2 S2 U2
        have B3 := B2
        generalize st2 = st3 at *
      all_goals (
        refine wpS_bind (wpS_get ?_)
        have hb : (pendingOf st3).back? = some (0, n1, 0) := by rw [k3.1]; rfl
        rw [hb]
        dsimp only
        refine wpS_bind (wpS_mono (wpS_forRange (I := fun _ c st'' => st'' = st3 ∧ c = (none, ())) (Q := fun c st'' => st'' = st3 ∧ c = (none, ())) ?istep (fun _ _ hh => hh) ⟨rfl, rfl⟩) ?ipost)
        case istep =>
          rintro y c st'' _ _ ⟨rfl, rfl⟩
          refine wpS_bind (wpS_get ?_)
          rw [if_neg (by rw [k3.1]; exact Nat.lt_irrefl 1)]
          exact wpS_pure ⟨rfl, rfl⟩
        case ipost =>
          rintro c st'' ⟨rfl, rfl⟩
          dsimp only
          refine wpS_bind (wpS_modify (wpS_bind (wpS_modify (wpS_pure (.inr (.inr ⟨by omega, ?_, last _ _ rfl B3 k3 _⟩))))))
          exact congrArg (fun x => (none, x)) (by omega))
    · dsimp only
      rw [if_pos (Nat.le_refl _)]
      exact wpS_pure ⟨rfl, .inr hD⟩
  case post =>
    rintro c st' ⟨rfl, hD⟩
    dsimp only
    refine wpS_bind (wpS_mono (wpS_forRange
      (I := fun x c st'' => c = (none, ()) ∧ ((SB s.heap a₀ st'' ∧ (pendingOf st'').size = 1 ∧ (arrOf st'').toList.Pairwise (leK s.heap)) ∨ (x = 0 ∧ Run2 s.heap a₀ st'')))
      (Q := fun c st'' => c = (none, ()) ∧ SB s.heap a₀ st'' ∧ (arrOf st'').toList.Pairwise (leK s.heap)) ?step3 ?fin3 ?init3) ?post3)
    case init3 =>
      refine ⟨rfl, ?_⟩
      rcases hD with ⟨B1, pd1, U1⟩ | hD
      · refine .inl ⟨B1, by rw [pd1]; rfl, up_all ?_⟩
        rw [B1.size]; exact U1
      · exact .inr ⟨rfl, hD⟩
    case fin3 =>
      rintro c st'' ⟨rfl, ⟨B1, _, P1⟩ | ⟨hx, _⟩⟩
      · exact ⟨rfl, B1, P1⟩
      · omega
    case post3 =>
      rintro c st'' ⟨rfl, B1, P1⟩
      exact wpS_pure (h st'' B1 P1)
    case step3 =>
      rintro x c st'' _ hx ⟨rfl, ⟨B1, pd1, P1⟩ | ⟨rfl, B1, n1, pw, g1, g2, pd1, U1, U2⟩⟩
      · refine wpS_bind (wpS_get ?_)
        rw [if_pos (by rw [pd1]; exact Nat.le_refl 1)]
        exact wpS_pure ⟨rfl, B1, P1⟩
      · refine wpS_bind (wpS_get ?_)
        rw [if_neg (by rw [pd1]; show ¬ (2 ≤ 1); omega)]
        have ei : (pendingOf st'').size - 2 = 0 := by rw [pd1]; rfl
        rw [ei]
        simp only [Nat.lt_irrefl, gt_iff_lt, if_false, Option.any_none, Bool.false_eq_true]
        refine wpS_bind (wpS_merge2 Z B1 pd1 (by omega) g1 (by omega) U1 (by rw [show n1 + (a₀.size - n1) = a₀.size by omega]; exact U2) fun st3 B3 z3 P3 => ?_)
        simp only [Bool.not_true, Bool.false_eq_true, if_false]
        exact wpS_pure ⟨rfl, .inl ⟨B3, z3, P3⟩⟩
end
end Mine
end

-- part S7
section
open PySem PySem.W PyProof.Rows
set_option Elab.async false
set_option maxRecDepth 100000
namespace Mine

def SortedE (es : List Elt) : Prop := es.Pairwise fun a b => ltE b a = false

theorem katTups_of {h : Heap} : ∀ {es : List Elt}, PairsIn h es → ∃ fs : List Value, KatTups h (es.map (·.1)) fs ∧ fs.length = es.length ∧ ∀ v ∈ fs, ∃ i t, v = Value.int i t
  | [], _ => ⟨[], KatTups.nil, rfl, fun _ h => nomatch h⟩
  | e :: es, hp => by
    obtain ⟨fs, h1, h2, h3⟩ := katTups_of (es := es) fun x hx => hp x (.tail _ hx)
    obtain ⟨a, t, u, n, ea, ho⟩ := hp e (.head _)
    refine ⟨.int e.2.1 t :: fs, ?_, by simp [h2], ?_⟩
    · show KatTups h (e.1 :: es.map (·.1)) _
      rw [ea]
      exact KatTups.cons ho rfl rfl rfl h1
    · intro v hv
      rcases List.mem_cons.mp hv with rfl | hv
      · exact ⟨_, _, rfl⟩
      · exact h3 v hv

theorem pairsIn_keep {h h' : Heap} {es : List Elt} (x : PairsIn h es) (k : ∀ b o, h.get? b = some o → h'.get? b = some o) : PairsIn h' es := fun e he => (x e he).keeps k

theorem a0_of {h : Heap} {es : List Elt} (hp : PairsIn h es) (hnd : (es.map (·.2)).Nodup) : A0 h (pairsOf (es.map (·.1))) := by
  have mem : ∀ x ∈ (pairsOf (es.map (·.1))).toList, ∃ e ∈ es, x = (e.1, e.1) := by
    intro x hx
    rw [pairsOf_toList] at hx
    obtain ⟨e1, e2⟩ := mem_zip_self hx
    obtain ⟨e, he, e3⟩ := List.mem_map.mp e2
    exact ⟨e, he, Prod.ext e3.symm (e1 ▸ e3.symm)⟩
  refine ⟨fun x hx => ?_, ?_⟩
  · obtain ⟨e, he, rfl⟩ := mem x hx
    exact ⟨_, hp e he⟩
  · rw [pairsOf_toList]
    have e1 : ((es.map (·.1)).zip (es.map (·.1))).map (fun x => keyAt h x.1) = es.map (·.2) := by
      rw [List.zip_map', List.map_map]
      exact List.map_congr_left fun e he => (hp e he).key
    rw [e1]; exact hnd

theorem out_of {h : Heap} {es : List Elt} (hp : PairsIn h es) {xs : Array Keyed} (p : xs.Perm (pairsOf (es.map (·.1)))) (q : xs.toList.Pairwise (leK h)) :
    ∃ es', es'.Perm es ∧ SortedE es' ∧ xs.map (·.2) = vals es' := by
  refine ⟨xs.toList.map fun x => (x.2, keyAt h x.1), ?_, ?_, ?_⟩
  · have := (Array.perm_iff_toList_perm.mp p).map fun x => ((x.2, keyAt h x.1) : Elt)
    rw [pairsOf_toList] at this
    have e1 : ((es.map (·.1)).zip (es.map (·.1))).map (fun x => ((x.2, keyAt h x.1) : Elt)) = es := by
      rw [List.zip_map', List.map_map]
      conv => rhs; rw [← List.map_id es]
      exact List.map_congr_left fun e he => Prod.ext rfl (hp e he).key
    rw [e1] at this
    exact this
  · unfold SortedE
    rw [List.pairwise_map]
    exact q
  · apply Array.toList_inj.mp
    simp

section
variable {prog : Program} {w : World} {A : Around} {E : Value → Shared → Prop} {s : Shared}

theorem sort_tree {a : Addr} {es : List Elt} {n : Nat} {P : PySem.Fin → Shared → Prop} (ho : s.heap.get? a = some (seqObj "list" (vals es) n)) (hp : PairsIn s.heap es) (hnd : (es.map (·.2)).Nodup) (hz : es.length < 128)
    (h : ∀ es' : List Elt, es'.Perm es → SortedE es' → P (.done (.ret .none)) { s with heap := sortedHeap s.heap a (es.map (·.1)) (vals es') }) :
    wpAny (model prog w) A (Builtin.«list.sort» ⟨[.ref a], []⟩) P E s := by
  rw [list_sort_plain]
  have ha : a < s.heap.objs.size := Heap.lt_size ho
  refine wpAny_bind (listItems_at ho rfl ?_)
  refine wpAny_bind (listUpdate_at ho rfl ?_ (by rw [sizeLine_eq]; simp; omega) (Nat.zero_le _))
  obtain ⟨e1, ho1⟩ : ∃ e1, (s.heap.update a (Obj.mapSeq fun _ => #[])).get? a = some (seqObj "list" #[] e1) := ⟨_, get?_update_seq ho (fun _ => #[])⟩
  refine wpAny_bind (seqEpoch_at ho1 rfl ?_)
  refine wpAny_bind (wpAny_newTuple ?_ (by rw [sizeLine_eq]; simp; omega))
  refine wpAny_bind (wpAny_newList ?_ (Nat.zero_le _))
  refine wpAny_holding ?_
  have ho6 : (((s.heap.update a (Obj.mapSeq fun _ => #[])).push (seqObj "tuple" (vals es) 0)).push (seqObj "list" #[] 0)).get? a = some (seqObj "list" #[] e1) := by
    rw [Heap.get?_push_ne _ _ _ (by rw [size_push', Heap.size_update]; exact Nat.ne_of_lt (Nat.lt_succ_of_lt ha)), Heap.get?_push_ne _ _ _ (by rw [Heap.size_update]; exact Nat.ne_of_lt ha)]
    exact ho1
  show wpAny (model prog w) A _ P E { s with heap := ((s.heap.update a (Obj.mapSeq fun _ => #[])).push (seqObj "tuple" (vals es) 0)).push (seqObj "list" #[] 0) }
  dsimp only
  have hp6 : PairsIn (((s.heap.update a (Obj.mapSeq fun _ => #[])).push (seqObj "tuple" (vals es) 0)).push (seqObj "list" #[] 0)) es := by
    intro e he
    refine (hp e he).but (l := a) ho fun b o hb q => ?_
    exact Heap.get?_push_of_some _ (Heap.get?_push_of_some _ ((Heap.get?_update_ne _ _ _ _ hb).trans q))
  generalize hh6 : ((s.heap.update a (Obj.mapSeq fun _ => #[])).push (seqObj "tuple" (vals es) 0)).push (seqObj "list" #[] 0) = h6 at *
  have fin : ∀ st' : SortSt, (arrOf st').Perm (pairsOf (es.map (·.1))) → (arrOf st').toList.Pairwise (leK h6) →
      P (.done (.ret .none)) { s with heap := h6.update a (Obj.mapSeq fun _ => (arrOf st').map (·.2)) } := by
    intro st' p q
    obtain ⟨es', a1, a2, a3⟩ := out_of hp6 p q
    rw [a3]
    have := h es' a1 a2
    unfold sortedHeap at this
    rw [← hh6]
    exact this
  have esz : (vals es).size = es.length := by simp
  by_cases h2 : (vals es).size < 2
  · rw [if_pos h2, if_pos h2]
    refine wpAny_bind (wpAny_pure ?_)
    rw [StateT.run_pure]
    refine wpAny_bind (wpAny_pure ?_)
    dsimp only
    refine wpAny_bind (seqEpoch_at ho6 rfl ?_)
    refine wpAny_bind (listUpdate_at ho6 rfl ?_ (hsz2 := by rw [Array.size_map]; show (pairsOf (es.map (·.1))).size ≤ _; rw [pairsOf_size, sizeLine_eq]; simp; omega))
    simp only [bne_self_eq_false, Bool.false_eq_true, if_false]
    refine wpAny_pure (fin (SortSt.mk' general' ((vals es).zip (vals es)) #[] 7 none) (Array.Perm.refl _) ?_)
    have hl : ((vals es).zip (vals es)).toList.length ≤ 1 := by simp; omega
    show ((vals es).zip (vals es)).toList.Pairwise _
    match hq : ((vals es).zip (vals es)).toList, hl with
    | [], _ => exact List.Pairwise.nil
    | [x], _ => exact List.pairwise_singleton _ _
    | _ :: _ :: _, hl => simp at hl
  · rw [if_neg h2, if_neg h2]
    obtain ⟨fs, k1, k2, k3⟩ := katTups_of hp6
    refine wpAny_bind (kat_kind (s := { s with heap := h6 }) (T := .type "int") k1 (by omega) (fun v hv => ?_) rfl ?_)
    · obtain ⟨i, t, rfl⟩ := k3 v hv
      exact Looks.of_pure rfl
    rw [show (Value.type "int" != Value.type "tuple") = true by decide]
    refine wpAny_bind (wpAny_mono (wpS_runs2 (s := { s with heap := h6 }) (a₀ := pairsOf (es.map (·.1))) (st := SortSt.mk' (tuples' true) ((vals es).zip (vals es)) #[] 7 none)
      (Q := fun _ st' => (arrOf st').Perm (pairsOf (es.map (·.1))) ∧ failedOf st' = none ∧ (arrOf st').toList.Pairwise (leK h6))
      (a0_of hp6 hnd) ⟨Array.Perm.refl _, rfl, rfl⟩ rfl (by rw [pairsOf_size]; simp; omega) (by rw [pairsOf_size]; simp; omega) fun st' B q => ⟨B.perm, B.failed, q⟩) ?_ fun _ _ e => e)
    rintro ⟨⟨⟩, st'⟩ s' ⟨rfl, hp', hf, hs⟩
    dsimp only
    refine wpAny_bind (seqEpoch_at ho6 rfl ?_)
    refine wpAny_bind (listUpdate_at ho6 rfl ?_ (hsz2 := by refine Nat.le_trans (Nat.le_of_eq ((Array.size_map ..).trans (hp'.size_eq.trans (pairsOf_size _)))) ?_; rw [sizeLine_eq]; simp; omega))
    rw [hf]
    simp only [bne_self_eq_false, Bool.false_eq_true, if_false]
    exact wpAny_pure (fin st' hp' hs)

theorem sorted_keeps (h : Heap) (vs : List Value) (out : Array Value) : h.StaysIn (sortedAll h vs out) := fun _ _ q => sortedAll_old q
theorem sorted_ls (h : Heap) (vs : List Value) (es' : List Elt) : LsAt (sortedAll h vs (vals es')) (h.objs.size + 1) es' := sortedAll_at _ _ _
theorem sorted_pairs0 {l : Addr} {es : List Elt} {Q : Value → Shared → Prop} (hl : s.heap.IsList l (vals es)) (hp : PairsIn s.heap es) (hnd : (es.map (·.2)).Nodup) (hz : es.length < 128)
    (h : ∀ (es' : List Elt), es'.Perm es → SortedE es' → Q (.ref (s.heap.objs.size + 1)) { s with heap := sortedAll s.heap (es.map (·.1)) (vals es') }) :
    wpAny (model prog w) A (call (.builtin "sorted") [.ref l]) Q E s := by
  refine Calls.call_function_entry kind_sorted plain_sorted entry_sorted (args_sorted1 _) ?_
  unfold Builtin.«sorted»
  refine wpAny_bind (m := checkCount "sorted" 1 1 _) (wpAny_pure ?_)
  refine wpAny_bind (collect_list hl ?_ (by rw [sizeLine_eq]; simp; omega))
  refine wpAny_bind (wpAny_newList ?_ (by rw [sizeLine_eq]; simp; omega))
  have hsz : ((s.heap.push (seqObj "list" #[] 0)).update s.heap.objs.size (Obj.mapSeq (· ++ vals es))).objs.size = s.heap.objs.size + 1 := by
    rw [Heap.size_update, size_push']
  have hoL : (((s.heap.push (seqObj "list" #[] 0)).update s.heap.objs.size (Obj.mapSeq (· ++ vals es))).push (seqObj "list" (vals es) 0)).get? (s.heap.objs.size + 1) = some (seqObj "list" (vals es) 0) := by
    rw [← hsz]; exact Heap.get?_push_size _ rfl
  have keep : ∀ b o, s.heap.get? b = some o → (((s.heap.push (seqObj "list" #[] 0)).update s.heap.objs.size (Obj.mapSeq (· ++ vals es))).push (seqObj "list" (vals es) 0)).get? b = some o := fun b o q => by
    have hlt : b < s.heap.objs.size := Heap.lt_size q
    exact Heap.get?_push_of_some _ ((Heap.get?_update_ne _ _ _ _ (Nat.ne_of_lt hlt)).trans (Heap.get?_push_of_some _ q))
  show wpAny _ _ _ _ _ { s with heap := ((s.heap.push (seqObj "list" #[] 0)).update s.heap.objs.size (Obj.mapSeq (· ++ vals es))).push (seqObj "list" (vals es) 0) }
  rw [hsz]
  refine wpAny_bind (wpAny_holding (wpAny_call_entry slot_list_sort ⟨_, hoL, rfl⟩ entry_list_sort (sort_tree (es := es) (n := 0) hoL (pairsIn_keep hp keep) hnd hz fun es' a1 a2 => ⟨_, rfl, ?_⟩) (args_list_sort _)))
  exact wpAny_pure ⟨_, rfl, h es' a1 a2⟩
theorem sorted_pairs {l : Addr} {es : List Elt} {Q : Value → Shared → Prop} (hl : s.heap.IsList l (vals es)) (hp : PairsIn s.heap es) (hnd : (es.map (·.2)).Nodup) (hz : es.length < 128)
    (h : ∀ (es' : List Elt) (D : Addr) (h' : Heap), es'.Perm es → SortedE es' → s.heap.objs.size ≤ D → s.heap.StaysIn h' → LsAt h' D es' → Q (.ref D) { s with heap := h' }) :
    wpAny (model prog w) A (call (.builtin "sorted") [.ref l]) Q E s :=
  sorted_pairs0 hl hp hnd hz fun es' a1 a2 => h es' _ _ a1 a2 (Nat.le_succ _) (sorted_keeps _ _ _) (sorted_ls _ _ _)
end
end Mine
end

-- part R1
section
open PySem PySem.W PyProof.Rows
set_option Elab.async false
set_option maxRecDepth 100000
namespace Mine

def pd (p : Int × Int) : PyData := .tuple [.int p.1, .int p.2]
theorem PairAt.reads {h : Heap} {v : Value} {p : Int × Int} (x : PairAt h v p) : ∃ as, Reads h v (pd p) as := by
  obtain ⟨a, t, u, n, rfl, ho⟩ := x
  exact ⟨_, Reads.tuple ho rfl rfl (ReadsAll.cons (Reads.int _ _) (ReadsAll.cons (Reads.int _ _) ReadsAll.nil))⟩
theorem PairsIn.reads {h : Heap} : ∀ {es : List Elt}, PairsIn h es → ∃ as, ReadsAll h (es.map (·.1)) (es.map fun e => pd e.2) as
  | [], _ => ⟨_, ReadsAll.nil⟩
  | e :: es, hp => by
    obtain ⟨as, h1⟩ := (hp e (.head _)).reads
    obtain ⟨bs, h2⟩ := PairsIn.reads (es := es) fun x hx => hp x (.tail _ hx)
    exact ⟨_, ReadsAll.cons h1 h2⟩
theorem LsAt.reads {h : Heap} {l : Addr} {es : List Elt} (x : LsAt h l es) (hp : PairsIn h es) : ∃ as, Reads h (.ref l) (.list (es.map fun e => pd e.2)) as := by
  obtain ⟨n, ho⟩ := x
  obtain ⟨as, h1⟩ := hp.reads
  exact ⟨_, Reads.list ho rfl rfl (by simpa using h1)⟩
theorem eqv_pd (p q : Int × Int) : PyData.eqv (pd p) (pd q) = decide (p = q) := by
  obtain ⟨a, b⟩ := p
  obtain ⟨c, d⟩ := q
  simp only [pd, PyData.eqv, PyData.eqvAll, Bool.and_true]
  by_cases h1 : a = c <;> by_cases h2 : b = d <;> simp [h1, h2]
theorem lay_pd (p : Int × Int) : (pd p).canLay0 = true ∧ (pd p).depth = 1 := by
  simp [pd, PyData.canLay0, PyData.canLayAll0, PyData.depth, PyData.depthAll]
theorem lay_pds : ∀ es : List Elt, PyData.canLayAll0 (es.map fun e => pd e.2) = true ∧ PyData.depthAll (es.map fun e => pd e.2) ≤ 1
  | [] => by simp [PyData.canLayAll0, PyData.depthAll]
  | e :: es => by
    have h1 := lay_pds es
    have h2 := lay_pd e.2
    have h3 := h1.2
    simp only [List.map_cons, PyData.canLayAll0, PyData.depthAll, h1.1, h2.1, h2.2, Bool.and_true, true_and]
    omega
theorem shaped_pd (p : Int × Int) : SeqAt.shaped (pd p) = true := by
  unfold SeqAt.shaped; rw [(lay_pd p).1, (lay_pd p).2]; rfl
theorem shaped_pds (es : List Elt) : SeqAt.shaped (.list (es.map fun e => pd e.2)) = true := by
  unfold SeqAt.shaped
  have h := lay_pds es
  have h2 := h.2
  simp only [PyData.canLay0, PyData.depth, h.1, Bool.true_and]
  exact decide_eq_true (by omega)
theorem eqv_pds : ∀ es fs : List Elt, PyData.eqvAll (es.map fun e => pd e.2) (fs.map fun e => pd e.2) = decide (es.map (·.2) = fs.map (·.2))
  | [], [] => by simp [PyData.eqvAll]
  | [], _ :: _ => by simp [PyData.eqvAll]
  | _ :: _, [] => by simp [PyData.eqvAll]
  | e :: es, f :: fs => by
    simp only [List.map_cons, PyData.eqvAll, eqv_pd, eqv_pds es fs, List.cons.injEq]
    by_cases h1 : e.2 = f.2 <;> simp [h1]

/-- is it among them, by its data -/
def InD (e3 : List Elt) (p : Int × Int) : Bool := e3.any fun y => decide (y.2 = p)

section
variable {prog : Program} {w : World} {A : Around} {E : Value → Shared → Prop} {s : Shared} {l l' : Addr} {es fs : List Elt} {x y : Value} {p q : Int × Int} {Q : Value → Shared → Prop}
theorem in_pairs (hu : A.units < 9800) (hl : LsAt s.heap l es) (hp : PairsIn s.heap es) (hx : PairAt s.heap x p) (h : Q (.bool (InD es p)) s) : wpAny (model prog w) A (compareOp .In x (.ref l)) Q E s := by
  obtain ⟨as, r1⟩ := hl.reads hp
  obtain ⟨bs, r2⟩ := hx.reads
  have z := lay_pds es
  have z2 := lay_pd p
  refine SeqAt.in_list_reads r1 r2 z.1 z2.1 (by rw [z2.2]; unfold cLine; omega) ?_
  rw [List.any_map]
  have e : ((fun y => PyData.eqv y (pd p)) ∘ fun e : Elt => pd e.2) = fun y : Elt => decide (y.2 = p) := by
    funext y; exact eqv_pd _ _
  rw [e]; exact h
theorem notIn_pairs (hu : A.units < 9800) (hl : LsAt s.heap l es) (hp : PairsIn s.heap es) (hx : PairAt s.heap x p) (h : Q (.bool (!InD es p)) s) : wpAny (model prog w) A (compareOp .NotIn x (.ref l)) Q E s := by
  obtain ⟨as, r1⟩ := hl.reads hp
  obtain ⟨bs, r2⟩ := hx.reads
  have z := lay_pds es
  have z2 := lay_pd p
  refine SeqAt.notIn_list_reads r1 r2 z.1 z2.1 (by rw [z2.2]; unfold cLine; omega) ?_
  rw [List.any_map]
  have e : ((fun y => PyData.eqv y (pd p)) ∘ fun e : Elt => pd e.2) = fun y : Elt => decide (y.2 = p) := by
    funext y; exact eqv_pd _ _
  rw [e]; exact h
theorem ne_pair (hu : A.units < 9800) (hx : PairAt s.heap x p) (hy : PairAt s.heap y q) (h : Q (.bool (!decide (p = q))) s) : wpAny (model prog w) A (compareOp .NotEq x y) Q E s := by
  obtain ⟨as, r1⟩ := hx.reads
  obtain ⟨bs, r2⟩ := hy.reads
  exact ne_dataH r1 r2 (shaped_pd p) (shaped_pd q) (by unfold cLine; omega) (by rw [eqv_pd]; exact h)
theorem ne_lists (hu : A.units < 9800) (hl : LsAt s.heap l es) (hp : PairsIn s.heap es) (hl' : LsAt s.heap l' fs) (hp' : PairsIn s.heap fs) (h : Q (.bool (!decide (es.map (·.2) = fs.map (·.2)))) s) :
    wpAny (model prog w) A (compareOp .NotEq (.ref l) (.ref l')) Q E s := by
  obtain ⟨as, r1⟩ := hl.reads hp
  obtain ⟨bs, r2⟩ := hl'.reads hp'
  exact ne_dataH r1 r2 (shaped_pds es) (shaped_pds fs) (by unfold cLine; omega) (by rw [PyData.eqv, eqv_pds]; exact h)
theorem eq_lists (hu : A.units < 9800) (hl : LsAt s.heap l es) (hp : PairsIn s.heap es) (hl' : LsAt s.heap l' fs) (hp' : PairsIn s.heap fs) (h : Q (.bool (decide (es.map (·.2) = fs.map (·.2)))) s) :
    wpAny (model prog w) A (compareOp .Eq (.ref l) (.ref l')) Q E s := by
  obtain ⟨as, r1⟩ := hl.reads hp
  obtain ⟨bs, r2⟩ := hl'.reads hp'
  exact eq_dataH r1 r2 (shaped_pds es) (shaped_pds fs) (by unfold cLine; omega) (by rw [PyData.eqv, eqv_pds]; exact h)
theorem eqBool_pair {Q : Bool → Shared → Prop} (hu : A.units < 9800) (hx : PairAt s.heap x p) (hy : PairAt s.heap y q) (h : Q (decide (p = q)) s) : wpAny (model prog w) A (eqBool x y) Q E s := by
  obtain ⟨as, r1⟩ := hx.reads
  obtain ⟨bs, r2⟩ := hy.reads
  have z1 := lay_pd p
  have z2 := lay_pd q
  refine SeqAt.eqAt_reads (pd p) (pd q) A s x y _ _ r1 r2 z1.1 z2.1 (by rw [z1.2, z2.2]; unfold cLine; omega) prog w E Q ?_
  rw [eqv_pd]; exact h


theorem remove_loop_pairs {l : Addr} {x : Value} {p : Int × Int} {n : Nat} (pre post : List Elt) (m : Elt) (hm : m.2 = p) (hz : (pre ++ m :: post).length < 2 ^ 20) :
    ∀ (k : Nat) (i : Nat), pre.length - i = k → i ≤ pre.length → Meets (Builtin.«list.remove.loop» ⟨[.ref l, x, rawInt i], []⟩)
      (fun A R s => (s.heap.get? l = some (W.listOf (vals (pre ++ m :: post)) n) ∧ PairsIn s.heap (pre ++ m :: post) ∧ PairAt s.heap x p ∧ A.units < 9000 ∧ (∀ e ∈ pre, e.2 ≠ p)) ∧
        R (.ok (.ret .none)) { s with heap := s.heap.update l (Obj.mapSeq fun xs => xs.eraseIdxIfInBounds pre.length) }) := by
  intro k
  induction k with
  | zero =>
    intro i hk hij prog w A R s h
    obtain ⟨⟨hl, hp, hx, hu, hne⟩, h⟩ := h
    have hi : i = pre.length := by omega
    subst hi
    have hget : (vals (pre ++ m :: post))[((pre.length : Nat) : Int).toNat]? = some m.1 := by simp
    show wpAny _ _ (Builtin.List.listItems (.ref l) >>= _) _ _ s
    refine wpAny_bind (listItems_at hl rfl ?_)
    rw [hget]
    dsimp only
    refine wpAny_bind (eqBool_pair (by show A.units + 1 < _; omega) (hp m (by simp)) hx ?_)
    rw [show decide (m.2 = p) = true by simp [hm]]
    simp only [if_true]
    refine wpAny_bind (listUpdate_at hl rfl ?_ (by rw [sizeLine_eq]; simp at hz ⊢; omega) ?_)
    · exact wpAny_pure h
    · rw [sizeLine_eq]
      refine Nat.le_trans (MeetsSeq.size_erased _ _) ?_
      simp at hz ⊢; omega
  | succ k ih =>
    intro i hk hij prog w A R s h
    obtain ⟨⟨hl, hp, hx, hu, hne⟩, h⟩ := h
    have hlt : i < pre.length := by omega
    have hget : (vals (pre ++ m :: post))[((i : Nat) : Int).toNat]? = some (pre[i]).1 := by
      simp only [Int.toNat_natCast, List.getElem?_toArray, List.map_append]
      rw [List.getElem?_append_left (by simpa using hlt)]
      simp [hlt]
    show wpAny _ _ (Builtin.List.listItems (.ref l) >>= _) _ _ s
    refine wpAny_bind (listItems_at hl rfl ?_)
    rw [hget]
    dsimp only
    refine wpAny_bind (eqBool_pair (by show A.units + 1 < _; omega) (hp pre[i] (List.mem_append_left _ (List.getElem_mem hlt))) hx ?_)
    rw [show decide ((pre[i]).2 = p) = false by simpa using hne _ (List.getElem_mem hlt)]
    simp only [Bool.false_eq_true, if_false]
    have hc : ((i : Int) + 1) = ((i + 1 : Nat) : Int) := by omega
    rw [hc]
    exact wpAny_pure ⟨plainId_quiet MeetsSeq.plain_remove_loop _, codeAny_builtin MeetsSeq.entry_remove_loop (by
      rw [Around.under_plainId MeetsSeq.plain_remove_loop _]
      exact ih (i + 1) (by omega) (by omega) prog w A R _ ⟨⟨hl, hp, hx, hu, hne⟩, h⟩)⟩

theorem remove_pair {m : Elt} {pre post : List Elt} (hu : A.units < 9000) (hl : LsAt s.heap l (pre ++ m :: post)) (hp : PairsIn s.heap (pre ++ m :: post)) (hx : PairAt s.heap x p) (hm : m.2 = p) (hne : ∀ e ∈ pre, e.2 ≠ p) (hz : (pre ++ m :: post).length < 2 ^ 20)
    (h : ∀ h', Heap.SameBut l s.heap h' → LsAt h' l (pre ++ post) → Q .none { s with heap := h' }) : wpAny (model prog w) A (call (.builtin "list.remove") [.ref l, x]) Q E s := by
  obtain ⟨n, hl⟩ := hl
  have g : Meets (Builtin.«list.remove» ⟨[.ref l, x], []⟩)
      (fun A R s => (s.heap.get? l = some (W.listOf (vals (pre ++ m :: post)) n) ∧ PairsIn s.heap (pre ++ m :: post) ∧ PairAt s.heap x p ∧ A.units < 9000 ∧ (∀ e ∈ pre, e.2 ≠ p)) ∧
        R (.ok (.ret .none)) { s with heap := s.heap.update l (Obj.mapSeq fun xs => xs.eraseIdxIfInBounds pre.length) }) := by
    intro prog w A R s h
    show wpAny _ _ (pure _) _ _ s
    exact wpAny_pure ⟨plainId_quiet MeetsSeq.plain_remove_loop _, codeAny_builtin MeetsSeq.entry_remove_loop (by
      rw [Around.under_plainId MeetsSeq.plain_remove_loop _]
      exact remove_loop_pairs pre post m hm hz _ 0 rfl (Nat.zero_le _) prog w A R _ h)⟩
  refine call_meets PySem.F.slot_list_remove ⟨_, hl, rfl⟩ PySem.F.entry_list_remove (PySem.F.args_list_remove_2 _ _) g ⟨⟨hl, hp, hx, hu, hne⟩, h _ (Heap.SameBut.update ..) ⟨n + 1, ?_⟩⟩
  have q := PySem.IsL.update hl (fun xs => xs.eraseIdxIfInBounds pre.length)
  have e : (vals (pre ++ m :: post)).eraseIdxIfInBounds pre.length = vals (pre ++ post) := by
    have := kl_erase (pre.map (·.1)) (post.map (·.1)) m.1
    simpa using this
  rw [e, if_neg (by simp)] at q
  exact q
end
end Mine
end

-- part E1
section
open PySem PySem.W PyProof.Rows
set_option Elab.async false
set_option maxRecDepth 100000
namespace Mine

/-- the contract of a pop function at address f -/
def PopOk (prog : Program) (w : World) (lt : Elt → Elt → Bool) (f : Addr) : Prop :=
  ∀ {A : Around} {s : Shared} {R : Result → Shared → Prop} {hb : Heap} {l : Addr} {ys : List Elt} {x : Elt}, Gd w hb → hb.StaysIn s.heap → hb.get? l = none → A.depth < 880 → A.units < 8800 →
    LsAt s.heap l (ys ++ [x]) → PairsIn s.heap (ys ++ [x]) → ys.length < 900 →
    (∀ h' tk, KeptBut l s.heap h' → LsAt h' l (hpop lt x (ys ++ [x])) → R (.ok (.ret ((ys ++ [x]).head (by simp)).1)) { s with heap := h', toks := tk }) →
    codeAny (model prog w) A (.call (.ref f) ⟨[.ref l], []⟩) R s
theorem popOk_min {prog : Program} {w : World} : PopOk prog w ltE 28 := fun G a b c d e f g h => heappop_spec G a b c d e f g h
theorem popOk_max {prog : Program} {w : World} : PopOk prog w gtE 42 := fun G a b c d e f g h => popmax_spec G a b c d e f g h

/-- popping under way -/
structure Dr (lt : Elt → Elt → Bool) (e row cur : List Elt) : Prop where
  perm : (row ++ cur).Perm e
  heap : IsHeap lt cur
  so : row.Pairwise fun a b => lt b a = false
  le : ∀ a ∈ row, ∀ b ∈ cur, lt b a = false
theorem Dr.step {lt : Elt → Elt → Bool} (O : Ord lt) {e row ys : List Elt} {x : Elt} (d : Dr lt e row (ys ++ [x])) : Dr lt e (row ++ [(ys ++ [x]).head (by simp)]) (hpop lt x (ys ++ [x])) := by
  have hp := hpop_perm lt x ys
  have hroot : ∀ b ∈ ys ++ [x], lt b ((ys ++ [x]).head (by simp)) = false := by
    cases ys with
    | nil =>
      intro b hb
      exact IsHeap.root O (y := x) (ys := []) (by simpa using d.heap) b (by simpa using hb)
    | cons y ys => exact IsHeap.root O (y := y) (ys := ys ++ [x]) (by simpa using d.heap)
  generalize (ys ++ [x]).head (by simp) = y at *
  have hd := d.heap
  refine ⟨?_, hpop_heap O x hd, ?_, ?_⟩
  · rw [List.append_assoc]
    exact (List.Perm.append_left _ hp).trans d.perm
  · refine List.pairwise_append.mpr ⟨d.so, List.pairwise_singleton _ _, fun a ha b hb => ?_⟩
    rw [List.mem_singleton.mp hb]
    exact d.le a ha y (hp.mem_iff.mp (.head _))
  · intro a ha b hb
    have hb' : b ∈ ys ++ [x] := hp.mem_iff.mp (.tail _ hb)
    rcases List.mem_append.mp ha with ha | ha
    · exact d.le a ha b hb'
    · rw [List.mem_singleton.mp ha]; exact hroot b hb'

theorem cell_at {h h' : Heap} {c : Addr} {v : Option Value} (x : h.IsCell c v) (k : ∀ o, h.get? c = some o → h'.get? c = some o) : h'.IsCell c v := by
  obtain ⟨o, q, r⟩ := x; exact ⟨o, k o q, r⟩
theorem ns_at {h h' : Heap} {L : Addr} {m : Str → Option Value} (x : h.Ns L m) (k : ∀ o, h.get? L = some o → h'.get? L = some o) : h'.Ns L m := by
  obtain ⟨o, es, ep, q, r⟩ := x; exact ⟨o, es, ep, k o q, r⟩
theorem ls_at {h h' : Heap} {l : Addr} {es : List Elt} (x : LsAt h l es) (k : ∀ o, h.get? l = some o → h'.get? l = some o) : LsAt h' l es := by
  obtain ⟨n, q⟩ := x; exact ⟨n, k _ q⟩
theorem paired_eq {α : Type} : ∀ {l l' : List α}, Paired (fun v y => y = v) l l' → l' = l
  | _, _, .nil => rfl
  | _, _, .cons h t => by rw [h, paired_eq t]
theorem keeps_refl (s : Shared) : Keeps s s := ⟨s.heap, s.toks, rfl, fun _ _ q => q⟩
/-- an object that is no pair -/
def NoPair (h : Heap) (a : Addr) : Prop := ∃ o, h.get? a = some o ∧ ∀ p t u n, o ≠ pairObj p t u n
theorem noPair_ls {h : Heap} {l : Addr} {es : List Elt} (x : LsAt h l es) : NoPair h l := by
  obtain ⟨n, q⟩ := x
  refine ⟨_, q, fun p t u n e => ?_⟩
  have q : Value.type "list" = Value.type "tuple" := congrArg Obj.cls e
  exact absurd q (by decide)
theorem noPair_iter {h : Heap} {I : Addr} {x y z : Int} (q : IsRangeIter h I x y z) : NoPair h I := by
  refine ⟨_, q, fun p t u n e => ?_⟩
  have q : Value.type "range_iterator" = Value.type "tuple" := congrArg Obj.cls e
  exact absurd q (by decide)
theorem noPair_ns {h : Heap} {L : Addr} {m : Str → Option Value} (x : h.Ns L m) : NoPair h L := by
  obtain ⟨o, es, ep, q, d, _⟩ := x
  refine ⟨_, q, fun p t u n e => ?_⟩
  rw [e] at d
  cases d
theorem PairAt.at {h h' : Heap} {a : Addr} {v : Value} {p : Int × Int} (x : PairAt h v p) (hn : NoPair h a) (k : ∀ b o, b ≠ a → h.get? b = some o → h'.get? b = some o) : PairAt h' v p := by
  obtain ⟨o, q, r⟩ := hn
  obtain ⟨b, t, u, n, rfl, ho⟩ := x
  refine ⟨b, t, u, n, rfl, k _ _ ?_ ho⟩
  rintro rfl
  rw [q] at ho
  exact r _ _ _ _ (Option.some.inj ho)
theorem PairsIn.at {h h' : Heap} {a : Addr} {es : List Elt} (x : PairsIn h es) (hn : NoPair h a) (k : ∀ b o, b ≠ a → h.get? b = some o → h'.get? b = some o) : PairsIn h' es := fun e he => (x e he).at hn k

section
variable {M : Model} {A : Around} {E : Value → Shared → Prop} {s : Shared} {env : Env}
theorem assign_comp {elt iter : Expr} {x y : Str} {px py : Pos} {ifs : List Expr} {scope : Scope} {cl : List (Str × Addr)} {pos spos : Pos} {Q : Flow → Shared → Prop}
    (hsw : swapsWith (.ListComp elt [⟨.Name x px, iter, ifs, 0⟩] scope pos) (some (.Name y py)) spos.line env = pure true)
    (hclos : closureFor scope env = pure cl) (hkind : scope.kind = .function) (hnames : ∀ z ∈ scope.names, z.2 = .local → scope.names.lookup z.1 = some .local)
    (h : wpAny M A (eval iter env) (fun xv s₁ => wpAny M A (pyIter xv) (fun it s₂ => wpAny M A (newList []) (fun acc s₃ => wpAny M A (newFunctionEnv scope env.globals cl [] env.qual none .none (some env)) (fun cenv s₄ =>
      codeAny M A (.compStart (.ListComp elt [⟨.Name x px, iter, ifs, 0⟩] scope pos) 0 it acc { cenv with scope := relabel scope env }) (compPost M A E (some (assign (.Name y py) env)) (fun _ s' => Q .next s') acc cenv.locals) s₄) E s₃) E s₂) E s₁) E s)
    (hs : ∀ x, foldedSetIterable iter env x = pure x := by intro _; rfl) :
    wpAny M A (exec (.Assign [.Name y py] (.ListComp elt [⟨.Name x px, iter, ifs, 0⟩] scope pos) spos) env) Q E s := by
  rw [exec_Assign_Name_used _ _ _ _ hsw]
  refine wpAny_bind (wpAny_standAt (wpAny_bind ?_))
  show wpAny _ A (do let _ ← comprehension (.ListComp elt [⟨.Name x px, iter, ifs, 0⟩] scope pos) scope env _ (newList []) false (eval iter env) (some (assign (.Name y py) env))) _ _ s
  exact wpAny_bind (wpAny_mono (wpAny_comprehension_free (use := some (assign (.Name y py) env)) (Q := fun _ s' => Q .next s') rfl hs hclos hkind hnames h) (fun _ s' hq => wpAny_pure (wpAny_pure hq)) fun _ _ e => e)
end

section
variable {prog : Program} {w : World} {A : Around} {E : Value → Shared → Prop} {s : Shared}
theorem mk_range {n : Int} {t : Tok} {Q : Value → Shared → Prop} (h : ∀ r h' tk a b c, s.heap.StaysIn h' → s.heap.objs.size ≤ r → IsRange h' r 0 n 1 a b c → Q (.ref r) { s with heap := h', toks := tk }) :
    wpAny (model prog w) A (call (.type "range") [.int n t]) Q E s :=
  call_range_1 (h _ _ _ _ _ _ (fun _ _ e => Heap.get?_push_of_some _ e) (Nat.le_refl _) (IsRange.new ..))
theorem small_range (n : Nat) (h : n < 2 ^ 60) : Builtin.Range.small 0 (n : Int) 1 = true := by
  have e := rangeSize_nat 0 (n : Int)
  rw [show ((n : Int) - 0).toNat = n by omega] at e
  have fit : ∀ x : Int, 0 ≤ x → x ≤ 2 ^ 60 → Builtin.Range.rangeFitsLong x = true := by
    intro x h1 h2
    unfold Builtin.Range.rangeFitsLong
    simp only [Bool.and_eq_true, decide_eq_true_eq]
    omega
  unfold Builtin.Range.small
  rw [e, fit 0 (by omega) (by omega), fit n (by omega) (by omega), fit 1 (by omega) (by omega)]
  simp only [Bool.and_true, Bool.true_and, Bool.or_eq_true, gt_iff_lt, Int.reduceSub, Int.add_zero]
  right
  rw [if_pos (by decide)]
  exact fit n (by omega) (by omega)
theorem iter_range {r : Addr} {n : Nat} {a b c : Tok} {Q : Value → Shared → Prop} (hn : n < 2 ^ 60) (hr : IsRange s.heap r 0 (n : Int) 1 a b c)
    (h : ∀ I h', s.heap.StaysIn h' → s.heap.objs.size ≤ I → IsRangeIter h' I 0 (n : Int) 1 → Q (.ref I) { s with heap := h' }) : wpAny (model prog w) A (pyIter (.ref r)) Q E s := by
  have e := rangeSize_nat 0 (n : Int)
  rw [show ((n : Int) - 0).toNat = n by omega] at e
  refine wpAny_pyIter_range hr (small_range n hn) ?_
  rw [e]
  exact h _ _ (fun _ _ q => Heap.get?_push_of_some _ q) (Nat.le_refl _) (Heap.get?_push_size _ rfl)
theorem mk_list {vs : List Value} {Q : Value → Shared → Prop} (hz : vs.length < 2 ^ 20) (h : ∀ D h', s.heap.StaysIn h' → s.heap.objs.size ≤ D → h'.get? D = some (W.listOf vs.toArray 0) → Q (.ref D) { s with heap := h' }) : wpAny (model prog w) A (newList vs) Q E s :=
  wpAny_newList (h _ _ (fun _ _ q => Heap.get?_push_of_some _ q) (Nat.le_refl _) (Heap.get?_push_size _ rfl)) (by rw [sizeLine_eq]; omega)
theorem mk_env {scope : Scope} {globals : Addr} {cl : List (Str × Addr)} {qual : Str} {env : Env} {Q : Env → Shared → Prop} (hc : ∀ x ∈ scope.names, x.2 ≠ .cell) (hk : scope.kind = .function)
    (h : ∀ C h', s.heap.StaysIn h' → s.heap.objs.size ≤ C → h'.Ns C (fun _ => none) → Q (newEnv scope C globals cl qual none .none (some env) 0) { s with heap := h' }) :
    wpAny (model prog w) A (newFunctionEnv scope globals cl [] qual none .none (some env)) Q E s := by
  refine wpAny_newFunctionEnv hc (by intro y hy; simp at hy) (fun h₂ ns₂ sb₂ => ?_) hk
  exact h _ h₂ (fun b o q => (sb₂.2 b (Nat.ne_of_lt (Heap.lt_size q))).trans (Heap.get?_push_of_some _ q)) (Nat.le_refl _) ns₂
end

section
variable {prog : Program} {w : World} {A : Around} {s : Shared} {R : Result → Shared → Prop} {hb : Heap} {l a3 f : Addr} {e e3 : List Elt} {lt : Elt → Elt → Bool}

theorem emptied_spec (O : Ord lt) (P : PopOk prog w lt f) (hkf : keepIn (KF w) (.ref f) = true) (G : Gd w hb) (hbs : hb.StaysIn s.heap) (hbl : hb.get? l = none) (hla : l ≠ a3) (hh : A.handled = none) (hA : A.depth < 800) (hU : A.units < 8000)
    (hl : LsAt s.heap l e) (hp : PairsIn s.heap e) (hH : IsHeap lt e) (hz : e.length < 900) (hi3 : LsAt s.heap a3 e3) (hp3 : PairsIn s.heap e3)
    (h : ∀ h' tk D es', KeptBut l s.heap h' → s.heap.get? D = none → LsAt h' D es' → es'.Pairwise (fun a b => lt b a = false) → es'.Perm (e.filter fun x => InD e3 x.2) → R (.ok (.ret (.ref D))) { s with heap := h', toks := tk }) :
    codeAny (model prog w) A (.call (.ref 89) ⟨[.ref l, .ref f, .ref a3], []⟩) R s := by
  have GS := G.keeps hbs
  refine codeAny_call_cells (binds := [("heap", .ref l), ("pop", .ref f), ("inside", .ref a3)]) (by unfold recursionLimit; omega) (GS.k _ _ rfl) rfl GS.nolimit (codeRec_of GS.k rfl) rfl rfl rfl (kindsX rfl _) (fun s₁ X => ?_)
  refine wpAny_mono (Q := fun f s' => R (.ok (.ret (match f with | .ret v => v | _ => .none))) s') (E := fun _ _ => False) ?_ (fun _ _ x => x) (fun _ _ x => x.elim)
  obtain ⟨h₁, tk, rfl⟩ := X.toInCall.same
  have k₁ : s.heap.StaysIn h₁ := X.toInCall.keep
  have n₁ : h₁.Ns s.heap.objs.size (fun _ => none) := X.toInCall.ns
  have c1 : h₁.IsCell (s.heap.objs.size + 1) (some (.ref l)) := X.cell "heap" (s.heap.objs.size + 1) rfl
  have c2 : h₁.IsCell (s.heap.objs.size + 2) (some (.ref f)) := X.cell "pop" (s.heap.objs.size + 2) rfl
  have c3 : h₁.IsCell (s.heap.objs.size + 3) (some (.ref a3)) := X.cell "inside" (s.heap.objs.size + 3) rfl
  clear X
  have G1 := GS.keeps k₁
  obtain ⟨n, hl0⟩ := id hl
  have hl1 : h₁.IsList l (vals e) := PySem.IsL.isList (n := n) (k₁ _ _ hl0)
  refine wpAny_execs_cons ?_
  refine assign_comp (by with_unfolding_all rfl) (cl := [("pop", s.heap.objs.size + 2), ("heap", s.heap.objs.size + 1)]) (by with_unfolding_all rfl) rfl (by decide) ?_
  refine Call_ ?_
  refine ldB G1 rfl boot_range (by decide) ?_
  refine PyProof.Rows.callWith_type1 ?_
  refine spliced_more ?_
  refine Call_ ?_
  refine ldB G1 rfl boot_len (by decide) ?_
  refine PyProof.Rows.callWith_builtin1 ?_
  refine spliced_more ?_
  refine wpAny_Name (wpAny_loadName_cell rfl rfl rfl c1 ?_)
  refine spliced_none ?_
  refine len_list hl1 (by simp; omega) ?_
  refine spliced_none ?_
  rw [show ((vals e).size : Int) = (e.length : Int) by simp]
  refine mk_range fun r h₂ tk₂ ta tb tc k₂ zr hr => ?_
  refine iter_range (by omega) hr fun I h₃ k₃ zI hI => ?_
  refine mk_list (by simp) fun D h₄ k₄ zD hD => ?_
  refine mk_env (by decide) rfl fun C h₅ k₅ zC hC => ?_
  dsimp only at k₂ k₃ k₄ k₅ zr zI zD zC
  -- what stands at the start of the first comprehension
  have K5 : h₁.StaysIn h₅ := fun b o q => k₅ b o (k₄ b o (k₃ b o (k₂ b o q)))
  have bI : I < h₃.objs.size := Heap.lt_size hI
  have bD : D < h₄.objs.size := Heap.lt_size hD
  have br : r < h₂.objs.size := Heap.lt_size hr
  have b₁ : ∀ (b : Nat) o, h₁.get? b = some o → b < I ∧ b < D ∧ b < C := fun b o q => by have := ltN (Heap.lt_size q); omega
  have G5 := G1.keeps K5
  have I5 : IsRangeIter h₅ I 0 (e.length : Int) 1 := k₅ _ _ (k₄ _ _ hI)
  have D5 : LsAt h₅ D [] := ⟨0, k₅ _ _ hD⟩
  have L5 : LsAt h₅ l e := ⟨n, K5 _ _ (k₁ _ _ hl0)⟩
  have p5 : PairsIn h₅ e := fun x hx => ((hp x hx).keeps k₁).keeps K5
  have lC := b₁ _ _ (k₁ _ _ hl0)
  have c15 := c1.keeps K5
  have c25 := c2.keeps K5
  have c1b : s.heap.objs.size + 1 < I ∧ s.heap.objs.size + 1 < D ∧ s.heap.objs.size + 1 < C := by obtain ⟨o, q, _⟩ := c1; exact b₁ _ _ q
  have c2b : s.heap.objs.size + 2 < I ∧ s.heap.objs.size + 2 < D ∧ s.heap.objs.size + 2 < C := by obtain ⟨o, q, _⟩ := c2; exact b₁ _ _ q
  have llt := ltN (Heap.lt_size hl0)
  -- the loop that pops
  refine (fun hloop => codeAny_compStart_list hloop ((Walks.range (prog := prog) (w := w) (by exact hh) I 0 1 e.length).self 0 _ _ _ (by simpa using I5) hloop)) ?_
  refine codeAny_compLoop_tests (fun k s' => ∃ h' tk m row cur i, k = e.length - i ∧ s' = { s with heap := h', toks := tk } ∧ row.length = i ∧ i + cur.length = e.length ∧
        (∀ b o, b ≠ l → b ≠ I → b ≠ D → b ≠ C → h₅.get? b = some o → h'.get? b = some o) ∧ IsRangeIter h' I ((i : Nat) : Int) ((e.length : Int) - (i : Nat)) 1 ∧ LsAt h' D row ∧ h'.Ns C m ∧ LsAt h' l cur ∧ PairsIn h' row ∧ PairsIn h' cur ∧ Dr lt e row cur)
      ?turn e.length ⟨h₅, _, _, [], e, 0, rfl, rfl, rfl, by omega, fun _ _ _ _ _ _ q => q, by simpa using I5, D5, hC, L5, (by intro _ hx; cases hx), p5, ⟨List.Perm.refl _, hH, List.Pairwise.nil, (by intro _ hx; cases hx)⟩⟩
  have nCI : C ≠ I := neN (by omega)
  have nCD : C ≠ D := neN (by omega)
  have nDI : D ≠ I := neN (by omega)
  have nlI : l ≠ I := neN (by omega)
  have nlD : l ≠ D := neN (by omega)
  have nlC : l ≠ C := neN (by omega)
  rintro k s' ⟨h', tk, m, row, cur, i, rfl, rfl, hi, hlen, kp, itr, lD, nC, lL, pR, pC, dr⟩
  by_cases hend : i = e.length
  · refine wpAny_pyNext_range_end (by exact hh) itr (by omega) fun h'' ex => ?_
    have ecur : cur = [] := List.eq_nil_of_length_eq_zero (by omega)
    subst ecur
    dsimp only at ex
    have nL : h''.Ns s.heap.objs.size (fun _ => none) := ns_at n₁ fun o q => by
      have z := b₁ _ _ q
      exact ex _ _ (neN (by omega)) (kp _ _ (neN (by omega)) (neN (by omega)) (neN (by omega)) (neN (by omega)) (K5 _ _ q))
    have lD'' : LsAt h'' D row := ls_at lD fun o q => ex _ _ nDI q
    have nC'' := ns_at nC fun o q => ex _ _ nCI q
    have pR'' : PairsIn h'' row := pR.at (noPair_iter itr) fun b o nb q => ex b o nb q
    have L1 : s.heap.objs.size < I ∧ s.heap.objs.size < D ∧ s.heap.objs.size < C := by obtain ⟨o, _, _, q, _⟩ := n₁; exact b₁ _ _ q
    show wpAny _ _ (assign _ _ (.ref D)) _ _ _
    refine wpAny_assign_Name (wpAny_storeName_local rfl nL (fun h3 nL3 sb3 => ?_) rfl)
    dsimp only at sb3 nL3
    have sb3' : ∀ b o, b ≠ s.heap.objs.size → h''.get? b = some o → h3.get? b = some o := fun b o nb q => (sb3.2 b nb).trans q
    refine ⟨_, ns_at nC'' fun o q => sb3' _ _ (neN (by show C ≠ s.heap.objs.size; omega)) q, fun h4 sb4 => ?_⟩
    dsimp only at sb4
    have sb4' : ∀ b o, b ≠ C → h3.get? b = some o → h4.get? b = some o := fun b o nb q => (sb4.2 b nb).trans q
    have nC3 := ns_at nC'' fun o q => sb3' C o (neN (by omega)) q
    have lD4 : LsAt h4 D row := ls_at lD'' fun o q => sb4' _ _ (neN (by omega)) (sb3' _ _ (neN (by omega)) q)
    have pR4 : PairsIn h4 row := (pR''.at (noPair_ns nL) sb3').at (noPair_ns nC3) sb4'
    have nL4 := ns_at nL3 fun o q => sb4' _ _ (neN (by show s.heap.objs.size ≠ C; omega)) q
    have kp4 : ∀ b o, b ≠ l → b ≠ s.heap.objs.size → h₁.get? b = some o → h4.get? b = some o := fun b o n1 n2 q => by
      have z := b₁ _ _ q
      exact sb4' _ _ (neN (by omega)) (sb3' _ _ n2 (ex _ _ (neN (by omega)) (kp _ _ n1 (neN (by omega)) (neN (by omega)) (neN (by omega)) (K5 _ _ q))))
    have lL4 : LsAt h4 l [] := ls_at lL fun o q => sb4' _ _ nlC (sb3' _ _ (neN (by omega)) (ex _ _ nlI q))
    have perm : row.Perm e := by simpa using dr.perm
    have so := dr.so
    clear dr pR'' pR pC lL nC nC'' nC3 itr lD lD'' nL nL3 sb3 sb3' sb4 sb4' ex kp c15 c25
    have c34 : h4.IsCell (s.heap.objs.size + 3) (some (.ref a3)) := cell_at c3 fun o q => kp4 _ _ (neN (by omega)) (neN (by omega)) q
    obtain ⟨n3, q3⟩ := id hi3
    have a3lt := ltN (Heap.lt_size q3)
    have a34 : LsAt h4 a3 e3 := ls_at hi3 fun o q => kp4 _ _ (Ne.symm hla) (neN (by omega)) (k₁ _ _ q)
    have pr4 : ∀ v p, PairAt s.heap v p → PairAt h4 v p := by
      intro v p x
      obtain ⟨b, t, u, n, rfl, ho⟩ := x
      have hlt := ltN (Heap.lt_size ho)
      refine ⟨b, t, u, n, rfl, kp4 _ _ ?_ (neN (by omega)) (k₁ _ _ ho)⟩
      rintro rfl
      rw [hl0] at ho
      have q : Value.type "list" = Value.type "tuple" := congrArg Obj.cls (Option.some.inj ho)
      exact absurd q (by decide)
    have p34 : PairsIn h4 e3 := fun x hx => pr4 _ _ (hp3 x hx)
    dsimp only
    refine wpAny_execs_cons ?_
    refine wpAny_Return_some ?_
    refine wpAny_ListComp_free (fun v => InD e3 (keyAt h4 v)) (fun v y => y = v) (cl := [("inside", s.heap.objs.size + 3)]) (by with_unfolding_all rfl) (by decide) rfl (by decide) rfl ?_
    refine wpAny_Name (wpAny_loadName_local rfl rfl nL4 rfl ?_)
    have hrow := perm.length_eq
    have isD : h4.IsList D (vals row) := by obtain ⟨n, q⟩ := lD4; exact PySem.IsL.isList (n := n) q
    have ltD : D < h4.objs.size := by obtain ⟨n, q⟩ := lD4; exact ltN (Heap.lt_size q)
    refine wpAny_pyIter_list isD ?_
    refine ⟨h4.objs.size, _, _, _, _, _, rfl, Walks.list (by exact hh) h4.objs.size D (neN (by omega)) (vals row), by rw [sizeLine_eq]; simp; omega, ⟨⟨_, Heap.get?_push_size _ rfl, rfl, rfl⟩, ?_⟩, ?_, ⟨?_, ?_⟩, ?_⟩
    · obtain ⟨o, q, r⟩ := isD
      exact ⟨o, Heap.get?_push_of_some _ q, r⟩
    · intro b hb
      rw [size_push']
      rcases List.mem_cons.mp hb with rfl | hb
      · exact Nat.lt_succ_self _
      · rw [List.mem_singleton.mp hb]; exact Nat.lt_succ_of_lt ltD
    · intro C' i' v s₃ m₃ E' zC' hv ns₃ hm₃ kp₃ _
      have kp₃' : h4.StaysIn s₃.heap := fun b o q => kp₃ b o (by
        intro hm
        rw [List.mem_singleton.mp hm] at q
        exact absurd (ltN (Heap.lt_size q)) (Nat.lt_irrefl _)) (Heap.get?_push_of_some _ q)
      obtain ⟨z, hz, rfl⟩ : ∃ z ∈ row, z.1 = v := by
        have : v ∈ (vals row).toList := by
          rw [← Array.getElem?_toList] at hv
          exact List.mem_of_getElem? hv
        simpa using this
      refine wpAny_tests_one ?_
      refine wpAny_isTrue_Compare1 ?_
      refine wpAny_Name (wpAny_loadName_local rfl rfl ns₃ hm₃ ?_)
      refine wpAny_Name (wpAny_loadName_cell rfl rfl rfl (c34.keeps kp₃') ?_)
      refine in_pairs (by show A.units + 3 < _; omega) (ls_at a34 fun o q => kp₃' _ _ q) (pairsIn_keep p34 kp₃') ((pR4 z hz).keeps kp₃') ?_
      refine wpAny_truthy_bool ⟨?_, keeps_refl _⟩
      rw [(pR4 z hz).key]
    · intro C' i' v s₃ m₃ E' zC' hv _ ns₃ hm₃ kp₃ _
      exact wpAny_Name (wpAny_loadName_local rfl rfl ns₃ hm₃ ⟨rfl, keeps_refl _⟩)
    · intro D' h' tk' ys vs zD' _ plD hlenv hvs hpd kp'
      dsimp only at zD' kp' ⊢
      have evs : vs = row.map (·.1) := by
        apply List.ext_getElem?
        intro j
        by_cases hj : j < vs.length
        · have := hvs j vs[j] (List.getElem?_eq_getElem hj)
          rw [List.getElem?_eq_getElem hj, ← this]
          simp
        · rw [List.getElem?_eq_none (by omega), List.getElem?_eq_none]
          rw [hlenv] at hj
          simpa using hj
      have eys := paired_eq hpd
      have efl : vs.filter (fun v => InD e3 (keyAt h4 v)) = (row.filter fun x => InD e3 x.2).map (·.1) := by
        rw [evs, List.filter_map]
        congr 1
        refine List.filter_congr fun x hx => ?_
        show InD e3 (keyAt h4 x.1) = _
        rw [(pR4 x hx).key]
      have fresh : h4.get? D' = none := by
        cases q : h4.get? D' with
        | none => rfl
        | some o => rw [Heap.get?_push_of_some _ q] at zD'; cases zD'
      have kps : KeptBut l s.heap h' := fun b o nb q => by
        have hlt := ltN (Heap.lt_size q)
        have q4 := kp4 _ _ nb (neN (by omega)) (k₁ _ _ q)
        exact kp' b o (by
          intro hm
          rw [List.mem_singleton.mp hm] at q4
          exact absurd (ltN (Heap.lt_size q4)) (Nat.lt_irrefl _)) (Heap.get?_push_of_some _ q4)
      refine h h' tk' D' (row.filter fun x => InD e3 x.2) kps ?_ ?_ (so.sublist List.filter_sublist) (perm.filter _)
      · cases q : s.heap.get? D' with
        | none => rfl
        | some o =>
          exfalso
          have hlt := ltN (Heap.lt_size q)
          by_cases hD' : D' = l
          · subst hD'
            obtain ⟨_, q'⟩ := lL4
            rw [q'] at fresh; cases fresh
          · rw [kp4 _ _ hD' (neN (by omega)) (k₁ _ _ q)] at fresh; cases fresh
      · obtain ⟨n', q⟩ := plD
        refine ⟨n', ?_⟩
        rw [q]
        have : ys = vals (row.filter fun x => InD e3 x.2) := by
          apply Array.toList_inj.mp
          rw [eys, efl]
        rw [this]
  · refine wpAny_pyNext_range_item itr (by omega) fun h'' itr' sb => ?_
    dsimp only at sb
    have sb' : ∀ b o, b ≠ I → h'.get? b = some o → h''.get? b = some o := fun b o nb q => (sb.2 b nb).trans q
    have nC2 := ns_at nC fun o q => sb' _ _ nCI q
    refine wpAny_assign_Name (wpAny_storeName_local rfl nC2 (fun h3 nC3 sb3 => ?_) rfl)
    refine wpAny_tests_nil ?_
    rw [if_pos rfl]
    dsimp only at sb3 nC3
    have sb3' : ∀ b o, b ≠ C → h''.get? b = some o → h3.get? b = some o := fun b o nb q => (sb3.2 b nb).trans q
    have kp3 : ∀ b o, b ≠ l → b ≠ I → b ≠ D → b ≠ C → h₅.get? b = some o → h3.get? b = some o := fun b o n1 n2 n3 n4 q => sb3' _ _ n4 (sb' _ _ n2 (kp b o n1 n2 n3 n4 q))
    have it3 : IsRangeIter h3 I _ _ 1 := sb3' _ _ (Ne.symm nCI) itr'
    have lD3 : LsAt h3 D row := ls_at lD fun o q => sb3' _ _ (Ne.symm nCD) (sb' _ _ nDI q)
    have lL3 : LsAt h3 l cur := ls_at lL fun o q => sb3' _ _ nlC (sb' _ _ nlI q)
    have pR3 : PairsIn h3 row := (pR.at (noPair_iter itr) sb').at (noPair_ns nC2) sb3'
    have pC3 : PairsIn h3 cur := (pC.at (noPair_iter itr) sb').at (noPair_ns nC2) sb3'
    have base3 : hb.StaysIn h3 := fun b o q => by
      have q1 := k₁ _ _ (hbs _ _ q)
      have z := b₁ _ _ q1
      exact kp3 b o (by rintro rfl; rw [hbl] at q; cases q) (neN (by omega)) (neN (by omega)) (neN (by omega)) (K5 _ _ q1)
    have G3 := G.keeps base3
    have c13 := cell_at c15 fun o q => kp3 _ _ (neN (by omega)) (neN (by omega)) (neN (by omega)) (neN (by omega)) q
    have c23 := cell_at c25 fun o q => kp3 _ _ (neN (by omega)) (neN (by omega)) (neN (by omega)) (neN (by omega)) q
    refine Call_ ?_
    refine wpAny_Name (wpAny_loadName_cell rfl rfl rfl c23 ?_)
    refine callWith_K G3.k hkf ?_
    refine spliced_more ?_
    refine wpAny_Name (wpAny_loadName_cell rfl rfl rfl c13 ?_)
    refine spliced_none ?_
    refine ⟨G3.k, ?_⟩
    obtain ⟨ys, x, rfl⟩ : ∃ ys x, cur = ys ++ [x] := by
      rcases List.eq_nil_or_concat cur with rfl | ⟨ys, x, e⟩
      · simp at hlen; omega
      · exact ⟨ys, x, by simpa using e⟩
    have hlen' : i + (ys.length + 1) = e.length := by simpa using hlen
    refine wpAny_call (P (ys := ys) (x := x) G base3 hbl (by show A.depth + 1 < _; omega) (by show A.units + 3 < _; omega) lL3 pC3 (by omega) fun h4 tk4 k4 l4 => ?_)
    dsimp only at k4 l4 ⊢
    have y4 : (ys ++ [x]).head (by simp) ∈ ys ++ [x] := List.head_mem _
    have st := dr.step O
    have hpm := hpop_perm lt x ys
    have hplen : (hpop lt x (ys ++ [x])).length = ys.length := by
      have := hpm.length_eq
      simpa using this
    have hpC : ∀ z ∈ hpop lt x (ys ++ [x]), z ∈ ys ++ [x] := fun z hz => hpm.mem_iff.mp (.tail _ hz)
    generalize (ys ++ [x]).head (by simp) = y at *
    obtain ⟨nD, oD⟩ := ls_at lD3 fun o q => k4 _ _ (Ne.symm nlD) q
    have pC4 := pC3.at (noPair_ls lL3) k4
    have pR4 := pR3.at (noPair_ls lL3) k4
    have it4 : IsRangeIter h4 I _ _ 1 := k4 _ _ (Ne.symm nlI) it3
    have nC4 := ns_at nC3 fun o q => k4 _ _ (by show C ≠ l; exact Ne.symm nlC) q
    refine append_at (its := vals row) oD (fun h5 sb5 o5 => ?_) (by rw [sizeLine_eq]; simp; omega)
    dsimp only at sb5 ⊢
    have sb5' : ∀ b o, b ≠ D → h4.get? b = some o → h5.get? b = some o := fun b o nb q => (sb5.2 b nb).trans q
    refine ⟨e.length - (i + 1), by omega, h5, _, _, row ++ [y], hpop lt x (ys ++ [x]), i + 1, rfl, rfl, by simp [hi], by omega, fun b o n1 n2 n3 n4 q => sb5' _ _ n3 (k4 _ _ n1 (kp3 b o n1 n2 n3 n4 q)), ?_, ⟨nD + 1, ?_⟩, ns_at nC4 fun o q => sb5' _ _ (by show C ≠ D; exact nCD) q, ls_at l4 fun o q => sb5' _ _ nlD q, ?_, ?_, st⟩
    · have := sb5' _ _ (Ne.symm nDI) it4
      rw [show ((i : Nat) : Int) + 1 = ((i + 1 : Nat) : Int) by omega, show (e.length : Int) - (i : Nat) - 1 = (e.length : Int) - ((i + 1 : Nat) : Int) by omega] at this
      exact this
    · rw [o5]
      have e1 : (vals row).push y.1 = vals (row ++ [y]) := by simp
      rw [e1]
    · intro z hz
      have : PairAt h4 z.1 z.2 := by
        rcases List.mem_append.mp hz with hz | hz
        · exact pR4 z hz
        · rw [List.mem_singleton.mp hz]; exact pC4 y y4
      exact this.at (noPair_ls ⟨nD, oD⟩) sb5'
    · intro z hz
      exact (pC4 z (hpC z hz)).at (noPair_ls ⟨nD, oD⟩) sb5'
end
end Mine
end

-- part R2
section
open PySem PySem.W PyProof.Rows
set_option Elab.async false
set_option maxRecDepth 100000
namespace Mine
section
variable {prog : Program} {w : World} {A : Around} {R : Result → Shared → Prop} {s : Shared}

theorem min_loop (O : Ord ltE) {l I S : Addr} {es : List Elt} (hh : A.handled = none) (hu : A.units < 9000) (hlI : l ≠ I) (hSI : S ≠ I) (hSl : S ≠ l) :
    ∀ (k j : Nat) (s : Shared) (best : Elt) (c : Nat), es.length - (j + 1) = k → j + 1 ≤ es.length → s.heap.IsListIter I l (j + 1) → LsAt s.heap l es → PairsIn s.heap es → best ∈ es → (∀ x ∈ es.take (j + 1), ltE x best = false) →
    s.heap.get? S = some { cls := .type "list", dict := none, data := .seq #[best.1, best.1] c, slots := #[] } →
    (∀ m h' tk, m ∈ es → (∀ x ∈ es, ltE x m = false) → (∀ b o, b ≠ I → b ≠ S → s.heap.get? b = some o → h'.get? b = some o) → R (.ok (.ret m.1)) { s with heap := h', toks := tk }) →
    codeAny (model prog w) A (.builtin "min.loop" ⟨[.ref I, .none, .ref S], []⟩) R s := by
  have hname : (toString "min" ++ toString ".loop" : String) = "min.loop" := by decide
  have W : Walks prog w A.in1 I [I, l] [I] es.length (fun i v => (vals es)[i]? = some v) (fun i h => h.IsListIter I l i ∧ h.IsList l (vals es)) := by
    have := Walks.list (prog := prog) (w := w) (A := A.in1) hh I l hlI (vals es)
    simpa using this
  have isL : ∀ {h : Heap}, LsAt h l es → h.IsList l (vals es) := fun x => by obtain ⟨n, q⟩ := x; exact PySem.IsL.isList (n := n) q
  intro k
  induction k with
  | zero =>
    intro j s best c hk hj hit hl hp hb hmin hS hR
    have hin : j + 1 = es.length := by omega
    refine codeAny_builtin F.entry_min_loop ?_
    rw [Around.under_plainId F.plain_min_loop _]
    show wpAny _ A.in1 (seqItems? (.ref S) >>= _) _ _ s
    refine wpAny_bind (wpAny_seqItems hS rfl ?_)
    show wpAny _ A.in1 (tryCatch (pyNext (.ref I)) _ >>= _) _ _ s
    refine wpAny_bind (wpAny_tryCatch (W.done s _ _ (hin ▸ ⟨hit, isL hl⟩) fun h' tk hk' => ?_))
    have hS' := hk' S _ (by simpa using hSI) hS
    show wpAny _ A.in1 (updateSeq S (fun _ => #[]) >>= _) _ _ _
    refine wpAny_bind ?_
    refine wpAny_updateSeq hS' rfl (wpAny_bind (wpAny_letGo (wpAny_pure ?_)))
    refine hR best _ tk hb (by rw [hin, List.take_of_length_le (Nat.le_refl _)] at hmin; exact hmin) fun b o hbI hbS e => (Heap.get?_update_other _ _ (Ne.symm hbS)).trans (hk' b o (by simpa using hbI) e)
  | succ k ih =>
    intro j s best c hk hj hit hl hp hb hmin hS hR
    have hlt : j + 1 < es.length := by omega
    refine codeAny_builtin F.entry_min_loop ?_
    rw [Around.under_plainId F.plain_min_loop _]
    show wpAny _ A.in1 (seqItems? (.ref S) >>= _) _ _ s
    refine wpAny_bind (wpAny_seqItems hS rfl ?_)
    show wpAny _ A.in1 (tryCatch (pyNext (.ref I)) _ >>= _) _ _ s
    refine wpAny_bind (wpAny_tryCatch (W.item (j + 1) s _ _ hlt ⟨hit, isL hl⟩ fun v h' tk hP hst' hk' => ?_))
    have hS' := hk' S _ (by simpa using hSI) hS
    have hv : v = (es[j + 1]).1 := by
      have : (vals es)[j + 1]? = some (es[j + 1]).1 := by simp [hlt]
      rw [this] at hP
      exact (Option.some.inj hP).symm
    subst hv
    have hl' : LsAt h' l es := ls_at hl fun o q => hk' _ _ (by simpa using hlI) q
    have hp' : PairsIn h' es := hp.at (a := I) ⟨hit.choose, hit.choose_spec.1, fun p t u n e => by
      have q := hit.choose_spec.2.1
      rw [e] at q
      exact absurd (show Value.type "tuple" = Value.type "list_iterator" from q) (by decide)⟩ fun b o nb q => hk' b o (by simpa using nb) q
    have hm := List.getElem_mem hlt
    have tk1 : es.take (j + 1 + 1) = es.take (j + 1) ++ [es[j + 1]] := by rw [List.take_succ_eq_append_getElem hlt]
    show wpAny _ A.in1 (tryCatch (holding [(es[j + 1]).1, (es[j + 1]).1] (richCompare .Lt (es[j + 1]).1 best.1 >>= _)) _ >>= _) _ _ _
    refine wpAny_bind (wpAny_tryCatch (wpAny_holding (wpAny_bind (rich_lt (by show A.units + 1 < _; unfold cLine; omega) (hp' _ hm) (hp' best hb) ?_))))
    refine wpAny_bind (wpAny_holding (wpAny_truthy_bool ?_))
    refine wpAny_bind (wpAny_letGo (wpAny_pure ?_))
    generalize es[j + 1] = v at *
    by_cases hc : ltE v best = true
    · rw [if_pos (show lex v.2 best.2 = true from hc)]
      refine wpAny_bind ?_
      refine wpAny_updateSeq hS' rfl (wpAny_bind (wpAny_letGo ?_))
      rw [hname]
      have ksu : ∀ b o, b ≠ S → h'.get? b = some o → (h'.update S (Obj.mapSeq fun _ => #[v.1, v.1])).get? b = some o := fun b o nb q => (Heap.get?_update_other _ _ (Ne.symm nb)).trans q
      have noS : NoPair h' S := ⟨_, hS', fun p t u n e => by
        have q : Value.type "list" = Value.type "tuple" := congrArg Obj.cls e
        exact absurd q (by decide)⟩
      refine wpAny_pure ⟨plainId_quiet F.plain_min_loop _, ih (j + 1) _ v _ (by omega) hlt ?_ (ls_at hl' fun o q => ksu _ _ (Ne.symm hSl) q) (hp'.at noS ksu) hm ?_ (Heap.get?_update_self _ hS' rfl) fun m' h'' tk'' a1 a2 hk'' => ?_⟩
      · obtain ⟨o, q, r⟩ := hst'.1
        exact ⟨o, ksu _ _ (Ne.symm hSI) q, r⟩
      · intro x hx
        rw [tk1] at hx
        rcases List.mem_append.mp hx with hx | hx
        · exact O.ntr _ _ _ (hmin x hx) (O.asym _ _ hc)
        · rw [List.mem_singleton.mp hx]
          cases q : ltE v v
          · rfl
          · have := O.asym _ _ q; rw [q] at this; cases this
      · exact hR m' h'' tk'' a1 a2 fun b o hbI hbS e => hk'' b o hbI hbS (ksu _ _ hbS (hk' b o (by simpa using hbI) e))
    · rw [if_neg (show ¬ lex v.2 best.2 = true from hc)]
      refine wpAny_bind (wpAny_letGo ?_)
      rw [hname]
      refine wpAny_pure ⟨plainId_quiet F.plain_min_loop _, ih (j + 1) _ best c (by omega) hlt hst'.1 hl' hp' hb ?_ hS' fun m' h'' tk'' a1 a2 hk'' => ?_⟩
      · intro x hx
        rw [tk1] at hx
        rcases List.mem_append.mp hx with hx | hx
        · exact hmin x hx
        · rw [List.mem_singleton.mp hx]; simpa using hc
      · exact hR m' h'' tk'' a1 a2 fun b o hbI hbS e => hk'' b o hbI hbS (hk' b o (by simpa using hbI) e)

theorem min_pairs {l : Addr} {es : List Elt} {E : Value → Shared → Prop} {Q : Value → Shared → Prop} (hh : A.handled = none) (hu : A.units < 9000) (hl : LsAt s.heap l es) (hp : PairsIn s.heap es) (hne : 0 < es.length)
    (h : ∀ m h' tk, m ∈ es → (∀ x ∈ es, ltE x m = false) → s.heap.StaysIn h' → Q m.1 { s with heap := h', toks := tk }) : wpAny (model prog w) A (call (.builtin "min") [.ref l]) Q E s := by
  have hname : (toString "min" ++ toString ".loop" : String) = "min.loop" := by decide
  have O := ord_lt
  obtain ⟨n, hl0⟩ := id hl
  have isL : s.heap.IsList l (vals es) := PySem.IsL.isList (n := n) hl0
  have llt := ltN (Heap.lt_size hl0)
  refine call_function_tree F.kind_min F.plain_min F.entry_min (F.args_min1 _) ?_
  show wpAny _ A.in1 (Builtin.Builtins.bindParams "min" ["key", "default"] 0 ⟨[], []⟩ >>= _) _ _ s
  refine wpAny_bind (wpAny_of_eq (show Builtin.Builtins.bindParams "min" ["key", "default"] 0 ⟨[], []⟩ = pure [none, none] from rfl) ?_)
  refine wpAny_bind (wpAny_pure ?_)
  refine wpAny_bind (wpAny_pyIter_list isL ?_)
  refine wpAny_bind (wpAny_newObj_type ?_)
  rw [hname]
  dsimp only
  have k1 : s.heap.StaysIn (s.heap.push { cls := .type "list_iterator", data := .fields #[.ref l, .int 0 0] }) := fun b o q => Heap.get?_push_of_some _ q
  have z1 := size_push' s.heap { cls := .type "list_iterator", data := .fields #[.ref l, .int 0 0] }
  have it1 : (s.heap.push { cls := .type "list_iterator", data := .fields #[.ref l, .int 0 0] }).get? s.heap.objs.size = some { cls := .type "list_iterator", data := .fields #[.ref l, .int 0 0] } := Heap.get?_push_size _ rfl
  generalize s.heap.push { cls := .type "list_iterator", data := .fields #[.ref l, .int 0 0] } = h1 at *
  have k2 : h1.StaysIn (h1.push { cls := .type "list", data := .seq #[] }) := fun b o q => Heap.get?_push_of_some _ q
  have S2 : (h1.push { cls := .type "list", data := .seq #[] }).get? h1.objs.size = some { cls := .type "list", data := .seq #[] } := Heap.get?_push_size _ rfl
  generalize h1.push { cls := .type "list", data := .seq #[] } = h2 at *
  have K : s.heap.StaysIn h2 := fun b o q => k2 _ _ (k1 _ _ q)
  have it2 := k2 _ _ it1
  have hSI : h1.objs.size ≠ s.heap.objs.size := neN (by omega)
  have hlI : l ≠ s.heap.objs.size := neN (by omega)
  have hSl : h1.objs.size ≠ l := neN (by omega)
  have l2 : LsAt h2 l es := ls_at hl fun o q => K _ _ q
  have p2 : PairsIn h2 es := pairsIn_keep hp K
  refine wpAny_pure ⟨plainId_quiet F.plain_min_loop _, ?_⟩
  -- the first item
  have W : Walks prog w A.in1 s.heap.objs.size [s.heap.objs.size, l] [s.heap.objs.size] es.length (fun i v => (vals es)[i]? = some v) (fun i h => h.IsListIter s.heap.objs.size l i ∧ h.IsList l (vals es)) := by
    have := Walks.list (prog := prog) (w := w) (A := A.in1) hh s.heap.objs.size l hlI (vals es)
    simpa using this
  refine codeAny_builtin F.entry_min_loop ?_
  rw [Around.under_plainId F.plain_min_loop _]
  show wpAny _ A.in1 (seqItems? (.ref h1.objs.size) >>= _) _ _ _
  refine wpAny_bind (wpAny_seqItems S2 rfl ?_)
  show wpAny _ A.in1 (tryCatch (pyNext (.ref s.heap.objs.size)) _ >>= _) _ _ _
  refine wpAny_bind (wpAny_tryCatch (W.item 0 _ _ _ hne ⟨⟨_, it2, rfl, rfl⟩, by obtain ⟨n, q⟩ := l2; exact PySem.IsL.isList (n := n) q⟩ fun v h' tk hP hst' hk' => ?_))
  dsimp only at hk'
  have hS' := hk' _ _ (by simpa using hSI) S2
  have hv : v = (es[0]).1 := by
    have : (vals es)[0]? = some (es[0]).1 := by simp [hne]
    rw [this] at hP
    exact (Option.some.inj hP).symm
  subst hv
  have hl' : LsAt h' l es := ls_at l2 fun o q => hk' _ _ (by simpa using hlI) q
  have hp' : PairsIn h' es := p2.at (a := s.heap.objs.size) ⟨_, it2, fun p t u n e => by
    have q : Value.type "list_iterator" = Value.type "tuple" := congrArg Obj.cls e
    exact absurd q (by decide)⟩ fun b o nb q => hk' b o (by simpa using nb) q
  have hm := List.getElem_mem hne
  have tk1 : es.take (0 + 1) = [es[0]] := by rw [List.take_succ_eq_append_getElem hne]; simp
  show wpAny _ A.in1 (updateSeq h1.objs.size (fun _ => #[(es[0]).1, (es[0]).1]) >>= _) _ _ _
  refine wpAny_bind ?_
  refine wpAny_updateSeq hS' rfl ?_
  rw [hname]
  generalize es[0] = v at *
  have ksu : ∀ b o, b ≠ h1.objs.size → h'.get? b = some o → (h'.update h1.objs.size (Obj.mapSeq fun _ => #[v.1, v.1])).get? b = some o := fun b o nb q => (Heap.get?_update_other _ _ (Ne.symm nb)).trans q
  have noS : NoPair h' h1.objs.size := ⟨_, hS', fun p t u n e => by
    have q : Value.type "list" = Value.type "tuple" := congrArg Obj.cls e
    exact absurd q (by decide)⟩
  refine wpAny_pure ⟨plainId_quiet F.plain_min_loop _, min_loop ord_lt hh hu hlI hSI hSl _ 0 _ v _ rfl hne ?_ (ls_at hl' fun o q => ksu _ _ (Ne.symm hSl) q) (hp'.at noS ksu) hm ?_ (Heap.get?_update_self _ hS' rfl) fun m' h'' tk'' a1 a2 hk'' => ?_⟩
  · obtain ⟨o, q, r⟩ := hst'.1
    exact ⟨o, ksu _ _ (Ne.symm hSI) q, r⟩
  · intro x hx
    rw [tk1, List.mem_singleton] at hx
    rw [hx]
    cases q : ltE v v
    · rfl
    · have := O.asym _ _ q; rw [q] at this; cases this
  · refine h m' h'' tk'' a1 a2 fun b o q => ?_
    have hlt := ltN (Heap.lt_size q)
    have n1 : b ≠ s.heap.objs.size := neN (by omega)
    have n2 : b ≠ h1.objs.size := neN (by omega)
    exact hk'' b o n1 n2 (ksu _ _ n2 (hk' b o (by simpa using n1) (K _ _ q)))

theorem max_loop (O : Ord gtE) {l I S : Addr} {es : List Elt} (hh : A.handled = none) (hu : A.units < 9000) (hlI : l ≠ I) (hSI : S ≠ I) (hSl : S ≠ l) :
    ∀ (k j : Nat) (s : Shared) (best : Elt) (c : Nat), es.length - (j + 1) = k → j + 1 ≤ es.length → s.heap.IsListIter I l (j + 1) → LsAt s.heap l es → PairsIn s.heap es → best ∈ es → (∀ x ∈ es.take (j + 1), gtE x best = false) →
    s.heap.get? S = some { cls := .type "list", dict := none, data := .seq #[best.1, best.1] c, slots := #[] } →
    (∀ m h' tk, m ∈ es → (∀ x ∈ es, gtE x m = false) → (∀ b o, b ≠ I → b ≠ S → s.heap.get? b = some o → h'.get? b = some o) → R (.ok (.ret m.1)) { s with heap := h', toks := tk }) →
    codeAny (model prog w) A (.builtin "max.loop" ⟨[.ref I, .none, .ref S], []⟩) R s := by
  have hname : (toString "max" ++ toString ".loop" : String) = "max.loop" := by decide
  have W : Walks prog w A.in1 I [I, l] [I] es.length (fun i v => (vals es)[i]? = some v) (fun i h => h.IsListIter I l i ∧ h.IsList l (vals es)) := by
    have := Walks.list (prog := prog) (w := w) (A := A.in1) hh I l hlI (vals es)
    simpa using this
  have isL : ∀ {h : Heap}, LsAt h l es → h.IsList l (vals es) := fun x => by obtain ⟨n, q⟩ := x; exact PySem.IsL.isList (n := n) q
  intro k
  induction k with
  | zero =>
    intro j s best c hk hj hit hl hp hb hmin hS hR
    have hin : j + 1 = es.length := by omega
    refine codeAny_builtin F.entry_max_loop ?_
    rw [Around.under_plainId F.plain_max_loop _]
    show wpAny _ A.in1 (seqItems? (.ref S) >>= _) _ _ s
    refine wpAny_bind (wpAny_seqItems hS rfl ?_)
    show wpAny _ A.in1 (tryCatch (pyNext (.ref I)) _ >>= _) _ _ s
    refine wpAny_bind (wpAny_tryCatch (W.done s _ _ (hin ▸ ⟨hit, isL hl⟩) fun h' tk hk' => ?_))
    have hS' := hk' S _ (by simpa using hSI) hS
    show wpAny _ A.in1 (updateSeq S (fun _ => #[]) >>= _) _ _ _
    refine wpAny_bind ?_
    refine wpAny_updateSeq hS' rfl (wpAny_bind (wpAny_letGo (wpAny_pure ?_)))
    refine hR best _ tk hb (by rw [hin, List.take_of_length_le (Nat.le_refl _)] at hmin; exact hmin) fun b o hbI hbS e => (Heap.get?_update_other _ _ (Ne.symm hbS)).trans (hk' b o (by simpa using hbI) e)
  | succ k ih =>
    intro j s best c hk hj hit hl hp hb hmin hS hR
    have hlt : j + 1 < es.length := by omega
    refine codeAny_builtin F.entry_max_loop ?_
    rw [Around.under_plainId F.plain_max_loop _]
    show wpAny _ A.in1 (seqItems? (.ref S) >>= _) _ _ s
    refine wpAny_bind (wpAny_seqItems hS rfl ?_)
    show wpAny _ A.in1 (tryCatch (pyNext (.ref I)) _ >>= _) _ _ s
    refine wpAny_bind (wpAny_tryCatch (W.item (j + 1) s _ _ hlt ⟨hit, isL hl⟩ fun v h' tk hP hst' hk' => ?_))
    have hS' := hk' S _ (by simpa using hSI) hS
    have hv : v = (es[j + 1]).1 := by
      have : (vals es)[j + 1]? = some (es[j + 1]).1 := by simp [hlt]
      rw [this] at hP
      exact (Option.some.inj hP).symm
    subst hv
    have hl' : LsAt h' l es := ls_at hl fun o q => hk' _ _ (by simpa using hlI) q
    have hp' : PairsIn h' es := hp.at (a := I) ⟨hit.choose, hit.choose_spec.1, fun p t u n e => by
      have q := hit.choose_spec.2.1
      rw [e] at q
      exact absurd (show Value.type "tuple" = Value.type "list_iterator" from q) (by decide)⟩ fun b o nb q => hk' b o (by simpa using nb) q
    have hm := List.getElem_mem hlt
    have tk1 : es.take (j + 1 + 1) = es.take (j + 1) ++ [es[j + 1]] := by rw [List.take_succ_eq_append_getElem hlt]
    show wpAny _ A.in1 (tryCatch (holding [(es[j + 1]).1, (es[j + 1]).1] (richCompare .Gt (es[j + 1]).1 best.1 >>= _)) _ >>= _) _ _ _
    refine wpAny_bind (wpAny_tryCatch (wpAny_holding (wpAny_bind (rich_gt (by show A.units + 1 < _; unfold cLine; omega) (hp' _ hm) (hp' best hb) ?_))))
    refine wpAny_bind (wpAny_holding (wpAny_truthy_bool ?_))
    refine wpAny_bind (wpAny_letGo (wpAny_pure ?_))
    generalize es[j + 1] = v at *
    by_cases hc : gtE v best = true
    · rw [if_pos (show lex best.2 v.2 = true from hc)]
      refine wpAny_bind ?_
      refine wpAny_updateSeq hS' rfl (wpAny_bind (wpAny_letGo ?_))
      rw [hname]
      have ksu : ∀ b o, b ≠ S → h'.get? b = some o → (h'.update S (Obj.mapSeq fun _ => #[v.1, v.1])).get? b = some o := fun b o nb q => (Heap.get?_update_other _ _ (Ne.symm nb)).trans q
      have noS : NoPair h' S := ⟨_, hS', fun p t u n e => by
        have q : Value.type "list" = Value.type "tuple" := congrArg Obj.cls e
        exact absurd q (by decide)⟩
      refine wpAny_pure ⟨plainId_quiet F.plain_max_loop _, ih (j + 1) _ v _ (by omega) hlt ?_ (ls_at hl' fun o q => ksu _ _ (Ne.symm hSl) q) (hp'.at noS ksu) hm ?_ (Heap.get?_update_self _ hS' rfl) fun m' h'' tk'' a1 a2 hk'' => ?_⟩
      · obtain ⟨o, q, r⟩ := hst'.1
        exact ⟨o, ksu _ _ (Ne.symm hSI) q, r⟩
      · intro x hx
        rw [tk1] at hx
        rcases List.mem_append.mp hx with hx | hx
        · exact O.ntr _ _ _ (hmin x hx) (O.asym _ _ hc)
        · rw [List.mem_singleton.mp hx]
          cases q : gtE v v
          · rfl
          · have := O.asym _ _ q; rw [q] at this; cases this
      · exact hR m' h'' tk'' a1 a2 fun b o hbI hbS e => hk'' b o hbI hbS (ksu _ _ hbS (hk' b o (by simpa using hbI) e))
    · rw [if_neg (show ¬ lex best.2 v.2 = true from hc)]
      refine wpAny_bind (wpAny_letGo ?_)
      rw [hname]
      refine wpAny_pure ⟨plainId_quiet F.plain_max_loop _, ih (j + 1) _ best c (by omega) hlt hst'.1 hl' hp' hb ?_ hS' fun m' h'' tk'' a1 a2 hk'' => ?_⟩
      · intro x hx
        rw [tk1] at hx
        rcases List.mem_append.mp hx with hx | hx
        · exact hmin x hx
        · rw [List.mem_singleton.mp hx]; simpa using hc
      · exact hR m' h'' tk'' a1 a2 fun b o hbI hbS e => hk'' b o hbI hbS (hk' b o (by simpa using hbI) e)

theorem max_pairs {l : Addr} {es : List Elt} {E : Value → Shared → Prop} {Q : Value → Shared → Prop} (hh : A.handled = none) (hu : A.units < 9000) (hl : LsAt s.heap l es) (hp : PairsIn s.heap es) (hne : 0 < es.length)
    (h : ∀ m h' tk, m ∈ es → (∀ x ∈ es, gtE x m = false) → s.heap.StaysIn h' → Q m.1 { s with heap := h', toks := tk }) : wpAny (model prog w) A (call (.builtin "max") [.ref l]) Q E s := by
  have hname : (toString "max" ++ toString ".loop" : String) = "max.loop" := by decide
  have O := ord_gt
  obtain ⟨n, hl0⟩ := id hl
  have isL : s.heap.IsList l (vals es) := PySem.IsL.isList (n := n) hl0
  have llt := ltN (Heap.lt_size hl0)
  refine call_function_tree F.kind_max F.plain_max F.entry_max (F.args_max1 _) ?_
  show wpAny _ A.in1 (Builtin.Builtins.bindParams "max" ["key", "default"] 0 ⟨[], []⟩ >>= _) _ _ s
  refine wpAny_bind (wpAny_of_eq (show Builtin.Builtins.bindParams "max" ["key", "default"] 0 ⟨[], []⟩ = pure [none, none] from rfl) ?_)
  refine wpAny_bind (wpAny_pure ?_)
  refine wpAny_bind (wpAny_pyIter_list isL ?_)
  refine wpAny_bind (wpAny_newObj_type ?_)
  rw [hname]
  dsimp only
  have k1 : s.heap.StaysIn (s.heap.push { cls := .type "list_iterator", data := .fields #[.ref l, .int 0 0] }) := fun b o q => Heap.get?_push_of_some _ q
  have z1 := size_push' s.heap { cls := .type "list_iterator", data := .fields #[.ref l, .int 0 0] }
  have it1 : (s.heap.push { cls := .type "list_iterator", data := .fields #[.ref l, .int 0 0] }).get? s.heap.objs.size = some { cls := .type "list_iterator", data := .fields #[.ref l, .int 0 0] } := Heap.get?_push_size _ rfl
  generalize s.heap.push { cls := .type "list_iterator", data := .fields #[.ref l, .int 0 0] } = h1 at *
  have k2 : h1.StaysIn (h1.push { cls := .type "list", data := .seq #[] }) := fun b o q => Heap.get?_push_of_some _ q
  have S2 : (h1.push { cls := .type "list", data := .seq #[] }).get? h1.objs.size = some { cls := .type "list", data := .seq #[] } := Heap.get?_push_size _ rfl
  generalize h1.push { cls := .type "list", data := .seq #[] } = h2 at *
  have K : s.heap.StaysIn h2 := fun b o q => k2 _ _ (k1 _ _ q)
  have it2 := k2 _ _ it1
  have hSI : h1.objs.size ≠ s.heap.objs.size := neN (by omega)
  have hlI : l ≠ s.heap.objs.size := neN (by omega)
  have hSl : h1.objs.size ≠ l := neN (by omega)
  have l2 : LsAt h2 l es := ls_at hl fun o q => K _ _ q
  have p2 : PairsIn h2 es := pairsIn_keep hp K
  refine wpAny_pure ⟨plainId_quiet F.plain_max_loop _, ?_⟩
  -- the first item
  have W : Walks prog w A.in1 s.heap.objs.size [s.heap.objs.size, l] [s.heap.objs.size] es.length (fun i v => (vals es)[i]? = some v) (fun i h => h.IsListIter s.heap.objs.size l i ∧ h.IsList l (vals es)) := by
    have := Walks.list (prog := prog) (w := w) (A := A.in1) hh s.heap.objs.size l hlI (vals es)
    simpa using this
  refine codeAny_builtin F.entry_max_loop ?_
  rw [Around.under_plainId F.plain_max_loop _]
  show wpAny _ A.in1 (seqItems? (.ref h1.objs.size) >>= _) _ _ _
  refine wpAny_bind (wpAny_seqItems S2 rfl ?_)
  show wpAny _ A.in1 (tryCatch (pyNext (.ref s.heap.objs.size)) _ >>= _) _ _ _
  refine wpAny_bind (wpAny_tryCatch (W.item 0 _ _ _ hne ⟨⟨_, it2, rfl, rfl⟩, by obtain ⟨n, q⟩ := l2; exact PySem.IsL.isList (n := n) q⟩ fun v h' tk hP hst' hk' => ?_))
  dsimp only at hk'
  have hS' := hk' _ _ (by simpa using hSI) S2
  have hv : v = (es[0]).1 := by
    have : (vals es)[0]? = some (es[0]).1 := by simp [hne]
    rw [this] at hP
    exact (Option.some.inj hP).symm
  subst hv
  have hl' : LsAt h' l es := ls_at l2 fun o q => hk' _ _ (by simpa using hlI) q
  have hp' : PairsIn h' es := p2.at (a := s.heap.objs.size) ⟨_, it2, fun p t u n e => by
    have q : Value.type "list_iterator" = Value.type "tuple" := congrArg Obj.cls e
    exact absurd q (by decide)⟩ fun b o nb q => hk' b o (by simpa using nb) q
  have hm := List.getElem_mem hne
  have tk1 : es.take (0 + 1) = [es[0]] := by rw [List.take_succ_eq_append_getElem hne]; simp
  show wpAny _ A.in1 (updateSeq h1.objs.size (fun _ => #[(es[0]).1, (es[0]).1]) >>= _) _ _ _
  refine wpAny_bind ?_
  refine wpAny_updateSeq hS' rfl ?_
  rw [hname]
  generalize es[0] = v at *
  have ksu : ∀ b o, b ≠ h1.objs.size → h'.get? b = some o → (h'.update h1.objs.size (Obj.mapSeq fun _ => #[v.1, v.1])).get? b = some o := fun b o nb q => (Heap.get?_update_other _ _ (Ne.symm nb)).trans q
  have noS : NoPair h' h1.objs.size := ⟨_, hS', fun p t u n e => by
    have q : Value.type "list" = Value.type "tuple" := congrArg Obj.cls e
    exact absurd q (by decide)⟩
  refine wpAny_pure ⟨plainId_quiet F.plain_max_loop _, max_loop ord_gt hh hu hlI hSI hSl _ 0 _ v _ rfl hne ?_ (ls_at hl' fun o q => ksu _ _ (Ne.symm hSl) q) (hp'.at noS ksu) hm ?_ (Heap.get?_update_self _ hS' rfl) fun m' h'' tk'' a1 a2 hk'' => ?_⟩
  · obtain ⟨o, q, r⟩ := hst'.1
    exact ⟨o, ksu _ _ (Ne.symm hSI) q, r⟩
  · intro x hx
    rw [tk1, List.mem_singleton] at hx
    rw [hx]
    cases q : gtE v v
    · rfl
    · have := O.asym _ _ q; rw [q] at this; cases this
  · refine h m' h'' tk'' a1 a2 fun b o q => ?_
    have hlt := ltN (Heap.lt_size q)
    have n1 : b ≠ s.heap.objs.size := neN (by omega)
    have n2 : b ≠ h1.objs.size := neN (by omega)
    exact hk'' b o n1 n2 (ksu _ _ n2 (hk' b o (by simpa using n1) (K _ _ q)))
end
end Mine
end

-- part P1
section
open PySem
set_option Elab.async false
namespace Mine

/-- what holds between the turns of the law's loop; k pairs have been made -/
structure Inv (k : Nat) (e1 e2 e3 : List Elt) : Prop where
  h1 : IsHeap ltE e1
  h2 : IsHeap gtE e2
  n1 : (e1.map (·.2)).Nodup
  n2 : (e2.map (·.2)).Nodup
  n3 : (e3.map (·.2)).Nodup
  s1 : ∀ e ∈ e3, e ∈ e1
  s2 : ∀ e ∈ e3, e ∈ e2
  b1 : ∀ e ∈ e1, e.2.2 < (k : Int)
  b2 : ∀ e ∈ e2, e.2.2 < (k : Int)
  z1 : e1.length ≤ k
  z2 : e2.length ≤ k
  z3 : e3.length ≤ k

theorem inv_zero : Inv 0 [] [] [] := ⟨heap_nil, heap_nil, by simp, by simp, by simp, by simp, by simp, by simp, by simp, by simp, by simp, by simp⟩

theorem inj_of {es : List Elt} (n : (es.map (·.2)).Nodup) {a b : Elt} (ha : a ∈ es) (hb : b ∈ es) (h : a.2 = b.2) : a = b := by
  obtain ⟨i, hi, rfl⟩ := List.getElem_of_mem ha
  obtain ⟨j, hj, rfl⟩ := List.getElem_of_mem hb
  have : i = j := (List.getElem_inj (h₀ := by simpa using hi) (h₁ := by simpa using hj) n).mp (by simpa using h)
  subst this; rfl
theorem inD_iff {e3 : List Elt} {p : Int × Int} : InD e3 p = true ↔ ∃ e ∈ e3, e.2 = p := by
  unfold InD; simp [List.any_eq_true]
theorem inD_false {e3 : List Elt} {p : Int × Int} (h : InD e3 p = false) : ∀ e ∈ e3, e.2 ≠ p := by
  intro e he q
  have := inD_iff.mpr ⟨e, he, q⟩
  rw [h] at this; cases this

section
variable {k : Nat} {e1 e2 e3 : List Elt}
/-- a stale top goes -/
theorem Inv.clean1 {ys : List Elt} {x : Elt} (I : Inv k (ys ++ [x]) e2 e3) (hs : InD e3 ((ys ++ [x]).head (by simp)).2 = false) : Inv k (hpop ltE x (ys ++ [x])) e2 e3 := by
  have hp := hpop_perm ltE x ys
  have ne := inD_false hs
  have nd := ((hp.map (·.2)).nodup_iff.mpr I.n1)
  have hlen := hp.length_eq
  refine ⟨hpop_heap ord_lt x I.h1, I.h2, (List.nodup_cons.mp nd).2, I.n2, I.n3, fun e he => ?_, I.s2, fun e he => I.b1 e (hp.mem_iff.mp (.tail _ he)), I.b2, ?_, I.z2, I.z3⟩
  · rcases List.mem_cons.mp (hp.mem_iff.mpr (I.s1 e he)) with q | q
    · exact absurd (congrArg (·.2) q) (ne e he)
    · exact q
  · have := I.z1
    simp only [List.length_cons] at hlen
    omega
theorem Inv.clean2 {ys : List Elt} {x : Elt} (I : Inv k e1 (ys ++ [x]) e3) (hs : InD e3 ((ys ++ [x]).head (by simp)).2 = false) : Inv k e1 (hpop gtE x (ys ++ [x])) e3 := by
  have hp := hpop_perm gtE x ys
  have ne := inD_false hs
  have nd := ((hp.map (·.2)).nodup_iff.mpr I.n2)
  have hlen := hp.length_eq
  refine ⟨I.h1, hpop_heap ord_gt x I.h2, I.n1, (List.nodup_cons.mp nd).2, I.n3, I.s1, fun e he => ?_, I.b1, fun e he => I.b2 e (hp.mem_iff.mp (.tail _ he)), I.z1, ?_, I.z3⟩
  · rcases List.mem_cons.mp (hp.mem_iff.mpr (I.s2 e he)) with q | q
    · exact absurd (congrArg (·.2) q) (ne e he)
    · exact q
  · have := I.z2
    simp only [List.length_cons] at hlen
    omega

theorem nodup_push {es : List Elt} {x : Elt} (n : (es.map (·.2)).Nodup) (b : ∀ e ∈ es, e.2.2 < (k : Int)) (hx : x.2.2 = k) : ((x :: es).map (·.2)).Nodup := by
  rw [List.map_cons, List.nodup_cons]
  refine ⟨fun hm => ?_, n⟩
  obtain ⟨e, he, q⟩ := List.mem_map.mp hm
  have := b e he
  rw [q, hx] at this
  exact absurd this (Int.lt_irrefl _)

/-- a pair comes in -/
theorem Inv.push (I : Inv k e1 e2 e3) {x : Elt} (hx : x.2.2 = k) : Inv (k + 1) (hpush ltE x e1) (hpush gtE x e2) (e3 ++ [x]) := by
  have q1 := hpush_perm ltE x e1
  have q2 := hpush_perm gtE x e2
  have l1 := q1.length_eq
  have l2 := q2.length_eq
  have z1 := I.z1
  have z2 := I.z2
  have z3 := I.z3
  simp only [List.length_cons] at l1 l2
  refine ⟨hpush_heap ord_lt x I.h1, hpush_heap ord_gt x I.h2, (q1.map _).nodup_iff.mpr (nodup_push I.n1 I.b1 hx), (q2.map _).nodup_iff.mpr (nodup_push I.n2 I.b2 hx), ?_, ?_, ?_, ?_, ?_, by omega, by omega, by simp; omega⟩
  · have := nodup_push I.n3 (fun e he => I.b1 e (I.s1 e he)) hx
    exact (((List.perm_append_singleton x e3).map (·.2)).nodup_iff).mpr this
  · intro e he
    rcases List.mem_append.mp he with he | he
    · exact q1.mem_iff.mpr (.tail _ (I.s1 e he))
    · rw [List.mem_singleton.mp he]; exact q1.mem_iff.mpr (.head _)
  · intro e he
    rcases List.mem_append.mp he with he | he
    · exact q2.mem_iff.mpr (.tail _ (I.s2 e he))
    · rw [List.mem_singleton.mp he]; exact q2.mem_iff.mpr (.head _)
  · intro e he
    rcases List.mem_cons.mp (q1.mem_iff.mp he) with rfl | he
    · rw [hx]; omega
    · have := I.b1 e he; omega
  · intro e he
    rcases List.mem_cons.mp (q2.mem_iff.mp he) with rfl | he
    · rw [hx]; omega
    · have := I.b2 e he; omega

/-- told has gone out of one heap; x has come into both where rep -/
structure Mid (k : Nat) (x told : Elt) (rep : Bool) (e1 e2 e3 : List Elt) : Prop where
  h1 : IsHeap ltE e1
  h2 : IsHeap gtE e2
  n1 : (e1.map (·.2)).Nodup
  n2 : (e2.map (·.2)).Nodup
  n3 : (e3.map (·.2)).Nodup
  t3 : told ∈ e3
  s1 : ∀ e ∈ e3, e ≠ told → e ∈ e1
  s2 : ∀ e ∈ e3, e ≠ told → e ∈ e2
  xr : rep = true → x ∈ e1 ∧ x ∈ e2
  b1 : ∀ e ∈ e1, e.2.2 < ((k + 1 : Nat) : Int)
  b2 : ∀ e ∈ e2, e.2.2 < ((k + 1 : Nat) : Int)
  b3 : ∀ e ∈ e3, e.2.2 < (k : Int)
  z1 : e1.length ≤ k + 1
  z2 : e2.length ≤ k + 1
  z3 : e3.length ≤ k
  hx : x.2.2 = k

theorem top_in {es e3 : List Elt} (n : (es.map (·.2)).Nodup) (s : ∀ e ∈ e3, e ∈ es) {y : Elt} (hy : y ∈ es) (h : InD e3 y.2 = true) : y ∈ e3 := by
  obtain ⟨e, he, q⟩ := inD_iff.mp h
  rw [← inj_of n (s e he) hy q]; exact he

theorem Inv.pop1 {ys : List Elt} {x z : Elt} (I : Inv k (ys ++ [z]) e2 e3) (hx : x.2.2 = k) (hs : InD e3 ((ys ++ [z]).head (by simp)).2 = true) :
    Mid k x ((ys ++ [z]).head (by simp)) false (hpop ltE z (ys ++ [z])) e2 e3 ∧ ∀ e ∈ e3, ltE e ((ys ++ [z]).head (by simp)) = false := by
  have hp := hpop_perm ltE z ys
  have hin : (ys ++ [z]).head (by simp) ∈ ys ++ [z] := List.head_mem _
  have t3 := top_in I.n1 I.s1 hin hs
  have root : ∀ b ∈ ys ++ [z], ltE b ((ys ++ [z]).head (by simp)) = false := by
    have hh := I.h1
    cases ys with
    | nil => intro b hb; exact IsHeap.root ord_lt (y := z) (ys := []) (by simpa using hh) b (by simpa using hb)
    | cons y ys => exact IsHeap.root ord_lt (y := y) (ys := ys ++ [z]) (by simpa using hh)
  have nd := ((hp.map (·.2)).nodup_iff.mpr I.n1)
  have hlen := hp.length_eq
  have z1 := I.z1
  have z2 := I.z2
  simp only [List.length_cons] at hlen
  refine ⟨⟨hpop_heap ord_lt z I.h1, I.h2, (List.nodup_cons.mp nd).2, I.n2, I.n3, t3, fun e he hne => ?_, fun e he _ => I.s2 e he, (by intro h; cases h), fun e he => ?_, fun e he => ?_, fun e he => I.b1 e (I.s1 e he), by omega, by omega, I.z3, hx⟩, fun e he => root e (I.s1 e he)⟩
  · rcases List.mem_cons.mp (hp.mem_iff.mpr (I.s1 e he)) with q | q
    · exact absurd q hne
    · exact q
  · have := I.b1 e (hp.mem_iff.mp (.tail _ he)); omega
  · have := I.b2 e he; omega
theorem Inv.pop2 {ys : List Elt} {x z : Elt} (I : Inv k e1 (ys ++ [z]) e3) (hx : x.2.2 = k) (hs : InD e3 ((ys ++ [z]).head (by simp)).2 = true) :
    Mid k x ((ys ++ [z]).head (by simp)) false e1 (hpop gtE z (ys ++ [z])) e3 ∧ ∀ e ∈ e3, gtE e ((ys ++ [z]).head (by simp)) = false := by
  have hp := hpop_perm gtE z ys
  have hin : (ys ++ [z]).head (by simp) ∈ ys ++ [z] := List.head_mem _
  have t3 := top_in I.n2 I.s2 hin hs
  have root : ∀ b ∈ ys ++ [z], gtE b ((ys ++ [z]).head (by simp)) = false := by
    have hh := I.h2
    cases ys with
    | nil => intro b hb; exact IsHeap.root ord_gt (y := z) (ys := []) (by simpa using hh) b (by simpa using hb)
    | cons y ys => exact IsHeap.root ord_gt (y := y) (ys := ys ++ [z]) (by simpa using hh)
  have nd := ((hp.map (·.2)).nodup_iff.mpr I.n2)
  have hlen := hp.length_eq
  have z1 := I.z1
  have z2 := I.z2
  simp only [List.length_cons] at hlen
  refine ⟨⟨I.h1, hpop_heap ord_gt z I.h2, I.n1, (List.nodup_cons.mp nd).2, I.n3, t3, fun e he _ => I.s1 e he, fun e he hne => ?_, (by intro h; cases h), fun e he => ?_, fun e he => ?_, fun e he => I.b1 e (I.s1 e he), by omega, by omega, I.z3, hx⟩, fun e he => root e (I.s2 e he)⟩
  · rcases List.mem_cons.mp (hp.mem_iff.mpr (I.s2 e he)) with q | q
    · exact absurd q hne
    · exact q
  · have := I.b1 e he; omega
  · have := I.b2 e (hp.mem_iff.mp (.tail _ he)); omega
theorem Inv.rep1 {ys : List Elt} {x y : Elt} (I : Inv k (y :: ys) e2 e3) (hx : x.2.2 = k) (hs : InD e3 y.2 = true) :
    Mid k x y true (hrep ltE x (y :: ys)) (hpush gtE x e2) e3 ∧ ∀ e ∈ e3, ltE e y = false := by
  have hp := hrep_perm ltE x y ys
  have q2 := hpush_perm gtE x e2
  have t3 := top_in I.n1 I.s1 (.head _) hs
  have root := IsHeap.root ord_lt I.h1
  have n1 := I.n1
  rw [List.map_cons, List.nodup_cons] at n1
  have hlen := hp.length_eq
  have l2 := q2.length_eq
  have z1 := I.z1
  have z2 := I.z2
  simp only [List.length_cons] at hlen l2 z1
  refine ⟨⟨hrep_heap ord_lt x y I.h1, hpush_heap ord_gt x I.h2, (hp.map _).nodup_iff.mpr (nodup_push n1.2 (fun e he => I.b1 e (.tail _ he)) hx), (q2.map _).nodup_iff.mpr (nodup_push I.n2 I.b2 hx), I.n3, t3, fun e he hne => ?_, fun e he _ => q2.mem_iff.mpr (.tail _ (I.s2 e he)),
    fun _ => ⟨hp.mem_iff.mpr (.head _), q2.mem_iff.mpr (.head _)⟩, fun e he => ?_, fun e he => ?_, fun e he => I.b1 e (I.s1 e he), by omega, by omega, I.z3, hx⟩, fun e he => root e (I.s1 e he)⟩
  · rcases List.mem_cons.mp (I.s1 e he) with q | q
    · exact absurd q hne
    · exact hp.mem_iff.mpr (.tail _ q)
  · rcases List.mem_cons.mp (hp.mem_iff.mp he) with rfl | he
    · rw [hx]; omega
    · have := I.b1 e (.tail _ he); omega
  · rcases List.mem_cons.mp (q2.mem_iff.mp he) with rfl | he
    · rw [hx]; omega
    · have := I.b2 e he; omega
theorem Inv.rep2 {ys : List Elt} {x y : Elt} (I : Inv k e1 (y :: ys) e3) (hx : x.2.2 = k) (hs : InD e3 y.2 = true) :
    Mid k x y true (hpush ltE x e1) (hrep gtE x (y :: ys)) e3 ∧ ∀ e ∈ e3, gtE e y = false := by
  have hp := hrep_perm gtE x y ys
  have q1 := hpush_perm ltE x e1
  have t3 := top_in I.n2 I.s2 (.head _) hs
  have root := IsHeap.root ord_gt I.h2
  have n2 := I.n2
  rw [List.map_cons, List.nodup_cons] at n2
  have hlen := hp.length_eq
  have l1 := q1.length_eq
  have z1 := I.z1
  have z2 := I.z2
  simp only [List.length_cons] at hlen l1 z2
  refine ⟨⟨hpush_heap ord_lt x I.h1, hrep_heap ord_gt x y I.h2, (q1.map _).nodup_iff.mpr (nodup_push I.n1 I.b1 hx), (hp.map _).nodup_iff.mpr (nodup_push n2.2 (fun e he => I.b2 e (.tail _ he)) hx), I.n3, t3, fun e he _ => q1.mem_iff.mpr (.tail _ (I.s1 e he)), fun e he hne => ?_,
    fun _ => ⟨q1.mem_iff.mpr (.head _), hp.mem_iff.mpr (.head _)⟩, fun e he => ?_, fun e he => ?_, fun e he => I.b1 e (I.s1 e he), by omega, by omega, I.z3, hx⟩, fun e he => root e (I.s2 e he)⟩
  · rcases List.mem_cons.mp (I.s2 e he) with q | q
    · exact absurd q hne
    · exact hp.mem_iff.mpr (.tail _ q)
  · rcases List.mem_cons.mp (q1.mem_iff.mp he) with rfl | he
    · rw [hx]; omega
    · have := I.b1 e he; omega
  · rcases List.mem_cons.mp (hp.mem_iff.mp he) with rfl | he
    · rw [hx]; omega
    · have := I.b2 e (.tail _ he); omega

theorem Mid.done {pre post : List Elt} {x told : Elt} {rep : Bool} (M : Mid k x told rep e1 e2 (pre ++ told :: post)) : Inv (k + 1) e1 e2 (if rep = true then pre ++ post ++ [x] else pre ++ post) := by
  have pm : (told :: (pre ++ post)).Perm (pre ++ told :: post) := List.perm_middle.symm
  have nd := ((pm.map (·.2)).nodup_iff.mpr M.n3)
  rw [List.map_cons, List.nodup_cons] at nd
  have mem : ∀ e ∈ pre ++ post, e ∈ pre ++ told :: post ∧ e ≠ told := fun e he =>
    ⟨pm.mem_iff.mp (.tail _ he), fun q => nd.1 (List.mem_map.mpr ⟨e, he, by rw [q]⟩)⟩
  have hlen := pm.length_eq
  have z3 := M.z3
  simp only [List.length_cons] at hlen
  cases rep with
  | false =>
    simp only [Bool.false_eq_true, if_false]
    exact ⟨M.h1, M.h2, M.n1, M.n2, nd.2, fun e he => M.s1 e (mem e he).1 (mem e he).2, fun e he => M.s2 e (mem e he).1 (mem e he).2, M.b1, M.b2, M.z1, M.z2, by omega⟩
  | true =>
    simp only [if_true]
    refine ⟨M.h1, M.h2, M.n1, M.n2, ?_, fun e he => ?_, fun e he => ?_, M.b1, M.b2, M.z1, M.z2, by rw [List.length_append, List.length_singleton]; omega⟩
    · exact (((List.perm_append_singleton x (pre ++ post)).map (·.2)).nodup_iff).mpr (nodup_push nd.2 (fun e he => M.b3 e (mem e he).1) M.hx)
    · rcases List.mem_append.mp he with he | he
      · exact M.s1 e (mem e he).1 (mem e he).2
      · rw [List.mem_singleton.mp he]; exact (M.xr rfl).1
    · rcases List.mem_append.mp he with he | he
      · exact M.s2 e (mem e he).1 (mem e he).2
      · rw [List.mem_singleton.mp he]; exact (M.xr rfl).2
end
end Mine
end

-- part L1
section
open PySem PySem.W PyProof.Rows
set_option Elab.async false
set_option maxRecDepth 100000
set_option linter.unusedVariables false
namespace Mine

/-- the law's def, read off its record -/
noncomputable def lawFd (w : World) : FuncData := match (KF w).lookup 96 with
  | some o => (match o.data with | .func fd => fd | _ => default)
  | none => default
noncomputable def lawBody (w : World) : List Stmt := match (lawFd w).body with
  | .stmts b => b
  | _ => []
noncomputable def forBody (w : World) : List Stmt := match (lawBody w).drop 4 with
  | Stmt.For _ _ b _ _ :: _ => b
  | _ => []
noncomputable def stmtAt (w : World) (i : Nat) : Stmt := match (forBody w).drop i with
  | s :: _ => s
  | [] => Stmt.Continue default
noncomputable abbrev lawEnv (w : World) (L a : Addr) (cd : Value) : Env := envOf (lawFd w).name (lawFd w).scope L a cd

/-- what stays all along -/
structure Fx (w : World) (hb : Heap) (L a1 a2 a3 : Addr) : Prop where
  gd : Gd w hb
  bL : hb.get? L = none
  b1 : hb.get? a1 = none
  b2 : hb.get? a2 = none
  b3 : hb.get? a3 = none
  nL1 : L ≠ a1
  nL2 : L ≠ a2
  nL3 : L ≠ a3
  n12 : a1 ≠ a2
  n13 : a1 ≠ a3
  n23 : a2 ≠ a3
/-- the law's frame -/
structure Fl (hb h₀ : Heap) (L a1 a2 a3 : Addr) (h : Heap) (m : Str → Option Value) (e1 e2 e3 : List Elt) : Prop where
  ns : h.Ns L m
  base : hb.StaysIn h
  keep : ∀ b o, b ≠ L → b ≠ a1 → b ≠ a2 → b ≠ a3 → h₀.get? b = some o → h.get? b = some o
  l1 : LsAt h a1 e1
  l2 : LsAt h a2 e2
  l3 : LsAt h a3 e3
  p1 : PairsIn h e1
  p2 : PairsIn h e2
  p3 : PairsIn h e3

theorem Fx.not {w : World} {hb : Heap} {L a1 a2 a3 b : Addr} {o : Obj} (X : Fx w hb L a1 a2 a3) (q : hb.get? b = some o) : b ≠ L ∧ b ≠ a1 ∧ b ≠ a2 ∧ b ≠ a3 := by
  refine ⟨?_, ?_, ?_, ?_⟩ <;> rintro rfl
  · rw [X.bL] at q; cases q
  · rw [X.b1] at q; cases q
  · rw [X.b2] at q; cases q
  · rw [X.b3] at q; cases q

section
variable {w : World} {hb h₀ h h' : Heap} {L a1 a2 a3 : Addr} {m m' : Str → Option Value} {e1 e2 e3 e' : List Elt}
theorem Fl.grow (F : Fl hb h₀ L a1 a2 a3 h m e1 e2 e3) (k : h.StaysIn h') : Fl hb h₀ L a1 a2 a3 h' m e1 e2 e3 :=
  ⟨ns_at F.ns fun o q => k _ _ q, fun b o q => k _ _ (F.base b o q), fun b o n1 n2 n3 n4 q => k _ _ (F.keep b o n1 n2 n3 n4 q),
    ls_at F.l1 fun o q => k _ _ q, ls_at F.l2 fun o q => k _ _ q, ls_at F.l3 fun o q => k _ _ q, pairsIn_keep F.p1 k, pairsIn_keep F.p2 k, pairsIn_keep F.p3 k⟩
theorem Fl.set (X : Fx w hb L a1 a2 a3) (F : Fl hb h₀ L a1 a2 a3 h m e1 e2 e3) (n : h'.Ns L m') (sb : Heap.SameBut L h h') : Fl hb h₀ L a1 a2 a3 h' m' e1 e2 e3 := by
  have k : ∀ b o, b ≠ L → h.get? b = some o → h'.get? b = some o := fun b o nb q => (sb.2 b nb).trans q
  exact ⟨n, fun b o q => k _ _ (X.not q).1 (F.base b o q), fun b o n1 n2 n3 n4 q => k _ _ n1 (F.keep b o n1 n2 n3 n4 q),
    ls_at F.l1 fun o q => k _ _ (Ne.symm X.nL1) q, ls_at F.l2 fun o q => k _ _ (Ne.symm X.nL2) q, ls_at F.l3 fun o q => k _ _ (Ne.symm X.nL3) q,
    F.p1.at (noPair_ns F.ns) k, F.p2.at (noPair_ns F.ns) k, F.p3.at (noPair_ns F.ns) k⟩
theorem Fl.put1 (X : Fx w hb L a1 a2 a3) (F : Fl hb h₀ L a1 a2 a3 h m e1 e2 e3) (k : KeptBut a1 h h') (l : LsAt h' a1 e') (p : PairsIn h e') : Fl hb h₀ L a1 a2 a3 h' m e' e2 e3 :=
  ⟨ns_at F.ns fun o q => k _ _ X.nL1 q, fun b o q => k _ _ (X.not q).2.1 (F.base b o q), fun b o n1 n2 n3 n4 q => k _ _ n2 (F.keep b o n1 n2 n3 n4 q),
    l, ls_at F.l2 fun o q => k _ _ (Ne.symm X.n12) q, ls_at F.l3 fun o q => k _ _ (Ne.symm X.n13) q, p.at (noPair_ls F.l1) k, F.p2.at (noPair_ls F.l1) k, F.p3.at (noPair_ls F.l1) k⟩
theorem Fl.put2 (X : Fx w hb L a1 a2 a3) (F : Fl hb h₀ L a1 a2 a3 h m e1 e2 e3) (k : KeptBut a2 h h') (l : LsAt h' a2 e') (p : PairsIn h e') : Fl hb h₀ L a1 a2 a3 h' m e1 e' e3 :=
  ⟨ns_at F.ns fun o q => k _ _ X.nL2 q, fun b o q => k _ _ (X.not q).2.2.1 (F.base b o q), fun b o n1 n2 n3 n4 q => k _ _ n3 (F.keep b o n1 n2 n3 n4 q),
    ls_at F.l1 fun o q => k _ _ X.n12 q, l, ls_at F.l3 fun o q => k _ _ (Ne.symm X.n23) q, F.p1.at (noPair_ls F.l2) k, p.at (noPair_ls F.l2) k, F.p3.at (noPair_ls F.l2) k⟩
theorem Fl.put3 (X : Fx w hb L a1 a2 a3) (F : Fl hb h₀ L a1 a2 a3 h m e1 e2 e3) (k : KeptBut a3 h h') (l : LsAt h' a3 e') (p : PairsIn h e') : Fl hb h₀ L a1 a2 a3 h' m e1 e2 e' :=
  ⟨ns_at F.ns fun o q => k _ _ X.nL3 q, fun b o q => k _ _ (X.not q).2.2.2 (F.base b o q), fun b o n1 n2 n3 n4 q => k _ _ n4 (F.keep b o n1 n2 n3 n4 q),
    ls_at F.l1 fun o q => k _ _ X.n13 q, ls_at F.l2 fun o q => k _ _ X.n23 q, l, F.p1.at (noPair_ls F.l3) k, F.p2.at (noPair_ls F.l3) k, p.at (noPair_ls F.l3) k⟩
theorem Fl.pair1 (F : Fl hb h₀ L a1 a2 a3 h m e1 e2 e3) (k : KeptBut a1 h h') {v : Value} {p : Int × Int} (x : PairAt h v p) : PairAt h' v p := x.at (noPair_ls F.l1) k
theorem Fl.pair2 (F : Fl hb h₀ L a1 a2 a3 h m e1 e2 e3) (k : KeptBut a2 h h') {v : Value} {p : Int × Int} (x : PairAt h v p) : PairAt h' v p := x.at (noPair_ls F.l2) k
theorem Fl.pair3 (F : Fl hb h₀ L a1 a2 a3 h m e1 e2 e3) (k : KeptBut a3 h h') {v : Value} {p : Int × Int} (x : PairAt h v p) : PairAt h' v p := x.at (noPair_ls F.l3) k
theorem Fl.pairL (F : Fl hb h₀ L a1 a2 a3 h m e1 e2 e3) (sb : Heap.SameBut L h h') {v : Value} {p : Int × Int} (x : PairAt h v p) : PairAt h' v p := x.at (noPair_ns F.ns) fun b o nb q => (sb.2 b nb).trans q
theorem Fl.ground (X : Fx w hb L a1 a2 a3) (F : Fl hb h₀ L a1 a2 a3 h m e1 e2 e3) : Gd w h := X.gd.keeps F.base
theorem but_of {l : Addr} (sb : Heap.SameBut l h h') : KeptBut l h h' := fun b _ nb q => (sb.2 b nb).trans q
end

section
variable {prog : Program} {w : World} {A : Around} {E : Value → Shared → Prop} {s : Shared} {hb h₀ : Heap} {L a1 a2 a3 : Addr} {m : Str → Option Value} {e1 e2 e3 : List Elt} {env : Env}
theorem ldV {x : Str} {pos : Pos} {v : Value} {Q : Value → Shared → Prop} (F : Fl hb h₀ env.locals a1 a2 a3 s.heap m e1 e2 e3) (hv : m x = some v) (h : Q v s)
    (hk : env.scope.kind = .function := by rfl) (hx : env.kindOf x = some .local := by rfl) (hd : (x == ("__debug__" : Str)) = false := by decide) :
    wpAny (model prog w) A (eval (.Name x pos) env) Q E s := wpAny_Name (wpAny_loadName_local hk hx F.ns hv h) hd
theorem stV {x : Str} {v : Value} {Q : Unit → Shared → Prop} (X : Fx w hb env.locals a1 a2 a3) (F : Fl hb h₀ env.locals a1 a2 a3 s.heap m e1 e2 e3)
    (h : ∀ h', Fl hb h₀ env.locals a1 a2 a3 h' (fun y => if y = x then some v else m y) e1 e2 e3 → Heap.SameBut env.locals s.heap h' → Q () { s with heap := h', toks := s.toks + 1 })
    (hk : env.scope.kind = .function := by rfl) (hx : env.kindOf x = some .local := by rfl) : wpAny (model prog w) A (storeName env x v) Q E s :=
  wpAny_storeName_local hx F.ns (fun h' hn hs => h h' (F.set X hn hs) hs) (by rw [hk]; rfl)
end

structure Nm (m : Str → Option Value) (a1 a2 a3 aN : Addr) : Prop where
  lo : m "low" = some (.ref a1)
  hi : m "high" = some (.ref a2)
  ins : m "inside" = some (.ref a3)
  num : m "numbers" = some (.ref aN)

/-- the list of numbers, by its ints -/
def NumsAt (h : Heap) (aN : Addr) (ns : List Int) : Prop := ∃ vs : Array Value, h.IsList aN vs ∧ vs.size = ns.length ∧ ∀ (k : Nat) (x : Int), ns[k]? = some x → ∃ t, vs[k]? = some (Value.int x t)

theorem isL {h : Heap} {l : Addr} {es : List Elt} (x : LsAt h l es) : h.IsList l (vals es) := by obtain ⟨n, q⟩ := x; exact PySem.IsL.isList (n := n) q
theorem pairs_nil {h : Heap} : PairsIn h [] := by intro _ hx; cases hx
/-- its top is inside -/
def TopIn (e e3 : List Elt) : Prop := ∀ y ys, e = y :: ys → InD e3 y.2 = true

section
variable {prog : Program} {w : World} {A : Around} {s : Shared} {hb h₀ : Heap} {L a1 a2 a3 aN fa : Addr} {m : Str → Option Value} {e1 e2 e3 : List Elt} {cd : Value} {k : Nat} {v : Value} {p : Int × Int}

theorem clean_low (X : Fx w hb L a1 a2 a3) (hA : A.depth < 800) (hU : A.units < 8000) (F : Fl hb h₀ L a1 a2 a3 s.heap m e1 e2 e3) (N : Nm m a1 a2 a3 aN) (J : Inv k e1 e2 e3) (hk : k < 100) (hv : PairAt s.heap v p)
    {Q : Flow → Shared → Prop} (h : ∀ h' tk e1', Fl hb h₀ L a1 a2 a3 h' m e1' e2 e3 → Inv k e1' e2 e3 → TopIn e1' e3 → PairAt h' v p → Q .next { s with heap := h', toks := tk }) :
    wpAny (model prog w) A (exec (stmtAt w 2) (lawEnv w L fa cd)) Q (fun _ _ => False) s := by
  refine while_rule (I := fun n s' => ∃ h' tk e1', s' = { s with heap := h', toks := tk } ∧ Fl hb h₀ L a1 a2 a3 h' m e1' e2 e3 ∧ Inv k e1' e2 e3 ∧ PairAt h' v p ∧ n = e1'.length) ?_ e1.length ⟨_, _, e1, rfl, F, J, hv, rfl⟩
  clear F J hv
  rintro n s' ⟨h', tk, e1, rfl, F, J, hv, rfl⟩
  refine isTrue_and ?_
  refine wpAny_isTrue_Compare1 ?_
  refine ldV F N.lo ?_
  refine List_ (spliced_none ?_)
  refine mk_list (by simp) fun D h₂ k₂ zD hD => ?_
  have F₂ := F.grow k₂
  have hv₂ := hv.keeps k₂
  refine ne_lists (by omega) F₂.l1 F₂.p1 (fs := []) ⟨0, hD⟩ pairs_nil ?_
  refine wpAny_truthy_bool ?_
  clear F hv
  cases e1 with
  | nil =>
    rw [if_neg (by simp)]
    rw [if_neg (by simp)]
    exact h _ _ [] F₂ J (by intro _ _ e; cases e) hv₂
  | cons y ys =>
    rw [if_pos (by simp)]
    refine isTrue_and ?_
    refine wpAny_isTrue_Compare1 ?_
    refine Subscript_ ?_
    refine ldV F₂ N.lo ?_
    refine wpAny_Constant_int ?_
    have z1 := J.z1
    refine itemE (k := 0) (isL F₂.l1) (by simp) (by omega) ?_
    refine ldV F₂ N.ins ?_
    refine notIn_pairs (by omega) F₂.l3 F₂.p3 (F₂.p1 y (.head _)) ?_
    refine wpAny_truthy_bool ?_
    cases hin : InD e3 y.2 with
    | true =>
      rw [if_neg (by simp)]
      rw [if_neg (by simp)]
      refine h _ _ (y :: ys) F₂ J ?_ hv₂
      intro y' ys' e
      cases e; exact hin
    | false =>
      rw [if_pos (by simp)]
      refine isTrue_and_nil ?_
      rw [if_pos rfl]
      refine wpAny_execs_cons ?_
      refine wpAny_Expr_any ?_
      refine Call_ ?_
      have G := F₂.ground X
      refine ldG G rfl ?_
      refine callWith_K G.k rfl ?_
      refine spliced_more ?_
      refine ldV F₂ N.lo ?_
      refine spliced_none ?_
      refine ⟨G.k, ?_⟩
      obtain ⟨zs, z, e⟩ : ∃ zs z, y :: ys = zs ++ [z] := by
        rcases List.eq_nil_or_concat (y :: ys) with e | ⟨zs, z, e⟩
        · cases e
        · exact ⟨zs, z, by simpa using e⟩
      have hy : (zs ++ [z]).head (by simp) = y := by simp only [← e, List.head_cons]
      have hin' : InD e3 ((zs ++ [z]).head (by simp)).2 = false := by rw [hy]; exact hin
      have hl : (y :: ys).length = zs.length + 1 := by rw [e]; simp
      rw [hl] at z1 ⊢
      rw [e] at F₂ J
      have hp := hpop_perm ltE z zs
      refine wpAny_call (heappop_spec X.gd F₂.base X.b1 (by omega) (by omega) F₂.l1 F₂.p1 (by omega) fun h3 tk3 k3 l3 => ?_)
      dsimp only
      refine wpAny_execs_nil ?_
      dsimp only
      refine ⟨(hpop ltE z (zs ++ [z])).length, ?_, h3, _, _, rfl, F₂.put1 X k3 l3 fun x hx => F₂.p1 x (hp.mem_iff.mp (.tail _ hx)), J.clean1 hin', F₂.pair1 k3 hv₂, rfl⟩
      have := hp.length_eq
      simp at this
      omega
theorem clean_high (X : Fx w hb L a1 a2 a3) (hA : A.depth < 800) (hU : A.units < 8000) (F : Fl hb h₀ L a1 a2 a3 s.heap m e1 e2 e3) (N : Nm m a1 a2 a3 aN) (J : Inv k e1 e2 e3) (hk : k < 100) (hv : PairAt s.heap v p)
    {Q : Flow → Shared → Prop} (h : ∀ h' tk e2', Fl hb h₀ L a1 a2 a3 h' m e1 e2' e3 → Inv k e1 e2' e3 → TopIn e2' e3 → PairAt h' v p → Q .next { s with heap := h', toks := tk }) :
    wpAny (model prog w) A (exec (stmtAt w 3) (lawEnv w L fa cd)) Q (fun _ _ => False) s := by
  refine while_rule (I := fun n s' => ∃ h' tk e2', s' = { s with heap := h', toks := tk } ∧ Fl hb h₀ L a1 a2 a3 h' m e1 e2' e3 ∧ Inv k e1 e2' e3 ∧ PairAt h' v p ∧ n = e2'.length) ?_ e2.length ⟨_, _, e2, rfl, F, J, hv, rfl⟩
  clear F J hv
  rintro n s' ⟨h', tk, e2, rfl, F, J, hv, rfl⟩
  refine isTrue_and ?_
  refine wpAny_isTrue_Compare1 ?_
  refine ldV F N.hi ?_
  refine List_ (spliced_none ?_)
  refine mk_list (by simp) fun D h₂ k₂ zD hD => ?_
  have F₂ := F.grow k₂
  have hv₂ := hv.keeps k₂
  refine ne_lists (by omega) F₂.l2 F₂.p2 (fs := []) ⟨0, hD⟩ pairs_nil ?_
  refine wpAny_truthy_bool ?_
  clear F hv
  cases e2 with
  | nil =>
    rw [if_neg (by simp)]
    rw [if_neg (by simp)]
    exact h _ _ [] F₂ J (by intro _ _ e; cases e) hv₂
  | cons y ys =>
    rw [if_pos (by simp)]
    refine isTrue_and ?_
    refine wpAny_isTrue_Compare1 ?_
    refine Subscript_ ?_
    refine ldV F₂ N.hi ?_
    refine wpAny_Constant_int ?_
    have z1 := J.z2
    refine itemE (k := 0) (isL F₂.l2) (by simp) (by omega) ?_
    refine ldV F₂ N.ins ?_
    refine notIn_pairs (by omega) F₂.l3 F₂.p3 (F₂.p2 y (.head _)) ?_
    refine wpAny_truthy_bool ?_
    cases hin : InD e3 y.2 with
    | true =>
      rw [if_neg (by simp)]
      rw [if_neg (by simp)]
      refine h _ _ (y :: ys) F₂ J ?_ hv₂
      intro y' ys' e
      cases e; exact hin
    | false =>
      rw [if_pos (by simp)]
      refine isTrue_and_nil ?_
      rw [if_pos rfl]
      refine wpAny_execs_cons ?_
      refine wpAny_Expr_any ?_
      refine Call_ ?_
      have G := F₂.ground X
      refine ldG G rfl ?_
      refine callWith_K G.k rfl ?_
      refine spliced_more ?_
      refine ldV F₂ N.hi ?_
      refine spliced_none ?_
      refine ⟨G.k, ?_⟩
      obtain ⟨zs, z, e⟩ : ∃ zs z, y :: ys = zs ++ [z] := by
        rcases List.eq_nil_or_concat (y :: ys) with e | ⟨zs, z, e⟩
        · cases e
        · exact ⟨zs, z, by simpa using e⟩
      have hy : (zs ++ [z]).head (by simp) = y := by simp only [← e, List.head_cons]
      have hin' : InD e3 ((zs ++ [z]).head (by simp)).2 = false := by rw [hy]; exact hin
      have hl : (y :: ys).length = zs.length + 1 := by rw [e]; simp
      rw [hl] at z1 ⊢
      rw [e] at F₂ J
      have hp := hpop_perm gtE z zs
      refine wpAny_call (popmax_spec X.gd F₂.base X.b2 (by omega) (by omega) F₂.l2 F₂.p2 (by omega) fun h3 tk3 k3 l3 => ?_)
      dsimp only
      refine wpAny_execs_nil ?_
      dsimp only
      refine ⟨(hpop gtE z (zs ++ [z])).length, ?_, h3, _, _, rfl, F₂.put2 X k3 l3 fun x hx => F₂.p2 x (hp.mem_iff.mp (.tail _ hx)), J.clean2 hin', F₂.pair2 k3 hv₂, rfl⟩
      have := hp.length_eq
      simp at this
      omega
end
end Mine
end

-- part L2
section
open PySem PySem.W PyProof.Rows
set_option Elab.async false
set_option maxRecDepth 100000
set_option linter.unusedVariables false
namespace Mine

theorem last_of {y : Elt} {ys : List Elt} : ∃ zs z, y :: ys = zs ++ [z] := by
  rcases List.eq_nil_or_concat (y :: ys) with e | ⟨zs, z, e⟩
  · cases e
  · exact ⟨zs, z, by simpa using e⟩
theorem cons_of {es e3 : List Elt} (h : ∀ e ∈ e3, e ∈ es) (hne : e3 ≠ []) : ∃ y ys, es = y :: ys := by
  cases e3 with
  | nil => exact absurd rfl hne
  | cons a r =>
    cases es with
    | nil => exact absurd (h a (.head _)) (by simp)
    | cons y ys => exact ⟨y, ys, rfl⟩

section
variable {prog : Program} {w : World} {A : Around} {s : Shared} {hb h₀ : Heap} {L a1 a2 a3 aN fa : Addr} {m : Str → Option Value} {e1 e2 e3 : List Elt} {cd : Value} {k : Nat} {x : Elt} {c : Int} {tc : Tok}

/-- what the four calls leave -/
def Told (hb h₀ : Heap) (L a1 a2 a3 : Addr) (m : Str → Option Value) (e3 : List Elt) (k : Nat) (x : Elt) (c : Int) (h' : Heap) : Prop :=
  ∃ told e1' e2', Fl hb h₀ L a1 a2 a3 h' (fun y => if y = "told" then some told.1 else m y) e1' e2' e3 ∧ Mid k x told (decide (3 < c)) e1' e2' e3 ∧
    (c.fmod 2 = 0 → ∀ e ∈ e3, ltE e told = false) ∧ (c.fmod 2 ≠ 0 → ∀ e ∈ e3, gtE e told = false) ∧ PairAt h' x.1 x.2

theorem choose (X : Fx w hb L a1 a2 a3) (hA : A.depth < 800) (hU : A.units < 8000) (F : Fl hb h₀ L a1 a2 a3 s.heap m e1 e2 e3) (N : Nm m a1 a2 a3 aN) (hc : m "call" = some (.int c tc)) (hpr : m "pair" = some x.1)
    (J : Inv k e1 e2 e3) (hk : k < 100) (hv : PairAt s.heap x.1 x.2) (hxk : x.2.2 = k) (T1 : TopIn e1 e3) (T2 : TopIn e2 e3) (hne : e3 ≠ []) (hc1 : 2 ≤ c) (hc2 : c < 6)
    {Q : Flow → Shared → Prop} (h : ∀ h' tk, Told hb h₀ L a1 a2 a3 m e3 k x c h' → Q .next { s with heap := h', toks := tk }) :
    wpAny (model prog w) A (exec (stmtAt w 5) (lawEnv w L fa cd)) Q (fun _ _ => False) s := by
  have z1 := J.z1
  have z2 := J.z2
  obtain ⟨y1, ys1, q1⟩ := cons_of J.s1 hne
  obtain ⟨y2, ys2, q2⟩ := cons_of J.s2 hne
  have t1 := T1 _ _ q1
  have t2 := T2 _ _ q2
  have G := F.ground X
  refine wpAny_If ?_
  refine wpAny_isTrue_Compare1 ?_
  refine ldV F hc ?_
  refine wpAny_Constant_int ?_
  refine PyProof.Rows.eq_int ?_
  refine wpAny_truthy_bool ?_
  by_cases c2 : c = 2
  · subst c2
    rw [if_pos (by decide)]
    refine wpAny_execs_cons ?_
    refine wpAny_Assign_Name ?_
    refine Call_ ?_
    refine ldG G rfl ?_
    refine callWith_K G.k rfl ?_
    refine spliced_more ?_
    refine ldV F N.lo ?_
    refine spliced_none ?_
    refine ⟨G.k, ?_⟩
    subst q1
    obtain ⟨zs, z, e⟩ := last_of (y := y1) (ys := ys1)
    have hy : (zs ++ [z]).head (by simp) = y1 := by simp only [← e, List.head_cons]
    have hl : (y1 :: ys1).length = zs.length + 1 := by rw [e]; simp
    rw [hl] at z1
    rw [e] at F J
    have M := J.pop1 (x := x) hxk (by rw [hy]; exact t1)
    have hp := hpop_perm ltE z zs
    refine wpAny_call (heappop_spec X.gd F.base X.b1 (by omega) (by omega) F.l1 F.p1 (by omega) fun h3 tk3 k3 l3 => ?_)
    dsimp only
    have F3 := F.put1 X k3 l3 fun x hx => F.p1 x (hp.mem_iff.mp (.tail _ hx))
    have v3 := F.pair1 k3 hv
    refine stV X F3 fun h4 F4 sb4 => ?_
    dsimp only
    refine wpAny_execs_nil ?_
    exact h _ _ ⟨_, _, _, F4, M.1, fun _ => M.2, fun q => absurd (by decide) q, F3.pairL sb4 v3⟩
  rw [if_neg (by simpa using c2)]
  refine wpAny_execs_cons ?_
  refine wpAny_If ?_
  refine wpAny_isTrue_Compare1 ?_
  refine ldV F hc ?_
  refine wpAny_Constant_int ?_
  refine PyProof.Rows.eq_int ?_
  refine wpAny_truthy_bool ?_
  by_cases c3 : c = 3
  · subst c3
    rw [if_pos (by decide)]
    refine wpAny_execs_cons ?_
    refine wpAny_Assign_Name ?_
    refine Call_ ?_
    refine ldG G rfl ?_
    refine callWith_K G.k rfl ?_
    refine spliced_more ?_
    refine ldV F N.hi ?_
    refine spliced_none ?_
    refine ⟨G.k, ?_⟩
    subst q2
    obtain ⟨zs, z, e⟩ := last_of (y := y2) (ys := ys2)
    have hy : (zs ++ [z]).head (by simp) = y2 := by simp only [← e, List.head_cons]
    have hl : (y2 :: ys2).length = zs.length + 1 := by rw [e]; simp
    rw [hl] at z2
    rw [e] at F J
    have M := J.pop2 (x := x) hxk (by rw [hy]; exact t2)
    have hp := hpop_perm gtE z zs
    refine wpAny_call (popmax_spec X.gd F.base X.b2 (by omega) (by omega) F.l2 F.p2 (by omega) fun h3 tk3 k3 l3 => ?_)
    dsimp only
    have F3 := F.put2 X k3 l3 fun x hx => F.p2 x (hp.mem_iff.mp (.tail _ hx))
    have v3 := F.pair2 k3 hv
    refine stV X F3 fun h4 F4 sb4 => ?_
    dsimp only
    refine wpAny_execs_nil ?_
    dsimp only
    refine wpAny_execs_nil ?_
    exact h _ _ ⟨_, _, _, F4, M.1, fun q => absurd q (by decide), fun _ => M.2, F3.pairL sb4 v3⟩
  rw [if_neg (by simpa using c3)]
  refine wpAny_execs_cons ?_
  refine wpAny_If ?_
  refine wpAny_isTrue_Compare1 ?_
  refine ldV F hc ?_
  refine wpAny_Constant_int ?_
  refine PyProof.Rows.eq_int ?_
  refine wpAny_truthy_bool ?_
  by_cases c4 : c = 4
  · subst c4
    rw [if_pos (by decide)]
    refine wpAny_execs_cons ?_
    refine wpAny_Assign_Name ?_
    refine Call_ ?_
    refine ldG G rfl ?_
    refine callWith_K G.k rfl ?_
    refine spliced_more ?_
    refine ldV F N.lo ?_
    refine spliced_more ?_
    refine ldV F hpr ?_
    refine spliced_none ?_
    refine ⟨G.k, ?_⟩
    subst q1
    simp only [List.length_cons] at z1
    have M := J.rep1 (x := x) hxk t1
    have hp := hrep_perm ltE x y1 ys1
    have hq := hpush_perm gtE x e2
    refine wpAny_call (heapreplace_spec X.gd F.base X.b1 (by omega) (by omega) F.l1 F.p1 hv (by omega) fun h3 tk3 k3 l3 => ?_)
    dsimp only
    have F3 := F.put1 X (e' := hrep ltE x (y1 :: ys1)) k3 l3 fun z hz => by
      rcases List.mem_cons.mp (hp.mem_iff.mp hz) with rfl | hz
      · exact hv
      · exact F.p1 z (.tail _ hz)
    have v3 := F.pair1 k3 hv
    refine stV X F3 fun h4 F4 sb4 => ?_
    have v4 := F3.pairL sb4 v3
    dsimp only
    refine wpAny_execs_cons ?_
    refine wpAny_Expr_any ?_
    refine Call_ ?_
    have G4 := F4.ground X
    refine ldG G4 rfl ?_
    refine callWith_K G4.k rfl ?_
    refine spliced_more ?_
    refine ldV F4 N.hi ?_
    refine spliced_more ?_
    refine ldV F4 hpr ?_
    refine spliced_none ?_
    refine ⟨G4.k, ?_⟩
    refine wpAny_call (pushmax_spec X.gd F4.base X.b2 (by omega) (by omega) F4.l2 F4.p2 v4 (by omega) fun h5 tk5 k5 l5 => ?_)
    dsimp only
    have F5 := F4.put2 X (e' := hpush gtE x e2) k5 l5 fun z hz => by
      rcases List.mem_cons.mp (hq.mem_iff.mp hz) with rfl | hz
      · exact v4
      · exact F4.p2 z hz
    refine wpAny_execs_nil ?_
    dsimp only
    refine wpAny_execs_nil ?_
    dsimp only
    refine wpAny_execs_nil ?_
    exact h _ _ ⟨_, _, _, F5, M.1, fun _ => M.2, fun q => absurd (by decide) q, F4.pair2 k5 v4⟩
  rw [if_neg (by simpa using c4)]
  obtain rfl : c = 5 := by omega
  refine wpAny_execs_cons ?_
  refine wpAny_Assign_Name ?_
  refine Call_ ?_
  refine ldG G rfl ?_
  refine callWith_K G.k rfl ?_
  refine spliced_more ?_
  refine ldV F N.hi ?_
  refine spliced_more ?_
  refine ldV F hpr ?_
  refine spliced_none ?_
  refine ⟨G.k, ?_⟩
  subst q2
  simp only [List.length_cons] at z2
  have M := J.rep2 (x := x) hxk t2
  have hp := hrep_perm gtE x y2 ys2
  have hq := hpush_perm ltE x e1
  refine wpAny_call (replacemax_spec X.gd F.base X.b2 (by omega) (by omega) F.l2 F.p2 hv (by omega) fun h3 tk3 k3 l3 => ?_)
  dsimp only
  have F3 := F.put2 X (e' := hrep gtE x (y2 :: ys2)) k3 l3 fun z hz => by
    rcases List.mem_cons.mp (hp.mem_iff.mp hz) with rfl | hz
    · exact hv
    · exact F.p2 z (.tail _ hz)
  have v3 := F.pair2 k3 hv
  refine stV X F3 fun h4 F4 sb4 => ?_
  have v4 := F3.pairL sb4 v3
  dsimp only
  refine wpAny_execs_cons ?_
  refine wpAny_Expr_any ?_
  refine Call_ ?_
  have G4 := F4.ground X
  refine ldG G4 rfl ?_
  refine callWith_K G4.k rfl ?_
  refine spliced_more ?_
  refine ldV F4 N.lo ?_
  refine spliced_more ?_
  refine ldV F4 hpr ?_
  refine spliced_none ?_
  refine ⟨G4.k, ?_⟩
  refine wpAny_call (heappush_spec X.gd F4.base X.b1 (by omega) (by omega) F4.l1 F4.p1 v4 (by omega) fun h5 tk5 k5 l5 => ?_)
  dsimp only
  have F5 := F4.put1 X (e' := hpush ltE x e1) k5 l5 fun z hz => by
    rcases List.mem_cons.mp (hq.mem_iff.mp hz) with rfl | hz
    · exact v4
    · exact F4.p1 z hz
  refine wpAny_execs_nil ?_
  dsimp only
  refine wpAny_execs_nil ?_
  dsimp only
  refine wpAny_execs_nil ?_
  exact h _ _ ⟨_, _, _, F5, M.1, fun q => absurd q (by decide), fun _ => M.2, F4.pair1 k5 v4⟩
end
end Mine
end

-- part L3
section
open PySem PySem.W PyProof.Rows
set_option Elab.async false
set_option maxRecDepth 100000
set_option linter.unusedVariables false
namespace Mine

section
variable {prog : Program} {w : World} {A : Around} {E : Value → Shared → Prop} {s : Shared} {l : Addr} {es : List Elt}
theorem appL {x : Elt} {Q : Value → Shared → Prop} (hl : LsAt s.heap l es) (hz : es.length < 2 ^ 20) (h : ∀ h', Heap.SameBut l s.heap h' → LsAt h' l (es ++ [x]) → Q .none { s with heap := h' }) :
    wpAny (model prog w) A (call (.builtin "list.append") [.ref l, x.1]) Q E s := by
  obtain ⟨n, hl⟩ := hl
  refine append_at hl (fun h' hs ho' => h h' hs ⟨n + 1, ?_⟩) (by rw [sizeLine_eq]; simp; omega)
  rw [ho']
  have e : (vals es).push x.1 = vals (es ++ [x]) := by simp
  rw [e]
theorem mk_pair {a b : Int} {t u : Tok} {Q : Value → Shared → Prop} (h : ∀ v h', s.heap.StaysIn h' → PairAt h' v (a, b) → Q v { s with heap := h' }) : wpAny (model prog w) A (newTuple [.int a t, .int b u]) Q E s :=
  wpAny_newTuple (h _ _ (fun _ _ q => Heap.get?_push_of_some _ q) ⟨_, t, u, _, rfl, Heap.get?_push_size _ rfl⟩) (by rw [sizeLine_eq]; simp)
theorem methL {name : Str} {id : String} {pl : Sem Bool} {Q : Value × List Value → Shared → Prop} (hl : LsAt s.heap l es) (slot : Slot "list" name id) (hty : typeOf (.builtin id) = pure (.type "method_descriptor"))
    (h : Q (.builtin id, [.ref l]) s) : wpAny (model prog w) A (getMethod (.ref l) name pl) Q E s := by
  obtain ⟨n, hl⟩ := hl
  exact getMethod_builtin ⟨_, hl, rfl⟩ PySem.F.plainAttrs_list slot hty (fun a e => by cases e; exact ⟨_, hl, rfl⟩) h
end

section
variable {prog : Program} {w : World} {A : Around} {s : Shared} {hb h₀ : Heap} {L a1 a2 a3 aN fa : Addr} {m : Str → Option Value} {e1 e2 e3 : List Elt} {cd : Value} {k : Nat} {x : Elt} {c : Int} {tc : Tok}

/-- the three last statements of a turn -/
theorem turn_tail (X : Fx w hb L a1 a2 a3) (hA : A.depth < 800) (hU : A.units < 8000) (hh : A.handled = none) (N : Nm m a1 a2 a3 aN) (hc : m "call" = some (.int c tc)) (hpr : m "pair" = some x.1)
    (hk : k < 100) (T : Told hb h₀ L a1 a2 a3 m e3 k x c s.heap)
    {Q : Flow → Shared → Prop} (h : ∀ h' tk m' e1' e2' e3', Fl hb h₀ L a1 a2 a3 h' m' e1' e2' e3' → Nm m' a1 a2 a3 aN → Inv (k + 1) e1' e2' e3' → Q .next { s with heap := h', toks := tk }) :
    wpAny (model prog w) A (execs ((forBody w).drop 6) (lawEnv w L fa cd)) Q (fun _ _ => False) s := by
  obtain ⟨told, e1, e2, F, M, o1, o2, hv⟩ := T
  have z3 := M.z3
  have N' : Nm (fun y => if y = "told" then some told.1 else m y) a1 a2 a3 aN := ⟨N.lo, N.hi, N.ins, N.num⟩
  refine wpAny_execs_cons ?_
  refine wpAny_If ?_
  refine wpAny_mono (Q := fun b s' => ∃ h' tk, s' = { s with heap := h', toks := tk } ∧ s.heap.StaysIn h' ∧ b = false) (E := fun _ _ => False) ?_ ?_ (fun _ _ x => x)
  · refine wpAny_isTrue_Compare1 ?_
    refine ldV F rfl ?_
    refine IfExp_ ?_
    refine wpAny_isTrue_Compare1 ?_
    refine wpAny_BinOp ?_
    refine ldV F hc ?_
    refine wpAny_Constant_int ?_
    refine mod_int' (by decide) ?_
    refine wpAny_Constant_int ?_
    refine PyProof.Rows.eq_int ?_
    refine wpAny_truthy_bool ?_
    have pos : 0 < e3.length := List.length_pos_of_mem M.t3
    have G := F.ground X
    by_cases c0 : c.fmod 2 = 0
    · rw [if_pos (by simpa using c0)]
      refine Call_ ?_
      refine ldB G rfl boot_min (by decide) ?_
      refine PyProof.Rows.callWith_builtin1 ?_
      refine spliced_more ?_
      refine ldV F N.ins ?_
      refine spliced_none ?_
      refine min_pairs (by exact hh) (by omega) F.l3 F.p3 pos fun y h' tk hy hle k' => ?_
      have q : told.2 = y.2 := lex_tot _ _ (hle _ M.t3) (o1 c0 _ hy)
      refine ne_pair (by omega) ((F.p3 _ M.t3).keeps k') ((F.p3 _ hy).keeps k') ?_
      refine wpAny_truthy_bool ?_
      exact ⟨h', _, rfl, k', by simp [q]⟩
    · rw [if_neg (by simpa using c0)]
      refine Call_ ?_
      refine ldB G rfl boot_max (by decide) ?_
      refine PyProof.Rows.callWith_builtin1 ?_
      refine spliced_more ?_
      refine ldV F N.ins ?_
      refine spliced_none ?_
      refine max_pairs (by exact hh) (by omega) F.l3 F.p3 pos fun y h' tk hy hle k' => ?_
      have q : told.2 = y.2 := lex_tot _ _ (o2 c0 _ hy) (hle _ M.t3)
      refine ne_pair (by omega) ((F.p3 _ M.t3).keeps k') ((F.p3 _ hy).keeps k') ?_
      refine wpAny_truthy_bool ?_
      exact ⟨h', _, rfl, k', by simp [q]⟩
  rintro b s' ⟨h2, tk2, rfl, k2, rfl⟩
  rw [if_neg (by simp)]
  refine wpAny_execs_nil ?_
  dsimp only
  have F2 := F.grow k2
  have hv2 := hv.keeps k2
  clear F hv
  -- inside.remove(told)
  refine wpAny_execs_cons ?_
  refine wpAny_Expr_any ?_
  refine MethodCall_ ?_
  refine ldV F2 N.ins ?_
  refine methL F2.l3 PySem.F.slot_list_remove PySem.F.type_list_remove ?_
  refine callWith_method1 ?_
  refine spliced_more ?_
  refine ldV F2 rfl ?_
  refine spliced_none ?_
  obtain ⟨pre, post, rfl⟩ := List.append_of_mem M.t3
  have nd := M.n3
  have hne : ∀ e ∈ pre, e.2 ≠ told.2 := by
    rw [List.map_append, List.map_cons, List.nodup_append] at nd
    intro e he
    exact nd.2.2 _ (List.mem_map.mpr ⟨e, he, rfl⟩) _ (.head _)
  refine remove_pair (by omega) F2.l3 F2.p3 (F2.p3 _ M.t3) rfl hne (by omega) fun h3 sb3 l3 => ?_
  have k3 := but_of sb3
  have F3 := F2.put3 X k3 l3 fun z hz => F2.p3 z (by
    rcases List.mem_append.mp hz with hz | hz
    · exact List.mem_append_left _ hz
    · exact List.mem_append_right _ (.tail _ hz))
  have hv3 := F2.pair3 k3 hv2
  dsimp only
  have D := M.done
  -- if call > 3: inside.append(pair)
  refine wpAny_execs_cons ?_
  refine wpAny_If ?_
  refine wpAny_isTrue_Compare1 ?_
  refine ldV F3 hc ?_
  refine wpAny_Constant_int ?_
  refine PyProof.Rows.gt_int ?_
  refine wpAny_truthy_bool ?_
  simp only [List.length_append, List.length_cons] at z3
  by_cases c3 : 3 < c
  · rw [if_pos (by simpa using c3)]
    rw [if_pos (by simpa using c3)] at D
    refine wpAny_execs_cons ?_
    refine wpAny_Expr_any ?_
    refine MethodCall_ ?_
    refine ldV F3 N.ins ?_
    refine methL F3.l3 PySem.F.slot_list_append PySem.F.type_list_append ?_
    refine callWith_method1 ?_
    refine spliced_more ?_
    refine ldV F3 hpr ?_
    refine spliced_none ?_
    refine appL F3.l3 (by simp; omega) fun h4 sb4 l4 => ?_
    have k4 := but_of sb4
    have F4 := F3.put3 X (e' := pre ++ post ++ [x]) k4 l4 fun z hz => by
      rcases List.mem_append.mp hz with hz | hz
      · exact F3.p3 z hz
      · rw [List.mem_singleton.mp hz]; exact hv3
    dsimp only
    refine wpAny_execs_nil ?_
    dsimp only
    refine wpAny_execs_nil ?_
    exact h _ _ _ _ _ _ F4 N' D
  · rw [if_neg (by simpa using c3)]
    rw [if_neg (by simpa using c3)] at D
    refine wpAny_execs_nil ?_
    dsimp only
    refine wpAny_execs_nil ?_
    exact h _ _ _ _ _ _ F3 N' D

theorem turn_mid (X : Fx w hb L a1 a2 a3) (hA : A.depth < 800) (hU : A.units < 8000) (hh : A.handled = none) (F : Fl hb h₀ L a1 a2 a3 s.heap m e1 e2 e3) (N : Nm m a1 a2 a3 aN) (hc : m "call" = some (.int c tc)) (hpr : m "pair" = some x.1)
    (hk : k < 90) (hv : PairAt s.heap x.1 x.2) (hxk : x.2.2 = k) (c0 : 0 ≤ c) (c6 : c < 6) (J : Inv k e1 e2 e3)
    {Q : Flow → Shared → Prop} (h : ∀ f h' tk m' e1' e2' e3', f = .next ∨ f = .cont → Fl hb h₀ L a1 a2 a3 h' m' e1' e2' e3' → Nm m' a1 a2 a3 aN → Inv (k + 1) e1' e2' e3' → Q f { s with heap := h', toks := tk }) :
    wpAny (model prog w) A (execs ((forBody w).drop 2) (lawEnv w L fa cd)) Q (fun _ _ => False) s := by
  refine wpAny_execs_cons ?_
  refine clean_low X hA hU F N J (by omega) hv fun h₁ tk₁ e1 F J T1 hv => ?_
  dsimp only
  refine wpAny_execs_cons ?_
  refine clean_high X hA hU F N J (by omega) hv fun h₂ tk₂ e2 F J T2 hv => ?_
  dsimp only
  refine wpAny_execs_cons ?_
  refine wpAny_If ?_
  refine wpAny_mono (Q := fun b s' => ∃ h' tk, s' = { s with heap := h', toks := tk } ∧ h₂.StaysIn h' ∧ (b = true ↔ e3 = [] ∨ c < 2)) (E := fun _ _ => False) ?_ ?_ (fun _ _ x => x)
  · refine isTrue_or ?_
    refine wpAny_isTrue_Compare1 ?_
    refine ldV F N.ins ?_
    refine List_ (spliced_none ?_)
    refine mk_list (by simp) fun D h₃ k₃ zD hD => ?_
    have F₃ := F.grow k₃
    refine eq_lists (by omega) F₃.l3 F₃.p3 (fs := []) ⟨0, hD⟩ pairs_nil ?_
    refine wpAny_truthy_bool ?_
    by_cases he : e3 = []
    · rw [if_pos (by simp [he])]
      exact ⟨h₃, _, rfl, k₃, by simp [he]⟩
    · rw [if_neg (by simpa using he)]
      refine isTrue_or ?_
      refine wpAny_isTrue_Compare1 ?_
      refine ldV F₃ hc ?_
      refine wpAny_Constant_int ?_
      refine PyProof.Rows.lt_int ?_
      refine wpAny_truthy_bool ?_
      by_cases hc2 : c < 2
      · rw [if_pos (by simpa using hc2)]
        exact ⟨h₃, _, rfl, k₃, by simp [hc2]⟩
      · rw [if_neg (by simpa using hc2)]
        refine isTrue_or_nil ?_
        exact ⟨h₃, _, rfl, k₃, by simp [hc2, he]⟩
  rintro b s' ⟨h₃, tk₃, rfl, k₃, hb3⟩
  have F₃ := F.grow k₃
  have v₃ := hv.keeps k₃
  clear F hv
  have z1 := J.z1
  have z2 := J.z2
  have z3 := J.z3
  by_cases hcond : e3 = [] ∨ c < 2
  · rw [if_pos (hb3.mpr hcond)]
    have q1 := hpush_perm ltE x e1
    have q2 := hpush_perm gtE x e2
    refine wpAny_execs_cons ?_
    refine wpAny_Expr_any ?_
    refine Call_ ?_
    have G := F₃.ground X
    refine ldG G rfl ?_
    refine callWith_K G.k rfl ?_
    refine spliced_more ?_
    refine ldV F₃ N.lo ?_
    refine spliced_more ?_
    refine ldV F₃ hpr ?_
    refine spliced_none ?_
    refine ⟨G.k, ?_⟩
    refine wpAny_call (heappush_spec X.gd F₃.base X.b1 (by omega) (by omega) F₃.l1 F₃.p1 v₃ (by omega) fun h4 tk4 k4 l4 => ?_)
    dsimp only
    have F4 := F₃.put1 X (e' := hpush ltE x e1) k4 l4 fun z hz => by
      rcases List.mem_cons.mp (q1.mem_iff.mp hz) with rfl | hz
      · exact v₃
      · exact F₃.p1 z hz
    have v4 := F₃.pair1 k4 v₃
    clear F₃ v₃ G
    refine wpAny_execs_cons ?_
    refine wpAny_Expr_any ?_
    refine Call_ ?_
    have G := F4.ground X
    refine ldG G rfl ?_
    refine callWith_K G.k rfl ?_
    refine spliced_more ?_
    refine ldV F4 N.hi ?_
    refine spliced_more ?_
    refine ldV F4 hpr ?_
    refine spliced_none ?_
    refine ⟨G.k, ?_⟩
    refine wpAny_call (pushmax_spec X.gd F4.base X.b2 (by omega) (by omega) F4.l2 F4.p2 v4 (by omega) fun h5 tk5 k5 l5 => ?_)
    dsimp only
    have F5 := F4.put2 X (e' := hpush gtE x e2) k5 l5 fun z hz => by
      rcases List.mem_cons.mp (q2.mem_iff.mp hz) with rfl | hz
      · exact v4
      · exact F4.p2 z hz
    have v5 := F4.pair2 k5 v4
    clear F4 v4 G
    refine wpAny_execs_cons ?_
    refine wpAny_Expr_any ?_
    refine MethodCall_ ?_
    refine ldV F5 N.ins ?_
    refine methL F5.l3 PySem.F.slot_list_append PySem.F.type_list_append ?_
    refine callWith_method1 ?_
    refine spliced_more ?_
    refine ldV F5 hpr ?_
    refine spliced_none ?_
    refine appL F5.l3 (by omega) fun h6 sb6 l6 => ?_
    have F6 := F5.put3 X (e' := e3 ++ [x]) (but_of sb6) l6 fun z hz => by
      rcases List.mem_append.mp hz with hz | hz
      · exact F5.p3 z hz
      · rw [List.mem_singleton.mp hz]; exact v5
    dsimp only
    refine wpAny_execs_cons ?_
    refine wpAny_Continue ?_
    dsimp only
    exact h _ _ _ _ _ _ _ (.inr rfl) F6 N (J.push hxk)
  · rw [if_neg (fun q => hcond (hb3.mp q))]
    refine wpAny_execs_nil ?_
    dsimp only
    refine wpAny_execs_cons ?_
    refine choose X hA hU F₃ N hc hpr J (by omega) v₃ hxk T1 T2 (fun q => hcond (.inl q)) (by have := mt Or.inr hcond; omega) c6 fun h' tk T => ?_
    dsimp only
    refine turn_tail X hA hU hh N hc hpr (by omega) T ?_
    exact fun h' tk m' e1' e2' e3' F' N' J' => h _ _ _ _ _ _ _ (.inl rfl) F' N' J'

theorem turn {u : Tok} {ns : List Int} {n : Int} (X : Fx w hb L a1 a2 a3) (hA : A.depth < 800) (hU : A.units < 8000) (hh : A.handled = none) (F : Fl hb h₀ L a1 a2 a3 s.heap m e1 e2 e3) (N : Nm m a1 a2 a3 aN) (hk : m "k" = some (.int k u))
    (hN : NumsAt s.heap aN ns) (haN : aN ≠ L) (hx : ns[k]? = some n) (hz : ns.length < 90) (J : Inv k e1 e2 e3)
    {Q : Flow → Shared → Prop} (h : ∀ f h' tk m' e1' e2' e3', f = .next ∨ f = .cont → Fl hb h₀ L a1 a2 a3 h' m' e1' e2' e3' → Nm m' a1 a2 a3 aN → Inv (k + 1) e1' e2' e3' → Q f { s with heap := h', toks := tk }) :
    wpAny (model prog w) A (execs (forBody w) (lawEnv w L fa cd)) Q (fun _ _ => False) s := by
  obtain ⟨vs, iN, hsz, hvs⟩ := hN
  obtain ⟨tx, hvx⟩ := hvs k n hx
  have hkl : k < ns.length := (List.getElem?_eq_some_iff.mp hx).1
  -- call = numbers[k] % 6
  refine wpAny_execs_cons ?_
  refine wpAny_Assign_Name ?_
  refine wpAny_BinOp ?_
  refine Subscript_ ?_
  refine ldV F N.num ?_
  refine ldV F hk ?_
  refine item_list iN (Int.natCast_nonneg _) (by omega) (x := .int n tx) (by simpa using hvx) ?_
  refine wpAny_Constant_int ?_
  refine mod_int' (by decide) ?_
  refine stV X F fun h₂ F₂ sb₂ => ?_
  have iN₂ : h₂.IsList aN vs := by
    obtain ⟨o, q, r⟩ := iN
    exact ⟨o, but_of sb₂ _ _ haN q, r⟩
  clear iN F sb₂
  dsimp only
  -- pair = (numbers[k] // 6, k)
  refine wpAny_execs_cons ?_
  refine wpAny_Assign_Name ?_
  refine Tuple_ ?_
  refine spliced_more ?_
  refine wpAny_BinOp ?_
  refine Subscript_ ?_
  refine ldV F₂ N.num ?_
  refine ldV F₂ hk ?_
  refine item_list iN₂ (Int.natCast_nonneg _) (by omega) (x := .int n tx) (by simpa using hvx) ?_
  refine wpAny_Constant_int ?_
  refine floordiv_int (by decide) ?_
  refine spliced_more ?_
  refine ldV F₂ hk ?_
  refine spliced_none ?_
  refine mk_pair fun v h₃ k₃ v₃ => ?_
  have F₃ := F₂.grow k₃
  clear F₂
  refine stV X F₃ fun h₄ F₄ sb₄ => ?_
  have v₄ := F₃.pairL sb₄ v₃
  clear F₃ v₃ sb₄ k₃ iN₂
  have c0 : 0 ≤ n.fmod 6 := Int.fmod_nonneg_of_pos _ (by decide)
  have c6 : n.fmod 6 < 6 := Int.fmod_lt_of_pos _ (by decide)
  refine turn_mid (m := fun y => if y = "pair" then some v else if y = "call" then some (.int (n.fmod 6) (s.toks + 1)) else m y) X hA hU hh F₄ ⟨N.lo, N.hi, N.ins, N.num⟩ (x := (v, n.fdiv 6, (k : Int))) (c := n.fmod 6) rfl rfl (by omega) v₄ rfl c0 c6 J ?_
  exact fun f h' tk => h f h' tk
end
end Mine
end

-- part L4
section
open PySem PySem.W PyProof.Rows
set_option Elab.async false
set_option maxRecDepth 100000
set_option linter.unusedVariables false
namespace Mine

noncomputable def lawAt (w : World) (i : Nat) : Stmt := match (lawBody w).drop i with
  | s :: _ => s
  | [] => Stmt.Continue default

section
variable {w : World} {hb h₀ h h' : Heap} {L a1 a2 a3 aN I : Addr} {m m' : Str → Option Value} {e1 e2 e3 e' : List Elt} {ns : List Int}
theorem Fl.other (F : Fl hb h₀ L a1 a2 a3 h m e1 e2 e3) (k : ∀ b o, b ≠ I → h.get? b = some o → h'.get? b = some o) (nI : NoPair h I) (bI : hb.get? I = none) (n1 : L ≠ I) (n2 : a1 ≠ I) (n3 : a2 ≠ I) (n4 : a3 ≠ I) :
    Fl hb hb L a1 a2 a3 h' m e1 e2 e3 := by
  have base : hb.StaysIn h' := fun b o q => k b o (by rintro rfl; rw [bI] at q; cases q) (F.base b o q)
  exact ⟨ns_at F.ns fun o q => k _ _ n1 q, base, fun b o _ _ _ _ q => base b o q, ls_at F.l1 fun o q => k _ _ n2 q, ls_at F.l2 fun o q => k _ _ n3 q, ls_at F.l3 fun o q => k _ _ n4 q, F.p1.at nI k, F.p2.at nI k, F.p3.at nI k⟩
theorem Fl.rebase (F : Fl hb h₀ L a1 a2 a3 h m e1 e2 e3) : Fl hb h L a1 a2 a3 h m e1 e2 e3 :=
  ⟨F.ns, F.base, fun _ _ _ _ _ _ q => q, F.l1, F.l2, F.l3, F.p1, F.p2, F.p3⟩
theorem Fl.ground0 (F : Fl hb h₀ L a1 a2 a3 h m e1 e2 e3) : Fl hb hb L a1 a2 a3 h m e1 e2 e3 :=
  ⟨F.ns, F.base, fun b o _ _ _ _ q => F.base b o q, F.l1, F.l2, F.l3, F.p1, F.p2, F.p3⟩
theorem NumsAt.at (N : NumsAt h aN ns) (k : ∀ o, h.get? aN = some o → h'.get? aN = some o) : NumsAt h' aN ns := by
  obtain ⟨vs, ⟨o, q, r⟩, r'⟩ := N
  exact ⟨vs, ⟨o, k o q, r⟩, r'⟩
end

section
variable {prog : Program} {w : World} {A : Around} {s : Shared} {hb h₀ : Heap} {L a1 a2 a3 aN fa : Addr} {m : Str → Option Value} {cd : Value} {ns : List Int}

theorem loop (X : Fx w hb L a1 a2 a3) (hA : A.depth < 800) (hU : A.units < 8000) (hh : A.handled = none) (F : Fl hb h₀ L a1 a2 a3 s.heap m [] [] []) (N : Nm m a1 a2 a3 aN)
    (hN : NumsAt s.heap aN ns) (nL : aN ≠ L) (n1 : aN ≠ a1) (n2 : aN ≠ a2) (n3 : aN ≠ a3) (hz : ns.length < 90)
    {Q : Flow → Shared → Prop} (h : ∀ h' tk m' e1' e2' e3', Fl hb hb L a1 a2 a3 h' m' e1' e2' e3' → Nm m' a1 a2 a3 aN → Inv ns.length e1' e2' e3' → Q .next { s with heap := h', toks := tk }) :
    wpAny (model prog w) A (exec (lawAt w 4) (lawEnv w L fa cd)) Q (fun _ _ => False) s := by
  obtain ⟨vs, iN, hsz, hvs⟩ := id hN
  have G := F.ground X
  refine wpAny_For ?_
  refine Call_ ?_
  refine ldB G rfl boot_range (by decide) ?_
  refine PyProof.Rows.callWith_type1 ?_
  refine spliced_more ?_
  refine Call_ ?_
  refine ldB G rfl boot_len (by decide) ?_
  refine PyProof.Rows.callWith_builtin1 ?_
  refine spliced_more ?_
  refine ldV F N.num ?_
  refine spliced_none ?_
  refine len_list iN (by omega) ?_
  refine spliced_none ?_
  rw [hsz]
  refine mk_range fun r h₂ tk₂ ta tb tc k₂ zr hr => ?_
  refine iter_range (by omega) hr fun I h₃ k₃ zI hI => ?_
  dsimp only at k₂ k₃ zr zI
  have K3 : s.heap.StaysIn h₃ := fun b o q => k₃ b o (k₂ b o q)
  have ab : ∀ b o, s.heap.get? b = some o → b ≠ I := fun b o q => by
    have q2 := k₂ _ _ q
    have := ltN (Heap.lt_size q2)
    exact neN (by omega)
  have bI : hb.get? I = none := by
    cases q : hb.get? I with
    | none => rfl
    | some o => exact absurd rfl (ab _ _ (F.base _ _ q))
  have nLI : L ≠ I := by obtain ⟨o, _, _, q, _⟩ := F.ns; exact ab _ _ q
  have n1I : a1 ≠ I := by obtain ⟨_, q⟩ := F.l1; exact ab _ _ q
  have n2I : a2 ≠ I := by obtain ⟨_, q⟩ := F.l2; exact ab _ _ q
  have n3I : a3 ≠ I := by obtain ⟨_, q⟩ := F.l3; exact ab _ _ q
  have nNI : aN ≠ I := by obtain ⟨o, q, _⟩ := iN; exact ab _ _ q
  refine codeAny_forLoop (I := fun n s' => ∃ h' tk m' e1 e2 e3 i, s' = { s with heap := h', toks := tk } ∧ n = ns.length - i ∧ i ≤ ns.length ∧ Fl hb hb L a1 a2 a3 h' m' e1 e2 e3 ∧ Nm m' a1 a2 a3 aN ∧ Inv i e1 e2 e3 ∧ NumsAt h' aN ns ∧ IsRangeIter h' I ((i : Nat) : Int) ((ns.length : Int) - (i : Nat)) 1)
    ?_ ns.length ⟨_, _, m, [], [], [], 0, rfl, rfl, Nat.zero_le _, (F.grow K3).ground0, N, inv_zero, hN.at fun o q => K3 _ _ q, by simpa using hI⟩
  clear F N hN iN G hsz hvs
  rintro n s' ⟨h', tk, m, e1, e2, e3, i, rfl, rfl, hi, F, N, J, hN, itr⟩
  by_cases hend : i = ns.length
  · refine wpAny_pyNext_range_end hh itr (by omega) fun h'' ex => ?_
    dsimp only
    refine wpAny_execs_nil ?_
    subst hend
    exact h _ _ _ _ _ _ (F.other ex (noPair_iter itr) bI nLI n1I n2I n3I) N J
  · refine wpAny_pyNext_range_item itr (by omega) fun h'' itr' sb => ?_
    dsimp only
    have F₂ := F.other (but_of sb) (noPair_iter itr) bI nLI n1I n2I n3I
    have hN₂ := hN.at fun o q => but_of sb _ _ nNI q
    refine wpAny_assign_Name ?_
    refine stV X F₂ fun h3 F3 sb3 => ?_
    have hN3 := hN₂.at fun o q => but_of sb3 _ _ nL q
    have it3 : IsRangeIter h3 I _ _ 1 := but_of sb3 _ _ (Ne.symm nLI) itr'
    obtain ⟨x, hx⟩ : ∃ x, ns[i]? = some x := ⟨_, List.getElem?_eq_getElem (by omega)⟩
    refine wpAny_mono (turn (m := fun y => if y = "k" then some (.int (i : Int) tk) else m y) (u := tk) X hA hU hh F3.rebase ⟨N.lo, N.hi, N.ins, N.num⟩ (k := i) rfl hN3 nL hx hz J (Q := fun f s₃ => ∃ m, m < ns.length - i ∧ (f = .next ∨ f = .cont) ∧ ∃ h' tk m' e1 e2 e3 j, s₃ = { s with heap := h', toks := tk } ∧ m = ns.length - j ∧ j ≤ ns.length ∧ Fl hb hb L a1 a2 a3 h' m' e1 e2 e3 ∧ Nm m' a1 a2 a3 aN ∧ Inv j e1 e2 e3 ∧ NumsAt h' aN ns ∧ IsRangeIter h' I ((j : Nat) : Int) ((ns.length : Int) - (j : Nat)) 1) ?_) ?_ (fun _ _ x => x.elim)
    · intro f h4 tk4 m4 e1' e2' e3' hf F4 N4 J4
      have it4 := F4.keep _ _ (Ne.symm nLI) (Ne.symm n1I) (Ne.symm n2I) (Ne.symm n3I) it3
      refine ⟨ns.length - (i + 1), by omega, hf, h4, _, _, _, _, _, i + 1, rfl, rfl, by omega, F4.ground0, N4, J4, hN3.at fun o q => F4.keep _ _ nL n1 n2 n3 q, ?_⟩
      rw [show ((i : Nat) : Int) + 1 = ((i + 1 : Nat) : Int) by omega, show (ns.length : Int) - (i : Nat) - 1 = (ns.length : Int) - ((i + 1 : Nat) : Int) by omega] at it4
      exact it4
    · rintro f s₃ ⟨m', hm', hf, r⟩
      rcases hf with rfl | rfl <;> exact ⟨m', hm', r⟩
end
end Mine
end

-- part L5
section
open PySem PySem.W PyProof.Rows
set_option Elab.async false
set_option maxRecDepth 100000
set_option linter.unusedVariables false
namespace Mine

theorem nodup_of {es : List Elt} (h : (es.map (·.2)).Nodup) : es.Nodup := by
  unfold List.Nodup at *
  rw [List.pairwise_map] at h
  exact h.imp fun q e => q (by rw [e])
theorem filt_perm {e e3 : List Elt} (n : (e.map (·.2)).Nodup) (n3 : (e3.map (·.2)).Nodup) (s : ∀ x ∈ e3, x ∈ e) : (e.filter fun x => InD e3 x.2).Perm e3 := by
  refine (List.perm_ext_iff_of_nodup ((nodup_of n).filter _) (nodup_of n3)).mpr fun a => ?_
  rw [List.mem_filter]
  constructor
  · rintro ⟨ha, hi⟩
    exact top_in n s ha hi
  · intro ha
    exact ⟨s a ha, inD_iff.mpr ⟨a, ha, rfl⟩⟩
/-- sorted lists of the same pairs are the same by their data -/
theorem same_data {a b : List Elt} (p : a.Perm b) (ha : a.Pairwise fun x y => ltE y x = false) (hb : b.Pairwise fun x y => ltE y x = false) : a.map (·.2) = b.map (·.2) := by
  refine List.Perm.eq_of_pairwise (le := fun x y => lex y x = false) ?_ ?_ ?_ (p.map _)
  · intro x y _ _ h1 h2
    exact lex_tot _ _ h2 h1
  · exact List.pairwise_map.mpr ha
  · exact List.pairwise_map.mpr hb
theorem same_data' {a b : List Elt} (p : a.Perm b) (ha : a.Pairwise fun x y => gtE y x = false) (hb : b.Pairwise fun x y => ltE y x = false) : a.map (·.2) = b.reverse.map (·.2) := by
  have hr : a.reverse.map (·.2) = b.map (·.2) := same_data ((List.reverse_perm a).trans p) (List.pairwise_reverse.mpr ha) hb
  rw [List.map_reverse, ← hr, List.map_reverse, List.reverse_reverse]

section
variable {prog : Program} {w : World} {A : Around} {E : Value → Shared → Prop} {s : Shared}
theorem revE {value slice : Expr} {l sl : Addr} {es : List Elt} {vk : Value} {ops : List Value} {Q : Value → Shared → Prop} (hl : s.heap.IsList l (vals es)) (hsl : s.heap.IsSliceOf sl .none .none vk) (pk : IsPart vk (some (-1))) (hz : es.length < 2 ^ 20)
    (h : ∀ D h', s.heap.StaysIn h' → LsAt h' D es.reverse → Q (.ref D) { s with heap := h' })
    (hs : subscripted slice false (.ref l) (.ref sl) = operate ops (getItem (.ref l) (.ref sl)) := by with_unfolding_all rfl) :
    wpAny (model prog w) A (subscriptTail value slice (.ref l) (.ref sl)) Q E s := by
  unfold subscriptTail
  refine wpAny_bind ?_
  rw [getitemInPython_of_ne hl.typeIs.not_modules]
  refine wpAny_bind (wpAny_specialOf hl.typeIs slot_list_getitem.lookup ?_)
  have fin : wpAny (model prog w) A (subscripted slice false (.ref l) (.ref sl)) (fun r s₃ => wpAny (model prog w) A (letTemporaryGo value (.ref l) r >>= fun _ => pure r) Q E s₃) E s := by
    rw [hs]
    refine wpAny_operating (wpAny_getItem_list_slice hl hsl .none .none pk (by decide) ?_ (by rw [sizeLine_eq]; simp; omega))
    refine wpAny_bind (wpAny_letTemporaryGo (wpAny_pure ?_))
    refine h _ _ (fun _ _ q => Heap.get?_push_of_some _ q) ⟨0, ?_⟩
    have e : slicePick (vals es) none none (some (-1)) = vals es.reverse := by
      rw [krv_pick]; simp [List.map_reverse]
    rw [e]
    exact Heap.get?_push_size _ rfl
  first
    | exact wpAny_pure (wpAny_bind fin)
    | exact wpAny_bind (wpAny_pure (wpAny_bind fin))
    | exact wpAny_bind fin
end

section
variable {prog : Program} {w : World} {A : Around} {s : Shared} {hb h₀ : Heap} {L a1 a2 a3 aN fa : Addr} {m : Str → Option Value} {cd : Value} {k : Nat} {e1 e2 e3 : List Elt}

theorem finish (X : Fx w hb L a1 a2 a3) (hA : A.depth < 700) (hU : A.units < 7000) (hh : A.handled = none) (F : Fl hb h₀ L a1 a2 a3 s.heap m e1 e2 e3) (N : Nm m a1 a2 a3 aN) (J : Inv k e1 e2 e3) (hk : k < 90)
    {Q : Flow → Shared → Prop} (h : ∀ h' tk, hb.StaysIn h' → h'.Ns L m → Q (.ret (.bool true)) { s with heap := h', toks := tk }) :
    wpAny (model prog w) A (execs ((lawBody w).drop 5) (lawEnv w L fa cd)) Q (fun _ _ => False) s := by
  have z1 := J.z1
  have z2 := J.z2
  have z3 := J.z3
  have G := F.ground X
  refine wpAny_execs_cons ?_
  refine wpAny_If ?_
  refine wpAny_isTrue_Compare1 ?_
  refine Call_ ?_
  refine ldG G rfl ?_
  refine callWith_K G.k rfl ?_
  refine spliced_more ?_
  refine ldV F N.lo ?_
  refine spliced_more ?_
  refine ldG G rfl ?_
  refine spliced_more ?_
  refine ldV F N.ins ?_
  refine spliced_none ?_
  refine ⟨G.k, ?_⟩
  refine wpAny_call (emptied_spec ord_lt popOk_min rfl X.gd F.base X.b1 X.n13 (by exact hh) (by show A.depth < 800; omega) (by show A.units < 8000; omega) F.l1 F.p1 J.h1 (by omega) F.l3 F.p3 fun h₁ tk₁ D f1 k₁ zD lD so pm => ?_)
  dsimp only
  have n₁ := ns_at F.ns fun o q => k₁ _ _ X.nL1 q
  have base₁ : hb.StaysIn h₁ := fun b o q => k₁ _ _ (X.not q).2.1 (F.base b o q)
  have l2 := ls_at F.l2 fun o q => k₁ _ _ (Ne.symm X.n12) q
  have l3 := ls_at F.l3 fun o q => k₁ _ _ (Ne.symm X.n13) q
  have p1 := F.p1.at (noPair_ls F.l1) k₁
  have p2 := F.p2.at (noPair_ls F.l1) k₁
  have p3 := F.p3.at (noPair_ls F.l1) k₁
  clear F G
  have G := X.gd.keeps base₁
  have pD : PairsIn h₁ f1 := fun x hx => p1 x ((List.mem_filter.mp (pm.mem_iff.mp hx)).1)
  have pm1 := pm.trans (filt_perm J.n1 J.n3 J.s1)
  refine Call_ ?_
  refine ldB G rfl boot_sorted (by decide) ?_
  refine PyProof.Rows.callWith_builtin1 ?_
  refine spliced_more ?_
  refine wpAny_Name (wpAny_loadName_local rfl rfl n₁ N.ins ?_)
  refine spliced_none ?_
  refine sorted_pairs (isL l3) p3 J.n3 (by omega) fun g1 D' h₂ pmg sog zD' k₂ lD' => ?_
  dsimp only at k₂ zD'
  have pg : PairsIn h₂ g1 := fun x hx => (p3 x (pmg.mem_iff.mp hx)).keeps k₂
  refine ne_lists (by omega) (ls_at lD fun o q => k₂ _ _ q) (pairsIn_keep pD k₂) lD' pg ?_
  have eq1 : f1.map (·.2) = g1.map (·.2) := same_data (pm1.trans pmg.symm) so sog
  refine wpAny_truthy_bool ?_
  rw [if_neg (by simp [eq1])]
  refine wpAny_execs_nil ?_
  dsimp only
  have n₂ := ns_at n₁ fun o q => k₂ _ _ q
  have base₂ : hb.StaysIn h₂ := fun b o q => k₂ _ _ (base₁ b o q)
  replace l2 := ls_at l2 fun o q => k₂ _ _ q
  replace l3 := ls_at l3 fun o q => k₂ _ _ q
  replace p2 := pairsIn_keep p2 k₂
  replace p3 := pairsIn_keep p3 k₂
  clear G lD so pm pD pm1 pg eq1 sog pmg lD' k₂ k₁ p1 base₁ n₁ zD zD'
  have G := X.gd.keeps base₂
  refine wpAny_execs_cons ?_
  refine wpAny_Return_some ?_
  refine wpAny_Compare1 ?_
  refine Call_ ?_
  refine ldG G rfl ?_
  refine callWith_K G.k rfl ?_
  refine spliced_more ?_
  refine wpAny_Name (wpAny_loadName_local rfl rfl n₂ N.hi ?_)
  refine spliced_more ?_
  refine ldG G rfl ?_
  refine spliced_more ?_
  refine wpAny_Name (wpAny_loadName_local rfl rfl n₂ N.ins ?_)
  refine spliced_none ?_
  refine ⟨G.k, ?_⟩
  refine wpAny_call (emptied_spec ord_gt popOk_max rfl X.gd base₂ X.b2 X.n23 (by exact hh) (by show A.depth < 800; omega) (by show A.units < 8000; omega) l2 p2 J.h2 (by omega) l3 p3 fun h₃ tk₃ D₃ f3 k₃ zD₃ lD so pm => ?_)
  dsimp only
  have n₃ := ns_at n₂ fun o q => k₃ _ _ X.nL2 q
  have base₃ : hb.StaysIn h₃ := fun b o q => k₃ _ _ (X.not q).2.2.1 (base₂ b o q)
  have pD : PairsIn h₃ f3 := fun x hx => (p2 x ((List.mem_filter.mp (pm.mem_iff.mp hx)).1)).at (noPair_ls l2) k₃
  replace p3 := p3.at (noPair_ls l2) k₃
  replace l3 := ls_at l3 fun o q => k₃ _ _ (Ne.symm X.n23) q
  clear G
  have G := X.gd.keeps base₃
  have pm1 := pm.trans (filt_perm J.n2 J.n3 J.s2)
  refine Subscript_ ?_
  refine Call_ ?_
  refine ldB G rfl boot_sorted (by decide) ?_
  refine PyProof.Rows.callWith_builtin1 ?_
  refine spliced_more ?_
  refine wpAny_Name (wpAny_loadName_local rfl rfl n₃ N.ins ?_)
  refine spliced_none ?_
  refine sorted_pairs (isL l3) p3 J.n3 (by omega) fun g3 D₄ h₄ pmg sog zD₄ k₄ lD₄ => ?_
  dsimp only at k₄ zD₄
  have pg : PairsIn h₄ g3 := fun x hx => (p3 x (pmg.mem_iff.mp hx)).keeps k₄
  have hlg := pmg.length_eq
  refine wpAny_Slice ?_
  rw [evalPart_some]
  refine wpAny_pure ?_
  refine wpAny_pure ?_
  refine wpAny_UnaryOp ?_
  refine wpAny_Constant_int ?_
  refine neg_int ?_
  dsimp only
  have k₅ : ∀ o, h₄.StaysIn (h₄.push o) := fun o _ _ q => Heap.get?_push_of_some o q
  refine revE (isL (ls_at lD₄ fun o q => k₅ _ _ _ q)) (Heap.IsSliceOf.new ..) (.int _ _) (by omega) fun D₆ h₆ k₆ lD₆ => ?_
  dsimp only at k₆
  have K : h₃.StaysIn h₆ := fun b o q => k₆ _ _ (k₅ _ _ _ (k₄ _ _ q))
  refine eq_lists (by omega) (ls_at lD fun o q => K _ _ q) (pairsIn_keep pD K) lD₆ (fun x hx => ((pg x (List.mem_reverse.mp hx)).keeps (k₅ _)).keeps k₆) ?_
  have eq3 : f3.map (·.2) = g3.reverse.map (·.2) := same_data' (pm1.trans pmg.symm) so sog
  rw [decide_eq_true eq3]
  dsimp only
  exact h _ _ (fun b o q => K _ _ (base₃ b o q)) (ns_at n₃ fun o q => K _ _ q)
end
end Mine
end

-- part L6
section
open PySem PySem.W PyProof.Rows
set_option Elab.async false
set_option maxRecDepth 100000
set_option linter.unusedVariables false
namespace Mine

theorem none_of {h : Heap} {a : Addr} (z : h.objs.size ≤ a) : h.get? a = none := by
  cases q : h.get? a with
  | none => rfl
  | some o => exact absurd (ltN (Heap.lt_size q)) (Nat.not_lt.mpr z)
theorem ne_of_fresh {h : Heap} {a b : Addr} {o : Obj} (q : h.get? b = some o) (z : h.objs.size ≤ a) : b ≠ a := by
  rintro rfl
  rw [none_of z] at q; cases q

section
variable {prog : Program} {w : World} {A : Around} {E : Value → Shared → Prop} {s : Shared} {env : Env} {m : Str → Option Value}
theorem asgNil {x : Str} {p1 p2 p3 : Pos} {Q : Flow → Shared → Prop} (n : s.heap.Ns env.locals m)
    (h : ∀ D h' tk, (∀ b o, b ≠ env.locals → s.heap.get? b = some o → h'.get? b = some o) → s.heap.objs.size ≤ D → D ≠ env.locals → h'.Ns env.locals (fun y => if y = x then some (.ref D) else m y) → LsAt h' D [] → Q .next { s with heap := h', toks := tk })
    (hk : env.scope.kind = .function := by rfl) (hx : env.kindOf x = some .local := by rfl) (hsw : swapsWith (.List [] p2) (some (.Name x p1)) p3.line env = pure false := by with_unfolding_all rfl) :
    wpAny (model prog w) A (exec (.Assign [.Name x p1] (.List [] p2) p3) env) Q E s := by
  refine wpAny_Assign_Name ?_
  refine List_ (spliced_none ?_)
  refine mk_list (by simp) fun D h₂ k₂ zD hD => ?_
  have n₂ := ns_at n fun o q => k₂ _ _ q
  have ne : D ≠ env.locals := by
    obtain ⟨o, _, _, q, _⟩ := n
    exact Ne.symm (ne_of_fresh q zD)
  refine wpAny_storeName_local hx n₂ (fun h₃ n₃ sb₃ => ?_) (by rw [hk]; rfl)
  exact h D h₃ _ (fun b o nb q => but_of sb₃ _ _ nb (k₂ _ _ q)) zD ne n₃ ⟨0, but_of sb₃ _ _ ne hD⟩
end

section
variable {prog : Program} {w : World} {A : Around} {s : Shared} {hb : Heap} {L l fa : Addr} {m : Str → Option Value} {cd : Value} {ns : List Int} {vs : List Value}

theorem numsAt_of {h : Heap} {a : Addr} {vs : List Value} {ns : List Int} (x : h.IsList a vs.toArray) (hI : IntsAre vs ns) : NumsAt h a ns :=
  ⟨_, x, by simp [hI.length], fun k n hk => by
    obtain ⟨t, q⟩ := hI.get k n hk
    exact ⟨t, by simpa using q⟩⟩

theorem lawTail {aN : Addr} {ms : List Int} (G : Gd w hb) (hA : A.depth < 600) (hU : A.units < 6000) (hh : A.handled = none) (b₃ : hb.StaysIn s.heap) (zL : hb.objs.size ≤ L) (n₃ : s.heap.Ns L m) (hm : m "numbers" = some (.ref aN)) (aN₃ : ∃ o, s.heap.get? aN = some o) (nN : aN ≠ L) (hN₃ : NumsAt s.heap aN ms) (hz2 : ms.length < 90)
    {Q : Flow → Shared → Prop} (h : ∀ h' tk m', hb.StaysIn h' → h'.Ns L m' → Q (.ret (.bool true)) { s with heap := h', toks := tk }) :
    wpAny (model prog w) A (execs ((lawBody w).drop 1) (lawEnv w L fa cd)) Q (fun _ _ => False) s := by
  have nb : ∀ b o, hb.get? b = some o → b ≠ L := fun b o q => ne_of_fresh q zL
  obtain ⟨oN, aN₃⟩ := aN₃
  -- low = [], high = [], inside = []
  refine wpAny_execs_cons ?_
  refine asgNil n₃ fun a1 h₄ tk₄ k₄ z1 nL1 n₄ l1 => ?_
  dsimp only at k₄ z1 nL1 n₄ ⊢
  have b₄ : hb.StaysIn h₄ := fun b o q => k₄ _ _ (nb _ _ q) (b₃ _ _ q)
  have aN₄ := k₄ _ _ nN aN₃
  have nN1 : aN ≠ a1 := ne_of_fresh aN₃ z1
  have bb1 : hb.get? a1 = none := by
    cases q : hb.get? a1 with
    | none => rfl
    | some o => exact absurd rfl (ne_of_fresh (b₃ _ _ q) z1)
  clear k₄ z1
  refine wpAny_execs_cons ?_
  refine asgNil n₄ fun a2 h₅ tk₅ k₅ z2 nL2 n₅ l2 => ?_
  dsimp only at k₅ z2 nL2 n₅ ⊢
  have b₅ : hb.StaysIn h₅ := fun b o q => k₅ _ _ (nb _ _ q) (b₄ _ _ q)
  have aN₅ := k₅ _ _ nN aN₄
  have l1₅ := ls_at l1 fun o q => k₅ _ _ nL1 q
  have nN2 : aN ≠ a2 := ne_of_fresh aN₄ z2
  have n12 : a1 ≠ a2 := by obtain ⟨_, q⟩ := l1; exact ne_of_fresh q z2
  have bb2 : hb.get? a2 = none := by
    cases q : hb.get? a2 with
    | none => rfl
    | some o => exact absurd rfl (ne_of_fresh (b₄ _ _ q) z2)
  clear k₅ z2 l1
  refine wpAny_execs_cons ?_
  refine asgNil n₅ fun a3 h₆ tk₆ k₆ z3 nL3 n₆ l3 => ?_
  dsimp only at k₆ z3 nL3 n₆ ⊢
  have b₆ : hb.StaysIn h₆ := fun b o q => k₆ _ _ (nb _ _ q) (b₅ _ _ q)
  have aN₆ := k₆ _ _ nN aN₅
  have l1₆ := ls_at l1₅ fun o q => k₆ _ _ nL1 q
  have l2₆ := ls_at l2 fun o q => k₆ _ _ nL2 q
  have nN3 : aN ≠ a3 := ne_of_fresh aN₅ z3
  have n13 : a1 ≠ a3 := by obtain ⟨_, q⟩ := l1₅; exact ne_of_fresh q z3
  have n23 : a2 ≠ a3 := by obtain ⟨_, q⟩ := l2; exact ne_of_fresh q z3
  have bb3 : hb.get? a3 = none := by
    cases q : hb.get? a3 with
    | none => rfl
    | some o => exact absurd rfl (ne_of_fresh (b₅ _ _ q) z3)
  clear k₆ z3 l2 l1₅
  have X : Fx w hb L a1 a2 a3 := ⟨G, none_of zL, bb1, bb2, bb3, Ne.symm nL1, Ne.symm nL2, Ne.symm nL3, n12, n13, n23⟩
  have F : Fl hb hb L a1 a2 a3 h₆ _ [] [] [] := ⟨n₆, b₆, fun b o _ _ _ _ q => b₆ b o q, l1₆, l2₆, l3, pairs_nil, pairs_nil, pairs_nil⟩
  have hN : NumsAt h₆ aN ms := hN₃.at fun o q => by rw [aN₃] at q; cases q; exact aN₆
  clear n₆ b₆ l1₆ l2₆ l3 aN₆ n₅ n₄ n₃ aN₅ aN₄ aN₃ b₅ b₄ b₃
  refine wpAny_execs_cons ?_
  refine loop (m := fun y => if y = "inside" then some (.ref a3) else if y = "high" then some (.ref a2) else if y = "low" then some (.ref a1) else m y) X (by omega) (by omega) hh F ⟨rfl, rfl, rfl, hm⟩ hN nN nN1 nN2 nN3 hz2 fun h₇ tk₇ m₇ e1 e2 e3 F₇ N₇ J₇ => ?_
  dsimp only
  refine finish X (by omega) (by omega) hh F₇ N₇ J₇ hz2 ?_
  exact fun h' tk b n => h h' tk _ b n

theorem lawOk (G : Gd w hb) (hA : A.depth < 600) (hU : A.units < 6000) (hh : A.handled = none) (base : hb.StaysIn s.heap) (zL : hb.objs.size ≤ L) (n : s.heap.Ns L m) (hs : m "script" = some (.ref l)) (il : hb.IsList l vs.toArray) (hI : IntsAre vs ns) (hz : ns.length ≤ 63)
    {Q : Flow → Shared → Prop} (h : ∀ h' tk m', hb.StaysIn h' → h'.Ns L m' → Q (.ret (.bool true)) { s with heap := h', toks := tk }) :
    wpAny (model prog w) A (execs (lawBody w) (lawEnv w L fa cd)) Q (fun _ _ => False) s := by
  have hlen := hI.length
  have nb : ∀ b o, hb.get? b = some o → b ≠ L := fun b o q => ne_of_fresh q zL
  -- numbers = script + [...]
  refine wpAny_execs_cons ?_
  refine wpAny_Assign_Name ?_
  refine wpAny_BinOp ?_
  refine wpAny_Name (wpAny_loadName_local rfl rfl n hs ?_)
  refine List_ ?_
  refine spliced_more (wpAny_Constant_int ?_)
  refine spliced_more (wpAny_Constant_int ?_)
  refine spliced_more (wpAny_Constant_int ?_)
  refine spliced_more (wpAny_Constant_int ?_)
  refine spliced_more (wpAny_Constant_int ?_)
  refine spliced_more (wpAny_Constant_int ?_)
  refine spliced_more (wpAny_Constant_int ?_)
  refine spliced_more (wpAny_Constant_int ?_)
  refine spliced_more (wpAny_Constant_int ?_)
  refine spliced_none ?_
  refine mk_list (by simp) fun D h₁ k₁ zD hD => ?_
  have il₁ : h₁.IsList l vs.toArray := by obtain ⟨o, q, r⟩ := il; exact ⟨o, k₁ _ _ (base _ _ q), r⟩
  have n₁ := ns_at n fun o q => k₁ _ _ q
  have b₁ : hb.StaysIn h₁ := fun b o q => k₁ _ _ (base b o q)
  refine add_lists_ints (h₀ := hb) (L := L) (m := m) (news := []) (ns := ns) (ms := [12, 19, 12, 4, 35, 2, 3, 6, 30]) ⟨n₁, b₁, zL⟩ (by intro p hp; cases hp) il₁ (PySem.IsL.isList (n := 0) hD) hI
    (.cons _ _ (.cons _ _ (.cons _ _ (.cons _ _ (.cons _ _ (.cons _ _ (.cons _ _ (.cons _ _ (.cons _ _ .nil))))))))) (fun h₂ F₂ N₂ hI₂ => ?_) (by rw [sizeLine_eq]; simp; omega)
  have aN₂ := (N₂ _ (.head _)).1
  have nN := (N₂ _ (.head _)).2.1
  refine wpAny_storeName_local rfl F₂.ns (fun h₃ n₃ sb₃ => ?_) rfl
  have aN₃ := but_of sb₃ _ _ nN aN₂
  refine lawTail G hA hU hh (fun b o q => but_of sb₃ _ _ (nb _ _ q) (F₂.keep _ _ q)) zL n₃ rfl ⟨_, aN₃⟩ nN (numsAt_of (PySem.IsL.isList (n := _) aN₃) hI₂) (by simp; omega) ?_
  exact fun h' tk m' b n => h h' tk m' b n

theorem lawAll {E : Value → Shared → Prop} {Q : Flow → Shared → Prop} (F : Fr hb L s.heap m) (G : Gd w hb) (hA : A.depth < 600) (hU : A.units < 6000) (hh : A.handled = none) (hs : m "script" = some (.ref l)) (il : hb.IsList l vs.toArray) (hI : IntsAre vs ns) (hz : ¬ ((63 : Int) < (ns.length : Int)))
    (h : ∀ h' tk m', Fr hb L h' m' → Q (.ret (.bool true)) { s with heap := h', toks := tk }) : wpAny (model prog w) A (execs (lawBody w) (lawEnv w L fa cd)) Q E s :=
  wpAny_mono (lawOk G hA hU hh F.keep F.above F.ns hs il hI (by omega) fun h' tk m' b n => h h' tk m' ⟨n, b, F.above⟩) (fun _ _ x => x) fun _ _ x => x.elim
end
end Mine
end

-- part Main
section
open PySem PySem.W PyProof.Rows
set_option Elab.async false
namespace Mine
set_option maxRecDepth 100000
set_option maxHeartbeats 8000000
theorem go : PySem.Challenge.rw_dp0042_01.Holds := hd (by
  w_strict (k_go0; (rename (hd.heap_39 _).In _ => KX); (rename Top _ _ _ _ _ _ => T); (rename Heap.IsList _ _ _ => hL); (rename IntsAre _ _ => hI); (rename ¬ (_ < _) => hcond); (rename Fr _ _ _ _ => F); (rename _ = #[] => hg); (refine lawAll F ⟨KX, _, _, _, _, topRead_of T⟩ (of_decide_eq_true rfl) (of_decide_eq_true rfl) rfl rfl hL hI hcond ?_); intro h' tk m' F'; (refine goodW_bool F' hg (raisesW_false ?_) ?_); (· wrow_none_raised); (· wrow_post)))
end Mine
end

theorem PySem.Challenge.cw_dp0042_01_holds : PySem.Challenge.rw_dp0042_01.Holds := by
  exact Mine.go
