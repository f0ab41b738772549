import PyProof.Rows.All
import Wide.All
import OpenK.AllK
import Wide.FinOn
import PySem.Challenge.RW_mr0063_01
set_option Elab.async false

section
open PySem PySem.W PyProof.Rows
namespace Mine
set_option maxRecDepth 100000
set_option maxHeartbeats 8000000
open_top hd for PySem.Challenge.rw_mr0063_01
end Mine
end

section
open PySem PySem.W PyProof.Rows PySem.Calls
namespace Mine
set_option maxRecDepth 100000

abbrev prog : Program := PySem.Challenge.rw_mr0063_01.row.prog
noncomputable abbrev KF (P : Params) : Frag := hd.heap_39 P

/-- what the calls need of the standing heap: the written part, the two namespaces, no other limit -/
structure Amb (w : World) (g : Heap) : Prop where
  X : (KF w.params).In g
  lim : g.NoLimit
  glob : ∃ mg, g.Ns mainGlobals mg
  blt : ∃ mb, g.Ns builtinsNs mb ∧ ∀ x : Str, x ≠ "__name__" → mb x = bootBuiltins x

theorem Amb.keeps {w : World} {g g' : Heap} (a : Amb w g) (hk : ∀ b o, g.get? b = some o → g'.get? b = some o) : Amb w g' where
  X := a.X.keeps hk
  lim := a.lim.keeps hk
  glob := a.glob.imp fun _ h => h.keeps hk
  blt := a.blt.imp fun _ h => ⟨h.1.keeps hk, h.2⟩

section
variable {w : World} {M : Model} {A : Around} {E : Value → Shared → Prop} {s : Shared} {g : Heap} {L a : Addr} {m : Str → Option Value} {cn : Str} {cs : Scope} {ccd : Value} {x : Str} {pos : Pos} {v : Value} {Q : Value → Shared → Prop}
theorem gname (am : Amb w g) (F : Fr g L s.heap m) (e : nsIn (KF w.params) mainGlobals x = some (some v)) (h : Q v s)
    (hk : cs.kind = .function) (hx : (envOf cn cs L a ccd).kindOf x = some .globalImplicit) (hd : (x == ("__debug__" : Str)) = false) :
    wpAny M A (eval (.Name x pos) (envOf cn cs L a ccd)) Q E s := by
  obtain ⟨mg, G⟩ := am.glob
  exact ld_global_at F G (mg_of am.X G e) h hk hx hd
theorem bname (am : Amb w g) (F : Fr g L s.heap m) (e : nsIn (KF w.params) mainGlobals x = some none) (hv : bootBuiltins x = some v) (hn : x ≠ "__name__") (h : Q v s)
    (hk : cs.kind = .function) (hx : (envOf cn cs L a ccd).kindOf x = some .globalImplicit) (hd : (x == ("__debug__" : Str)) = false) :
    wpAny M A (eval (.Name x pos) (envOf cn cs L a ccd)) Q E s := by
  obtain ⟨mg, G⟩ := am.glob
  obtain ⟨mb, B, hb⟩ := am.blt
  exact ld_builtin_at F G (mg_none_of am.X G e) B ((hb x hn).trans hv) h hk hx hd
end

/-- calling a def of the text, no exception wanted -/
theorem enter {w : World} {A : Around} {s : Shared} {Q : Value → Shared → Prop} {name qual : Str} {params : Arguments} {body : List Stmt} {scope : Scope}
    {dV kV doc pm cdv ct oc : Value} {an od : Option Addr} {osl : Array (Option Value)} {f : Addr} {args : List Value} {binds : List (Str × Value)}
    (am : Amb w s.heap)
    (ho : (KF w.params).lookup f = some ⟨oc, od, .func (fnOf name qual params body scope dV kV doc pm an cdv ct), osl⟩) (hcd : codeIn (KF w.params) cdv qual = true) (hroom : A.depth < recursionLimit)
    (hbind : bindArgs (fnOf name qual params body scope dV kV doc pm an cdv ct) ⟨args, []⟩ = pure binds) (hloc : ∀ y ∈ binds, scope.names.lookup y.1 = some .local)
    (h : ∀ h₁, h₁.Ns s.heap.objs.size (fun y => binds.reverse.lookup y) → (∀ b o, s.heap.get? b = some o → h₁.get? b = some o) →
      wpAny (model prog w) (A.deeper (envOf qual scope s.heap.objs.size f cdv)) (execs body (envOf qual scope s.heap.objs.size f cdv))
        (fun fl s' => Q (match fl with | .ret v => v | _ => .none) s') (fun _ _ => False)
        { s with heap := h₁, toks := s.toks + binds.length })
    (hco : scope.isCoroutine = false) (hgen : scope.isGenerator = false) (hk : scope.kind = .function)
    (hcell : ∀ x ∈ scope.names, x.2 ≠ .cell) : wpAny (model prog w) A (call (.ref f) args) Q (fun _ _ => False) s := by
  refine wpAny_call (codeAny_call_def (fd := fnOf name qual params body scope dV kV doc pm an cdv ct) (body := body) (binds := binds) hroom (am.X _ _ ho) rfl am.lim (codeRec_of am.X hcd) rfl (BindsTo.of_eq hbind) hcell hloc (fun h₁ hns hk₁ => ?_) hco hgen hk)
  exact wpAny_mono (h h₁ hns hk₁) (fun fl s' q => q) (fun _ _ q => q.elim)
end Mine
end

section
open PySem PySem.W PyProof.Rows PySem.Calls
namespace Mine
set_option maxRecDepth 100000
set_option maxHeartbeats 1000000

/-- the lexicographic order of (number, text, text) -/
def lt3 (n : Int) (x y : Str) (n' : Int) (x' y' : Str) : Bool :=
  if n = n' then (if x = x' then decide (y.cps.toList < y'.cps.toList) else decide (x.cps.toList < x'.cps.toList)) else decide (n < n')

section
variable {w : World} {A : Around} {E : Value → Shared → Prop} {s : Shared}

theorem tuple_lt_eq (a b : Value) : Builtin.«tuple.__lt__» ⟨[a, b], []⟩ = (do
    if !(← isInstance b (.type "tuple")) then return ← ret .notImplemented
    let xs ← Builtin.Tuple.tupleItemsOf a
    let ys ← Builtin.Tuple.tupleItemsOf b
    for (x, y) in xs.toList.zip ys.toList do
      if !(← eqBool x y) then
        rule "tuple.compare.by-the-first-pair-that-differs"; return ← ret (← richCompare .Lt x y)
    ret (Builtin.Tuple.tupleCompareSizes .Lt xs.size ys.size)) := rfl

theorem isSub_tuple : isSubtype (Value.type "tuple") (Value.type "tuple") = pure true := by rw [isSubtype_type]; kernel_rfl

theorem lt_tup {a b : Addr} {n n' : Int} {x y x' y' : Str} {t1 t2 t3 u1 u2 u3 : Tok} {c d : Nat} {Q : Value → Shared → Prop}
    (ha : s.heap.get? a = some (seqObj "tuple" #[.int n t1, .str x t2, .str y t3] c))
    (hb : s.heap.get? b = some (seqObj "tuple" #[.int n' u1, .str x' u2, .str y' u3] d))
    (hu : A.units < cLine) (h : Q (.bool (lt3 n x y n' x' y')) s) : wpAny (model prog w) A (compareOp .Lt (.ref a) (.ref b)) Q E s := by
  show wpAny (model prog w) A (richCompare .Lt (.ref a) (.ref b)) Q E s
  refine wpAny_richCompare_same_room (T := "tuple") ⟨_, ha, rfl⟩ ⟨_, hb, rfl⟩ PySem.F.slot_tuple_lt ?_ hu
  refine wpAny_call_entry PySem.F.slot_tuple_lt ⟨_, ha, rfl⟩ PySem.F.entry_tuple_lt ?_ (PySem.F.args_tuple_lt_2 _ _)
  rw [tuple_lt_eq]
  refine wpAny_bind (wpAny_isInstance (T := "tuple") (b := true) ⟨_, hb, rfl⟩ isSub_tuple ?_)
  simp only [Bool.not_true, Bool.false_eq_true, if_false]
  refine wpAny_bind (m := Builtin.Tuple.tupleItemsOf _) ?_
  unfold Builtin.Tuple.tupleItemsOf
  refine wpAny_bind ?_
  unfold seqItems?
  dsimp only
  refine wpAny_bind (wpAny_load ha (wpAny_pure ?_))
  refine wpAny_pure ?_
  refine wpAny_bind ?_
  refine wpAny_bind ?_
  refine wpAny_bind (wpAny_load hb (wpAny_pure ?_))
  refine wpAny_pure ?_
  simp only [List.zip, List.zipWith, List.forIn_cons, List.forIn_nil]
  unfold lt3 at h
  refine wpAny_bind (wpAny_bind (wpAny_bind (wpAny_eqBool_int ?_)))
  by_cases hn : n = n'
  · subst hn
    rw [if_pos rfl] at h
    simp only [beq_self_eq_true, Bool.not_true, Bool.false_eq_true, if_false]
    refine wpAny_pure (wpAny_bind (wpAny_bind (eqBool_str ?_)))
    by_cases hx : x = x'
    · subst hx
      rw [if_pos rfl] at h
      simp only [beq_self_eq_true, Bool.not_true, Bool.false_eq_true, if_false]
      refine wpAny_pure (wpAny_bind (wpAny_bind (eqBool_str ?_)))
      by_cases hy : y = y'
      · subst hy
        have e : decide (y.cps.toList < y.cps.toList) = false := decide_eq_false (List.lt_irrefl _)
        rw [e] at h
        simp only [beq_self_eq_true, Bool.not_true, Bool.false_eq_true, if_false]
        refine wpAny_pure (wpAny_pure ?_)
        dsimp only
        refine wpAny_pure ⟨_, rfl, by simp [Builtin.Tuple.tupleCompareSizes], ?_⟩
        exact h
      · have hy' : (y == y') = false := by simpa using hy
        simp only [hy', Bool.not_false, if_true]
        refine wpAny_bind (wpAny_rule (wpAny_bind ?_))
        refine (show wpAny (model prog w) A.in1 (compareOp .Lt (.str y t3) (.str y' u3)) _ E s from PyProof.Rows.lt_str ?_)
        refine wpAny_bind (wpAny_pure (wpAny_pure (wpAny_pure ?_)))
        dsimp only
        exact wpAny_pure ⟨_, rfl, by simp, h⟩
    · rw [if_neg hx] at h
      have hx' : (x == x') = false := by simpa using hx
      simp only [hx', Bool.not_false, if_true]
      refine wpAny_bind (wpAny_rule (wpAny_bind ?_))
      refine (show wpAny (model prog w) A.in1 (compareOp .Lt (.str x t2) (.str x' u2)) _ E s from PyProof.Rows.lt_str ?_)
      refine wpAny_bind (wpAny_pure (wpAny_pure (wpAny_pure ?_)))
      dsimp only
      exact wpAny_pure ⟨_, rfl, by simp, h⟩
  · rw [if_neg hn] at h
    have hn' : (n == n') = false := by simpa using hn
    simp only [hn', Bool.not_false, if_true]
    refine wpAny_bind (wpAny_rule (wpAny_bind ?_))
    refine (show wpAny (model prog w) A.in1 (compareOp .Lt (.int n t1) (.int n' u1)) _ E s from PyProof.Rows.lt_int ?_)
    refine wpAny_bind (wpAny_pure (wpAny_pure (wpAny_pure ?_)))
    dsimp only
    exact wpAny_pure ⟨_, rfl, by simp, h⟩
end
end Mine
end

section
open PySem PySem.W PyProof.Rows PySem.Calls
namespace Mine
set_option maxRecDepth 100000
set_option maxHeartbeats 1000000

/-- one more turn of a loop -/
def Again (I : Nat → Shared → Prop) (n : Nat) (s : Shared) : Prop := ∃ m, m < n ∧ I m s
abbrev NoE : Value → Shared → Prop := fun _ _ => False

section
variable {w : World} {A : Around} {s : Shared} {env : Env}

theorem while_mine {test : PySem.Expr} {body : List Stmt} {pos : Pos} {Q : Flow → Shared → Prop} (I : Nat → Shared → Prop)
    (turn : ∀ n s, I n s → wpAny (model prog w) A (isTrue test env (eval test env)) (fun b s₂ =>
      if b = true then wpAny (model prog w) A (execs body env) (fun f s₃ => match f with
        | .next | .cont => Again I n s₃
        | .brk => Q .next s₃
        | .ret v => Q (.ret v) s₃) NoE s₂ else Q .next s₂) NoE s)
    (n : Nat) (h : I n s) : wpAny (model prog w) A (exec (.While test body [] pos) env) Q NoE s := by
  refine wpAny_While (codeAny_whileLoop I (fun n s' hI => ?_) n h)
  refine wpAny_mono (turn n s' hI) (fun b s₂ h₂ => ?_) (fun _ _ x => x.elim)
  cases b with
  | false =>
    simp only [Bool.false_eq_true, if_false] at h₂ ⊢
    exact wpAny_execs_nil h₂
  | true =>
    simp only [if_true] at h₂ ⊢
    refine wpAny_mono h₂ (fun f s₃ h₃ => ?_) (fun _ _ x => x.elim)
    cases f <;> exact h₃

theorem for_mine {target iter : PySem.Expr} {body : List Stmt} {pos : Pos} {Q : Flow → Shared → Prop}
    (h : wpAny (model prog w) A (eval iter env) (fun x s₁ => wpAny (model prog w) A (pyIter x) (fun it s₂ =>
      ∃ (I : Nat → Shared → Prop) (n : Nat), I n s₂ ∧ ∀ n s, I n s → wpAny (model prog w) A (pyNext it) (fun r s₁ => match r with
        | none => Q .next s₁
        | some v => wpAny (model prog w) A (assign target env v) (fun _ s₂ => wpAny (model prog w) A (execs body env) (fun f s₃ => match f with
          | .next | .cont => Again I n s₃
          | .brk => Q .next s₃
          | .ret v => Q (.ret v) s₃) NoE s₂) NoE s₁) NoE s) NoE s₁) NoE s)
    (hs : ∀ x, foldedSetIterable iter env x = pure x := by intro _; rfl)
    (ht : ∀ it v, letOwnedTupleGo target it v = pure () := by intro _ _; rfl) :
    wpAny (model prog w) A (exec (.For target iter body [] pos) env) Q NoE s := by
  refine wpAny_For (wpAny_mono h (fun x s₁ h₁ => wpAny_mono h₁ (fun it s₂ h₂ => ?_) fun _ _ x => x) fun _ _ x => x) hs
  obtain ⟨I, n, hI, turn⟩ := h₂
  refine codeAny_forLoop I (fun n s' hI => ?_) n hI (ht it)
  refine wpAny_mono (turn n s' hI) (fun r s₁ h₁ => ?_) (fun _ _ x => x.elim)
  cases r with
  | none => exact wpAny_execs_nil h₁
  | some v =>
    refine wpAny_mono h₁ (fun _ s₂ h₂ => wpAny_mono h₂ (fun f s₃ h₃ => ?_) (fun _ _ x => x.elim)) (fun _ _ x => x.elim)
    cases f <;> exact h₃
end

section
variable {w : World} {A : Around} {E : Value → Shared → Prop} {s : Shared} {g : Heap} {L : Addr} {m : Str → Option Value}

theorem isL {l : Addr} {vs : List Value} {c : Nat} {h : Heap} (e : h.get? l = some (listOf vs.toArray c)) : h.IsList l vs.toArray := PySem.IsL.isList e

/-- one object of the ledger changed, the others kept -/
theorem led1 {l : Addr} {o o' : Obj} {h' : Heap} (N : News g L s.heap [(l, o)]) (hs : Heap.SameBut l s.heap h') (ho : h'.get? l = some o') : News g L h' [(l, o')] :=
  news_set (pre := []) (post := []) N (fun _ h => nomatch h) (fun _ h => nomatch h) hs ho

theorem set_l1 {l : Addr} {vs : List Value} {c : Nat} {k : Int} {t : Tok} {v : Value} {Q : Unit → Shared → Prop}
    (F : Fr g L s.heap m) (N : News g L s.heap [(l, listOf vs.toArray c)]) (h0 : 0 ≤ k) (hfit : k < 2 ^ 63) (hn : k.toNat < vs.length)
    (h : ∀ h', Fr g L h' m → News g L h' [(l, listOf (vs.set k.toNat v).toArray c)] → Q () { s with heap := h' }) :
    wpAny (model prog w) A (setItem (.ref l) (.int k t) v) Q E s := by
  have z := N _ (.head _)
  refine ki_setAt z.1 h0 hfit (by simp; omega) (h _ (F.change (Heap.SameBut.update ..) z.2.1 z.2.2) ?_)
  refine ki_turn (pre := []) (post := []) _ N (fun _ h => nomatch h) (fun _ h => nomatch h) ?_ ?_
  · apply Array.toList_inj.mp; simp
  · simp

theorem hide_get {h : Heap} {l b : Addr} {o : Obj} (e : h.get? b = some o) (n : b ≠ l) : (h.hide l).get? b = some o := (Heap.hide_ne h n).trans e

/-- back from a call that changed the list l alone -/
theorem back {l : Addr} {o o' : Obj} {h h' : Heap} {rest : List (Addr × Obj)} (F : Fr g L h m) (N : News g L h ((l, o) :: rest)) (hr : ∀ p ∈ rest, p.1 ≠ l)
    (k : ∀ b o, (h.hide l).get? b = some o → h'.get? b = some o) (e : h'.get? l = some o') : Fr g L h' m ∧ News g L h' ((l, o') :: rest) := by
  have z := N _ (.head _)
  have hL : L ≠ l := fun q => z.2.1 q.symm
  refine ⟨?_, ?_⟩
  · obtain ⟨oL, es, ep, hoL, r⟩ := F.ns
    refine ⟨⟨oL, es, ep, k _ _ (hide_get hoL hL), r⟩, fun b x q => k _ _ (hide_get (F.keep b x q) ?_), F.above⟩
    rintro rfl
    rw [z.2.2] at q; cases q
  · intro p hp
    rcases List.mem_cons.mp hp with rfl | hp
    · exact ⟨e, z.2⟩
    · have y := N p (.tail _ hp)
      exact ⟨k _ _ (hide_get y.1 (hr p hp)), y.2⟩

/-- back from a call that changed nothing that stood -/
theorem back0 {h h' : Heap} {rest : List (Addr × Obj)} (F : Fr g L h m) (N : News g L h rest)
    (k : ∀ b o, h.get? b = some o → h'.get? b = some o) : Fr g L h' m ∧ News g L h' rest := by
  obtain ⟨oL, es, ep, hoL, r⟩ := F.ns
  exact ⟨⟨⟨oL, es, ep, k _ _ hoL, r⟩, fun b x q => k _ _ (F.keep b x q), F.above⟩, fun p hp => ⟨k _ _ (N p hp).1, (N p hp).2⟩⟩
end
end Mine
end

section
open PySem PySem.W PyProof.Rows PySem.Calls
namespace Mine
set_option maxRecDepth 100000
set_option maxHeartbeats 4000000

abbrev Key := Int × Str × Str
def ltK (a b : Key) : Bool := lt3 a.1 a.2.1 a.2.2 b.1 b.2.1 b.2.2

/-- v is the tuple k in the heap g -/
def IsTup (g : Heap) (v : Value) (k : Key) : Prop :=
  ∃ a t1 t2 t3 c, v = .ref a ∧ g.get? a = some (seqObj "tuple" #[.int k.1 t1, .str k.2.1 t2, .str k.2.2 t3] c)

theorem IsTup.keeps {g g' : Heap} {v : Value} {k : Key} (h : IsTup g v k) (hk : ∀ b o, g.get? b = some o → g'.get? b = some o) : IsTup g' v k := by
  obtain ⟨a, t1, t2, t3, c, rfl, e⟩ := h
  exact ⟨a, t1, t2, t3, c, rfl, hk _ _ e⟩

/-- all the values of the list are tuples of the heap g -/
def Tups (kof : Value → Key) (g : Heap) (vs : List Value) : Prop := ∀ v ∈ vs, IsTup g v (kof v)
def ltV (kof : Value → Key) (u v : Value) : Bool := ltK (kof u) (kof v)

/-- what _siftdown computes -/
def sd {α : Type} (lt : α → α → Bool) (item : α) (xs : List α) (pos : Nat) : List α :=
  if h : pos = 0 then xs.set 0 item else
    match xs[(pos - 1) / 2]? with
    | some par => if lt item par then sd lt item (xs.set pos par) ((pos - 1) / 2) else xs.set pos item
    | none => xs.set pos item
termination_by pos
decreasing_by omega

theorem lt_tups {w : World} {A : Around} {s : Shared} {E : Value → Shared → Prop} {kof : Value → Key} {g : Heap} {u v : Value} {Q : Value → Shared → Prop}
    (hk : ∀ b o, g.get? b = some o → s.heap.get? b = some o) (hu : IsTup g u (kof u)) (hv : IsTup g v (kof v)) (hA : A.units < cLine)
    (h : Q (.bool (ltV kof u v)) s) : wpAny (model prog w) A (compareOp .Lt u v) Q E s := by
  unfold ltV ltK at h
  obtain ⟨a, t1, t2, t3, c, e1, ea⟩ := hu
  obtain ⟨b, u1, u2, u3, d, e2, eb⟩ := hv
  generalize kof u = ku at *
  generalize kof v = kv at *
  subst e1 e2
  exact lt_tup (hk _ _ ea) (hk _ _ eb) hA h

local macro_rules | `(tactic| walk_at "pad 0") => `(tactic| fail)
local macro_rules | `(tactic| walk_at "mlk") => `(tactic| first | assumption | exact if_pos rfl | (refine Eq.trans (if_neg (by decide +kernel)) ?_; walk_at "mlk"))
local macro_rules | `(tactic| walk_at "eval Name") => `(tactic| ((with_reducible show wpAny _ _ (eval (Expr.Name _ _) (envOf _ _ _ _ _)) _ _ _); (refine ld (by assumption) (by walk_at "mlk") ?_ (by kernel_rfl!) (by kernel_rfl!) (by decide +kernel))))

local macro_rules | `(tactic| walk_at "mw") => `(tactic| (walk1; try dsimp only))
theorem siftdown_ct {w : World} {A : Around} {s : Shared} {l : Addr} {vs : List Value} {c : Nat} {p : Nat} {t1 t2 : Tok} {v : Value} {Q : Value → Shared → Prop}
  (kof : Value → Key) (g : Heap) (am : Amb w g) (hroom : A.depth < recursionLimit) (hA : A.units + 10 < cLine)
  (hlist : s.heap.get? l = some (listOf vs.toArray c)) (hv : vs[p]? = some v) (hsz : vs.length < 2 ^ 20) (hg : ∀ b o, g.get? b = some o → (s.heap.hide l).get? b = some o) (ht : Tups kof g vs)
  (hQ : ∀ h' tk', (∀ b o, (s.heap.hide l).get? b = some o → h'.get? b = some o) → h'.get? l = some (listOf (sd (ltV kof) v vs p).toArray c) → Q .none { s with heap := h', toks := tk' }) :
  wpAny (model prog w) A (call (.ref 69) [.ref l, .int 0 t1, .int p t2]) Q NoE s := by
  refine enter (binds := [(Str.ofString "heap", .ref l), (Str.ofString "startpos", .int 0 t1), (Str.ofString "pos", .int p t2)]) (am.keeps fun b o e => Heap.of_hide (hg b o e)) (by rfl) (by rfl) (by omega) (by rfl) (locs rfl) ?_ rfl rfl rfl (by decide)
  intro h₁ hns hk
  have F : Fr (s.heap.hide l) s.heap.objs.size h₁ _ := ⟨hns, fun b o e => hk b o (Heap.of_hide e), by rw [Heap.hide_size]; exact Nat.le_refl _⟩
  have N : News (s.heap.hide l) s.heap.objs.size h₁ [(l, listOf vs.toArray c)] := by
    intro p hp
    rw [List.mem_singleton.mp hp]
    exact ⟨hk _ _ hlist, Nat.ne_of_lt (Heap.lt_size hlist), Heap.hide_self ..⟩
  have hvt := ht v (List.mem_of_getElem? hv)
  have hplt : p < vs.length := (List.getElem?_eq_some_iff.mp hv).1
  clear hns hk hlist
  generalize s.heap.objs.size = L at *
  generalize s.heap.hide l = gc at *
  walk1
  walk1
  walk1
  walk1
  walk1
  refine item_litK (isL (N _ (.head _)).1) (by omega) (by omega) (by simpa using hv) ?_ (by with_unfolding_all rfl)
  walk1
  walk1
  rename_i h₂ F₂ N₂
  refine while_mine (fun n s' => ∃ h tk m vs' t', s' = { s with heap := h, toks := tk } ∧ Fr gc L h m ∧ News gc L h [(l, listOf vs'.toArray c)] ∧
    m (Str.ofString "heap") = some (.ref l) ∧ m (Str.ofString "startpos") = some (.int 0 t1) ∧ m (Str.ofString "pos") = some (.int n t') ∧ m (Str.ofString "newitem") = some v ∧
    n < vs'.length ∧ vs'.length = vs.length ∧ Tups kof g vs' ∧ sd (ltV kof) v vs' n = sd (ltV kof) v vs p) ?_ p ⟨_, _, _, vs, t2, rfl, F₂, N₂, rfl, rfl, rfl, rfl, hplt, rfl, ht, rfl⟩
  rintro n s' ⟨h, tk, m, vs', t', rfl, F', N', m1, m2, m3, m4, hn, hlen, ht', hsd⟩
  walk1
  walk1
  walk1
  walk1
  walk1
  by_cases h0 : n = 0
  · subst h0
    rw [if_neg (by simp)]
    iterate 5 walk1
    refine set_l1 (k := (0 : Nat)) F' N' (by omega) (by omega) (by simpa using hn) ?_
    intro h5 F5 N5
    refine wpAny_execs_nil (hQ h5 _ F5.keep ?_)
    rw [(N5 _ (.head _)).1, ← hsd]
    unfold sd
    simp
  · rw [if_pos (by simp; omega)]
    iterate 9 walk_at "mw"
    have ep : ((n : Int) - 1).fdiv (2 ^ Int.toNat 1) = (((n - 1) / 2 : Nat) : Int) := by
      rw [Int.fdiv_eq_ediv_of_nonneg _ (by decide)]
      simp; omega
    rw [ep]
    generalize hq : (n - 1) / 2 = q at *
    obtain ⟨par, hpar⟩ : ∃ par, vs'[q]? = some par := ⟨vs'[q]'(by omega), List.getElem?_eq_getElem _⟩
    repeat walk_at "mw"
    rename Fr _ _ _ _ => F3
    rename News _ _ _ _ => N3
    refine item_litK (isL (N3 _ (.head _)).1) (by omega) (by omega) (by simpa using hpar) ?_ (by with_unfolding_all rfl)
    repeat walk_at "mw"
    rename Fr _ _ _ _ => F4
    rename News _ _ _ _ => N4
    refine lt_tups (kof := kof) (fun b o e => F4.keep b o (hg b o e)) hvt (ht' par (List.mem_of_getElem? hpar)) (by show A.units + 3 < cLine; omega) ?_
    walk_at "mw"
    have hun : sd (ltV kof) v vs' n = if ltV kof v par then sd (ltV kof) v (vs'.set n par) q else vs'.set n v := by
      rw [sd, dif_neg h0, hq, hpar]
    rw [hun] at hsd
    by_cases hb : ltV kof v par = true
    · rw [if_pos hb]
      rw [if_pos hb] at hsd
      repeat walk_at "mw"
      refine set_l1 (k := n) F4 N4 (by omega) (by omega) (by simpa using hn) ?_
      intro h5 F5 N5
      try dsimp only
      repeat walk_at "mw"
      rename Fr _ _ _ _ => F6
      rename News _ _ _ _ => N6
      refine ⟨q, by omega, _, _, _, vs'.set n par, _, rfl, F6, N6, by walk_at "mlk", by walk_at "mlk", by walk_at "mlk", by walk_at "mlk", by simp; omega, by simpa using hlen, ?_, hsd⟩
      intro x hx
      rcases List.mem_or_eq_of_mem_set hx with hx | rfl
      · exact ht' x hx
      · exact ht' _ (List.mem_of_getElem? hpar)
    · rw [if_neg hb]
      rw [if_neg hb] at hsd
      repeat walk_at "mw"
      refine set_l1 (k := n) F4 N4 (by omega) (by omega) (by simpa using hn) ?_
      intro h5 F5 N5
      refine wpAny_execs_nil (hQ h5 _ F5.keep ?_)
      rw [(N5 _ (.head _)).1, ← hsd]
      simp
end Mine
end

section
open PySem PySem.W PyProof.Rows PySem.Calls
namespace Mine
set_option maxRecDepth 100000
set_option maxHeartbeats 4000000

local macro_rules | `(tactic| walk_at "pad 0") => `(tactic| fail)
local macro_rules | `(tactic| walk_at "mlk") => `(tactic| first | assumption | exact if_pos rfl | (with_unfolding_all exact rfl) | (refine Eq.trans (if_neg (by decide +kernel)) ?_; walk_at "mlk"))
local macro_rules | `(tactic| walk_at "eval Name") => `(tactic| ((with_reducible show wpAny _ _ (eval (Expr.Name _ _) (envOf _ _ _ _ _)) _ _ _); first
  | (refine ld (by assumption) (by walk_at "mlk") ?_ (by kernel_rfl!) (by kernel_rfl!) (by decide +kernel))
  | (refine gname (by assumption) (by assumption) (by rfl) ?_ (by kernel_rfl!) (by kernel_rfl!) (by decide +kernel))
  | (refine bname (by assumption) (by assumption) (by rfl) (by first | exact boot_len | exact boot_max | exact boot_sorted | exact boot_chr) (by decide +kernel) ?_ (by kernel_rfl!) (by kernel_rfl!) (by decide +kernel))))
local macro_rules | `(tactic| walk_at "callWith ref") => `(tactic| ((with_reducible show wpAny _ _ (callWith _ (Value.ref _) _ (backTo _ (starEach (_ :: _) _)) []) _ _ _); refine callWith_K (Amb.X (by assumption)) (by rfl) ?_))
local macro_rules | `(tactic| walk_at "mw") => `(tactic| first
  | ((with_reducible show (Frag.In _ _ ∧ _)); refine ⟨Amb.X (Amb.keeps (by assumption) (Fr.keep (by assumption))), ?_⟩; try dsimp only [List.nil_append, List.cons_append])
  | ((fail_if_success (with_reducible show wpAny _ _ (exec (Stmt.While _ _ _ _) _) _ _ _)); (fail_if_success (with_reducible show wpAny _ _ (exec (Stmt.For _ _ _ _ _) _) _ _ _)); (fail_if_success (with_reducible show wpAny _ _ (call (Value.ref _) _) _ _ _)); (fail_if_success (with_reducible show (ite _ _ _ : Prop))); walk1; (try dsimp only)))

/-- what _siftup computes (from a place pos, the item taken out) -/
def su {α : Type} (lt : α → α → Bool) (item : α) (xs : List α) (pos : Nat) : List α :=
  if 2 * pos + 1 < xs.length then
    match xs[2 * pos + 1]?, xs[2 * pos + 2]? with
    | some a, some b => if lt a b then su lt item (xs.set pos a) (2 * pos + 1) else su lt item (xs.set pos b) (2 * pos + 2)
    | some a, none => su lt item (xs.set pos a) (2 * pos + 1)
    | none, _ => xs
  else sd lt item (xs.set pos item) pos
termination_by xs.length - pos
decreasing_by all_goals (simp only [List.length_set]; omega)

theorem siftup_ct {w : World} {A : Around} {s : Shared} {l : Addr} {vs : List Value} {c : Nat} {t1 : Tok} {v : Value} {Q : Value → Shared → Prop}
  (kof : Value → Key) (g : Heap) (am : Amb w g) (hroom : A.depth + 1 < recursionLimit) (hA : A.units + 20 < cLine)
  (hlist : s.heap.get? l = some (listOf vs.toArray c)) (hv : vs[0]? = some v) (hsz : vs.length < 2 ^ 20) (hg : ∀ b o, g.get? b = some o → (s.heap.hide l).get? b = some o) (ht : Tups kof g vs)
  (hQ : ∀ h' tk', (∀ b o, (s.heap.hide l).get? b = some o → h'.get? b = some o) → h'.get? l = some (listOf (su (ltV kof) v vs 0).toArray c) → Q .none { s with heap := h', toks := tk' }) :
  wpAny (model prog w) A (call (.ref 76) [.ref l, .int 0 t1]) Q NoE s := by
  refine enter (binds := [(Str.ofString "heap", .ref l), (Str.ofString "pos", .int 0 t1)]) (am.keeps fun b o e => Heap.of_hide (hg b o e)) (by rfl) (by rfl) (by omega) (by rfl) (locs rfl) ?_ rfl rfl rfl (by decide)
  intro h₁ hns hk
  have F : Fr (s.heap.hide l) s.heap.objs.size h₁ _ := ⟨hns, fun b o e => hk b o (Heap.of_hide e), by rw [Heap.hide_size]; exact Nat.le_refl _⟩
  have N : News (s.heap.hide l) s.heap.objs.size h₁ [(l, listOf vs.toArray c)] := by
    intro p hp
    rw [List.mem_singleton.mp hp]
    exact ⟨hk _ _ hlist, Nat.ne_of_lt (Heap.lt_size hlist), Heap.hide_self ..⟩
  have hvt := ht v (List.mem_of_getElem? hv)
  have hplt : 0 < vs.length := (List.getElem?_eq_some_iff.mp hv).1
  clear hns hk hlist
  generalize s.heap.objs.size = L at *
  generalize s.heap.hide l = gc at *
  have amc : Amb w gc := am.keeps hg
  repeat walk_at "mw"
  refine len_list (isL (N _ (.head _)).1) (by simp; omega) ?_
  rw [List.size_toArray]
  repeat walk_at "mw"
  rename Fr _ _ _ _ => F2
  rename News _ _ _ _ => N2
  refine item_litK (isL (N2 _ (.head _)).1) (by omega) (by omega) (by simpa using hv) ?_ (by with_unfolding_all rfl)
  repeat walk_at "mw"
  rename Fr _ _ _ _ => F3
  rename News _ _ _ _ => N3
  refine while_mine (fun n s' => ∃ h tk m vs' p t2 t3 t4 t5, s' = { s with heap := h, toks := tk } ∧ Fr gc L h m ∧ News gc L h [(l, listOf vs'.toArray c)] ∧
    m (Str.ofString "heap") = some (.ref l) ∧ m (Str.ofString "startpos") = some (.int 0 t2) ∧ m (Str.ofString "pos") = some (.int (p : Nat) t3) ∧ m (Str.ofString "newitem") = some v ∧
    m (Str.ofString "childpos") = some (.int ((2 * p + 1 : Nat) : Int) t4) ∧ m (Str.ofString "endpos") = some (.int (vs.length : Nat) t5) ∧
    n = vs.length - p ∧ p < vs.length ∧ vs'.length = vs.length ∧ Tups kof g vs' ∧ su (ltV kof) v vs' p = su (ltV kof) v vs 0) ?_ vs.length
    ⟨_, _, _, vs, 0, _, _, _, _, rfl, F3, N3, by walk_at "mlk", by walk_at "mlk", by walk_at "mlk", by walk_at "mlk", by walk_at "mlk", by walk_at "mlk", by omega, hplt, rfl, ht, rfl⟩
  rintro n s' ⟨h, tk, m, vs', p, t2, t3, t4, t5, rfl, F', N', m1, m2, m3, m4, m5, m6, hn, hp, hlen, ht', hsu⟩
  subst hn
  iterate 5 walk_at "mw"
  by_cases hc : 2 * p + 1 < vs.length
  · rw [if_pos (by simp; omega)]
    obtain ⟨x, hx⟩ : ∃ x, vs'[2 * p + 1]? = some x := ⟨vs'[2 * p + 1]'(by omega), List.getElem?_eq_getElem _⟩
    have ex := ht' x (List.mem_of_getElem? hx)
    have set_ok : ∀ y, y ∈ vs' → Tups kof g (vs'.set p y) := by
      intro y hy z hz
      rcases List.mem_or_eq_of_mem_set hz with hz | rfl
      · exact ht' z hz
      · exact ht' _ hy
    repeat walk_at "mw"
    by_cases hr : 2 * p + 2 < vs.length
    · rw [if_pos (by simp; omega)]
      obtain ⟨y, hy⟩ : ∃ y, vs'[2 * p + 2]? = some y := ⟨vs'[2 * p + 2]'(by omega), List.getElem?_eq_getElem _⟩
      have ey := ht' y (List.mem_of_getElem? hy)
      have hun : su (ltV kof) v vs' p = if ltV kof x y then su (ltV kof) v (vs'.set p x) (2 * p + 1) else su (ltV kof) v (vs'.set p y) (2 * p + 2) := by
        rw [su, if_pos (by omega), hx, hy]
      rw [hun] at hsu
      repeat walk_at "mw"
      rename Fr _ _ _ _ => F4
      rename News _ _ _ _ => N4
      refine item_litK (isL (N4 _ (.head _)).1) (by omega) (by omega) (by simpa only [Int.toNat_natCast] using hx) ?_ (by with_unfolding_all rfl)
      repeat walk_at "mw"
      refine item_litK (isL (N4 _ (.head _)).1) (by omega) (by omega) (v := y) (by rw [show ((((2 * p + 1 : Nat) : Int) + 1).toNat) = 2 * p + 2 by omega]; exact hy) ?_ (by with_unfolding_all rfl)
      refine lt_tups (kof := kof) (fun b o e => F4.keep b o (hg b o e)) ex ey (by show A.units + 3 < cLine; omega) ?_
      repeat walk_at "mw"
      by_cases hb : ltV kof x y = true
      · rw [if_pos hb] at hsu
        rw [if_neg (by simp [hb])]
        repeat walk_at "mw"
        rw [if_neg (by simp)]
        repeat walk_at "mw"
        refine item_litK (isL (N4 _ (.head _)).1) (by omega) (by omega) (by simpa only [Int.toNat_natCast] using hx) ?_ (by with_unfolding_all rfl)
        repeat walk_at "mw"
        refine set_l1 (k := p) F4 N4 (by omega) (by omega) (by simpa [hlen] using hp) ?_
        intro h5 F5 N5
        repeat walk_at "mw"
        rename Fr _ _ _ _ => F6
        rename News _ _ _ _ => N6
        refine ⟨vs.length - (2 * p + 1), by omega, _, _, _, vs'.set p x, 2 * p + 1, _, _, _, _, rfl, F6, N6, by walk_at "mlk", by walk_at "mlk", by walk_at "mlk", by walk_at "mlk", by walk_at "mlk", by walk_at "mlk", rfl, by omega, by simpa using hlen, set_ok x (List.mem_of_getElem? hx), hsu⟩
      · rw [if_neg hb] at hsu
        rw [if_pos (by simp [hb])]
        repeat walk_at "mw"
        rw [if_pos (by rfl)]
        repeat walk_at "mw"
        rename Fr _ _ _ _ => F5
        rename News _ _ _ _ => N5
        refine item_litK (isL (N5 _ (.head _)).1) (by omega) (by omega) (v := y) (by rw [show ((((2 * p + 1 : Nat) : Int) + 1).toNat) = 2 * p + 2 by omega]; exact hy) ?_ (by with_unfolding_all rfl)
        repeat walk_at "mw"
        refine set_l1 (k := p) F5 N5 (by omega) (by omega) (by simpa [hlen] using hp) ?_
        intro h6 F6 N6
        repeat walk_at "mw"
        rename Fr _ _ _ _ => F7
        rename News _ _ _ _ => N7
        have e1 : ((2 * p + 1 : Nat) : Int) + 1 = ((2 * p + 2 : Nat) : Int) := by omega
        rw [e1] at F7
        refine ⟨vs.length - (2 * p + 2), by omega, _, _, _, vs'.set p y, 2 * p + 2, _, _, _, _, rfl, F7, N7, by walk_at "mlk", by walk_at "mlk", by walk_at "mlk", by walk_at "mlk", by walk_at "mlk", by walk_at "mlk", rfl, by omega, by simpa using hlen, set_ok y (List.mem_of_getElem? hy), hsu⟩
    · rw [if_neg (by simp; omega)]
      have hun : su (ltV kof) v vs' p = su (ltV kof) v (vs'.set p x) (2 * p + 1) := by
        rw [su, if_pos (by omega), hx, List.getElem?_eq_none (by omega)]
      rw [hun] at hsu
      repeat walk_at "mw"
      rw [if_neg (by simp)]
      repeat walk_at "mw"
      rename Fr _ _ _ _ => F4
      rename News _ _ _ _ => N4
      refine item_litK (isL (N4 _ (.head _)).1) (by omega) (by omega) (by simpa only [Int.toNat_natCast] using hx) ?_ (by with_unfolding_all rfl)
      repeat walk_at "mw"
      refine set_l1 (k := p) F4 N4 (by omega) (by omega) (by simpa [hlen] using hp) ?_
      intro h5 F5 N5
      repeat walk_at "mw"
      rename Fr _ _ _ _ => F6
      rename News _ _ _ _ => N6
      refine ⟨vs.length - (2 * p + 1), by omega, _, _, _, vs'.set p x, 2 * p + 1, _, _, _, _, rfl, F6, N6, by walk_at "mlk", by walk_at "mlk", by walk_at "mlk", by walk_at "mlk", by walk_at "mlk", by walk_at "mlk", rfl, by omega, by simpa using hlen, set_ok x (List.mem_of_getElem? hx), hsu⟩
  · rw [if_neg (by simp; omega)]
    have hun : su (ltV kof) v vs' p = sd (ltV kof) v (vs'.set p v) p := by
      rw [su, if_neg (by omega)]
    repeat walk_at "mw"
    refine set_l1 (k := p) F' N' (by omega) (by omega) (by simpa [hlen] using hp) ?_
    intro h5 F5 N5
    repeat walk_at "mw"
    have ht5 : Tups kof g (vs'.set p v) := by
      intro z hz
      rcases List.mem_or_eq_of_mem_set hz with hz | rfl
      · exact ht' z hz
      · exact hvt
    rw [Int.toNat_natCast] at N5
    have z5 := N5 _ (.head _)
    refine siftdown_ct (s := ⟨h5, _, _, _, _⟩) kof g am (by show A.depth + 1 < recursionLimit; omega) (by show A.units + 3 + 10 < cLine; omega) z5.1 (v := v) (List.getElem?_set_self (by omega)) (by rw [List.length_set]; omega)
      (fun b o e => hide_get (F5.keep b o (hg b o e)) (by rintro rfl; have := z5.2.2; rw [hg _ _ e] at this; cases this)) ht5 ?_
    intro h6 tk6 k6 e6
    rw [← hun, hsu] at e6
    obtain ⟨F6, N6⟩ := back F5 N5 (by intro _ h; nomatch h) k6 e6
    exact wpAny_execs_nil (hQ h6 _ F6.keep e6)
end Mine
end

section
open PySem PySem.W PyProof.Rows PySem.Calls
namespace Mine
set_option maxRecDepth 100000
set_option maxHeartbeats 4000000

local macro_rules | `(tactic| walk_at "pad 0") => `(tactic| fail)
local macro_rules | `(tactic| walk_at "pad 1") => `(tactic| fail)
local macro_rules | `(tactic| walk_at "mlk") => `(tactic| first | assumption | exact if_pos rfl | (with_unfolding_all exact rfl) | (refine Eq.trans (if_neg (by decide +kernel)) ?_; walk_at "mlk"))
local macro_rules | `(tactic| walk_at "eval Name") => `(tactic| ((with_reducible show wpAny _ _ (eval (Expr.Name _ _) (envOf _ _ _ _ _)) _ _ _); first
  | (refine ld (by assumption) (by walk_at "mlk") ?_ (by kernel_rfl!) (by kernel_rfl!) (by decide +kernel))
  | (refine gname (by assumption) (by assumption) (by rfl) ?_ (by kernel_rfl!) (by kernel_rfl!) (by decide +kernel))
  | (refine bname (by assumption) (by assumption) (by rfl) (by first | exact boot_len | exact boot_max | exact boot_sorted | exact boot_chr) (by decide +kernel) ?_ (by kernel_rfl!) (by kernel_rfl!) (by decide +kernel))))
local macro_rules | `(tactic| walk_at "callWith ref") => `(tactic| ((with_reducible show wpAny _ _ (callWith _ (Value.ref _) _ (backTo _ (starEach (_ :: _) _)) []) _ _ _); refine callWith_K (Amb.X (by assumption)) (by rfl) ?_))
local macro_rules | `(tactic| walk_at "mw") => `(tactic| first
  | ((with_reducible show (Frag.In _ _ ∧ _)); refine ⟨Amb.X (Amb.keeps (by assumption) (Fr.keep (by assumption))), ?_⟩; try dsimp only [List.nil_append, List.cons_append])
  | ((fail_if_success (with_reducible show wpAny _ _ (exec (Stmt.While _ _ _ _) _) _ _ _)); (fail_if_success (with_reducible show wpAny _ _ (exec (Stmt.For _ _ _ _ _) _) _ _ _)); (fail_if_success (with_reducible show wpAny _ _ (call (Value.ref _) _) _ _ _)); (fail_if_success (with_reducible show (ite _ _ _ : Prop))); walk1; (try dsimp only)))

theorem heappush_ct {w : World} {A : Around} {s : Shared} {l : Addr} {vs : List Value} {c : Nat} {v : Value} {Q : Value → Shared → Prop}
  (kof : Value → Key) (g : Heap) (am : Amb w g) (hroom : A.depth + 1 < recursionLimit) (hA : A.units + 20 < cLine)
  (hlist : s.heap.get? l = some (listOf vs.toArray c)) (hsz : vs.length + 1 < 2 ^ 20) (hg : ∀ b o, g.get? b = some o → (s.heap.hide l).get? b = some o) (ht : Tups kof g vs) (hv : IsTup g v (kof v))
  (hQ : ∀ h' tk' c', (∀ b o, (s.heap.hide l).get? b = some o → h'.get? b = some o) → h'.get? l = some (listOf (sd (ltV kof) v (vs ++ [v]) vs.length).toArray c') → Q .none { s with heap := h', toks := tk' }) :
  wpAny (model prog w) A (call (.ref 55) [.ref l, v]) Q NoE s := by
  refine enter (binds := [(Str.ofString "heap", .ref l), (Str.ofString "item", v)]) (am.keeps fun b o e => Heap.of_hide (hg b o e)) (by rfl) (by rfl) (by omega) (by rfl) (locs rfl) ?_ rfl rfl rfl (by decide)
  intro h₁ hns hk
  have F : Fr (s.heap.hide l) s.heap.objs.size h₁ _ := ⟨hns, fun b o e => hk b o (Heap.of_hide e), by rw [Heap.hide_size]; exact Nat.le_refl _⟩
  have N : News (s.heap.hide l) s.heap.objs.size h₁ [(l, listOf vs.toArray c)] := by
    intro p hp
    rw [List.mem_singleton.mp hp]
    exact ⟨hk _ _ hlist, Nat.ne_of_lt (Heap.lt_size hlist), Heap.hide_self ..⟩
  clear hns hk hlist
  generalize s.heap.objs.size = L at *
  generalize s.heap.hide l = gc at *
  have amc : Amb w gc := am.keeps hg
  repeat walk_at "mw"
  rename Fr _ _ _ _ => F2
  rename News _ _ _ _ => N2
  rw [show vs.toArray.push v = (vs ++ [v]).toArray by simp] at N2
  refine len_list (isL (N2 _ (.head _)).1) (by simp; omega) ?_
  rw [List.size_toArray, List.length_append]
  repeat walk_at "mw"
  have z := N2 _ (.head _)
  have hvg : Tups kof g (vs ++ [v]) := by
    intro x hx
    rcases List.mem_append.mp hx with hx | hx
    · exact ht x hx
    · rw [List.mem_singleton.mp hx]; exact hv
  rw [show ((vs.length + [v].length : Nat) : Int) - 1 = (vs.length : Nat) by simp]
  rename_i h2
  refine siftdown_ct (s := ⟨h2, _, _, _, _⟩) kof g am (by show A.depth + 1 < recursionLimit; omega) (by show A.units + 3 + 10 < cLine; omega) z.1 (v := v) (by simp) (by simp; omega)
    (fun b o e => hide_get (F2.keep b o (hg b o e)) (by rintro rfl; have := z.2.2; rw [hg _ _ e] at this; cases this)) hvg ?_
  intro h6 tk6 k6 e6
  obtain ⟨F6, N6⟩ := back F2 N2 (by intro _ h; nomatch h) k6 e6
  exact wpAny_execs_nil (hQ h6 _ _ F6.keep e6)

theorem heappop_ct {w : World} {A : Around} {s : Shared} {l : Addr} {vs : List Value} {c : Nat} {v : Value} {Q : Value → Shared → Prop}
  (kof : Value → Key) (g : Heap) (am : Amb w g) (hroom : A.depth + 2 < recursionLimit) (hA : A.units + 30 < cLine)
  (hlist : s.heap.get? l = some (listOf (vs ++ [v]).toArray c)) (hsz : vs.length + 1 < 2 ^ 20) (hg : ∀ b o, g.get? b = some o → (s.heap.hide l).get? b = some o) (ht : Tups kof g (vs ++ [v]))
  (hQ0 : vs = [] → ∀ h' tk' c', (∀ b o, (s.heap.hide l).get? b = some o → h'.get? b = some o) → h'.get? l = some (listOf #[] c') → Q v { s with heap := h', toks := tk' })
  (hQ1 : ∀ u rest, vs = u :: rest → ∀ h' tk' c', (∀ b o, (s.heap.hide l).get? b = some o → h'.get? b = some o) → h'.get? l = some (listOf (su (ltV kof) v (v :: rest) 0).toArray c') → Q u { s with heap := h', toks := tk' }) :
  wpAny (model prog w) A (call (.ref 62) [.ref l]) Q NoE s := by
  refine enter (binds := [(Str.ofString "heap", .ref l)]) (am.keeps fun b o e => Heap.of_hide (hg b o e)) (by rfl) (by rfl) (by omega) (by rfl) (locs rfl) ?_ rfl rfl rfl (by decide)
  intro h₁ hns hk
  have F : Fr (s.heap.hide l) s.heap.objs.size h₁ _ := ⟨hns, fun b o e => hk b o (Heap.of_hide e), by rw [Heap.hide_size]; exact Nat.le_refl _⟩
  have N : News (s.heap.hide l) s.heap.objs.size h₁ [(l, listOf (vs ++ [v]).toArray c)] := by
    intro p hp
    rw [List.mem_singleton.mp hp]
    exact ⟨hk _ _ hlist, Nat.ne_of_lt (Heap.lt_size hlist), Heap.hide_self ..⟩
  clear hns hk hlist
  generalize s.heap.objs.size = L at *
  generalize s.heap.hide l = gc at *
  have amc : Amb w gc := am.keeps hg
  repeat walk_at "mw"
  refine kl_pop (p := vs) (y := v) F N (by rw [List.toList_toArray]; exact kpa_last v vs) (by k_upd) (by simp [sizeLine_eq]; omega) ?_
  intro h2 F2 N2
  repeat walk_at "mw"
  rename Fr _ _ _ _ => F3
  rename News _ _ _ _ => N3
  refine wpAny_truthy_list (isL (N3 _ (.head _)).1) (by simp; omega) ?_
  cases vs with
  | nil =>
    rw [if_neg (by simp)]
    repeat walk_at "mw"
    exact hQ0 rfl _ _ _ F3.keep (N3 _ (.head _)).1
  | cons u rest =>
    rw [if_pos (by simp)]
    repeat walk_at "mw"
    rename Fr _ _ _ _ => F4
    rename News _ _ _ _ => N4
    refine set_l1 (k := 0) F4 N4 (by omega) (by omega) (by simp) ?_
    intro h5 F5 N5
    repeat walk_at "mw"
    rw [show (u :: rest).set (Int.toNat 0) v = v :: rest from rfl] at N5
    have z5 := N5 _ (.head _)
    have ht5 : Tups kof g (v :: rest) := by
      intro x hx
      rcases List.mem_cons.mp hx with rfl | hx
      · exact ht _ (by simp)
      · exact ht _ (by simp [hx])
    refine siftup_ct (s := ⟨h5, _, _, _, _⟩) kof g am (by show A.depth + 1 + 1 < recursionLimit; omega) (by show A.units + 3 + 20 < cLine; omega) z5.1 (v := v) rfl (by simp at hsz ⊢; omega)
      (fun b o e => hide_get (F5.keep b o (hg b o e)) (by rintro rfl; have := z5.2.2; rw [hg _ _ e] at this; cases this)) ht5 ?_
    intro h6 tk6 k6 e6
    obtain ⟨F6, N6⟩ := back F5 N5 (by intro _ h; nomatch h) k6 e6
    repeat walk_at "mw"
    exact hQ1 u rest rfl _ _ _ F6.keep e6
end Mine
end

section
open PySem PySem.Sre
namespace Mine
set_option maxRecDepth 10000

def code1 : Array Nat := #[14,4,0,1,1,6,1,16,46,1]
def code2 : Array Nat := #[14, 9, 4, 1, 2, 16, 10, 16, 13, 0, 7, 7, 16, 13, 16, 10, 15, 18, 5, 16, 10, 15, 13, 11, 16, 13, 5, 5, 0, 16, 10, 1, 15, 2, 0, 1]

def stepN : Nat → M → M
  | 0, m => m
  | n + 1, m => stepN n m.step

theorem step_done {m : M} (h : m.outcome.isSome = true) : m.step = m := by
  unfold M.step; rw [if_pos h]
theorem stepN_done {m : M} (h : m.outcome.isSome = true) : ∀ n, stepN n m = m
  | 0 => rfl
  | n + 1 => by rw [stepN, step_done h]; exact stepN_done h n
theorem stepN_add : ∀ (a b : Nat) (m : M), stepN (a + b) m = stepN b (stepN a m)
  | 0, b, m => by rw [Nat.zero_add]; rfl
  | a + 1, b, m => by rw [Nat.succ_add]; exact stepN_add a b m.step
theorem runFor_eq : ∀ (n : Nat) (m : M), M.runFor n m = stepN n m
  | 0, m => rfl
  | n + 1, m => by
    unfold M.runFor
    split
    · rename_i h; exact (stepN_done h _).symm
    · rw [stepN]; exact runFor_eq n m.step

theorem inSet2 (c : Nat) (seen : Seen) : ∃ seen', inSet code2 c code2.size 5 true seen = .ok (c == 10 || c == 13, seen') := by
  show ∃ seen', inSet code2 c 36 5 true seen = _
  by_cases h1 : (c == 10) = true
  · refine ⟨seen.add 16, ?_⟩
    rw [h1]
    show (if (c == 10) = true then _ else _) = _
    rw [if_pos h1]; rfl
  · simp only [Bool.not_eq_true] at h1
    by_cases h2 : (c == 13) = true
    · refine ⟨(seen.add 16).add 16, ?_⟩
      rw [h2, h1]
      show (if (c == 10) = true then _ else if (c == 13) = true then _ else _) = _
      rw [h1, if_neg (by simp), if_pos h2]; rfl
    · simp only [Bool.not_eq_true] at h2
      refine ⟨((seen.add 16).add 16).add 0, ?_⟩
      rw [h2, h1]
      show (if (c == 10) = true then _ else if (c == 13) = true then _ else _) = _
      rw [h1, h2, if_neg (by simp), if_neg (by simp)]; rfl

section
variable {m : M}
theorem step_exec (ho : m.outcome = none) (ha : m.answer = none) (hc : m.pc < m.code.size) : m.step = m.exec := by
  unfold M.step
  rw [ho, ha]
  simp only [Option.isSome_none, Bool.false_eq_true, if_false]
  rw [if_pos hc]
theorem step_resume {f : Sre.Frame} {rest : List Sre.Frame} {yes : Bool} (ho : m.outcome = none) (ha : m.answer = some yes) (hf : m.frames = f :: rest) :
    m.step = M.resume { m with answer := none, frames := rest, weight := m.weight - (1 + f.kept.marks.size), pc := f.pc, pos := f.pos, outermost := f.outermost } f yes := by
  unfold M.step
  rw [ho, ha, hf]
  simp only [Option.isSome_none, Bool.false_eq_true, if_false]
theorem step_end {yes : Bool} (ho : m.outcome = none) (ha : m.answer = some yes) (hf : m.frames = []) :
    m.step = { m with outcome := some (if yes then .matched else .failed) } := by
  unfold M.step
  rw [ho, ha, hf]
  simp only [Option.isSome_none, Bool.false_eq_true, if_false]
theorem exec_lit (hop : m.code.getD m.pc 0 = 16) (hpos : m.pos < m.lim) (hch : (m.text.getD m.pos 0 == m.code.getD (m.pc + 1) 0) = true) :
    m.exec = { m with seen := m.seen.add 16, pc := m.pc + 2, pos := m.pos + 1 } := by
  unfold M.exec M.word
  simp only [Nat.add_zero, hop]
  rw [show ops[16]? = some Op.LITERAL from rfl]
  simp only
  rw [if_neg (by omega)]
  unfold accepts itemWidth
  simp only [hop]
  rw [show ops[16]? = some Op.LITERAL from rfl]
  simp only [hch]
theorem exec_lit_no (hop : m.code.getD m.pc 0 = 16) (hch : m.lim ≤ m.pos ∨ (m.text.getD m.pos 0 == m.code.getD (m.pc + 1) 0) = false) :
    m.exec = { m with seen := m.seen.add 16, answer := some false } := by
  unfold M.exec M.word
  simp only [Nat.add_zero, hop]
  rw [show ops[16]? = some Op.LITERAL from rfl]
  simp only
  by_cases hp : m.lim ≤ m.pos
  · rw [if_pos (by omega)]; rfl
  · rw [if_neg (by omega)]
    unfold accepts
    simp only [hop]
    rw [show ops[16]? = some Op.LITERAL from rfl]
    simp only [hch.resolve_left hp]; rfl
theorem exec_branch (hop : m.code.getD m.pc 0 = 7) : m.exec = M.alternative { m with seen := m.seen.add 7 } (m.pc + 1) (M.keep { m with seen := m.seen.add 7 } m.inner.isSome) := by
  unfold M.exec M.word
  simp only [Nat.add_zero, hop]
  rfl
theorem exec_jump (hop : m.code.getD m.pc 0 = 15) : m.exec = { m with seen := m.seen.add 15, pc := m.pc + 1 + m.code.getD (m.pc + 1) 0 } := by
  unfold M.exec M.word
  simp only [Nat.add_zero, hop]
  rfl
theorem exec_success (hop : m.code.getD m.pc 0 = 1) (h1 : m.wholeText = false) (h2 : m.mustAdvance = false) : m.exec = { m with seen := m.seen.add 1, handed := m.pos, answer := some true } := by
  unfold M.exec M.word
  simp only [Nat.add_zero, hop]
  rw [show ops[1]? = some Op.SUCCESS from rfl]
  simp only [h1, h2, Bool.false_and, Bool.or_self, Bool.and_false, Bool.false_eq_true, if_false]
  rfl
theorem exec_assertNot (hop : m.code.getD m.pc 0 = 5) (h1 : m.code.getD (m.pc + 2) 0 = 0) (hin : m.inner = none) :
    m.exec = M.attempt { m with seen := m.seen.add 5 } { M.frame { m with seen := m.seen.add 5 } .lookNot with kept := M.keep { m with seen := m.seen.add 5 } false } (m.pc + 3) m.pos false := by
  unfold M.exec M.word
  simp only [Nat.add_zero, hop, h1]
  rw [show ops[5]? = some Op.ASSERT_NOT from rfl]
  simp only
  rw [if_neg (by omega)]
  simp only [hin]
  rfl
theorem exec_at (hop : m.code.getD m.pc 0 = 6) (hk : m.code.getD (m.pc + 1) 0 = 1) :
    m.exec = if (m.pos == 0 || m.text.getD (m.pos - 1) 0 == 10) then { m with seen := (m.seen.add 6).add 44, pc := m.pc + 2 } else { m with seen := (m.seen.add 6).add 44, answer := some false } := by
  unfold M.exec M.word
  simp only [Nat.add_zero, hop, hk]
  rw [show ops[6]? = some Op.AT from rfl]
  rfl
theorem attempt_eq {f : Sre.Frame} {t p : Nat} {o : Bool} (hw : m.weight + 1 + f.kept.marks.size ≤ 16777216) :
    m.attempt f t p o = { m with frames := f :: m.frames, weight := m.weight + 1 + f.kept.marks.size, pc := t, pos := p, handed := p, outermost := o } := by
  unfold M.attempt; rw [if_neg (by omega)]
end

/-- a state of the second pattern's machine -/
def mk (text : Array Nat) (p pc pos handed : Nat) (o : Bool) (fr : List Sre.Frame) (wt : Nat) (ans : Option Bool) (seen : Seen) : M :=
  { code := code2, text, lim := text.size, start := p, lastStart := text.size, pc, pos, handed, outermost := o, marks := #[], frames := fr, weight := wt, answer := ans, seen }
abbrev f0 (p : Nat) : Sre.Frame := { wait := .nextStart, pc := 10, pos := p, outermost := true }
abbrev fb (p alt : Nat) : Sre.Frame := { wait := .nextBranch, pc := alt, pos := p, outermost := true }
abbrev fl (p : Nat) : Sre.Frame := { wait := .lookNot, pc := 26, pos := p, outermost := true }

section
variable {text : Array Nat} {p pos handed wt : Nat} {o : Bool} {fr : List Sre.Frame} {seen : Seen}
theorem t_branch : (mk text p 10 p p true [f0 p] 1 none seen).step = mk text p 12 p p true [fb p 11, f0 p] 2 none (seen.add 7) := by
  rw [step_exec rfl rfl (by show 10 < 36; decide), exec_branch rfl]; rfl
theorem t_lit {pc c : Nat} (h1 : pc < 36) (h2 : code2.getD pc 0 = 16) (h3 : code2.getD (pc + 1) 0 = c) (hp : pos < text.size) (hc : text.getD pos 0 = c) :
    (mk text p pc pos handed o fr wt none seen).step = mk text p (pc + 2) (pos + 1) handed o fr wt none (seen.add 16) := by
  rw [step_exec rfl rfl h1, exec_lit h2 hp (by show (text.getD pos 0 == code2.getD (pc + 1) 0) = true; rw [h3, hc]; exact beq_self_eq_true _)]; rfl
theorem t_no {pc c : Nat} (h1 : pc < 36) (h2 : code2.getD pc 0 = 16) (h3 : code2.getD (pc + 1) 0 = c) (hc : text.size ≤ pos ∨ text.getD pos 0 ≠ c) :
    (mk text p pc pos handed o fr wt none seen).step = mk text p pc pos handed o fr wt (some false) (seen.add 16) := by
  rw [step_exec rfl rfl h1, exec_lit_no h2 (hc.imp id fun h => by show (text.getD pos 0 == code2.getD (pc + 1) 0) = false; rw [h3]; simpa using h)]; rfl
theorem t_jump {pc : Nat} (h1 : pc < 36) (h2 : code2.getD pc 0 = 15) (h3 : pc + 1 + code2.getD (pc + 1) 0 = 35) :
    (mk text p pc pos handed o fr wt none seen).step = mk text p 35 pos handed o fr wt none (seen.add 15) := by
  rw [step_exec rfl rfl h1, exec_jump h2, ← h3]; rfl
theorem t_success : (mk text p 35 pos handed o fr wt none seen).step = mk text p 35 pos pos o fr wt (some true) (seen.add 1) := by
  rw [step_exec rfl rfl (by show 35 < 36; decide), exec_success rfl rfl rfl]; rfl
theorem t_next1 {pc : Nat} : (mk text p pc pos handed o [fb p 11, f0 p] 2 (some false) seen).step = mk text p 19 p p true [fb p 18, f0 p] 2 none seen := by
  rw [step_resume rfl rfl rfl]; rfl
theorem t_next2 {pc : Nat} : (mk text p pc pos handed o [fb p 18, f0 p] 2 (some false) seen).step = mk text p 24 p p true [fb p 23, f0 p] 2 none seen := by
  rw [step_resume rfl rfl rfl]; rfl
theorem t_assert : (mk text p 26 pos handed true fr 2 none seen).step = mk text p 29 pos pos false (fl pos :: fr) 3 none (seen.add 5) := by
  rw [step_exec rfl rfl (by show 26 < 36; decide), exec_assertNot rfl rfl rfl]; rfl
theorem t_lookNot {q : Nat} {pc : Nat} : (mk text p pc pos handed o (fl q :: fr) 3 (some false) seen).step = mk text p 32 q handed true fr 2 none seen := by
  rw [step_resume rfl rfl rfl]; rfl
theorem t_yes {pc alt : Nat} : ∃ m', stepN 3 (mk text p pc pos handed o [fb p alt, f0 p] 2 (some true) seen) = m' ∧ m'.outcome = some .matched ∧ m'.start = p ∧ m'.handed = handed := by
  refine ⟨_, rfl, ?_⟩
  have e1 : (mk text p pc pos handed o [fb p alt, f0 p] 2 (some true) seen).step = mk text p alt p handed true [f0 p] 1 (some true) seen := by
    rw [step_resume rfl rfl rfl]; rfl
  have e2 : (mk text p alt p handed true [f0 p] 1 (some true) seen).step = mk text p 10 p handed true [] 0 (some true) seen := by
    rw [step_resume rfl rfl rfl]; rfl
  have e3 : (mk text p 10 p handed true [] 0 (some true) seen).step = { mk text p 10 p handed true [] 0 (some true) seen with outcome := some .matched } := by
    rw [step_end rfl rfl rfl]; rfl
  rw [stepN, stepN, stepN, stepN, e1, e2, e3]
  exact ⟨rfl, rfl, rfl⟩

theorem run2_nl (hp : p < text.size) (hc : text.getD p 0 = 10) : ∃ m', stepN 9 (mk text p 10 p p true [f0 p] 1 none seen) = m' ∧ m'.outcome = some .matched ∧ m'.start = p ∧ m'.handed = p + 1 := by
  rw [show 9 = 6 + 3 from rfl, stepN_add]
  simp only [stepN]
  rw [t_branch, t_no (c := 13) (by decide) rfl rfl (.inr (by omega)), t_next1, t_lit (c := 10) (by decide) rfl rfl hp hc, t_jump (by decide) rfl rfl, t_success]
  exact t_yes
theorem run2_crlf (hp : p + 1 < text.size) (hc : text.getD p 0 = 13) (hc2 : text.getD (p + 1) 0 = 10) : ∃ m', stepN 8 (mk text p 10 p p true [f0 p] 1 none seen) = m' ∧ m'.outcome = some .matched ∧ m'.start = p ∧ m'.handed = p + 2 := by
  rw [show 8 = 5 + 3 from rfl, stepN_add]
  simp only [stepN]
  rw [t_branch, t_lit (c := 13) (by decide) rfl rfl (by omega) hc, t_lit (c := 10) (by decide) rfl rfl hp hc2, t_jump (by decide) rfl rfl, t_success]
  exact t_yes
theorem run2_cr (hp : p < text.size) (hc : text.getD p 0 = 13) (hc2 : text.size ≤ p + 1 ∨ text.getD (p + 1) 0 ≠ 10) : ∃ m', stepN 15 (mk text p 10 p p true [f0 p] 1 none seen) = m' ∧ m'.outcome = some .matched ∧ m'.start = p ∧ m'.handed = p + 1 := by
  rw [show 15 = 12 + 3 from rfl, stepN_add]
  simp only [stepN]
  rw [t_branch, t_lit (c := 13) (by decide) rfl rfl hp hc, t_no (c := 10) (by decide) rfl rfl hc2, t_next1, t_no (c := 10) (by decide) rfl rfl (.inr (by omega)), t_next2,
    t_lit (c := 13) (by decide) rfl rfl hp hc, t_assert, t_no (c := 10) (by decide) rfl rfl hc2, t_lookNot, t_jump (by decide) rfl rfl, t_success]
  exact t_yes
end

def isNl (c : Nat) : Bool := c == 10 || c == 13

theorem admitted2 (m : M) (hc : m.code = code2) : ∀ (fuel s : Nat) (seen : Seen), m.lim < s + fuel →
    ((∀ q, s ≤ q → q < m.lim → isNl (m.text.getD q 0) = false) ∧ ∃ seen', m.admitted fuel s seen = .ok (none, seen')) ∨
    ∃ p seen', s ≤ p ∧ p < m.lim ∧ isNl (m.text.getD p 0) = true ∧ (∀ q, s ≤ q → q < p → isNl (m.text.getD q 0) = false) ∧ m.admitted fuel s seen = .ok (some p, seen')
  | 0, s, seen, h => .inl ⟨fun q h1 h2 => by omega, _, rfl⟩
  | fuel + 1, s, seen, h => by
    unfold M.admitted
    by_cases hs : s ≥ m.lim
    · rw [if_pos hs]
      exact .inl ⟨fun q h1 h2 => by omega, _, rfl⟩
    · rw [if_neg hs, hc]
      obtain ⟨seen', e⟩ := inSet2 (m.text.getD s 0) seen
      rw [e]
      cases hb : (m.text.getD s 0 == 10 || m.text.getD s 0 == 13) with
      | true =>
        simp only
        exact .inr ⟨s, seen', Nat.le_refl _, by omega, hb, fun q h1 h2 => by omega, rfl⟩
      | false =>
        simp only
        rcases admitted2 m hc fuel (s + 1) seen' (by omega) with ⟨h1, x⟩ | ⟨p, seen'', h1, h2, h3, h4, h5⟩
        · refine .inl ⟨fun q hq hl => ?_, x⟩
          rcases Nat.lt_or_ge s q with h | h
          · exact h1 q h hl
          · rw [show q = s by omega]; exact hb
        · refine .inr ⟨p, seen'', by omega, h2, h3, fun q hq hl => ?_, h5⟩
          rcases Nat.lt_or_ge s q with h | h
          · exact h4 q h hl
          · rw [show q = s by omega]; exact hb

/-- what a search of the second pattern finds -/
theorem search2 (text : Array Nat) (start : Nat) (hs : start ≤ text.size) :
    ((∀ q, start ≤ q → q < text.size → isNl (text.getD q 0) = false) ∧ ∃ k m', k ≤ 20 ∧ stepN k (forSearch code2 text 0 start text.size false) = m' ∧ m'.outcome = some .failed) ∨
    ∃ p, start ≤ p ∧ p < text.size ∧ isNl (text.getD p 0) = true ∧ (∀ q, start ≤ q → q < p → isNl (text.getD q 0) = false) ∧
      ∃ k m', k ≤ 20 ∧ stepN k (forSearch code2 text 0 start text.size false) = m' ∧ m'.outcome = some .matched ∧ m'.start = p ∧
        m'.handed = if text.getD p 0 = 13 ∧ p + 1 < text.size ∧ text.getD (p + 1) 0 = 10 then p + 2 else p + 1 := by
  by_cases h : start < text.size
  · have e : forSearch code2 text 0 start text.size false = M.attemptFrom { code := code2, text, lim := text.size, start, pc := 10, pos := start, handed := start, marks := #[], lastStart := text.size, seen := Seen.add {} 14 } start true := by
      unfold forSearch
      show (if (decide (start > text.size) || decide (text.size - start < 1)) = true then _ else _) = _
      rw [if_neg (by simp; omega)]
      rfl
    rw [e]
    unfold M.attemptFrom
    rw [if_neg (by show ¬ (!true) = true; simp)]
    rcases admitted2 { code := code2, text, lim := text.size, start, pc := 10, pos := start, handed := start, marks := #[], lastStart := text.size, seen := Seen.add {} 14 } rfl (text.size + 1 - start) start (Seen.add {} 14) (by show text.size < _; omega) with ⟨h1, seen', x⟩ | ⟨p, seen', h1, h2, h3, h4, x⟩
    · refine .inl ⟨h1, 1, _, by omega, rfl, ?_⟩
      show (stepN 1 (match M.admitted { code := code2, text, lim := text.size, start, pc := 10, pos := start, handed := start, marks := #[], lastStart := text.size, seen := Seen.add {} 14 } (text.size + 1 - start) start (Seen.add {} 14) with | .ok (some s, seen) => _ | .ok (none, seen) => _ | .error why => _)).outcome = _
      rw [x]
      simp only [stepN]
      rw [step_end rfl rfl rfl]; rfl
    · refine .inr ⟨p, h1, h2, h3, h4, ?_⟩
      show ∃ k m', k ≤ 20 ∧ stepN k (match M.admitted { code := code2, text, lim := text.size, start, pc := 10, pos := start, handed := start, marks := #[], lastStart := text.size, seen := Seen.add {} 14 } (text.size + 1 - start) start (Seen.add {} 14) with | .ok (some s, seen) => _ | .ok (none, seen) => _ | .error why => _) = m' ∧ _
      rw [x]
      simp only
      have e2 : ({ code := code2, text, lim := text.size, start, pc := 10, pos := start, handed := start, marks := #[], lastStart := text.size, mustAdvance := false, seen := seen' } : M).attemptAt p true = mk text p 10 p p true [f0 p] 1 none seen' := rfl
      show ∃ k m', k ≤ 20 ∧ stepN k (M.attemptAt ({ code := code2, text, lim := text.size, start, pc := 10, pos := start, handed := start, marks := #[], lastStart := text.size, mustAdvance := false, seen := seen' } : M) p true) = m' ∧ _
      rw [e2]
      have h2' : p < text.size := h2
      have h3' : isNl (text.getD p 0) = true := h3
      unfold isNl at h3'
      simp only [Bool.or_eq_true, beq_iff_eq] at h3'
      by_cases c10 : text.getD p 0 = 10
      · obtain ⟨m', a, b, c, d⟩ := run2_nl (seen := seen') h2' c10
        refine ⟨9, m', by omega, a, b, c, ?_⟩
        rw [d, if_neg (by omega)]
      · have c13 := h3'.resolve_left c10
        by_cases hn : p + 1 < text.size ∧ text.getD (p + 1) 0 = 10
        · obtain ⟨m', a, b, c, d⟩ := run2_crlf (seen := seen') hn.1 c13 hn.2
          refine ⟨8, m', by omega, a, b, c, ?_⟩
          rw [d, if_pos ⟨c13, hn.1, hn.2⟩]
        · obtain ⟨m', a, b, c, d⟩ := run2_cr (seen := seen') h2' c13 (by omega)
          refine ⟨15, m', by omega, a, b, c, ?_⟩
          rw [d, if_neg (by omega)]
  · refine .inl ⟨fun q h1 h2 => by omega, 1, _, by omega, rfl, ?_⟩
    unfold forSearch
    show (stepN 1 (if (decide (start > text.size) || decide (text.size - start < 1)) = true then _ else _)).outcome = _
    rw [if_pos (by simp; omega)]
    simp only [stepN]
    rw [step_end rfl rfl rfl]; rfl

/-- a state of the first pattern's machine -/
def mk1 (text : Array Nat) (p pc pos handed : Nat) (o : Bool) (fr : List Sre.Frame) (wt : Nat) (ans : Option Bool) (seen : Seen) : M :=
  { code := code1, text, lim := text.size, start := p, lastStart := text.size, pc, pos, handed, outermost := o, marks := #[], frames := fr, weight := wt, answer := ans, seen }
abbrev g0 (p : Nat) (o : Bool) : Sre.Frame := { wait := .nextStart, pc := 5, pos := p, outermost := o }
/-- the first pattern stands at p -/
def dotAt (text : Array Nat) (p : Nat) : Bool := (p == 0 || text.getD (p - 1) 0 == 10) && decide (p < text.size) && text.getD p 0 == 46

section
variable {text : Array Nat} {p : Nat} {o : Bool} {seen : Seen}
theorem u_yes (h : dotAt text p = true) : ∃ m', stepN 5 (mk1 text p 5 p p o [g0 p o] 1 none seen) = m' ∧ m'.outcome = some .matched ∧ m'.start = p ∧ m'.handed = p + 1 := by
  unfold dotAt at h
  simp only [Bool.and_eq_true, decide_eq_true_eq, beq_iff_eq] at h
  obtain ⟨⟨h1, h2⟩, h3⟩ := h
  have e1 : (mk1 text p 5 p p o [g0 p o] 1 none seen).step = mk1 text p 7 p p o [g0 p o] 1 none ((seen.add 6).add 44) := by
    rw [step_exec rfl rfl (by show 5 < 10; decide), exec_at rfl rfl]
    show (if (p == 0 || text.getD (p - 1) 0 == 10) = true then _ else _) = _
    rw [if_pos h1]; rfl
  have e2 : ∀ seen, (mk1 text p 7 p p o [g0 p o] 1 none seen).step = mk1 text p 9 (p + 1) p o [g0 p o] 1 none (seen.add 16) := by
    intro seen
    rw [step_exec rfl rfl (by show 7 < 10; decide), exec_lit rfl h2 (by show (text.getD p 0 == 46) = true; rw [h3]; rfl)]; rfl
  have e3 : ∀ seen, (mk1 text p 9 (p + 1) p o [g0 p o] 1 none seen).step = mk1 text p 9 (p + 1) (p + 1) o [g0 p o] 1 (some true) (seen.add 1) := by
    intro seen
    rw [step_exec rfl rfl (by show 9 < 10; decide), exec_success rfl rfl rfl]; rfl
  have e4 : ∀ seen, (mk1 text p 9 (p + 1) (p + 1) o [g0 p o] 1 (some true) seen).step = mk1 text p 5 p (p + 1) o [] 0 (some true) seen := by
    intro seen
    rw [step_resume rfl rfl rfl]; rfl
  refine ⟨_, rfl, ?_⟩
  simp only [stepN]
  rw [e1, e2, e3, e4, step_end rfl rfl rfl]
  exact ⟨rfl, rfl, rfl⟩
theorem u_no (h : dotAt text p = false) : ∃ k seen' pc pos, k ≤ 2 ∧ stepN k (mk1 text p 5 p p o [g0 p o] 1 none seen) = mk1 text p pc pos p o [g0 p o] 1 (some false) seen' := by
  unfold dotAt at h
  by_cases h1 : (p == 0 || text.getD (p - 1) 0 == 10) = true
  · rw [h1, Bool.true_and, Bool.and_eq_false_iff] at h
    have e1 : (mk1 text p 5 p p o [g0 p o] 1 none seen).step = mk1 text p 7 p p o [g0 p o] 1 none ((seen.add 6).add 44) := by
      rw [step_exec rfl rfl (by show 5 < 10; decide), exec_at rfl rfl]
      show (if (p == 0 || text.getD (p - 1) 0 == 10) = true then _ else _) = _
      rw [if_pos h1]; rfl
    refine ⟨2, ((seen.add 6).add 44).add 16, 7, p, by omega, ?_⟩
    simp only [stepN]
    rw [e1, step_exec rfl rfl (by show 7 < 10; decide), exec_lit_no rfl (h.imp (fun q => by show text.size ≤ p; simpa using q) fun q => q)]
    rfl
  · refine ⟨1, (seen.add 6).add 44, 5, p, by omega, ?_⟩
    simp only [stepN]
    rw [step_exec rfl rfl (by show 5 < 10; decide), exec_at rfl rfl]
    show (if (p == 0 || text.getD (p - 1) 0 == 10) = true then _ else _) = _
    rw [if_neg h1]; rfl
theorem u_next {pc pos : Nat} (h : p < text.size) : (mk1 text p pc pos p o [g0 p o] 1 (some false) seen).step = mk1 text (p + 1) 5 (p + 1) (p + 1) false [g0 (p + 1) false] 1 none seen := by
  rw [step_resume rfl rfl rfl]
  show (if p < text.size then _ else _) = _
  rw [if_pos h]; rfl
theorem u_last {pc pos : Nat} (h : ¬ p < text.size) : ∃ m', stepN 2 (mk1 text p pc pos p o [g0 p o] 1 (some false) seen) = m' ∧ m'.outcome = some .failed := by
  have e : (mk1 text p pc pos p o [g0 p o] 1 (some false) seen).step = mk1 text p 5 p p o [] 0 (some false) seen := by
    rw [step_resume rfl rfl rfl]
    show (if p < text.size then _ else _) = _
    rw [if_neg h]; rfl
  refine ⟨_, rfl, ?_⟩
  simp only [stepN]
  rw [e, step_end rfl rfl rfl]; rfl
end

theorem loop1 (text : Array Nat) : ∀ (n p : Nat) (o : Bool) (seen : Seen), p + n = text.size →
    ((∀ q, p ≤ q → dotAt text q = false) ∧ ∃ k m', k ≤ 4 * n + 6 ∧ stepN k (mk1 text p 5 p p o [g0 p o] 1 none seen) = m' ∧ m'.outcome = some .failed) ∨
    ∃ q, p ≤ q ∧ dotAt text q = true ∧ (∀ r, p ≤ r → r < q → dotAt text r = false) ∧
      ∃ k m', k ≤ 4 * n + 6 ∧ stepN k (mk1 text p 5 p p o [g0 p o] 1 none seen) = m' ∧ m'.outcome = some .matched ∧ m'.start = q ∧ m'.handed = q + 1
  | n, p, o, seen, hn => by
    cases hd : dotAt text p with
    | true =>
      obtain ⟨m', a, b, c, d⟩ := u_yes (o := o) (seen := seen) hd
      exact .inr ⟨p, Nat.le_refl _, hd, fun r h1 h2 => by omega, 5, m', by omega, a, b, c, d⟩
    | false =>
      obtain ⟨k, seen', pc, pos, hk, e⟩ := u_no (o := o) (seen := seen) hd
      match n, hn with
      | 0, hn =>
        obtain ⟨m', a, b⟩ := u_last (o := o) (seen := seen') (pc := pc) (pos := pos) (show ¬ p < text.size by omega)
        refine .inl ⟨fun q hq => ?_, k + 2, m', by omega, by rw [stepN_add, e]; exact a, b⟩
        rcases Nat.eq_or_lt_of_le hq with rfl | h
        · exact hd
        · unfold dotAt; simp; intros; omega
      | n + 1, hn =>
        have e1 : stepN (k + 1) (mk1 text p 5 p p o [g0 p o] 1 none seen) = mk1 text (p + 1) 5 (p + 1) (p + 1) false [g0 (p + 1) false] 1 none seen' := by
          rw [stepN_add, e]; simp only [stepN]; exact u_next (by omega)
        rcases loop1 text n (p + 1) false seen' (by omega) with ⟨h1, k', m', a, b, c⟩ | ⟨q, h1, h2, h3, k', m', a, b, c, d, e'⟩
        · refine .inl ⟨fun q hq => ?_, k + 1 + k', m', by omega, by rw [stepN_add, e1]; exact b, c⟩
          rcases Nat.eq_or_lt_of_le hq with rfl | h
          · exact hd
          · exact h1 q h
        · refine .inr ⟨q, by omega, h2, fun r hr hl => ?_, k + 1 + k', m', by omega, by rw [stepN_add, e1]; exact b, c, d, e'⟩
          rcases Nat.eq_or_lt_of_le hr with rfl | h
          · exact hd
          · exact h3 r h hl

/-- what a search of the first pattern finds -/
theorem search1 (text : Array Nat) (start : Nat) (hs : start ≤ text.size) :
    ((∀ q, start ≤ q → dotAt text q = false) ∧ ∃ k m', k ≤ 4 * text.size + 10 ∧ stepN k (forSearch code1 text 0 start text.size false) = m' ∧ m'.outcome = some .failed) ∨
    ∃ p, start ≤ p ∧ dotAt text p = true ∧ (∀ q, start ≤ q → q < p → dotAt text q = false) ∧
      ∃ k m', k ≤ 4 * text.size + 10 ∧ stepN k (forSearch code1 text 0 start text.size false) = m' ∧ m'.outcome = some .matched ∧ m'.start = p ∧ m'.handed = p + 1 := by
  by_cases h : start < text.size
  · have e : forSearch code1 text 0 start text.size false = mk1 text start 5 start start true [g0 start true] 1 none (Seen.add {} 14) := by
      unfold forSearch
      show (if (decide (start > text.size) || decide (text.size - start < 1)) = true then _ else _) = _
      rw [if_neg (by simp; omega)]
      rfl
    rw [e]
    rcases loop1 text (text.size - start) start true (Seen.add {} 14) (by omega) with ⟨h1, k, m', a, b⟩ | ⟨q, h1, h2, h3, k, m', a, b⟩
    · exact .inl ⟨h1, k, m', by omega, b⟩
    · exact .inr ⟨q, h1, h2, h3, k, m', by omega, b⟩
  · refine .inl ⟨fun q hq => by unfold dotAt; simp; intros; omega, 1, _, by omega, rfl, ?_⟩
    unfold forSearch
    show (stepN 1 (if (decide (start > text.size) || decide (text.size - start < 1)) = true then _ else _)).outcome = _
    rw [if_pos (by simp; omega)]
    simp only [stepN]
    rw [step_end rfl rfl rfl]; rfl
end Mine
end

section
open PySem PySem.W PyProof.Rows PySem.Calls PySem.Builtin.Re
namespace Mine
set_option maxRecDepth 100000
set_option maxHeartbeats 1000000

theorem plainAttrs_pat : PlainAttrs "re.Pattern" := by
  refine ⟨⟨"object.__getattribute__", ?_, by decide +kernel⟩, ?_⟩
  · rw [typeLookup_type, builtinLookup_eq_fast]; kernel_rfl
  · rw [typeLookup_type, builtinLookup_eq_fast]; kernel_rfl
theorem slot_pat_sub : Slot "re.Pattern" "sub" "re.Pattern.sub" :=
  .of (owner := "re.Pattern") (n := "sub") (by rw [typeLookup_type, builtinLookup_eq_fast]; kernel_rfl) (by decide +kernel) (by decide +kernel) (by decide +kernel)
    (by first | exact .inl (by decide +kernel) | exact .inr (by decide +kernel)) (by rw [isSubtype_type]; kernel_rfl)
theorem type_pat_sub : typeOf (.builtin "re.Pattern.sub") = pure (.type "method_descriptor") := by show builtinType _ = _; rw [builtinType_eq_fast]; kernel_rfl
theorem entry_pat_sub : entryFor table "re.Pattern.sub" = some Builtin.«re.Pattern.sub» := entryFor_of_tree (by kernel_rfl)
theorem entry_pat_loop : entryFor table "re.Pattern.sub.loop" = some Builtin.«re.Pattern.sub.loop» := entryFor_of_tree (by kernel_rfl)
theorem args_pat_sub (a b c : Value) : argsOk "re.Pattern.sub" ⟨[a, b, c], []⟩ := by unfold argsOk; kernel_rfl
theorem plain_pat_loop : plainId "re.Pattern.sub.loop" = true := by decide +kernel

section
variable {w : World} {A : Around} {E : Value → Shared → Prop} {s : Shared}

theorem forIn_unit {α : Type} {Q : PUnit → Shared → Prop} {M : Model} (f : α → PUnit → Sem (ForInStep PUnit)) (hf : ∀ a u s (R : ForInStep PUnit → Shared → Prop), R (.yield ⟨⟩) s → wpAny M A (f a u) R E s) :
    ∀ (l : List α) (s : Shared), Q ⟨⟩ s → wpAny M A (forIn l (⟨⟩ : PUnit) f) Q E s
  | [], s, h => by rw [List.forIn_nil]; exact wpAny_pure h
  | a :: l, s, h => by
    rw [List.forIn_cons]
    exact wpAny_bind (hf a _ s _ (forIn_unit f hf l s h))

theorem drive {m : Sre.M} {M : Model} {Q : Sre.M → Shared → Prop} : ∀ (T k : Nat) (m : Sre.M), k < 4 * T → (stepN k m).outcome.isSome = true → Q (stepN k m) s → wpAny M A (reDrive T m) Q E s
  | 0, k, m, hk, _, _ => by omega
  | T + 1, k, m, hk, ho, h => by
    unfold reDrive
    show wpAny M A (if (m.runFor 4).outcome.isSome = true then pure (m.runFor 4) else _) Q E s
    rw [runFor_eq]
    by_cases h4 : (stepN 4 m).outcome.isSome = true
    · rw [if_pos h4]
      have e : stepN 4 m = stepN k m := by
        rcases Nat.le_total k 4 with q | q
        · rw [show 4 = k + (4 - k) by omega, stepN_add, stepN_done ho]
        · rw [show k = 4 + (k - 4) by omega, stepN_add, stepN_done h4]
      rw [e]; exact wpAny_pure h
    · rw [if_neg h4]
      have hk4 : 4 < k := by
        rcases Nat.lt_or_ge 4 k with q | q
        · exact q
        · rw [show 4 = k + (4 - k) by omega, stepN_add, stepN_done ho] at h4
          exact absurd ho h4
      have e : stepN k m = stepN (k - 4) (stepN 4 m) := by
        rw [← stepN_add, show 4 + (k - 4) = k by omega]
      rw [e] at ho h
      refine wpAny_bind (wpAny_rule ?_)
      rw [show Sre.M.runFor reTurnSteps m = stepN 4 m from runFor_eq 4 m]
      exact drive (m := m) T (k - 4) (stepN 4 m) (by omega) ho h

theorem runToEnd {m : Sre.M} {M : Model} {Q : Option Sre.M → Shared → Prop} (k : Nat) (hk : k < 2 ^ 60)
    (h : ((stepN k m).outcome = some .matched ∧ Q (some (stepN k m)) s) ∨ ((stepN k m).outcome = some .failed ∧ Q none s)) : wpAny M A (reRunToEnd m) Q E s := by
  unfold reRunToEnd
  refine wpAny_bind (drive (m := m) (2 ^ 64) k m (by omega) (by rcases h with h | h <;> rw [h.1] <;> rfl) ?_)
  refine wpAny_bind (forIn_unit _ ?_ _ _ ?_)
  · intro a u s R hR
    by_cases hh : (stepN k m).seen.has a = true
    · rw [if_pos hh]; exact wpAny_bind (wpAny_rule (wpAny_pure hR))
    · rw [if_neg hh]; exact wpAny_bind (wpAny_pure (wpAny_pure hR))
  · rcases h with ⟨h1, h2⟩ | ⟨h1, h2⟩
    · rw [h1]; exact wpAny_pure h2
    · rw [h1]; exact wpAny_pure h2
end
end Mine
end

section
open PySem PySem.W PyProof.Rows PySem.Calls PySem.Builtin.Re
namespace Mine
set_option maxRecDepth 100000
set_option maxHeartbeats 1000000

def txt (l : List Nat) : Str := ⟨l.toArray⟩

/-- a pattern's object with this code -/
def Pat (h : Heap) (a : Addr) (code : Array Nat) : Prop :=
  ∃ p fl t ot vs n, h.get? a = some { cls := .type "re.Pattern", data := .fields #[p, fl, .int 0 0, .none, .none, .ref t, .int 0 0] } ∧ h.get? t = some ot ∧ ot.data = .seq vs n ∧ (vs.map reRawOf).map Int.toNat = code

/-- what a substitution makes of the text from d on -/
inductive SubOut (code T : Array Nat) (repl : List Nat) : Nat → List Nat → Prop
  | stop {d k : Nat} : d ≤ T.size → k < 2 ^ 60 → (stepN k (Sre.forSearch code T 0 d T.size false)).outcome = some .failed → SubOut code T repl d (T.toList.drop d)
  | more {d p e k : Nat} {out : List Nat} : d ≤ p → p < e → e ≤ T.size → k < 2 ^ 60 → (stepN k (Sre.forSearch code T 0 d T.size false)).outcome = some .matched →
      (stepN k (Sre.forSearch code T 0 d T.size false)).start = p → (stepN k (Sre.forSearch code T 0 d T.size false)).handed = e → SubOut code T repl e out →
      SubOut code T repl d ((T.extract d p).toList ++ repl ++ out)

section
variable {w : World} {A : Around} {E : Value → Shared → Prop} {s : Shared}

theorem wholeTarget {a : Addr} {code : Array Nat} {x : Str} {t : Tok} {M : Model} {Q : ReTarget → Shared → Prop} (P : Pat s.heap a code)
    (h : Q { pattern := .ref a, string := .str x t, code, text := x.cps, kind := 0, groups := 0, pos := 0, lim := x.cps.size } s) : wpAny M A (reWholeTarget (.ref a) (.str x t)) Q E s := by
  obtain ⟨p, fl, tt, ot, vs, n, ha, ht, hd, hc⟩ := P
  unfold reWholeTarget
  refine wpAny_bind (wpAny_fieldsOf ha rfl ?_)
  unfold reTextOf
  refine wpAny_bind (wpAny_bind (m := asStr? (.str x t)) (wpAny_pure (wpAny_pure ?_)))
  show wpAny M A (do
    if (reRawNat (Value.int 0 0) == 0 && (0 : Nat) == 1) = true then raiseError "TypeError" "cannot use a string pattern on a bytes-like object"
    _) Q E s
  refine wpAny_bind ?_
  refine wpAny_pure ?_
  refine wpAny_bind ?_
  show wpAny M A (reRawItems (.ref tt)) _ E s
  unfold reRawItems seqItems?
  refine wpAny_bind (wpAny_bind (wpAny_load ht ?_))
  rw [hd]
  refine wpAny_pure (wpAny_pure (wpAny_pure ?_))
  show Q { pattern := .ref a, string := .str x t, code := (vs.map reRawOf).map Int.toNat, text := x.cps, kind := 0, groups := 0, pos := 0, lim := x.cps.size } s
  rw [hc]; exact h

theorem nextFound {code T : Array Nat} {x : Str} {t : Tok} {a : Addr} {d k : Nat} {M : Model} {Q : Option Sre.M → Shared → Prop} (hT : x.cps = T) (hk : k < 2 ^ 60)
    (h : ((stepN k (Sre.forSearch code T 0 d T.size false)).outcome = some .matched ∧ Q (some (stepN k (Sre.forSearch code T 0 d T.size false))) s) ∨ ((stepN k (Sre.forSearch code T 0 d T.size false)).outcome = some .failed ∧ Q none s)) :
    wpAny M A (reNextFound { pattern := .ref a, string := .str x t, code, text := x.cps, kind := 0, groups := 0, pos := 0, lim := x.cps.size } d false) Q E s := by
  subst hT
  exact runToEnd k hk h

theorem slice_str {T : Array Nat} {b e : Nat} {M : Model} {Q : Value → Shared → Prop} (hz : (T.extract b e).size ≤ sizeLine) (h : Q (.str ⟨T.extract b e⟩ s.toks) { s with toks := s.toks + 1 }) : wpAny M A (reSlice T 0 b e) Q E s := by
  unfold reSlice
  rw [if_pos (by rfl)]
  exact wpAny_mkStr h hz

theorem push_l {l : Addr} {vs : List Value} {c : Nat} {v : Value} {M : Model} {Q : Unit → Shared → Prop} (ho : s.heap.get? l = some (listOf vs.toArray c)) (hz : vs.length < sizeLine)
    (h : ∀ h', (∀ b o, b ≠ l → s.heap.get? b = some o → h'.get? b = some o) → h'.get? l = some (listOf (vs ++ [v]).toArray (c + 1)) → Q () { s with heap := h' }) : wpAny M A (updateSeq l (·.push v)) Q E s := by
  refine wpAny_updateSeq ho rfl (h _ (fun b o hb e => (Heap.get?_update_ne _ _ _ _ hb).trans e) ?_) (by simp; omega) (by simp; omega)
  have := get?_update_seq ho (fun xs => xs.push v)
  rw [this]
  simp

theorem join_txt (xs : List (List Nat)) : Str.join ⟨#[]⟩ (xs.map txt) = txt xs.flatten := by
  induction xs with
  | nil => rfl
  | cons x r ih =>
    cases r with
    | nil => simp [Str.join]
    | cons y r' =>
      show txt x ++ ⟨#[]⟩ ++ Str.join ⟨#[]⟩ ((y :: r').map txt) = _
      rw [ih]
      show (⟨(x.toArray ++ #[]) ++ ((y :: r').flatten).toArray⟩ : Str) = ⟨((x :: y :: r').flatten).toArray⟩
      simp
theorem sum_txt (xs : List (List Nat)) : ((xs.map txt).map (·.length)).sum = xs.flatten.length := by
  induction xs with
  | nil => rfl
  | cons x r ih => simp only [List.map_cons, List.sum_cons, ih, List.flatten_cons, List.length_append]; simp [txt, Str.length]

theorem StrsAre_snoc {vs : List Value} {xs : List (List Nat)} {y : List Nat} {tk : Tok} (h : StrsAre vs (xs.map txt)) : StrsAre (vs ++ [.str (txt y) tk]) ((xs ++ [y]).map txt) := by
  rw [List.map_append]
  exact StrsAre.append' h (.cons _ _ .nil)
theorem ext_txt (T : Array Nat) (b e : Nat) : (⟨T.extract b e⟩ : Str) = txt (T.extract b e).toList := by unfold txt; rw [Array.toArray_toList]
theorem SubOut.le {code T : Array Nat} {repl : List Nat} {d : Nat} {out : List Nat} (h : SubOut code T repl d out) : d ≤ T.size := by
  cases h <;> omega

theorem loop_ct {code T : Array Nat} {repl : List Nat} {d : Nat} {out : List Nat} (h : SubOut code T repl d out) (hT : T.size ≤ 2 ^ 20) (hrepl : repl.length ≤ 4) {g : Heap} {a : Addr} (P : Pat g a code) {l : Addr} (hgl : g.get? l = none) {t tr : Tok} {R : Result → Shared → Prop} :
    ∀ (s : Shared) (vs : List Value) (xs : List (List Nat)) (c n : Nat), (∀ b o, g.get? b = some o → s.heap.get? b = some o) → s.heap.get? l = some (listOf vs.toArray c) → StrsAre vs (xs.map txt) → vs.length ≤ 2 * d → xs.flatten.length ≤ 6 * d →
      (∀ h' tk' tk, (∀ b o, b ≠ l → s.heap.get? b = some o → h'.get? b = some o) → R (.ok (.ret (.str (txt (xs.flatten ++ out)) tk))) { s with heap := h', toks := tk' }) →
      codeAny (model prog w) A (.builtin "re.Pattern.sub.loop" ⟨[.ref a, .str (⟨T⟩ : Str) t, .str (txt repl) tr, rawInt 0, rawInt 0, rawInt n, rawInt d, rawInt d, .bool false, .ref l, .bool false], []⟩) R s := by
  induction h with
  | @stop d k hd hk hrun =>
    intro s vs xs c n hg hl hxs hlen hfl hR
    refine codeAny_builtin entry_pat_loop ?_
    rw [Around.under_plainId plain_pat_loop]
    unfold Builtin.«re.Pattern.sub.loop»
    refine wpAny_bind (m := reWholeTarget _ _) (wholeTarget (by obtain ⟨p, fl, tt, ot, us, n, ha, ht, r⟩ := P; exact ⟨p, fl, tt, ot, us, n, hg _ _ ha, hg _ _ ht, r⟩) ?_)
    dsimp only
    rw [if_pos (by rfl)]
    refine wpAny_bind (m := reLiteralCannotBeTurned _) (wpAny_pure ?_)
    refine wpAny_bind ?_
    rw [if_neg (by simp)]
    refine nextFound rfl hk (.inr ⟨hrun, ?_⟩)
    dsimp only
    have hw : A.in1.units < cLine ∨ True := .inr trivial
    have fin : ∀ (s' : Shared) (us : List Value) (ys : List (List Nat)) (c' : Nat), s'.heap.get? l = some (listOf us.toArray c') → StrsAre us (ys.map txt) → ys.flatten = xs.flatten ++ T.toList.drop d → us.length ≤ 2 * d + 1 →
        (∃ h' tk', s' = { s with heap := h', toks := tk' } ∧ (∀ b o, b ≠ l → s.heap.get? b = some o → h'.get? b = some o)) → 
        wpAny (model prog w) A.in1 (do
          let joiner ← reSlice T 0 0 0
          let its ← seqItems? (Value.ref l)
          if (its.getD #[]).isEmpty = true then (do let text ← pure joiner; ret text) else (do let text ← call (.builtin "str.join") [joiner, .ref l]; ret text)) (fun fin s' => match fin with | .done f => R (.ok f) s' | .again c' => c'.quiet = true ∧ codeAny (model prog w) A c' R s') (fun e s' => R (.error e) s') s' := by
      intro s' us ys c' hl' hys hfl' hul ⟨h', tk', es, hk'⟩
      subst es
      refine wpAny_bind (slice_str (by simp) ?_)
      unfold seqItems?
      refine wpAny_bind (wpAny_bind (wpAny_load hl' (wpAny_pure ?_)))
      have hext : (⟨T.extract 0 0⟩ : Str) = ⟨#[]⟩ := by simp
      rw [hext]
      by_cases hus : us = []
      · subst hus
        have hy0 : ys = [] := by
          cases ys with
          | nil => rfl
          | cons y r => cases hys
        subst hy0
        rw [if_pos (by rfl)]
        refine wpAny_bind (wpAny_pure (wpAny_pure ?_))
        have := hR h' (tk' + 1) tk' hk'
        rw [← hfl'] at this
        exact this
      · rw [if_neg (by simpa using hus)]
        refine wpAny_bind ?_
        have hlen2 : ys.length = us.length := by have := hys.len_eq; simpa using this.symm
        refine join_list (isL hl') (by rw [List.toList_toArray]; exact hys) ?_ ?_
        · have hTl : T.toList.length = T.size := Array.length_toList
          rw [sum_txt, hfl', List.length_append, List.length_drop]
          show _ + (ys.map txt).length * 0 ≤ _
          omega
        · intro t' k'
          refine wpAny_pure ?_
          have ej : Txt.join ⟨#[]⟩ (ys.map txt) = txt (xs.flatten ++ List.drop d T.toList) := by
            rw [beq_iff_eq.mp (join_plain_closes ⟨#[]⟩ (ys.map txt)), join_txt, hfl']
          rw [ej]
          exact hR h' k' t' hk'
    by_cases hdl : d < T.size
    · rw [if_pos (by simpa using hdl)]
      refine wpAny_bind (slice_str (by rw [Array.size_extract, sizeLine_eq]; omega) ?_)
      refine wpAny_bind (push_l hl (by rw [sizeLine_eq]; omega) ?_)
      intro h2 k2 e2
      rw [ext_txt] at e2
      refine fin ⟨h2, s.gens, s.drawn, s.toks + 1, s.os⟩ _ _ _ e2 (StrsAre_snoc hxs) ?_ (by simp; omega) ⟨h2, _, rfl, k2⟩
      rw [List.flatten_append, List.flatten_singleton]
      congr 1
      simp
      exact List.take_of_length_le (by simp)
    · rw [if_neg (by simpa using hdl)]
      refine fin s vs xs c hl hxs ?_ (by omega) ⟨s.heap, s.toks, rfl, fun b o _ e => e⟩
      rw [List.drop_of_length_le (by simp; omega), List.append_nil]
  | @more d p e k out hdp hpe heT hk hrun hst hhd _ ih =>
    intro s vs xs c n hg hl hxs hlen hfl hR
    refine codeAny_builtin entry_pat_loop ?_
    rw [Around.under_plainId plain_pat_loop]
    unfold Builtin.«re.Pattern.sub.loop»
    refine wpAny_bind (m := reWholeTarget _ _) (wholeTarget (by obtain ⟨p, fl, tt, ot, us, n, ha, ht, r⟩ := P; exact ⟨p, fl, tt, ot, us, n, hg _ _ ha, hg _ _ ht, r⟩) ?_)
    dsimp only
    rw [if_pos (by rfl)]
    refine wpAny_bind (m := reLiteralCannotBeTurned _) (wpAny_pure ?_)
    refine wpAny_bind ?_
    rw [if_neg (by simp)]
    refine nextFound rfl hk (.inl ⟨hrun, ?_⟩)
    dsimp only
    rw [Int.toNat_natCast, hst, hhd]
    have hgl' : ∀ b o, g.get? b = some o → b ≠ l := by
      rintro b o e' rfl
      rw [hgl] at e'; cases e'
    have fin : ∀ (s' : Shared) (us : List Value) (ys : List (List Nat)) (c' : Nat), s'.heap.get? l = some (listOf us.toArray c') → StrsAre us (ys.map txt) → ys.flatten = xs.flatten ++ (T.extract d p).toList → us.length ≤ 2 * d + 1 →
        (∃ h' tk', s' = { s with heap := h', toks := tk' } ∧ (∀ b o, b ≠ l → s.heap.get? b = some o → h'.get? b = some o)) → 
        wpAny (model prog w) A.in1 (do
          let _ ← updateSeq l fun x => x.push (Value.str (txt repl) tr)
          again (Code.builtin "re.Pattern.sub.loop" ⟨[.ref a, .str (⟨T⟩ : Str) t, .str (txt repl) tr, rawInt 0, rawInt 0, rawInt (n + 1 : Nat), rawInt e, rawInt e, .bool false, .ref l, .bool false], []⟩))
          (fun fin s' => match fin with | .done f => R (.ok f) s' | .again c' => c'.quiet = true ∧ codeAny (model prog w) A c' R s') (fun e s' => R (.error e) s') s' := by
      intro s' us ys c' hl' hys hfl' hul ⟨h', tk', es, hk'⟩
      subst es
      refine wpAny_bind (push_l hl' (by rw [sizeLine_eq]; omega) ?_)
      intro h2 k2 e2
      refine wpAny_pure ⟨plainId_quiet plain_pat_loop _, ?_⟩
      have hlx : (T.extract d p).toList.length ≤ p - d := by
        rw [Array.length_toList, Array.size_extract]; omega
      refine ih _ (us ++ [.str (txt repl) tr]) (ys ++ [repl]) _ (n + 1) (fun b o e' => k2 b o (hgl' b o e') (hk' b o (hgl' b o e') (hg b o e'))) e2 (StrsAre_snoc hys) (by simp; omega) ?_ ?_
      · rw [List.flatten_append, List.flatten_singleton, hfl', List.length_append, List.length_append]; omega
      · intro h3 tk3 tk k3
        rw [List.flatten_append, List.flatten_singleton, hfl']
        have := hR h3 tk3 tk (fun b o hb e' => k3 b o hb (k2 b o hb (hk' b o hb e')))
        rw [← List.append_assoc, ← List.append_assoc] at this
        exact this
    have hbeq : (e == p) = false := by simp; omega
    by_cases hdl : d < p
    · rw [if_pos hdl]
      refine wpAny_bind (slice_str (by rw [Array.size_extract, sizeLine_eq]; omega) ?_)
      refine wpAny_bind (push_l hl (by rw [sizeLine_eq]; omega) ?_)
      intro h2 k2 e2
      rw [ext_txt] at e2
      rw [hbeq]
      refine fin ⟨h2, s.gens, s.drawn, s.toks + 1, s.os⟩ _ _ _ e2 (StrsAre_snoc hxs) ?_ (by simp; omega) ⟨h2, _, rfl, k2⟩
      rw [List.flatten_append, List.flatten_singleton]
    · rw [if_neg hdl, hbeq]
      refine fin s vs xs c hl hxs ?_ (by omega) ⟨s.heap, s.toks, rfl, fun b o _ e => e⟩
      rw [show p = d by omega]; simp

theorem lookup_str_call : typeLookup (.type "str") "__call__" = pure none := by rw [typeLookup_type, builtinLookup_eq_fast]; kernel_rfl

theorem sub_ct {code T : Array Nat} {repl : List Nat} {out : List Nat} (h : SubOut code T repl 0 out) (hT : T.size ≤ 2 ^ 20) (hrepl : repl.length ≤ 4) (h92 : repl.contains 92 = false) {a : Addr} (P : Pat s.heap a code) {t tr : Tok} {Q : Value → Shared → Prop}
    (hQ : ∀ h' tk' tk, (∀ b o, s.heap.get? b = some o → h'.get? b = some o) → Q (.str (txt out) tk) { s with heap := h', toks := tk' }) :
    wpAny (model prog w) A (call (.builtin "re.Pattern.sub") [.ref a, .str (txt repl) tr, .str (⟨T⟩ : Str) t]) Q E s := by
  have hTI : s.TypeIs (.ref a) "re.Pattern" := by
    obtain ⟨p, fl, tt, ot, us, n, ha, ht, r⟩ := P
    exact ⟨_, ha, rfl⟩
  refine wpAny_call (codeAny_call_builtin slot_pat_sub.plain entry_pat_sub (slot_pat_sub.check _ _ _ _ _ _ _ _ hTI (args_pat_sub _ _ _) ?_))
  unfold Builtin.«re.Pattern.sub» reSubstitute
  dsimp only
  refine wpAny_bind (m := reNamed _ _ _ _ _ _) (wpAny_pure ?_)
  dsimp only
  refine wpAny_bind (wpAny_pure ?_)
  refine wpAny_bind (wpAny_specialOf (T := "str") rfl lookup_str_call ?_)
  rw [if_neg (by simp)]
  refine wpAny_bind (m := asStr? _) (wpAny_pure ?_)
  refine wpAny_bind (wpAny_pure ?_)
  rw [if_neg (by simp)]
  have h92' : (!(txt repl).cps.contains 92) = true := by
    show (!(repl.toArray).contains 92) = true
    simp at h92 ⊢
    exact h92
  rw [if_pos h92']
  refine wpAny_bind (wpAny_pure ?_)
  dsimp only
  refine wpAny_bind (wpAny_holding (wholeTarget P ?_))
  rw [if_neg (by simp)]
  refine wpAny_bind (wpAny_newList ?_ (Nat.zero_le _))
  refine wpAny_pure ⟨plainId_quiet plain_pat_loop _, ?_⟩
  have keep : ∀ b o, s.heap.get? b = some o → (s.heap.push (seqObj "list" #[] 0)).get? b = some o := fun b o e => Heap.get?_push_of_some _ e
  refine loop_ct h hT hrepl (g := s.heap) P (l := s.heap.objs.size) (Heap.get?_none_of_le (Nat.le_refl _)) _ [] [] 0 0 keep (Heap.get?_push_size _ rfl) .nil (by simp) (by simp) ?_
  intro h' tk' tk k
  exact hQ h' tk' tk fun b o e => k b o (Nat.ne_of_lt (Heap.lt_size e)) (keep b o e)
end
end Mine
end

section
open PySem
namespace Mine

/-- every line end made a return and a feed -/
def crlf : List Nat → List Nat
  | [] => []
  | 13 :: 10 :: r => 13 :: 10 :: crlf r
  | c :: r => if c = 13 ∨ c = 10 then 13 :: 10 :: crlf r else c :: crlf r

/-- a dot more ahead of each row that begins with one -/
def stuff : Bool → List Nat → List Nat
  | _, [] => []
  | b, c :: r => if b = true ∧ c = 46 then 46 :: 46 :: stuff false r else c :: stuff (c == 10) r

def quote (l : List Nat) : List Nat := stuff true (crlf l)

theorem crlf_nl (r : List Nat) : crlf (10 :: r) = 13 :: 10 :: crlf r := by
  rw [crlf]; simp
  intro r' h; cases h
theorem crlf_crlf (r : List Nat) : crlf (13 :: 10 :: r) = 13 :: 10 :: crlf r := by rw [crlf]
theorem crlf_cr {r : List Nat} (h : ∀ r', r ≠ 10 :: r') : crlf (13 :: r) = 13 :: 10 :: crlf r := by
  rw [crlf]; simp
  intro r' _ h'; exact h r' h'
theorem crlf_other {c : Nat} {r : List Nat} (h : isNl c = false) : crlf (c :: r) = c :: crlf r := by
  unfold isNl at h
  simp at h
  rw [crlf]; rw [if_neg (by omega)]
  rintro r' rfl; omega

theorem getD_drop {T : Array Nat} {d : Nat} (h : d < T.size) : T.toList.drop d = T.getD d 0 :: T.toList.drop (d + 1) := by
  rw [List.drop_eq_getElem_cons (by simpa using h)]
  simp [Array.getD, h]
theorem extract_self (T : Array Nat) (d : Nat) : (T.extract d d).toList = [] := by simp
theorem extract_cons {T : Array Nat} {d p : Nat} (h : d < p) (hp : p ≤ T.size) : (T.extract d p).toList = T.getD d 0 :: (T.extract (d + 1) p).toList := by
  have e1 : (T.extract d p).toList = (T.toList.drop d).take (p - d) := by simp
  have e2 : (T.extract (d + 1) p).toList = (T.toList.drop (d + 1)).take (p - (d + 1)) := by simp
  rw [e1, e2, getD_drop (by omega), show p - d = (p - (d + 1)) + 1 by omega, List.take_succ_cons]

theorem crlf_pre {T : Array Nat} : ∀ (n d p : Nat), d + n = p → p ≤ T.size → (∀ q, d ≤ q → q < p → isNl (T.getD q 0) = false) → crlf (T.toList.drop d) = (T.extract d p).toList ++ crlf (T.toList.drop p)
  | 0, d, p, h, _, _ => by rw [show p = d by omega, extract_self]; rfl
  | n + 1, d, p, h, hp, hq => by
    rw [getD_drop (by omega), crlf_other (hq d (by omega) (by omega)), extract_cons (by omega) hp, List.cons_append, crlf_pre n (d + 1) p (by omega) hp fun q h1 h2 => hq q (by omega) h2]

theorem stuff_pre {T : Array Nat} : ∀ (n d p : Nat), d + n = p → p ≤ T.size → (∀ q, d ≤ q → q < p → dotAt T q = false) →
    stuff (d == 0 || T.getD (d - 1) 0 == 10) (T.toList.drop d) = (T.extract d p).toList ++ stuff (p == 0 || T.getD (p - 1) 0 == 10) (T.toList.drop p)
  | 0, d, p, h, _, _ => by rw [show p = d by omega, extract_self]; rfl
  | n + 1, d, p, h, hp, hq => by
    have hd := hq d (by omega) (by omega)
    unfold dotAt at hd
    rw [getD_drop (by omega), stuff, if_neg, extract_cons (by omega) hp, List.cons_append]
    · have e := stuff_pre n (d + 1) p (by omega) hp fun q h1 h2 => hq q (by omega) h2
      rw [show (d + 1 == 0 || T.getD (d + 1 - 1) 0 == 10) = (T.getD d 0 == 10) by simp] at e
      rw [e]
    · rintro ⟨h1, h2⟩
      rw [h1, h2] at hd
      simp at hd
      omega

theorem out2 (T : Array Nat) : ∀ (n d : Nat), d + n = T.size → SubOut code2 T [13, 10] d (crlf (T.toList.drop d)) := by
  intro n
  induction n using Nat.strongRecOn with
  | _ n ih =>
    intro d hd
    rcases search2 T d (by omega) with ⟨h1, k, m', hk, e, ho⟩ | ⟨p, h1, h2, h3, h4, k, m', hk, e, ho, hs, hh⟩
    · have := crlf_pre (T := T) n d T.size (by omega) (Nat.le_refl _) h1
      have e0 : T.toList.drop T.size = [] := by simp
      rw [e0] at this
      rw [this]
      have : (T.extract d T.size).toList ++ crlf [] = T.toList.drop d := by
        rw [crlf, List.append_nil]; simp
        exact List.take_of_length_le (by simp)
      rw [this]
      subst e
      exact .stop (by omega) (by omega) ho
    · rw [crlf_pre (p - d) d p (by omega) (by omega) h4]
      subst e
      unfold isNl at h3
      simp only [Bool.or_eq_true, beq_iff_eq] at h3
      by_cases hc : T.getD p 0 = 13 ∧ p + 1 < T.size ∧ T.getD (p + 1) 0 = 10
      · rw [if_pos hc] at hh
        have ec : crlf (T.toList.drop p) = [13, 10] ++ crlf (T.toList.drop (p + 2)) := by
          rw [getD_drop h2, getD_drop hc.2.1, hc.1, hc.2.2, crlf_crlf]; rfl
        rw [ec, ← List.append_assoc]
        exact .more h1 (by omega) (by omega) (by omega) ho hs hh (ih (T.size - (p + 2)) (by omega) _ (by omega))
      · rw [if_neg hc] at hh
        have ec : crlf (T.toList.drop p) = [13, 10] ++ crlf (T.toList.drop (p + 1)) := by
          rw [getD_drop h2]
          rcases h3 with h3 | h3
          · rw [h3, crlf_nl]; rfl
          · rw [h3, crlf_cr]
            · rfl
            · intro r' hr
              by_cases hp1 : p + 1 < T.size
              · rw [getD_drop hp1] at hr
                injection hr with q1 q2
                exact hc ⟨h3, hp1, q1⟩
              · rw [List.drop_of_length_le (by simp; omega)] at hr; cases hr
        rw [ec, ← List.append_assoc]
        exact .more h1 (by omega) (by omega) (by omega) ho hs hh (ih (T.size - (p + 1)) (by omega) _ (by omega))

theorem out1 (T : Array Nat) (hT : T.size ≤ 2 ^ 20) : ∀ (n d : Nat), d + n = T.size → SubOut code1 T [46, 46] d (stuff (d == 0 || T.getD (d - 1) 0 == 10) (T.toList.drop d)) := by
  intro n
  induction n using Nat.strongRecOn with
  | _ n ih =>
    intro d hd
    rcases search1 T d (by omega) with ⟨h1, k, m', hk, e, ho⟩ | ⟨p, h1, h2, h4, k, m', hk, e, ho, hs, hh⟩
    · rw [stuff_pre (T := T) n d T.size (by omega) (Nat.le_refl _) fun q h _ => h1 q h]
      have e0 : T.toList.drop T.size = [] := by simp
      rw [e0]
      have : (T.extract d T.size).toList ++ stuff (T.size == 0 || T.getD (T.size - 1) 0 == 10) [] = T.toList.drop d := by
        rw [stuff, List.append_nil]; simp
        exact List.take_of_length_le (by simp)
      rw [this]
      subst e
      exact .stop (by omega) (by omega) ho
    · have h2' := h2
      unfold dotAt at h2'
      simp only [Bool.and_eq_true, decide_eq_true_eq, beq_iff_eq] at h2'
      obtain ⟨⟨q1, q2⟩, q3⟩ := h2'
      rw [stuff_pre (p - d) d p (by omega) (by omega) h4]
      subst e
      have ec : stuff (p == 0 || T.getD (p - 1) 0 == 10) (T.toList.drop p) = [46, 46] ++ stuff (p + 1 == 0 || T.getD (p + 1 - 1) 0 == 10) (T.toList.drop (p + 1)) := by
        rw [getD_drop q2, stuff, if_pos ⟨q1, q3⟩]
        simp [q3]
      rw [ec, ← List.append_assoc]
      exact .more h1 (by omega) (by omega) (by omega) ho hs hh (ih (T.size - (p + 1)) (by omega) _ (by omega))
end Mine
end

section
open PySem PySem.W PyProof.Rows PySem.Calls
namespace Mine
set_option maxRecDepth 100000
set_option maxHeartbeats 4000000

local macro_rules | `(tactic| walk_at "pad 0") => `(tactic| fail)
local macro_rules | `(tactic| walk_at "pad 1") => `(tactic| fail)
local macro_rules | `(tactic| walk_at "pad 2") => `(tactic| fail)
local macro_rules | `(tactic| walk_at "mlk") => `(tactic| first | assumption | exact if_pos rfl | (with_unfolding_all exact rfl) | (refine Eq.trans (if_neg (by decide +kernel)) ?_; walk_at "mlk"))
local macro_rules | `(tactic| walk_at "eval Name") => `(tactic| ((with_reducible show wpAny _ _ (eval (Expr.Name _ _) (envOf _ _ _ _ _)) _ _ _); first
  | (refine ld (by assumption) (by walk_at "mlk") ?_ (by kernel_rfl!) (by kernel_rfl!) (by decide +kernel))
  | (refine gname (by assumption) (by assumption) (by rfl) ?_ (by kernel_rfl!) (by kernel_rfl!) (by decide +kernel))
  | (refine bname (by assumption) (by assumption) (by rfl) (by first | exact boot_len | exact boot_max | exact boot_sorted | exact boot_chr) (by decide +kernel) ?_ (by kernel_rfl!) (by kernel_rfl!) (by decide +kernel))))
local macro_rules | `(tactic| walk_at "callWith ref") => `(tactic| ((with_reducible show wpAny _ _ (callWith _ (Value.ref _) _ (backTo _ (starEach (_ :: _) _)) []) _ _ _); refine callWith_K (Amb.X (by assumption)) (by rfl) ?_))
local macro_rules | `(tactic| walk_at "mw") => `(tactic| first
  | ((with_reducible show (Frag.In _ _ ∧ _)); refine ⟨Amb.X (Amb.keeps (by assumption) (Fr.keep (by assumption))), ?_⟩; try dsimp only [List.nil_append, List.cons_append])
  | ((fail_if_success (with_reducible show wpAny _ _ (exec (Stmt.While _ _ _ _) _) _ _ _)); (fail_if_success (with_reducible show wpAny _ _ (exec (Stmt.For _ _ _ _ _) _) _ _ _)); (fail_if_success (with_reducible show wpAny _ _ (call (Value.ref _) _) _ _ _)); (fail_if_success (with_reducible show (ite _ _ _ : Prop))); walk1; (try dsimp only)))

theorem pat1 {w : World} {h : Heap} (am : Amb w h) : Pat h 36 code1 := ⟨_, _, _, _, _, _, am.X 36 _ (by rfl), am.X 35 _ (by rfl), by rfl, by decide +kernel⟩
theorem pat2 {w : World} {h : Heap} (am : Amb w h) : Pat h 41 code2 := ⟨_, _, _, _, _, _, am.X 41 _ (by rfl), am.X 40 _ (by rfl), by rfl, by decide +kernel⟩

theorem crlf_len : ∀ l : List Nat, (crlf l).length ≤ 2 * l.length
  | [] => by simp [crlf]
  | c :: r => by
    by_cases hc : ∃ r', c = 13 ∧ r = 10 :: r'
    · obtain ⟨r', rfl, rfl⟩ := hc
      rw [crlf_crlf]
      have := crlf_len r'
      simp only [List.length_cons]; omega
    · have h1 := crlf_len r
      by_cases hn : isNl c = true
      · unfold isNl at hn
        simp at hn
        rcases hn with rfl | rfl
        · rw [crlf_nl]; simp only [List.length_cons]; omega
        · rw [crlf_cr (fun r' e => hc ⟨r', rfl, e⟩)]; simp only [List.length_cons]; omega
      · rw [crlf_other (by simpa using hn)]; simp only [List.length_cons]; omega
termination_by l => l.length
decreasing_by all_goals (simp_all; try omega)

theorem Pat.method {h : Heap} {a : Addr} {code : Array Nat} (P : Pat h a code) {s : Shared} (hs : s.heap = h) {M : Model} {A : Around} {E : Value → Shared → Prop} {pl : Sem Bool} {Q : Value × List Value → Shared → Prop} (hQ : Q (.builtin "re.Pattern.sub", [.ref a]) s) :
    wpAny M A (getMethod (.ref a) (Str.ofString "sub") pl) Q E s := by
  obtain ⟨p, fl, tt, ot, us, n, ha, ht, r⟩ := P
  exact getMethod_builtin (T := "re.Pattern") ⟨_, hs ▸ ha, rfl⟩ plainAttrs_pat slot_pat_sub type_pat_sub (fun b e => by cases e; exact ⟨_, hs ▸ ha, rfl⟩) hQ

theorem quotedata_ct {w : World} {A : Around} {s : Shared} {x : List Nat} {t : Tok} {Q : Value → Shared → Prop}
  (am : Amb w s.heap) (hroom : A.depth < recursionLimit) (hx : x.length ≤ 2 ^ 18)
  (hQ : ∀ h' tk' tk, (∀ b o, s.heap.get? b = some o → h'.get? b = some o) → Q (.str (txt (quote x)) tk) { s with heap := h', toks := tk' }) :
  wpAny (model prog w) A (call (.ref 48) [.str (txt x) t]) Q NoE s := by
  refine enter (binds := [(Str.ofString "data", .str (txt x) t)]) am (by rfl) (by rfl) (by omega) (by rfl) (locs rfl) ?_ rfl rfl rfl (by decide)
  intro h₁ hns hk
  have F : Fr s.heap s.heap.objs.size h₁ _ := ⟨hns, hk, Nat.le_refl _⟩
  have N : News s.heap s.heap.objs.size h₁ [] := fun _ h => nomatch h
  clear hns hk
  generalize s.heap.objs.size = L at *
  repeat walk_at "mw"
  refine (pat1 (am.keeps F.keep)).method rfl ?_
  repeat walk_at "mw"
  refine (pat2 (am.keeps F.keep)).method rfl ?_
  repeat walk_at "mw"
  rw [show Str.ofString "\x0d\n" = txt [13, 10] by decide +kernel]
  refine sub_ct (T := x.toArray) (s := ⟨h₁, _, _, _, _⟩) (out2 x.toArray x.length 0 (by simp)) (by simp; omega) (by decide) (by decide) (pat2 (am.keeps F.keep)) ?_
  intro h2 tk2 tk k2
  obtain ⟨F2, N2⟩ := back0 F N k2
  repeat walk_at "mw"
  rw [show Str.ofString ".." = txt [46, 46] by decide +kernel]
  have e2 : crlf (List.drop 0 x.toArray.toList) = crlf x := rfl
  rw [e2]
  have hl := crlf_len x
  have o1 := out1 (crlf x).toArray (by simp; omega) (crlf x).length 0 (by simp)
  have e1 : stuff (0 == 0 || (crlf x).toArray.getD (0 - 1) 0 == 10) (List.drop 0 (crlf x).toArray.toList) = quote x := rfl
  rw [e1] at o1
  refine sub_ct (T := (crlf x).toArray) (s := ⟨h2, _, _, _, _⟩) o1 (by simp; omega) (by decide) (by decide) (pat1 (am.keeps F2.keep)) ?_
  intro h3 tk3 tk' k3
  exact hQ h3 _ _ fun b o e => k3 b o (F2.keep b o e)
end Mine
end

section
open PySem
namespace Mine

section
variable {α : Type} (lt : α → α → Bool) (d : α)

structure Ord : Prop where
  asymm : ∀ a b, lt a b = true → lt b a = false
  trans : ∀ a b c, lt b a = false → lt c b = false → lt c a = false

/-- the parent of each place is not greater -/
def IsHeap (xs : List α) : Prop := ∀ i, 0 < i → i < xs.length → lt (xs.getD i d) (xs.getD ((i - 1) / 2) d) = false

variable {lt d}

theorem getD_set (xs : List α) (j i : Nat) (v : α) (hj : j < xs.length) : (xs.set j v).getD i d = if i = j then v else xs.getD i d := by
  rw [List.getD_eq_getElem?_getD, List.getD_eq_getElem?_getD, List.getElem?_set]
  by_cases h : j = i
  · subst h; simp [hj]
  · rw [if_neg h, if_neg (fun q => h q.symm)]

theorem getD_of {xs : List α} {i : Nat} {v : α} (h : xs[i]? = some v) : xs.getD i d = v := by
  rw [List.getD_eq_getElem?_getD, h]; rfl

theorem set_move_perm {xs : List α} {i j : Nat} {v w : α} (hi : i < xs.length) (hj : xs[j]? = some w) (hij : i ≠ j) : ((xs.set i w).set j v).Perm (xs.set i v) := by
  have hjl : j < xs.length := (List.getElem?_eq_some_iff.mp hj).1
  have h := List.set_set_perm (as := xs.set i v) (i := i) (j := j) (by simpa using hi) (by simpa using hjl)
  have e1 : (xs.set i v)[i]'(by simpa using hi) = v := by simp
  have e2 : (xs.set i v)[j]'(by simpa using hjl) = w := by
    rw [List.getElem_set_ne hij]
    exact (List.getElem?_eq_some_iff.mp hj).2
  rw [e1, e2, List.set_set] at h
  exact h

theorem sd_heap (O : Ord lt) (item : α) : ∀ (n pos : Nat) (xs : List α), pos ≤ n → pos < xs.length →
    (∀ i, 0 < i → i < xs.length → i ≠ pos → lt ((xs.set pos item).getD i d) ((xs.set pos item).getD ((i - 1) / 2) d) = false) →
    (∀ i, 0 < i → i < xs.length → (i - 1) / 2 = pos → 0 < pos → lt ((xs.set pos item).getD i d) ((xs.set pos item).getD ((pos - 1) / 2) d) = false) →
    IsHeap lt d (sd lt item xs pos) ∧ (sd lt item xs pos).Perm (xs.set pos item) := by
  intro n
  induction n with
  | zero =>
    intro pos xs hn hpos H1 H2
    have : pos = 0 := by omega
    subst this
    rw [sd, dif_pos rfl]
    refine ⟨fun i h0 hi => H1 i h0 (by simpa using hi) (by omega), List.Perm.refl _⟩
  | succ n ih =>
    intro pos xs hn hpos H1 H2
    by_cases hp0 : pos = 0
    · subst hp0
      rw [sd, dif_pos rfl]
      exact ⟨fun i h0 hi => H1 i h0 (by simpa using hi) (by omega), List.Perm.refl _⟩
    · rw [sd, dif_neg hp0]
      have hpl : (pos - 1) / 2 < xs.length := by omega
      obtain ⟨par, hpar⟩ : ∃ par, xs[(pos - 1) / 2]? = some par := ⟨_, List.getElem?_eq_getElem hpl⟩
      rw [hpar]
      simp only
      have gp : xs.getD ((pos - 1) / 2) d = par := getD_of hpar
      generalize hq : (pos - 1) / 2 = q at *
      have hqp : q < pos := by omega
      cases hb : lt item par with
      | true =>
        simp only [if_true]
        have hle := O.asymm _ _ hb
        have e2 : ∀ j, ((xs.set pos par).set q item).getD j d = if j = q then item else if j = pos then par else xs.getD j d := by
          intro j
          rw [getD_set _ _ _ _ (by simpa using hpl), getD_set _ _ _ _ hpos]
        obtain ⟨r1, r2⟩ := ih q (xs.set pos par) (by omega) (by simpa using hpl) (by
          intro i h0 hi hne
          rw [List.length_set] at hi
          rw [e2, e2]
          have a := H1 i h0 hi
          rw [getD_set _ _ _ _ hpos, getD_set _ _ _ _ hpos] at a
          rw [if_neg hne]
          by_cases hip : i = pos
          · subst hip
            rw [if_pos rfl, if_pos hq]; exact hle
          · rw [if_neg hip]
            have a := a hip
            rw [if_neg hip] at a
            by_cases h1 : (i - 1) / 2 = q
            · rw [if_pos h1]
              rw [if_neg (by omega), h1, gp] at a
              exact O.trans _ _ _ hle a
            · rw [if_neg h1]
              by_cases h2 : (i - 1) / 2 = pos
              · rw [if_pos h2]
                have b := H2 i h0 hi h2 (by omega)
                rw [getD_set _ _ _ _ hpos, getD_set _ _ _ _ hpos, if_neg hip, if_neg (by omega), gp] at b
                exact b
              · rw [if_neg h2]
                rw [if_neg h2] at a
                exact a) (by
          intro i h0 hi h1 hq0
          rw [List.length_set] at hi
          rw [e2, e2]
          have c := H1 q (by omega) (by omega) (by omega)
          rw [getD_set _ _ _ _ hpos, getD_set _ _ _ _ hpos, if_neg (by omega), if_neg (by omega), gp] at c
          rw [if_neg (by omega), if_neg (show ¬ (q - 1) / 2 = q by omega), if_neg (show ¬ (q - 1) / 2 = pos by omega)]
          by_cases hip : i = pos
          · rw [if_pos hip]; exact c
          · rw [if_neg hip]
            have a := H1 i h0 hi hip
            rw [getD_set _ _ _ _ hpos, getD_set _ _ _ _ hpos, if_neg hip, if_neg (by omega), h1, gp] at a
            exact O.trans _ _ _ c a)
        exact ⟨r1, r2.trans (set_move_perm hpos hpar (by omega))⟩
      | false =>
        simp only [Bool.false_eq_true, if_false]
        refine ⟨fun i h0 hi => ?_, List.Perm.refl _⟩
        rw [List.length_set] at hi
        by_cases hip : i = pos
        · subst hip
          rw [getD_set _ _ _ _ hpos, getD_set _ _ _ _ hpos, if_pos rfl, if_neg (by omega), hq, gp]; exact hb
        · exact H1 i h0 hi hip

theorem su_heap (O : Ord lt) (item : α) : ∀ (n pos : Nat) (xs : List α), xs.length - pos ≤ n → pos < xs.length →
    (∀ i, 0 < i → i < xs.length → i ≠ pos → (i - 1) / 2 ≠ pos → lt (xs.getD i d) (xs.getD ((i - 1) / 2) d) = false) →
    (∀ i, 0 < i → i < xs.length → (i - 1) / 2 = pos → 0 < pos → lt (xs.getD i d) (xs.getD ((pos - 1) / 2) d) = false) →
    IsHeap lt d (su lt item xs pos) ∧ (su lt item xs pos).Perm (xs.set pos item) := by
  intro n
  induction n with
  | zero => intro pos xs hn hpos; omega
  | succ n ih =>
    intro pos xs hn hpos K1 K2
    have stepK : ∀ c x, xs[c]? = some x → (c - 1) / 2 = pos → 0 < c → (∀ i, 0 < i → i < xs.length → (i - 1) / 2 = pos → lt (xs.getD i d) x = false) →
        IsHeap lt d (su lt item (xs.set pos x) c) ∧ (su lt item (xs.set pos x) c).Perm (xs.set pos item) := by
      intro c x hx hc hc0 hmin
      have hcl : c < xs.length := (List.getElem?_eq_some_iff.mp hx).1
      have gx : xs.getD c d = x := getD_of hx
      obtain ⟨r1, r2⟩ := ih c (xs.set pos x) (by rw [List.length_set]; omega) (by simpa using hcl) (by
        intro i h0 hi hne hpne
        rw [List.length_set] at hi
        rw [getD_set _ _ _ _ hpos, getD_set _ _ _ _ hpos]
        by_cases hip : i = pos
        · subst hip
          rw [if_pos rfl, if_neg (by omega)]
          have b := K2 c hc0 hcl hc (by omega)
          rw [gx] at b; exact b
        · rw [if_neg hip]
          by_cases h1 : (i - 1) / 2 = pos
          · rw [if_pos h1]; exact hmin i h0 hi h1
          · rw [if_neg h1]; exact K1 i h0 hi hip h1) (by
        intro i h0 hi h1 _
        rw [List.length_set] at hi
        rw [getD_set _ _ _ _ hpos, getD_set _ _ _ _ hpos, if_neg (by omega), hc, if_pos rfl]
        have a := K1 i h0 hi (by omega) (by omega)
        rw [h1, gx] at a; exact a)
      exact ⟨r1, r2.trans (set_move_perm hpos hx (by omega))⟩
    rw [su]
    by_cases hl : 2 * pos + 1 < xs.length
    · rw [if_pos hl]
      obtain ⟨a, ha⟩ : ∃ a, xs[2 * pos + 1]? = some a := ⟨_, List.getElem?_eq_getElem hl⟩
      rw [ha]
      have ga : xs.getD (2 * pos + 1) d = a := getD_of ha
      by_cases hr : 2 * pos + 2 < xs.length
      · obtain ⟨b, hb⟩ : ∃ b, xs[2 * pos + 2]? = some b := ⟨_, List.getElem?_eq_getElem hr⟩
        rw [hb]
        have gb : xs.getD (2 * pos + 2) d = b := getD_of hb
        have irr : ∀ y, lt y y = false := fun y => by
          cases h : lt y y with
          | false => rfl
          | true => rw [O.asymm _ _ h] at h; cases h
        cases hab : lt a b with
        | true =>
          simp only [hab, if_true]
          refine stepK _ a ha (by omega) (by omega) fun i h0 hi h1 => ?_
          have : i = 2 * pos + 1 ∨ i = 2 * pos + 2 := by omega
          rcases this with rfl | rfl
          · rw [ga]; exact irr a
          · rw [gb]; exact O.asymm _ _ hab
        | false =>
          simp only [hab, Bool.false_eq_true, if_false]
          refine stepK _ b hb (by omega) (by omega) fun i h0 hi h1 => ?_
          have : i = 2 * pos + 1 ∨ i = 2 * pos + 2 := by omega
          rcases this with rfl | rfl
          · rw [ga]; exact hab
          · rw [gb]; exact irr b
      · rw [List.getElem?_eq_none (by omega)]
        simp only
        refine stepK _ a ha (by omega) (by omega) fun i h0 hi h1 => ?_
        have : i = 2 * pos + 1 := by omega
        subst this
        rw [ga]
        cases h : lt a a with
        | false => rfl
        | true => rw [O.asymm _ _ h] at h; cases h
    · rw [if_neg hl]
      have := sd_heap (d := d) O item pos pos (xs.set pos item) (Nat.le_refl _) (by simpa using hpos) (by
        intro i h0 hi hne
        rw [List.length_set] at hi
        rw [List.set_set, getD_set _ _ _ _ hpos, getD_set _ _ _ _ hpos, if_neg hne, if_neg (by omega)]
        exact K1 i h0 hi hne (by omega)) (by
        intro i h0 hi h1
        rw [List.length_set] at hi
        omega)
      rw [List.set_set] at this
      exact this

theorem push_heap (O : Ord lt) {xs : List α} {v : α} (h : IsHeap lt d xs) : IsHeap lt d (sd lt v (xs ++ [v]) xs.length) ∧ (sd lt v (xs ++ [v]) xs.length).Perm (v :: xs) := by
  have e : (xs ++ [v]).set xs.length v = xs ++ [v] := by simp
  have g1 : ∀ i, i < xs.length → (xs ++ [v]).getD i d = xs.getD i d := by
    intro i hi
    rw [List.getD_eq_getElem?_getD, List.getD_eq_getElem?_getD, List.getElem?_append_left hi]
  have := sd_heap (d := d) O v xs.length xs.length (xs ++ [v]) (Nat.le_refl _) (by simp) (by
    intro i h0 hi hne
    rw [List.length_append, List.length_singleton] at hi
    rw [e, g1 i (by omega), g1 _ (by omega)]
    exact h i h0 (by omega)) (by
    intro i h0 hi h1 h2
    rw [List.length_append, List.length_singleton] at hi
    omega)
  rw [e] at this
  exact ⟨this.1, this.2.trans (List.perm_append_singleton v xs)⟩

theorem heap_min (O : Ord lt) {u : α} {rest : List α} (h : IsHeap lt d (u :: rest)) : ∀ x ∈ u :: rest, lt x u = false := by
  have irr : lt u u = false := by
    cases h : lt u u with
    | false => rfl
    | true => rw [O.asymm _ _ h] at h; cases h
  have key : ∀ n i, i ≤ n → i < (u :: rest).length → lt ((u :: rest).getD i d) u = false := by
    intro n
    induction n with
    | zero => intro i hi hl; rw [show i = 0 by omega]; exact irr
    | succ n ih =>
      intro i hi hl
      by_cases h0 : i = 0
      · rw [h0]; exact irr
      · have a := h i (by omega) hl
        exact O.trans _ _ _ (ih ((i - 1) / 2) (by omega) (by omega)) a
  intro x hx
  obtain ⟨i, hi, e⟩ := List.getElem_of_mem hx
  have := key i i (Nat.le_refl _) hi
  rw [List.getD_eq_getElem?_getD, List.getElem?_eq_getElem hi, e] at this
  exact this

theorem pop_heap (O : Ord lt) {u v : α} {rest : List α} (h : IsHeap lt d ((u :: rest) ++ [v])) :
    IsHeap lt d (su lt v (v :: rest) 0) ∧ (su lt v (v :: rest) 0).Perm (rest ++ [v]) := by
  have := su_heap (d := d) O v (v :: rest).length 0 (v :: rest) (by omega) (by simp) (by
    intro i h0 hi _ h1
    have hi' : i < rest.length + 1 := by simpa using hi
    have a := h i h0 (by simp; omega)
    have g1 : ∀ j, 0 < j → j < rest.length + 1 → (((u :: rest) ++ [v]).getD j d) = (v :: rest).getD j d := by
      intro j hj0 hj
      cases j with
      | zero => omega
      | succ j =>
        rw [List.cons_append, List.getD_cons_succ, List.getD_cons_succ, List.getD_eq_getElem?_getD, List.getD_eq_getElem?_getD, List.getElem?_append_left (by omega)]
    rw [g1 i h0 hi', g1 _ (by omega) (by omega)] at a
    exact a) (by intros; omega)
  refine ⟨this.1, this.2.trans ?_⟩
  show (v :: rest).Perm (rest ++ [v])
  exact (List.perm_append_singleton v rest).symm
end
end Mine
end

section
open PySem
namespace Mine

/-- by length, then by signs -/
def ltT (t u : List Nat) : Bool := if t.length = u.length then decide (t < u) else decide (t.length < u.length)
def node (t : List Nat) : Key := ((t.length : Int), txt t, txt (quote t))

theorem txt_inj {t u : List Nat} (h : txt t = txt u) : t = u := by
  unfold txt at h
  injection h with h
  have := congrArg Array.toList h
  simpa using this

theorem ltK_node (t u : List Nat) : ltK (node t) (node u) = ltT t u := by
  unfold ltK lt3 node ltT
  simp only
  by_cases h : t.length = u.length
  · rw [if_pos (by omega), if_pos h]
    by_cases e : t = u
    · subst e
      rw [if_pos rfl]
      have a : ¬ (txt (quote t)).cps.toList < (txt (quote t)).cps.toList := List.lt_irrefl _
      have b : ¬ t < t := List.lt_irrefl _
      rw [decide_eq_false a, decide_eq_false b]
    · rw [if_neg (fun q => e (txt_inj q))]
      exact decide_eq_decide.mpr (by show t.toArray.toList < u.toArray.toList ↔ _; rw [List.toList_toArray, List.toList_toArray])
  · rw [if_neg (by omega), if_neg h]
    simp

theorem lex_total (t u : List Nat) (h1 : ¬ t < u) (h2 : ¬ u < t) : t = u := by
  have a : u ≤ t := List.not_lt.mp h1
  have b : t ≤ u := List.not_lt.mp h2
  exact List.le_antisymm b a

theorem ltT_asymm (t u : List Nat) (h : ltT t u = true) : ltT u t = false := by
  unfold ltT at h ⊢
  by_cases e : t.length = u.length
  · rw [if_pos e] at h
    rw [if_pos e.symm]
    have h := of_decide_eq_true h
    exact decide_eq_false (List.lt_asymm h)
  · rw [if_neg e] at h
    rw [if_neg (fun q => e q.symm)]
    have h := of_decide_eq_true h
    exact decide_eq_false (by omega)
theorem ltT_total (t u : List Nat) (h : t ≠ u) (h2 : ltT u t = false) : ltT t u = true := by
  unfold ltT at h2 ⊢
  by_cases e : t.length = u.length
  · rw [if_pos e.symm] at h2
    rw [if_pos e]
    have h2 := of_decide_eq_false h2
    apply decide_eq_true
    apply Classical.byContradiction
    intro q
    exact h (lex_total _ _ q h2)
  · rw [if_neg (fun q => e q.symm)] at h2
    rw [if_neg e]
    have h2 := of_decide_eq_false h2
    exact decide_eq_true (by omega)
theorem ltT_irrefl (t : List Nat) : ltT t t = false := by
  cases h : ltT t t with
  | false => rfl
  | true => rw [ltT_asymm _ _ h] at h; cases h
theorem ltT_trans (t u v : List Nat) (h1 : ltT t u = true) (h2 : ltT u v = true) : ltT t v = true := by
  unfold ltT at h1 h2 ⊢
  by_cases e1 : t.length = u.length
  · rw [if_pos e1] at h1
    have h1 := of_decide_eq_true h1
    by_cases e2 : u.length = v.length
    · rw [if_pos e2] at h2
      have h2 := of_decide_eq_true h2
      rw [if_pos (e1.trans e2)]
      exact decide_eq_true (List.lt_trans h1 h2)
    · rw [if_neg e2] at h2
      rw [if_neg (by omega)]
      have h2 := of_decide_eq_true h2
      exact decide_eq_true (by omega)
  · rw [if_neg e1] at h1
    have h1 := of_decide_eq_true h1
    by_cases e2 : u.length = v.length
    · rw [if_neg (by omega)]
      exact decide_eq_true (by omega)
    · rw [if_neg e2] at h2
      have h2 := of_decide_eq_true h2
      rw [if_neg (by omega)]
      exact decide_eq_true (by omega)
theorem ordT : Ord ltT := by
  refine ⟨ltT_asymm, fun a b c h1 h2 => ?_⟩
  by_cases e1 : a = b
  · subst e1; exact h2
  · by_cases e2 : b = c
    · subst e2; exact h1
    · exact ltT_asymm _ _ (ltT_trans _ _ _ (ltT_total _ _ e1 h1) (ltT_total _ _ e2 h2))

/-- two lists in strict order that hold the same are the same -/
theorem sorted_unique : ∀ {xs ys : List (List Nat)}, xs.Pairwise (fun a b => ltT a b = true) → ys.Pairwise (fun a b => ltT a b = true) → (∀ t, t ∈ xs ↔ t ∈ ys) → xs = ys
  | [], [], _, _, _ => rfl
  | [], y :: ys, _, _, h => by have := (h y).mpr (.head _); cases this
  | x :: xs, [], _, _, h => by have := (h x).mp (.head _); cases this
  | x :: xs, y :: ys, hx, hy, h => by
    rw [List.pairwise_cons] at hx hy
    have e : x = y := by
      rcases List.mem_cons.mp ((h x).mp (.head _)) with e | hxy
      · exact e
      · rcases List.mem_cons.mp ((h y).mpr (.head _)) with e | hyx
        · exact e.symm
        · have a := hy.1 x hxy
          have b := hx.1 y hyx
          rw [ltT_asymm _ _ a] at b; cases b
    subst e
    refine congrArg (x :: ·) (sorted_unique hx.2 hy.2 fun t => ⟨fun ht => ?_, fun ht => ?_⟩)
    · rcases List.mem_cons.mp ((h t).mp (.tail _ ht)) with e | r
      · subst e; have := hx.1 t ht; rw [ltT_irrefl] at this; cases this
      · exact r
    · rcases List.mem_cons.mp ((h t).mpr (.tail _ ht)) with e | r
      · subst e; have := hy.1 t ht; rw [ltT_irrefl] at this; cases this
      · exact r
end Mine
end

section
open PySem
namespace Mine

theorem crlf_append {l : List Nat} : ∀ {r : List Nat}, (l.getLast? ≠ some 13 ∨ ∀ r', r ≠ 10 :: r') → crlf (l ++ r) = crlf l ++ crlf r := by
  intro r h
  match l, h with
  | [], _ => rw [List.nil_append, crlf, List.nil_append]
  | [c], h =>
    by_cases hc : c = 13
    · subst hc
      have hr : ∀ r', r ≠ 10 :: r' := by
        rcases h with h | h
        · exact absurd rfl h
        · exact h
      rw [List.singleton_append, crlf_cr hr, crlf_cr (by intro r'; simp), crlf]; rfl
    · by_cases h10 : c = 10
      · subst h10
        rw [List.singleton_append, crlf_nl, crlf_nl, crlf]; rfl
      · have : isNl c = false := by unfold isNl; simp; omega
        rw [List.singleton_append, crlf_other this, crlf_other this, crlf]; rfl
  | c :: d :: l', h =>
    have h' : (d :: l').getLast? ≠ some 13 ∨ ∀ r', r ≠ 10 :: r' := by
      rw [List.getLast?_cons_cons] at h; exact h
    by_cases hc : c = 13 ∧ d = 10
    · obtain ⟨rfl, rfl⟩ := hc
      have h2 : l'.getLast? ≠ some 13 ∨ ∀ r', r ≠ 10 :: r' := by
        cases l' with
        | nil => exact .inl (by simp)
        | cons e l'' => rw [List.getLast?_cons_cons] at h'; exact h'
      rw [List.cons_append, List.cons_append, crlf_crlf, crlf_crlf, crlf_append h2]; rfl
    · have ih := crlf_append (l := d :: l') h'
      rw [List.cons_append]
      by_cases hc13 : c = 13
      · subst hc13
        have hd : d ≠ 10 := fun q => hc ⟨rfl, q⟩
        rw [crlf_cr (by intro r' q; rw [List.cons_append] at q; injection q with q1 _; exact hd q1), crlf_cr (by intro r' q; injection q with q1 _; exact hd q1), ih]; rfl
      · by_cases h10 : c = 10
        · subst h10
          rw [crlf_nl, crlf_nl, ih]; rfl
        · have : isNl c = false := by unfold isNl; simp; omega
          rw [crlf_other this, crlf_other this, ih]; rfl
termination_by l.length

theorem crlf_snoc_crlf (l : List Nat) : crlf (l ++ [13, 10]) = crlf l ++ [13, 10] := by
  rw [crlf_append (.inr (by intro r' q; injection q with q1 _; cases q1)), crlf_crlf, crlf]
theorem crlf_snoc_cr (l : List Nat) : crlf (l ++ [13]) = crlf l ++ [13, 10] := by
  rw [crlf_append (.inr (by intro r' q; injection q with q1 _; cases q1)), crlf_cr (by intro r'; simp), crlf]
theorem crlf_snoc_nl {l : List Nat} (h : l.getLast? ≠ some 13) : crlf (l ++ [10]) = crlf l ++ [13, 10] := by
  rw [crlf_append (.inl h), crlf_nl, crlf]

/-- the flag behind a part of the text -/
def lfl (b : Bool) (l : List Nat) : Bool := match l.getLast? with | none => b | some c => c == 10

theorem stuff_append : ∀ (l r : List Nat) (b : Bool), stuff b (l ++ r) = stuff b l ++ stuff (lfl b l) r
  | [], r, b => rfl
  | [c], r, b => by
    rw [List.singleton_append, stuff]
    conv => rhs; rw [stuff]
    by_cases h : b = true ∧ c = 46
    · rw [if_pos h, if_pos h, h.2]; rfl
    · rw [if_neg h, if_neg h]; rfl
  | c :: d :: l', r, b => by
    have e : lfl b (c :: d :: l') = lfl (c == 10) (d :: l') := by
      unfold lfl; rw [List.getLast?_cons_cons]
      cases h : (d :: l').getLast? with
      | none => simp at h
      | some x => rfl
    have e2 : lfl b (c :: d :: l') = lfl false (d :: l') := by
      unfold lfl; rw [List.getLast?_cons_cons]
      cases h : (d :: l').getLast? with
      | none => simp at h
      | some x => rfl
    rw [List.cons_append, stuff]
    conv => rhs; rw [stuff]
    by_cases h : b = true ∧ c = 46
    · rw [if_pos h, if_pos h, stuff_append (d :: l') r false, e2]; rfl
    · rw [if_neg h, if_neg h, stuff_append (d :: l') r (c == 10), e]; rfl

theorem fl_snoc (b : Bool) (l : List Nat) (c : Nat) : lfl b (l ++ [c]) = (c == 10) := by unfold lfl; simp
theorem stuff_nl (b : Bool) : stuff b [13, 10] = [13, 10] := by cases b <;> rfl

/-- a row without line ends -/
def Plain (r : List Nat) : Prop := ∀ c ∈ r, isNl c = false
/-- a dot more ahead of a row that begins with one -/
def dot (r : List Nat) : List Nat := if r.head? = some 46 then 46 :: r else r

theorem crlf_plain : ∀ {r : List Nat}, Plain r → crlf r = r
  | [], _ => by rw [crlf]
  | c :: r, h => by rw [crlf_other (h c (.head _)), crlf_plain fun x hx => h x (.tail _ hx)]
theorem stuff_plain : ∀ {r : List Nat}, Plain r → stuff false r = r
  | [], _ => rfl
  | c :: r, h => by
    have hc := h c (.head _)
    unfold isNl at hc
    simp at hc
    rw [stuff, if_neg (by simp), show (c == 10) = false by simp; omega, stuff_plain fun x hx => h x (.tail _ hx)]
theorem stuff_row {r : List Nat} (h : Plain r) : stuff true r = dot r := by
  cases r with
  | nil => rfl
  | cons c r =>
    have hc := h c (.head _)
    unfold isNl at hc
    simp at hc
    rw [stuff]
    unfold dot
    by_cases e : c = 46
    · subst e
      rw [if_pos (by simp), if_pos (by simp), stuff_plain fun x hx => h x (.tail _ hx)]
    · rw [if_neg (by simp [e]), if_neg (by simp [e]), show (c == 10) = false by simp; omega, stuff_plain fun x hx => h x (.tail _ hx)]

/-- at a row's beginning -/
def Ls (u : List Nat) : Prop := lfl true (crlf u) = true

theorem ls_nil : Ls [] := rfl
theorem quote_nl {u e : List Nat} (h : crlf (u ++ e) = crlf u ++ [13, 10]) : quote (u ++ e) = quote u ++ [13, 10] ∧ Ls (u ++ e) := by
  constructor
  · unfold quote; rw [h, stuff_append, stuff_nl]
  · unfold Ls
    rw [h, show crlf u ++ [13, 10] = (crlf u ++ [13]) ++ [10] by simp, fl_snoc]; rfl
theorem plain_no10 {r : List Nat} (h : Plain r) : ∀ r', r ≠ 10 :: r' := by
  rintro r' rfl
  have := h 10 (.head _)
  cases this
theorem quote_row {u r : List Nat} (hu : Ls u) (h : Plain r) : quote (u ++ r) = quote u ++ dot r := by
  unfold quote
  rw [crlf_append (.inr (plain_no10 h)), stuff_append, crlf_plain h, show lfl true (crlf u) = true from hu, stuff_row h]

def ends : List (List Nat) := [[10], [13], [13, 10]]
/-- may this end follow this text -/
def okEnd (t e : List Nat) : Bool := decide (e ≠ [10] ∨ t.getLast? ≠ some 13)

theorem end_crlf {t e : List Nat} (he : e ∈ ends) (h : okEnd t e = true) : crlf (t ++ e) = crlf t ++ [13, 10] := by
  unfold ends at he
  unfold okEnd at h
  have h := of_decide_eq_true h
  simp only [List.mem_cons, List.not_mem_nil, or_false] at he
  rcases he with rfl | rfl | rfl
  · exact crlf_snoc_nl (h.resolve_left (by simp))
  · exact crlf_snoc_cr t
  · exact crlf_snoc_crlf t

/-- the rows put together as they are quoted -/
def quo : List (List Nat) → List Nat
  | [] => []
  | [r] => dot r
  | r :: rs => dot r ++ [13, 10] ++ quo rs
/-- the texts, row by row (the newest row first in the list of rows) -/
def textsR : List (List Nat) → List (List Nat)
  | [] => []
  | [r] => [r]
  | r :: rs => (textsR rs).flatMap fun t => (ends.filter (okEnd t)).map fun e => t ++ e ++ r
def quoR : List (List Nat) → List Nat
  | [] => []
  | [r] => dot r
  | r :: rs => quoR rs ++ [13, 10] ++ dot r

theorem plain_dot {r : List Nat} (h : Plain r) : Plain (dot r) := by
  unfold dot
  split
  · intro c hc
    rcases List.mem_cons.mp hc with rfl | hc
    · rfl
    · exact h c hc
  · exact h
theorem dot_inj {r r' : List Nat} (h : dot r = dot r') : r = r' := by
  unfold dot at h
  by_cases e1 : r.head? = some 46
  · by_cases e2 : r'.head? = some 46
    · rw [if_pos e1, if_pos e2] at h; injection h
    · rw [if_pos e1, if_neg e2] at h
      rw [← h] at e2; exact absurd rfl e2
  · by_cases e2 : r'.head? = some 46
    · rw [if_neg e1, if_pos e2] at h
      rw [h] at e1; exact absurd rfl e1
    · rw [if_neg e1, if_neg e2] at h; exact h

theorem split_last {c : Nat} : ∀ {a a' b b' : List Nat}, c ∉ b → c ∉ b' → a ++ c :: b = a' ++ c :: b' → a = a' ∧ b = b'
  | [], [], _, _, _, _, h => by simp at h; exact ⟨rfl, h⟩
  | [], x :: a', b, b', hb, _, h => by
    rw [List.nil_append, List.cons_append] at h
    injection h with _ h
    exact absurd (h ▸ List.mem_append_right _ (.head _)) hb
  | x :: a, [], b, b', _, hb', h => by
    rw [List.nil_append, List.cons_append] at h
    injection h with _ h
    exact absurd (h ▸ List.mem_append_right _ (.head _)) hb'
  | x :: a, y :: a', b, b', hb, hb', h => by
    rw [List.cons_append, List.cons_append] at h
    injection h with h1 h
    obtain ⟨e1, e2⟩ := split_last hb hb' h
    exact ⟨by rw [h1, e1], e2⟩

/-- any text: a text that is empty or ends in a line end, and a row -/
theorem split_row (t : List Nat) : ∃ u r, t = u ++ r ∧ Plain r ∧ (u = [] ∨ ∃ t' e, u = t' ++ e ∧ e ∈ ends ∧ okEnd t' e = true) := by
  induction hn : t.length generalizing t with
  | zero =>
    have : t = [] := List.length_eq_zero_iff.mp hn
    subst this
    exact ⟨[], [], rfl, (fun c hc => nomatch hc), .inl rfl⟩
  | succ n ih =>
    have hne : t ≠ [] := by rintro rfl; simp at hn
    obtain ⟨t', c, rfl⟩ : ∃ t' c, t = t' ++ [c] := ⟨t.dropLast, t.getLast hne, (List.dropLast_concat_getLast hne).symm⟩
    by_cases h10 : c = 10
    · subst h10
      refine ⟨t' ++ [10], [], by simp, (fun c hc => nomatch hc), .inr ?_⟩
      by_cases h13 : t'.getLast? = some 13
      · have hne' : t' ≠ [] := by rintro rfl; simp at h13
        refine ⟨t'.dropLast, [13, 10], ?_, by simp [ends], by simp [okEnd]⟩
        have e : t' = t'.dropLast ++ [13] := by
          have := List.dropLast_concat_getLast hne'
          rw [List.getLast?_eq_some_getLast hne'] at h13
          rw [Option.some.inj h13] at this
          exact this.symm
        conv => lhs; rw [e]
        simp
      · exact ⟨t', [10], rfl, by simp [ends], by simp [okEnd, h13]⟩
    · by_cases h13 : c = 13
      · subst h13
        exact ⟨t' ++ [13], [], by simp, (fun c hc => nomatch hc), .inr ⟨t', [13], rfl, by simp [ends], by simp [okEnd]⟩⟩
      · obtain ⟨u, r, e, hr, hu⟩ := ih t' (by simpa using hn)
        refine ⟨u, r ++ [c], by rw [e, List.append_assoc], ?_, hu⟩
        intro x hx
        rcases List.mem_append.mp hx with hx | hx
        · exact hr x hx
        · rw [List.mem_singleton.mp hx]; unfold isNl; simp; omega

theorem no13 {r : List Nat} (h : Plain r) : 13 ∉ r := fun q => by have := h 13 q; cases this
theorem no10 {r : List Nat} (h : Plain r) : 10 ∉ r := fun q => by have := h 10 q; cases this

theorem texts_iff : ∀ (rows : List (List Nat)), rows ≠ [] → (∀ r ∈ rows, Plain r) → ∀ t, t ∈ textsR rows ↔ quote t = quoR rows
  | [], h, _, _ => absurd rfl h
  | [r], _, hp, t => by
    have hr := hp r (.head _)
    rw [textsR, quoR, List.mem_singleton]
    constructor
    · rintro rfl
      have := quote_row ls_nil hr
      rw [List.nil_append] at this
      rw [this]; rfl
    · intro h
      obtain ⟨u, r', e, hr', hu⟩ := split_row t
      rcases hu with rfl | ⟨t', e', rfl, he, hok⟩
      · have q := quote_row ls_nil hr'
        rw [List.nil_append] at q e
        rw [e, q] at h
        rw [e]
        exact dot_inj h
      · obtain ⟨q1, q2⟩ := quote_nl (end_crlf he hok)
        rw [e, quote_row q2 hr', q1] at h
        have : (13 : Nat) ∈ dot r := by rw [← h]; simp
        exact absurd this (no13 (plain_dot hr))
  | r :: r2 :: rs, _, hp, t => by
    have hr := hp r (.head _)
    have ih := texts_iff (r2 :: rs) (by simp) (fun x hx => hp x (.tail _ hx))
    show t ∈ ((textsR (r2 :: rs)).flatMap fun t => (ends.filter (okEnd t)).map fun e => t ++ e ++ r) ↔ quote t = quoR (r2 :: rs) ++ [13, 10] ++ dot r
    simp only [List.mem_flatMap, List.mem_map, List.mem_filter]
    constructor
    · rintro ⟨t', ht', e, ⟨he, hok⟩, rfl⟩
      obtain ⟨q1, q2⟩ := quote_nl (end_crlf he hok)
      rw [quote_row q2 hr, q1, (ih t').mp ht']
    · intro h
      obtain ⟨u, r', e, hr', hu⟩ := split_row t
      rcases hu with rfl | ⟨t', e', rfl, he, hok⟩
      · have q := quote_row ls_nil hr'
        rw [List.nil_append] at q e
        rw [e, q] at h
        have : (13 : Nat) ∈ dot r' := by
          rw [show quote [] = [] from rfl, List.nil_append] at h
          rw [h]; simp
        exact absurd this (no13 (plain_dot hr'))
      · obtain ⟨q1, q2⟩ := quote_nl (end_crlf he hok)
        rw [e, quote_row q2 hr', q1] at h
        have h' : (quote t' ++ [13]) ++ 10 :: dot r' = (quoR (r2 :: rs) ++ [13]) ++ 10 :: dot r := by simpa using h
        obtain ⟨a1, a2⟩ := split_last (no10 (plain_dot hr')) (no10 (plain_dot hr)) h'
        have a1 := List.append_cancel_right a1
        refine ⟨t', (ih t').mpr a1, e', ⟨he, hok⟩, ?_⟩
        rw [e, dot_inj a2]

theorem end_inj {t t' e e' : List Nat} (he : e ∈ ends) (he' : e' ∈ ends) (h : okEnd t e = true) (h' : okEnd t' e' = true) (q : t ++ e = t' ++ e') : t = t' ∧ e = e' := by
  unfold ends at he he'
  unfold okEnd at h h'
  have h := of_decide_eq_true h
  have h' := of_decide_eq_true h'
  simp only [List.mem_cons, List.not_mem_nil, or_false] at he he'
  have l1 : ∀ (a b : List Nat) (x : Nat), a ++ [x] = b ++ [13, 10] → x = 10 ∧ a = b ++ [13] := by
    intro a b x q
    rw [show b ++ [13, 10] = (b ++ [13]) ++ [10] by simp] at q
    have := List.append_inj' q rfl
    simp at this
    exact ⟨this.2, this.1⟩
  rcases he with rfl | rfl | rfl <;> rcases he' with rfl | rfl | rfl
  · exact ⟨List.append_cancel_right q, rfl⟩
  · have := (List.append_inj' q rfl).2; simp at this
  · obtain ⟨_, e⟩ := l1 _ _ _ q
    exact absurd (by rw [e]; simp) (h.resolve_left (by simp))
  · have := (List.append_inj' q rfl).2; simp at this
  · exact ⟨List.append_cancel_right q, rfl⟩
  · obtain ⟨e, _⟩ := l1 _ _ _ q; cases e
  · obtain ⟨_, e⟩ := l1 _ _ _ q.symm
    exact absurd (by rw [e]; simp) (h'.resolve_left (by simp))
  · obtain ⟨e, _⟩ := l1 _ _ _ q.symm; cases e
  · exact ⟨List.append_cancel_right q, rfl⟩

theorem quoR_snoc : ∀ (rs : List (List Nat)) (r : List Nat), rs ≠ [] → quo (rs ++ [r]) = quo rs ++ [13, 10] ++ dot r
  | [], _, h => absurd rfl h
  | [a], r, _ => by simp [quo]
  | a :: b :: rs, r, _ => by
    have := quoR_snoc (b :: rs) r (by simp)
    show dot a ++ [13, 10] ++ quo (b :: rs ++ [r]) = dot a ++ [13, 10] ++ quo (b :: rs) ++ [13, 10] ++ dot r
    rw [this]; simp
end Mine
end

section
open PySem
namespace Mine

theorem crlf_snoc_other {l : List Nat} {c : Nat} (h : isNl c = false) : crlf (l ++ [c]) = crlf l ++ [c] := by
  rw [crlf_append (.inr (by rintro r' q; injection q with q1 _; subst q1; cases h)), crlf_other h, crlf]
theorem crlf_snoc_pair {l : List Nat} (h : l.getLast? = some 13) : crlf (l ++ [10]) = crlf l := by
  have hne : l ≠ [] := by rintro rfl; simp at h
  have e : l = l.dropLast ++ [13] := by
    have := List.dropLast_concat_getLast hne
    rw [List.getLast?_eq_some_getLast hne] at h
    rw [Option.some.inj h] at this
    exact this.symm
  rw [e, List.append_assoc, List.singleton_append, crlf_snoc_crlf, crlf_snoc_cr]

/-- one sign more: what it adds -/
theorem quote_snoc (t : List Nat) (c : Nat) : ∃ x, quote (t ++ [c]) = quote t ++ x ∧ (isNl c = false → ∃ y, x = c :: y) := by
  by_cases hn : isNl c = true
  · by_cases h : c = 10 ∧ t.getLast? = some 13
    · refine ⟨[], ?_, fun q => by rw [hn] at q; cases q⟩
      rw [h.1]; unfold quote; rw [crlf_snoc_pair h.2, List.append_nil]
    · refine ⟨[13, 10], ?_, fun q => by rw [hn] at q; cases q⟩
      have : crlf (t ++ [c]) = crlf t ++ [13, 10] := by
        unfold isNl at hn
        simp at hn
        rcases hn with rfl | rfl
        · exact crlf_snoc_nl fun q => h ⟨rfl, q⟩
        · exact crlf_snoc_cr t
      exact (quote_nl this).1
  · have hn : isNl c = false := by simpa using hn
    unfold quote
    rw [crlf_snoc_other hn, stuff_append]
    refine ⟨_, rfl, fun _ => ?_⟩
    by_cases h : lfl true (crlf t) = true ∧ c = 46
    · rw [stuff, if_pos h, h.2]; exact ⟨_, rfl⟩
    · rw [stuff, if_neg h]; exact ⟨_, rfl⟩

theorem quote_prefix (t : List Nat) : ∀ u, quote t <+: quote (t ++ u) := by
  intro u
  induction hn : u.length generalizing u with
  | zero => rw [List.length_eq_zero_iff.mp hn, List.append_nil]; exact List.prefix_refl _
  | succ n ih =>
    have hne : u ≠ [] := by rintro rfl; simp at hn
    obtain ⟨u', c, rfl⟩ : ∃ u' c, u = u' ++ [c] := ⟨u.dropLast, u.getLast hne, (List.dropLast_concat_getLast hne).symm⟩
    obtain ⟨x, e, _⟩ := quote_snoc (t ++ u') c
    rw [← List.append_assoc, e]
    exact (ih u' (by simpa using hn)).trans (List.prefix_append _ _)

theorem crlf_ge : ∀ l : List Nat, l.length ≤ (crlf l).length
  | [] => by simp
  | c :: r => by
    by_cases hc : ∃ r', c = 13 ∧ r = 10 :: r'
    · obtain ⟨r', rfl, rfl⟩ := hc
      rw [crlf_crlf]
      have := crlf_ge r'
      simp only [List.length_cons]; omega
    · have h1 := crlf_ge r
      by_cases hn : isNl c = true
      · unfold isNl at hn
        simp at hn
        rcases hn with rfl | rfl
        · rw [crlf_nl]; simp only [List.length_cons]; omega
        · rw [crlf_cr (fun r' e => hc ⟨r', rfl, e⟩)]; simp only [List.length_cons]; omega
      · rw [crlf_other (by simpa using hn)]; simp only [List.length_cons]; omega
termination_by l => l.length
decreasing_by all_goals (simp_all; try omega)
theorem stuff_ge : ∀ (l : List Nat) (b : Bool), l.length ≤ (stuff b l).length
  | [], _ => by simp
  | c :: r, b => by
    rw [stuff]
    split
    · have := stuff_ge r false; simp only [List.length_cons]; omega
    · have := stuff_ge r (c == 10); simp only [List.length_cons]; omega
theorem quote_ge (l : List Nat) : l.length ≤ (quote l).length := Nat.le_trans (crlf_ge l) (stuff_ge _ _)

section
variable (Qd : List Nat) (sg : List Nat)

/-- the signs with which a text goes on -/
def goes (t : List Nat) (c : Nat) : Bool := decide (t.length < Qd.length) && (quote (t ++ [c])).isPrefixOf Qd
def kids (t : List Nat) (cs : List Nat) : List (List Nat) := (cs.filter (goes Qd t)).map fun c => t ++ [c]

theorem goes_iff {t : List Nat} {c : Nat} : goes Qd t c = true ↔ t.length < Qd.length ∧ quote (t ++ [c]) <+: Qd := by
  unfold goes; rw [Bool.and_eq_true, decide_eq_true_eq, List.isPrefixOf_iff_prefix]

def wgt : Nat → Nat
  | 0 => 1
  | j + 1 => 1 + 3 * wgt j
theorem wgt_pos (j : Nat) : 1 ≤ wgt j := by cases j <;> simp [wgt]
def mass (H : List (List Nat)) : Nat := (H.map fun t => wgt (Qd.length - t.length)).sum

theorem mass_cons (t : List Nat) (H : List (List Nat)) : mass Qd (t :: H) = wgt (Qd.length - t.length) + mass Qd H := by simp [mass]
theorem mass_append (H H' : List (List Nat)) : mass Qd (H ++ H') = mass Qd H + mass Qd H' := by simp [mass]
theorem mass_perm {H H' : List (List Nat)} (p : H.Perm H') : mass Qd H = mass Qd H' := by unfold mass; exact (p.map _).sum_nat
theorem mass_len (H : List (List Nat)) : H.length ≤ mass Qd H := by
  induction H with
  | nil => simp [mass]
  | cons t H ih => rw [mass_cons, List.length_cons]; have := wgt_pos (Qd.length - t.length); omega

theorem len3 {a b c : Nat} : ∀ {l : List Nat}, l.Nodup → (∀ x ∈ l, x = a ∨ x = b ∨ x = c) → l.length ≤ 3
  | [], _, _ => by simp
  | [_], _, _ => by simp
  | [_, _], _, _ => by simp
  | [_, _, _], _, _ => by simp
  | x :: y :: z :: w :: r, hn, h => by
    have hx := h x (by simp); have hy := h y (by simp); have hz := h z (by simp); have hw := h w (by simp)
    simp only [List.nodup_cons, List.mem_cons, not_or] at hn
    omega

theorem kids_few (hs : sg.Nodup) (t : List Nat) : (kids Qd t sg).length ≤ 3 := by
  unfold kids
  rw [List.length_map]
  refine len3 (a := 10) (b := 13) (c := (Qd.drop (quote t).length).headD 0) (hs.filter _) ?_
  intro c hc
  obtain ⟨_, hg⟩ := List.mem_filter.mp hc
  obtain ⟨_, hp⟩ := (goes_iff Qd).mp hg
  by_cases hn : isNl c = true
  · unfold isNl at hn; simp at hn; omega
  · obtain ⟨x, e, hx⟩ := quote_snoc t c
    obtain ⟨y, rfl⟩ := hx (by simpa using hn)
    obtain ⟨z, hz⟩ := hp
    rw [e] at hz
    refine .inr (.inr ?_)
    rw [← hz]
    simp

theorem kids_mass (hs : sg.Nodup) (t : List Nat) : mass Qd (kids Qd t sg) + 1 ≤ wgt (Qd.length - t.length) := by
  by_cases h : t.length < Qd.length
  · have hl : ∀ u ∈ kids Qd t sg, wgt (Qd.length - u.length) = wgt (Qd.length - t.length - 1) := by
      intro u hu
      obtain ⟨c, _, rfl⟩ := List.mem_map.mp hu
      rw [List.length_append, List.length_singleton, Nat.sub_add_eq]
    have hm : ∀ (K : List (List Nat)), (∀ u ∈ K, wgt (Qd.length - u.length) = wgt (Qd.length - t.length - 1)) → mass Qd K = K.length * wgt (Qd.length - t.length - 1) := by
      intro K
      induction K with
      | nil => intro _; simp [mass]
      | cons u K ih =>
        intro hK
        rw [mass_cons, hK u (.head _), ih fun v hv => hK v (.tail _ hv), List.length_cons, Nat.succ_mul]; omega
    rw [hm _ hl]
    have hk := kids_few Qd sg hs t
    obtain ⟨j, hj⟩ : ∃ j, Qd.length - t.length = j + 1 := ⟨Qd.length - t.length - 1, by omega⟩
    rw [hj, wgt, Nat.add_sub_cancel]
    have := Nat.mul_le_mul_right (wgt j) hk
    omega
  · have : kids Qd t sg = [] := by
      unfold kids
      rw [List.filter_eq_nil_iff.mpr]
      · rfl
      · intro c _ hg; exact h ((goes_iff Qd).mp hg).1
    rw [this]
    have := wgt_pos (Qd.length - t.length)
    simp [mass]; omega

/-- a text over the signs that is quoted so -/
def Acc (t : List Nat) : Prop := (∀ c ∈ t, c ∈ sg) ∧ quote t = Qd

def Apart (a b : List Nat) : Prop := ¬ a <+: b ∧ ¬ b <+: a
theorem Apart.symm {a b : List Nat} (h : Apart a b) : Apart b a := ⟨h.2, h.1⟩

/-- what holds between two turns: the heap's texts H, the told ones O -/
structure Inv (H O : List (List Nat)) : Prop where
  valid : ∀ t ∈ H, ∀ c ∈ t, c ∈ sg
  apart : H.Pairwise Apart
  order : O.Pairwise fun a b => ltT a b = true
  below : ∀ o ∈ O, ∀ h ∈ H, ltT o h = true
  sound : ∀ o ∈ O, Acc Qd sg o
  full : ∀ t, Acc Qd sg t → t ∈ O ∨ ∃ h ∈ H, h <+: t

variable {Qd sg}
theorem Inv.perm {H H' O : List (List Nat)} (i : Inv Qd sg H O) (p : H.Perm H') : Inv Qd sg H' O where
  valid := fun t ht => i.valid t (p.mem_iff.mpr ht)
  apart := (p.pairwise_iff fun {_ _} h => h.symm).mp i.apart
  order := i.order
  below := fun o ho h hh => i.below o ho h (p.mem_iff.mpr hh)
  sound := i.sound
  full := fun t ht => (i.full t ht).imp id fun ⟨h, hh, q⟩ => ⟨h, p.mem_iff.mp hh, q⟩

theorem Inv.start : Inv Qd sg [[]] [] where
  valid := fun t ht c hc => by rw [List.mem_singleton.mp ht] at hc; cases hc
  apart := List.pairwise_singleton _ _
  order := .nil
  below := fun _ h => nomatch h
  sound := fun _ h => nomatch h
  full := fun t _ => .inr ⟨[], by simp, List.nil_prefix⟩

theorem prefix_snoc {h m : List Nat} {c : Nat} (q : h <+: m ++ [c]) : h <+: m ∨ h = m ++ [c] := by
  obtain ⟨z, hz⟩ := q
  rcases List.eq_nil_or_concat z with rfl | ⟨z', x, rfl⟩
  · rw [List.append_nil] at hz; exact .inr hz
  · rw [List.concat_eq_append, ← List.append_assoc] at hz
    have := List.append_inj' hz rfl
    exact .inl ⟨z', this.1⟩

theorem ltT_child (m : List Nat) (c : Nat) : ltT m (m ++ [c]) = true := by
  unfold ltT
  rw [if_neg (by simp)]
  exact decide_eq_true (by simp)

/-- one turn: m is taken off, told or not, its children come in -/
theorem Inv.turn {m : List Nat} {H O : List (List Nat)} (hs : sg.Nodup) (i : Inv Qd sg (m :: H) O) (hmin : ∀ h ∈ H, ltT h m = false) :
    Inv Qd sg (H ++ kids Qd m sg) (O ++ if quote m = Qd then [m] else []) := by
  have iap := List.pairwise_cons.mp i.apart
  have mh : ∀ h ∈ H, ltT m h = true := fun h hh => ltT_total _ _ (fun e => (iap.1 h hh).1 (e ▸ List.prefix_refl _)) (hmin h hh)
  have km : ∀ u ∈ kids Qd m sg, ∃ c ∈ sg, u = m ++ [c] ∧ goes Qd m c = true := by
    intro u hu
    obtain ⟨c, hc, rfl⟩ := List.mem_map.mp hu
    obtain ⟨h1, h2⟩ := List.mem_filter.mp hc
    exact ⟨c, h1, rfl, h2⟩
  refine ⟨?_, ?_, ?_, ?_, ?_, ?_⟩
  · intro t ht c hc
    rcases List.mem_append.mp ht with ht | ht
    · exact i.valid t (.tail _ ht) c hc
    · obtain ⟨x, hx, rfl, _⟩ := km t ht
      rcases List.mem_append.mp hc with hc | hc
      · exact i.valid m (.head _) c hc
      · rw [List.mem_singleton.mp hc]; exact hx
  · rw [List.pairwise_append]
    refine ⟨iap.2, ?_, ?_⟩
    · unfold kids
      rw [List.pairwise_map]
      refine (hs.filter _).imp fun {a b} hab => ?_
      constructor
      · intro q
        rcases prefix_snoc q with q | q
        · have := q.length_le; simp at this; omega
        · have := List.append_cancel_left q; simp at this; exact hab this
      · intro q
        rcases prefix_snoc q with q | q
        · have := q.length_le; simp at this; omega
        · have := List.append_cancel_left q; simp at this; exact hab this.symm
    · intro h hh u hu
      obtain ⟨c, _, rfl, _⟩ := km u hu
      have a := iap.1 h hh
      constructor
      · intro q
        rcases prefix_snoc q with q | q
        · exact a.2 q
        · exact a.1 (q ▸ List.prefix_append _ _)
      · intro q
        exact a.1 ((List.prefix_append _ _).trans q)
  · rw [List.pairwise_append]
    refine ⟨i.order, ?_, ?_⟩
    · split
      · exact List.pairwise_singleton _ _
      · exact .nil
    · intro o ho u hu
      split at hu
      · rw [List.mem_singleton.mp hu]; exact i.below o ho m (.head _)
      · cases hu
  · intro o ho h hh
    have key : ∀ o, (o = m ∨ ltT o m = true ∧ ∀ h ∈ H, ltT o h = true) → ltT o h = true := by
      intro o q
      rcases List.mem_append.mp hh with hh' | hh'
      · rcases q with rfl | q
        · exact mh h hh'
        · exact q.2 h hh'
      · obtain ⟨c, _, rfl, _⟩ := km h hh'
        rcases q with rfl | q
        · exact ltT_child _ _
        · exact ltT_trans _ _ _ q.1 (ltT_child _ _)
    refine key o ?_
    rcases List.mem_append.mp ho with ho | ho
    · exact .inr ⟨i.below o ho m (.head _), fun h hh => i.below o ho h (.tail _ hh)⟩
    · split at ho
      · exact .inl (List.mem_singleton.mp ho)
      · cases ho
  · intro o ho
    rcases List.mem_append.mp ho with ho | ho
    · exact i.sound o ho
    · split at ho
      · rename_i hq
        rw [List.mem_singleton.mp ho]
        exact ⟨i.valid m (.head _), hq⟩
      · cases ho
  · intro t ht
    rcases i.full t ht with h | ⟨h, hh, hp⟩
    · exact .inl (List.mem_append_left _ h)
    · rcases List.mem_cons.mp hh with rfl | hh
      · obtain ⟨u, rfl⟩ := hp
        cases u with
        | nil =>
          rw [List.append_nil] at ht ⊢
          rw [if_pos ht.2]
          exact .inl (List.mem_append_right _ (by simp))
        | cons c r =>
          refine .inr ⟨h ++ [c], List.mem_append_right _ ?_, ⟨r, by simp⟩⟩
          unfold kids
          refine List.mem_map.mpr ⟨c, List.mem_filter.mpr ⟨ht.1 c (by simp), (goes_iff Qd).mpr ⟨?_, ?_⟩⟩, rfl⟩
          · have := quote_ge (h ++ c :: r)
            rw [ht.2] at this
            simp at this; omega
          · have := quote_prefix (h ++ [c]) r
            rw [List.append_assoc, List.singleton_append, ht.2] at this
            exact this
      · exact .inr ⟨h, List.mem_append_left _ hh, hp⟩

/-- at the end the told texts are all the texts that are quoted so -/
theorem Inv.done {O : List (List Nat)} (i : Inv Qd sg [] O) : ∀ t, t ∈ O ↔ Acc Qd sg t := fun t =>
  ⟨i.sound t, fun h => (i.full t h).elim id fun ⟨_, hh, _⟩ => nomatch hh⟩
end
end Mine
end

section
open PySem PySem.W PyProof.Rows PySem.Calls
namespace Mine
set_option maxRecDepth 100000
set_option maxHeartbeats 1000000

/-- the ledger bears the heap's tuples -/
def LedT (tups : List (Addr × Obj)) (tof : Value → List Nat) (vs : List Value) : Prop :=
  ∀ v ∈ vs, ∃ a t1 t2 t3 c, v = .ref a ∧ (a, seqObj "tuple" #[.int (tof v).length t1, .str (txt (tof v)) t2, .str (txt (quote (tof v))) t3] c) ∈ tups
abbrev ltO (tof : Value → List Nat) (u v : Value) : Bool := ltT (tof u) (tof v)
abbrev kofT (tof : Value → List Nat) (v : Value) : Key := node (tof v)

theorem ltV_kof (tof : Value → List Nat) : ltV (kofT tof) = ltO tof := by
  funext u v
  exact ltK_node _ _
theorem ordO (tof : Value → List Nat) : Ord (ltO tof) := ⟨fun a b => ordT.asymm _ _, fun a b c => ordT.trans _ _ _⟩

section
variable {w : World} {A : Around} {s : Shared} {gc : Heap} {L lh : Addr} {m : Str → Option Value} {vs : List Value} {c : Nat} {rest : List (Addr × Obj)} {tof : Value → List Nat}

theorem led_tups (N : News gc L s.heap ((lh, listOf vs.toArray c) :: rest)) (nt : ∀ p ∈ rest, p.1 ≠ lh) {us : List Value} (LT : LedT rest tof us) : Tups (kofT tof) (s.heap.hide lh) us := by
  intro v hv
  obtain ⟨a, t1, t2, t3, c', e, hm⟩ := LT v hv
  exact ⟨a, t1, t2, t3, c', e, hide_get (N _ (.tail _ hm)).1 (nt _ hm)⟩
theorem amb_hide (am : Amb w gc) (F : Fr gc L s.heap m) (N : News gc L s.heap ((lh, listOf vs.toArray c) :: rest)) : Amb w (s.heap.hide lh) :=
  am.keeps fun b o e => hide_get (F.keep b o e) (by rintro rfl; have := (N _ (.head _)).2.2; rw [e] at this; cases this)

theorem pop_at {Q : Value → Shared → Prop} (am : Amb w gc) (F : Fr gc L s.heap m) (N : News gc L s.heap ((lh, listOf vs.toArray c) :: rest)) (nt : ∀ p ∈ rest, p.1 ≠ lh) (LT : LedT rest tof vs)
    (hp : IsHeap (ltO tof) .none vs) (hne : vs ≠ []) (hroom : A.depth + 2 < recursionLimit) (hA : A.units + 30 < cLine) (hsz : vs.length < 2 ^ 20)
    (hQ : ∀ u vs' c' h' tk', Fr gc L h' m → News gc L h' ((lh, listOf vs'.toArray c') :: rest) → (u :: vs').Perm vs → IsHeap (ltO tof) .none vs' → (∀ x ∈ vs, ltT (tof x) (tof u) = false) → Q u { s with heap := h', toks := tk' }) :
    wpAny (model prog w) A (call (.ref 62) [.ref lh]) Q NoE s := by
  obtain ⟨us, v, rfl⟩ : ∃ us v, vs = us ++ [v] := ⟨vs.dropLast, vs.getLast hne, (List.dropLast_concat_getLast hne).symm⟩
  refine heappop_ct (kofT tof) (s.heap.hide lh) (amb_hide am F N) hroom hA (N _ (.head _)).1 (by simpa using hsz) (fun _ _ e => e) (led_tups N nt LT) ?_ ?_
  · rintro rfl h' tk' c' k e
    obtain ⟨F', N'⟩ := back (o' := listOf (#[] : Array Value) c') F N nt k e
    refine hQ v [] c' h' tk' F' N' (List.Perm.refl _) (fun i h0 hi => by simp at hi) ?_
    intro x hx
    rw [show x = v by simpa using hx]; exact ltT_irrefl _
  · rintro u r rfl h' tk' c' k e
    obtain ⟨F', N'⟩ := back (o' := listOf (su (ltV (kofT tof)) v (v :: r) 0).toArray c') F N nt k e
    rw [ltV_kof] at N'
    obtain ⟨p1, p2⟩ := pop_heap (d := Value.none) (ordO tof) hp
    refine hQ u _ c' h' tk' F' N' ?_ p1 (heap_min (d := Value.none) (ordO tof) (by rw [List.cons_append] at hp; exact hp))
    exact (p2.cons u).trans (List.Perm.refl _)

theorem push_at {Q : Value → Shared → Prop} {v : Value} (am : Amb w gc) (F : Fr gc L s.heap m) (N : News gc L s.heap ((lh, listOf vs.toArray c) :: rest)) (nt : ∀ p ∈ rest, p.1 ≠ lh) (LT : LedT rest tof (v :: vs))
    (hp : IsHeap (ltO tof) .none vs) (hroom : A.depth + 1 < recursionLimit) (hA : A.units + 20 < cLine) (hsz : vs.length + 1 < 2 ^ 20)
    (hQ : ∀ vs' c' h' tk', Fr gc L h' m → News gc L h' ((lh, listOf vs'.toArray c') :: rest) → vs'.Perm (v :: vs) → IsHeap (ltO tof) .none vs' → Q .none { s with heap := h', toks := tk' }) :
    wpAny (model prog w) A (call (.ref 55) [.ref lh, v]) Q NoE s := by
  have tp := led_tups N nt LT
  refine heappush_ct (kofT tof) (s.heap.hide lh) (amb_hide am F N) hroom hA (N _ (.head _)).1 hsz (fun _ _ e => e) (fun x hx => tp x (.tail _ hx)) (tp v (.head _)) ?_
  intro h' tk' c' k e
  obtain ⟨F', N'⟩ := back (o' := listOf (sd (ltV (kofT tof)) v (vs ++ [v]) vs.length).toArray c') F N nt k e
  rw [ltV_kof] at N'
  obtain ⟨p1, p2⟩ := push_heap (d := Value.none) (v := v) (ordO tof) hp
  exact hQ _ c' h' tk' F' N' p2 p1
end

theorem isHeap_congr {lt lt' : Value → Value → Bool} {vs : List Value} (h : IsHeap lt .none vs) (e : ∀ u ∈ vs, ∀ v ∈ vs, lt u v = lt' u v) : IsHeap lt' .none vs := by
  intro i h0 hi
  have m : ∀ j, j < vs.length → vs.getD j .none ∈ vs := by
    intro j hj
    rw [List.getD_eq_getElem?_getD, List.getElem?_eq_getElem hj]
    exact List.getElem_mem hj
  rw [← e _ (m i hi) _ (m _ (by omega))]
  exact h i h0 hi
end Mine
end

section
open PySem PySem.W PyProof.Rows PySem.Calls
namespace Mine
set_option maxRecDepth 100000
set_option maxHeartbeats 1000000

/-- the end of a loop's turn: the invariant holds one place further -/
def NextJ (s : Shared) (gc : Heap) (L I0 : Addr) (it : Obj) (J : Nat → (Str → Option Value) → List (Addr × Obj) → Prop) (i : Nat) (s₃ : Shared) : Prop :=
  ∃ h3 tk3 m3 rest3, s₃ = { s with heap := h3, toks := tk3 } ∧ Fr gc L h3 m3 ∧ News gc L h3 ((I0, it) :: rest3) ∧ (∀ p ∈ rest3, p.1 ≠ I0) ∧ J (i + 1) m3 rest3

section
variable {w : World} {A : Around} {s : Shared} {gc : Heap} {L : Addr} {m : Str → Option Value} {rest : List (Addr × Obj)} {name : Str} {scope : Scope} {a : Addr} {cd : Value}

theorem for_list {x : Str} {px pos : Pos} {iter : PySem.Expr} {body : List Stmt} {Q : Flow → Shared → Prop} {l : Addr} {vs : List Value} (J : Nat → (Str → Option Value) → List (Addr × Obj) → Prop)
    (hh : A.handled = none) (F : Fr gc L s.heap m) (N : News gc L s.heap rest)
    (hev : ∀ Q' : Value → Shared → Prop, Q' (.ref l) s → wpAny (model prog w) A (eval iter (envOf name scope L a cd)) Q' NoE s)
    (hl : ∀ i m' rest' h, J i m' rest' → Fr gc L h m' → News gc L h rest' → h.IsList l vs.toArray)
    (hJ : J 0 m rest)
    (turn : ∀ i v h tk m' rest' I0 it, vs[i]? = some v → J i m' rest' → (∀ p ∈ rest', p.1 ≠ I0) → Fr gc L h (fun y => if y = x then some v else m' y) → News gc L h ((I0, it) :: rest') →
      wpAny (model prog w) A (execs body (envOf name scope L a cd)) (fun f s₃ => match f with
        | .next | .cont => NextJ s gc L I0 it J i s₃
        | .brk => Q .next s₃
        | .ret v => Q (.ret v) s₃) NoE { s with heap := h, toks := tk })
    (done : ∀ h tk m' rest', J vs.length m' rest' → Fr gc L h m' → News gc L h rest' → Q .next { s with heap := h, toks := tk })
    (hk : scope.kind = .function) (hx : (envOf name scope L a cd).kindOf x = some .local)
    (hs : ∀ x, foldedSetIterable iter (envOf name scope L a cd) x = pure x := by intro _; rfl) :
    wpAny (model prog w) A (exec (.For (.Name x px) iter body [] pos) (envOf name scope L a cd)) Q NoE s := by
  refine for_mine (hev _ ?_) hs
  have hls := hl 0 m rest s.heap hJ F N
  have hlt : l < s.heap.objs.size := by obtain ⟨o, ho, _⟩ := id hls; exact Heap.lt_size ho
  refine wpAny_pyIter_list hls ?_
  have W := Walks.list (prog := prog) (w := w) hh s.heap.objs.size l (Nat.ne_of_lt hlt) vs.toArray
  generalize hI : s.heap.objs.size = I0 at *
  have keep0 : ∀ b o, s.heap.get? b = some o → (s.heap.push { cls := .type "list_iterator", data := .fields #[.ref l, .int 0 0] }).get? b = some o := fun b o e => Heap.get?_push_of_some _ e
  have hI0 : (s.heap.push { cls := .type "list_iterator", data := .fields #[.ref l, .int 0 0] }).get? I0 = some { cls := .type "list_iterator", data := .fields #[.ref l, .int 0 0] } := by
    rw [← hI]; exact Heap.get?_push_size _ rfl
  have hg0 : gc.get? I0 = none := by
    cases q : gc.get? I0 with
    | none => rfl
    | some o => have := Heap.lt_size (F.keep _ _ q); rw [hI] at this; exact absurd this (Nat.lt_irrefl _)
  have hIL : I0 ≠ L := by have := F.ns.lt; rw [hI] at this; exact Nat.ne_of_gt this
  have hr0 : ∀ p ∈ rest, p.1 ≠ I0 := fun p hp e => by have := Heap.lt_size (N p hp).1; rw [hI, e] at this; exact absurd this (Nat.lt_irrefl _)
  obtain ⟨F0, N0⟩ := back0 F N keep0
  refine ⟨fun n s' => ∃ i h tk m' rest' it, n = vs.length + 1 - i ∧ i ≤ vs.length ∧ s' = { s with heap := h, toks := tk } ∧ Fr gc L h m' ∧ News gc L h ((I0, it) :: rest') ∧ (∀ p ∈ rest', p.1 ≠ I0) ∧ h.IsListIter I0 l i ∧ J i m' rest',
    vs.length + 1, ⟨0, _, s.toks, m, rest, { cls := .type "list_iterator", data := .fields #[.ref l, .int 0 0] }, rfl, Nat.zero_le _, rfl, F0, ?_, hr0, ⟨_, hI0, rfl, rfl⟩, hJ⟩, ?_⟩
  · intro p hp
    rcases List.mem_cons.mp hp with rfl | hp
    · exact ⟨hI0, hIL, hg0⟩
    · exact N0 p hp
  rintro n s' ⟨i, h, tk, m', rest', it, rfl, hi, rfl, F', N', hr', hit, hJ'⟩
  have hl' := hl i m' rest' h hJ' F' (fun p hp => N' p (.tail _ hp))
  have hz := N' _ (.head _)
  have move : ∀ h', (∀ b o, b ∉ [I0] → h.get? b = some o → h'.get? b = some o) → Fr gc L h' m' ∧ News gc L h' rest' := by
    intro h' hk'
    have hk2 : ∀ b o, b ≠ I0 → h.get? b = some o → h'.get? b = some o := fun b o hb e => hk' b o (by simpa using hb) e
    obtain ⟨oL, es, ep, hoL, r⟩ := F'.ns
    refine ⟨⟨⟨oL, es, ep, hk2 _ _ (fun q => hIL q.symm) hoL, r⟩, fun b x q => hk2 _ _ ?_ (F'.keep b x q), F'.above⟩, fun p hp => ⟨hk2 _ _ (hr' p hp) (N' p (.tail _ hp)).1, (N' p (.tail _ hp)).2⟩⟩
    rintro rfl
    rw [hg0] at q; cases q
  by_cases hlast : i = vs.length
  · subst hlast
    refine W.done _ _ _ ⟨by simpa using hit, hl'⟩ ?_
    intro h' tk' hk'
    obtain ⟨F2, N2⟩ := move h' hk'
    exact done h' tk' m' rest' hJ' F2 N2
  · refine W.item i _ _ _ (by simp; omega) ⟨hit, hl'⟩ ?_
    intro v h' tk' hP hst hk'
    obtain ⟨F2, N2⟩ := move h' hk'
    obtain ⟨o2, ho2, hc2, hd2⟩ := hst.1
    have N3 : News gc L h' ((I0, o2) :: rest') := by
      intro p hp
      rcases List.mem_cons.mp hp with rfl | hp
      · exact ⟨ho2, hz.2⟩
      · exact N2 p hp
    refine wpAny_assign_Name (stN (s := ⟨h', _, _, _, _⟩) F2 N3 ?_ hk hx)
    intro h4 F4 N4
    refine wpAny_mono (turn i v h4 _ m' rest' I0 o2 (by simpa using hP) hJ' hr' F4 N4) (fun f s₃ h₃ => ?_) (fun _ _ q => q)
    cases f with
    | next =>
      obtain ⟨h5, tk5, m5, rest5, rfl, F5, N5, hr5, J5⟩ := h₃
      exact ⟨vs.length + 1 - (i + 1), by omega, i + 1, h5, tk5, m5, rest5, o2, rfl, by omega, rfl, F5, N5, hr5, ⟨o2, (N5 _ (.head _)).1, hc2, hd2⟩, J5⟩
    | cont =>
      obtain ⟨h5, tk5, m5, rest5, rfl, F5, N5, hr5, J5⟩ := h₃
      exact ⟨vs.length + 1 - (i + 1), by omega, i + 1, h5, tk5, m5, rest5, o2, rfl, by omega, rfl, F5, N5, hr5, ⟨o2, (N5 _ (.head _)).1, hc2, hd2⟩, J5⟩
    | brk => exact h₃
    | ret v => exact h₃
end
end Mine
end

section
open PySem PySem.W PyProof.Rows PySem.Calls
namespace Mine
set_option maxRecDepth 100000
set_option maxHeartbeats 4000000

local macro_rules | `(tactic| walk_at "pad 0") => `(tactic| fail)
local macro_rules | `(tactic| walk_at "pad 1") => `(tactic| fail)
local macro_rules | `(tactic| walk_at "pad 2") => `(tactic| fail)
local macro_rules | `(tactic| walk_at "pad 3") => `(tactic| fail)
local macro_rules | `(tactic| walk_at "mlk") => `(tactic| first | assumption | exact if_pos rfl | (with_unfolding_all exact rfl) | (refine Eq.trans (if_neg (by decide +kernel)) ?_; walk_at "mlk"))
local macro_rules | `(tactic| walk_at "eval Name") => `(tactic| ((with_reducible show wpAny _ _ (eval (Expr.Name _ _) (envOf _ _ _ _ _)) _ _ _); first
  | (refine ld (by assumption) (by walk_at "mlk") ?_ (by kernel_rfl!) (by kernel_rfl!) (by decide +kernel))
  | (refine gname (by assumption) (by assumption) (by rfl) ?_ (by kernel_rfl!) (by kernel_rfl!) (by decide +kernel))
  | (refine bname (by assumption) (by assumption) (by rfl) (by first | exact boot_len | exact boot_max | exact boot_sorted | exact boot_chr) (by decide +kernel) ?_ (by kernel_rfl!) (by kernel_rfl!) (by decide +kernel))))
local macro_rules | `(tactic| walk_at "callWith ref") => `(tactic| ((with_reducible show wpAny _ _ (callWith _ (Value.ref _) _ (backTo _ (starEach (_ :: _) _)) []) _ _ _); refine callWith_K (Amb.X (by assumption)) (by rfl) ?_))
local macro_rules | `(tactic| walk_at "mw") => `(tactic| first
  | ((with_reducible show (Frag.In _ _ ∧ _)); refine ⟨Amb.X (Amb.keeps (by assumption) (Fr.keep (by assumption))), ?_⟩; try dsimp only [List.nil_append, List.cons_append])
  | ((fail_if_success (with_reducible show wpAny _ _ (exec (Stmt.While _ _ _ _) _) _ _ _)); (fail_if_success (with_reducible show wpAny _ _ (exec (Stmt.For _ _ _ _ _) _) _ _ _)); (fail_if_success (with_reducible show wpAny _ _ (call (Value.ref _) _) _ _ _)); (fail_if_success (with_reducible show wpAny _ _ (newTuple _) _ _ _)); (fail_if_success (with_reducible show (ite _ _ _ : Prop))); walk1; (try dsimp only)))

/-- the text of the i-th statement of the module: a def's body and scope -/
def fnBody (i : Nat) : List Stmt := match PySem.Challenge.pw_mr0063_01.main.body[i]? with
  | some (Stmt.FunctionDef _ _ b _ _ _ _ _ _ _) => b
  | _ => []
def fnScope (i : Nat) : Scope := match PySem.Challenge.pw_mr0063_01.main.body[i]? with
  | some (Stmt.FunctionDef _ _ _ _ _ _ sc _ _ _) => sc
  | _ => PySem.Challenge.pw_mr0063_01.main.scope
def whileBody (i j : Nat) : List Stmt := match (fnBody i)[j]? with
  | some (Stmt.While _ b _ _) => b
  | _ => []

/-- the ledger bears the told tuples -/
def LedO (tups : List (Addr × Obj)) (oof : Value → List Nat) (ts : List Value) : Prop :=
  ∀ v ∈ ts, ∃ a t1 t2 c, v = .ref a ∧ (a, seqObj "tuple" #[.int (oof v).length t1, .str (txt (oof v)) t2] c) ∈ tups

theorem starts_eq (x y : List Nat) : Txt.startswith (txt x) (txt y) = y.isPrefixOf x := by
  unfold Txt.startswith
  rw [StrLaws.subAt_eq]
  show (decide (0 + y.length ≤ x.length) && ((x.toArray.toList.drop 0).take y.length == y.toArray.toList)) = _
  rw [List.toList_toArray, List.toList_toArray, List.drop_zero, Nat.zero_add]
  cases h : y.isPrefixOf x with
  | true =>
    have hp := List.isPrefixOf_iff_prefix.mp h
    have hl := hp.length_le
    have e := List.prefix_iff_eq_take.mp hp
    rw [← e]
    simp [hl]
  | false =>
    rw [Bool.and_eq_false_iff]
    by_cases hl : y.length ≤ x.length
    · right
      rw [beq_eq_false_iff_ne]
      intro q
      have : y <+: x := by rw [List.prefix_iff_eq_take]; exact q.symm
      rw [List.isPrefixOf_iff_prefix.mpr this] at h; cases h
    · left; simpa using hl
theorem txt_app (x y : List Nat) : txt x ++ txt y = txt (x ++ y) := by
  show (⟨x.toArray ++ y.toArray⟩ : Str) = ⟨(x ++ y).toArray⟩
  simp
theorem txt_len (x : List Nat) : (txt x).length = x.length := by simp [txt, Str.length]

abbrev toldEnv (L : Addr) : Env := envOf (Str.ofString "_law_told") (fnScope 14) L 95 (.ref 94)
def toldFor : Stmt := (whileBody 14 2).getD 2 (Stmt.Pass ⟨0, 0, 0, 0⟩)

/-- what stands between two signs -/
structure TF (gc : Heap) (ls lh lt : Addr) (Qd : List Nat) (tq t1 t2 : Tok) (T : List Nat) (H : List (List Nat)) (ts : List Value) (c2 : Nat) (oof : Value → List Nat) (cs : List Nat)
    (m : Str → Option Value) (rest : List (Addr × Obj)) (vs : List Value) (c : Nat) (tups : List (Addr × Obj)) (tof : Value → List Nat) : Prop where
  eq : rest = (lh, listOf vs.toArray c) :: (lt, listOf ts.toArray c2) :: tups
  nt : ∀ p ∈ tups, p.1 ≠ lh ∧ p.1 ≠ lt
  m1 : m (Str.ofString "heap") = some (.ref lh)
  m2 : m (Str.ofString "told") = some (.ref lt)
  m3 : m (Str.ofString "quoted") = some (.str (txt Qd) tq)
  m4 : m (Str.ofString "signs") = some (.ref ls)
  m5 : m (Str.ofString "size") = some (.int T.length t1)
  m6 : m (Str.ofString "text") = some (.str (txt T) t2)
  LT : LedT tups tof vs
  LO : LedO tups oof ts
  hp : IsHeap (ltO tof) .none vs
  perm : (vs.map tof).Perm (H ++ kids Qd T cs)
  len : ∀ v ∈ vs, (tof v).length ≤ Qd.length

theorem kids_snoc (Qd T cs : List Nat) (ch : Nat) : kids Qd T (cs ++ [ch]) = kids Qd T cs ++ if goes Qd T ch = true then [T ++ [ch]] else [] := by
  unfold kids
  rw [List.filter_append, List.map_append]
  congr 1
  by_cases h : goes Qd T ch = true
  · rw [if_pos h, List.filter_cons_of_pos h]; rfl
  · rw [if_neg h, List.filter_cons_of_neg h]; rfl

theorem told_for {w : World} {A : Around} {s gs : Shared} {L : Addr} {Qd sg T : List Nat} {H : List (List Nat)} {tq t1 t2 : Tok} {ls lh lt : Addr} {sv ts : List Value} {cs c2 : Nat} {oof : Value → List Nat} {Q : Flow → Shared → Prop}
  (am : Amb w gs.heap) (hh : A.handled = none) (hroom : A.depth + 4 < recursionLimit) (hA : A.units + 50 < cLine) (hQd : Qd.length ≤ 12) (hT : T.length ≤ Qd.length) (hsg : sg.Nodup) (hH : mass Qd (H ++ kids Qd T sg) ≤ 797161)
  (hls : gs.heap.get? ls = some (listOf sv.toArray cs)) (hsv : StrsAre sv (sg.map fun c => txt [c])) (ne : lh ≠ lt)
  {m : Str → Option Value} {rest : List (Addr × Obj)} {vs : List Value} {c : Nat} {tups : List (Addr × Obj)} {tof : Value → List Nat}
  (F : Fr gs.heap L s.heap m) (N : News gs.heap L s.heap rest) (TF0 : TF gs.heap ls lh lt Qd tq t1 t2 T H ts c2 oof [] m rest vs c tups tof)
  (hQ : ∀ h tk m rest vs c tups tof, Fr gs.heap L h m → News gs.heap L h rest → TF gs.heap ls lh lt Qd tq t1 t2 T H ts c2 oof sg m rest vs c tups tof → Q .next { s with heap := h, toks := tk }) :
  wpAny (model prog w) A (exec toldFor (toldEnv L)) Q NoE s := by
  have hsl : sv.length = sg.length := by have := hsv.len_eq; simpa using this
  refine for_list (l := ls) (vs := sv) (fun i m' rest' => ∃ vs c tups tof, TF gs.heap ls lh lt Qd tq t1 t2 T H ts c2 oof (sg.take i) m' rest' vs c tups tof) hh F N ?hev ?hl ⟨vs, c, tups, tof, TF0⟩ ?turn ?done rfl (by rfl)
  case hev =>
    intro Q' hq
    have m4 := TF0.m4
    walk_at "eval Name"
    exact hq
  case hl =>
    rintro i m' rest' h ⟨vs, c, tups, tof, X⟩ F' N'
    exact isL (F'.keep _ _ hls)
  case done =>
    rintro h tk m' rest' ⟨vs, c, tups, tof, X⟩ F' N'
    rw [hsl, List.take_length] at X
    exact hQ h tk m' rest' vs c tups tof F' N' X
  case turn =>
    rintro i v h tk m' rest' I0 it hv ⟨vs, c, tups, tof, X⟩ hI F' N'
    clear TF0 F N
    obtain ⟨eq, nt, m1, m2, m3, m4, m5, m6, LT, LO, hp, perm, len⟩ := X
    subst eq
    obtain ⟨y, tv, rfl, hy⟩ := hsv.item i v hv
    rw [List.getElem?_map] at hy
    obtain ⟨ch, hch, rfl⟩ := Option.map_eq_some_iff.mp hy
    have hz := N' _ (.head _)
    repeat walk_at "mw"
    refine PyProof.Rows.add_str ?_ (by rw [txt_len, txt_len, sizeLine_eq]; simp; omega)
    intro ta tka
    rw [txt_app]
    repeat walk_at "mw"
    refine quotedata_ct (s := ⟨h, _, _, _, _⟩) (x := T ++ [ch]) (am.keeps F'.keep) (by omega) (by simp; omega) ?_
    intro h2 tk2 tkq k2
    obtain ⟨F2, N2⟩ := back0 F' N' k2
    clear F' N'
    repeat walk_at "mw"
    rename Fr _ _ _ _ => F3
    rename News _ _ _ _ => N3
    have htake : sg.take (i + 1) = sg.take i ++ [ch] := by rw [List.take_add_one, hch]; rfl
    have skip : ∀ (h' : Heap) (tk' : Nat) (m2' : Str → Option Value), goes Qd T ch = false → (∀ x, x ≠ Str.ofString "sign" → x ≠ Str.ofString "begun" → m2' x = m' x) → Fr gs.heap L h' m2' →
        News gs.heap L h' ((I0, it) :: (lh, listOf vs.toArray c) :: (lt, listOf ts.toArray c2) :: tups) →
        NextJ s gs.heap L I0 it (fun i m' rest' => ∃ vs c tups tof, TF gs.heap ls lh lt Qd tq t1 t2 T H ts c2 oof (sg.take i) m' rest' vs c tups tof) i { s with heap := h', toks := tk' } := by
      intro h' tk' m2' hg hm F' N'
      refine ⟨h', tk', m2', _, rfl, F', N', hI, vs, c, tups, tof, rfl, nt, ?_, ?_, ?_, ?_, ?_, ?_, LT, LO, hp, ?_, len⟩
      · rw [hm _ (by decide +kernel) (by decide +kernel)]; exact m1
      · rw [hm _ (by decide +kernel) (by decide +kernel)]; exact m2
      · rw [hm _ (by decide +kernel) (by decide +kernel)]; exact m3
      · rw [hm _ (by decide +kernel) (by decide +kernel)]; exact m4
      · rw [hm _ (by decide +kernel) (by decide +kernel)]; exact m5
      · rw [hm _ (by decide +kernel) (by decide +kernel)]; exact m6
      · rw [htake, kids_snoc, if_neg (by rw [hg]; simp), List.append_nil]; exact perm
    refine PyProof.Rows.len_str (by rw [txt_len]; omega) ?_
    rw [txt_len]
    repeat walk_at "mw"
    by_cases hlt : T.length < Qd.length
    · rw [if_pos (by simpa using hlt)]
      repeat walk_at "mw"
      rw [starts_eq]
      cases hpre : (quote (T ++ [ch])).isPrefixOf Qd with
      | false =>
        rw [if_neg (by simp)]
        repeat walk_at "mw"
        rw [if_neg (by simp)]
        repeat walk_at "mw"
        refine skip _ _ _ (by unfold goes; rw [hpre, Bool.and_false]) (fun x h1 h2 => by rw [if_neg h2, if_neg h1]) F3 N3
      | true =>
        have hg : goes Qd T ch = true := by unfold goes; rw [hpre, decide_eq_true hlt]; rfl
        rw [if_pos rfl]
        repeat walk_at "mw"
        rw [if_pos (by rfl)]
        repeat walk_at "mw"
        refine PyProof.Rows.add_str ?_ (by rw [txt_len, txt_len, sizeLine_eq]; simp; omega)
        intro tb tkb
        rw [txt_app]
        repeat walk_at "mw"
        rename_i h3
        have hfr : ∀ p ∈ (I0, it) :: (lh, listOf vs.toArray c) :: (lt, listOf ts.toArray c2) :: tups, p.1 ≠ h3.objs.size := fun p hp q => by
          have := Heap.lt_size (N3 p hp).1
          rw [q] at this
          exact absurd this (Nat.lt_irrefl _)
        refine newTuple_N (s := ⟨h3, _, _, _, _⟩) F3 N3 ?_ (by rw [sizeLine_eq]; simp)
        intro h5 F5 N5
        dsimp only at N5
        generalize h3.objs.size = a' at *
        clear F3 N3 skip F2 N2
        repeat walk_at "mw"
        have hnew : ∀ v ∈ vs, v ≠ .ref a' := by
          rintro v hv rfl
          obtain ⟨b, _, _, _, _, e, hm⟩ := LT _ hv
          cases e
          exact hfr _ (.tail _ (.tail _ (.tail _ hm))) rfl
        obtain ⟨tof', ht1, htof⟩ : ∃ tof' : Value → List Nat, tof' (.ref a') = T ++ [ch] ∧ ∀ v ∈ vs, tof' v = tof v :=
          ⟨fun v => if v = Value.ref a' then T ++ [ch] else tof v, if_pos rfl, fun v hv => if_neg (hnew v hv)⟩
        have hlen3 : vs.length ≤ 797161 := by
          have h1 := mass_len Qd (vs.map tof)
          rw [mass_perm Qd perm, List.length_map] at h1
          have h2 : mass Qd (kids Qd T sg) = mass Qd (kids Qd T (sg.take i)) + mass Qd (kids Qd T (sg.drop i)) := by
            rw [← mass_append]
            congr 1
            unfold kids
            rw [← List.map_append, ← List.filter_append, List.take_append_drop]
          rw [mass_append] at h1 hH
          omega
        refine push_at (s := ⟨h5, _, _, _, _⟩) (lh := lh) (vs := vs) (c := c) (rest := (a', seqObj "tuple" #[.int ((T.length : Int) + 1) (tk2 + 1 + 1 + 1 + 1), .str (txt (T ++ [ch])) tb, .str (txt (quote (T ++ [ch]))) tkq] 0) :: (I0, it) :: (lt, listOf ts.toArray c2) :: tups)
          (tof := tof') am F5 ?N5 ?ntp ?LTp ?hpp (by omega) (by omega) (by omega) ?_
        case N5 =>
          intro p hp
          refine N5 p ?_
          simp only [List.mem_cons] at hp ⊢
          rcases hp with h | h | h | h | h <;> simp [h]
        case ntp =>
          intro p hp
          simp only [List.mem_cons] at hp
          rcases hp with rfl | rfl | rfl | hp
          · exact fun q => hfr _ (.tail _ (.head _)) q.symm
          · exact fun q => hI _ (.head _) q.symm
          · exact fun q => ne q.symm
          · exact (nt p hp).1
        case LTp =>
          intro v hv
          rcases List.mem_cons.mp hv with rfl | hv
          · refine ⟨a', tk2 + 1 + 1 + 1 + 1, tb, tkq, 0, rfl, ?_⟩
            rw [ht1, List.length_append, List.length_singleton]
            exact .head _
          · obtain ⟨b, u1, u2, u3, cc, e, hm⟩ := LT v hv
            rw [htof v hv]
            exact ⟨b, u1, u2, u3, cc, e, .tail _ (.tail _ (.tail _ hm))⟩
        case hpp =>
          refine isHeap_congr hp fun u hu v hv => ?_
          show ltT (tof u) (tof v) = ltT (tof' u) (tof' v)
          rw [htof u hu, htof v hv]
        intro vs6 c6 h6 tk6 F6 N6 perm6 hp6
        repeat walk_at "mw"
        refine ⟨h6, tk6, _, (lh, listOf vs6.toArray c6) :: (lt, listOf ts.toArray c2) :: (a', seqObj "tuple" #[.int ((T.length : Int) + 1) (tk2 + 1 + 1 + 1 + 1), .str (txt (T ++ [ch])) tb, .str (txt (quote (T ++ [ch]))) tkq] 0) :: tups, rfl, F6, ?_, ?_,
          vs6, c6, _, tof', rfl, ?_, by walk_at "mlk", by walk_at "mlk", by walk_at "mlk", by walk_at "mlk", by walk_at "mlk", by walk_at "mlk", ?_, ?_, hp6, ?_, ?_⟩
        · intro p hp
          refine N6 p ?_
          simp only [List.mem_cons] at hp ⊢
          rcases hp with h | h | h | h | h <;> simp [h]
        · intro p hp
          simp only [List.mem_cons] at hp
          rcases hp with rfl | rfl | rfl | hp
          · exact hI (lh, listOf vs.toArray c) (.head _)
          · exact hI _ (.tail _ (.head _))
          · exact fun q => hfr _ (.head _) q.symm
          · exact hI _ (.tail _ (.tail _ hp))
        · intro p hp
          rcases List.mem_cons.mp hp with rfl | hp
          · exact ⟨fun q => hfr _ (.tail _ (.head _)) q.symm, fun q => hfr _ (.tail _ (.tail _ (.head _))) q.symm⟩
          · exact nt p hp
        · intro v hv
          rcases List.mem_cons.mp (perm6.mem_iff.mp hv) with rfl | hv
          · refine ⟨a', tk2 + 1 + 1 + 1 + 1, tb, tkq, 0, rfl, ?_⟩
            rw [ht1, List.length_append, List.length_singleton]
            exact .head _
          · obtain ⟨b, u1, u2, u3, cc, e, hm⟩ := LT v hv
            rw [htof v hv]
            exact ⟨b, u1, u2, u3, cc, e, .tail _ hm⟩
        · intro v hv
          obtain ⟨b, u1, u2, cc, e, hm⟩ := LO v hv
          exact ⟨b, u1, u2, cc, e, .tail _ hm⟩
        · have e1 : (Value.ref a' :: vs).map tof' = (T ++ [ch]) :: vs.map tof := by
            rw [List.map_cons, ht1]
            congr 1
            exact List.map_congr_left htof
          have p1 := perm6.map tof'
          rw [e1] at p1
          rw [htake, kids_snoc, if_pos hg, ← List.append_assoc]
          exact p1.trans ((perm.cons _).trans (List.perm_append_singleton _ _).symm)
        · intro v hv
          rcases List.mem_cons.mp (perm6.mem_iff.mp hv) with rfl | hv
          · rw [ht1, List.length_append, List.length_singleton]; omega
          · rw [htof v hv]; exact len v hv
    · rw [if_neg (by simpa using hlt)]
      repeat walk_at "mw"
      rw [if_neg (by simp)]
      repeat walk_at "mw"
      refine skip _ _ _ (by unfold goes; rw [decide_eq_false hlt]; rfl) (fun x h1 h2 => by rw [if_neg h2, if_neg h1]) F3 N3
end Mine
end

section
open PySem PySem.W PyProof.Rows PySem.Calls
namespace Mine
set_option maxRecDepth 100000
set_option maxHeartbeats 4000000

local macro_rules | `(tactic| walk_at "pad 0") => `(tactic| fail)
local macro_rules | `(tactic| walk_at "pad 1") => `(tactic| fail)
local macro_rules | `(tactic| walk_at "pad 2") => `(tactic| fail)
local macro_rules | `(tactic| walk_at "pad 3") => `(tactic| fail)
local macro_rules | `(tactic| walk_at "pad 4") => `(tactic| fail)
local macro_rules | `(tactic| walk_at "mlk") => `(tactic| first | assumption | exact if_pos rfl | (with_unfolding_all exact rfl) | (refine Eq.trans (if_neg (by decide +kernel)) ?_; walk_at "mlk"))
local macro_rules | `(tactic| walk_at "eval Name") => `(tactic| ((with_reducible show wpAny _ _ (eval (Expr.Name _ _) (envOf _ _ _ _ _)) _ _ _); first
  | (refine ld (by assumption) (by walk_at "mlk") ?_ (by kernel_rfl!) (by kernel_rfl!) (by decide +kernel))
  | (refine gname (by assumption) (by assumption) (by rfl) ?_ (by kernel_rfl!) (by kernel_rfl!) (by decide +kernel))
  | (refine bname (by assumption) (by assumption) (by rfl) (by first | exact boot_len | exact boot_max | exact boot_sorted | exact boot_chr) (by decide +kernel) ?_ (by kernel_rfl!) (by kernel_rfl!) (by decide +kernel))))
local macro_rules | `(tactic| walk_at "callWith ref") => `(tactic| ((with_reducible show wpAny _ _ (callWith _ (Value.ref _) _ (backTo _ (starEach (_ :: _) _)) []) _ _ _); refine callWith_K (Amb.X (by assumption)) (by rfl) ?_))
local macro_rules | `(tactic| walk_at "mw") => `(tactic| first
  | ((with_reducible show (Frag.In _ _ ∧ _)); refine ⟨Amb.X (Amb.keeps (by assumption) (Fr.keep (by assumption))), ?_⟩; try dsimp only [List.nil_append, List.cons_append])
  | ((fail_if_success (with_reducible show wpAny _ _ (exec (Stmt.While _ _ _ _) _) _ _ _)); (fail_if_success (with_reducible show wpAny _ _ (exec (Stmt.For _ _ _ _ _) _) _ _ _)); (fail_if_success (with_reducible show wpAny _ _ (call (Value.ref _) _) _ _ _)); (fail_if_success (with_reducible show wpAny _ _ (newTuple [_, _]) _ _ _)); (fail_if_success (with_reducible show wpAny _ _ (call (Value.builtin "list.append") _) _ _ _)); (fail_if_success (with_reducible show (ite _ _ _ : Prop))); walk1; (try dsimp only)))

/-- what stands between two turns -/
structure TI (gc : Heap) (L ls lh lt : Addr) (Qd sg : List Nat) (tq : Tok) (h : Heap) (m : Str → Option Value) (vs ts : List Value) (c c2 : Nat) (tups : List (Addr × Obj)) (tof oof : Value → List Nat) : Prop where
  F : Fr gc L h m
  N : News gc L h ((lh, listOf vs.toArray c) :: (lt, listOf ts.toArray c2) :: tups)
  ne : lh ≠ lt
  nt : ∀ p ∈ tups, p.1 ≠ lh ∧ p.1 ≠ lt
  m1 : m (Str.ofString "heap") = some (.ref lh)
  m2 : m (Str.ofString "told") = some (.ref lt)
  m3 : m (Str.ofString "quoted") = some (.str (txt Qd) tq)
  m4 : m (Str.ofString "signs") = some (.ref ls)
  LT : LedT tups tof vs
  LO : LedO tups oof ts
  hp : IsHeap (ltO tof) .none vs
  inv : Inv Qd sg (vs.map tof) (ts.map oof)
  len : ∀ v ∈ vs, (tof v).length ≤ Qd.length
  mass : mass Qd (vs.map tof) + ts.length ≤ wgt Qd.length

theorem TI.start {gc : Heap} {L ls lh lt a0 : Addr} {Qd sg : List Nat} {tq t1 t2 t3 : Tok} {h : Heap} {m : Str → Option Value} (F : Fr gc L h m)
    (N : News gc L h [(lt, listOf #[] 0), (lh, listOf #[.ref a0] 0), (a0, seqObj "tuple" #[.int 0 t1, .str (txt []) t2, .str (txt (quote [])) t3] 0)])
    (m1 : m (Str.ofString "heap") = some (.ref lh)) (m2 : m (Str.ofString "told") = some (.ref lt)) (m3 : m (Str.ofString "quoted") = some (.str (txt Qd) tq)) (m4 : m (Str.ofString "signs") = some (.ref ls)) :
    TI gc L ls lh lt Qd sg tq h m [.ref a0] [] 0 0 [(a0, seqObj "tuple" #[.int 0 t1, .str (txt []) t2, .str (txt (quote [])) t3] 0)] (fun _ => []) (fun _ => []) := by
  have z2 := N _ (.head _)
  have z1 := N _ (.tail _ (.head _))
  have z3 := N _ (.tail _ (.tail _ (.head _)))
  refine ⟨F, ?_, ?_, ?_, m1, m2, m3, m4, ?_, (fun _ h => nomatch h), ?_, Inv.start, ?_, ?_⟩
  · intro p hp
    rcases List.mem_cons.mp hp with rfl | hp
    · exact z1
    · rcases List.mem_cons.mp hp with rfl | hp
      · exact z2
      · exact N p (.tail _ (.tail _ hp))
  · rintro rfl
    have := z1.1.symm.trans z2.1
    simp at this
  · intro p hp
    rw [List.mem_singleton.mp hp]
    refine ⟨?_, ?_⟩
    · rintro rfl
      have := z1.1.symm.trans z3.1
      simp at this
    · rintro rfl
      have := z2.1.symm.trans z3.1
      simp at this
  · intro v hv
    rw [List.mem_singleton.mp hv]
    exact ⟨a0, t1, t2, t3, 0, rfl, .head _⟩
  · intro i h0 hi
    simp at hi; omega
  · intro v _; simp
  · simp [Mine.mass]

/-- the outer loop's invariant -/
def ToldI (s : Shared) (L ls : Addr) (Qd sg : List Nat) (tq : Tok) (n : Nat) (s' : Shared) : Prop :=
  ∃ h tk m lh lt vs ts c c2 tups tof oof, s' = { s with heap := h, toks := tk } ∧ TI s.heap L ls lh lt Qd sg tq h m vs ts c c2 tups tof oof ∧ n = mass Qd (vs.map tof)

theorem wgt12 {j : Nat} (h : j ≤ 12) : wgt j ≤ 797161 := by
  have : ∀ i, i < 13 → wgt i ≤ 797161 := by decide
  exact this j (by omega)

theorem told_ct {w : World} {A : Around} {s : Shared} {Qd sg : List Nat} {tq : Tok} {ls : Addr} {sv : List Value} {cs : Nat} {Q : Value → Shared → Prop}
  (am : Amb w s.heap) (hh : A.handled = none) (hroom : A.depth + 5 < recursionLimit) (hA : A.units + 60 < cLine) (hQd : Qd.length ≤ 12) (hsg : sg.Nodup)
  (hls : s.heap.get? ls = some (listOf sv.toArray cs)) (hsv : StrsAre sv (sg.map fun c => txt [c]))
  (hQ : ∀ h' tk' lt ts c2 tups oof, (∀ b o, s.heap.get? b = some o → h'.get? b = some o) → h'.get? lt = some (listOf ts.toArray c2) → s.heap.get? lt = none → (∀ p ∈ tups, h'.get? p.1 = some p.2 ∧ s.heap.get? p.1 = none) → LedO tups oof ts →
    (ts.map oof).Pairwise (fun a b => ltT a b = true) → (∀ t, t ∈ ts.map oof ↔ Acc Qd sg t) → ts.length ≤ 797161 → Q (.ref lt) { s with heap := h', toks := tk' }) :
  wpAny (model prog w) A (call (.ref 95) [.str (txt Qd) tq, .ref ls]) Q NoE s := by
  refine enter (binds := [(Str.ofString "quoted", .str (txt Qd) tq), (Str.ofString "signs", .ref ls)]) am (by rfl) (by rfl) (by omega) (by rfl) (locs rfl) ?_ rfl rfl rfl (by decide)
  intro h₁ hns hk
  have F : Fr s.heap s.heap.objs.size h₁ _ := ⟨hns, hk, Nat.le_refl _⟩
  have N : News s.heap s.heap.objs.size h₁ [] := fun _ h => nomatch h
  clear hns hk
  generalize s.heap.objs.size = L at *
  repeat walk_at "mw"
  rw [show Str.ofString "" = txt [] by decide +kernel]
  refine quotedata_ct (s := ⟨h₁, _, _, _, _⟩) (x := []) (am.keeps F.keep) (by show A.depth + 1 < recursionLimit; omega) (by simp) ?_
  intro h2 tk2 tkq k2
  obtain ⟨F2, N2⟩ := back0 F N k2
  clear F N
  repeat walk_at "mw"
  rename Fr _ _ _ _ => F3
  rename News _ _ _ _ => N3
  dsimp only at N3
  refine while_mine (ToldI s L ls Qd sg tq) ?_ (mass Qd [[]])
    ⟨_, _, _, _, _, _, _, _, _, _, _, _, rfl, TI.start F3 N3 (by walk_at "mlk") (by walk_at "mlk") (by walk_at "mlk") (by walk_at "mlk"), rfl⟩
  clear F3 N3
  rintro n s' ⟨h, tk, m, lh, lt, vs, ts, c, c2, tups, tof, oof, rfl, T, rfl⟩
  obtain ⟨F, N, ne, nt, m1, m2, m3, m4, LT, LO, hp, inv, len, hmass⟩ := T
  have hml := mass_len Qd (vs.map tof)
  rw [List.length_map] at hml
  have hw12 := wgt12 hQd
  repeat walk_at "mw"
  refine wpAny_truthy_list (isL (N _ (.head _)).1) (by simp; omega) ?_
  by_cases hvs : vs = []
  · subst hvs
    rw [if_neg (by simp)]
    repeat walk_at "mw"
    refine hQ h _ lt ts c2 tups oof F.keep (N _ (.tail _ (.head _))).1 (N _ (.tail _ (.head _))).2.2 (fun p hp => ⟨(N p (.tail _ (.tail _ hp))).1, (N p (.tail _ (.tail _ hp))).2.2⟩) LO inv.order inv.done (by omega)
  · rw [if_pos (by simpa using hvs)]
    repeat walk_at "mw"
    have nt' : ∀ p ∈ (lt, listOf ts.toArray c2) :: tups, p.1 ≠ lh := by
      intro p hp'
      rcases List.mem_cons.mp hp' with rfl | hp'
      · exact fun q => ne q.symm
      · exact (nt p hp').1
    refine pop_at (s := ⟨h, _, _, _, _⟩) (tof := tof) am F N nt' (fun v hv => by obtain ⟨a, t1, t2, t3, cc, e, hm⟩ := LT v hv; exact ⟨a, t1, t2, t3, cc, e, .tail _ hm⟩) hp hvs
      (by show A.depth + 1 + 2 < recursionLimit; omega) (by show A.units + 3 + 30 < cLine; omega) (by omega) ?_
    intro u vs' c' h3 tk3 F3 N3 perm hp' hmin
    have hu : u ∈ vs := perm.mem_iff.mp (.head _)
    obtain ⟨a, t1, t2, t3, cc, e, hm⟩ := LT u hu
    have inv1 : Inv Qd sg (tof u :: vs'.map tof) (ts.map oof) := inv.perm (perm.symm.map tof)
    have hmass1 : mass Qd (vs.map tof) = wgt (Qd.length - (tof u).length) + mass Qd (vs'.map tof) := by
      rw [← mass_cons, ← mass_perm Qd (perm.map tof)]; rfl
    have hlenu := len u hu
    generalize htu : tof u = T at *
    subst e
    refine unpackN_ (s := ⟨h3, _, _, _, _⟩) F3 N3 (News.isTup N3 (.tail _ (.tail _ hm))) hh rfl rfl ?_
    intro h4 F4 N4
    clear F3 N3 F N
    repeat walk_at "mw"
    rename Fr _ _ _ _ => F5
    rename News _ _ _ _ => N5
    clear F4 N4
    have hmass2 := kids_mass Qd sg hsg T
    have hmin' : ∀ x ∈ vs'.map tof, ltT x T = false := by
      intro x hx
      obtain ⟨v, hv, rfl⟩ := List.mem_map.mp hx
      exact hmin v (perm.mem_iff.mp (.tail _ hv))
    have tail : ∀ (h6 : Heap) (tk6 : Nat) (m6 : Str → Option Value) (ts' : List Value) (c2' : Nat) (tups' : List (Addr × Obj)) (oof' : Value → List Nat), Fr s.heap L h6 m6 →
        News s.heap L h6 ((lh, listOf vs'.toArray c') :: (lt, listOf ts'.toArray c2') :: tups') → (∀ p ∈ tups', p.1 ≠ lh ∧ p.1 ≠ lt) →
        m6 (Str.ofString "heap") = some (.ref lh) → m6 (Str.ofString "told") = some (.ref lt) → m6 (Str.ofString "quoted") = some (.str (txt Qd) tq) → m6 (Str.ofString "signs") = some (.ref ls) →
        m6 (Str.ofString "size") = some (.int T.length t1) → m6 (Str.ofString "text") = some (.str (txt T) t2) →
        LedT tups' tof vs' → LedO tups' oof' ts' → ts'.map oof' = ts.map oof ++ (if quote T = Qd then [T] else []) → ∀ (QQ : Flow → Shared → Prop),
        (∀ h tk, Again (ToldI s L ls Qd sg tq) (mass Qd (vs.map tof)) { s with heap := h, toks := tk } → QQ .next { s with heap := h, toks := tk }) →
        wpAny (model prog w) (A.deeper (toldEnv L)) (exec toldFor (toldEnv L)) QQ NoE { s with heap := h6, toks := tk6 } := by
      intro h6 tk6 m6 ts' c2' tups' oof' F6 N6 nt6 n1 n2 n3 n4 n5 n6 LT6 LO6 hts QQ hQQ
      refine told_for (s := ⟨h6, _, _, _, _⟩) (gs := s) (H := vs'.map tof) am hh (by show A.depth + 1 + 4 < recursionLimit; omega) (by show A.units + 3 + 50 < cLine; omega) hQd hlenu hsg (by rw [mass_append]; omega) hls hsv ne
        F6 N6 ⟨rfl, nt6, n1, n2, n3, n4, n5, n6, LT6, LO6, hp', by unfold kids; simp, fun v hv => len v (perm.mem_iff.mp (.tail _ hv))⟩ ?_
      intro h7 tk7 m7 rest7 vs7 c7 tups7 tof7 F7 N7 X
      obtain ⟨eq, nt7, o1, o2, o3, o4, o5, o6, LT7, LO7, hp7, perm7, len7⟩ := X
      subst eq
      refine hQQ h7 tk7 ⟨mass Qd (vs7.map tof7), ?_, h7, tk7, m7, lh, lt, vs7, ts', c7, c2', tups7, tof7, oof', rfl, ⟨F7, N7, ne, nt7, o1, o2, o3, o4, LT7, LO7, hp7, ?_, len7, ?_⟩, rfl⟩
      · rw [mass_perm Qd perm7, mass_append]; omega
      · rw [hts]
        exact (inv1.turn hsg hmin').perm perm7.symm
      · have hl := congrArg List.length hts
        rw [List.length_map, List.length_append, List.length_map] at hl
        have : (if quote T = Qd then [T] else []).length ≤ 1 := by split <;> simp
        rw [mass_perm Qd perm7, mass_append]; omega
    have hbeq : (txt (quote T) == txt Qd) = decide (quote T = Qd) := by
      by_cases e : quote T = Qd
      · rw [e, decide_eq_true rfl]; simp
      · rw [decide_eq_false e, beq_eq_false_iff_ne]
        exact fun q => e (txt_inj q)
    rw [hbeq]
    by_cases hacc : quote T = Qd
    · rw [if_pos (by simpa using hacc)]
      repeat walk_at "mw"
      rename_i h5
      have hfr : ∀ p ∈ (lh, listOf vs'.toArray c') :: (lt, listOf ts.toArray c2) :: tups, p.1 ≠ h5.objs.size := fun p hp q => by
        have := Heap.lt_size (N5 p hp).1
        rw [q] at this
        exact absurd this (Nat.lt_irrefl _)
      refine newTuple_N (s := ⟨h5, _, _, _, _⟩) F5 N5 ?_ (by rw [sizeLine_eq]; simp)
      intro h6 F6 N6
      dsimp only at N6
      generalize h5.objs.size = a' at *
      repeat walk_at "mw"
      have hne' : ∀ v ∈ ts, v ≠ .ref a' := by
        rintro v hv rfl
        obtain ⟨b, _, _, _, e, hm⟩ := LO _ hv
        cases e
        exact hfr _ (.tail _ (.tail _ hm)) rfl
      obtain ⟨oof', ho1, ho2⟩ : ∃ oof' : Value → List Nat, oof' (.ref a') = T ∧ ∀ v ∈ ts, oof' v = oof v :=
        ⟨fun v => if v = Value.ref a' then T else oof v, if_pos rfl, fun v hv => if_neg (hne' v hv)⟩
      refine append_K (s := ⟨h6, _, _, _, _⟩) F6 N6 (Upd.tail (fun q => hfr _ (.tail _ (.head _)) q.symm) (Upd.tail ne (Upd.head fun p hp => (nt p hp).2))) ?_ (by rw [List.size_toArray, sizeLine_eq]; omega)
      intro h7 F7 N7
      rw [show ts.toArray.push (Value.ref a') = (ts ++ [Value.ref a']).toArray by simp] at N7
      clear F5 N5 F6 N6
      repeat walk_at "mw"
      refine tail _ _ _ (ts ++ [Value.ref a']) (c2 + 1) ((a', seqObj "tuple" #[.int T.length t1, .str (txt T) t2] 0) :: tups) oof' F7 ?_ ?_ (by walk_at "mlk") (by walk_at "mlk") (by walk_at "mlk") (by walk_at "mlk") (by walk_at "mlk") (by walk_at "mlk")
        (fun v hv => by obtain ⟨b, u1, u2, u3, cc, e, hm⟩ := LT v (perm.mem_iff.mp (.tail _ hv)); exact ⟨b, u1, u2, u3, cc, e, .tail _ hm⟩) ?_ ?_ _ ?_
      · intro p hp
        refine N7 p ?_
        simp only [List.mem_cons] at hp ⊢
        rcases hp with h | h | h | h <;> simp [h]
      · intro p hp
        rcases List.mem_cons.mp hp with rfl | hp
        · exact ⟨fun q => hfr _ (.head _) q.symm, fun q => hfr _ (.tail _ (.head _)) q.symm⟩
        · exact nt p hp
      · intro v hv
        rcases List.mem_append.mp hv with hv | hv
        · obtain ⟨b, u1, u2, cc, e, hm⟩ := LO v hv
          rw [ho2 v hv]
          exact ⟨b, u1, u2, cc, e, .tail _ hm⟩
        · rw [List.mem_singleton.mp hv]
          refine ⟨a', t1, t2, 0, rfl, ?_⟩
          rw [ho1]; exact .head _
      · rw [List.map_append, List.map_singleton, ho1, if_pos hacc]
        congr 1
        exact List.map_congr_left ho2
      · intro h tk hag
        repeat walk_at "mw"
        exact hag
    · rw [if_neg (by simpa using hacc)]
      repeat walk_at "mw"
      refine tail _ _ _ ts c2 tups oof F5 N5 nt (by walk_at "mlk") (by walk_at "mlk") (by walk_at "mlk") (by walk_at "mlk") (by walk_at "mlk") (by walk_at "mlk") (fun v hv => LT v (perm.mem_iff.mp (.tail _ hv))) LO (by rw [if_neg hacc, List.append_nil]) _ ?_
      intro h tk hag
      repeat walk_at "mw"
      exact hag
end Mine
end

section
open PySem PySem.W PyProof.Rows PySem.Calls
namespace Mine
set_option maxRecDepth 100000
set_option maxHeartbeats 4000000

local macro_rules | `(tactic| walk_at "pad 0") => `(tactic| fail)
local macro_rules | `(tactic| walk_at "pad 1") => `(tactic| fail)
local macro_rules | `(tactic| walk_at "pad 2") => `(tactic| fail)
local macro_rules | `(tactic| walk_at "pad 3") => `(tactic| fail)
local macro_rules | `(tactic| walk_at "pad 4") => `(tactic| fail)
local macro_rules | `(tactic| walk_at "pad 5") => `(tactic| fail)
local macro_rules | `(tactic| walk_at "mlk") => `(tactic| first | assumption | exact if_pos rfl | (with_unfolding_all exact rfl) | (refine Eq.trans (if_neg (by decide +kernel)) ?_; walk_at "mlk"))
local macro_rules | `(tactic| walk_at "eval Name") => `(tactic| ((with_reducible show wpAny _ _ (eval (Expr.Name _ _) (envOf _ _ _ _ _)) _ _ _); first
  | (refine ld (by assumption) (by walk_at "mlk") ?_ (by kernel_rfl!) (by kernel_rfl!) (by decide +kernel))
  | (refine gname (by assumption) (by assumption) (by rfl) ?_ (by kernel_rfl!) (by kernel_rfl!) (by decide +kernel))
  | (refine bname (by assumption) (by assumption) (by rfl) (by first | exact boot_len | exact boot_max | exact boot_sorted | exact boot_chr) (by decide +kernel) ?_ (by kernel_rfl!) (by kernel_rfl!) (by decide +kernel))))
local macro_rules | `(tactic| walk_at "callWith ref") => `(tactic| ((with_reducible show wpAny _ _ (callWith _ (Value.ref _) _ (backTo _ (starEach (_ :: _) _)) []) _ _ _); refine callWith_K (Amb.X (by assumption)) (by rfl) ?_))
local macro_rules | `(tactic| walk_at "mw") => `(tactic| first
  | ((with_reducible show (Frag.In _ _ ∧ _)); refine ⟨Amb.X (Amb.keeps (by assumption) (Fr.keep (by assumption))), ?_⟩; try dsimp only [List.nil_append, List.cons_append])
  | ((fail_if_success (with_reducible show wpAny _ _ (exec (Stmt.While _ _ _ _) _) _ _ _)); (fail_if_success (with_reducible show wpAny _ _ (exec (Stmt.For _ _ _ _ _) _) _ _ _)); (fail_if_success (with_reducible show wpAny _ _ (call (Value.ref _) _) _ _ _)); (fail_if_success (with_reducible show wpAny _ _ (call (Value.builtin "len") _) _ _ _)); (fail_if_success (with_reducible show wpAny _ _ (call (Value.builtin "list.append") _) _ _ _)); (fail_if_success (with_reducible show (ite _ _ _ : Prop))); walk1; (try dsimp only)))

/-- no sign below the blank, and none that is no sign -/
def Big (r : List Nat) : Prop := ∀ c ∈ r, 32 ≤ c ∧ c < 1114112
theorem Big.plain {r : List Nat} (h : Big r) : Plain r := fun c hc => by
  have := h c hc
  unfold isNl
  rw [Bool.or_eq_false_iff, beq_eq_false_iff_ne, beq_eq_false_iff_ne]
  omega
/-- the rows that a list of numbers can make -/
structure RowsOk (n : Nat) (rows : List (List Nat)) : Prop where
  ne : rows ≠ []
  few : rows.length ≤ 3
  big : ∀ r ∈ rows, Big r
  size : (rows.map List.length).sum + rows.length = n + 1

theorem strsAre_split : ∀ {rv : List Value} {ys : List Str} {y : Str}, StrsAre rv (ys ++ [y]) → ∃ us tr, rv = us ++ [.str y tr] ∧ StrsAre us ys
  | _, [], _, .cons _ t .nil => ⟨[], t, rfl, .nil⟩
  | _, _ :: ys, _, .cons z t h => by
    obtain ⟨us, tr, e, h'⟩ := strsAre_split h
    exact ⟨.str z t :: us, tr, by rw [e]; rfl, .cons z t h'⟩

section
variable {w : World} {A : Around} {E : Value → Shared → Prop} {s : Shared} {gc : Heap} {L I0 lr : Addr} {it : Obj} {m : Str → Option Value} {us : List Value} {x v : Value} {c : Nat} {t : Tok}
theorem get_last {Q : Value → Shared → Prop} (N : News gc L s.heap [(I0, it), (lr, listOf (us ++ [x]).toArray c)]) (h : Q x s) : wpAny (model prog w) A (getItem (.ref lr) (.int (-1) t)) Q E s := by
  have e : ((-1 : Int) + ((us ++ [x]).toArray.size : Nat)).toNat = us.length := by
    rw [List.size_toArray, List.length_append, List.length_singleton]; omega
  refine wpAny_getItem_list_neg (isL (N _ (.tail _ (.head _))).1) (by decide) (by rw [List.size_toArray, List.length_append, List.length_singleton]; omega) (by decide) ?_ h
  rw [e]; simp
theorem set_last {Q : Unit → Shared → Prop} (F : Fr gc L s.heap m) (N : News gc L s.heap [(I0, it), (lr, listOf (us ++ [x]).toArray c)]) (hne : I0 ≠ lr)
    (h : ∀ h', Fr gc L h' m → News gc L h' [(I0, it), (lr, listOf (us ++ [v]).toArray c)] → Q () { s with heap := h' }) : wpAny (model prog w) A (setItem (.ref lr) (.int (-1) t) v) Q E s := by
  have z := N _ (.tail _ (.head _))
  have e : ((-1 : Int) + ((us ++ [x]).toArray.size : Nat)).toNat = us.length := by
    rw [List.size_toArray, List.length_append, List.length_singleton]; omega
  refine ki_setBack z.1 (by decide) (by rw [List.size_toArray, List.length_append, List.length_singleton]; omega) (by decide) (h _ (F.change (Heap.SameBut.update ..) z.2.1 z.2.2) ?_)
  refine ki_turn (pre := [(I0, it)]) (post := []) _ N (fun p hp => by rw [List.mem_singleton.mp hp]; exact hne) (fun _ h => nomatch h) ?_ ?_
  · apply Array.toList_inj.mp
    rw [e]
    simp
  · simp
end

theorem rows_ct {w : World} {A : Around} {s : Shared} {l : Addr} {vs : List Value} {ns : List Int} {c : Nat} {Q : Value → Shared → Prop}
  (am : Amb w s.heap) (hh : A.handled = none) (hroom : A.depth < recursionLimit) (hA : A.units + 60 < cLine)
  (hl : s.heap.get? l = some (listOf vs.toArray c)) (hi : IntsAre vs ns) (hn : ns.length ≤ 5)
  (hQ : ∀ h' tk' lr rv c' rows, (∀ b o, s.heap.get? b = some o → h'.get? b = some o) → h'.get? lr = some (listOf rv.toArray c') → s.heap.get? lr = none → StrsAre rv (rows.map txt) → RowsOk ns.length rows → Q (.ref lr) { s with heap := h', toks := tk' }) :
  wpAny (model prog w) A (call (.ref 83) [.ref l]) Q NoE s := by
  refine enter (binds := [(Str.ofString "numbers", .ref l)]) am (by rfl) (by rfl) (by omega) (by rfl) (locs rfl) ?_ rfl rfl rfl (by decide)
  intro h₁ hns hk
  have F : Fr s.heap s.heap.objs.size h₁ _ := ⟨hns, hk, Nat.le_refl _⟩
  have N : News s.heap s.heap.objs.size h₁ [] := fun _ h => nomatch h
  clear hns hk
  generalize s.heap.objs.size = L at *
  repeat walk_at "mw"
  rename Fr _ _ _ _ => F2
  rename News _ _ _ _ => N2
  dsimp only at N2
  generalize h₁.objs.size = lr at *
  rw [show Str.ofString "" = txt [] by decide +kernel] at N2
  have hvl : vs.length = ns.length := hi.length
  refine for_list (l := l) (vs := vs) (fun i m' rest' => ∃ rv c' rows, rest' = [(lr, listOf rv.toArray c')] ∧ m' (Str.ofString "rows") = some (.ref lr) ∧ m' (Str.ofString "numbers") = some (.ref l) ∧ StrsAre rv (rows.map txt) ∧ RowsOk i rows) hh F2 N2 ?hev ?hl
    ⟨[_], 0, [[]], rfl, by walk_at "mlk", by walk_at "mlk", .cons _ _ .nil, ⟨by simp, by simp, by simp [Big], by simp⟩⟩ ?turn ?done rfl (by rfl)
  case hev =>
    intro Q' hq
    walk_at "eval Name"
    exact hq
  case hl =>
    rintro i m' rest' h ⟨_, _, _, _⟩ F' N'
    exact isL (F'.keep _ _ hl)
  case done =>
    rintro h tk m' rest' ⟨rv, c', rows, rfl, m1, m2, hrv, ok⟩ F' N'
    rw [hvl] at ok
    repeat walk_at "mw"
    exact hQ h _ lr rv c' rows F'.keep (N' _ (.head _)).1 (N' _ (.head _)).2.2 hrv ok
  case turn =>
    rintro i v h tk m' rest' I0 it hv ⟨rv, c', rows, rfl, m1, m2, hrv, ok⟩ hI F' N'
    clear F2 N2 F N
    have hil : i < ns.length := by rw [← hvl]; exact (List.getElem?_eq_some_iff.mp hv).1
    obtain ⟨t, hx⟩ := hi.get i ns[i] (by simp [hil])
    rw [hx] at hv
    cases hv
    generalize ns[i] = n at *
    have hrl : rv.length = rows.length := by have := hrv.len_eq; simpa using this
    have hne : I0 ≠ lr := fun q => hI _ (.head _) q.symm
    obtain ⟨r0, hr0, hplain, hsize⟩ := ok
    obtain ⟨rs, r, rfl⟩ : ∃ rs r, rows = rs ++ [r] := ⟨rows.dropLast, rows.getLast r0, (List.dropLast_concat_getLast r0).symm⟩
    obtain ⟨us, tr, rfl, hus⟩ : ∃ us tr, rv = us ++ [.str (txt r) tr] ∧ StrsAre us (rs.map txt) := by
      rw [List.map_append] at hrv
      exact strsAre_split hrv
    repeat walk_at "mw"
    rename Fr _ _ _ _ => F3
    rename News _ _ _ _ => N3
    have grow : ∀ (y : Nat) (h' : Heap) (tk' : Nat) (m3 : Str → Option Value) (t' : Tok), 32 ≤ y ∧ y < 1114112 → m3 (Str.ofString "rows") = some (.ref lr) → m3 (Str.ofString "numbers") = some (.ref l) → Fr s.heap L h' m3 →
        News s.heap L h' [(I0, it), (lr, listOf (us ++ [Value.str (txt (r ++ [y])) t']).toArray c')] →
        NextJ ⟨h', s.gens, s.drawn, tk', s.os⟩ s.heap L I0 it (fun i m' rest' => ∃ rv c' rows, rest' = [(lr, listOf rv.toArray c')] ∧ m' (Str.ofString "rows") = some (.ref lr) ∧ m' (Str.ofString "numbers") = some (.ref l) ∧ StrsAre rv (rows.map txt) ∧ RowsOk i rows) i { s with heap := h', toks := tk' } := by
      intro y h' tk' m3 t' hy n1 n2 F' N'
      refine ⟨h', tk', m3, _, rfl, F', N', ?_, _, c', rs ++ [r ++ [y]], rfl, n1, n2, ?_, ?_⟩
      · intro p hp; rw [List.mem_singleton.mp hp]; exact fun q => hne q.symm
      · rw [List.map_append]; exact StrsAre.append' hus (.cons _ _ .nil)
      · refine ⟨by simp, by simpa using hr0, ?_, ?_⟩
        · intro x hx
          rcases List.mem_append.mp hx with hx | hx
          · exact hplain x (List.mem_append_left _ hx)
          · rw [List.mem_singleton.mp hx]
            intro z hz
            rcases List.mem_append.mp hz with hz | hz
            · exact hplain r (by simp) z hz
            · rw [List.mem_singleton.mp hz]; exact hy
        · simp only [List.map_append, List.map_cons, List.map_nil, List.sum_append, List.sum_cons, List.sum_nil, List.length_append, List.length_cons, List.length_nil] at hsize ⊢
          omega
    have hfr := hplain r (by simp)
    have hrlen : r.length ≤ 6 := by
      simp only [List.map_append, List.map_cons, List.map_nil, List.sum_append, List.sum_cons, List.sum_nil] at hsize
      omega
    by_cases h0 : n.fmod 4 = 0
    · rw [if_pos (by simpa using h0)]
      repeat walk_at "mw"
      refine len_list (isL (N3 _ (.tail _ (.head _))).1) (by rw [List.size_toArray, hrl]; omega) ?_
      rw [List.size_toArray, hrl]
      repeat walk_at "mw"
      by_cases h3 : (rs ++ [r]).length < 3
      · rw [if_pos (by rw [decide_eq_true_eq]; omega)]
        repeat walk_at "mw"
        rw [if_pos (by rfl)]
        repeat walk_at "mw"
        rename_i h4
        refine append_K (s := ⟨h4, _, _, _, _⟩) F3 N3 (Upd.tail hne (Upd.head fun _ h => nomatch h)) ?_ (by rw [List.size_toArray, sizeLine_eq, hrl]; omega)
        intro h5 F5 N5
        rw [List.push_toArray, show Str.ofString "" = txt [] by decide +kernel] at N5
        repeat walk_at "mw"
        refine ⟨h5, _, _, _, rfl, F5, N5, ?_, _, _, rs ++ [r] ++ [[]], rfl, by walk_at "mlk", by walk_at "mlk", ?_, ?_⟩
        · intro p hp; rw [List.mem_singleton.mp hp]; exact fun q => hne q.symm
        · rw [List.map_append]; exact StrsAre.append' hrv (.cons _ _ .nil)
        · refine ⟨by simp, by simp at h3 ⊢; omega, ?_, ?_⟩
          · intro x hx
            rcases List.mem_append.mp hx with hx | hx
            · exact hplain x hx
            · rw [List.mem_singleton.mp hx]; intro z hz; cases hz
          · simp only [List.map_append, List.map_cons, List.map_nil, List.sum_append, List.sum_cons, List.sum_nil, List.length_append, List.length_cons, List.length_nil] at hsize ⊢
            omega
      · rw [if_neg (by rw [decide_eq_true_eq]; omega)]
        repeat walk_at "mw"
        rw [if_neg (by simp)]
        repeat walk_at "mw"
        rw [if_neg (by simp; omega)]
        repeat walk_at "mw"
        refine get_last N3 ?_
        repeat walk_at "mw"
        rw [show Str.ofString "." = txt [46] by decide +kernel]
        refine PyProof.Rows.iadd_str ?_ (by rw [txt_len, txt_len, sizeLine_eq]; simp; omega)
        intro t5 tk5
        rw [txt_app]
        refine set_last F3 N3 hne ?_
        intro h5 F5 N5
        repeat walk_at "mw"
        exact grow 46 _ _ _ _ (by decide) (by walk_at "mlk") (by walk_at "mlk") F5 N5
    · rw [if_neg (by simpa using h0)]
      repeat walk_at "mw"
      rw [if_neg (by simp)]
      repeat walk_at "mw"
      by_cases h3 : n.fmod 4 = 3
      · rw [if_pos (by simpa using h3)]
        repeat walk_at "mw"
        refine get_last N3 ?_
        repeat walk_at "mw"
        have hb1 := Int.fmod_nonneg_of_pos (n.fdiv 4) (show (0 : Int) < 55000 by decide)
        have hb2 := Int.fmod_lt_of_pos (n.fdiv 4) (show (0 : Int) < 55000 by decide)
        refine chr_of_range (by omega) (by omega) ?_
        generalize (n.fdiv 4).fmod 55000 = k at *
        rw [show (⟨#[(32 + k).toNat]⟩ : Str) = txt [(32 + k).toNat] from rfl]
        refine PyProof.Rows.iadd_str ?_ (by rw [txt_len, txt_len, sizeLine_eq]; simp; omega)
        intro t5 tk5
        rw [txt_app]
        refine set_last F3 N3 hne ?_
        intro h5 F5 N5
        repeat walk_at "mw"
        exact grow (32 + k).toNat _ _ _ _ (by omega) (by walk_at "mlk") (by walk_at "mlk") F5 N5
      · rw [if_neg (by simpa using h3)]
        repeat walk_at "mw"
        refine get_last N3 ?_
        repeat walk_at "mw"
        rw [show Str.ofString "." = txt [46] by decide +kernel]
        refine PyProof.Rows.iadd_str ?_ (by rw [txt_len, txt_len, sizeLine_eq]; simp; omega)
        intro t5 tk5
        rw [txt_app]
        refine set_last F3 N3 hne ?_
        intro h5 F5 N5
        repeat walk_at "mw"
        exact grow 46 _ _ _ _ (by decide) (by walk_at "mlk") (by walk_at "mlk") F5 N5
end Mine
end

section
open PySem PySem.W PyProof.Rows PySem.Calls
namespace Mine
set_option maxRecDepth 100000
set_option maxHeartbeats 1000000

/-- what a loop's head asks behind the iterator's making -/
abbrev LoopAt (w : World) (A : Around) (env : Env) (x : Str) (px : Pos) (body : List Stmt) (Q : Flow → Shared → Prop) (it : Value) (s₂ : Shared) : Prop :=
  ∃ (I : Nat → Shared → Prop) (n : Nat), I n s₂ ∧ ∀ n s, I n s → wpAny (model prog w) A (pyNext it) (fun r s₁ => match r with
    | none => Q .next s₁
    | some v => wpAny (model prog w) A (assign (.Name x px) env v) (fun _ s₂ => wpAny (model prog w) A (execs body env) (fun f s₃ => match f with
      | .next | .cont => Again I n s₃
      | .brk => Q .next s₃
      | .ret v => Q (.ret v) s₃) NoE s₂) NoE s₁) NoE s

section
variable {w : World} {A : Around} {s : Shared} {gc : Heap} {L : Addr} {m : Str → Option Value} {rest : List (Addr × Obj)} {name : Str} {scope : Scope} {a : Addr} {cd : Value}

theorem iter_gen {x : Str} {px : Pos} {body : List Stmt} {Q : Flow → Shared → Prop} {v : Value} {n : Nat} (P : Nat → Value → Prop) (ItP : Nat → Obj → Prop) (itObj : Obj) (J : Nat → (Str → Option Value) → List (Addr × Obj) → Prop)
    (F : Fr gc L s.heap m) (N : News gc L s.heap rest)
    (hpy : ∀ Q' : Value → Shared → Prop, (∀ tk, Q' (.ref s.heap.objs.size) { s with heap := s.heap.push itObj, toks := tk }) → wpAny (model prog w) A (pyIter v) Q' NoE s)
    (hi0 : ItP 0 itObj) (hfree : itObj.isFreed = false)
    (item : ∀ i h tk it m' rest' (Q' : Option Value → Shared → Prop), i < n → J i m' rest' → Fr gc L h m' → News gc L h rest' → h.get? s.heap.objs.size = some it → ItP i it →
      (∀ v it' h' tk', P i v → ItP (i + 1) it' → h'.get? s.heap.objs.size = some it' → (∀ b o, b ≠ s.heap.objs.size → h.get? b = some o → h'.get? b = some o) → Q' (some v) { s with heap := h', toks := tk' }) →
      wpAny (model prog w) A (pyNext (.ref s.heap.objs.size)) Q' NoE { s with heap := h, toks := tk })
    (stop : ∀ h tk it m' rest' (Q' : Option Value → Shared → Prop), J n m' rest' → Fr gc L h m' → News gc L h rest' → h.get? s.heap.objs.size = some it → ItP n it →
      (∀ h' tk', (∀ b o, b ≠ s.heap.objs.size → h.get? b = some o → h'.get? b = some o) → Q' none { s with heap := h', toks := tk' }) →
      wpAny (model prog w) A (pyNext (.ref s.heap.objs.size)) Q' NoE { s with heap := h, toks := tk })
    (hJ : J 0 m rest)
    (turn : ∀ i v h tk m' rest' I0 it, i < n → P i v → J i m' rest' → (∀ p ∈ rest', p.1 ≠ I0) → Fr gc L h (fun y => if y = x then some v else m' y) → News gc L h ((I0, it) :: rest') →
      wpAny (model prog w) A (execs body (envOf name scope L a cd)) (fun f s₃ => match f with
        | .next | .cont => NextJ s gc L I0 it J i s₃
        | .brk => Q .next s₃
        | .ret v => Q (.ret v) s₃) NoE { s with heap := h, toks := tk })
    (done : ∀ h tk m' rest', J n m' rest' → Fr gc L h m' → News gc L h rest' → Q .next { s with heap := h, toks := tk })
    (hk : scope.kind = .function) (hx : (envOf name scope L a cd).kindOf x = some .local) :
    wpAny (model prog w) A (pyIter v) (LoopAt w A (envOf name scope L a cd) x px body Q) NoE s := by
  refine hpy _ fun tk0 => ?_
  generalize hI : s.heap.objs.size = I0 at *
  have keep0 : ∀ b o, s.heap.get? b = some o → (s.heap.push itObj).get? b = some o := fun b o e => Heap.get?_push_of_some _ e
  have hI0 : (s.heap.push itObj).get? I0 = some itObj := by
    rw [← hI]; exact Heap.get?_push_size _ hfree
  have hg0 : gc.get? I0 = none := by
    cases q : gc.get? I0 with
    | none => rfl
    | some o => have := Heap.lt_size (F.keep _ _ q); rw [hI] at this; exact absurd this (Nat.lt_irrefl _)
  have hIL : I0 ≠ L := by have := F.ns.lt; rw [hI] at this; exact Nat.ne_of_gt this
  have hr0 : ∀ p ∈ rest, p.1 ≠ I0 := fun p hp e => by have := Heap.lt_size (N p hp).1; rw [hI, e] at this; exact absurd this (Nat.lt_irrefl _)
  obtain ⟨F0, N0⟩ := back0 F N keep0
  refine ⟨fun k s' => ∃ i h tk m' rest' it, k = n + 1 - i ∧ i ≤ n ∧ s' = { s with heap := h, toks := tk } ∧ Fr gc L h m' ∧ News gc L h ((I0, it) :: rest') ∧ (∀ p ∈ rest', p.1 ≠ I0) ∧ ItP i it ∧ J i m' rest',
    n + 1, ⟨0, _, tk0, m, rest, itObj, rfl, Nat.zero_le _, rfl, F0, ?_, hr0, hi0, hJ⟩, ?_⟩
  · intro p hp
    rcases List.mem_cons.mp hp with rfl | hp
    · exact ⟨hI0, hIL, hg0⟩
    · exact N0 p hp
  rintro k s' ⟨i, h, tk, m', rest', it, rfl, hi, rfl, F', N', hr', hit, hJ'⟩
  have hz := N' _ (.head _)
  have N1 : News gc L h rest' := fun p hp => N' p (.tail _ hp)
  have move : ∀ h', (∀ b o, b ≠ I0 → h.get? b = some o → h'.get? b = some o) → Fr gc L h' m' ∧ News gc L h' rest' := by
    intro h' hk2
    obtain ⟨oL, es, ep, hoL, r⟩ := F'.ns
    refine ⟨⟨⟨oL, es, ep, hk2 _ _ (fun q => hIL q.symm) hoL, r⟩, fun b x q => hk2 _ _ ?_ (F'.keep b x q), F'.above⟩, fun p hp => ⟨hk2 _ _ (hr' p hp) (N' p (.tail _ hp)).1, (N' p (.tail _ hp)).2⟩⟩
    rintro rfl
    rw [hg0] at q; cases q
  by_cases hlast : i = n
  · subst hlast
    refine stop h tk it m' rest' _ hJ' F' N1 hz.1 hit ?_
    intro h' tk' hk'
    obtain ⟨F2, N2⟩ := move h' hk'
    exact done h' tk' m' rest' hJ' F2 N2
  · refine item i h tk it m' rest' _ (by omega) hJ' F' N1 hz.1 hit ?_
    intro v it' h' tk' hP hit' hI' hk'
    obtain ⟨F2, N2⟩ := move h' hk'
    have N3 : News gc L h' ((I0, it') :: rest') := by
      intro p hp
      rcases List.mem_cons.mp hp with rfl | hp
      · exact ⟨hI', hz.2⟩
      · exact N2 p hp
    refine wpAny_assign_Name (stN (s := ⟨h', _, _, _, _⟩) F2 N3 ?_ hk hx)
    intro h4 F4 N4
    refine wpAny_mono (turn i v h4 _ m' rest' I0 it' (by omega) hP hJ' hr' F4 N4) (fun f s₃ h₃ => ?_) (fun _ _ q => q)
    cases f with
    | next =>
      obtain ⟨h5, tk5, m5, rest5, rfl, F5, N5, hr5, J5⟩ := h₃
      exact ⟨n + 1 - (i + 1), by omega, i + 1, h5, tk5, m5, rest5, it', rfl, by omega, rfl, F5, N5, hr5, hit', J5⟩
    | cont =>
      obtain ⟨h5, tk5, m5, rest5, rfl, F5, N5, hr5, J5⟩ := h₃
      exact ⟨n + 1 - (i + 1), by omega, i + 1, h5, tk5, m5, rest5, it', rfl, by omega, rfl, F5, N5, hr5, hit', J5⟩
    | brk => exact h₃
    | ret v => exact h₃

theorem iter_list {x : Str} {px : Pos} {body : List Stmt} {Q : Flow → Shared → Prop} {l : Addr} {vs : List Value} (J : Nat → (Str → Option Value) → List (Addr × Obj) → Prop)
    (hh : A.handled = none) (F : Fr gc L s.heap m) (N : News gc L s.heap rest)
    (hl : ∀ i m' rest' h, J i m' rest' → Fr gc L h m' → News gc L h rest' → h.IsList l vs.toArray)
    (hJ : J 0 m rest)
    (turn : ∀ i v h tk m' rest' I0 it, vs[i]? = some v → J i m' rest' → (∀ p ∈ rest', p.1 ≠ I0) → Fr gc L h (fun y => if y = x then some v else m' y) → News gc L h ((I0, it) :: rest') →
      wpAny (model prog w) A (execs body (envOf name scope L a cd)) (fun f s₃ => match f with
        | .next | .cont => NextJ s gc L I0 it J i s₃
        | .brk => Q .next s₃
        | .ret v => Q (.ret v) s₃) NoE { s with heap := h, toks := tk })
    (done : ∀ h tk m' rest', J vs.length m' rest' → Fr gc L h m' → News gc L h rest' → Q .next { s with heap := h, toks := tk })
    (hk : scope.kind = .function) (hx : (envOf name scope L a cd).kindOf x = some .local) :
    wpAny (model prog w) A (pyIter (.ref l)) (LoopAt w A (envOf name scope L a cd) x px body Q) NoE s := by
  have hls := hl 0 m rest s.heap hJ F N
  have hne : l ≠ s.heap.objs.size := by obtain ⟨o, ho, _⟩ := id hls; exact Nat.ne_of_lt (Heap.lt_size ho)
  refine iter_gen (n := vs.length) (fun i v => vs[i]? = some v) (fun i o => o.cls = .type "list_iterator" ∧ o.data = .fields #[.ref l, .int i 0]) { cls := .type "list_iterator", data := .fields #[.ref l, .int 0 0] } J F N
    (fun Q' h => wpAny_pyIter_list hls (h _)) ⟨rfl, rfl⟩ rfl ?_ ?_ hJ (fun i v h tk m' rest' I0 it _ hP => turn i v h tk m' rest' I0 it hP) done hk hx
  · intro i h tk it m' rest' Q' hi hJ' F' N' hg hit hq
    refine wpAny_pyNext_list_item (s := ⟨h, _, _, _, _⟩) (x := vs[i]) ⟨it, hg, hit⟩ (hl i m' rest' h hJ' F' N') (by simp [hi]) fun h' hit' hs' => ?_
    obtain ⟨o2, ho2, hc2, hd2⟩ := hit'
    exact hq vs[i] o2 h' tk (by simp [hi]) ⟨hc2, hd2⟩ ho2 fun b o hb e => hs'.extBut b o hb e
  · intro h tk it m' rest' Q' hJ' F' N' hg hit hq
    refine wpAny_pyNext_list_end (s := ⟨h, _, _, _, _⟩) hh ⟨it, hg, hit⟩ (hl _ m' rest' h hJ' F' N') (by simp) fun h' he' => ?_
    exact hq h' tk fun b o hb e => he' b o hb e

theorem iter_tup {x : Str} {px : Pos} {body : List Stmt} {Q : Flow → Shared → Prop} {l : Addr} {vs : List Value} (J : Nat → (Str → Option Value) → List (Addr × Obj) → Prop)
    (hh : A.handled = none) (F : Fr gc L s.heap m) (N : News gc L s.heap rest)
    (hl : ∀ i m' rest' h, J i m' rest' → Fr gc L h m' → News gc L h rest' → PyProof.Rows.IsTup h l vs.toArray)
    (hJ : J 0 m rest)
    (turn : ∀ i v h tk m' rest' I0 it, vs[i]? = some v → J i m' rest' → (∀ p ∈ rest', p.1 ≠ I0) → Fr gc L h (fun y => if y = x then some v else m' y) → News gc L h ((I0, it) :: rest') →
      wpAny (model prog w) A (execs body (envOf name scope L a cd)) (fun f s₃ => match f with
        | .next | .cont => NextJ s gc L I0 it J i s₃
        | .brk => Q .next s₃
        | .ret v => Q (.ret v) s₃) NoE { s with heap := h, toks := tk })
    (done : ∀ h tk m' rest', J vs.length m' rest' → Fr gc L h m' → News gc L h rest' → Q .next { s with heap := h, toks := tk })
    (hk : scope.kind = .function) (hx : (envOf name scope L a cd).kindOf x = some .local) :
    wpAny (model prog w) A (pyIter (.ref l)) (LoopAt w A (envOf name scope L a cd) x px body Q) NoE s := by
  have hls := hl 0 m rest s.heap hJ F N
  refine iter_gen (n := vs.length) (fun i v => vs[i]? = some v) (fun i o => o.cls = .type "tuple_iterator" ∧ o.data = .fields #[.ref l, .int i 0]) { cls := .type "tuple_iterator", data := .fields #[.ref l, .int 0 0] } J F N
    (fun Q' h => iter_tuple hls (h _)) ⟨rfl, rfl⟩ rfl ?_ ?_ hJ (fun i v h tk m' rest' I0 it _ hP => turn i v h tk m' rest' I0 it hP) done hk hx
  · intro i h tk it m' rest' Q' hi hJ' F' N' hg hit hq
    refine next_tuple_item (s := ⟨h, _, _, _, _⟩) (x := vs[i]) ⟨it, hg, hit⟩ (hl i m' rest' h hJ' F' N') (by simp [hi]) fun h' hit' hs' => ?_
    obtain ⟨o2, ho2, hc2, hd2⟩ := hit'
    exact hq vs[i] o2 h' tk (by simp [hi]) ⟨hc2, hd2⟩ ho2 fun b o hb e => hs'.extBut b o hb e
  · intro h tk it m' rest' Q' hJ' F' N' hg hit hq
    refine next_tuple_end (s := ⟨h, _, _, _, _⟩) hh ⟨it, hg, hit⟩ (hl _ m' rest' h hJ' F' N') (by simp) fun h' he' => ?_
    exact hq h' tk fun b o hb e => he' b o hb e
end
end Mine
end

section
open PySem PySem.W PyProof.Rows PySem.Calls
namespace Mine
set_option maxRecDepth 100000
set_option maxHeartbeats 1000000
section
variable {w : World} {A : Around} {s : Shared} {gc : Heap} {L : Addr} {m : Str → Option Value} {rest : List (Addr × Obj)} {name : Str} {scope : Scope} {a : Addr} {cd : Value}
theorem iter_str {x : Str} {px : Pos} {body : List Stmt} {Q : Flow → Shared → Prop} {y : List Nat} {t : Tok} (J : Nat → (Str → Option Value) → List (Addr × Obj) → Prop)
    (hh : A.handled = none) (F : Fr gc L s.heap m) (N : News gc L s.heap rest)
    (hJ : J 0 m rest)
    (turn : ∀ i c u h tk m' rest' I0 it, y[i]? = some c → J i m' rest' → (∀ p ∈ rest', p.1 ≠ I0) → Fr gc L h (fun z => if z = x then some (.str (txt [c]) u) else m' z) → News gc L h ((I0, it) :: rest') →
      wpAny (model prog w) A (execs body (envOf name scope L a cd)) (fun f s₃ => match f with
        | .next | .cont => NextJ s gc L I0 it J i s₃
        | .brk => Q .next s₃
        | .ret v => Q (.ret v) s₃) NoE { s with heap := h, toks := tk })
    (done : ∀ h tk m' rest', J y.length m' rest' → Fr gc L h m' → News gc L h rest' → Q .next { s with heap := h, toks := tk })
    (hk : scope.kind = .function) (hx : (envOf name scope L a cd).kindOf x = some .local) :
    wpAny (model prog w) A (pyIter (.str (txt y) t)) (LoopAt w A (envOf name scope L a cd) x px body Q) NoE s := by
  cases ha : (txt y).cps.all (· < 128)
  · refine iter_gen (n := y.length) (fun i v => ∃ c u, y[i]? = some c ∧ v = .str (txt [c]) u) (fun i o => o.cls = .type "str_iterator" ∧ o.data = .fields #[.str (txt y) t, .int i 0]) { cls := .type "str_iterator", data := .fields #[.str (txt y) t, .int 0 0] } J F N
      (fun Q' h => wpAny_pyIter_wide ha (h _)) ⟨rfl, rfl⟩ rfl ?_ ?_ hJ (fun i v h tk m' rest' I0 it _ hP => by obtain ⟨c, u, hc, rfl⟩ := hP; exact turn i c u h tk m' rest' I0 it hc) done hk hx
    · intro i h tk it m' rest' Q' hi hJ' F' N' hg hit hq
      refine wpAny_pyNext_wide_item (s := ⟨h, _, _, _, _⟩) (c := y[i]) ⟨it, hg, hit⟩ (by simp [txt, hi]) fun h' hit' hs' => ?_
      obtain ⟨o2, ho2, hc2, hd2⟩ := hit'
      exact hq _ o2 h' _ ⟨y[i], _, by simp [hi], rfl⟩ ⟨hc2, hd2⟩ ho2 fun b o hb e => hs'.extBut b o hb e
    · intro h tk it m' rest' Q' hJ' F' N' hg hit hq
      refine wpAny_pyNext_wide_end (s := ⟨h, _, _, _, _⟩) hh ⟨it, hg, hit⟩ (by simp [txt]) fun h' he' => ?_
      exact hq h' tk fun b o hb e => he' b o hb e
  · refine iter_gen (n := y.length) (fun i v => ∃ c u, y[i]? = some c ∧ v = .str (txt [c]) u) (fun i o => o.cls = .type "str_ascii_iterator" ∧ o.data = .fields #[.str (txt y) t, .int i 0]) { cls := .type "str_ascii_iterator", data := .fields #[.str (txt y) t, .int 0 0] } J F N
      (fun Q' h => wpAny_pyIter_ascii ha (h _)) ⟨rfl, rfl⟩ rfl ?_ ?_ hJ (fun i v h tk m' rest' I0 it _ hP => by obtain ⟨c, u, hc, rfl⟩ := hP; exact turn i c u h tk m' rest' I0 it hc) done hk hx
    · intro i h tk it m' rest' Q' hi hJ' F' N' hg hit hq
      refine wpAny_pyNext_ascii_item (s := ⟨h, _, _, _, _⟩) (c := y[i]) ⟨it, hg, hit⟩ (by simp [txt, hi]) fun h' hit' hs' => ?_
      obtain ⟨o2, ho2, hc2, hd2⟩ := hit'
      exact hq _ o2 h' _ ⟨y[i], _, by simp [hi], rfl⟩ ⟨hc2, hd2⟩ ho2 fun b o hb e => hs'.extBut b o hb e
    · intro h tk it m' rest' Q' hJ' F' N' hg hit hq
      refine wpAny_pyNext_ascii_end (s := ⟨h, _, _, _, _⟩) hh ⟨it, hg, hit⟩ (by simp [txt]) fun h' he' => ?_
      exact hq h' tk fun b o hb e => he' b o hb e
end
end Mine
end

section
open PySem PySem.W PyProof.Rows PySem.Calls PySem.Builtin.Str PySem.Builtin
namespace Mine
theorem slice_last (t : List Nat) : Txt.slice (txt t) (some (-1)) none = txt t.getLast?.toList := by
  rcases List.eq_nil_or_concat t with rfl | ⟨u, c, rfl⟩
  · decide
  · rw [List.concat_eq_append]
    have hl : (txt (u ++ [c])).length = u.length + 1 := by simp [txt, Str.length]
    unfold Txt.slice
    have e : strSliceIndices (some (-1)) none 1 (txt (u ++ [c])).length = [u.length] := by
      rw [hl]
      unfold strSliceIndices sliceRange
      simp
      refine ⟨0, ?_, by omega⟩
      have : (if Max.max 0 (Min.min (-1 + ((u.length : Int) + 1)) ((u.length : Int) + 1)) < (u.length : Int) + 1 then
              (u.length : Int) + 1 - Max.max 0 (Min.min (-1 + ((u.length : Int) + 1)) ((u.length : Int) + 1))
            else 0).toNat = 1 := by
        rw [if_pos (by omega)]; omega
      rw [this]; rfl
    rw [e, hl]
    cases u with
    | nil => simp [txt]
    | cons x u =>
      rw [if_neg (by simp), List.getLast?_append]
      simp [txt]
theorem slice_first (t : List Nat) : Txt.slice (txt t) none (some 1) = txt (t.take 1) := by
  cases t with
  | nil => decide
  | cons c u =>
    have hl : (txt (c :: u)).length = u.length + 1 := by simp [txt, Str.length]
    unfold Txt.slice
    have e : strSliceIndices none (some 1) 1 (txt (c :: u)).length = [0] := by
      rw [hl]
      unfold strSliceIndices sliceRange
      simp
      have : (if 0 < Max.max 0 (Min.min 1 ((u.length : Int) + 1)) then Max.max 0 (Min.min 1 ((u.length : Int) + 1)) else 0).toNat = 1 := by
        rw [if_pos (by omega)]; omega
      rw [this]; rfl
    rw [e, hl]
    cases u with
    | nil => simp [txt]
    | cons x u =>
      rw [if_neg (by simp)]
      simp [txt]
end Mine
end

section
open PySem PySem.W PyProof.Rows PySem.Calls
namespace Mine
set_option maxRecDepth 100000
set_option maxHeartbeats 4000000

local macro_rules | `(tactic| walk_at "pad 0") => `(tactic| fail)
local macro_rules | `(tactic| walk_at "pad 1") => `(tactic| fail)
local macro_rules | `(tactic| walk_at "pad 2") => `(tactic| fail)
local macro_rules | `(tactic| walk_at "pad 3") => `(tactic| fail)
local macro_rules | `(tactic| walk_at "pad 4") => `(tactic| fail)
local macro_rules | `(tactic| walk_at "pad 5") => `(tactic| fail)
local macro_rules | `(tactic| walk_at "pad 6") => `(tactic| fail)
local macro_rules | `(tactic| walk_at "mlk") => `(tactic| first | assumption | exact if_pos rfl | (with_unfolding_all exact rfl) | (refine Eq.trans (if_neg (by decide +kernel)) ?_; walk_at "mlk"))
local macro_rules | `(tactic| walk_at "eval Name") => `(tactic| ((with_reducible show wpAny _ _ (eval (Expr.Name _ _) (envOf _ _ _ _ _)) _ _ _); first
  | (refine ld (by assumption) (by walk_at "mlk") ?_ (by kernel_rfl!) (by kernel_rfl!) (by decide +kernel))
  | (refine gname (by assumption) (by assumption) (by rfl) ?_ (by kernel_rfl!) (by kernel_rfl!) (by decide +kernel))
  | (refine bname (by assumption) (by assumption) (by rfl) (by first | exact boot_len | exact boot_max | exact boot_sorted | exact boot_chr) (by decide +kernel) ?_ (by kernel_rfl!) (by kernel_rfl!) (by decide +kernel))))
local macro_rules | `(tactic| walk_at "callWith ref") => `(tactic| ((with_reducible show wpAny _ _ (callWith _ (Value.ref _) _ (backTo _ (starEach (_ :: _) _)) []) _ _ _); refine callWith_K (Amb.X (by assumption)) (by rfl) ?_))
local macro_rules | `(tactic| walk_at "mw") => `(tactic| first
  | ((with_reducible show (Frag.In _ _ ∧ _)); refine ⟨Amb.X (Amb.keeps (by assumption) (Fr.keep (by assumption))), ?_⟩; try dsimp only [List.nil_append, List.cons_append])
  | ((fail_if_success (with_reducible show wpAny _ _ (exec (Stmt.While _ _ _ _) _) _ _ _)); (fail_if_success (with_reducible show wpAny _ _ (exec (Stmt.For _ _ _ _ _) _) _ _ _)); (fail_if_success (with_reducible show wpAny _ _ (call (Value.ref _) _) _ _ _)); (fail_if_success (with_reducible show wpAny _ _ (call (Value.builtin "len") _) _ _ _)); (fail_if_success (with_reducible show wpAny _ _ (call (Value.builtin "list.append") _) _ _ _)); (fail_if_success (with_reducible show wpAny _ _ (newTuple _) _ _ _)); (fail_if_success (with_reducible show (ite _ _ _ : Prop))); walk1; (try dsimp only)))

def forBody (b : List Stmt) (j : Nat) : List Stmt := match b[j]? with
  | some (Stmt.For _ _ b _ _) => b
  | _ => []
abbrev textsEnv (L : Addr) : Env := envOf (Str.ofString "_law_texts") (fnScope 13) L 88 (.ref 87)
def noStmt : Stmt := Stmt.Pass ⟨0, 0, 0, 0⟩
/-- the innermost loop, the one over the texts, the one over the rows -/
def endsFor : Stmt := (forBody (forBody (fnBody 13) 1) 1).getD 0 noStmt
def textFor : Stmt := (forBody (fnBody 13) 1).getD 1 noStmt
def rowFor : Stmt := (fnBody 13).getD 1 noStmt

/-- one row more behind each text -/
def stepT (ts : List (List Nat)) (r : List Nat) : List (List Nat) := ts.flatMap fun t => (ends.filter (okEnd t)).map fun e => t ++ e ++ r

theorem ends_loop {w : World} {A : Around} {s : Shared} {gc : Heap} {L lg : Addr} {m : Str → Option Value} {R : List (Addr × Obj)} {gv : List Value} {c : Nat} {G : List (List Nat)} {t r : List Nat} {tt tr : Tok} {Q : Flow → Shared → Prop}
  (am : Amb w gc) (hh : A.handled = none) (F : Fr gc L s.heap m) (N : News gc L s.heap ((lg, listOf gv.toArray c) :: R)) (hR : ∀ p ∈ R, p.1 ≠ lg)
  (m1 : m (Str.ofString "longer") = some (.ref lg)) (m2 : m (Str.ofString "text") = some (.str (txt t) tt)) (m3 : m (Str.ofString "row") = some (.str (txt r) tr))
  (hG : StrsAre gv (G.map txt)) (hGl : G.length ≤ 100) (ht : t.length ≤ 100) (hr : r.length ≤ 100)
  (hQ : ∀ h tk m' gv' c', Fr gc L h m' → News gc L h ((lg, listOf gv'.toArray c') :: R) → (∀ x, x ≠ Str.ofString "line_end" → m' x = m x) → StrsAre gv' ((G ++ (ends.filter (okEnd t)).map fun e => t ++ e ++ r).map txt) → Q .next { s with heap := h, toks := tk }) :
  wpAny (model prog w) A (exec endsFor (textsEnv L)) Q NoE s := by
  refine for_mine ?_ ?hs ?ht
  case hs => intro _; rfl
  case ht => intro _ _; rfl
  repeat walk_at "mw"
  rw [show Str.ofString "\n" = txt [10] by decide +kernel, show Str.ofString "\x0d" = txt [13] by decide +kernel, show Str.ofString "\x0d\n" = txt [13, 10] by decide +kernel]
  have hfr : ∀ p ∈ (lg, listOf gv.toArray c) :: R, p.1 ≠ s.heap.objs.size := fun p hp q => by
    have := Heap.lt_size (N p hp).1
    rw [q] at this
    exact absurd this (Nat.lt_irrefl _)
  refine newTuple_N (s := ⟨s.heap, _, _, _, _⟩) F N ?_ (by rw [sizeLine_eq]; simp)
  intro h2 F2 N2
  dsimp only at N2
  generalize htp : s.heap.objs.size = tp at *
  have htl : tp ≠ lg := fun q => hfr _ (.head _) q.symm
  refine iter_tup (s := ⟨h2, _, _, _, _⟩) (l := tp) (vs := [.str (txt [10]) s.toks, .str (txt [13]) (s.toks + 1), .str (txt [13, 10]) (s.toks + 1 + 1)])
    (fun i m' rest' => ∃ gv' c', rest' = (lg, listOf gv'.toArray c') :: (tp, seqObj "tuple" #[.str (txt [10]) s.toks, .str (txt [13]) (s.toks + 1), .str (txt [13, 10]) (s.toks + 1 + 1)] 0) :: R ∧ (∀ x, x ≠ Str.ofString "line_end" → m' x = m x) ∧
      StrsAre gv' ((G ++ ((ends.take i).filter (okEnd t)).map fun e => t ++ e ++ r).map txt)) hh F2 (rest := (lg, listOf gv.toArray c) :: (tp, seqObj "tuple" #[.str (txt [10]) s.toks, .str (txt [13]) (s.toks + 1), .str (txt [13, 10]) (s.toks + 1 + 1)] 0) :: R)
    ?N ?hl ⟨gv, c, rfl, fun _ _ => rfl, by simpa using hG⟩ ?turn ?done rfl (by rfl)
  case N =>
    intro p hp
    refine N2 p ?_
    simp only [List.mem_cons] at hp ⊢
    rcases hp with h | h | h <;> simp [h]
  case hl =>
    rintro i m' rest' h ⟨gv', c', rfl, _⟩ F' N'
    exact News.isTup N' (.tail _ (.head _))
  case done =>
    rintro h tk m' rest' ⟨gv', c', rfl, hm, hg⟩ F' N'
    refine hQ h tk m' gv' c' F' ?_ hm hg
    intro p hp
    refine N' p ?_
    simp only [List.mem_cons] at hp ⊢
    rcases hp with h | h <;> simp [h]
  case turn =>
    rintro i v h tk m' rest' I0 it hv ⟨gv', c', rfl, hm, hg⟩ hI F' N'
    obtain ⟨e, u, hev, rfl⟩ : ∃ e u, ends[i]? = some e ∧ v = .str (txt e) u := by
      match i, hv with
      | 0, hv => exact ⟨[10], s.toks, rfl, by simpa using hv.symm⟩
      | 1, hv => exact ⟨[13], s.toks + 1, rfl, by simpa using hv.symm⟩
      | 2, hv => exact ⟨[13, 10], s.toks + 1 + 1, rfl, by simpa using hv.symm⟩
    have hil : i < 3 := (List.getElem?_eq_some_iff.mp hv).1
    have m1' := (hm _ (by decide +kernel)).trans m1
    have m2' := (hm _ (by decide +kernel)).trans m2
    have m3' := (hm _ (by decide +kernel)).trans m3
    have htake : ends.take (i + 1) = ends.take i ++ [e] := by rw [List.take_add_one, hev]; rfl
    clear N2 F2 F N
    repeat walk_at "mw"
    have hel : e.length ≤ 2 := by
      have : e ∈ ends := List.mem_of_getElem? hev
      simp only [ends, List.mem_cons, List.not_mem_nil, or_false] at this
      rcases this with rfl | rfl | rfl <;> simp
    have hne0 : (txt e != txt [10]) = decide (e ≠ [10]) := by
      by_cases q : e = [10]
      · rw [q]; simp
      · rw [decide_eq_true q, bne_iff_ne]; exact fun z => q (txt_inj z)
    rw [hne0]
    have skip : ∀ (h' : Heap) (tk' : Nat) (m4 : Str → Option Value), okEnd t e = false → (∀ x, x ≠ Str.ofString "line_end" → m4 x = m' x) → Fr gc L h' m4 →
        News gc L h' ((I0, it) :: (lg, listOf gv'.toArray c') :: (tp, seqObj "tuple" #[.str (txt [10]) s.toks, .str (txt [13]) (s.toks + 1), .str (txt [13, 10]) (s.toks + 1 + 1)] 0) :: R) →
        NextJ ⟨h2, s.gens, s.drawn, s.toks + 1 + 1 + 1, s.os⟩ gc L I0 it (fun i m' rest' => ∃ gv' c', rest' = (lg, listOf gv'.toArray c') :: (tp, seqObj "tuple" #[.str (txt [10]) s.toks, .str (txt [13]) (s.toks + 1), .str (txt [13, 10]) (s.toks + 1 + 1)] 0) :: R ∧ (∀ x, x ≠ Str.ofString "line_end" → m' x = m x) ∧
          StrsAre gv' ((G ++ ((ends.take i).filter (okEnd t)).map fun e => t ++ e ++ r).map txt)) i { s with heap := h', toks := tk' } := by
      intro h' tk' m4 hok hm4 F4 N4
      refine ⟨h', tk', m4, _, rfl, F4, N4, hI, gv', c', rfl, fun x hx => (hm4 x hx).trans (hm x hx), ?_⟩
      rw [htake, List.filter_append, List.filter_cons_of_neg (by rw [hok]; simp), List.filter_nil, List.append_nil]; exact hg
    have push : ∀ (h' : Heap) (tk' : Nat) (m4 : Str → Option Value) (u' : Tok), okEnd t e = true → (∀ x, x ≠ Str.ofString "line_end" → m4 x = m' x) → Fr gc L h' m4 →
        News gc L h' ((I0, it) :: (lg, listOf (gv' ++ [Value.str (txt (t ++ e ++ r)) u']).toArray (c' + 1)) :: (tp, seqObj "tuple" #[.str (txt [10]) s.toks, .str (txt [13]) (s.toks + 1), .str (txt [13, 10]) (s.toks + 1 + 1)] 0) :: R) →
        NextJ ⟨h2, s.gens, s.drawn, s.toks + 1 + 1 + 1, s.os⟩ gc L I0 it (fun i m' rest' => ∃ gv' c', rest' = (lg, listOf gv'.toArray c') :: (tp, seqObj "tuple" #[.str (txt [10]) s.toks, .str (txt [13]) (s.toks + 1), .str (txt [13, 10]) (s.toks + 1 + 1)] 0) :: R ∧ (∀ x, x ≠ Str.ofString "line_end" → m' x = m x) ∧
          StrsAre gv' ((G ++ ((ends.take i).filter (okEnd t)).map fun e => t ++ e ++ r).map txt)) i { s with heap := h', toks := tk' } := by
      intro h' tk' m4 u' hok hm4 F4 N4
      refine ⟨h', tk', m4, _, rfl, F4, N4, ?_, _, _, rfl, fun x hx => (hm4 x hx).trans (hm x hx), ?_⟩
      · intro p hp
        rcases List.mem_cons.mp hp with rfl | hp
        · exact hI (lg, listOf gv'.toArray c') (.head _)
        · exact hI p (.tail _ hp)
      · rw [htake, List.filter_append, List.filter_cons_of_pos hok, List.filter_nil]
        have e1 : (G ++ List.map (fun e => t ++ e ++ r) (List.filter (okEnd t) (ends.take i) ++ [e])) = (G ++ List.map (fun e => t ++ e ++ r) (List.filter (okEnd t) (ends.take i))) ++ [t ++ e ++ r] := by simp
        rw [e1]
        exact StrsAre_snoc hg
    have hlen' : gv'.length ≤ 200 := by
      have h1 := hg.len_eq
      rw [List.length_map, List.length_append, List.length_map] at h1
      have h2 : ((ends.take i).filter (okEnd t)).length ≤ 3 := Nat.le_trans (List.length_filter_le _ _) (Nat.le_trans (List.length_take_le _ _) (by omega))
      omega
    have hnl : I0 ≠ lg := fun q => hI (lg, listOf gv'.toArray c') (.head _) q.symm
    have hRt : ∀ p ∈ (tp, seqObj "tuple" #[.str (txt [10]) s.toks, .str (txt [13]) (s.toks + 1), .str (txt [13, 10]) (s.toks + 1 + 1)] 0) :: R, p.1 ≠ lg := by
      intro p hp
      rcases List.mem_cons.mp hp with rfl | hp
      · exact htl
      · exact hR p hp
    by_cases q10 : e = [10]
    · rw [if_neg (by simpa using q10)]
      repeat walk_at "mw"
      refine slice_strN_sn (hsz := ?hsz) (s := ⟨_, _, _, _, _⟩) F' N' ?_
      case hsz => rw [txt_len, sizeLine_eq]; omega
      intro h3 t3 k3 F3 N3
      rw [slice_last]
      repeat walk_at "mw"
      have hne1 : (txt t.getLast?.toList != txt [13]) = decide (t.getLast? ≠ some 13) := by
        by_cases q : t.getLast? = some 13
        · rw [q]; simp
        · rw [decide_eq_true q, bne_iff_ne]
          intro z
          have := txt_inj z
          cases hl : t.getLast? with
          | none => rw [hl] at this; simp at this
          | some y => rw [hl] at this q; simp at this; exact q (by rw [this])
      rw [hne1]
      by_cases q13 : t.getLast? = some 13
      · rw [if_neg (by simpa using q13)]
        repeat walk_at "mw"
        rw [if_neg (by simp)]
        repeat walk_at "mw"
        exact skip _ _ _ (by unfold okEnd; rw [decide_eq_false_iff_not]; simp [q10, q13]) (fun x hx => if_neg hx) F3 N3
      · rw [if_pos (by simpa using q13), if_pos rfl]
        repeat walk_at "mw"
        refine PyProof.Rows.add_str ?_ (by rw [txt_len, txt_len, sizeLine_eq]; omega)
        intro ta tka
        rw [txt_app]
        repeat walk_at "mw"
        refine PyProof.Rows.add_str ?_ (by rw [txt_len, txt_len, sizeLine_eq, List.length_append]; omega)
        intro tb tkb
        rw [txt_app]
        repeat walk_at "mw"
        refine append_K (s := ⟨h3, _, _, _, _⟩) F3 N3 (Upd.tail hnl (Upd.head hRt)) ?_ (by rw [List.size_toArray, sizeLine_eq]; omega)
        intro h5 F5 N5
        rw [List.push_toArray] at N5
        repeat walk_at "mw"
        exact push _ _ _ _ (by unfold okEnd; rw [decide_eq_true_iff]; exact .inr q13) (fun x hx => if_neg hx) F5 N5
    · rw [if_pos (by simpa using q10), if_pos rfl]
      repeat walk_at "mw"
      refine PyProof.Rows.add_str ?_ (by rw [txt_len, txt_len, sizeLine_eq]; omega)
      intro ta tka
      rw [txt_app]
      repeat walk_at "mw"
      refine PyProof.Rows.add_str ?_ (by rw [txt_len, txt_len, sizeLine_eq, List.length_append]; omega)
      intro tb tkb
      rw [txt_app]
      repeat walk_at "mw"
      refine append_K (s := ⟨h, _, _, _, _⟩) F' N' (Upd.tail hnl (Upd.head hRt)) ?_ (by rw [List.size_toArray, sizeLine_eq]; omega)
      intro h5 F5 N5
      rw [List.push_toArray] at N5
      repeat walk_at "mw"
      exact push _ _ _ _ (by unfold okEnd; rw [decide_eq_true_iff]; exact .inl q10) (fun x hx => if_neg hx) F5 N5
end Mine
end

section
open PySem PySem.W PyProof.Rows PySem.Calls
namespace Mine
set_option maxRecDepth 100000
set_option maxHeartbeats 4000000

local macro_rules | `(tactic| walk_at "pad 0") => `(tactic| fail)
local macro_rules | `(tactic| walk_at "pad 1") => `(tactic| fail)
local macro_rules | `(tactic| walk_at "pad 2") => `(tactic| fail)
local macro_rules | `(tactic| walk_at "pad 3") => `(tactic| fail)
local macro_rules | `(tactic| walk_at "pad 4") => `(tactic| fail)
local macro_rules | `(tactic| walk_at "pad 5") => `(tactic| fail)
local macro_rules | `(tactic| walk_at "pad 6") => `(tactic| fail)
local macro_rules | `(tactic| walk_at "pad 7") => `(tactic| fail)
local macro_rules | `(tactic| walk_at "pad 8") => `(tactic| fail)
local macro_rules | `(tactic| walk_at "mlk") => `(tactic| first | assumption | exact if_pos rfl | (with_unfolding_all exact rfl) | (refine Eq.trans (if_neg (by decide +kernel)) ?_; walk_at "mlk"))
local macro_rules | `(tactic| walk_at "eval Name") => `(tactic| ((with_reducible show wpAny _ _ (eval (Expr.Name _ _) (envOf _ _ _ _ _)) _ _ _); first
  | (refine ld (by assumption) (by walk_at "mlk") ?_ (by kernel_rfl!) (by kernel_rfl!) (by decide +kernel))
  | (refine gname (by assumption) (by assumption) (by rfl) ?_ (by kernel_rfl!) (by kernel_rfl!) (by decide +kernel))
  | (refine bname (by assumption) (by assumption) (by rfl) (by first | exact boot_len | exact boot_max | exact boot_sorted | exact boot_chr) (by decide +kernel) ?_ (by kernel_rfl!) (by kernel_rfl!) (by decide +kernel))))
local macro_rules | `(tactic| walk_at "mw") => `(tactic| first
  | ((fail_if_success (with_reducible show wpAny _ _ (exec (Stmt.While _ _ _ _) _) _ _ _)); (fail_if_success (with_reducible show wpAny _ _ (exec (Stmt.For _ _ _ _ _) _) _ _ _)); (fail_if_success (with_reducible show wpAny _ _ (call (Value.ref _) _) _ _ _)); (fail_if_success (with_reducible show wpAny _ _ (call (Value.builtin "len") _) _ _ _)); (fail_if_success (with_reducible show wpAny _ _ (call (Value.builtin "list.append") _) _ _ _)); (fail_if_success (with_reducible show wpAny _ _ (newTuple _) _ _ _)); (fail_if_success (with_reducible show wpAny _ _ (newList _) _ _ _)); (fail_if_success (with_reducible show (ite _ _ _ : Prop))); walk1; (try dsimp only)))

theorem stepT_snoc (Ts : List (List Nat)) (t r : List Nat) : stepT (Ts ++ [t]) r = stepT Ts r ++ (ends.filter (okEnd t)).map fun e => t ++ e ++ r := by
  unfold stepT; simp
theorem stepT_len (Ts : List (List Nat)) (r : List Nat) : (stepT Ts r).length ≤ 3 * Ts.length := by
  induction Ts with
  | nil => simp [stepT]
  | cons t Ts ih =>
    have : stepT (t :: Ts) r = ((ends.filter (okEnd t)).map fun e => t ++ e ++ r) ++ stepT Ts r := by unfold stepT; simp
    rw [this, List.length_append, List.length_map, List.length_cons]
    have h2 : (ends.filter (okEnd t)).length ≤ 3 := List.length_filter_le _ _
    omega

theorem text_loop {w : World} {A : Around} {s : Shared} {gc : Heap} {L lg ltx : Addr} {m : Str → Option Value} {R : List (Addr × Obj)} {c ct : Nat} {tv : List Value} {Ts : List (List Nat)} {r : List Nat} {tr : Tok} {Q : Flow → Shared → Prop}
  (am : Amb w gc) (hh : A.handled = none) (F : Fr gc L s.heap m) (N : News gc L s.heap ((lg, listOf #[] c) :: R)) (hR : ∀ p ∈ R, p.1 ≠ lg) (hT : (ltx, listOf tv.toArray ct) ∈ R)
  (m1 : m (Str.ofString "longer") = some (.ref lg)) (m2 : m (Str.ofString "texts") = some (.ref ltx)) (m3 : m (Str.ofString "row") = some (.str (txt r) tr))
  (hTs : StrsAre tv (Ts.map txt)) (hTl : Ts.length ≤ 9) (htl : ∀ t ∈ Ts, t.length ≤ 100) (hr : r.length ≤ 100)
  (hQ : ∀ h tk m' gv' c', Fr gc L h m' → News gc L h ((lg, listOf gv'.toArray c') :: R) → (∀ x, x ≠ Str.ofString "line_end" → x ≠ Str.ofString "text" → m' x = m x) → StrsAre gv' ((stepT Ts r).map txt) → Q .next { s with heap := h, toks := tk }) :
  wpAny (model prog w) A (exec textFor (textsEnv L)) Q NoE s := by
  have htvl : tv.length = Ts.length := by have := hTs.len_eq; simpa using this
  refine for_list (l := ltx) (vs := tv) (fun i m' rest' => ∃ gv' c', rest' = (lg, listOf gv'.toArray c') :: R ∧ (∀ x, x ≠ Str.ofString "line_end" → x ≠ Str.ofString "text" → m' x = m x) ∧ StrsAre gv' ((stepT (Ts.take i) r).map txt)) hh F N ?hev ?hl
    ⟨[], c, rfl, fun _ _ _ => rfl, .nil⟩ ?turn ?done rfl (by rfl)
  case hev =>
    intro Q' hq
    walk_at "eval Name"
    exact hq
  case hl =>
    rintro i m' rest' h ⟨gv', c', rfl, _⟩ F' N'
    exact isL (N' _ (.tail _ hT)).1
  case done =>
    rintro h tk m' rest' ⟨gv', c', rfl, hm, hg⟩ F' N'
    rw [htvl, List.take_length] at hg
    exact hQ h tk m' gv' c' F' N' hm hg
  case turn =>
    rintro i v h tk m' rest' I0 it hv ⟨gv', c', rfl, hm, hg⟩ hI F' N'
    obtain ⟨y, tt, rfl, hy⟩ := hTs.item i v hv
    rw [List.getElem?_map] at hy
    obtain ⟨t, ht, rfl⟩ := Option.map_eq_some_iff.mp hy
    have htake : Ts.take (i + 1) = Ts.take i ++ [t] := by rw [List.take_add_one, ht]; rfl
    have hsl := stepT_len (Ts.take i) r
    have htkl := List.length_take_le i Ts
    have htkl2 : (Ts.take i).length ≤ Ts.length := by rw [List.length_take]; omega
    clear F N
    repeat walk_at "mw"
    refine ends_loop (s := ⟨h, _, _, _, _⟩) (lg := lg) (gv := gv') (c := c') (R := (I0, it) :: R) (G := stepT (Ts.take i) r) (t := t) (r := r) (tt := tt) (tr := tr) am hh F' ?N1 ?hR1 ?p1 (if_pos rfl) ?p3 hg (by omega) (htl t (List.mem_of_getElem? ht)) hr ?_
    case N1 =>
      intro p hp
      refine N' p ?_
      simp only [List.mem_cons] at hp ⊢
      rcases hp with h | h | h <;> simp [h]
    case hR1 =>
      intro p hp
      rcases List.mem_cons.mp hp with rfl | hp
      · exact fun q => hI (lg, listOf gv'.toArray c') (.head _) q.symm
      · exact hR p hp
    case p1 => exact (if_neg (by decide +kernel)).trans ((hm _ (by decide +kernel) (by decide +kernel)).trans m1)
    case p3 => exact (if_neg (by decide +kernel)).trans ((hm _ (by decide +kernel) (by decide +kernel)).trans m3)
    intro h5 tk5 m5 gv5 c5 F5 N5 hm5 hg5
    repeat walk_at "mw"
    refine ⟨h5, tk5, m5, _, rfl, F5, ?_, ?_, gv5, c5, rfl, ?_, ?_⟩
    · intro p hp
      refine N5 p ?_
      simp only [List.mem_cons] at hp ⊢
      rcases hp with h | h | h <;> simp [h]
    · intro p hp
      rcases List.mem_cons.mp hp with rfl | hp
      · exact hI (lg, listOf gv'.toArray c') (.head _)
      · exact hI p (.tail _ hp)
    · intro x hx1 hx2
      rw [hm5 x hx1, if_neg hx2]
      exact hm x hx1 hx2
    · rw [htake, stepT_snoc]; exact hg5

theorem fold_len : ∀ (l Ts : List (List Nat)), (l.foldl stepT Ts).length ≤ 3 ^ l.length * Ts.length
  | [], Ts => by simp
  | r :: l, Ts => by
    have h1 := fold_len l (stepT Ts r)
    have h2 := stepT_len Ts r
    rw [List.foldl_cons, List.length_cons, Nat.pow_succ]
    have h3 := Nat.mul_le_mul_left (3 ^ l.length) h2
    rw [← Nat.mul_assoc] at h3
    omega
theorem fold_t : ∀ (l Ts : List (List Nat)) (B : Nat), (∀ r ∈ l, r.length ≤ 10) → (∀ t ∈ Ts, t.length ≤ B) → ∀ t ∈ l.foldl stepT Ts, t.length ≤ B + 12 * l.length
  | [], Ts, B, _, h, t, ht => by simpa using h t ht
  | r :: l, Ts, B, hl, h, t, ht => by
    rw [List.foldl_cons] at ht
    have := fold_t l (stepT Ts r) (B + 12) (fun x hx => hl x (.tail _ hx)) (by
      intro u hu
      unfold stepT at hu
      simp only [List.mem_flatMap, List.mem_map, List.mem_filter] at hu
      obtain ⟨t', ht', e, ⟨he, _⟩, rfl⟩ := hu
      have h1 := h t' ht'
      have h2 := hl r (.head _)
      have h3 : e.length ≤ 2 := by
        simp only [ends, List.mem_cons, List.not_mem_nil, or_false] at he
        rcases he with rfl | rfl | rfl <;> simp
      simp only [List.length_append]; omega) t ht
    rw [List.length_cons]; omega

theorem row_loop {px : Pos} {w : World} {A : Around} {s : Shared} {gc : Heap} {L lsl ltx : Addr} {m : Str → Option Value} {R : List (Addr × Obj)} {ct cs : Nat} {tv sv : List Value} {rs : List (List Nat)} {r0 : List Nat} {Q : Flow → Shared → Prop}
  (am : Amb w gc) (hh : A.handled = none) (F : Fr gc L s.heap m) (N : News gc L s.heap ((ltx, listOf tv.toArray ct) :: R)) (hS : (lsl, listOf sv.toArray cs) ∈ R)
  (m2 : m (Str.ofString "texts") = some (.ref ltx)) (hTs : StrsAre tv ([r0].map txt)) (hrs : StrsAre sv (rs.map txt)) (hrl : rs.length ≤ 2) (hr0 : r0.length ≤ 10) (hrl2 : ∀ r ∈ rs, r.length ≤ 10)
  (hQ : ∀ h tk m' ltx' tv' ct' R', Fr gc L h m' → News gc L h ((ltx', listOf tv'.toArray ct') :: R') → m' (Str.ofString "texts") = some (.ref ltx') → StrsAre tv' ((rs.foldl stepT [r0]).map txt) → Q .next { s with heap := h, toks := tk }) :
  wpAny (model prog w) A (pyIter (.ref lsl)) (LoopAt w A (textsEnv L) (Str.ofString "row") px (forBody (fnBody 13) 1) Q) NoE s := by
  have hsvl : sv.length = rs.length := by have := hrs.len_eq; simpa using this
  refine iter_list (l := lsl) (vs := sv) (fun i m' rest' => ∃ ltx' tv' ct' R', rest' = (ltx', listOf tv'.toArray ct') :: R' ∧ (lsl, listOf sv.toArray cs) ∈ R' ∧ m' (Str.ofString "texts") = some (.ref ltx') ∧ StrsAre tv' (((rs.take i).foldl stepT [r0]).map txt)) hh F N ?hl
    ⟨ltx, tv, ct, R, rfl, hS, m2, hTs⟩ ?turn ?done rfl (by rfl)
  case hl =>
    rintro i m' rest' h ⟨ltx', tv', ct', R', rfl, hS', _⟩ F' N'
    exact isL (N' _ (.tail _ hS')).1
  case done =>
    rintro h tk m' rest' ⟨ltx', tv', ct', R', rfl, hS', hm, hg⟩ F' N'
    rw [hsvl, List.take_length] at hg
    exact hQ h tk m' ltx' tv' ct' R' F' N' hm hg
  case turn =>
    rintro i v h tk m' rest' I0 it hv ⟨ltx', tv', ct', R', rfl, hS', hm, hg⟩ hI F' N'
    obtain ⟨y, tt, rfl, hy⟩ := hrs.item i v hv
    rw [List.getElem?_map] at hy
    obtain ⟨r, hr, rfl⟩ := Option.map_eq_some_iff.mp hy
    have htake : rs.take (i + 1) = rs.take i ++ [r] := by rw [List.take_add_one, hr]; rfl
    clear F N
    repeat walk_at "mw"
    have hfr : ∀ p ∈ (I0, it) :: (ltx', listOf tv'.toArray ct') :: R', p.1 ≠ h.objs.size := fun p hp q => by
      have := Heap.lt_size (N' p hp).1
      rw [q] at this
      exact absurd this (Nat.lt_irrefl _)
    refine newList_N (s := ⟨h, _, _, _, _⟩) F' N' ?_ (by simp)
    intro h2 F2 N2
    dsimp only at N2
    generalize h.objs.size = lg at *
    clear F' N'
    repeat walk_at "mw"
    rename Fr _ _ _ _ => F3
    rename News _ _ _ _ => N3
    rename_i h3
    have htkl : (rs.take i).length ≤ 1 := by
      have : i < rs.length := (List.getElem?_eq_some_iff.mp hr).1
      rw [List.length_take]; omega
    refine text_loop (s := ⟨h3, _, _, _, _⟩) (lg := lg) (ltx := ltx') (c := 0) (R := (I0, it) :: (ltx', listOf tv'.toArray ct') :: R') (Ts := (rs.take i).foldl stepT [r0]) (r := r) (tr := tt) am hh F3 N3 hfr (.tail _ (.head _)) (by walk_at "mlk") (by walk_at "mlk") (by walk_at "mlk") hg ?_ ?_ (Nat.le_trans (hrl2 r (List.mem_of_getElem? hr)) (by omega)) ?_
    · have := fold_len (rs.take i) [r0]
      have h9 : 3 ^ (rs.take i).length ≤ 3 ^ 1 := Nat.pow_le_pow_right (by omega) htkl
      simp only [List.length_singleton] at this
      omega
    · intro t ht
      have := fold_t (rs.take i) [r0] 10 (fun x hx => hrl2 x (List.mem_of_mem_take hx)) (by intro t ht; rw [List.mem_singleton.mp ht]; exact hr0) t ht
      omega
    intro h4 tk4 m4 gv4 c4 F4 N4 hm4 hg4
    have n1 := hm4 (Str.ofString "longer") (by decide +kernel) (by decide +kernel)
    rw [if_pos rfl] at n1
    repeat walk_at "mw"
    rename Fr _ _ _ _ => F5
    rename News _ _ _ _ => N5
    refine ⟨_, _, _, _, rfl, F5, ?_, ?_, lg, gv4, c4, (ltx', listOf tv'.toArray ct') :: R', rfl, .tail _ hS', by walk_at "mlk", ?_⟩
    · intro p hp
      refine N5 p ?_
      simp only [List.mem_cons] at hp ⊢
      rcases hp with h | h | h | h <;> simp [h]
    · intro p hp
      rcases List.mem_cons.mp hp with rfl | hp
      · exact fun q => hfr _ (.head _) q.symm
      · exact hI p hp
    · rw [htake, List.foldl_append, List.foldl_cons, List.foldl_nil]; exact hg4
end Mine
end

section
open PySem PySem.W PyProof.Rows PySem.Calls
namespace Mine
set_option maxRecDepth 100000
set_option maxHeartbeats 1000000

/-- the sort's questions answered by a plain order -/
def kasRun {α : Type} (lt : Nat → Nat → Bool) (n : Nat) : KasT α → Option α
  | .ret a => some a
  | .ask i j k => if i < n ∧ j < n then kasRun lt n (k (lt i j)) else none

theorem kasRun_congr {α : Type} {lt lt' : Nat → Nat → Bool} {n : Nat} (h : ∀ i j, i < n → j < n → lt i j = lt' i j) : ∀ t : KasT α, kasRun lt n t = kasRun lt' n t
  | .ret a => rfl
  | .ask i j k => by
    unfold kasRun
    by_cases q : i < n ∧ j < n
    · rw [if_pos q, if_pos q, h i j q.1 q.2]; exact kasRun_congr h _
    · rw [if_neg q, if_neg q]

theorem kasRun_wp {α : Type} {lt : Nat → Nat → Bool} {n : Nat} {cmp : Nat → Nat → (Bool → Shared → Prop) → Shared → Prop} {s : Shared} (h : ∀ i j C, i < n → j < n → C (lt i j) s → cmp i j C s) {Q : α → Shared → Prop} {a : α} (hQ : Q a s) :
    ∀ t : KasT α, kasRun lt n t = some a → t.kasWp cmp Q s
  | .ret b, e => by
    unfold kasRun at e
    cases e; exact hQ
  | .ask i j k, e => by
    unfold kasRun at e
    split at e
    · rename_i q
      exact h i j _ q.1 q.2 (kasRun_wp h hQ _ e)
    · cases e

section
variable {w : World} {A : Around} {s : Shared} {gc : Heap} {L : Addr} {m : Str → Option Value} {news : List (Addr × Obj)}

/-- v is the pair (length, text) in the heap -/
def IsPair (h : Heap) (v : Value) (t : List Nat) : Prop := ∃ a o u1 u2 k, v = .ref a ∧ h.get? a = some o ∧ o.cls = .type "tuple" ∧ o.data = .seq #[.int t.length u1, .str (txt t) u2] k

theorem lt_pair {x y : Value} {t u : List Nat} {Q : Bool → Shared → Prop} (hx : IsPair s.heap x t) (hy : IsPair s.heap y u) (h : Q (ltT t u) s) : wpAny (model prog w) A (keyLt' (tuples' true) x y) Q NoE s := by
  obtain ⟨a, oa, u1, u2, ka, rfl, ha, hca, hda⟩ := hx
  obtain ⟨b, ob, v1, v2, kb, rfl, hb, hcb, hdb⟩ := hy
  refine kat_lt ha hda hb hdb ?_
  refine kat_cons (wpAny_eqBool_int ?_)
  unfold ltT at h
  by_cases e : t.length = u.length
  · rw [if_pos e] at h
    rw [show ((t.length : Int) == (u.length : Int)) = true by simp [e]]
    refine kat_yes (kat_cons (eqBool_str ?_))
    by_cases e2 : t = u
    · subst e2
      rw [beq_self_eq_true]
      refine kat_yes (kat_nil ?_)
      rw [decide_eq_false (List.lt_irrefl _)] at h
      exact h
    · rw [show (txt t == txt u) = false by rw [beq_eq_false_iff_ne]; exact fun q => e2 (txt_inj q)]
      refine kat_no ?_
      show wpAny (model prog w) A (oneLt' false (.str (txt t) u2) (.str (txt u) v2)) Q NoE s
      refine kat_one _ _ (PyProof.Rows.lt_str ?_)
      show Q _ s
      have : decide ((txt t).cps.toList < (txt u).cps.toList) = decide (t < u) := decide_eq_decide.mpr (by show t.toArray.toList < u.toArray.toList ↔ _; rw [List.toList_toArray, List.toList_toArray])
      rw [this]; exact h
  · rw [if_neg e] at h
    rw [show ((t.length : Int) == (u.length : Int)) = false by simp; omega]
    refine kat_no ?_
    show wpAny (model prog w) A (oneLt' true (.int t.length u1) (.int u.length v1)) Q NoE s
    refine oneLt_int ?_
    rw [show decide ((t.length : Int) < (u.length : Int)) = decide (t.length < u.length) by simp]
    exact h

theorem pairs_kat {h : Heap} : ∀ {vs : List Value} {Ts : List (List Nat)}, vs.length = Ts.length → (∀ (i : Nat) (t : List Nat), Ts[i]? = some t → ∃ v, vs[i]? = some v ∧ IsPair h v t) → ∃ fs, fs.length = vs.length ∧ KatTups h vs fs ∧ ∀ f ∈ fs, ∃ n u, f = Value.int n u
  | [], [], _, _ => ⟨[], rfl, KatTups.nil, fun _ h => nomatch h⟩
  | [], _ :: _, e, _ => by simp at e
  | _ :: _, [], e, _ => by simp at e
  | v :: vs, t :: Ts, e, hp => by
    obtain ⟨fs, h1, h2, h3⟩ := pairs_kat (h := h) (vs := vs) (Ts := Ts) (by simpa using e) (fun i t ht => by
      obtain ⟨v', hv', hpv⟩ := hp (i + 1) t (by simpa using ht)
      exact ⟨v', by simpa using hv', hpv⟩)
    obtain ⟨v', hv', a, o, u1, u2, k, rfl, ho, hc, hd⟩ := hp 0 t rfl
    simp at hv'
    subst hv'
    exact ⟨.int t.length u1 :: fs, by simp [h1], KatTups.cons ho hc hd rfl h2, fun f hf => by
      rcases List.mem_cons.mp hf with rfl | hf
      · exact ⟨_, _, rfl⟩
      · exact h3 f hf⟩

theorem sort_at {l : Addr} {vs : List Value} {Ts : List (List Nat)} {p : List Nat} {Q : Value → Shared → Prop} (F : Fr gc L s.heap m) (N : News gc L s.heap news) (hl : s.heap.IsList l vs.toArray)
    (hlen : vs.length = Ts.length) (h2 : 2 ≤ Ts.length) (h64 : Ts.length < 64)
    (hp : ∀ h, Fr gc L h m → News gc L h news → ∀ (i : Nat) (t : List Nat), Ts[i]? = some t → ∃ v, vs[i]? = some v ∧ IsPair h v t)
    (hrun : kasRun (fun i j => ltT (Ts.getD i []) (Ts.getD j [])) Ts.length (kas_sort Ts.length) = some p.toArray)
    (hQ : ∀ D h' c, Fr gc L h' m → News gc L h' ((D, listOf (p.map fun i => vs.getD i Value.none).toArray c) :: news) → Q (.ref D) { s with heap := h' }) :
    wpAny (model prog w) A (call (.builtin "sorted") [.ref l]) Q NoE s := by
  refine kat_sorted F N hl (by omega) (by omega) ?_
  intro D e1 h' F' N' hlt
  have N'' : News gc L h' news := fun q hq => N' q (.tail _ hq)
  have hp' := hp h' F' N''
  obtain ⟨fs, hf1, hf2, hf3⟩ := pairs_kat hlen hp'
  refine kat_kind (s := ⟨h', _, _, _, _⟩) (T := .type "int") hf2 (by omega) ?_ (by rfl) ?_
  · intro f hf
    obtain ⟨n, u, rfl⟩ := hf3 f hf
    exact Looks.of_pure rfl
  · rw [show ((Value.type "int") != (Value.type "tuple")) = true by decide +kernel, hlen]
    refine kasRun_wp (lt := fun i j => ltT (Ts.getD i []) (Ts.getD j [])) (n := Ts.length) ?_ (a := p.toArray) ?_ _ hrun
    · intro i j C hi hj hC
      obtain ⟨x, hx, px⟩ := hp' i Ts[i] (by simp [hi])
      obtain ⟨y, hy, py⟩ := hp' j Ts[j] (by simp [hj])
      show wpAny (model prog w) _ (keyLt' (tuples' true) (vs.getD i Value.none) (vs.getD j Value.none)) C NoE _
      rw [List.getD_eq_getElem?_getD, hx, List.getD_eq_getElem?_getD, hy]
      refine lt_pair px py ?_
      have e1 : Ts.getD i [] = Ts[i] := by simp [hi]
      have e2 : Ts.getD j [] = Ts[j] := by simp [hj]
      rw [← e1, ← e2]; exact hC
    · refine KasFin.intro F' N' (UpdF.head fun q hq => Nat.ne_of_lt (hlt q hq)) ?_
      intro h3 c F3 N3
      exact hQ D h3 c F3 N3
end
end Mine
end

section
open PySem PySem.W PyProof.Rows PySem.Calls
namespace Mine
set_option maxRecDepth 100000
set_option maxHeartbeats 1000000
section
variable {w : World} {A : Around} {s : Shared} {gc : Heap} {L : Addr} {m : Str → Option Value} {news : List (Addr × Obj)}
theorem sort_body {a : Addr} {v : Value} {n : Nat} {P : PySem.Fin → Shared → Prop} (F : Fr gc L s.heap m) (N : News gc L s.heap news) (ho : s.heap.get? a = some (seqObj "list" #[v] n)) (haL : a ≠ L) (ha0 : gc.get? a = none) (hna : ∀ p ∈ news, p.1 ≠ a)
    (h : ∀ h' c, Fr gc L h' m → News gc L h' ((a, listOf #[v] c) :: news) → P (.done (.ret .none)) { s with heap := h' }) :
    wpAny (model prog w) A (Builtin.«list.sort» ⟨[.ref a], []⟩) P NoE s := by
  have s1 := Heap.SameBut.update s.heap a (Obj.mapSeq fun _ => (#[] : Array Value))
  obtain ⟨e1, ho1⟩ : ∃ e1, (s.heap.update a (Obj.mapSeq fun _ => (#[] : Array Value))).get? a = some (seqObj "list" #[] e1) := ⟨_, get?_update_seq ho fun _ => #[]⟩
  have F3 : Fr gc L (((s.heap.update a (Obj.mapSeq fun _ => (#[] : Array Value))).push (seqObj "tuple" #[v] 0)).push (seqObj "list" #[] 0)) m := ((kas_fr F s1 haL ha0).push _).push _
  have N2 : News gc L (((s.heap.update a (Obj.mapSeq fun _ => (#[] : Array Value))).push (seqObj "tuple" #[v] 0)).push (seqObj "list" #[] 0)) news :=
    (kas_news N s1 hna).grown fun b x e => Heap.get?_push_of_some _ (Heap.get?_push_of_some _ e)
  have ho3 : (((s.heap.update a (Obj.mapSeq fun _ => (#[] : Array Value))).push (seqObj "tuple" #[v] 0)).push (seqObj "list" #[] 0)).get? a = some (seqObj "list" #[] e1) := Heap.get?_push_of_some _ (Heap.get?_push_of_some _ ho1)
  rw [list_sort_plain]
  refine wpAny_bind (listItems_at ho rfl ?_)
  refine wpAny_bind (listUpdate_at ho rfl ?_ (by rw [sizeLine_eq]; simp) (Nat.zero_le _))
  refine wpAny_bind (seqEpoch_at ho1 rfl ?_)
  refine wpAny_bind (wpAny_newTuple ?_ (by rw [sizeLine_eq]; simp))
  refine wpAny_bind (wpAny_newList ?_ (Nat.zero_le _))
  refine wpAny_holding ?_
  show wpAny (model prog w) A _ P NoE { s with heap := ((s.heap.update a (Obj.mapSeq fun _ => (#[] : Array Value))).push (seqObj "tuple" #[v] 0)).push (seqObj "list" #[] 0) }
  dsimp only
  rw [if_pos (by simp), if_pos (by simp)]
  refine wpAny_bind (wpAny_pure ?_)
  rw [StateT.run_pure]
  refine wpAny_bind (wpAny_pure ?_)
  dsimp only
  refine wpAny_bind (seqEpoch_at ho3 rfl ?_)
  have s2 := Heap.SameBut.update (((s.heap.update a (Obj.mapSeq fun _ => (#[] : Array Value))).push (seqObj "tuple" #[v] 0)).push (seqObj "list" #[] 0)) a (Obj.mapSeq fun _ => (#[v] : Array Value))
  obtain ⟨c2, hc2⟩ : ∃ c2, ((((s.heap.update a (Obj.mapSeq fun _ => (#[] : Array Value))).push (seqObj "tuple" #[v] 0)).push (seqObj "list" #[] 0)).update a (Obj.mapSeq fun _ => (#[v] : Array Value))).get? a = some (seqObj "list" #[v] c2) := ⟨_, get?_update_seq ho3 fun _ => #[v]⟩
  have earr : (arrOf (SortSt.mk' general' ((#[v] : Array Value).zip #[v]) #[] 7 none)).map (·.2) = #[v] := by
    show ((#[v] : Array Value).zip #[v]).map (·.2) = #[v]
    simp
  rw [earr]
  refine wpAny_bind (listUpdate_at ho3 rfl ?_ (Nat.zero_le _) (by rw [sizeLine_eq]; simp))
  simp only [bne_self_eq_false, Bool.false_eq_true, if_false]
  refine wpAny_pure (h _ c2 (kas_fr F3 s2 haL ha0) ?_)
  intro p hp
  rcases List.mem_cons.mp hp with rfl | hp
  · exact ⟨hc2, haL, ha0⟩
  · exact kas_news N2 s2 hna p hp

theorem sort_one {l : Addr} {v : Value} {Q : Value → Shared → Prop} (F : Fr gc L s.heap m) (N : News gc L s.heap news) (hl : s.heap.IsList l #[v])
    (hQ : ∀ D h' c, Fr gc L h' m → News gc L h' ((D, listOf #[v] c) :: news) → Q (.ref D) { s with heap := h' }) :
    wpAny (model prog w) A (call (.builtin "sorted") [.ref l]) Q NoE s := by
  refine Calls.call_function_entry kind_sorted plain_sorted entry_sorted (args_sorted1 _) ?_
  unfold Builtin.«sorted»
  refine wpAny_bind (m := checkCount "sorted" 1 1 _) (wpAny_pure ?_)
  refine wpAny_bind (collect_list (vs := [v]) hl ?_ (by rw [sizeLine_eq]; simp))
  refine wpAny_bind (wpAny_newList ?_ (by rw [sizeLine_eq]; simp))
  have hsz : ((s.heap.push (seqObj "list" #[] 0)).update s.heap.objs.size (Obj.mapSeq (· ++ [v].toArray))).objs.size = s.heap.objs.size + 1 := by
    rw [Heap.size_update, size_push']
  have hoL : (((s.heap.push (seqObj "list" #[] 0)).update s.heap.objs.size (Obj.mapSeq (· ++ [v].toArray))).push (seqObj "list" [v].toArray 0)).get? (s.heap.objs.size + 1) = some (seqObj "list" [v].toArray 0) := by
    rw [← hsz]; exact Heap.get?_push_size _ rfl
  have keep : ∀ b o, s.heap.get? b = some o → (((s.heap.push (seqObj "list" #[] 0)).update s.heap.objs.size (Obj.mapSeq (· ++ [v].toArray))).push (seqObj "list" [v].toArray 0)).get? b = some o := fun b o q => by
    have hlt : b < s.heap.objs.size := Heap.lt_size q
    rw [Heap.get?_push_ne _ _ _ (by rw [hsz]; exact Nat.ne_of_lt (Nat.lt_succ_of_lt hlt)), Heap.get?_update_ne _ _ _ _ (Nat.ne_of_lt hlt), Heap.get?_push_ne _ _ _ (Nat.ne_of_lt hlt)]
    exact q
  have hL : L < s.heap.objs.size := F.ns.lt
  show wpAny _ _ _ _ _ { s with heap := ((s.heap.push (seqObj "list" #[] 0)).update s.heap.objs.size (Obj.mapSeq (· ++ [v].toArray))).push (seqObj "list" [v].toArray 0) }
  rw [hsz]
  refine wpAny_bind (wpAny_holding (wpAny_call_entry slot_list_sort ⟨_, hoL, rfl⟩ entry_list_sort ?body (args_list_sort _)))
  case body =>
    refine sort_body (s := { s with heap := ((s.heap.push (seqObj "list" #[] 0)).update s.heap.objs.size (Obj.mapSeq (· ++ [v].toArray))).push (seqObj "list" [v].toArray 0) })
      (F.kept keep) (N.grown keep) hoL (Nat.ne_of_gt (Nat.lt_succ_of_lt hL)) (Heap.get?_none_of_le (Nat.le_trans F.above (Nat.le_succ_of_le (Nat.le_of_lt hL))))
      (fun p hp => Nat.ne_of_lt (Nat.lt_succ_of_lt (Heap.lt_size (N p hp).1))) fun h' c F' N' => ?_
    exact ⟨_, rfl, wpAny_pure ⟨_, rfl, hQ _ h' c F' N'⟩⟩
end
end Mine
end

section
open PySem PySem.W PyProof.Rows PySem.Calls
namespace Mine
set_option maxRecDepth 100000
set_option maxHeartbeats 1000000

theorem ltT_len {a b : List Nat} (h : a.length < b.length) : ltT a b = true := by
  unfold ltT
  rw [if_neg (by omega)]
  exact decide_eq_true h
theorem ltT_lex {a b : List Nat} (h : a.length = b.length) (h2 : a < b) : ltT a b = true := by
  unfold ltT
  rw [if_pos h]
  exact decide_eq_true h2
theorem lt_pre : ∀ (c : List Nat) {a b : List Nat}, a < b → c ++ a < c ++ b
  | [], _, _, h => h
  | x :: c, a, b, h => List.Lex.cons (lt_pre c h)
theorem lt_head {x y : Nat} {a b : List Nat} (h : x < y) : x :: a < y :: b := List.Lex.rel h

theorem pw_cons {a b : List Nat} {l : List (List Nat)} (h : ltT a b = true) (h2 : (b :: l).Pairwise (fun a b => ltT a b = true)) : (a :: b :: l).Pairwise (fun a b => ltT a b = true) := by
  refine List.pairwise_cons.mpr ⟨fun c hc => ?_, h2⟩
  rcases List.mem_cons.mp hc with rfl | hc
  · exact h
  · exact ltT_trans _ _ _ h ((List.pairwise_cons.mp h2).1 c hc)
theorem pw_one (a : List Nat) : [a].Pairwise (fun a b => ltT a b = true) := List.pairwise_singleton _ _

/-- the sort of a list that lies shuffled -/
theorem shuffle {S : List (List Nat)} {q : List Nat} (hS : S.Pairwise (fun a b => ltT a b = true)) (hq : ∀ x ∈ q, x < S.length) (i j : Nat) (hi : i < q.length) (hj : j < q.length) :
    ltT ((q.map (S.getD · [])).getD i []) ((q.map (S.getD · [])).getD j []) = decide (q.getD i 0 < q.getD j 0) := by
  have e : ∀ k, k < q.length → (q.map (S.getD · [])).getD k [] = S.getD (q.getD k 0) [] := fun k hk => by
    simp [List.getD_eq_getElem?_getD, List.getElem?_map, hk]
  rw [e i hi, e j hj]
  have hi2 : q.getD i 0 < S.length := hq _ (by simp [List.getD_eq_getElem?_getD, hi])
  have hj2 : q.getD j 0 < S.length := hq _ (by simp [List.getD_eq_getElem?_getD, hj])
  generalize q.getD i 0 = a at *
  generalize q.getD j 0 = b at *
  have w : ∀ a b, a < b → b < S.length → ltT (S.getD a []) (S.getD b []) = true := fun a b h1 h2 => by
    have := List.pairwise_iff_getElem.mp hS a b (by omega) h2 h1
    simpa [List.getD_eq_getElem?_getD, h2, Nat.lt_trans h1 h2] using this
  rcases Nat.lt_trichotomy a b with h | h | h
  · rw [w a b h hj2, decide_eq_true h]
  · subst h
    rw [ltT_irrefl, decide_eq_false (Nat.lt_irrefl _)]
  · rw [ltT_asymm _ _ (w b a h hi2), decide_eq_false (by omega)]

/-- what the sort of the texts finds -/
def Sorts (Ts S : List (List Nat)) (p : List Nat) : Prop :=
  kasRun (fun i j => ltT (Ts.getD i []) (Ts.getD j [])) Ts.length (kas_sort Ts.length) = some p.toArray ∧ S = p.map (Ts.getD · []) ∧ (∀ x ∈ p, x < Ts.length) ∧ S.Pairwise (fun a b => ltT a b = true) ∧ ∀ t, t ∈ S ↔ t ∈ Ts

theorem sorts_of {Ts S : List (List Nat)} {p q : List Nat} (hS : S.Pairwise (fun a b => ltT a b = true)) (hq : ∀ x ∈ q, x < S.length) (hq2 : ∀ x, x < S.length → x ∈ q)
    (hrun : kasRun (fun i j => decide (q.getD i 0 < q.getD j 0)) q.length (kas_sort q.length) = some p.toArray) (hp : ∀ x ∈ p, x < q.length) (hpq : p.map (q.getD · 0) = List.range S.length) (hTs : q.map (S.getD · []) = Ts) : Sorts Ts S p := by
  subst hTs
  refine ⟨?_, ?_, ?_, hS, fun t => ?_⟩
  · rw [List.length_map, kasRun_congr (lt' := fun i j => decide (q.getD i 0 < q.getD j 0)) (fun i j hi hj => shuffle hS hq i j hi hj)]
    exact hrun
  · have e : p.map ((q.map (S.getD · [])).getD · []) = (p.map (q.getD · 0)).map (S.getD · []) := by
      rw [List.map_map]
      refine List.map_congr_left fun k hk => ?_
      have := hp k hk
      simp [List.getD_eq_getElem?_getD, List.getElem?_map, this]
    rw [e, hpq]
    refine List.ext_getElem (by simp) fun k h1 h2 => ?_
    simp [List.getD_eq_getElem?_getD, h1]
  · intro x hx; rw [List.length_map]; exact hp x hx
  · rw [List.mem_map]
    constructor
    · intro h
      obtain ⟨k, hk, rfl⟩ := List.mem_iff_getElem.mp h
      exact ⟨k, hq2 k hk, by simp [List.getD_eq_getElem?_getD, hk]⟩
    · rintro ⟨k, hk, rfl⟩
      have := hq k hk
      simp [List.getD_eq_getElem?_getD, this]

theorem step_all {t r : List Nat} (h : t.getLast? ≠ some 13) (Ts : List (List Nat)) : stepT (t :: Ts) r = (t ++ [10] ++ r) :: (t ++ [13] ++ r) :: (t ++ [13, 10] ++ r) :: stepT Ts r := by
  have : ends.filter (okEnd t) = ends := by
    refine List.filter_eq_self.mpr fun e _ => ?_
    unfold okEnd
    exact decide_eq_true (.inr h)
  unfold stepT
  rw [List.flatMap_cons, this]
  rfl
theorem step_cr {t r : List Nat} (h : t.getLast? = some 13) (Ts : List (List Nat)) : stepT (t :: Ts) r = (t ++ [13] ++ r) :: (t ++ [13, 10] ++ r) :: stepT Ts r := by
  have : ends.filter (okEnd t) = [[13], [13, 10]] := by
    unfold ends okEnd
    rw [h]; rfl
  unfold stepT
  rw [List.flatMap_cons, this]
  rfl
theorem step_nil (r : List Nat) : stepT [] r = [] := rfl

theorem big_last {t : List Nat} (h : Big t) : t.getLast? ≠ some 13 := fun q => by
  have := h 13 (List.mem_of_getLast? q)
  omega
theorem big_last2 {t u : List Nat} {c : Nat} (hu : Big u) (h : u = [] → c ≠ 13) : (t ++ [c] ++ u).getLast? ≠ some 13 := by
  rw [List.getLast?_append]
  cases e : u.getLast? with
  | none =>
    have : u = [] := List.getLast?_eq_none_iff.mp e
    simpa using h this
  | some x =>
    have := big_last hu
    rw [e] at this
    simpa using this

theorem sorts2 (r0 r1 : List Nat) (h0 : Big r0) : ∃ S p, Sorts (stepT [r0] r1) S p ∧ (stepT [r0] r1).length = 3 := by
  rw [step_all (big_last h0), step_nil]
  refine ⟨[r0 ++ [10] ++ r1, r0 ++ [13] ++ r1, r0 ++ [13, 10] ++ r1], [0, 1, 2], sorts_of (q := [0, 1, 2]) ?_ (by simp) (by intro x hx; simp at hx ⊢; omega) (by decide +kernel) (by simp) (by rfl) rfl, rfl⟩
  refine pw_cons (ltT_lex (by simp) ?_) (pw_cons (ltT_len (by simp)) (pw_one _))
  rw [List.append_assoc, List.append_assoc]
  exact lt_pre _ (lt_head (by decide))

theorem sorts3 (r0 r1 r2 : List Nat) (h0 : Big r0) (h1 : Big r1) : ∃ S p, Sorts (stepT (stepT [r0] r1) r2) S p ∧ 2 ≤ (stepT (stepT [r0] r1) r2).length := by
  rw [step_all (big_last h0), step_nil]
  have e1 : (r0 ++ [10] ++ r1).getLast? ≠ some 13 := big_last2 h1 (by simp)
  have e3 : (r0 ++ [13, 10] ++ r1).getLast? ≠ some 13 := by
    have := big_last2 (t := r0 ++ [13]) (c := 10) h1 (by simp)
    simpa using this
  cases r1 with
  | nil =>
    rw [step_all e1, step_cr (by simp), step_all e3, step_nil]
    refine ⟨[r0 ++ [10] ++ [] ++ [10] ++ r2, r0 ++ [10] ++ [] ++ [13] ++ r2, r0 ++ [13] ++ [] ++ [13] ++ r2, r0 ++ [10] ++ [] ++ [13, 10] ++ r2, r0 ++ [13, 10] ++ [] ++ [10] ++ r2, r0 ++ [13, 10] ++ [] ++ [13] ++ r2, r0 ++ [13] ++ [] ++ [13, 10] ++ r2, r0 ++ [13, 10] ++ [] ++ [13, 10] ++ r2], [0, 1, 3, 2, 5, 6, 4, 7],
      sorts_of (q := [0, 1, 3, 2, 6, 4, 5, 7]) ?_ (by simp) (by intro x hx; simp at hx ⊢; omega) (by decide +kernel) (by simp) (by rfl) rfl, by simp⟩
    simp only [List.append_assoc, List.cons_append, List.nil_append]
    refine pw_cons (ltT_lex (by simp) ?_) (pw_cons (ltT_lex (by simp) ?_) (pw_cons (ltT_len (by simp)) (pw_cons (ltT_lex (by simp) ?_) (pw_cons (ltT_lex (by simp) ?_) (pw_cons (ltT_lex (by simp) ?_) (pw_cons (ltT_len (by simp)) (pw_one _)))))))
    all_goals refine lt_pre _ ?_
    all_goals simp [List.cons_lt_cons_iff]
  | cons x r1 =>
    have hx : 32 ≤ x := (h1 x (.head _)).1
    have e2 : (r0 ++ [13] ++ (x :: r1)).getLast? ≠ some 13 := big_last2 h1 (by simp)
    rw [step_all e1, step_all e2, step_all e3, step_nil]
    refine ⟨[r0 ++ [10] ++ (x :: r1) ++ [10] ++ r2, r0 ++ [10] ++ (x :: r1) ++ [13] ++ r2, r0 ++ [13] ++ (x :: r1) ++ [10] ++ r2, r0 ++ [13] ++ (x :: r1) ++ [13] ++ r2, r0 ++ [10] ++ (x :: r1) ++ [13, 10] ++ r2,
      r0 ++ [13, 10] ++ (x :: r1) ++ [10] ++ r2, r0 ++ [13, 10] ++ (x :: r1) ++ [13] ++ r2, r0 ++ [13] ++ (x :: r1) ++ [13, 10] ++ r2, r0 ++ [13, 10] ++ (x :: r1) ++ [13, 10] ++ r2], [0, 1, 3, 4, 2, 6, 7, 5, 8],
      sorts_of (q := [0, 1, 4, 2, 3, 7, 5, 6, 8]) ?_ (by simp) (by intro x hx; simp at hx ⊢; omega) (by decide +kernel) (by simp) (by rfl) rfl, by simp⟩
    simp only [List.append_assoc, List.cons_append, List.nil_append]
    refine pw_cons (ltT_lex (by simp only [List.length_append, List.length_cons]; try omega) ?_) (pw_cons (ltT_lex (by simp only [List.length_append, List.length_cons]; try omega) ?_) (pw_cons (ltT_lex (by simp only [List.length_append, List.length_cons]; try omega) ?_) (pw_cons (ltT_len (by simp only [List.length_append, List.length_cons]; try omega)) (pw_cons (ltT_lex (by simp only [List.length_append, List.length_cons]; try omega) ?_) (pw_cons (ltT_lex (by simp only [List.length_append, List.length_cons]; try omega) ?_) (pw_cons (ltT_lex (by simp only [List.length_append, List.length_cons]; try omega) ?_) (pw_cons (ltT_len (by simp only [List.length_append, List.length_cons]; try omega)) (pw_one _))))))))
    all_goals refine lt_pre _ ?_
    · exact List.Lex.cons (List.Lex.cons (lt_pre r1 (lt_head (by decide))))
    · exact lt_head (by decide)
    · exact List.Lex.cons (List.Lex.cons (lt_pre r1 (lt_head (by decide))))
    · exact lt_head (by decide)
    · exact List.Lex.cons (List.Lex.cons (List.Lex.cons (lt_pre r1 (lt_head (by decide)))))
    · exact List.Lex.cons (lt_head (by omega))

/-- the texts by rows from behind -/
theorem fold_textsR : ∀ (rs : List (List Nat)) (r0 : List Nat), rs.foldl stepT [r0] = textsR (r0 :: rs).reverse := by
  intro rs r0
  have : ∀ l : List (List Nat), (l.reverse).foldl stepT [r0] = textsR (l ++ [r0]) := by
    intro l
    induction l with
    | nil => rfl
    | cons r l ih =>
      rw [List.reverse_cons, List.foldl_append, ih]
      cases l with
      | nil => rfl
      | cons a l => rfl
  have h := this rs.reverse
  rw [List.reverse_reverse] at h
  rw [h, List.reverse_cons]
end Mine
end

section
open PySem PySem.W PyProof.Rows PySem.Calls
namespace Mine
set_option maxRecDepth 100000
set_option maxHeartbeats 4000000

local macro_rules | `(tactic| walk_at "pad 0") => `(tactic| fail)
local macro_rules | `(tactic| walk_at "pad 1") => `(tactic| fail)
local macro_rules | `(tactic| walk_at "pad 2") => `(tactic| fail)
local macro_rules | `(tactic| walk_at "pad 3") => `(tactic| fail)
local macro_rules | `(tactic| walk_at "pad 4") => `(tactic| fail)
local macro_rules | `(tactic| walk_at "pad 5") => `(tactic| fail)
local macro_rules | `(tactic| walk_at "pad 6") => `(tactic| fail)
local macro_rules | `(tactic| walk_at "pad 7") => `(tactic| fail)
local macro_rules | `(tactic| walk_at "pad 8") => `(tactic| fail)
local macro_rules | `(tactic| walk_at "pad 9") => `(tactic| fail)
local macro_rules | `(tactic| walk_at "mlk") => `(tactic| first | assumption | exact if_pos rfl | (with_unfolding_all exact rfl) | (refine Eq.trans (if_neg (by decide +kernel)) ?_; walk_at "mlk"))
local macro_rules | `(tactic| walk_at "eval Name") => `(tactic| ((with_reducible show wpAny _ _ (eval (Expr.Name _ _) _) _ _ _); first
  | (refine ld (by assumption) (by walk_at "mlk") ?_ (by kernel_rfl!) (by kernel_rfl!) (by decide +kernel))
  | (refine wpAny_Name (wpAny_loadName_local rfl (by rfl) (by assumption) (by assumption) ?_) (by decide +kernel))
  | (refine Calls.Name_function_global rfl (by rfl) (Calls.loadGlobal_builtin (by assumption) (by assumption) (by assumption) (by assumption) ?_) (by decide +kernel))
  | (refine gname (by assumption) (by assumption) (by rfl) ?_ (by kernel_rfl!) (by kernel_rfl!) (by decide +kernel))
  | (refine bname (by assumption) (by assumption) (by rfl) (by first | exact boot_len | exact boot_max | exact boot_sorted | exact boot_chr) (by decide +kernel) ?_ (by kernel_rfl!) (by kernel_rfl!) (by decide +kernel))))
local macro_rules | `(tactic| walk_at "mw") => `(tactic| first
  | ((fail_if_success (with_reducible show wpAny _ _ (exec (Stmt.While _ _ _ _) _) _ _ _)); (fail_if_success (with_reducible show wpAny _ _ (exec (Stmt.For _ _ _ _ _) _) _ _ _)); (fail_if_success (with_reducible show wpAny _ _ (call _ _) _ _ _)); (fail_if_success (with_reducible show wpAny _ _ (newTuple _) _ _ _)); (fail_if_success (with_reducible show wpAny _ _ (newList _) _ _ _)); (fail_if_success (with_reducible show wpAny _ _ (subscriptTail _ _ (Value.ref _) _) _ _ _)); (fail_if_success (with_reducible show wpAny _ _ (eval (Expr.ListComp _ _ _ _) _) _ _ _)); (fail_if_success (with_reducible show (ite _ _ _ : Prop))); walk1; (try dsimp only)))


section
variable {w : World} {A : Around} {s : Shared} {gc : Heap} {L : Addr} {m : Str → Option Value} {news : List (Addr × Obj)}

def compE : Expr := match (fnBody 13).getD 2 noStmt with
  | Stmt.Return (some (Expr.Call _ [e] _ _)) _ => e
  | _ => Expr.Name (Str.ofString "x") ⟨0, 0, 0, 0⟩

abbrev PairG (v : Value) (vs : Array Value) : Prop := ∃ y t u, v = .str y t ∧ vs = #[.int y.cps.size u, .str y t]
theorem pairs_led {h' : Heap} (F' : Fr gc L h' m) : ∀ {tv ys : List Value} {Ts : List (List Nat)}, StrsAre tv (Ts.map txt) → Paired (TupIs PairG h') tv ys →
    ∃ tups, News gc L h' tups ∧ ys.length = Ts.length ∧ ∀ h, Fr gc L h m → News gc L h tups → ∀ (i : Nat) (t : List Nat), Ts[i]? = some t → ∃ v, ys[i]? = some v ∧ IsPair h v t
  | _, _, [], hs, hp => by
    cases hs
    cases hp
    exact ⟨[], (fun p hp => by cases hp), rfl, fun _ _ _ i t h => by cases h⟩
  | _, _, u :: Ts, hs, hp => by
    rw [List.map_cons] at hs
    cases hs with
    | cons _ tu hs =>
      cases hp with
      | cons h1 hp =>
        obtain ⟨tups, NT, hlen, hall⟩ := pairs_led F' hs hp
        obtain ⟨T, vs, rfl, ⟨o, ho, hc, k, hd⟩, y, t, c, e, rfl⟩ := h1
        cases e
        have hsz : ((txt u).cps.size : Int) = u.length := by rw [show (txt u).cps.size = (txt u).length from rfl, txt_len]
        rw [hsz] at hd
        have hTL : T ≠ L := by
          rintro rfl
          obtain ⟨o', es, ep, ho', hd', _⟩ := F'.ns
          rw [ho] at ho'
          cases ho'
          rw [hd] at hd'
          cases hd'
        cases hg : gc.get? T with
        | none =>
          refine ⟨(T, o) :: tups, ?_, by simp [hlen], ?_⟩
          · intro p hp
            rcases List.mem_cons.mp hp with rfl | hp
            · exact ⟨ho, hTL, hg⟩
            · exact NT p hp
          · intro h Fh Nh i t hi
            cases i with
            | zero =>
              simp at hi
              subst hi
              exact ⟨_, rfl, T, o, _, _, _, rfl, (Nh _ (.head _)).1, hc, hd⟩
            | succ i =>
              obtain ⟨v, hv, r⟩ := hall h Fh (fun p hp => Nh p (.tail _ hp)) i t (by simpa using hi)
              exact ⟨v, by simpa using hv, r⟩
        | some o2 =>
          have : o2 = o := by
            have := F'.keep _ _ hg
            rw [ho] at this
            exact (Option.some.inj this).symm
          subst this
          refine ⟨tups, NT, by simp [hlen], ?_⟩
          intro h Fh Nh i t hi
          cases i with
          | zero =>
            simp at hi
            subst hi
            exact ⟨_, rfl, T, o2, _, _, _, rfl, Fh.keep _ _ hg, hc, hd⟩
          | succ i =>
            obtain ⟨v, hv, r⟩ := hall h Fh Nh i t (by simpa using hi)
            exact ⟨v, by simpa using hv, r⟩

/-- what the pairs hold, whatever is made later -/
theorem comp_ct {ltx : Addr} {tv : List Value} {Ts : List (List Nat)} {Q : Value → Shared → Prop} (am : Amb w gc) (hh : A.handled = none) (F : Fr gc L s.heap m) (N : News gc L s.heap news) (hl : s.heap.IsList ltx tv.toArray)
    (m2 : m (Str.ofString "texts") = some (.ref ltx)) (hTs : StrsAre tv (Ts.map txt)) (hTl : Ts.length ≤ 9) (ht : ∀ t ∈ Ts, t.length ≤ 100)
    (hQ : ∀ D h' tk ys news', Fr gc L h' m → News gc L h' news' → h'.IsList D (List.toArray ys) → ys.length = Ts.length →
      (∀ h, Fr gc L h m → News gc L h news' → ∀ (i : Nat) (t : List Nat), Ts[i]? = some t → ∃ v, ys[i]? = some v ∧ IsPair h v t) → Q (.ref D) { s with heap := h', toks := tk }) :
    wpAny (model prog w) A (eval compE (textsEnv L)) Q NoE s := by
  refine wpAny_ListComp_tup (fun _ => true) PairG hh (by decide +kernel) (by decide +kernel) rfl (by decide +kernel) (by decide +kernel) ?_ (by intro _; rfl)
  walk_at "eval Name"
  refine ⟨ltx, tv.toArray, rfl, hl, ?_, ?_, ?_, ?_⟩
  · have := hTs.len_eq
    rw [List.length_map] at this
    rw [List.size_toArray, this, sizeLine_eq]; omega
  · intro C v s₂ m₂ E' hv hn hx hk
    exact wpAny_pure ⟨rfl, _, _, rfl, fun _ _ e => e⟩
  · intro C v s₂ m₂ E' hv _ hn hx hk
    obtain ⟨h2, g2, d2, t2, o2⟩ := s₂
    dsimp only at hn hk
    obtain ⟨i, hi, hvi⟩ := List.mem_iff_getElem.mp (List.mem_toArray.mp hv)
    obtain ⟨y, t, rfl, hy⟩ := hTs.item i v (by rw [List.getElem?_eq_getElem hi, hvi])
    rw [List.getElem?_map] at hy
    obtain ⟨u, hu, rfl⟩ := Option.map_eq_some_iff.mp hy
    have hul := ht u (List.mem_of_getElem? hu)
    have am2 : Amb w h2 := am.keeps fun b o q => hk _ _ (F.keep _ _ q)
    obtain ⟨mg, G⟩ := am2.glob
    obtain ⟨mb, B, hb⟩ := am2.blt
    have hmiss : mg (Str.ofString "len") = none := mg_none_of am2.X G (by rfl)
    have hbl : mb (Str.ofString "len") = some (.builtin "len") := (hb _ (by decide +kernel)).trans boot_len
    clear hQ F N hl
    repeat walk_at "mw"
    refine PyProof.Rows.len_str (x := txt u) (by rw [txt_len]; omega) ?_
    repeat walk_at "mw"
    refine wpAny_newTuple ?_ (by rw [sizeLine_eq]; simp)
    exact ⟨⟨_, _, rfl, Heap.get?_none_of_le (Nat.le_refl _), ⟨_, Heap.get?_push_size _ rfl, rfl, _, rfl⟩, txt u, t, _, rfl, rfl⟩, _, _, rfl, fun b o e => Heap.get?_push_of_some _ e⟩
  · intro D h' tk ys hD hl' hp hk
    obtain ⟨ys⟩ := ys
    obtain ⟨F', N'⟩ := back0 F N hk
    have hf : List.filter (fun _ => true) tv.toArray.toList = tv := by simp
    rw [hf] at hp
    obtain ⟨tups, NT, hlen, hall⟩ := pairs_led F' hTs hp
    refine hQ D h' tk ys (tups ++ news) F' ?_ hl' hlen fun h Fh Nh => hall h Fh fun p hp => Nh p (List.mem_append_left _ hp)
    intro p hp
    rcases List.mem_append.mp hp with hp | hp
    · exact NT p hp
    · exact N' p hp
end

end Mine
end

section
open PySem PySem.W PyProof.Rows PySem.Calls
namespace Mine
set_option maxRecDepth 100000
set_option maxHeartbeats 4000000

local macro_rules | `(tactic| walk_at "pad 0") => `(tactic| fail)
local macro_rules | `(tactic| walk_at "pad 1") => `(tactic| fail)
local macro_rules | `(tactic| walk_at "pad 2") => `(tactic| fail)
local macro_rules | `(tactic| walk_at "pad 3") => `(tactic| fail)
local macro_rules | `(tactic| walk_at "pad 4") => `(tactic| fail)
local macro_rules | `(tactic| walk_at "pad 5") => `(tactic| fail)
local macro_rules | `(tactic| walk_at "pad 6") => `(tactic| fail)
local macro_rules | `(tactic| walk_at "pad 7") => `(tactic| fail)
local macro_rules | `(tactic| walk_at "pad 8") => `(tactic| fail)
local macro_rules | `(tactic| walk_at "pad 9") => `(tactic| fail)
local macro_rules | `(tactic| walk_at "pad 10") => `(tactic| fail)
local macro_rules | `(tactic| walk_at "mlk") => `(tactic| first | assumption | exact if_pos rfl | (with_unfolding_all exact rfl) | (refine Eq.trans (if_neg (by decide +kernel)) ?_; walk_at "mlk"))
local macro_rules | `(tactic| walk_at "eval Name") => `(tactic| ((with_reducible show wpAny _ _ (eval (Expr.Name _ _) (envOf _ _ _ _ _)) _ _ _); first
  | (refine ld (by assumption) (by walk_at "mlk") ?_ (by kernel_rfl!) (by kernel_rfl!) (by decide +kernel))
  | (refine gname (by assumption) (by assumption) (by rfl) ?_ (by kernel_rfl!) (by kernel_rfl!) (by decide +kernel))
  | (refine bname (by assumption) (by assumption) (by rfl) (by first | exact boot_len | exact boot_max | exact boot_sorted | exact boot_chr) (by decide +kernel) ?_ (by kernel_rfl!) (by kernel_rfl!) (by decide +kernel))))
local macro_rules | `(tactic| walk_at "mw") => `(tactic| first
  | ((fail_if_success (with_reducible show wpAny _ _ (exec (Stmt.While _ _ _ _) _) _ _ _)); (fail_if_success (with_reducible show wpAny _ _ (exec (Stmt.For _ _ _ _ _) _) _ _ _)); (fail_if_success (with_reducible show wpAny _ _ (call _ _) _ _ _)); (fail_if_success (with_reducible show wpAny _ _ (newTuple _) _ _ _)); (fail_if_success (with_reducible show wpAny _ _ (newList _) _ _ _)); (fail_if_success (with_reducible show wpAny _ _ (subscriptTail _ _ (Value.ref _) _) _ _ _)); (fail_if_success (with_reducible show wpAny _ _ (eval (Expr.ListComp _ _ _ _) _) _ _ _)); (fail_if_success (with_reducible show (ite _ _ _ : Prop))); walk1; (try dsimp only)))

theorem row_for {w : World} {A : Around} {s : Shared} {gc : Heap} {L lr ltx : Addr} {m : Str → Option Value} {c : Nat} {t0 : Tok} {rv' : List Value} {rs : List (List Nat)} {r0 : List Nat} {Q : Flow → Shared → Prop}
  (am : Amb w gc) (hh : A.handled = none) (F : Fr gc L s.heap m) (N : News gc L s.heap [(ltx, listOf #[.str (txt r0) t0] 0)]) (hl : gc.get? lr = some (listOf (Value.str (txt r0) t0 :: rv').toArray c))
  (m1 : m (Str.ofString "rows") = some (.ref lr)) (m2 : m (Str.ofString "texts") = some (.ref ltx)) (hrv' : StrsAre rv' (rs.map txt)) (hrl : rs.length ≤ 2) (hr0 : r0.length ≤ 10) (hrl2 : ∀ r ∈ rs, r.length ≤ 10)
  (hQ : ∀ h tk m' ltx' tv' ct' R', Fr gc L h m' → News gc L h ((ltx', listOf tv'.toArray ct') :: R') → m' (Str.ofString "texts") = some (.ref ltx') → StrsAre tv' ((rs.foldl stepT [r0]).map txt) → Q .next { s with heap := h, toks := tk }) :
  wpAny (model prog w) A (exec rowFor (textsEnv L)) Q NoE s := by
  refine for_mine ?_ ?hs ?ht
  case hs => intro _; rfl
  case ht => intro _ _; rfl
  obtain ⟨h4, g4, d4, k4, o4⟩ := s
  dsimp only at F N hQ
  repeat walk_at "mw"
  have F4 := F
  have N4 := N
  clear F N
  refine kmk_slice (s := ⟨h4, _, _, _, _⟩) F4 N4 (isL (F4.keep _ _ hl)) (.int 1 _) .none ?_ (by rfl) (by intro _; rfl) (by have := hrv'.len_eq; rw [List.length_map] at this; rw [List.size_toArray, List.length_cons, this, sizeLine_eq]; omega)
  intro lsl h5 F5 N5 hlt5
  have e5 : slicePick (Value.str (txt r0) t0 :: rv').toArray (some 1) none none = rv'.toArray := slicePick_from _ 1 (by simp)
  rw [e5] at N5
  repeat walk_at "mw"
  refine row_loop (s := ⟨h5, _, _, _, _⟩) (lsl := lsl) (ltx := ltx) (ct := 0) (R := [(lsl, listOf rv'.toArray 0)]) (tv := [.str (txt r0) t0]) (sv := rv') (rs := rs) (r0 := r0) (Q := Q) am hh F5 ?N6 (.head _) (by walk_at "mlk") (.cons _ _ .nil) hrv' hrl hr0 hrl2 ?hQ
  case N6 =>
    intro p hp
    refine N5 p ?_
    rcases List.mem_cons.mp hp with rfl | hp
    · exact .tail _ (.head _)
    · rw [List.mem_singleton.mp hp]; exact .head _
  case hQ => exact hQ

theorem texts_ct {w : World} {A : Around} {s : Shared} {lr : Addr} {rv : List Value} {c : Nat} {r0 : List Nat} {rs : List (List Nat)} {Q : Value → Shared → Prop}
  (am : Amb w s.heap) (hh : A.handled = none) (hroom : A.depth < recursionLimit)
  (hl : s.heap.get? lr = some (listOf rv.toArray c)) (hrv : StrsAre rv ((r0 :: rs).map txt)) (hrl : rs.length ≤ 2) (hr0 : r0.length ≤ 10) (hrl2 : ∀ r ∈ rs, r.length ≤ 10) (hbig : ∀ r ∈ r0 :: rs, Big r)
  (hQ : ∀ (h' : Heap) (tk' : Nat) (lS : Addr) (sv : List Value) (c : Nat) (S : List (List Nat)), (∀ b o, s.heap.get? b = some o → h'.get? b = some o) → h'.get? lS = some (listOf sv.toArray c) → sv.length = S.length → (∀ (i : Nat) (t : List Nat), S[i]? = some t → ∃ v, sv[i]? = some v ∧ IsPair h' v t) →
    S.Pairwise (fun a b => ltT a b = true) → (∀ t, t ∈ S ↔ t ∈ textsR (r0 :: rs).reverse) → Q (.ref lS) { s with heap := h', toks := tk' }) :
  wpAny (model prog w) A (call (.ref 88) [.ref lr]) Q NoE s := by
  refine enter (binds := [(Str.ofString "rows", .ref lr)]) am (by rfl) (by rfl) (by omega) (by rfl) (locs rfl) ?_ rfl rfl rfl (by decide)
  intro h₁ hns hk
  have F : Fr s.heap s.heap.objs.size h₁ _ := ⟨hns, hk, Nat.le_refl _⟩
  have N : News s.heap s.heap.objs.size h₁ [] := fun _ h => nomatch h
  clear hns hk
  generalize s.heap.objs.size = L at *
  obtain ⟨rv', t0, rfl, hrv'⟩ : ∃ rv' t0, rv = .str (txt r0) t0 :: rv' ∧ StrsAre rv' (rs.map txt) := by
    cases hrv with
    | cons y t h => exact ⟨_, t, rfl, h⟩
  repeat walk_at "mw"
  refine item_litK (isL (F.keep _ _ hl)) (by decide) (by decide) rfl ?_ (by with_unfolding_all rfl)
  repeat walk_at "mw"
  refine newList_N F N ?_ (by rw [sizeLine_eq]; simp)
  intro h2 F2 N2
  dsimp only at N2
  generalize h₁.objs.size = ltx at *
  repeat walk_at "mw"
  rename Fr _ _ _ _ => F3
  rename News _ _ _ _ => N3
  have hh' : (A.deeper (textsEnv L)).handled = none := hh
  rename_i h3
  refine row_for (s := ⟨h3, _, _, _, _⟩) (ltx := ltx) am hh' F3 N3 hl (by walk_at "mlk") (by walk_at "mlk") hrv' hrl hr0 hrl2 ?_
  intro h7 tk7 m7 ltx7 tv7 ct7 R7 F7 N7 m7t htv
  clear F N F2 N2 F3 N3
  have hb0 : Big r0 := hbig r0 (.head _)
  have hfl : (rs.foldl stepT [r0]).length ≤ 9 := by
    have h1 := fold_len rs [r0]
    have h9 : 3 ^ rs.length ≤ 3 ^ 2 := Nat.pow_le_pow_right (by omega) hrl
    simp only [List.length_singleton] at h1
    omega
  have hft : ∀ t ∈ rs.foldl stepT [r0], t.length ≤ 100 := by
    intro t ht
    have := fold_t rs [r0] 10 hrl2 (by intro t ht; rw [List.mem_singleton.mp ht]; exact hr0) t ht
    omega
  have hfR := fold_textsR rs r0
  repeat walk_at "mw"
  refine comp_ct (s := ⟨h7, _, _, _, _⟩) (Ts := rs.foldl stepT [r0]) am hh' F7 N7 (isL (N7 _ (.head _)).1) m7t htv hfl hft ?_
  intro D h8 tk8 ys news8 F8 N8 hD hylen hall
  repeat walk_at "mw"
  have many : ∀ S p, Sorts (rs.foldl stepT [r0]) S p → 2 ≤ (rs.foldl stepT [r0]).length → wpAny (model prog w) (A.deeper (textsEnv L)) (call (.builtin "sorted") [.ref D]) (fun v s' => Q v s') NoE { s with heap := h8, toks := tk8 } := by
    rintro S p ⟨hrun, hSe, hp, hpw, hmem⟩ h2
    refine sort_at (s := ⟨h8, _, _, _, _⟩) F8 N8 hD hylen h2 (by omega) hall hrun ?_
    intro D9 h9 c9 F9 N9
    refine hQ h9 tk8 D9 (p.map fun i => ys.getD i .none) c9 S F9.keep (N9 _ (.head _)).1 (by simp [hSe]) ?_ hpw (fun t => by rw [← hfR]; exact hmem t)
    intro i t hi
    rw [hSe, List.getElem?_map] at hi
    obtain ⟨k, hk, e⟩ := Option.map_eq_some_iff.mp hi
    have hkl := hp k (List.mem_of_getElem? hk)
    obtain ⟨v, hv, r⟩ := hall h9 F9 (fun q hq => N9 q (.tail _ hq)) k t (by rw [← e, List.getD_eq_getElem?_getD, List.getElem?_eq_getElem hkl]; rfl)
    exact ⟨v, by rw [List.getElem?_map, hk, Option.map_some, List.getD_eq_getElem?_getD, hv]; rfl, r⟩
  rcases rs with _ | ⟨r1, _ | ⟨r2, _ | ⟨r3, rs⟩⟩⟩
  · obtain ⟨v, rfl⟩ : ∃ v, ys = [v] := by
      match ys, hylen with
      | [v], _ => exact ⟨v, rfl⟩
    refine sort_one (s := ⟨h8, _, _, _, _⟩) F8 N8 hD ?_
    intro D9 h9 c9 F9 N9
    exact hQ h9 tk8 D9 [v] c9 [r0] F9.keep (N9 _ (.head _)).1 rfl (hall h9 F9 (fun q hq => N9 q (.tail _ hq))) (pw_one _) (fun t => Iff.rfl)
  · obtain ⟨S, p, hS, h3⟩ := sorts2 r0 r1 hb0
    exact many S p hS (by show 2 ≤ (stepT [r0] r1).length; omega)
  · obtain ⟨S, p, hS, h3⟩ := sorts3 r0 r1 r2 hb0 (hbig r1 (.tail _ (.head _)))
    exact many S p hS h3
  · simp only [List.length_cons] at hrl; omega
end Mine
end

section
open PySem PySem.W PyProof.Rows PySem.Calls
namespace Mine
set_option maxRecDepth 100000

def jn (sep : List Nat) : List (List Nat) → List Nat
  | [] => []
  | [x] => x
  | x :: rest => x ++ sep ++ jn sep rest
theorem jn_cons (sep x y : List Nat) (l : List (List Nat)) : jn sep (x :: y :: l) = x ++ sep ++ jn sep (y :: l) := rfl
theorem join_rows' (sep : List Nat) : ∀ rows : List (List Nat), Str.join (txt sep) (rows.map txt) = txt (jn sep rows)
  | [] => rfl
  | [x] => rfl
  | x :: y :: l => by
    have ih := join_rows' sep (y :: l)
    rw [List.map_cons, List.map_cons, join_cons_cons, jn_cons]
    rw [List.map_cons] at ih
    rw [ih, txt_app, txt_app]
theorem join_rows (sep : List Nat) (rows : List (List Nat)) : Txt.join (txt sep) (rows.map txt) = txt (jn sep rows) := (eq_of_beq (join_plain_closes _ _)).trans (join_rows' sep rows)

theorem quo_cons (x y : List Nat) (l : List (List Nat)) : quo (x :: y :: l) = dot x ++ [13, 10] ++ quo (y :: l) := rfl
theorem quo_jn : ∀ rows : List (List Nat), jn [13, 10] (rows.map dot) = quo rows
  | [] => rfl
  | [x] => rfl
  | x :: y :: l => by
    have ih := quo_jn (y :: l)
    rw [List.map_cons, List.map_cons, jn_cons, quo_cons, ← ih, List.map_cons]

theorem quote_jn : ∀ (rows : List (List Nat)) (u : List Nat), Ls u → u.getLast? ≠ some 13 → (∀ r ∈ rows, Plain r) → rows ≠ [] → quote (u ++ jn [10] rows) = quote u ++ quo rows
  | [], _, _, _, _, h => absurd rfl h
  | [r], u, hu, _, hp, _ => quote_row hu (hp r (.head _))
  | r :: r2 :: l, u, hu, h13, hp, _ => by
    have hr := hp r (.head _)
    have hlast : (u ++ r).getLast? ≠ some 13 := by
      rw [List.getLast?_append]
      cases e : r.getLast? with
      | none => simpa using h13
      | some x =>
        intro q
        simp at q
        subst q
        exact no13 hr (List.mem_of_getLast? e)
    obtain ⟨q1, q2⟩ := quote_nl (crlf_snoc_nl hlast)
    have ih := quote_jn (r2 :: l) (u ++ r ++ [10]) q2 (by simp) (fun x hx => hp x (.tail _ hx)) (by simp)
    rw [jn_cons, quo_cons, show u ++ (r ++ [10] ++ jn [10] (r2 :: l)) = u ++ r ++ [10] ++ jn [10] (r2 :: l) by simp, ih, q1, quote_row hu hr]
    simp
theorem quote_rows {rows : List (List Nat)} (hp : ∀ r ∈ rows, Plain r) (hne : rows ≠ []) : quote (jn [10] rows) = quo rows := by
  have := quote_jn rows [] ls_nil (by simp) hp hne
  simpa [quote, crlf, stuff] using this

theorem quoR_rev : ∀ l : List (List Nat), quoR l = quo l.reverse
  | [] => rfl
  | [r] => rfl
  | r :: r2 :: l => by
    have ih := quoR_rev (r2 :: l)
    rw [List.reverse_cons, quoR_snoc _ _ (by simp), ← ih]
    rfl

theorem dot_len (r : List Nat) : (dot r).length ≤ r.length + 1 := by
  unfold dot
  split <;> simp
theorem quo_len : ∀ rows : List (List Nat), (quo rows).length + 2 ≤ (rows.map List.length).sum + 3 * rows.length + 2
  | [] => by simp [quo]
  | [r] => by have := dot_len r; simp [quo]; omega
  | r :: r2 :: l => by
    have h1 := dot_len r
    have ih := quo_len (r2 :: l)
    rw [quo_cons]
    simp only [List.length_append, List.length_cons, List.length_nil, List.map_cons, List.sum_cons] at ih ⊢
    omega
theorem jn_len : ∀ rows : List (List Nat), (jn [10] rows).length ≤ (rows.map List.length).sum + rows.length
  | [] => by simp [jn]
  | [r] => by simp [jn]
  | r :: r2 :: l => by
    have ih := jn_len (r2 :: l)
    rw [jn_cons]
    simp only [List.length_append, List.length_cons, List.length_nil, List.map_cons, List.sum_cons] at ih ⊢
    omega
theorem RowsOk.quo12 {n : Nat} {rows : List (List Nat)} (h : RowsOk n rows) (hn : n ≤ 5) : (quo rows).length ≤ 12 := by
  have h1 := quo_len rows
  have h2 := h.few
  have h3 := h.size
  omega
theorem len_le_sum {r : List Nat} : ∀ {rows : List (List Nat)}, r ∈ rows → r.length ≤ (rows.map List.length).sum
  | [], h => nomatch h
  | x :: l, h => by
    rw [List.map_cons, List.sum_cons]
    rcases List.mem_cons.mp h with rfl | h
    · omega
    · have := len_le_sum h; omega

theorem jn_nil_mem : ∀ (rows : List (List Nat)) (c : Nat), c ∈ jn [] rows ↔ ∃ r ∈ rows, c ∈ r
  | [], c => by simp [jn]
  | [r], c => by simp [jn]
  | r :: r2 :: l, c => by
    have ih := jn_nil_mem (r2 :: l) c
    rw [jn_cons, List.append_nil, List.mem_append, ih]
    simp
theorem jn_nil_len : ∀ (rows : List (List Nat)), (jn [] rows).length ≤ (rows.map List.length).sum
  | [] => by simp [jn]
  | [r] => by simp [jn]
  | r :: r2 :: l => by
    have ih := jn_nil_len (r2 :: l)
    rw [jn_cons]
    simp only [List.length_append, List.length_nil, List.map_cons, List.sum_cons] at ih ⊢
    omega

/-- the signs of a text are those of its rows and of its line ends -/
theorem texts_signs : ∀ (rows : List (List Nat)) (t : List Nat), t ∈ textsR rows → ∀ c ∈ t, c = 10 ∨ c = 13 ∨ ∃ r ∈ rows, c ∈ r
  | [], _, h => nomatch h
  | [r], t, h => by
    rw [show textsR [r] = [r] from rfl, List.mem_singleton] at h
    subst h
    exact fun c hc => .inr (.inr ⟨_, .head _, hc⟩)
  | r :: r2 :: l, t, h => by
    rw [show textsR (r :: r2 :: l) = (textsR (r2 :: l)).flatMap fun t => (ends.filter (okEnd t)).map fun e => t ++ e ++ r from rfl] at h
    simp only [List.mem_flatMap, List.mem_map, List.mem_filter] at h
    obtain ⟨t', ht', e, ⟨he, _⟩, rfl⟩ := h
    intro c hc
    rcases List.mem_append.mp hc with hc | hc
    · rcases List.mem_append.mp hc with hc | hc
      · rcases texts_signs (r2 :: l) t' ht' c hc with h | h | ⟨x, hx, hcx⟩
        · exact .inl h
        · exact .inr (.inl h)
        · exact .inr (.inr ⟨x, .tail _ hx, hcx⟩)
      · simp only [ends, List.mem_cons, List.not_mem_nil, or_false] at he
        rcases he with rfl | rfl | rfl <;> simp at hc <;> omega
    · exact .inr (.inr ⟨r, .head _, hc⟩)

/-- what is told is what was to be told -/
theorem told_is {n : Nat} {rows : List (List Nat)} {sg : List Nat} {O S : List (List Nat)} (ok : RowsOk n rows) (hsg : ∀ c, c ∈ sg ↔ c ∈ [13, 10, 46] ++ jn [] rows)
    (hO : O.Pairwise (fun a b => ltT a b = true)) (hOm : ∀ t, t ∈ O ↔ Acc (quo rows) sg t) (hS : S.Pairwise (fun a b => ltT a b = true)) (hSm : ∀ t, t ∈ S ↔ t ∈ textsR rows.reverse) : O = S := by
  refine sorted_unique hO hS fun t => ?_
  have hR : ∀ t, t ∈ textsR rows.reverse ↔ quote t = quo rows := fun t => by
    rw [texts_iff rows.reverse (by simpa using ok.ne) (fun r hr => (ok.big r (List.mem_reverse.mp hr)).plain), quoR_rev, List.reverse_reverse]
  rw [hOm, hSm]
  constructor
  · exact fun h => (hR t).mpr h.2
  · intro h
    refine ⟨fun c hc => (hsg c).mpr ?_, (hR t).mp h⟩
    rcases texts_signs _ t h c hc with rfl | rfl | ⟨r, hr, hcr⟩
    · simp
    · simp
    · exact List.mem_append_right _ ((jn_nil_mem rows c).mpr ⟨r, List.mem_reverse.mp hr, hcr⟩)
end Mine
end

section
open PySem PySem.W PyProof.Rows PySem.Calls
namespace Mine
set_option maxRecDepth 100000
def dataT (t : List Nat) : PyData := .tuple [.int t.length, .str (txt t)]
theorem pairs_read {h : Heap} : ∀ {xs : List Value} {S : List (List Nat)}, xs.length = S.length → (∀ (i : Nat) (t : List Nat), S[i]? = some t → ∃ v, xs[i]? = some v ∧ IsPair h v t) → ∃ as, ReadsAll h xs (S.map dataT) as
  | [], [], _, _ => ⟨[], .nil⟩
  | [], _ :: _, e, _ => by simp at e
  | _ :: _, [], e, _ => by simp at e
  | v :: xs, t :: S, e, hp => by
    obtain ⟨as, h1⟩ := pairs_read (h := h) (xs := xs) (S := S) (by simpa using e) (fun i t ht => by
      obtain ⟨v', hv', hpv⟩ := hp (i + 1) t (by simpa using ht)
      exact ⟨v', by simpa using hv', hpv⟩)
    obtain ⟨v', hv', a, o, u1, u2, k, rfl, ho, hc, hd⟩ := hp 0 t rfl
    simp at hv'
    subst hv'
    exact ⟨_, .cons (.tuple ho hc hd (.cons (.int _ _) (.cons (.str _ _) .nil))) h1⟩
theorem datas_ok : ∀ (S : List (List Nat)), (∀ t ∈ S, ∀ c ∈ t, c < 1114112) → PyData.canLayAll0 (S.map dataT) = true ∧ PyData.depthAll (S.map dataT) ≤ 1
  | [], _ => ⟨rfl, Nat.zero_le _⟩
  | t :: S, h => by
    obtain ⟨h1, h2⟩ := datas_ok S fun u hu => h u (.tail _ hu)
    have ht : PyData.strOk (txt t) = true := by
      unfold PyData.strOk txt
      rw [List.all_toArray, List.all_eq_true]
      exact fun c hc => decide_eq_true (h t (.head _) c hc)
    refine ⟨?_, ?_⟩
    · rw [List.map_cons, PyData.canLayAll0, h1]
      simp [dataT, PyData.canLay0, PyData.canLayAll0, ht]
    · rw [List.map_cons, PyData.depthAll]
      have : (dataT t).depth ≤ 1 := by simp [dataT, PyData.depth, PyData.depthAll]
      omega
theorem lists_eq {w : World} {A : Around} {E : Value → Shared → Prop} {s : Shared} {a b : Addr} {xs ys : List Value} {ca cb : Nat} {S : List (List Nat)} {Q : Value → Shared → Prop}
    (ha : s.heap.get? a = some (listOf xs.toArray ca)) (hb : s.heap.get? b = some (listOf ys.toArray cb)) (lx : xs.length = S.length) (ly : ys.length = S.length)
    (hx : ∀ (i : Nat) (t : List Nat), S[i]? = some t → ∃ v, xs[i]? = some v ∧ IsPair s.heap v t) (hy : ∀ (i : Nat) (t : List Nat), S[i]? = some t → ∃ v, ys[i]? = some v ∧ IsPair s.heap v t)
    (hS : ∀ t ∈ S, ∀ c ∈ t, c < 1114112) (hu : A.units + 3 < cLine) (h : Q (.bool true) s) : wpAny (model prog w) A (compareOp .Eq (.ref a) (.ref b)) Q E s := by
  obtain ⟨as, ra⟩ := pairs_read lx hx
  obtain ⟨bs, rb⟩ := pairs_read ly hy
  obtain ⟨l1, l2⟩ := datas_ok S hS
  have hl : (PyData.list (S.map dataT)).canLay0 = true := l1
  refine SeqAt.compareEq_reads (reads_list_at ha rfl rfl (by simpa using ra)) (reads_list_at hb rfl rfl (by simpa using rb)) hl hl ?_ ?_
  · rw [Nat.min_self]
    show A.units + (PyData.depthAll (S.map dataT) + 1) < cLine
    omega
  · rw [SeqAt.eqv_refl _ hl]; exact h
end Mine
end

section
open PySem PySem.W PyProof.Rows PySem.Calls
namespace Mine
set_option maxRecDepth 100000
set_option maxHeartbeats 4000000

local macro_rules | `(tactic| walk_at "pad 0") => `(tactic| fail)
local macro_rules | `(tactic| walk_at "pad 1") => `(tactic| fail)
local macro_rules | `(tactic| walk_at "pad 2") => `(tactic| fail)
local macro_rules | `(tactic| walk_at "pad 3") => `(tactic| fail)
local macro_rules | `(tactic| walk_at "pad 4") => `(tactic| fail)
local macro_rules | `(tactic| walk_at "pad 5") => `(tactic| fail)
local macro_rules | `(tactic| walk_at "pad 6") => `(tactic| fail)
local macro_rules | `(tactic| walk_at "pad 7") => `(tactic| fail)
local macro_rules | `(tactic| walk_at "pad 8") => `(tactic| fail)
local macro_rules | `(tactic| walk_at "pad 9") => `(tactic| fail)
local macro_rules | `(tactic| walk_at "pad 10") => `(tactic| fail)
local macro_rules | `(tactic| walk_at "mlk") => `(tactic| first | assumption | exact if_pos rfl | (with_unfolding_all exact rfl) | (refine Eq.trans (if_neg (by decide +kernel)) ?_; walk_at "mlk"))
local macro_rules | `(tactic| walk_at "eval Name") => `(tactic| ((with_reducible show wpAny _ _ (eval (Expr.Name _ _) (envOf _ _ _ _ _)) _ _ _); first
  | (refine ld (by assumption) (by walk_at "mlk") ?_ (by kernel_rfl!) (by kernel_rfl!) (by decide +kernel))
  | (refine gname (by assumption) (by assumption) (by rfl) ?_ (by kernel_rfl!) (by kernel_rfl!) (by decide +kernel))
  | (refine bname (by assumption) (by assumption) (by rfl) (by first | exact boot_len | exact boot_max | exact boot_sorted | exact boot_chr) (by decide +kernel) ?_ (by kernel_rfl!) (by kernel_rfl!) (by decide +kernel))))
local macro_rules | `(tactic| walk_at "callWith ref") => `(tactic| ((with_reducible show wpAny _ _ (callWith _ (Value.ref _) _ (backTo _ (starEach (_ :: _) _)) []) _ _ _); refine callWith_K (Amb.X (by assumption)) (by rfl) ?_))
local macro_rules | `(tactic| walk_at "mw") => `(tactic| first
  | ((with_reducible show (Frag.In _ _ ∧ _)); refine ⟨Amb.X (Amb.keeps (by assumption) (Fr.keep (by assumption))), ?_⟩; try dsimp only [List.nil_append, List.cons_append])
  | ((fail_if_success (with_reducible show wpAny _ _ (exec (Stmt.While _ _ _ _) _) _ _ _)); (fail_if_success (with_reducible show wpAny _ _ (exec (Stmt.For _ _ _ _ _) _) _ _ _)); (fail_if_success (with_reducible show wpAny _ _ (call _ _) _ _ _)); (fail_if_success (with_reducible show wpAny _ _ (newList _) _ _ _)); (fail_if_success (with_reducible show wpAny _ _ (subscriptTail _ _ (Value.ref _) _) _ _ _)); (fail_if_success (with_reducible show wpAny _ _ (compareOp CmpOp.NotIn _ _) _ _ _)); (fail_if_success (with_reducible show (ite _ _ _ : Prop))); walk1; (try dsimp only)))

abbrev runEnv (L : Addr) : Env := envOf (Str.ofString "_law_run") (fnScope 15) L 102 (.ref 101)

/-- a new object of a call goes into the ledger -/
theorem led_new {g h h' : Heap} {L a : Addr} {o : Obj} {m : Str → Option Value} {news : List (Addr × Obj)} (F : Fr g L h m) (N : News g L h news) (k : ∀ b o, h.get? b = some o → h'.get? b = some o) (ha : h'.get? a = some o) (hn : h.get? a = none) :
    Fr g L h' m ∧ News g L h' ((a, o) :: news) := by
  obtain ⟨F', N'⟩ := back0 F N k
  refine ⟨F', fun p hp => ?_⟩
  rcases List.mem_cons.mp hp with rfl | hp
  · refine ⟨ha, ?_, ?_⟩
    · rintro rfl
      obtain ⟨o', _, _, ho', _⟩ := F.ns
      rw [hn] at ho'; cases ho'
    · cases q : g.get? a with
      | none => rfl
      | some o' => rw [F.keep _ _ q] at hn; cases hn
  · exact N' p hp


def dotFor : Stmt := (fnBody 15).getD 3 noStmt
def signFor : Stmt := (fnBody 15).getD 5 noStmt

theorem dot_for {w : World} {A : Around} {s : Shared} {gc : Heap} {L lr ld : Addr} {m : Str → Option Value} {R : List (Addr × Obj)} {c cr : Nat} {rv : List Value} {rows : List (List Nat)} {Q : Flow → Shared → Prop}
  (am : Amb w gc) (hh : A.handled = none) (F : Fr gc L s.heap m) (N : News gc L s.heap ((ld, listOf #[] c) :: R)) (hR : ∀ p ∈ R, p.1 ≠ ld) (hr : (lr, listOf rv.toArray cr) ∈ R)
  (m1 : m (Str.ofString "rows") = some (.ref lr)) (m2 : m (Str.ofString "dotted") = some (.ref ld)) (hrv : StrsAre rv (rows.map txt)) (hrl : rows.length ≤ 3) (hrl2 : ∀ r ∈ rows, r.length ≤ 10)
  (hQ : ∀ h tk m' dv c', Fr gc L h m' → News gc L h ((ld, listOf dv.toArray c') :: R) → (∀ x, x ≠ Str.ofString "row" → m' x = m x) → StrsAre dv ((rows.map dot).map txt) → Q .next { s with heap := h, toks := tk }) :
  wpAny (model prog w) A (exec dotFor (runEnv L)) Q NoE s := by
  have hrl3 : rv.length = rows.length := by have := hrv.len_eq; simpa using this
  refine for_list (l := lr) (vs := rv) (fun i m' rest' => ∃ dv c', rest' = (ld, listOf dv.toArray c') :: R ∧ (∀ x, x ≠ Str.ofString "row" → m' x = m x) ∧ StrsAre dv (((rows.take i).map dot).map txt)) hh F N ?hev ?hl
    ⟨[], c, rfl, fun _ _ => rfl, .nil⟩ ?turn ?done rfl (by rfl)
  case hev =>
    intro Q' hq
    walk_at "eval Name"
    exact hq
  case hl =>
    rintro i m' rest' h ⟨gv', c', rfl, _⟩ F' N'
    exact isL (N' _ (.tail _ hr)).1
  case done =>
    rintro h tk m' rest' ⟨gv', c', rfl, hm, hg⟩ F' N'
    rw [hrl3, List.take_length] at hg
    exact hQ h tk m' gv' c' F' N' hm hg
  case turn =>
    rintro i v h tk m' rest' I0 it hv ⟨dv, c', rfl, hm, hg⟩ hI F' N'
    obtain ⟨y, tt, rfl, hy⟩ := hrv.item i v hv
    rw [List.getElem?_map] at hy
    obtain ⟨r, hr1, rfl⟩ := Option.map_eq_some_iff.mp hy
    have htake : rows.take (i + 1) = rows.take i ++ [r] := by rw [List.take_add_one, hr1]; rfl
    have hrl4 := hrl2 r (List.mem_of_getElem? hr1)
    clear F N
    have m2' := (hm (Str.ofString "dotted") (by decide +kernel)).trans m2
    repeat walk_at "mw"
    have hnl : I0 ≠ ld := fun q => hI (ld, listOf dv.toArray c') (.head _) q.symm
    have hlen' : dv.length ≤ 3 := by
      have h1 := hg.len_eq
      rw [List.length_map, List.length_map, List.length_take] at h1
      omega
    refine slice_strN_ns (hsz := ?hsz) (s := ⟨_, _, _, _, _⟩) F' N' ?_
    case hsz => rw [txt_len, sizeLine_eq]; omega
    intro h3 t3 k3 F3 N3
    rw [slice_first]
    rw [show Str.ofString "." = txt [46] by decide +kernel]
    repeat walk_at "mw"
    have push : ∀ (h' : Heap) (tk' : Nat) (m4 : Str → Option Value) (u' : Tok), (∀ x, x ≠ Str.ofString "row" → m4 x = m' x) → Fr gc L h' m4 →
        News gc L h' ((I0, it) :: (ld, listOf (dv ++ [Value.str (txt (dot r)) u']).toArray (c' + 1)) :: R) →
        NextJ s gc L I0 it (fun i m' rest' => ∃ dv c', rest' = (ld, listOf dv.toArray c') :: R ∧ (∀ x, x ≠ Str.ofString "row" → m' x = m x) ∧ StrsAre dv (((rows.take i).map dot).map txt)) i { s with heap := h', toks := tk' } := by
      intro h' tk' m4 u' hm4 F4 N4
      refine ⟨h', tk', m4, _, rfl, F4, N4, ?_, _, _, rfl, fun x hx => (hm4 x hx).trans (hm x hx), ?_⟩
      · intro p hp
        rcases List.mem_cons.mp hp with rfl | hp
        · exact hI (ld, listOf dv.toArray c') (.head _)
        · exact hI p (.tail _ hp)
      · rw [htake, List.map_append, List.map_append]
        exact StrsAre.append' hg (.cons _ _ .nil)
    have hq : (txt (r.take 1) == txt [46]) = decide (r.head? = some 46) := by
      by_cases q : r.head? = some 46
      · rw [decide_eq_true q, beq_iff_eq]
        cases r with
        | nil => simp at q
        | cons x r => simp at q; subst q; rfl
      · rw [decide_eq_false q, beq_eq_false_iff_ne]
        intro z
        have := txt_inj z
        cases r with
        | nil => simp at this
        | cons x r => simp at this; exact q (by rw [this]; rfl)
    rw [hq]
    by_cases q : r.head? = some 46
    · have hd : dot r = [46] ++ r := by unfold dot; rw [if_pos q]; rfl
      rw [if_pos (by simpa using q)]
      repeat walk_at "mw"
      refine PyProof.Rows.add_str ?_ (by rw [txt_len, txt_len, sizeLine_eq]; simp; omega)
      intro tb tkb
      rw [txt_app, ← hd]
      repeat walk_at "mw"
      refine append_K (s := ⟨h3, _, _, _, _⟩) F3 N3 (Upd.tail hnl (Upd.head hR)) ?_ (by rw [List.size_toArray, sizeLine_eq]; omega)
      intro h5 F5 N5
      rw [List.push_toArray] at N5
      repeat walk_at "mw"
      exact push _ _ _ _ (fun x hx => if_neg hx) F5 N5
    · have hd : dot r = r := by unfold dot; rw [if_neg q]
      rw [if_neg (by simpa using q)]
      repeat walk_at "mw"
      refine append_K (s := ⟨h3, _, _, _, _⟩) F3 N3 (Upd.tail hnl (Upd.head hR)) ?_ (by rw [List.size_toArray, sizeLine_eq]; omega)
      intro h5 F5 N5
      rw [List.push_toArray, ← hd] at N5
      repeat walk_at "mw"
      exact push _ _ _ _ (fun x hx => if_neg hx) F5 N5

theorem sign_for {w : World} {A : Around} {s : Shared} {gc : Heap} {L lr lg : Addr} {m : Str → Option Value} {R : List (Addr × Obj)} {c cr : Nat} {rv : List Value} {rows : List (List Nat)} {Q : Flow → Shared → Prop}
  (am : Amb w gc) (hh : A.handled = none) (F : Fr gc L s.heap m) (N : News gc L s.heap ((lg, listOf #[] c) :: R)) (hR : ∀ p ∈ R, p.1 ≠ lg) (hr : (lr, listOf rv.toArray cr) ∈ R)
  (m1 : m (Str.ofString "rows") = some (.ref lr)) (m2 : m (Str.ofString "signs") = some (.ref lg)) (hrv : StrsAre rv (rows.map txt)) (hrl : rows.length ≤ 3) (hsum : (rows.map List.length).sum ≤ 10)
  (hQ : ∀ h tk m' gv c' sg, Fr gc L h m' → News gc L h ((lg, listOf (List.toArray gv) c') :: R) → (∀ x, x ≠ Str.ofString "sign" → m' x = m x) → List.Nodup sg → (∀ x, x ∈ sg ↔ x ∈ [13, 10, 46] ++ jn [] rows) → StrsAre gv (sg.map fun c => txt [c]) → Q .next { s with heap := h, toks := tk }) :
  wpAny (model prog w) A (exec signFor (runEnv L)) Q NoE s := by
  refine for_mine ?_ ?hs ?ht
  case hs => intro _; rfl
  case ht => intro _ _; rfl
  repeat walk_at "mw"
  rw [show Str.ofString "" = txt [] by decide +kernel, show Str.ofString "\x0d\n." = txt [13, 10, 46] by decide +kernel]
  have hrl3 : (rows.map txt).length = rows.length := List.length_map ..
  have hsum2 : ((rows.map txt).map (·.length)).sum = (rows.map List.length).sum := by
    rw [List.map_map]
    exact congrArg List.sum (List.map_congr_left fun r _ => txt_len r)
  refine join_listC (isL (N _ (.tail _ hr)).1) (by simpa using hrv) (by rw [txt_len]; simp) (by rw [hsum2, hrl3]; omega) ?_
  intro tj kj
  rw [join_rows]
  have hjl := jn_nil_len rows
  repeat walk_at "mw"
  refine PyProof.Rows.add_str ?_ (by rw [txt_len, txt_len, sizeLine_eq]; simp; omega)
  intro ta tka
  rw [txt_app]
  have hXl : ([13, 10, 46] ++ jn [] rows).length ≤ 13 := by simp; omega
  generalize [13, 10, 46] ++ jn [] rows = X at *
  refine iter_str (s := ⟨s.heap, _, _, _, _⟩) (Q := Q) (fun i m' rest' => ∃ gv c' sg, rest' = (lg, listOf (List.toArray gv) c') :: R ∧ (∀ x, x ≠ Str.ofString "sign" → m' x = m x) ∧ List.Nodup sg ∧ (∀ x, x ∈ sg ↔ x ∈ X.take i) ∧ sg.length ≤ i ∧ StrsAre gv (sg.map fun c => txt [c])) hh F N
    ⟨[], c, [], rfl, fun _ _ => rfl, .nil, by simp, Nat.le_refl _, .nil⟩ ?turn ?done rfl (by rfl)
  case done =>
    rintro h tk m' rest' ⟨gv, c', sg, rfl, hm, hnd, hmem, _, hg⟩ F' N'
    rw [List.take_length] at hmem
    exact hQ h tk m' gv c' sg F' N' hm hnd hmem hg
  case turn =>
    rintro i ch u h tk m' rest' I0 it hc ⟨gv, c', sg, rfl, hm, hnd, hmem, hsl, hg⟩ hI F' N'
    have hil : i < X.length := (List.getElem?_eq_some_iff.mp hc).1
    have htake : X.take (i + 1) = X.take i ++ [ch] := by rw [List.take_add_one, hc]; rfl
    clear F N
    have m2' := (hm (Str.ofString "signs") (by decide +kernel)).trans m2
    have hnl : I0 ≠ lg := fun q => hI (lg, listOf (List.toArray gv) c') (.head _) q.symm
    have hgl : gv.length = sg.length := by have := hg.len_eq; simpa using this
    repeat walk_at "mw"
    refine notin_list_strs (isL (N' _ (.tail _ (.head _))).1) hg ?_
    have hq : ((sg.map fun c => txt [c]).any (· == txt [ch])) = decide (ch ∈ sg) := by
      by_cases q : ch ∈ sg
      · rw [decide_eq_true q, List.any_eq_true]
        exact ⟨txt [ch], List.mem_map_of_mem (f := fun c => txt [c]) q, beq_self_eq_true _⟩
      · rw [decide_eq_false q, List.any_eq_false]
        intro x hx
        obtain ⟨z, hz, rfl⟩ := List.mem_map.mp hx
        rw [beq_iff_eq]
        intro e
        have := txt_inj e
        simp at this
        subst this
        exact q hz
    rw [hq]
    repeat walk_at "mw"
    by_cases q : ch ∈ sg
    · rw [if_neg (by simp [q])]
      repeat walk_at "mw"
      refine ⟨h, _, _, _, rfl, F', N', hI, gv, c', sg, rfl, fun x hx => (if_neg hx).trans (hm x hx), hnd, ?_, by omega, hg⟩
      intro x
      rw [htake, List.mem_append, ← hmem x, List.mem_singleton]
      exact ⟨.inl, fun h => h.elim id fun e => e ▸ q⟩
    · rw [if_pos (by simp [q])]
      repeat walk_at "mw"
      refine append_K (s := ⟨h, _, _, _, _⟩) F' N' (Upd.tail hnl (Upd.head hR)) ?_ (by rw [List.size_toArray, sizeLine_eq]; omega)
      intro h5 F5 N5
      rw [List.push_toArray] at N5
      repeat walk_at "mw"
      refine ⟨h5, _, _, _, rfl, F5, N5, ?_, _, _, sg ++ [ch], rfl, fun x hx => (if_neg hx).trans (hm x hx), ?_, ?_, by simp; omega, ?_⟩
      · intro p hp
        rcases List.mem_cons.mp hp with rfl | hp
        · exact hI (lg, listOf (List.toArray gv) c') (.head _)
        · exact hI p (.tail _ hp)
      · rw [List.nodup_append]
        refine ⟨hnd, by simp, ?_⟩
        intro a ha b hb e
        rw [List.mem_singleton] at hb
        subst hb
        subst e
        exact q ha
      · intro x
        rw [htake, List.mem_append, List.mem_append, ← hmem x]
      · rw [List.map_append]
        exact StrsAre.append' hg (.cons _ _ .nil)
end Mine
end

section
open PySem PySem.W PyProof.Rows PySem.Calls
namespace Mine
set_option maxRecDepth 100000
set_option maxHeartbeats 4000000

local macro_rules | `(tactic| walk_at "pad 0") => `(tactic| fail)
local macro_rules | `(tactic| walk_at "pad 1") => `(tactic| fail)
local macro_rules | `(tactic| walk_at "pad 2") => `(tactic| fail)
local macro_rules | `(tactic| walk_at "pad 3") => `(tactic| fail)
local macro_rules | `(tactic| walk_at "pad 4") => `(tactic| fail)
local macro_rules | `(tactic| walk_at "pad 5") => `(tactic| fail)
local macro_rules | `(tactic| walk_at "pad 6") => `(tactic| fail)
local macro_rules | `(tactic| walk_at "pad 7") => `(tactic| fail)
local macro_rules | `(tactic| walk_at "pad 8") => `(tactic| fail)
local macro_rules | `(tactic| walk_at "pad 9") => `(tactic| fail)
local macro_rules | `(tactic| walk_at "pad 10") => `(tactic| fail)
local macro_rules | `(tactic| walk_at "pad 11") => `(tactic| fail)
local macro_rules | `(tactic| walk_at "mlk") => `(tactic| first | assumption | exact if_pos rfl | (with_unfolding_all exact rfl) | (refine Eq.trans (if_neg (by decide +kernel)) ?_; walk_at "mlk"))
local macro_rules | `(tactic| walk_at "eval Name") => `(tactic| ((with_reducible show wpAny _ _ (eval (Expr.Name _ _) (envOf _ _ _ _ _)) _ _ _); first
  | (refine ld (by assumption) (by walk_at "mlk") ?_ (by kernel_rfl!) (by kernel_rfl!) (by decide +kernel))
  | (refine gname (by assumption) (by assumption) (by rfl) ?_ (by kernel_rfl!) (by kernel_rfl!) (by decide +kernel))
  | (refine bname (by assumption) (by assumption) (by rfl) (by first | exact boot_len | exact boot_max | exact boot_sorted | exact boot_chr) (by decide +kernel) ?_ (by kernel_rfl!) (by kernel_rfl!) (by decide +kernel))))
local macro_rules | `(tactic| walk_at "callWith ref") => `(tactic| ((with_reducible show wpAny _ _ (callWith _ (Value.ref _) _ (backTo _ (starEach (_ :: _) _)) []) _ _ _); refine callWith_K (Amb.X (by assumption)) (by rfl) ?_))
local macro_rules | `(tactic| walk_at "mw") => `(tactic| first
  | ((with_reducible show (Frag.In _ _ ∧ _)); refine ⟨Amb.X (Amb.keeps (by assumption) (Fr.keep (by assumption))), ?_⟩; try dsimp only [List.nil_append, List.cons_append])
  | ((fail_if_success (with_reducible show wpAny _ _ (exec (Stmt.While _ _ _ _) _) _ _ _)); (fail_if_success (with_reducible show wpAny _ _ (exec (Stmt.For _ _ _ _ _) _) _ _ _)); (fail_if_success (with_reducible show wpAny _ _ (call _ _) _ _ _)); (fail_if_success (with_reducible show wpAny _ _ (newList _) _ _ _)); (fail_if_success (with_reducible show wpAny _ _ (subscriptTail _ _ (Value.ref _) _) _ _ _)); (fail_if_success (with_reducible show wpAny _ _ (compareOp _ (Value.ref _) (Value.ref _)) _ _ _)); (fail_if_success (with_reducible show (ite _ _ _ : Prop))); walk1; (try dsimp only)))

theorem dot_sum : ∀ rows : List (List Nat), ((rows.map dot).map List.length).sum ≤ (rows.map List.length).sum + rows.length
  | [] => by simp
  | r :: l => by
    have h1 := dot_len r
    have ih := dot_sum l
    simp only [List.map_cons, List.sum_cons, List.length_cons] at ih ⊢
    omega
/-- the told pairs read as pairs -/
theorem led_pairs {h : Heap} {tups : List (Addr × Obj)} {oof : Value → List Nat} {ts : List Value} (hl : LedO tups oof ts) (ht : ∀ p ∈ tups, h.get? p.1 = some p.2) (i : Nat) (t : List Nat) (hi : (ts.map oof)[i]? = some t) : ∃ v, ts[i]? = some v ∧ IsPair h v t := by
  rw [List.getElem?_map] at hi
  obtain ⟨v, hv, rfl⟩ := Option.map_eq_some_iff.mp hi
  obtain ⟨a, t1, t2, c, e, hm⟩ := hl v (List.mem_of_getElem? hv)
  exact ⟨v, hv, a, _, t1, t2, c, e, ht _ hm, rfl, rfl⟩

theorem run_ct {w : World} {A : Around} {s : Shared} {l : Addr} {vs : List Value} {ns : List Int} {c : Nat} {Q : Value → Shared → Prop}
  (am : Amb w s.heap) (hh : A.handled = none) (hroom : A.depth + 7 < recursionLimit) (hA : A.units + 80 < cLine)
  (hl : s.heap.get? l = some (listOf vs.toArray c)) (hi : IntsAre vs ns) (hn : ns.length ≤ 5)
  (hQ : ∀ h' tk', (∀ b o, s.heap.get? b = some o → h'.get? b = some o) → Q (.bool true) { s with heap := h', toks := tk' }) :
  wpAny (model prog w) A (call (.ref 102) [.ref l]) Q NoE s := by
  refine enter (binds := [(Str.ofString "numbers", .ref l)]) am (by rfl) (by rfl) (by omega) (by rfl) (locs rfl) ?_ rfl rfl rfl (by decide)
  intro h₁ hns hk
  have F : Fr s.heap s.heap.objs.size h₁ _ := ⟨hns, hk, Nat.le_refl _⟩
  have N : News s.heap s.heap.objs.size h₁ [] := fun _ h => nomatch h
  clear hns hk
  generalize s.heap.objs.size = L at *
  repeat walk_at "mw"
  have hh' : (A.deeper (runEnv L)).handled = none := hh
  refine rows_ct (s := ⟨h₁, _, _, _, _⟩) (vs := vs) (ns := ns) (am.keeps F.keep) hh' (by show A.depth + 1 < recursionLimit; omega) (by show A.units + 3 + 60 < cLine; omega) (F.keep _ _ hl) hi hn ?_
  intro h2 tk2 lr rv c2 rows k2 hlr hnr hrv ok
  obtain ⟨F2, N2⟩ := led_new F N k2 hlr hnr
  clear F N
  have hsize := ok.size
  have hfew := ok.few
  have hrl3 : (rows.map txt).length = rows.length := List.length_map ..
  have hsum2 : ((rows.map txt).map (·.length)).sum = (rows.map List.length).sum := by
    rw [List.map_map]
    exact congrArg List.sum (List.map_congr_left fun r _ => txt_len r)
  have hplain : ∀ r ∈ rows, Plain r := fun r hr => (ok.big r hr).plain
  repeat walk_at "mw"
  rename Fr _ _ _ _ => F3
  rename News _ _ _ _ => N3
  rename_i h3
  rw [show Str.ofString "\n" = txt [10] by decide +kernel]
  refine join_listC (s := ⟨h3, _, _, _, _⟩) (isL (N3 _ (.head _)).1) (by simpa using hrv) (by rw [txt_len]; simp) (by rw [hsum2, hrl3]; omega) ?_
  intro tj kj
  rw [join_rows]
  have hjl := jn_len rows
  repeat walk_at "mw"
  refine quotedata_ct (s := ⟨h3, _, _, _, _⟩) (x := jn [10] rows) (am.keeps F3.keep) (by show A.depth + 1 < recursionLimit; omega) (by omega) ?_
  intro h4 tk4 tkq k4
  rw [quote_rows hplain ok.ne]
  obtain ⟨F4, N4⟩ := back0 F3 N3 k4
  clear F3 N3 F2 N2
  repeat walk_at "mw"
  rename Fr _ _ _ _ => F5
  rename News _ _ _ _ => N5
  rename_i h5
  refine newList_N (s := ⟨h5, _, _, _, _⟩) F5 N5 ?_ (by rw [sizeLine_eq]; simp)
  intro h6 F6 N6
  have hlt5 : ∀ p ∈ [(lr, listOf rv.toArray c2)], p.1 ≠ h5.objs.size := fun p hp q => by
    have := Heap.lt_size (N5 p hp).1
    rw [q] at this
    exact absurd this (Nat.lt_irrefl _)
  dsimp only at N6
  generalize h5.objs.size = ld at *
  clear F5 N5 F4 N4
  repeat walk_at "mw"
  rename Fr _ _ _ _ => F7
  rename News _ _ _ _ => N7
  rename_i h7
  refine dot_for (s := ⟨h7, _, _, _, _⟩) (lr := lr) (ld := ld) (R := [(lr, listOf rv.toArray c2)]) am hh' F7 N7 hlt5 (.head _) (by walk_at "mlk") (by walk_at "mlk") hrv hfew (fun r hr => by have := len_le_sum hr; omega) ?_
  intro h8 tk8 m8 dv c8 F8 N8 hm8 hdv
  clear F6 N6 F7 N7
  dsimp only
  refine wpAny_execs_cons ?_
  repeat walk_at "mw"
  refine newList_N (s := ⟨h8, _, _, _, _⟩) F8 N8 ?_ (by rw [sizeLine_eq]; simp)
  intro h9 F9 N9
  have hlt8 : ∀ p ∈ [(ld, listOf dv.toArray c8), (lr, listOf rv.toArray c2)], p.1 ≠ h8.objs.size := fun p hp q => by
    have := Heap.lt_size (N8 p hp).1
    rw [q] at this
    exact absurd this (Nat.lt_irrefl _)
  dsimp only at N9
  generalize h8.objs.size = lg at *
  clear F8 N8
  have md := hm8 (Str.ofString "dotted") (by decide +kernel)
  have mr := hm8 (Str.ofString "rows") (by decide +kernel)
  have mq := hm8 (Str.ofString "quoted") (by decide +kernel)
  rw [if_pos rfl] at md
  rw [if_neg (by decide +kernel), if_neg (by decide +kernel), if_pos rfl] at mr
  rw [if_neg (by decide +kernel), if_pos rfl] at mq
  repeat walk_at "mw"
  rename Fr _ _ _ _ => F10
  rename News _ _ _ _ => N10
  rename_i h10
  refine sign_for (s := ⟨h10, _, _, _, _⟩) (lr := lr) (lg := lg) (R := [(ld, listOf dv.toArray c8), (lr, listOf rv.toArray c2)]) am hh' F10 N10 hlt8 (.tail _ (.head _)) (by walk_at "mlk") (by walk_at "mlk") hrv hfew (by omega) ?_
  intro h11 tk11 m11 gv c11 sg F11 N11 hm11 hnd hsg hgv
  clear F9 N9 F10 N10
  have md' : m11 (Str.ofString "dotted") = some (.ref ld) := (hm11 _ (by decide +kernel)).trans ((if_neg (by decide +kernel)).trans md)
  have mr' : m11 (Str.ofString "rows") = some (.ref lr) := (hm11 _ (by decide +kernel)).trans ((if_neg (by decide +kernel)).trans mr)
  have mq' : m11 (Str.ofString "quoted") = some (.str (txt (quo rows)) tkq) := (hm11 _ (by decide +kernel)).trans ((if_neg (by decide +kernel)).trans mq)
  have mg' : m11 (Str.ofString "signs") = some (.ref lg) := (hm11 _ (by decide +kernel)).trans (if_pos rfl)
  have hdl : (quo rows).length ≤ 12 := ok.quo12 (by omega)
  repeat walk_at "mw"
  rw [show Str.ofString "\x0d\n" = txt [13, 10] by decide +kernel]
  have hds := dot_sum rows
  have hsum3 : (((rows.map dot).map txt).map (·.length)).sum = ((rows.map dot).map List.length).sum := by
    rw [List.map_map]
    exact congrArg List.sum (List.map_congr_left fun r _ => txt_len r)
  refine join_listC (s := ⟨h11, _, _, _, _⟩) (items := dv.toArray) (ys := (rows.map dot).map txt) (isL (N11 _ (.tail _ (.head _))).1) hdv (by rw [txt_len]; simp) (by rw [hsum3, List.length_map, List.length_map]; omega) ?_
  intro tj2 kj2
  rw [join_rows, quo_jn]
  repeat walk_at "mw"
  rw [if_pos (beq_self_eq_true _)]
  repeat walk_at "mw"
  refine told_ct (s := ⟨h11, _, _, _, _⟩) (Qd := quo rows) (sg := sg) (am.keeps F11.keep) hh' (by show A.depth + 1 + 5 < recursionLimit; omega) (by show A.units + 3 + 60 < cLine; omega) hdl hnd (N11 _ (.head _)).1 hgv ?_
  intro h12 tk12 lt ts c12 tups oof k12 hlt hltn htups hLO hpw hacc htl
  obtain ⟨F12, N12⟩ := led_new F11 N11 k12 hlt hltn
  clear F11 N11
  obtain ⟨r0, rs, rfl⟩ : ∃ r0 rs, rows = r0 :: rs := by
    cases rows with
    | nil => exact absurd rfl ok.ne
    | cons r0 rs => exact ⟨r0, rs, rfl⟩
  repeat walk_at "mw"
  refine texts_ct (s := ⟨h12, _, _, _, _⟩) (rv := rv) (r0 := r0) (rs := rs) (am.keeps F12.keep) hh' (by show A.depth + 1 < recursionLimit; omega) (N12 _ (.tail _ (.tail _ (.tail _ (.head _))))).1 hrv (by simp at hfew; omega)
    (by have := len_le_sum (rows := r0 :: rs) (.head _); omega) (fun r hr => by have := len_le_sum (rows := r0 :: rs) (.tail _ hr); omega) ok.big ?_
  intro h13 tk13 lS sv c13 S k13 hlS hsvl hSp hSpw hSm
  obtain ⟨F13, N13⟩ := back0 F12 N12 k13
  clear F12 N12
  have hOS : ts.map oof = S := told_is ok hsg hpw hacc hSpw hSm
  repeat walk_at "mw"
  refine lists_eq (s := ⟨h13, _, _, _, _⟩) (S := S) (N13 _ (.head _)).1 hlS (by rw [← hOS, List.length_map]) hsvl (by rw [← hOS]; exact led_pairs hLO fun p hp => k13 _ _ (htups p hp).1) hSp ?_ (by show A.units + 3 + 3 < cLine; omega) ?_
  · intro t ht c hc
    rcases texts_signs _ t ((hSm t).mp ht) c hc with rfl | rfl | ⟨r, hr, hcr⟩
    · decide
    · decide
    · exact (ok.big r (List.mem_reverse.mp hr) c hcr).2
  repeat walk_at "mw"
  exact hQ _ _ F13.keep
end Mine
end

section
open PySem PySem.W PyProof.Rows
namespace Mine
theorem amb_top {w : World} {p : Program} {loose : List Str} {mean : ExcName → Option Value} {mg mb : Str → Option Value} {h : Heap} (T : Top p loose mean mg mb h) (X : (KF w.params).In h) : Amb w h :=
  ⟨X, T.nolimit, ⟨mg, T.g⟩, ⟨mb, T.b, T.builtins⟩⟩
theorem script_len (ns : List Int) : (List.take 5 ns ++ List.take (if 4 - (ns.length : Int) > 0 then 4 - (ns.length : Int) else 0).toNat ([1, 0, 0, 7] : List Int)).length ≤ 5 := by
  rw [List.length_append, List.length_take, List.length_take]
  split <;> simp <;> omega
theorem law_end {w : World} {A : Around} {s : Shared} {g : Heap} {L D : Addr} {m : Str → Option Value} {news : List (Addr × Obj)} {vs : List Value} {ns : List Int} {Q E : Value → Shared → Prop}
    (am : Amb w g) (F : Fr g L s.heap m) (N : News g L s.heap ((D, listOf vs.toArray 0) :: news)) (hh : A.handled = none) (hroom : A.depth + 7 < recursionLimit) (hA : A.units + 80 < cLine) (hi : IntsAre vs ns) (hn : ns.length ≤ 5)
    (hQ : ∀ h' tk', Fr g L h' m → Q (.bool true) { s with heap := h', toks := tk' }) : wpAny (model prog w) A (call (.ref 102) [.ref D]) Q E s := by
  refine wpAny_mono (run_ct (am.keeps F.keep) hh hroom hA (N _ (.head _)).1 hi hn (Q := Q) ?_) (fun _ _ h => h) (fun _ _ h => h.elim)
  intro h' tk' k
  exact hQ h' tk' (back0 F N k).1
end Mine
end

open PySem PySem.W PyProof.Rows
local macro_rules | `(tactic| walk_at "mstop") => `(tactic| ((fail_if_success (with_reducible show wpAny _ _ (call (Value.ref _) _) _ _ _)); walk1))
set_option maxRecDepth 100000 in
set_option maxHeartbeats 8000000 in
theorem PySem.Challenge.cw_mr0063_01_holds : PySem.Challenge.rw_mr0063_01.Holds := by
  exact Mine.hd (by
    w_strict (k_go0; (all_goals try k_fold); (repeat walk_at "mstop"); (refine Mine.law_end (Mine.amb_top (by assumption) (by assumption)) (by assumption) (by assumption) rfl (show callerA.depth + 1 + 7 < recursionLimit by decide) (show callerA.units + 3 + 80 < cLine by decide) (by assumption) (Mine.script_len _) ?_); (intro h9 tk9 F9); wrow_close))
