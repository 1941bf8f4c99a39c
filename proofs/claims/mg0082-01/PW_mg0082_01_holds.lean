import PyProof.Rows.All
import Wide.All
import OpenK.AllK
import Wide.FinOn
import PySem.Challenge.RW_mg0082_01
set_option Elab.async false
set_option linter.unusedVariables false
section
open PySem PySem.W PyProof.Rows
namespace Mine
set_option maxRecDepth 100000 in
set_option maxHeartbeats 8000000 in
open_top hd for PySem.Challenge.rw_mg0082_01
end Mine
end
section
open PySem PySem.W PyProof.Rows PySem.Calls
namespace Mine
set_option maxRecDepth 100000
theorem fillit (P : Params) (h : Heap) : (hd.heap_39 P).In h → PySem.Challenge.rw_mg0082_01.prog = PySem.Challenge.rw_mg0082_01.prog := by
  w_top off
  k_fill
  intros; rfl

abbrev prg : Program := PySem.Challenge.rw_mg0082_01.row.prog

/-- everything stays -/
def Ext (h h' : Heap) : Prop := ∀ b o, h.get? b = some o → h'.get? b = some o

theorem enter_def {prog : Program} {w : World} {A : Around} {s : Shared} {K : Frag} {p : Program} {loose : List Str} {mean : ExcName → Option Value} {mg mb : Str → Option Value}
    {Q E : Value → Shared → Prop} {name qual : Str} {params : Arguments} {body : List Stmt} {scope : Scope} {dV kV doc pm cdv ct oc : Value} {an od : Option Addr} {osl : Array (Option Value)} {f : Addr} {vals : List Value} {binds : List (Str × Value)} {m : Str → Option Value}
    (X : K.In s.heap) (T : Top p loose mean mg mb s.heap)
    (ho : K.lookup f = some ⟨oc, od, .func (fnOf name qual params body scope dV kV doc pm an cdv ct), osl⟩) (hcd : codeIn K cdv qual = true) (hroom : A.depth < recursionLimit)
    (hbind : bindArgs (fnOf name qual params body scope dV kV doc pm an cdv ct) ⟨vals, []⟩ = pure binds) (hloc : ∀ y ∈ binds, scope.names.lookup y.1 = some .local)
    (hm : (fun y => binds.reverse.lookup y) = m)
    (h : ∀ h₁, Fr s.heap s.heap.objs.size h₁ m → News s.heap s.heap.objs.size h₁ [] →
      wpAny (model prog w) (A.deeper (envOf qual scope s.heap.objs.size f cdv)) (execs body (envOf qual scope s.heap.objs.size f cdv))
        (fun fl s' => Q (match fl with | .ret v => v | _ => .none) s') (fun _ _ => False)
        { s with heap := h₁, toks := s.toks + binds.length })
    (hco : scope.isCoroutine = false) (hgen : scope.isGenerator = false) (hk : scope.kind = .function)
    (hcell : ∀ x ∈ scope.names, x.2 ≠ .cell) : wpAny (model prog w) A (call (.ref f) vals) Q E s := by
  subst hm
  refine wpAny_call ?_
  refine codeAny_call_def (fd := fnOf name qual params body scope dV kV doc pm an cdv ct) (body := body) (binds := binds) hroom (X _ _ ho) rfl T.nolimit (codeRec_of X hcd) rfl (BindsTo.of_eq hbind) hcell hloc (fun h₁ hns hk₁ => ?_) hco hgen hk
  exact wpAny_mono (h h₁ ⟨hns, hk₁, Nat.le_refl _⟩ News.nil) (fun _ _ y => y) (fun _ _ y => y.elim)

theorem Ext.isTup {h h' : Heap} {t : Addr} {xs : Array Value} (e : Ext h h') (x : IsTup h t xs) : IsTup h' t xs := x.keeps e
theorem Ext.isList {h h' : Heap} {t : Addr} {xs : Array Value} (e : Ext h h') (x : h.IsList t xs) : h'.IsList t xs := by
  obtain ⟨o, ho, r⟩ := x
  exact ⟨o, e _ _ ho, r⟩
theorem Ext.trans {h h' h'' : Heap} (e : Ext h h') (e' : Ext h' h'') : Ext h h'' := fun b o q => e' b o (e b o q)
theorem Ext.fr {h₀ h h' : Heap} {L : Addr} {m : Str → Option Value} (e : Ext h h') (F : Fr h₀ L h m) : Fr h₀ L h' m := by
  obtain ⟨⟨o, es, ep, ho, r⟩, k, a⟩ := F
  exact ⟨⟨o, es, ep, e _ _ ho, r⟩, fun b o q => e b o (k b o q), a⟩
theorem Ext.news {h₀ h h' : Heap} {L : Addr} {news : List (Addr × Obj)} (e : Ext h h') (N : News h₀ L h news) : News h₀ L h' news :=
  fun p hp => ⟨e _ _ (N p hp).1, (N p hp).2.1, (N p hp).2.2⟩
end Mine
end
section
open PySem PySem.W PyProof.Rows PySem.Calls
namespace Mine
set_option maxRecDepth 100000
theorem look1 (k : Str) (v : Value) : (fun y => List.lookup y [(k, v)].reverse) = fun y => if y = k then some v else none := by
  funext y
  simp only [List.reverse_cons, List.reverse_nil, List.nil_append, List.lookup_cons, List.lookup_nil]
  by_cases h : y = k
  · subst h; simp
  · have : (y == k) = false := by simpa using h
    rw [this, if_neg h]
section
variable {prog : Program} {w : World} {A : Around} {E : Value → Shared → Prop} {s : Shared}
theorem slA_upto {sl : Addr} {b n : Nat} {u : Tok} {Q : Int × Int × Nat → Shared → Prop} (hs : s.heap.IsSliceOf sl .none (.int b u) .none) (hb : b ≤ n) (h : Q ((0 : Int), 1, b) s) :
    wpAny (model prog w) A (Builtin.Slice.sliceApplied (.ref sl) (pure (n : Int))) Q E s := by
  obtain ⟨os, hos, hcs, hds⟩ := id hs
  unfold Builtin.Slice.sliceApplied Builtin.Slice.sliceFields
  refine wpAny_bind (wpAny_bind (wpAny_field hos hds (x := .none) rfl (wpAny_bind (wpAny_field hos hds (x := .int b u) rfl (wpAny_bind (wpAny_field hos hds (x := .none) rfl (wpAny_pure ?_)))))))
  refine wpAny_bind (slicePart_none ?_)
  show wpAny _ _ (if ((1 : Int) == 0) = true then _ else _) _ _ s
  rw [if_neg (by decide)]
  refine wpAny_bind (slicePart_none (wpAny_bind (slicePart_int (wpAny_bind (wpAny_pure ?_)))))
  have e : Builtin.Slice.sliceAdjust none (some (b : Int)) 1 (n : Int) = ((0 : Int), (b : Int)) := by
    unfold Builtin.Slice.sliceAdjust
    have h1 : ¬ ((1 : Int) < 0) := by omega
    have h2 : ¬ ((b : Int) < 0) := by omega
    simp only [h1, h2, if_false]
    congr 1
    omega
  have e2 : Builtin.Slice.slicePlaces (0 : Int) (b : Int) 1 = b := by
    unfold Builtin.Slice.slicePlaces
    have h1 : (1 : Int) > 0 := by omega
    simp only [h1, if_true, Int.ediv_one]
    split <;> omega
  show wpAny _ _ (match Builtin.Slice.sliceAdjust none (some (b : Int)) 1 (n : Int) with | (lo, hi) => pure (lo, (1 : Int), Builtin.Slice.slicePlaces lo hi 1)) _ _ s
  rw [e]
  show wpAny _ _ (pure ((0 : Int), (1 : Int), Builtin.Slice.slicePlaces (0 : Int) (b : Int) 1)) _ _ s
  rw [e2]
  exact wpAny_pure h

theorem gi_upto {t sl : Addr} {items : Array Value} {b : Nat} {u : Tok} {Q : Value → Shared → Prop} (ht : IsTup s.heap t items) (hs : s.heap.IsSliceOf sl .none (.int b u) .none) (hb : b < items.size)
    (h : Q (.ref s.heap.objs.size) { s with heap := s.heap.push { cls := .type "tuple", data := .seq (items.toList.take b).toArray } })
    (hsz : items.size ≤ sizeLine) : wpAny (model prog w) A (getItem (.ref t) (.ref sl)) Q E s := by
  have htake : sizeOk (.seq (items.toList.take b).toArray) := by
    show (items.toList.take b).toArray.size ≤ sizeLine
    rw [List.size_toArray, List.length_take, Array.length_toList]
    omega
  obtain ⟨os, hos, hcs, hds⟩ := id hs
  have hTs : s.TypeIs (.ref sl) "slice" := ⟨os, hos, hcs⟩
  unfold getItem
  try with_reducible refine wpAny_holding ?_
  first | refine wpAny_bind (wpAny_pure ?_) | skip
  refine wpAny_bind (wpAny_sequenceKey ht.typeIs (by decide) ?_)
  refine wpAny_bind (wpAny_callSpecial?_slot (name := Str.ofString "__getitem__") ht.typeIs slot_tuple_getitem
    (wpAny_call_entry slot_tuple_getitem ht.typeIs entry_tuple_getitem ?_ (args_tuple_getitem _ _)))
  show wpAny _ _ (Builtin.Tuple.tupleItemsOf (.ref t) >>= _) _ _ s
  refine wpAny_bind (tupleItemsOf_ ht ?_)
  refine wpAny_bind (wpAny_typeOf hTs ?_)
  rw [if_pos (by decide)]
  refine wpAny_bind (slA_upto hs (Nat.le_of_lt hb) ?_)
  have hno : ¬ (((0 : Int) == 0 && (1 : Int) == 1 && b == items.size) = true) := by
    have : (b == items.size) = false := by rw [beq_eq_false_iff_ne]; omega
    rw [this]; simp
  show wpAny _ _ (if ((0 : Int) == 0 && (1 : Int) == 1 && b == items.size) = true then _ else _) _ _ s
  have e : ((List.range b).filterMap fun (k : Nat) => items[((0 : Int) + (k : Int) * 1).toNat]?).toArray = (items.toList.take b).toArray := by
    have e : (fun (k : Nat) => items[((0 : Int) + (k : Int) * 1).toNat]?) = fun k => items[0 + k]? := by
      funext k
      have : ((0 : Int) + (k : Int) * 1).toNat = 0 + k := by omega
      rw [this]
    rw [e]
    have := pick_run items 0 b
    rw [List.filterMap_map] at this
    have e2 : ((fun x => items[x]?) ∘ fun x => 0 + x) = fun k => items[0 + k]? := rfl
    rw [e2] at this
    rw [this, List.drop_zero]
  rw [if_neg hno, e]
  first
    | exact wpAny_bind (m := Builtin.Tuple.tupleExact _) (wpAny_newObj_type (wpAny_pure ⟨_, rfl, wpAny_pure h⟩) htake)
    | exact wpAny_bind (m := Builtin.Tuple.tupleExact _) (wpAny_newObj_type (wpAny_bind (wpAny_pure (wpAny_pure ⟨_, rfl, wpAny_pure h⟩))) htake)
    | exact wpAny_bind (wpAny_bind (m := Builtin.Tuple.tupleExact _) (wpAny_newObj_type (wpAny_pure (wpAny_pure ⟨_, rfl, wpAny_pure h⟩)) htake))
    | exact wpAny_bind (wpAny_bind (m := Builtin.Tuple.tupleExact _) (wpAny_newObj_type (wpAny_pure ⟨_, rfl, wpAny_pure h⟩) htake))
end
section
variable {prog : Program} {w : World} {A : Around} {E : Value → Shared → Prop} {s : Shared} {h₀ : Heap} {L : Addr} {m : Str → Option Value} {news : List (Addr × Obj)}
theorem sl_upto {value slice : Expr} {t : Addr} {xs zs : List Value} {b : Nat} {u : Tok} {Q : Value → Shared → Prop}
    (F : Fr h₀ L s.heap m) (N : News h₀ L s.heap news) (ht : IsTup s.heap t xs.toArray) (hb : b < xs.length) (ez : xs.take b = zs)
    (h : ∀ D h', Fr h₀ L h' m → News h₀ L h' ((D, { cls := .type "tuple", data := .seq zs.toArray }) :: news) → (∀ p ∈ news, p.1 < D) → Q (.ref D) { s with heap := h' })
    (hs : subscripted slice false (.ref t) (.ref s.heap.objs.size) = operate [.ref s.heap.objs.size, .ref t] (getItem (.ref t) (.ref s.heap.objs.size)))
    (hg : ∀ r, letTemporaryGo value (.ref t) r = pure ())
    (hsz : xs.length ≤ 1000) :
    wpAny (model prog w) A (subscriptTail value slice (.ref t) (.ref s.heap.objs.size)) Q E { s with heap := s.heap.push { cls := .type "slice", data := .fields #[.none, .int (b : Int) u, .none] } } := by
  subst ez
  have ht' : IsTup (s.heap.push { cls := .type "slice", data := .fields #[.none, .int (b : Int) u, .none] }) t xs.toArray := ht.keeps fun _ _ e => Heap.get?_push_of_some _ e
  have hsz' : xs.toArray.size ≤ sizeLine := by rw [sizeLine_eq, List.size_toArray]; omega
  refine subscriptTail_ops (s := { s with heap := s.heap.push { cls := .type "slice", data := .fields #[.none, .int (b : Int) u, .none] } }) ht'.typeIs slot_tuple_getitem.lookup
    (gi_upto ht' (Heap.IsSliceOf.new ..) (by simpa using hb) ?_ hsz') hs hg
  have N1 := News.push (F.push { cls := .type "slice", data := .fields #[.none, .int (b : Int) u, .none] }) (N.grown fun _ _ e => Heap.get?_push_of_some _ e) { cls := .type "tuple", data := .seq (xs.toArray.toList.take b).toArray }
  rw [Heap.size_push] at N1
  show Q (.ref (s.heap.push _).objs.size) _
  rw [Heap.size_push]
  exact h _ _ ((F.push _).push _) N1 fun p hp => Nat.lt_succ_of_lt (Heap.lt_size (N p hp).1)
end


section
variable {prog : Program} {w : World} {A : Around} {E : Value → Shared → Prop} {s : Shared}
open SeqAt in
theorem eq_pair {a b : Addr} {x y : Str} {i j : Int} {tx ti ty tj : Tok} {Q : Value → Shared → Prop} (hl : IsTup s.heap a [.str x tx, .int i ti].toArray) (hb : IsTup s.heap b [.str y ty, .int j tj].toArray) (hu : A.units < cLine)
    (h : Q (.bool (decide (x = y ∧ i = j))) s) : wpAny (model prog w) A (compareOp .Eq (.ref a) (.ref b)) Q E s := by
  refine eq_tupleAt (e := fun k => if k = 0 then x == y else i == j) hl hb hu (fun k h1 h2 => ?_) ?_
  · have : k < 2 := h1
    match k, this with
    | 0, _ => exact EqAt.str_str _ _ _ _
    | 1, _ => exact EqAt.int_int _ _ _ _
  · have e : ((List.range (min ([.str x tx, .int i ti] : List Value).toArray.size ([.str y ty, .int j tj] : List Value).toArray.size)).all (fun k => if k = 0 then x == y else i == j) && ([.str x tx, .int i ti] : List Value).toArray.size == ([.str y ty, .int j tj] : List Value).toArray.size) = decide (x = y ∧ i = j) := by
      have : (List.range (min ([.str x tx, .int i ti] : List Value).toArray.size ([.str y ty, .int j tj] : List Value).toArray.size)) = [0, 1] := rfl
      rw [this]
      by_cases hx : x = y <;> by_cases hi : i = j <;> simp [hx, hi]
    rw [e]
    exact h
open SeqAt in
theorem ne_pair {a b : Addr} {x y : Str} {i j : Int} {tx ti ty tj : Tok} {Q : Value → Shared → Prop} (hl : IsTup s.heap a [.str x tx, .int i ti].toArray) (hb : IsTup s.heap b [.str y ty, .int j tj].toArray) (hu : A.units < cLine)
    (h : Q (.bool (!decide (x = y ∧ i = j))) s) : wpAny (model prog w) A (compareOp .NotEq (.ref a) (.ref b)) Q E s := by
  refine RcNeAt.tuples (e := fun k => if k = 0 then x == y else i == j) hl hb hu (fun k h1 h2 => ?_) prog w E Q ?_
  · have : k < 2 := h1
    match k, this with
    | 0, _ => exact EqAt.str_str _ _ _ _
    | 1, _ => exact EqAt.int_int _ _ _ _
  · have e : ((List.range (min ([.str x tx, .int i ti] : List Value).toArray.size ([.str y ty, .int j tj] : List Value).toArray.size)).all (fun k => if k = 0 then x == y else i == j) && ([.str x tx, .int i ti] : List Value).toArray.size == ([.str y ty, .int j tj] : List Value).toArray.size) = decide (x = y ∧ i = j) := by
      have : (List.range (min ([.str x tx, .int i ti] : List Value).toArray.size ([.str y ty, .int j tj] : List Value).toArray.size)) = [0, 1] := rfl
      rw [this]
      by_cases hx : x = y <;> by_cases hi : i = j <;> simp [hx, hi]
    rw [e]
    exact h
theorem mod_tup {X X' T : Str} {t : Tok} {b : Addr} {its : Array Value} {Q : Value → Shared → Prop} (ht : IsTup s.heap b its) (hX : X = X')
    (hm : Meets (Builtin.«str.__mod__» ⟨[.str X' t, .ref b], []⟩) (fun _ R s => IsTup s.heap b its ∧ ∀ t' k, R (.ok (.ret (.str T t'))) { s with toks := k }))
    (h : ∀ t' k, Q (.str T t') { s with toks := k }) : wpAny (model prog w) A (binaryOp .Mod (.str X t) (.ref b)) Q E s := by
  subst hX
  have hT : s.TypeIs (.ref b) "tuple" := by
    obtain ⟨o, ho, hc, _⟩ := ht
    exact ⟨o, ho, hc⟩
  exact KPt.bin_left (T := "str") (U := "tuple") (op := .Mod) (by decide) (typeIs_str s X t) hT F.fills_str_mod KPt.fills_tuple F.slot_str_mod
    (call_meets F.slot_str_mod (typeIs_str s X t) F.entry_str_mod (F.args_str_mod_2 _ _) hm ⟨ht, fun t' k => ⟨(fun e => nomatch e), h t' k⟩⟩)
end
end Mine
end
section
open PySem PySem.W PyProof.Rows PySem.Calls
namespace Mine
set_option maxRecDepth 100000
def decL (n : Nat) : List Nat := (Str.ofString (toString ((n : Nat) : Int))).cps.toList
def intL (n : Int) : List Nat := (if n < 0 then [45] else []) ++ decL n.natAbs
def intT (n : Int) : Str := ⟨(intL n).toArray⟩
/-- a bound for the ints that are read -/
def Big : Nat := 10 ^ (399 + 1)
theorem big_le {k : Nat} (h : k ≤ 400) : 10 ^ k ≤ Big := Nat.pow_le_pow_right (by decide) h
theorem big_log : Big < 2 ^ (1399 + 1) := by decide +kernel
theorem decL_lenk {n k : Nat} (hk : 0 < k) (h : n < 10 ^ k) : (decL n).length ≤ k := by
  have := toString_length_le (v := (n : Int)) (by omega) (k := k) hk (by exact_mod_cast h)
  simpa [decL, Str.length] using this
theorem decL_len {n : Nat} (h : n < Big) : (decL n).length ≤ 400 := decL_lenk (by decide) h
theorem intT_lenk {n : Int} {k : Nat} (hk : 0 < k) (h : n.natAbs < 10 ^ k) : (intT n).length ≤ k + 1 := by
  have := decL_lenk hk h
  unfold intT intL Str.length
  simp only [List.size_toArray, List.length_append]
  split <;> simp <;> omega
theorem intT_len {n : Int} (h : n.natAbs < Big) : (intT n).length ≤ 401 := intT_lenk (k := 400) (by decide) h
open Builtin Builtin.Str in
theorem pInt (c : Percent) (h1 : c.alt = false) (h2 : c.type = 100 ∨ c.type = 105 ∨ c.type = 117) (h3 : c.prec = none) (n : Int) : percentInt c (decide (n < 0)) (decL n.natAbs) = intL n := by
  unfold percentInt intL
  by_cases hn : n < 0
  · rcases h2 with h2 | h2 | h2 <;> simp [h1, h2, h3, hn]
  · rcases h2 with h2 | h2 | h2 <;> simp [h1, h2, h3, hn]
section
open Builtin Builtin.Str
variable {M : Model} {A : Around} {E : Value → Shared → Prop} {s : Shared} {l : List Nat} {p : List Value} {r : List Nat}
  {f : Nat → List Value × Writer × List Nat → Sem (ForInStep (List Value × Writer × List Nat))} {Q : List Value × Writer × List Nat → Shared → Prop}
  {w : Writer} {T x y : PySem.Str} {N K : Nat} {o : Option Value}
theorem after_intA {c : Percent} {n : Int} {d : List Nat} (g : KPc.Good w T N) (h1 : c.alt = false) (h2 : c.type = 100 ∨ c.type = 105 ∨ c.type = 117) (h3 : c.prec = none) (hm : n.natAbs < Big)
    (hd : d = decL n.natAbs) (ho : o = none) (h : ∀ w', KPc.Good w' (T ++ intT n) (N + 401) → wpAny M A (forIn l (p, w', r) f) Q E s) :
    wpAny M A (forIn l (p, w.add ⟨(percentInt c (decide (n < 0)) d).toArray⟩ o, r) f) Q E s := by
  subst hd
  rw [pInt c h1 h2 h3 n]
  exact KPc.after_str (y := intT n) g (intT_len hm) (KPc.obj_none ho) h
end
theorem log_small {n : Int} (h : n.natAbs < Big) : n.natAbs.log2 < 1920 := by
  rcases Nat.eq_zero_or_pos n.natAbs with e | e
  · rw [e]; decide
  · have h2 := (Nat.log2_lt (by omega)).mpr (Nat.lt_trans h big_log)
    omega
local macro_rules | `(tactic| kpt_hd) => `(tactic| exact log_small (by assumption))
local macro_rules | `(tactic| kpt_piece) => `(tactic| (refine after_intA (by kpc_g) rfl (by kpc_kind) rfl (by assumption) rfl (by kpc_none) ?_; intro _ _))
set_option maxHeartbeats 4000000 in
theorem meets_std {b : Addr} {P N : Str} {l : Int} {t tp tl tn : Tok} (hP : P.length ≤ 1000) (hN : N.length ≤ 1000) (hl : l.natAbs < Big) :
    Meets (Builtin.«str.__mod__» ⟨[.str ⟨#[37, 115, 58, 37, 100, 40, 37, 115, 41]⟩ t, .ref b], []⟩)
     (fun _ R s => IsTup s.heap b [.str P tp, .int l tl, .str N tn].toArray ∧ ∀ t' k, R (.ok (.ret (.str (P ++ Str.ofString ":" ++ intT l ++ Str.ofString "(" ++ N ++ Str.ofString ")") t'))) { s with toks := k }) := by
  kpt_run
end Mine
end
section
open PySem PySem.W PyProof.Rows PySem.Calls
namespace Mine
set_option maxRecDepth 100000
theorem fillS1 (P : Params) (h : Heap) : (hd.heap_39 P).In h → PySem.Challenge.rw_mg0082_01.prog = PySem.Challenge.rw_mg0082_01.prog := by
  w_top off
  k_fill
  intros; rfl
def stdS (P : Str) (l : Int) (N : Str) : Str :=
  if P = Str.ofString "~" ∧ l = 0 then
    (if Txt.startswith N (Str.ofString "<") = true ∧ Txt.endswith N (Str.ofString ">") = true then Str.ofString "{" ++ Txt.slice N (some 1) (some (-1)) ++ Str.ofString "}" else N)
  else P ++ Str.ofString ":" ++ intT l ++ Str.ofString "(" ++ N ++ Str.ofString ")"
theorem stdS_a {P N : Str} {l : Int} (h : P = Str.ofString "~" ∧ l = 0) (h1 : Txt.startswith N (Str.ofString "<") = true) (h2 : Txt.endswith N (Str.ofString ">") = true) :
    stdS P l N = Str.ofString "{" ++ Txt.slice N (some 1) (some (-1)) ++ Str.ofString "}" := by
  unfold stdS; rw [if_pos h, if_pos ⟨h1, h2⟩]
theorem stdS_b {P N : Str} {l : Int} (h : P = Str.ofString "~" ∧ l = 0) (h2 : Txt.endswith N (Str.ofString ">") = false) : stdS P l N = N := by
  unfold stdS; rw [if_pos h, if_neg (by rw [h2]; simp)]
theorem stdS_c {P N : Str} {l : Int} (h : P = Str.ofString "~" ∧ l = 0) (h1 : Txt.startswith N (Str.ofString "<") = false) : stdS P l N = N := by
  unfold stdS; rw [if_pos h, if_neg (by rw [h1]; simp)]
theorem stdS_d {P N : Str} {l : Int} (h : ¬ (P = Str.ofString "~" ∧ l = 0)) : stdS P l N = P ++ Str.ofString ":" ++ intT l ++ Str.ofString "(" ++ N ++ Str.ofString ")" := by
  unfold stdS; rw [if_neg h]

local macro_rules | `(tactic| walk_at "subscriptTail Name Slice ref ref") => `(tactic| (k_here; k_dflt (refine' sl_upto (b := 2) (zs := [_, _]) ?zF ?zN ?zl ?zp ?ze ?_ ?zs ?zt ?zz; (case zF => k_asm); (case zN => k_asm); (case zl => first | assumption | exact IsTup.keeps (by assumption) (Fr.keep (by assumption))); (case zp => exact Nat.le_of_ble_eq_true rfl); (case ze => exact rfl); (case zs => with_unfolding_all rfl); (case zt => (intro _; with_unfolding_all rfl)); (case zz => exact Nat.le_of_ble_eq_true rfl)); intro D' h' F' N' l1; (try k_lt l1)))
local macro_rules | `(tactic| walk_at "compareOp Eq ref") => `(tactic| (k_here; k_dflt (refine' eq_pair ?za ?zb ?zu ?_; (case za => exact News.isTup (by k_asm) (by k_mem)); (case zb => exact News.isTup (by k_asm) (by k_mem)); (case zu => ((simp only [Around.deeper_units]); omega)))))
local macro_rules | `(tactic| walk_at "binaryOp Mod str ref") => `(tactic| (k_here; k_dflt (refine' mod_tup ?za ?zb (meets_std ?zc ?zd ?ze) ?_; (case za => exact IsTup.keeps (by assumption) (Fr.keep (by assumption))); (case zb => decide +kernel); (case zc => assumption); (case zd => assumption); (case ze => assumption)); intro _ _))

set_option maxHeartbeats 8000000 in
theorem std_spec {w : World} {p : Program} {loose : List Str} {mean : ExcName → Option Value} {mg mb : Str → Option Value} {A : Around} {s : Shared}
  {Q E : Value → Shared → Prop} {t : Addr} {P N : Str} {l : Int} {tp tl tn : Tok}
  (X : (hd.heap_39 w.params).In s.heap) (T : Top p loose mean mg mb s.heap)
  (ht : IsTup s.heap t [.str P tp, .int l tl, .str N tn].toArray) (hP : P.length ≤ 1000) (hN : N.length ≤ 1000) (hl : l.natAbs < Big)
  (hd : A.depth + 8 < recursionLimit) (hu : A.units + 64 < cLine)
  (ret : ∀ r h' tk', Ext s.heap h' → Q (.str (stdS P l N) r) { s with heap := h', toks := tk' }) :
  wpAny (model prg w) A (call (.ref 21) [.ref t]) Q E s := by
  refine' enter_def (binds := [(Str.ofString "func_name", .ref t)]) (m := fun y => if y = Str.ofString "func_name" then some (.ref t) else none) X T ?ho ?hc (by omega) ?hb ?hl ?hm ?_ ?c1 ?c2 ?c3 ?c4
  case ho => k_is
  case hc => k_is
  case hb => exact rfl
  case hl => exact locs rfl
  case hm => exact look1 _ _
  case c1 => exact rfl
  case c2 => exact rfl
  case c3 => exact rfl
  case c4 => decide
  intro h₁ F₁ N₁
  k_fold
  k_steps
  · show Q (Value.str _ _) _
    rw [← stdS_a (P := P) (l := l) (by assumption) (by assumption) (by assumption)]
    exact ret _ _ _ (Fr.keep (by assumption))
  · show Q (Value.str _ _) _
    rw [show N = stdS P l N from (stdS_b (by assumption) (by assumption)).symm]
    exact ret _ _ _ (Fr.keep (by assumption))
  · show Q (Value.str _ _) _
    rw [show N = stdS P l N from (stdS_c (by assumption) (by assumption)).symm]
    exact ret _ _ _ (Fr.keep (by assumption))
  · show Q (Value.str _ _) _
    rw [← stdS_d (P := P) (l := l) (by assumption)]
    exact ret _ _ _ (Fr.keep (by assumption))
end Mine
end
section
open PySem PySem.W PyProof.Rows PySem.Calls
namespace Mine
open NumText
theorem fd_dig : ∀ k < 10, Txt.find (Str.ofString "0123456789") ⟨#[48 + k]⟩ = ((k : Nat) : Int) := by decide +kernel
theorem fd_neg {c : Nat} (h : Txt.find (Str.ofString "0123456789") ⟨#[c]⟩ < 0) : ¬ (48 ≤ c ∧ c ≤ 57) := by
  rintro ⟨h1, h2⟩
  have := fd_dig (c - 48) (by omega)
  rw [show 48 + (c - 48) = c by omega] at this
  omega
theorem fd_mem {c : Nat} (h : ¬ Txt.find (Str.ofString "0123456789") ⟨#[c]⟩ < 0) : c ∈ (Str.ofString "0123456789").cps.toList := by
  have := StrLaws.found_one (Str.ofString "0123456789") c
  unfold Txt.find at h
  generalize Builtin.Str.occurrences (Str.ofString "0123456789") ⟨#[c]⟩ 0 (Str.ofString "0123456789").length 1 = l at *
  cases l with
  | nil => simp at h
  | cons a l => simpa using this
theorem fd_pos {c : Nat} (h : ¬ Txt.find (Str.ofString "0123456789") ⟨#[c]⟩ < 0) : 48 ≤ c ∧ c ≤ 57 ∧ Txt.find (Str.ofString "0123456789") ⟨#[c]⟩ = ((c - 48 : Nat) : Int) := by
  have hm := fd_mem h
  have e : (Str.ofString "0123456789").cps.toList = [48, 49, 50, 51, 52, 53, 54, 55, 56, 57] := by decide +kernel
  rw [e] at hm
  have hc : 48 ≤ c ∧ c ≤ 57 := by
    simp only [List.mem_cons, List.not_mem_nil, or_false] at hm
    omega
  refine ⟨hc.1, hc.2, ?_⟩
  have := fd_dig (c - 48) (by omega)
  rwa [show 48 + (c - 48) = c by omega] at this

/-- the figures of n -/
def Num (n : Nat) (cs : List Nat) : Prop := AllDigits cs ∧ ((n = 0 ∧ cs = [48]) ∨ (0 < n ∧ ∃ c r, cs = c :: r ∧ 49 ≤ c))
theorem toDigits_num (n : Nat) : ∃ cs : List Nat, Nat.toDigits 10 n = cs.map Char.ofNat ∧ digitsVal cs = n ∧ Num n cs := by
  induction n using Nat.strongRecOn with
  | ind n ih =>
    by_cases hn : n < 10
    · refine ⟨[48 + n], ?_, ?_, ?_, ?_⟩
      · rw [Nat.toDigits_of_lt_base hn, digitChar_of _ hn]; rfl
      · show 0 * 10 + (48 + n - 48) = n; omega
      · intro c hc
        rw [List.mem_singleton.mp hc]
        omega
      · by_cases h0 : n = 0
        · left; subst h0; exact ⟨rfl, rfl⟩
        · right; exact ⟨by omega, 48 + n, [], rfl, by omega⟩
    · obtain ⟨cs, e, hv, hd, hh⟩ := ih (n / 10) (by omega)
      have e1 : n = 10 * (n / 10) + n % 10 := by omega
      have hlt : n % 10 < 10 := by omega
      refine ⟨cs ++ [48 + n % 10], ?_, ?_, ?_, ?_⟩
      · conv => lhs; rw [e1]
        rw [← Nat.toDigits_append_toDigits (by decide) (by omega) hlt, e, Nat.toDigits_of_lt_base hlt, digitChar_of _ hlt, List.map_append]
        rfl
      · rw [digitsVal_snoc, hv]; omega
      · intro c hc
        rcases List.mem_append.mp hc with hc | hc
        · exact hd c hc
        · rw [List.mem_singleton.mp hc]; omega
      · right
        refine ⟨by omega, ?_⟩
        rcases hh with ⟨h0, _⟩ | ⟨_, c, r, rfl, hc⟩
        · omega
        · exact ⟨c, r ++ [48 + n % 10], rfl, hc⟩
theorem chars_back : ∀ {cs : List Nat}, AllDigits cs → (cs.map Char.ofNat).map Char.toNat = cs
  | [], _ => rfl
  | c :: cs, h => by
    have hc := h.head
    have : ∀ k < 10, (Char.ofNat (48 + k)).toNat = 48 + k := by decide
    have e := this (c - 48) (by omega)
    rw [show 48 + (c - 48) = c by omega] at e
    simp only [List.map_cons, e]
    rw [chars_back h.tail]
theorem decL_eq (n : Nat) : decL n = (Nat.toDigits 10 n).map Char.toNat := by
  unfold decL
  rw [Str.ofString_eq_toList]
  simp [toString, Int.repr, Nat.repr]
theorem decL_num (n : Nat) : Num n (decL n) := by
  obtain ⟨cs, e, _, h⟩ := toDigits_num n
  rw [decL_eq, e, chars_back h.1]
  exact h
theorem decL_val (n : Nat) : digitsVal (decL n) = n := by
  obtain ⟨cs, e, hv, h⟩ := toDigits_num n
  rw [decL_eq, e, chars_back h.1]
  exact hv
theorem decL_back {cs : List Nat} (h : AllDigits cs) (h1 : cs ≠ []) (h2 : cs.length = 1 ∨ ∃ c r, cs = c :: r ∧ 49 ≤ c) : decL (digitsVal cs) = cs := by
  obtain ⟨n, hn⟩ : ∃ n, cs.length = n + 1 := by
    cases cs with
    | nil => exact absurd rfl h1
    | cons c r => exact ⟨r.length, rfl⟩
  have := toDigits_digitsVal n cs hn h (h2.imp (by omega) id)
  rw [decL_eq, this, chars_back h]
theorem fold_lt : ∀ (cs : List Nat) (a : Nat), AllDigits cs → cs.foldl (fun acc c => acc * 10 + (c - 48)) a < (a + 1) * 10 ^ cs.length
  | [], a, _ => by simp
  | c :: cs, a, h => by
    have hc := h.head
    have ih := fold_lt cs (a * 10 + (c - 48)) h.tail
    rw [List.foldl_cons, List.length_cons, Nat.pow_succ, Nat.mul_comm (10 ^ cs.length) 10, ← Nat.mul_assoc]
    exact Nat.lt_of_lt_of_le ih (Nat.mul_le_mul_right _ (by omega))
theorem digitsVal_lt {cs : List Nat} (h : AllDigits cs) : digitsVal cs < 10 ^ cs.length := by
  have := fold_lt cs 0 h
  simpa [digitsVal] using this
end Mine
end
section
open PySem PySem.W PyProof.Rows PySem.Calls
namespace Mine
open NumText
/-- the signs of a text -/
abbrev LL (x : Str) : List Nat := x.cps.toList
theorem LL_inj {x y : Str} (h : LL x = LL y) : x = y := by
  obtain ⟨⟨a⟩⟩ := x; obtain ⟨⟨b⟩⟩ := y
  have : a = b := h
  rw [this]
theorem LL_len (x : Str) : (LL x).length = x.length := Array.length_toList
theorem LL_app (x y : Str) : LL (x ++ y) = LL x ++ LL y := by
  unfold LL; rw [Str.cps_append]; simp
theorem sl_ns {x : Str} {k : Int} (h0 : 0 ≤ k) (hk : k ≤ x.length) : LL (Txt.slice x none (some k)) = (LL x).take k.toNat := by
  have := StrLaws.sliceText_to (x := x) (j := k) ⟨h0, by rw [← LL_len] at hk; exact hk⟩
  have e : Txt.slice x none (some k) = StrLaws.sliceText x none (some k) := rfl
  rw [e, this]
  simp [LL]
theorem sl_sn {x : Str} {k : Int} (h0 : 0 ≤ k) (hk : k ≤ x.length) : LL (Txt.slice x (some k) none) = (LL x).drop k.toNat := by
  have := StrLaws.sliceText_from (x := x) (i := k) ⟨h0, by rw [← LL_len] at hk; exact hk⟩
  have e : Txt.slice x (some k) none = StrLaws.sliceText x (some k) none := rfl
  rw [e, this]
  have hl := LL_len x
  show List.take _ _ = _
  rw [List.take_of_length_le]
  rw [List.length_drop]; omega
theorem sl_ss {x : Str} {a b : Int} (h0 : 0 ≤ a) (hab : a ≤ b) (hk : b ≤ x.length) : LL (Txt.slice x (some a) (some b)) = ((LL x).drop a.toNat).take (b - a).toNat := by
  have := StrLaws.sliceText_plain (x := x) (i := a) (j := b) ⟨h0, hab, by rw [← LL_len] at hk; exact hk⟩
  have e : Txt.slice x (some a) (some b) = StrLaws.sliceText x (some a) (some b) := rfl
  rw [e, this]
theorem sl_sm {x : Str} {a : Int} (h0 : 0 ≤ a) (hk : a + 1 ≤ x.length) : LL (Txt.slice x (some a) (some (-1))) = ((LL x).drop a.toNat).dropLast := by
  have e : Txt.slice x (some a) (some (-1)) = StrLaws.sliceText x (some a) (some (-1)) := rfl
  rw [e, StrLaws.sliceText_neg_hi x _ (by decide) (by omega)]
  have := sl_ss (x := x) h0 (b := -1 + x.length) (by omega) (by omega)
  have e : Txt.slice x (some a) (some (-1 + x.length)) = StrLaws.sliceText x (some a) (some (-1 + x.length)) := rfl
  rw [e] at this
  rw [this, List.dropLast_eq_take, List.length_drop, LL_len]
  congr 1
  omega
theorem sl_mn {x : Str} (hk : 1 ≤ x.length) : LL (Txt.slice x (some (-1)) none) = (LL x).drop (x.length - 1) := by
  have e : Txt.slice x (some (-1)) none = StrLaws.sliceText x (some (-1)) none := rfl
  rw [e, StrLaws.sliceText_neg_lo x _ (by decide) (by omega)]
  have := sl_sn (x := x) (k := -1 + x.length) (by omega) (by omega)
  have e : Txt.slice x (some (-1 + x.length)) none = StrLaws.sliceText x (some (-1 + x.length)) none := rfl
  rw [e] at this
  rw [this]
  congr 1
  omega
theorem sl_empty {x : Str} {l u : Option Int} (h : x.length = 0) : LL (Txt.slice x l u) = [] := by
  have := Txt.slice_le x l u
  have := LL_len (Txt.slice x l u)
  exact List.length_eq_zero_iff.mp (by omega)
theorem eq1 {x : Str} {c : Nat} : x = ⟨#[c]⟩ ↔ LL x = [c] := ⟨fun h => by rw [h], fun h => LL_inj h⟩
theorem first_iff {x : Str} {c : Nat} : Txt.slice x none (some 1) = ⟨#[c]⟩ ↔ (LL x).head? = some c := by
  rw [eq1]
  have hl := LL_len x
  by_cases h : x.length = 0
  · rw [sl_empty h, List.length_eq_zero_iff.mp (hl.trans h)]; simp
  · rw [sl_ns (by decide) (by omega)]
    cases hx : LL x with
    | nil => rw [hx] at hl; simp at hl; omega
    | cons a r => simp
theorem last_iff {x : Str} {c : Nat} : Txt.slice x (some (-1)) none = ⟨#[c]⟩ ↔ (LL x).getLast? = some c := by
  rw [eq1]
  have hl := LL_len x
  by_cases h : x.length = 0
  · rw [sl_empty h, List.length_eq_zero_iff.mp (hl.trans h)]; simp
  · rw [sl_mn (by omega), ← hl]
    generalize LL x = l at *
    have hne : l ≠ [] := by intro e; rw [e] at hl; simp at hl; omega
    have e := List.dropLast_concat_getLast hne
    generalize l.dropLast = i at e
    generalize l.getLast hne = d at e
    subst e
    simp
theorem starts_iff {x : Str} {c : Nat} : Txt.startswith x ⟨#[c]⟩ = true ↔ (LL x).head? = some c := by
  have h := StrLaws.subAt_one x c 0
  unfold Txt.startswith
  rw [Bool.and_eq_true, decide_eq_true_eq, h, List.head?_eq_getElem?]
theorem ends_iff {x : Str} {c : Nat} : Txt.endswith x ⟨#[c]⟩ = true ↔ (LL x).getLast? = some c := by
  have h := StrLaws.subAt_one x c (x.length - 1)
  have e : (⟨#[c]⟩ : Str).length = 1 := rfl
  rw [e] at h
  unfold Txt.endswith
  rw [Bool.and_eq_true, decide_eq_true_eq, e, List.getLast?_eq_getElem?, LL_len]
  constructor
  · rintro ⟨h1, h2⟩
    exact h.mp ⟨by omega, h2⟩
  · intro h1
    have h2 := h.mpr h1
    have : x.length - 1 < x.length := by
      have := (List.getElem?_eq_some_iff.mp h1).1
      rwa [LL_len] at this
    exact ⟨by omega, h2.2⟩
theorem item_iff {x : Str} {k : Int} {c : Nat} (h0 : 0 ≤ k) (hk : k < x.length) : Txt.item x k = ⟨#[c]⟩ ↔ (LL x)[k.toNat]? = some c := by
  have h1 : Txt.charAt x k = (LL x)[k.toNat]? := by
    unfold Txt.charAt
    rw [StrLaws.seqIndex_nonneg h0 hk]
    simp [LL]
  have hlt : k.toNat < (LL x).length := by rw [LL_len]; omega
  unfold Txt.item
  rw [h1, List.getElem?_eq_getElem hlt]
  simp
theorem itemm_iff {x : Str} {c : Nat} (hk : 1 ≤ x.length) : Txt.item x (-1) = ⟨#[c]⟩ ↔ (LL x).getLast? = some c := by
  have h1 : Txt.charAt x (-1) = (LL x)[x.length - 1]? := by
    unfold Txt.charAt
    rw [StrLaws.seqIndex_neg (by decide) (by omega)]
    have : (-1 + (x.length : Int)).toNat = x.length - 1 := by omega
    simp [LL, this]
  have hlt : x.length - 1 < (LL x).length := by rw [LL_len]; omega
  unfold Txt.item
  rw [h1, List.getLast?_eq_getElem?, LL_len, List.getElem?_eq_getElem hlt]
  simp

-- _law_whole
def BodyOk (f : Str) (b : Bool) (B : Str) : Prop := (b = true ∧ LL f = 45 :: LL B) ∨ (b = false ∧ f = B ∧ ∀ r, LL f ≠ 45 :: r)
theorem ofS {s : String} {c : Nat} (h : Str.ofString s = ⟨#[c]⟩ := by decide +kernel) : Str.ofString s = ⟨#[c]⟩ := h
theorem s_minus : Str.ofString "-" = ⟨#[45]⟩ := by decide +kernel
theorem s_zero : Str.ofString "0" = ⟨#[48]⟩ := by decide +kernel
theorem s_empty : Str.ofString "" = ⟨#[]⟩ := by decide +kernel
theorem body_tt {f : Str} (h : (Txt.slice f none (some 1) == Str.ofString "-") = true) : BodyOk f true (Txt.slice f (some 1) none) := by
  rw [beq_iff_eq, s_minus, first_iff] at h
  have hl := LL_len f
  cases hx : LL f with
  | nil => rw [hx] at h; simp at h
  | cons a r =>
    rw [hx] at h hl
    have : a = 45 := by simpa using h
    subst this
    refine Or.inl ⟨rfl, ?_⟩
    rw [sl_sn (by decide) (by simp at hl; omega), hx]
    simp
theorem body_ff {f : Str} (h : (Txt.slice f none (some 1) == Str.ofString "-") = false) : BodyOk f false f := by
  refine Or.inr ⟨rfl, rfl, fun r hr => ?_⟩
  have : (Txt.slice f none (some 1) == Str.ofString "-") = true := by
    rw [beq_iff_eq, s_minus, first_iff, hr]; rfl
  rw [this] at h
  exact nomatch h
theorem LL_intT (v : Int) : LL (intT v) = intL v := rfl
theorem body_int {f B : Str} {b : Bool} {v : Int} (h : BodyOk f b B) (e : f = intT v) : LL B = decL v.natAbs ∧ (b = true → v < 0) := by
  subst e
  have hd := (decL_num v.natAbs).1
  unfold BodyOk at h
  rw [LL_intT] at h
  unfold intL at h
  by_cases hv : v < 0
  · rw [if_pos hv] at h
    rcases h with ⟨_, h⟩ | ⟨_, _, h⟩
    · exact ⟨(by simpa using h.symm), fun _ => hv⟩
    · exact absurd rfl (h _)
  · rw [if_neg hv] at h
    rcases h with ⟨_, h⟩ | ⟨hb, h, _⟩
    · have := hd 45 (by have h' : decL v.natAbs = 45 :: LL B := by simpa using h
                        rw [h']; exact List.mem_cons_self ..)
      omega
    · refine ⟨?_, fun e => by rw [hb] at e; exact nomatch e⟩
      rw [← h, LL_intT]; unfold intL; rw [if_neg hv]; rfl
theorem wh_sign {f B : Str} {b : Bool} {i c : Nat} (h : BodyOk f b B) (hc : B.cps[i]? = some c) (hd : ¬ (48 ≤ c ∧ c ≤ 57)) (v : Int) : f ≠ intT v := by
  intro e
  have h1 := (body_int h e).1
  refine hd ((decL_num v.natAbs).1 c ?_)
  rw [← h1]
  exact List.mem_of_getElem? (i := i) (by simpa [LL] using hc)
theorem num_ne {n : Nat} {cs : List Nat} (h : Num n cs) : cs ≠ [] := by
  rcases h.2 with ⟨_, e⟩ | ⟨_, c, r, e, _⟩ <;> rw [e] <;> simp
theorem wh_empty {f B : Str} {b : Bool} (h : BodyOk f b B) (hB : (B == Str.ofString "") = true) (v : Int) : f ≠ intT v := by
  intro e
  have h1 := (body_int h e).1
  rw [beq_iff_eq, s_empty] at hB
  exact num_ne (decL_num v.natAbs) (by rw [← h1, hB])
theorem head_zero {B : Str} (h1 : 1 ≤ B.length) : (Txt.item B 0 == Str.ofString "0") = true ↔ (LL B).head? = some 48 := by
  rw [beq_iff_eq, s_zero, item_iff (by decide) (by omega), List.head?_eq_getElem?]
  rfl
theorem wh_zero {f B : Str} {b : Bool} (h : BodyOk f b B) (h1 : 1 ≤ B.length) (h0 : (Txt.item B 0 == Str.ofString "0") = true) (h2 : b = true ∨ (1 : Int) < (B.length : Int)) (v : Int) : f ≠ intT v := by
  intro e
  obtain ⟨h3, h4⟩ := body_int h e
  rw [head_zero h1, h3] at h0
  have hn := decL_num v.natAbs
  rcases hn.2 with ⟨e1, e2⟩ | ⟨_, c, r, e2, h5⟩
  · rcases h2 with h2 | h2
    · have := h4 h2; omega
    · rw [← LL_len, h3, e2] at h2; simp at h2
  · rw [e2] at h0
    have : c = 48 := by simpa using h0
    omega
theorem wh_val {f B : Str} {b : Bool} (h : BodyOk f b B) (hd : AllDigits (LL B)) (h1 : 1 ≤ B.length) (h0 : (Txt.item B 0 == Str.ofString "0") = false ∨ (b = false ∧ ¬ (1 : Int) < (B.length : Int))) :
    f = intT (if b then -((digitsVal (LL B) : Nat) : Int) else ((digitsVal (LL B) : Nat) : Int)) := by
  have hl := LL_len B
  have hne : LL B ≠ [] := by intro e; rw [e] at hl; simp at hl; omega
  have hz : (Txt.item B 0 == Str.ofString "0") = false → ∃ c r, LL B = c :: r ∧ 49 ≤ c := by
    intro h0
    have h0' : ¬ (LL B).head? = some 48 := by rw [← head_zero h1, h0]; simp
    cases hx : LL B with
    | nil => exact absurd hx hne
    | cons c r =>
      rw [hx] at h0' hd
      have := hd.head
      refine ⟨c, r, rfl, ?_⟩
      have : c ≠ 48 := by intro e; rw [e] at h0'; simp at h0'
      omega
  have hb : decL (digitsVal (LL B)) = LL B := by
    refine decL_back hd hne ?_
    rcases h0 with h0 | h0
    · exact Or.inr (hz h0)
    · left; omega
  apply LL_inj
  rcases h with ⟨rfl, h⟩ | ⟨rfl, rfl, h⟩
  · have hz' := hz (by rcases h0 with h0 | h0; exact h0; exact absurd h0.1 (by simp))
    have hp : 0 < digitsVal (LL B) := by
      obtain ⟨c, r, e, h5⟩ := hz'
      rw [e]; exact digitsVal_pos h5
    rw [h, if_pos rfl, LL_intT]
    unfold intL
    rw [if_pos (by omega), Int.natAbs_neg, Int.natAbs_natCast, hb]
    rfl
  · rw [LL_intT]
    unfold intL
    simp only [Bool.false_eq_true, if_false]
    rw [if_neg (by omega), Int.natAbs_natCast, hb]
    rfl
theorem take_snoc {l : List Nat} {i c : Nat} (h : l[i]? = some c) : l.take (i + 1) = l.take i ++ [c] := by
  simp [List.take_add_one, h]
theorem wh_step {B : Str} {i c : Nat} (hc : B.cps[i]? = some c) (hd : AllDigits (List.take i (LL B))) (h : 48 ≤ c ∧ c ≤ 57) : AllDigits (List.take (i + 1) (LL B)) ∧
    ((digitsVal (List.take (i + 1) (LL B)) : Nat) : Int) = ((digitsVal (List.take i (LL B)) : Nat) : Int) * 10 + ((c - 48 : Nat) : Int) := by
  have hc' : (LL B)[i]? = some c := by simpa [LL] using hc
  rw [take_snoc hc', digitsVal_snoc]
  refine ⟨fun d hd' => ?_, by omega⟩
  rcases List.mem_append.mp hd' with h1 | h1
  · exact hd d h1
  · rw [List.mem_singleton.mp h1]; exact h
theorem wh_bound {f : Str} {v : Int} (hf : f.length ≤ 400) (e : f = intT v) : v.natAbs < Big := by
  have hn := decL_num v.natAbs
  have h1 : (decL v.natAbs).length ≤ 400 := by
    have : (LL f).length ≤ 400 := by rw [LL_len]; exact hf
    rw [e, LL_intT] at this
    unfold intL at this
    rw [List.length_append] at this
    omega
  have h2 : digitsVal (decL v.natAbs) < 10 ^ (decL v.natAbs).length := digitsVal_lt hn.1
  have h4 : digitsVal (decL v.natAbs) = v.natAbs := decL_val _
  rw [h4] at h2
  exact Nat.lt_of_lt_of_le h2 (big_le h1)
end Mine
end
section
open PySem PySem.W PyProof.Rows PySem.Calls
namespace Mine
open NumText
abbrev Rd := Str × Int × Str
theorem s_tilde : Str.ofString "~" = ⟨#[126]⟩ := by decide +kernel
theorem s_lt : Str.ofString "<" = ⟨#[60]⟩ := by decide +kernel
theorem s_gt : Str.ofString ">" = ⟨#[62]⟩ := by decide +kernel
theorem s_lb : Str.ofString "{" = ⟨#[123]⟩ := by decide +kernel
theorem s_rb : Str.ofString "}" = ⟨#[125]⟩ := by decide +kernel
theorem s_colon : Str.ofString ":" = ⟨#[58]⟩ := by decide +kernel
theorem s_lp : Str.ofString "(" = ⟨#[40]⟩ := by decide +kernel
theorem s_rp : Str.ofString ")" = ⟨#[41]⟩ := by decide +kernel
theorem intL_signs {l : Int} {c : Nat} (h : c ∈ intL l) : c = 45 ∨ (48 ≤ c ∧ c ≤ 57) := by
  unfold intL at h
  rcases List.mem_append.mp h with h | h
  · split at h
    · left; simpa using h
    · exact nomatch h
  · exact Or.inr ((decL_num l.natAbs).1 c h)
theorem intT_inj {a b : Int} (h : intT a = intT b) : a = b := by
  have h1 : intL a = intL b := by rw [← LL_intT, ← LL_intT, h]
  have hd (v : Int) (r : List Nat) : decL v.natAbs ≠ 45 :: r := by
    intro e
    have := (decL_num v.natAbs).1 45 (by rw [e]; exact List.mem_cons_self ..)
    omega
  unfold intL at h1
  by_cases ha : a < 0 <;> by_cases hb : b < 0
  · rw [if_pos ha, if_pos hb] at h1
    have h2 : decL a.natAbs = decL b.natAbs := by simpa using h1
    have h3 := congrArg digitsVal h2
    rw [decL_val, decL_val] at h3
    omega
  · rw [if_pos ha, if_neg hb] at h1
    exact absurd h1.symm (hd b _)
  · rw [if_neg ha, if_pos hb] at h1
    exact absurd h1 (hd a _)
  · rw [if_neg ha, if_neg hb] at h1
    have h2 : decL a.natAbs = decL b.natAbs := by simpa using h1
    have h3 := congrArg digitsVal h2
    rw [decL_val, decL_val] at h3
    omega
def Bi (P : Str) (l : Int) : Prop := P = Str.ofString "~" ∧ l = 0
theorem LL_std {P N : Str} {l : Int} (h : ¬ Bi P l) : LL (stdS P l N) = LL P ++ 58 :: (intL l ++ 40 :: (LL N ++ [41])) := by
  rw [stdS_d h]
  simp only [LL_app, s_colon, s_lp, s_rp, LL_intT, List.append_assoc]
  rfl
/-- a text in < > has two signs -/
theorem two_ends {t : List Nat} {a b : Nat} (h1 : t.head? = some a) (h2 : t.getLast? = some b) (hab : a ≠ b) : t = a :: (t.tail.dropLast ++ [b]) := by
  cases t with
  | nil => simp at h1
  | cons c r =>
    have hc : c = a := by simpa using h1
    subst hc
    cases r with
    | nil => simp at h2; exact absurd h2 hab
    | cons d r =>
      have h3 : (d :: r).getLast? = some b := by simpa [List.getLast?_cons_cons] using h2
      have hne : d :: r ≠ [] := by simp
      have e := List.dropLast_concat_getLast hne
      rw [List.getLast?_eq_some_getLast hne] at h3
      have h4 := Option.some.inj h3
      rw [h4] at e
      show c :: (d :: r) = c :: ((d :: r).dropLast ++ [b])
      rw [e]
theorem slice_in {x : Str} {t : List Nat} {a b : Nat} (h : LL x = a :: (t ++ [b])) : LL (Txt.slice x (some 1) (some (-1))) = t := by
  have hl := LL_len x
  rw [h] at hl
  simp at hl
  rw [sl_sm (by decide) (by omega), h]
  show (t ++ [b]).dropLast = t
  simp
def R1c (T : Str) : Prop := ¬ ((LL T).head? = some 60 ∧ (LL T).getLast? = some 62)
def R2c (T : Str) : Prop := (LL T).head? = some 123 ∧ (LL T).getLast? = some 125
theorem std_plain {N : Str} (h : R1c N) : stdS (Str.ofString "~") 0 N = N := by
  unfold stdS
  rw [if_pos ⟨rfl, rfl⟩, if_neg]
  rintro ⟨h1, h2⟩
  rw [s_lt, starts_iff] at h1
  rw [s_gt, ends_iff] at h2
  exact h ⟨h1, h2⟩
theorem std_in {N : Str} {t : List Nat} (h : LL N = 60 :: (t ++ [62])) : LL (stdS (Str.ofString "~") 0 N) = 123 :: (t ++ [125]) := by
  have h1 : Txt.startswith N (Str.ofString "<") = true := by rw [s_lt, starts_iff, h]; rfl
  have h2 : Txt.endswith N (Str.ofString ">") = true := by rw [s_gt, ends_iff, h]; simp [List.getLast?_cons]
  rw [stdS_a ⟨rfl, rfl⟩ h1 h2]
  simp only [LL_app, s_lb, s_rb, slice_in h]
  rfl
theorem brack {T : Str} (h : R2c T) : LL (Str.ofString "<" ++ Txt.slice T (some 1) (some (-1)) ++ Str.ofString ">") = 60 :: ((LL T).tail.dropLast ++ [62]) := by
  have e := two_ends h.1 h.2 (by decide)
  simp only [LL_app, s_lt, s_gt, slice_in e]
  rfl
def Inv (T : Str) (i : Nat) (rs : List Rd) : Prop := ∀ P l N, (P, l, N) ∈ rs ↔ stdS P l N = T ∧ (Bi P l ∨ P.length < i)
def C1 (T : Str) (rs : List Rd) : Prop := (R1c T ∧ rs = [(Str.ofString "~", 0, T)]) ∨ (¬ R1c T ∧ rs = [])
theorem std_bi {T N : Str} (h : stdS (Str.ofString "~") 0 N = T) : (R1c T ∧ N = T) ∨ (R2c T ∧ N = Str.ofString "<" ++ Txt.slice T (some 1) (some (-1)) ++ Str.ofString ">") := by
  by_cases hN : R1c N
  · rw [std_plain hN] at h
    subst h
    exact Or.inl ⟨hN, rfl⟩
  · have hN' := Classical.not_not.mp hN
    have e := two_ends hN'.1 hN'.2 (by decide)
    have e2 := std_in e
    rw [h] at e2
    have hT : R2c T := by
      unfold R2c; rw [e2]
      exact ⟨rfl, by simp [List.getLast?_cons]⟩
    refine Or.inr ⟨hT, LL_inj ?_⟩
    rw [brack hT, e2, e]
    simp
theorem ini_add {T : Str} {rs : List Rd} (h : C1 T rs) (h2 : R2c T) : Inv T 0 (rs ++ [(Str.ofString "~", 0, Str.ofString "<" ++ Txt.slice T (some 1) (some (-1)) ++ Str.ofString ">")]) := by
  intro P l N
  have hb := brack h2
  have hs : stdS (Str.ofString "~") 0 (Str.ofString "<" ++ Txt.slice T (some 1) (some (-1)) ++ Str.ofString ">") = T := by
    apply LL_inj
    rw [std_in hb]
    exact (two_ends h2.1 h2.2 (by decide)).symm
  constructor
  · intro hm
    rcases List.mem_append.mp hm with hm | hm
    · rcases h with ⟨h1, rfl⟩ | ⟨_, rfl⟩
      · obtain ⟨rfl, rfl, rfl⟩ := by simpa using hm
        exact ⟨std_plain h1, Or.inl ⟨rfl, rfl⟩⟩
      · exact nomatch hm
    · obtain ⟨rfl, rfl, rfl⟩ := by simpa using hm
      exact ⟨hs, Or.inl ⟨rfl, rfl⟩⟩
  · rintro ⟨h3, h4⟩
    rcases h4 with ⟨rfl, rfl⟩ | h4
    · rcases std_bi h3 with ⟨h5, rfl⟩ | ⟨_, rfl⟩
      · rcases h with ⟨_, rfl⟩ | ⟨h6, _⟩
        · simp
        · exact absurd h5 h6
      · exact List.mem_append_right _ (List.mem_singleton.mpr rfl)
    · exact absurd h4 (Nat.not_lt_zero _)
theorem ini_skip {T : Str} {rs : List Rd} (h : C1 T rs) (h2 : ¬ R2c T) : Inv T 0 rs := by
  intro P l N
  constructor
  · intro hm
    rcases h with ⟨h1, rfl⟩ | ⟨_, rfl⟩
    · obtain ⟨rfl, rfl, rfl⟩ := by simpa using hm
      exact ⟨std_plain h1, Or.inl ⟨rfl, rfl⟩⟩
    · exact nomatch hm
  · rintro ⟨h3, h4⟩
    rcases h4 with ⟨rfl, rfl⟩ | h4
    · rcases std_bi h3 with ⟨h5, rfl⟩ | ⟨h5, _⟩
      · rcases h with ⟨_, rfl⟩ | ⟨h6, _⟩
        · simp
        · exact absurd h5 h6
      · exact absurd h5 h2
    · exact absurd h4 (Nat.not_lt_zero _)
-- what a turn meets
theorem fi (n i : Nat) : fromIndex n (i : Int) = i := by
  unfold fromIndex
  split <;> omega
theorem getD_LL (x : Str) (v : Nat) : x.cps.getD v 0 = (LL x).getD v 0 := by
  simp [LL, Array.getD_eq_getD_getElem?, List.getD_eq_getElem?_getD]
theorem find_at {T : Str} {i j : Nat} (hij : i ≤ j) (hj : (LL T)[j]? = some 40) (hn : ∀ v, i ≤ v → v < j → (LL T)[v]? ≠ some 40) : Txt.find3 T (Str.ofString "(") (i : Int) = (j : Int) := by
  have hjl := (List.getElem?_eq_some_iff.mp hj).1
  rw [LL_len] at hjl
  rw [s_lp]
  rcases StrLaws.find3_spec T 40 (i : Int) with ⟨_, h⟩ | ⟨k, e, h1, h2, h3, h4⟩
  · rw [fi] at h
    have := h j hij hjl
    rw [getD_LL, List.getD_eq_getElem?_getD, hj] at this
    exact absurd rfl this
  · rw [fi] at h1 h4
    rw [e]
    have hk : (LL T)[k]? = some 40 := by
      rw [getD_LL, List.getD_eq_getElem?_getD] at h3
      have : k < (LL T).length := by rw [LL_len]; exact h2
      rw [List.getElem?_eq_getElem this] at h3 ⊢
      exact congrArg some h3
    rcases Nat.lt_trichotomy k j with h | h | h
    · exact absurd hk (hn k h1 h)
    · rw [h]
    · have := h4 j hij h
      rw [getD_LL, List.getD_eq_getElem?_getD, hj] at this
      exact absurd rfl this
theorem find_is {T : Str} {i : Nat} (h : 0 < Txt.find3 T (Str.ofString "(") (i : Int)) : ∃ k : Nat, Txt.find3 T (Str.ofString "(") (i : Int) = (k : Int) ∧ i ≤ k ∧ (LL T)[k]? = some 40 := by
  rw [s_lp] at *
  rcases StrLaws.find3_spec T 40 (i : Int) with ⟨e, _⟩ | ⟨k, e, h1, h2, h3, h4⟩
  · rw [e] at h; exact absurd h (by decide)
  · rw [fi] at h1
    refine ⟨k, e, h1, ?_⟩
    rw [getD_LL, List.getD_eq_getElem?_getD] at h3
    have : k < (LL T).length := by rw [LL_len]; exact h2
    rw [List.getElem?_eq_getElem this] at h3 ⊢
    exact congrArg some h3
structure Meets3 (T P N : Str) (l : Int) (i : Nat) : Prop where
  lt : i < T.length
  col : Txt.item T (i : Int) = Str.ofString ":"
  pos : 0 < Txt.find3 T (Str.ofString "(") (i : Int)
  rp : Txt.item T (-1) = Str.ofString ")"
  num : Txt.slice T (some ((i : Int) + 1)) (some (Txt.find3 T (Str.ofString "(") (i : Int))) = intT l
  path : Txt.slice T none (some (i : Int)) = P
  name : Txt.slice T (some (Txt.find3 T (Str.ofString "(") (i : Int) + 1)) (some (-1)) = N
theorem meets_of {T P N : Str} {l : Int} (hb : ¬ Bi P l) (h : stdS P l N = T) : Meets3 T P N l P.length := by
  have e := LL_std (N := N) hb
  rw [h] at e
  have hl := LL_len T
  have hp := LL_len P
  rw [e] at hl
  simp only [List.length_append, List.length_cons, List.length_nil] at hl
  have hf : Txt.find3 T (Str.ofString "(") (P.length : Int) = ((P.length + 1 + (intL l).length : Nat) : Int) := by
    refine find_at (by omega) ?_ ?_
    · rw [e, List.getElem?_append_right (by omega), show P.length + 1 + (intL l).length - (LL P).length = (intL l).length + 1 by omega, List.getElem?_cons_succ, List.getElem?_append_right (by omega)]
      simp
    · intro v h1 h2 hv
      rw [e, List.getElem?_append_right (by omega)] at hv
      cases hx : v - (LL P).length with
      | zero => rw [hx] at hv; simp at hv
      | succ w =>
        rw [hx, List.getElem?_cons_succ, List.getElem?_append_left (by omega)] at hv
        have := intL_signs (List.mem_of_getElem? hv)
        omega
  refine ⟨by omega, ?_, by omega, ?_, ?_, ?_, ?_⟩
  · rw [s_colon, item_iff (by omega) (by omega), e, Int.toNat_natCast, List.getElem?_append_right (by omega), show P.length - (LL P).length = 0 by omega]
    rfl
  · rw [s_rp, itemm_iff (by omega), e]
    have : LL P ++ 58 :: (intL l ++ 40 :: (LL N ++ [41])) = (LL P ++ 58 :: (intL l ++ 40 :: LL N)) ++ [41] := by simp
    rw [this, List.getLast?_concat]
  · apply LL_inj
    rw [hf, sl_ss (by omega) (by omega) (by omega), e, LL_intT]
    have e1 : ((P.length : Int) + 1).toNat = (LL P).length + 1 := by omega
    have e2 : (((P.length + 1 + (intL l).length : Nat) : Int) - ((P.length : Int) + 1)).toNat = (intL l).length := by omega
    have e3 : LL P ++ 58 :: (intL l ++ 40 :: (LL N ++ [41])) = (LL P ++ [58]) ++ (intL l ++ 40 :: (LL N ++ [41])) := by simp
    have e4 : (LL P).length + 1 = (LL P ++ [58]).length := by simp
    rw [e1, e2, e3, e4, List.drop_left, List.take_left]
  · apply LL_inj
    rw [sl_ns (by omega) (by omega), e, Int.toNat_natCast, ← hp, List.take_left]
  · apply LL_inj
    rw [hf, sl_sm (by omega) (by omega), e]
    have e1 : (((P.length + 1 + (intL l).length : Nat) : Int) + 1).toNat = (LL P ++ 58 :: (intL l ++ [40])).length := by
      simp only [List.length_append, List.length_cons, List.length_nil]; omega
    have e3 : LL P ++ 58 :: (intL l ++ 40 :: (LL N ++ [41])) = (LL P ++ 58 :: (intL l ++ [40])) ++ (LL N ++ [41]) := by simp
    rw [e1, e3, List.drop_left, List.dropLast_concat]
theorem drop_at {t : List Nat} {i a : Nat} (ha : t[i]? = some a) : t.drop i = a :: t.drop (i + 1) := by
  obtain ⟨h, e⟩ := List.getElem?_eq_some_iff.mp ha
  rw [List.drop_eq_getElem_cons h, e]
theorem parts {t : List Nat} {i k a b c : Nat} (ha : t[i]? = some a) (hb : t[k]? = some b) (hc : t[t.length - 1]? = some c) (hik : i < k) (hk : k < t.length - 1) :
    t = t.take i ++ a :: ((t.drop (i + 1)).take (k - (i + 1)) ++ b :: ((t.drop (k + 1)).dropLast ++ [c])) := by
  have h1 : (t.drop (k + 1)).dropLast ++ [c] = t.drop (k + 1) := by
    have hne : t.drop (k + 1) ≠ [] := by intro e; have := congrArg List.length e; rw [List.length_drop, List.length_nil] at this; omega
    have e := List.dropLast_concat_getLast hne
    have h2 : (t.drop (k + 1)).getLast? = some c := by
      rw [List.getLast?_eq_getElem?, List.length_drop, List.getElem?_drop, ← hc]
      congr 1
      omega
    rw [List.getLast?_eq_some_getLast hne] at h2
    rw [Option.some.inj h2] at e
    exact e
  have h2 : (t.drop (i + 1)).drop (k - (i + 1)) = t.drop k := by
    rw [List.drop_drop]
    congr 1
    omega
  rw [h1, ← drop_at hb, ← h2, List.take_append_drop, ← drop_at ha, List.take_append_drop]
theorem std_of {T : Str} {l : Int} {i : Nat} (hlt : i < T.length) (hc : Txt.item T (i : Int) = Str.ofString ":") (hp : 0 < Txt.find3 T (Str.ofString "(") (i : Int)) (hr : Txt.item T (-1) = Str.ofString ")")
    (hn : Txt.slice T (some ((i : Int) + 1)) (some (Txt.find3 T (Str.ofString "(") (i : Int))) = intT l) (hb : ¬ Bi (Txt.slice T none (some (i : Int))) l) :
    stdS (Txt.slice T none (some (i : Int))) l (Txt.slice T (some (Txt.find3 T (Str.ofString "(") (i : Int) + 1)) (some (-1))) = T := by
  obtain ⟨k, e, hik, hk⟩ := find_is hp
  have hl := LL_len T
  have hkl := (List.getElem?_eq_some_iff.mp hk).1
  rw [s_colon, item_iff (by omega) (by omega), Int.toNat_natCast] at hc
  rw [s_rp, itemm_iff (by omega), List.getLast?_eq_getElem?] at hr
  have h1 : i ≠ k := by intro e; subst e; rw [hc] at hk; exact absurd hk (by decide)
  have h2 : k ≠ (LL T).length - 1 := by intro e; subst e; rw [hr] at hk; exact absurd hk (by decide)
  apply LL_inj
  rw [LL_std hb, ← LL_intT, ← hn, e, sl_ns (by omega) (by omega), sl_ss (by omega) (by omega) (by omega), sl_sm (by omega) (by omega)]
  have e1 : ((i : Int) + 1).toNat = i + 1 := by omega
  have e2 : ((k : Int) - ((i : Int) + 1)).toNat = k - (i + 1) := by omega
  have e3 : ((k : Int) + 1).toNat = k + 1 := by omega
  rw [e1, e2, e3, Int.toNat_natCast]
  exact (parts hc hk hr (by omega) (by omega)).symm
theorem inv_skip {T : Str} {i : Nat} {rs : List Rd} (h : Inv T i rs) (hn : ∀ P l N, ¬ Bi P l → ¬ (Meets3 T P N l i)) : Inv T (i + 1) rs := by
  intro P l N
  rw [h P l N]
  constructor
  · rintro ⟨h1, h2⟩
    exact ⟨h1, h2.imp id (by omega)⟩
  · rintro ⟨h1, h2⟩
    refine ⟨h1, ?_⟩
    by_cases hb : Bi P l
    · exact Or.inl hb
    · right
      have h3 := h2.resolve_left hb
      have h4 := meets_of hb h1
      by_cases h5 : P.length = i
      · rw [h5] at h4; exact absurd h4 (hn P l N hb)
      · omega
theorem inv_add {T : Str} {i : Nat} {rs : List Rd} {l : Int} (h : Inv T i rs) (hlt : i < T.length) (hc : Txt.item T (i : Int) = Str.ofString ":") (hp : 0 < Txt.find3 T (Str.ofString "(") (i : Int)) (hr : Txt.item T (-1) = Str.ofString ")")
    (hn : Txt.slice T (some ((i : Int) + 1)) (some (Txt.find3 T (Str.ofString "(") (i : Int))) = intT l) (hb : ¬ Bi (Txt.slice T none (some (i : Int))) l) :
    Inv T (i + 1) (rs ++ [(Txt.slice T none (some (i : Int)), l, Txt.slice T (some (Txt.find3 T (Str.ofString "(") (i : Int) + 1)) (some (-1)))]) := by
  have hs := std_of hlt hc hp hr hn hb
  have hpl : (Txt.slice T none (some (i : Int))).length = i := by
    rw [← LL_len, sl_ns (by omega) (by omega), List.length_take, LL_len]; omega
  intro P l' N
  rw [List.mem_append, h P l' N]
  constructor
  · rintro (⟨h1, h2⟩ | h1)
    · exact ⟨h1, h2.imp id (by omega)⟩
    · rw [List.mem_singleton] at h1
      obtain ⟨rfl, rfl, rfl⟩ := by simpa using h1
      exact ⟨hs, Or.inr (by omega)⟩
  · rintro ⟨h1, h2⟩
    by_cases hb' : Bi P l'
    · exact Or.inl ⟨h1, Or.inl hb'⟩
    · have h3 := h2.resolve_left hb'
      have h4 := meets_of hb' h1
      by_cases h5 : P.length = i
      · right
        rw [h5] at h4
        have : l' = l := intT_inj (h4.num.symm.trans hn)
        rw [List.mem_singleton, h4.path, h4.name, this]
      · exact Or.inl ⟨h1, Or.inr (by omega)⟩
theorem inv_done {T : Str} {rs : List Rd} (h : Inv T T.length rs) (P : Str) (l : Int) (N : Str) : (P, l, N) ∈ rs ↔ stdS P l N = T := by
  rw [h P l N]
  refine ⟨And.left, fun h1 => ⟨h1, ?_⟩⟩
  by_cases hb : Bi P l
  · exact Or.inl hb
  · exact Or.inr (meets_of hb h1).lt
end Mine
end
section
open PySem PySem.W PyProof.Rows PySem.Calls
namespace Mine
set_option maxRecDepth 100000
theorem fill_W1 (P : Params) (h : Heap) : (hd.heap_39 P).In h → PySem.Challenge.rw_mg0082_01.prog = PySem.Challenge.rw_mg0082_01.prog := by
  w_top off
  k_fill
  intros; rfl
abbrev Am (dp un : Nat) (fr : Option (List Env)) (gd : Option (List Code)) : Around := { handled := none, depth := dp, frames := fr, guards := gd, units := un }
theorem look2 (k k' : Str) (v v' : Value) (hk : k ≠ k') : (fun y => List.lookup y [(k, v), (k', v')].reverse) = fun y => if y = k' then some v' else if y = k then some v else none := by
  funext y
  simp only [List.reverse_cons, List.reverse_nil, List.nil_append, List.cons_append, List.lookup_cons, List.lookup_nil]
  by_cases h : y = k'
  · subst h; simp
  · have : (y == k') = false := by simpa using h
    rw [this, if_neg h]
    by_cases h2 : y = k
    · subst h2; simp
    · have : (y == k) = false := by simpa using h2
      simp [this, if_neg h2]
def wdM (x : Str) (tx : Tok) (num : Int) (t1 : Tok) (txt : Str) (t2 : Tok) (pl : Option Value) : Str → Option Value := fun y =>
  if y = Str.ofString "text" then some (.str txt t2) else if y = Str.ofString "place" then pl else if y = Str.ofString "number" then some (.int num t1) else if y = Str.ofString "pieces" then some (.str x tx) else none
theorem wdM_ini (x : Str) (tx : Tok) (n : Int) (tn t : Tok) : (fun y => if y = Str.ofString "text" then some (Value.str (Str.ofString "") t) else if y = Str.ofString "pieces" then some (Value.str x tx) else if y = Str.ofString "number" then some (Value.int n tn) else none)
   = wdM x tx n tn (Str.ofString "") t none := by
  funext y
  unfold wdM
  by_cases e1 : y = Str.ofString "text"
  · rw [if_pos e1, if_pos e1]
  · rw [if_neg e1, if_neg e1]
    by_cases e2 : y = Str.ofString "place"
    · subst e2; rw [if_neg (by decide), if_neg (by decide), if_pos rfl]
    · rw [if_neg e2]
      by_cases e3 : y = Str.ofString "number"
      · subst e3; rw [if_neg (by decide), if_pos rfl, if_pos rfl]
      · simp [e3]
theorem wdM_step (x : Str) (tx : Tok) (num num' : Int) (t1 t1' : Tok) (txt txt' : Str) (t2 t2' : Tok) (pl : Option Value) (pl' : Value) :
   (fun y => if y = Str.ofString "text" then some (Value.str txt' t2') else if y = Str.ofString "place" then some pl' else if y = Str.ofString "number" then some (Value.int num' t1') else if y = Str.ofString "text" then some (Value.str txt t2) else if y = Str.ofString "place" then pl else if y = Str.ofString "number" then some (Value.int num t1) else if y = Str.ofString "pieces" then some (Value.str x tx) else none)
   = wdM x tx num' t1' txt' t2' (some pl') := by
  funext y
  unfold wdM
  by_cases e1 : y = Str.ofString "text"
  · rw [if_pos e1, if_pos e1]
  · by_cases e2 : y = Str.ofString "place"
    · simp [e2]
    · by_cases e3 : y = Str.ofString "number"
      · simp [e3]
      · simp [e1, e2, e3]
theorem fm_facts {a : Int} {b : Nat} (hb : 2 ≤ b) : 0 ≤ a.fmod (b : Int) ∧ a.fmod (b : Int) < (b : Int) ∧ (0 ≤ a → 0 ≤ a.fdiv (b : Int) ∧ 2 * a.fdiv (b : Int) ≤ a) := by
  have hb' : (0 : Int) ≤ (b : Int) := by omega
  rw [Int.fmod_eq_emod_of_nonneg _ hb', Int.fdiv_eq_ediv_of_nonneg _ hb']
  refine ⟨Int.emod_nonneg _ (by omega), Int.emod_lt_of_pos _ (by omega), fun ha => ?_⟩
  have h1 : 0 ≤ a / (b : Int) := Int.ediv_nonneg ha hb'
  have h2 : (b : Int) * (a / (b : Int)) ≤ a := Int.mul_ediv_self_le (by omega)
  have h3 : (2 : Int) * (a / (b : Int)) ≤ (b : Int) * (a / (b : Int)) := Int.mul_le_mul_of_nonneg_right (by omega) h1
  exact ⟨h1, Int.le_trans h3 h2⟩
theorem pow_pos {num : Int} {e : Nat} (h : num < 2 ^ e) (h0 : 0 < num) : 1 ≤ e := by
  cases e with
  | zero => simp at h; omega
  | succ e => omega
theorem pow_half {num q : Int} {e : Nat} (h : num < 2 ^ e) (h0 : 0 < num) (hq : 2 * q ≤ num - 1) : q < 2 ^ (e - 1) := by
  cases e with
  | zero => simp at h; omega
  | succ e =>
    rw [Int.pow_succ] at h
    simp only [Nat.add_sub_cancel]
    omega
set_option maxHeartbeats 8000000 in
theorem wd_spec {w : World} {p : Program} {loose : List Str} {mean : ExcName → Option Value} {mg mb : Str → Option Value} {dp un : Nat} {fr : Option (List Env)} {gd : Option (List Code)} {s : Shared}
  {Q E : Value → Shared → Prop} {n : Int} {x : Str} {tn tx : Tok}
  (X : (hd.heap_39 w.params).In s.heap) (T : Top p loose mean mg mb s.heap)
  (h0 : 0 ≤ n) (h1 : n < 2 ^ 40) (hx : 2 ≤ x.length) (hx2 : x.length ≤ 20)
  (hd : dp + 8 < recursionLimit) (hu : un + 64 < cLine)
  (ret : ∀ r t h' tk', t.length ≤ 150 → Ext s.heap h' → Q (.str t r) { s with heap := h', toks := tk' }) :
  wpAny (model prg w) (Am dp un fr gd) (call (.ref 28) [.int n tn, .str x tx]) Q E s := by
  refine' enter_def (binds := [(Str.ofString "number", .int n tn), (Str.ofString "pieces", .str x tx)]) (m := fun y => if y = Str.ofString "pieces" then some (.str x tx) else if y = Str.ofString "number" then some (.int n tn) else none) X T ?ho ?hc (by show dp < _; omega) ?hb ?hl ?hm ?_ ?c1 ?c2 ?c3 ?c4
  case ho => k_is
  case hc => k_is
  case hb => exact rfl
  case hl => exact locs rfl
  case hm => exact look2 _ _ _ _ (by decide)
  case c1 => exact rfl
  case c2 => exact rfl
  case c3 => exact rfl
  case c4 => decide
  intro h₁ F₁ N₁
  k_fold
  iterate 6 walk1
  refine While_inv (fun k m₁ nw => nw = [] ∧ ∃ (num : Int) (t1 : Tok) (txt : Str) (t2 : Tok) (pl : Option Value) (e : Nat), 0 ≤ num ∧ num < 2 ^ e ∧ txt.length + 3 * e ≤ 150 ∧ k = num.toNat ∧
    m₁ = wdM x tx num t1 txt t2 pl) (by k_asm) (by k_asm) (n₀ := n.toNat) ?ini ?turn ?pas
  case ini =>
    exact ⟨rfl, n, tn, Str.ofString "", _, none, 40, h0, h1, by decide, rfl, wdM_ini _ _ _ _ _⟩
  case pas => intro e s' h; exact h.elim
  case turn =>
    rintro k m₁ nw h₂ tk₂ F₂ N₂ ⟨rfl, num, t1, txt, t2, pl, e, hn0, hn1, hlen, rfl, rfl⟩
    unfold wdM at F₂
    have hf := fm_facts (a := num - 1) (b := x.length) (by omega)
    obtain ⟨hf1, hf2, hf3⟩ := hf
    k_steps
    · refine WhileStep.intro (news₂ := []) (n' := ((num - 1).fdiv (x.length : Int)).toNat) (by k_asm) News.nil ?_ ⟨rfl, (num - 1).fdiv (x.length : Int), _, Txt.item x ((num - 1).fmod (x.length : Int)) ++ txt, _, _, e - 1, ?_, ?_, ?_, rfl, wdM_step ..⟩
      all_goals (obtain ⟨q1, q2⟩ := hf3 (by omega))
      · omega
      · exact q1
      · exact pow_half hn1 (by assumption) q2
      · have he := pow_pos hn1 (by assumption)
        have hi := len_item x ((num - 1).fmod (x.length : Int))
        rw [Str.length_append]
        omega
    · show Q (Value.str _ _) _
      exact ret _ _ _ _ (by omega) (Fr.keep (by assumption))

end Mine
end
section
open PySem PySem.W PyProof.Rows PySem.Calls
namespace Mine
set_option maxRecDepth 100000
theorem fill_W2 (P : Params) (h : Heap) : (hd.heap_39 P).In h → PySem.Challenge.rw_mg0082_01.prog = PySem.Challenge.rw_mg0082_01.prog := by
  w_top off
  k_fill
  intros; rfl
def wlM (l : Addr) (num : Int) (t1 : Tok) (txt : Str) (t2 : Tok) (pl : Option Value) : Str → Option Value := fun y =>
  if y = Str.ofString "text" then some (.str txt t2) else if y = Str.ofString "place" then pl else if y = Str.ofString "number" then some (.int num t1) else if y = Str.ofString "pieces" then some (.ref l) else none
theorem wlM_ini (l : Addr) (n : Int) (tn t : Tok) : (fun y => if y = Str.ofString "text" then some (Value.str (Str.ofString "") t) else if y = Str.ofString "pieces" then some (Value.ref l) else if y = Str.ofString "number" then some (Value.int n tn) else none)
   = wlM l n tn (Str.ofString "") t none := by
  funext y
  unfold wlM
  by_cases e1 : y = Str.ofString "text"
  · rw [if_pos e1, if_pos e1]
  · rw [if_neg e1, if_neg e1]
    by_cases e2 : y = Str.ofString "place"
    · subst e2; rw [if_neg (by decide), if_neg (by decide), if_pos rfl]
    · rw [if_neg e2]
      by_cases e3 : y = Str.ofString "number"
      · subst e3; rw [if_neg (by decide), if_pos rfl, if_pos rfl]
      · simp [e3]
theorem wlM_step (l : Addr) (num num' : Int) (t1 t1' : Tok) (txt txt' : Str) (t2 t2' : Tok) (pl : Option Value) (pl' : Value) :
   (fun y => if y = Str.ofString "text" then some (Value.str txt' t2') else if y = Str.ofString "place" then some pl' else if y = Str.ofString "number" then some (Value.int num' t1') else if y = Str.ofString "text" then some (Value.str txt t2) else if y = Str.ofString "place" then pl else if y = Str.ofString "number" then some (Value.int num t1) else if y = Str.ofString "pieces" then some (Value.ref l) else none)
   = wlM l num' t1' txt' t2' (some pl') := by
  funext y
  unfold wlM
  by_cases e1 : y = Str.ofString "text"
  · rw [if_pos e1, if_pos e1]
  · by_cases e2 : y = Str.ofString "place"
    · simp [e2]
    · by_cases e3 : y = Str.ofString "number"
      · simp [e3]
      · simp [e1, e2, e3]
section
variable {prog : Program} {w : World} {A : Around} {E : Value → Shared → Prop} {s : Shared}
theorem len_lst {l : Addr} {vs : List Value} {Q : Value → Shared → Prop} (hl : s.heap.IsList l vs.toArray) (hsz : vs.length ≤ 1000)
    (h : ∀ t k, Q (.int (vs.length : Int) t) { s with toks := k }) : wpAny (model prog w) A (call (.builtin "len") [.ref l]) Q E s := by
  refine PyProof.Rows.len_list hl (by rw [List.size_toArray]; omega) ?_
  rw [List.size_toArray]
  exact h _ _
theorem item_tab {value slice : Expr} {l : Addr} {vs : List Value} {k : Int} {u : Tok} {Q : Value → Shared → Prop} (hl : s.heap.IsList l vs.toArray) (hv : ∀ v ∈ vs, ∃ y t, v = Value.str y t ∧ y.length ≤ 3)
    (h0 : 0 ≤ k) (h1 : k < vs.length) (hsz : vs.length ≤ 1000) (h : ∀ y t, y.length ≤ 3 → Q (.str y t) s)
    (hs : subscripted slice false (.ref l) (.int k u) = operate [.ref l, .int k u] (getItem (.ref l) (.int k u))) (hg : ∀ r, letTemporaryGo value (.ref l) r = pure ()) :
    wpAny (model prog w) A (subscriptTail value slice (.ref l) (.int k u)) Q E s := by
  have hlt : k.toNat < vs.length := by omega
  obtain ⟨y, t, e, hy⟩ := hv _ (List.getElem_mem hlt)
  refine item_list hl h0 (by omega) (x := vs[k.toNat]) (by simp [hlt]) ?_ hs hg
  rw [e]
  exact h y t hy
end
local macro_rules | `(tactic| walk_at "subscriptTail Name Name ref int") => `(tactic| (k_here; k_dflt (refine' item_tab ?za ?zv ?zb ?zc ?zd ?_ ?ze ?zg; (case za => exact Ext.isList (Fr.keep (by assumption)) (by assumption)); (case zv => assumption); (case zb => omega); (case zc => omega); (case zd => omega); (case ze => with_unfolding_all rfl); (case zg => (intro _; with_unfolding_all rfl))); intro yy ty hyy))
local macro_rules | `(tactic| walk_at "call builtin:len") => `(tactic| (k_here; k_dflt (refine' len_lst ?za ?zb ?_; (case za => exact Ext.isList (Fr.keep (by assumption)) (by assumption)); (case zb => omega)); intro _ _))
set_option maxHeartbeats 8000000 in
theorem wl_spec {w : World} {p : Program} {loose : List Str} {mean : ExcName → Option Value} {mg mb : Str → Option Value} {dp un : Nat} {fr : Option (List Env)} {gd : Option (List Code)} {s : Shared}
  {Q E : Value → Shared → Prop} {n : Int} {l : Addr} {vs : List Value} {tn : Tok}
  (X : (hd.heap_39 w.params).In s.heap) (T : Top p loose mean mg mb s.heap)
  (h0 : 0 ≤ n) (h1 : n < 2 ^ 40) (hl : s.heap.IsList l vs.toArray) (hx : 2 ≤ vs.length) (hx2 : vs.length ≤ 20) (hv : ∀ v ∈ vs, ∃ y t, v = Value.str y t ∧ y.length ≤ 3)
  (hd : dp + 8 < recursionLimit) (hu : un + 64 < cLine)
  (ret : ∀ r t h' tk', t.length ≤ 150 → Ext s.heap h' → Q (.str t r) { s with heap := h', toks := tk' }) :
  wpAny (model prg w) (Am dp un fr gd) (call (.ref 28) [.int n tn, .ref l]) Q E s := by
  refine' enter_def (binds := [(Str.ofString "number", .int n tn), (Str.ofString "pieces", .ref l)]) (m := fun y => if y = Str.ofString "pieces" then some (.ref l) else if y = Str.ofString "number" then some (.int n tn) else none) X T ?ho ?hc (by show dp < _; omega) ?hb ?hl ?hm ?_ ?c1 ?c2 ?c3 ?c4
  case ho => k_is
  case hc => k_is
  case hb => exact rfl
  case hl => exact locs rfl
  case hm => exact look2 _ _ _ _ (by decide)
  case c1 => exact rfl
  case c2 => exact rfl
  case c3 => exact rfl
  case c4 => decide
  intro h₁ F₁ N₁
  k_fold
  iterate 6 walk1
  refine While_inv (fun k m₁ nw => nw = [] ∧ ∃ (num : Int) (t1 : Tok) (txt : Str) (t2 : Tok) (pl : Option Value) (e : Nat), 0 ≤ num ∧ num < 2 ^ e ∧ txt.length + 3 * e ≤ 150 ∧ k = num.toNat ∧
    m₁ = wlM l num t1 txt t2 pl) (by k_asm) (by k_asm) (n₀ := n.toNat) ?ini ?turn ?pas
  case ini =>
    exact ⟨rfl, n, tn, Str.ofString "", _, none, 40, h0, h1, by decide, rfl, wlM_ini _ _ _ _⟩
  case pas => intro e s' h; exact h.elim
  case turn =>
    rintro k m₁ nw h₂ tk₂ F₂ N₂ ⟨rfl, num, t1, txt, t2, pl, e, hn0, hn1, hlen, rfl, rfl⟩
    unfold wlM at F₂
    have hf := fm_facts (a := num - 1) (b := vs.length) (by omega)
    obtain ⟨hf1, hf2, hf3⟩ := hf
    k_steps
    · refine WhileStep.intro (news₂ := []) (n' := ((num - 1).fdiv (vs.length : Int)).toNat) (by k_asm) News.nil ?_ ⟨rfl, (num - 1).fdiv (vs.length : Int), _, _ ++ txt, _, _, e - 1, ?_, ?_, ?_, rfl, wlM_step ..⟩
      all_goals (obtain ⟨q1, q2⟩ := hf3 (by omega))
      · omega
      · exact q1
      · exact pow_half hn1 (by assumption) q2
      · have he := pow_pos hn1 (by assumption)
        rw [Str.length_append]
        omega
    · show Q (Value.str _ _) _
      exact ret _ _ _ _ (by omega) (Fr.keep (by assumption))

end Mine
end
section
open PySem PySem.W PyProof.Rows PySem.Calls
namespace Mine
set_option maxRecDepth 100000
theorem fill_F1 (P : Params) (h : Heap) : (hd.heap_39 P).In h → PySem.Challenge.rw_mg0082_01.prog = PySem.Challenge.rw_mg0082_01.prog := by
  w_top off
  k_fill
  intros; rfl
theorem fm12 (x : Int) : (x.fmod (10 ^ Int.toNat 12)).natAbs < 10 ^ 13 := by
  have e : (10 : Int) ^ Int.toNat 12 = 1000000000000 := by decide
  have h1 := fmod_lo x (n := 10 ^ Int.toNat 12) (by decide)
  have h2 := fmod_hi x (n := 10 ^ Int.toNat 12) (by decide)
  rw [e] at *
  omega
theorem fm25 (x : Int) : (x.fmod 25 - 12).natAbs < 10 ^ 13 := by
  have h1 := fmod_lo x (n := 25) (by decide)
  have h2 := fmod_hi x (n := 25) (by decide)
  omega
local macro_rules | `(tactic| ktr_rel) => `(tactic| repeat' (first | (k_unfold; (try dsimp only)) | walk1 | (dsimp only; walk1)))
local macro_rules | `(tactic| walk_at "call ref") => `(tactic| (k_here; k_dflt (refine' wd_spec ?zX ?zT ?z0 ?z1 ?z2 ?z3 ?zd ?zu ?_; (case zX => exact Frag.In.keeps (by assumption) (Fr.keep (by assumption))); (case zT => exact Top.keeps (by assumption) (Fr.keep (by assumption))); (case z0 => exact fmod_lo _ (by decide)); (case z1 => exact Int.lt_of_lt_of_le (fmod_hi _ (by decide)) (by decide)); (case z2 => decide); (case z3 => decide); (case zd => (dsimp only [Am, Around.deeper]; omega)); (case zu => (dsimp only [Am, Around.deeper]; omega))); intro r9 t9 h9 tk9 hl9 e9; (have F9 := Ext.fr e9 (by assumption)); (have N9 := Ext.news e9 (by assumption)); clear e9; (try k_sweep)))
set_option maxHeartbeats 8000000 in
theorem fn_spec {w : World} {p : Program} {loose : List Str} {mean : ExcName → Option Value} {mg mb : Str → Option Value} {dp un : Nat} {fr : Option (List Env)} {gd : Option (List Code)} {s : Shared}
  {Q E : Value → Shared → Prop} {x : Int} {tx : Tok}
  (X : (hd.heap_39 w.params).In s.heap) (T : Top p loose mean mg mb s.heap)
  (hd : dp + 16 < recursionLimit) (hu : un + 128 < cLine)
  (ret : ∀ t P tp l tl N tn h' tk', P.length ≤ 150 → N.length ≤ 150 → l.natAbs < 10 ^ 13 → Ext s.heap h' → (∃ n, h'.get? t = some { cls := .type "tuple", data := .seq [.str P tp, .int l tl, .str N tn].toArray n }) → s.heap.get? t = none → Q (.ref t) { s with heap := h', toks := tk' }) :
  wpAny (model prg w) (Am dp un fr gd) (call (.ref 35) [.int x tx]) Q E s := by
  refine' enter_def (binds := [(Str.ofString "x", .int x tx)]) (m := fun y => if y = Str.ofString "x" then some (.int x tx) else none) X T ?ho ?hc (by show dp < _; omega) ?hb ?hl ?hm ?_ ?c1 ?c2 ?c3 ?c4
  case ho => k_is
  case hc => k_is
  case hb => exact rfl
  case hl => exact locs rfl
  case hm => exact look1 _ _
  case c1 => exact rfl
  case c2 => exact rfl
  case c3 => exact rfl
  case c4 => decide
  intro h₁ F₁ N₁
  k_fold
  ktr_rel
  · refine' ret _ _ _ _ _ _ _ _ _ ?ea ?eb ?ec ?ed ?ee ?ef
    case ee => exact ⟨_, News.get (by assumption) (List.Mem.head _)⟩
    case ef => exact News.fresh (by assumption) (List.Mem.head _)
    case ea => assumption
    case eb => assumption
    case ec => exact fm25 _
    case ed => exact Fr.keep (by assumption)
  · refine' ret _ _ _ _ _ _ _ _ _ ?ea ?eb ?ec ?ed ?ee ?ef
    case ee => exact ⟨_, News.get (by assumption) (List.Mem.head _)⟩
    case ef => exact News.fresh (by assumption) (List.Mem.head _)
    case ea => assumption
    case eb => assumption
    case ec => exact fm12 _
    case ed => exact Fr.keep (by assumption)
  · refine' ret _ _ _ _ _ _ _ _ _ ?ea ?eb ?ec ?ed ?ee ?ef
    case ee => exact ⟨_, News.get (by assumption) (List.Mem.head _)⟩
    case ef => exact News.fresh (by assumption) (List.Mem.head _)
    case ea => assumption
    case eb => assumption
    case ec => rw [Int.natAbs_neg]; exact fm12 _
    case ed => exact Fr.keep (by assumption)

end Mine
end
section
open PySem PySem.W PyProof.Rows PySem.Calls
namespace Mine
set_option maxRecDepth 100000
theorem fill_L1 (P : Params) (h : Heap) : (hd.heap_39 P).In h → PySem.Challenge.rw_mg0082_01.prog = PySem.Challenge.rw_mg0082_01.prog := by
  w_top off
  k_fill
  intros; rfl
open NumText
section
variable {prog : Program} {w : World} {A : Around} {E : Value → Shared → Prop} {s : Shared} {env : Env} {h₀ : Heap} {x : Str} {body : List Stmt} {Q : Flow → Shared → Prop}
theorem iter_str_my {xt : Str} {tx : Tok} {m₀ : Str → Option Value} {news : List (Addr × Obj)} (J : Nat → (Str → Option Value) → List (Addr × Obj) → Prop)
    (hh : A.handled = none) (F : Fr h₀ env.locals s.heap m₀) (N : News h₀ env.locals s.heap news) (hj : J 0 m₀ news)
    (turn : ∀ i c t m₁ news₁ h tk own, xt.cps[i]? = some c → J i m₁ news₁ → Fr h₀ env.locals h (fun y => if y = x then some (.str ⟨#[c]⟩ t) else m₁ y) → News h₀ env.locals h (own ++ news₁) → (∀ p ∈ news₁, p.1 ∉ [s.heap.objs.size]) →
      wpAny (model prog w) A (execs body env) (LoopStepV h₀ env.locals [s.heap.objs.size] own (J (i + 1)) { s with heap := h, toks := tk } (fun v s' => Q (.ret v) s') fun s' => Q .next s') E { s with heap := h, toks := tk })
    (done : ∀ m₁ news₁ h tk, J xt.cps.size m₁ news₁ → Fr h₀ env.locals h m₁ → News h₀ env.locals h news₁ → Q .next { s with heap := h, toks := tk }) :
    wpAny (model prog w) A (pyIter (.str xt tx)) (fun it s₂ => LoopAtV prog w A h₀ env x body Q E it s₂) E s := by
  refine wpAny_pyIter_str fun o St hW hst => ?_
  have W := hW A hh
  refine ⟨_, _, _, _, _, _, m₀, news, J, rfl, W, ?_, ?_, ?_, hst, F.push _, (fun p hp => ⟨Heap.get?_push_of_some _ (N p hp).1, (N p hp).2⟩), hj, ?_, ?_⟩
  · intro hm
    exact absurd F.ns.lt ((List.mem_singleton.mp hm) ▸ Nat.lt_irrefl _)
  · intro b' hb
    rw [List.mem_singleton.mp hb]
    exact next_is_new F
  · intro p hp hI
    exact absurd (Heap.lt_size (N p hp).1) ((List.mem_singleton.mp hI) ▸ Nat.lt_irrefl _)
  · rintro i v m₁ news₁ s₁ own ⟨h, tk, rfl⟩ hi ⟨c, u, hc, rfl⟩ hJ hnw _ _ _ _ F₁ N₁
    exact turn i c u m₁ news₁ h tk own hc hJ F₁ N₁ hnw
  · rintro h' tk m' news' F' N' _ hJ
    exact done m' news' h' tk hJ F' N'
end
local macro_rules | `(tactic| ktr_rel) => `(tactic| repeat' (first | (k_unfold; (try dsimp only)) | walk1 | (dsimp only; walk1)))
def whM0 (f : Str) (tf : Tok) (b : Bool) (B : Str) (tB : Tok) : Str → Option Value := fun y =>
  if y = Str.ofString "body" then some (.str B tB) else if y = Str.ofString "below" then some (.bool b) else if y = Str.ofString "figures" then some (.str f tf) else none
def whM (f : Str) (tf : Tok) (b : Bool) (B : Str) (tB : Tok) (v : Int) (tv : Tok) (fg pl : Option Value) : Str → Option Value := fun y =>
  if y = Str.ofString "place" then pl else if y = Str.ofString "figure" then fg else if y = Str.ofString "value" then some (.int v tv) else
  if y = Str.ofString "body" then some (.str B tB) else if y = Str.ofString "below" then some (.bool b) else if y = Str.ofString "figures" then some (.str f tf) else none
def MidW (s : Shared) (f : Str) (tf : Tok) (b : Bool) (f' : Flow) (s' : Shared) : Prop := f' = .next ∧ ∃ h' tk' B tB, s' = { s with heap := h', toks := tk' } ∧ Fr s.heap s.heap.objs.size h' (whM0 f tf b B tB) ∧ News s.heap s.heap.objs.size h' [] ∧ BodyOk f b B ∧ B.length ≤ 400
theorem whM_ini (f : Str) (tf : Tok) (b : Bool) (B : Str) (tB : Tok) (v : Int) (tv : Tok) : (fun y => if y = Str.ofString "value" then some (Value.int v tv) else
  if y = Str.ofString "body" then some (.str B tB) else if y = Str.ofString "below" then some (.bool b) else if y = Str.ofString "figures" then some (.str f tf) else none)
   = whM f tf b B tB v tv none none := by
  funext y
  unfold whM
  by_cases e1 : y = Str.ofString "place"
  · subst e1; rw [if_neg (by decide), if_neg (by decide), if_neg (by decide), if_neg (by decide), if_pos rfl]
  · by_cases e2 : y = Str.ofString "figure"
    · subst e2; rw [if_neg (by decide), if_neg (by decide), if_neg (by decide), if_neg (by decide), if_neg (by decide), if_pos rfl]
    · rw [if_neg e1, if_neg e2]
theorem whM_step (f : Str) (tf : Tok) (b : Bool) (B : Str) (tB : Tok) (v v' : Int) (tv tv' : Tok) (fg pl : Option Value) (fg' pl' : Value) : (fun y => if y = Str.ofString "value" then some (Value.int v' tv') else if y = Str.ofString "place" then some pl' else if y = Str.ofString "figure" then some fg' else
  if y = Str.ofString "place" then pl else if y = Str.ofString "figure" then fg else if y = Str.ofString "value" then some (.int v tv) else
  if y = Str.ofString "body" then some (.str B tB) else if y = Str.ofString "below" then some (.bool b) else if y = Str.ofString "figures" then some (.str f tf) else none)
   = whM f tf b B tB v' tv' (some fg') (some pl') := by
  funext y
  unfold whM
  by_cases e1 : y = Str.ofString "value"
  · subst e1; rw [if_pos rfl, if_neg (by decide), if_neg (by decide), if_pos rfl]
  · by_cases e2 : y = Str.ofString "place"
    · rw [if_neg e1, if_pos e2, if_pos e2]
    · by_cases e3 : y = Str.ofString "figure"
      · rw [if_neg e1, if_neg e2, if_pos e3, if_neg e2, if_pos e3]
      · simp [e1, e2, e3]
theorem body_tt' {f : Str} {b : Bool} (h : (Txt.slice f none (some 1) == Str.ofString "-") = b) (hb : b = true) : BodyOk f b (Txt.slice f (some 1) none) := by
  subst hb; exact body_tt h
theorem body_ff' {f : Str} {b : Bool} (h : (Txt.slice f none (some 1) == Str.ofString "-") = b) (hb : b = false) : BodyOk f b f := by
  subst hb; exact body_ff h
theorem wh_val1 {f B : Str} {b : Bool} (h : BodyOk f b B) (hd : AllDigits (LL B)) (h1 : 1 ≤ B.length) (h0 : (Txt.item B 0 == Str.ofString "0") = false ∨ (b = false ∧ ¬ (1 : Int) < (B.length : Int))) (hb : b = true) :
    f = intT (-((digitsVal (LL B) : Nat) : Int)) := by
  have := wh_val h hd h1 h0
  rwa [if_pos hb] at this
theorem wh_val2 {f B : Str} {b : Bool} (h : BodyOk f b B) (hd : AllDigits (LL B)) (h1 : 1 ≤ B.length) (h0 : (Txt.item B 0 == Str.ofString "0") = false ∨ (b = false ∧ ¬ (1 : Int) < (B.length : Int))) (hb : b = false) :
    f = intT ((digitsVal (LL B) : Nat) : Int) := by
  have := wh_val h hd h1 h0
  rwa [hb, if_neg (by simp)] at this
set_option maxHeartbeats 8000000 in
theorem wh_spec {w : World} {p : Program} {loose : List Str} {mean : ExcName → Option Value} {mg mb : Str → Option Value} {dp un : Nat} {fr : Option (List Env)} {gd : Option (List Code)} {s : Shared}
  {Q E : Value → Shared → Prop} {f : Str} {tf : Tok}
  (X : (hd.heap_39 w.params).In s.heap) (T : Top p loose mean mg mb s.heap) (hf : f.length ≤ 400)
  (hd : dp + 16 < recursionLimit) (hu : un + 128 < cLine)
  (ret : ∀ l vs h' tk', Ext s.heap h' → (∃ n, h'.get? l = some (W.listOf (List.toArray vs) n)) → s.heap.get? l = none → ((vs = [] ∧ ∀ v, f ≠ intT v) ∨ ∃ v t, vs = [.int v t] ∧ f = intT v) → Q (.ref l) { s with heap := h', toks := tk' }) :
  wpAny (model prg w) (Am dp un fr gd) (call (.ref 42) [.str f tf]) Q E s := by
  refine' enter_def (binds := [(Str.ofString "figures", .str f tf)]) (m := fun y => if y = Str.ofString "figures" then some (.str f tf) else none) X T ?ho ?hc (by show dp < _; omega) ?hb ?hl ?hm ?_ ?c1 ?c2 ?c3 ?c4
  case ho => k_is
  case hc => k_is
  case hb => exact rfl
  case hl => exact locs rfl
  case hm => exact look1 _ _
  case c1 => exact rfl
  case c2 => exact rfl
  case c3 => exact rfl
  case c4 => decide
  intro h₁ F₁ N₁
  k_fold
  iterate 16 (first | (k_unfold; (try dsimp only)) | walk1 | (dsimp only; walk1))
  generalize hb : (Txt.slice f none (some 1) == Str.ofString "-") = b at *
  refine wpAny_mono (Q := MidW s f tf b) ?_ ?_ (fun _ _ h => h)
  · ktr_rel
    · refine ⟨rfl, _, _, _, _, rfl, (by assumption), (by assumption), ?_, by omega⟩
      exact body_tt' hb (by assumption)
    · refine ⟨rfl, _, _, _, _, rfl, (by assumption), (by assumption), ?_, by omega⟩
      exact body_ff' hb (by assumption)
  rintro f' s' ⟨rfl, h', tk', B, tB, rfl, F2, N2, hB, hBl⟩
  dsimp only
  unfold whM0 at F2
  clear hb
  iterate 5 walk1
  refine For_invV s.heap rfl rfl ?_ (by intro _; rfl) (by intro e s' h; exact h.elim)
  walk1
  refine iter_str_my (fun i m₁ nw => nw = [] ∧ AllDigits (B.cps.toList.take i) ∧ ∃ tv fg pl, m₁ = whM f tf b B tB ((digitsVal (B.cps.toList.take i) : Nat) : Int) tv fg pl) rfl (by k_asm) (by k_asm) ?ini ?turn ?done
  case ini => exact ⟨rfl, by simp [AllDigits], _, none, none, whM_ini ..⟩
  case turn =>
    rintro i c t m₁ nw h₃ tk₃ own hc ⟨rfl, hdig, tv, fg, pl, rfl⟩ F₃ N₃ _
    unfold whM at F₃
    ktr_rel
    · refine LoopStepV.ret ?_
      show Q (Value.ref _) _
      refine' ret _ [] _ _ ?ea ?eb ?ec (Or.inl ⟨rfl, wh_sign hB hc (fd_neg (by assumption))⟩)
      case eb => exact ⟨_, News.get (by assumption) (List.Mem.head _)⟩
      case ea => exact Fr.keep (by assumption)
      case ec => exact News.fresh (by assumption) (List.Mem.head _)
    · have hp := fd_pos (c := c) (by assumption)
      have hs := wh_step hc hdig ⟨hp.1, hp.2.1⟩
      refine' LoopStepU.intro (news₂ := []) ?eF ?eN ?eO ⟨rfl, hs.1, ?_, ?_, ?_, ?eE⟩
      case eF => assumption
      case eN => assumption
      case eO => intro _ h; exact nomatch h
      case eE =>
        rw [hs.2, ← hp.2.2]
        exact whM_step ..
  case done =>
    rintro m₁ nw h₃ tk₃ ⟨rfl, hdig, tv, fg, pl, rfl⟩ F₃ N₃
    unfold whM at F₃
    have hdig' : AllDigits (LL B) := by rwa [List.take_of_length_le (by simp)] at hdig
    have hdv : digitsVal (B.cps.toList.take B.cps.size) = digitsVal (LL B) := by rw [List.take_of_length_le (by simp)]
    rw [hdv] at F₃
    clear hdv hdig
    ktr_rel
    all_goals (show Q (Value.ref _) _)
    · refine' ret _ [] _ _ ?ea ?eb ?ec (Or.inl ⟨rfl, wh_empty hB (by assumption)⟩)
      case eb => exact ⟨_, News.get (by assumption) (List.Mem.head _)⟩
      case ea => exact Fr.keep (by assumption)
      case ec => exact News.fresh (by assumption) (List.Mem.head _)
    · refine' ret _ [] _ _ ?ea ?eb ?ec (Or.inl ⟨rfl, wh_zero hB (by assumption) (by assumption) (Or.inl (by assumption))⟩)
      case eb => exact ⟨_, News.get (by assumption) (List.Mem.head _)⟩
      case ea => exact Fr.keep (by assumption)
      case ec => exact News.fresh (by assumption) (List.Mem.head _)
    · refine' ret _ [] _ _ ?ea ?eb ?ec (Or.inl ⟨rfl, wh_zero hB (by assumption) (by assumption) (Or.inr (by assumption))⟩)
      case eb => exact ⟨_, News.get (by assumption) (List.Mem.head _)⟩
      case ea => exact Fr.keep (by assumption)
      case ec => exact News.fresh (by assumption) (List.Mem.head _)
    · refine' ret _ [_] _ _ ?ea ?eb ?ec (Or.inr ⟨_, _, rfl, wh_val2 hB hdig' (by assumption) (Or.inr ⟨by assumption, by assumption⟩) (by assumption)⟩)
      case eb => exact ⟨_, News.get (by assumption) (List.Mem.head _)⟩
      case ea => exact Fr.keep (by assumption)
      case ec => exact News.fresh (by assumption) (List.Mem.head _)
    · refine' ret _ [_] _ _ ?ea ?eb ?ec (Or.inr ⟨_, _, rfl, wh_val1 hB hdig' (by assumption) (Or.inl (by assumption)) (by assumption)⟩)
      case eb => exact ⟨_, News.get (by assumption) (List.Mem.head _)⟩
      case ea => exact Fr.keep (by assumption)
      case ec => exact News.fresh (by assumption) (List.Mem.head _)
    · refine' ret _ [_] _ _ ?ea ?eb ?ec (Or.inr ⟨_, _, rfl, wh_val2 hB hdig' (by assumption) (Or.inl (by assumption)) (by assumption)⟩)
      case eb => exact ⟨_, News.get (by assumption) (List.Mem.head _)⟩
      case ea => exact Fr.keep (by assumption)
      case ec => exact News.fresh (by assumption) (List.Mem.head _)

end Mine
end
section
open PySem PySem.W PyProof.Rows PySem.Calls
namespace Mine
set_option maxRecDepth 100000
open NumText
/-- a reading in the ledger -/
def RIn (news : List (Addr × Obj)) (v : Value) (r : Rd) : Prop := ∃ a n tp ti tn, v = .ref a ∧ (a, ({ cls := .type "tuple", data := .seq [Value.str r.1 tp, Value.int r.2.1 ti, Value.str r.2.2 tn].toArray n } : Obj)) ∈ news
inductive RAll (news : List (Addr × Obj)) : List Value → List Rd → Prop
  | nil : RAll news [] []
  | cons {v : Value} {vs : List Value} {r : Rd} {rs : List Rd} : RIn news v r → RAll news vs rs → RAll news (v :: vs) (r :: rs)
theorem RIn.mono {news news' : List (Addr × Obj)} {v : Value} {r : Rd} (hs : ∀ p ∈ news, p ∈ news') (h : RIn news v r) : RIn news' v r := by
  obtain ⟨a, n, tp, ti, tn, e, hm⟩ := h
  exact ⟨a, n, tp, ti, tn, e, hs _ hm⟩
theorem RAll.mono {news news' : List (Addr × Obj)} (hs : ∀ p ∈ news, p ∈ news') {vs : List Value} {rs : List Rd} (h : RAll news vs rs) : RAll news' vs rs := by
  induction h with
  | nil => exact .nil
  | cons h _ ih => exact .cons (h.mono hs) ih
theorem RAll.snoc {news : List (Addr × Obj)} {vs : List Value} {rs : List Rd} {v : Value} {r : Rd} (h : RAll news vs rs) (h1 : RIn news v r) : RAll news (vs ++ [v]) (rs ++ [r]) := by
  induction h with
  | nil => exact .cons h1 .nil
  | cons h _ ih => exact .cons h ih
theorem RAll.length {news : List (Addr × Obj)} {vs : List Value} {rs : List Rd} (h : RAll news vs rs) : vs.length = rs.length := by
  induction h with
  | nil => rfl
  | cons _ _ ih => simp [ih]
def rdM0 (T : Str) (tT : Tok) (l : Addr) : Str → Option Value := fun y => if y = Str.ofString "readings" then some (.ref l) else if y = Str.ofString "text" then some (.str T tT) else none
def MidR (s : Shared) (T : Str) (tT : Tok) (C : List Rd → Prop) (f' : Flow) (s' : Shared) : Prop :=
  f' = .next ∧ ∃ h' tk' l vs rs n tl, s' = { s with heap := h', toks := tk' } ∧ Fr s.heap s.heap.objs.size h' (rdM0 T tT l) ∧ News s.heap s.heap.objs.size h' ((l, W.listOf (List.toArray vs) n) :: tl) ∧ (∀ p ∈ tl, p.1 ≠ l) ∧ RAll tl vs rs ∧ rs.length ≤ 2 ∧ C rs
section
variable {prog : Program} {w : World} {A : Around} {E : Value → Shared → Prop} {s : Shared} {env : Env} {h₀ : Heap} {x : Str} {body : List Stmt} {Q : Flow → Shared → Prop}
theorem iter_range_my {r : Addr} {b₀ : Int} {t₀ u₀ v₀ : Tok} {n : Nat} {m₀ : Str → Option Value} {news : List (Addr × Obj)} (J : Nat → (Str → Option Value) → List (Addr × Obj) → Prop)
    (hh : A.handled = none) (hr : IsRange s.heap r 0 b₀ 1 t₀ u₀ v₀) (hsmall : Builtin.Range.small 0 b₀ 1 = true) (hsz : Builtin.Range.rangeSize 0 b₀ 1 = (n : Int))
    (F : Fr h₀ env.locals s.heap m₀) (N : News h₀ env.locals s.heap news) (hj : J 0 m₀ news)
    (turn : ∀ (I : Addr) (i : Nat) t m₁ news₁ h tk own, i < n → J i m₁ news₁ → (∀ p ∈ news₁, p.1 ≠ I) → (∀ p ∈ own, p.1 = I) → (∃ o, (I, o) ∈ own) →
      Fr h₀ env.locals h (fun y => if y = x then some (.int (i : Int) t) else m₁ y) → News h₀ env.locals h (own ++ news₁) →
      wpAny (model prog w) A (execs body env) (LoopStepV h₀ env.locals [I] own (J (i + 1)) { s with heap := h, toks := tk } (fun v s' => Q (.ret v) s') fun s' => Q .next s') E { s with heap := h, toks := tk })
    (done : ∀ m₁ news₁ h tk, J n m₁ news₁ → Fr h₀ env.locals h m₁ → News h₀ env.locals h news₁ → Q .next { s with heap := h, toks := tk }) :
    wpAny (model prog w) A (pyIter (.ref r)) (fun it s₂ => LoopAtV prog w A h₀ env x body Q E it s₂) E s := by
  refine wpAny_pyIter_range hr hsmall ?_
  have W : Walks prog w A s.heap.objs.size [s.heap.objs.size] [s.heap.objs.size] n (fun i v => i < n ∧ ∃ t, v = .int (0 + i * 1) t)
      (fun i h => IsRangeIter h s.heap.objs.size (0 + (i : Nat) * 1) ((n : Int) - (i : Nat)) 1) := (Walks.range hh _ 0 1 n).bound
  refine ⟨_, _, _, _, _, _, m₀, news, J, rfl, W, ?_, ?_, ?_, (by show IsRangeIter _ _ _ _ _; rw [hsz]; simpa using Heap.get?_push_size _ rfl), F.push _, (fun p hp => ⟨Heap.get?_push_of_some _ (N p hp).1, (N p hp).2⟩), hj, ?_, ?_⟩
  · intro hm
    exact absurd F.ns.lt ((List.mem_singleton.mp hm) ▸ Nat.lt_irrefl _)
  · intro b' hb
    rw [List.mem_singleton.mp hb]
    exact next_is_new F
  · intro p hp hI
    exact absurd (Heap.lt_size (N p hp).1) ((List.mem_singleton.mp hI) ▸ Nat.lt_irrefl _)
  · rintro i v m₁ news₁ s₁ own ⟨h, tk, rfl⟩ hi ⟨_, u, rfl⟩ hJ hoff hown _ hmem hst' F₁ N₁
    have e1 : (0 : Int) + (i : Int) * 1 = (i : Int) := by omega
    rw [e1] at F₁
    refine turn s.heap.objs.size i u m₁ news₁ h tk own hi hJ (fun p hp e => hoff p hp (List.mem_singleton.mpr e)) (fun p hp => List.mem_singleton.mp (hown p hp)) ?_ F₁ N₁
    have hst2 : IsRangeIter h s.heap.objs.size _ _ 1 := hst'
    exact ⟨_, hmem _ (List.mem_singleton.mpr rfl) (next_is_new F) _ hst2⟩
  · rintro h' tk m' news' F' N' _ hJ
    exact done m' news' h' tk hJ F' N'
end
def rdMu (T : Str) (tT : Tok) (l : Addr) (u : Str → Option Value) : Str → Option Value := fun y => if y = Str.ofString "text" then some (.str T tT) else if y = Str.ofString "readings" then some (.ref l) else u y
theorem rdMu_of {T : Str} {tT : Tok} {l : Addr} {m : Str → Option Value} (h1 : m (Str.ofString "text") = some (.str T tT)) (h2 : m (Str.ofString "readings") = some (.ref l)) : m = rdMu T tT l m := by
  funext y
  unfold rdMu
  by_cases e1 : y = Str.ofString "text"
  · rw [if_pos e1, e1, h1]
  · rw [if_neg e1]
    by_cases e2 : y = Str.ofString "readings"
    · rw [if_pos e2, e2, h2]
    · rw [if_neg e2]
def JR (T : Str) (tT : Tok) (l : Addr) (i : Nat) (m : Str → Option Value) (nx : List (Addr × Obj)) : Prop :=
  ∃ vs rs n tl u, nx = (l, W.listOf (List.toArray vs) n) :: tl ∧ (∀ p ∈ tl, p.1 ≠ l) ∧ RAll tl vs rs ∧ rs.length ≤ 2 + i ∧ Inv T i rs ∧ m = rdMu T tT l u
theorem jr_end {T : Str} {tT : Tok} {l I L : Addr} {i : Nat} {h₀ h' : Heap} {m' : Str → Option Value} {vs : List Value} {rs : List Rd} {n tk : Nat} {tl own big : List (Addr × Obj)} {s₁ : Shared}
    (F : Fr h₀ L h' m') (N : News h₀ L h' big) (h1 : (l, W.listOf (List.toArray vs) n) ∈ big) (h2 : ∀ p ∈ own, p ∈ big) (h3 : ∀ p ∈ tl, p ∈ big) (ho : ∀ p ∈ tl, p.1 ≠ l) (hI : l ≠ I) (hI' : ∀ p ∈ tl, p.1 ≠ I)
    (hR : RAll tl vs rs) (hl : rs.length ≤ 2 + i) (hv : Inv T i rs) (hm1 : m' (Str.ofString "text") = some (.str T tT)) (hm2 : m' (Str.ofString "readings") = some (.ref l)) :
    LoopStepU h₀ L [I] own (JR T tT l i) s₁ .next { s₁ with heap := h', toks := tk } := by
  refine LoopStepU.intro (news₂ := (l, W.listOf (List.toArray vs) n) :: tl) F ?_ ?_ ⟨vs, rs, n, tl, m', rfl, ho, hR, hl, hv, rdMu_of hm1 hm2⟩
  · intro p hp
    rcases List.mem_append.mp hp with hp | hp
    · exact N p (h2 p hp)
    · rcases List.mem_cons.mp hp with e | hp
      · rw [e]; exact N _ h1
      · exact N p (h3 p hp)
  · intro p hp e
    rcases List.mem_cons.mp hp with e' | hp
    · rw [e'] at e; exact hI (List.mem_singleton.mp e)
    · exact hI' p hp (List.mem_singleton.mp e)
theorem Ext.newsCons {h₀ h h' : Heap} {L l : Addr} {o : Obj} {m : Str → Option Value} {news : List (Addr × Obj)} (e : Ext h h') (F : Fr h₀ L h m) (N : News h₀ L h news) (hg : h'.get? l = some o) (hn : h.get? l = none) : News h₀ L h' ((l, o) :: news) := by
  intro p hp
  rcases List.mem_cons.mp hp with e1 | hp
  · rw [e1]
    refine ⟨hg, ?_, ?_⟩
    · intro e2
      have e2' : l = L := e2
      obtain ⟨⟨o', es, ep, ho, r⟩, _, _⟩ := F
      rw [e2', ho] at hn
      exact nomatch hn
    · cases hx : h₀.get? l with
      | none => rfl
      | some o' => rw [F.keep _ _ hx] at hn; exact nomatch hn
  · exact Ext.news e N p hp
theorem allLt_mem {D : Addr} : ∀ {tl : List (Addr × Obj)}, AllLt D tl → ∀ p ∈ tl, @LT.lt Nat _ p.1 D
  | [], _, _, h => nomatch h
  | q :: r, h, p, hp => by
    rcases List.mem_cons.mp hp with e | hp
    · rw [e]; exact h.1
    · exact allLt_mem h.2 p hp
theorem ne_str {x y : Str} : (x != y) = true ↔ x ≠ y := by simp
theorem ne_strF {x y : Str} : (x != y) = false ↔ x = y := by simp
theorem r1_a {T : Str} (h : (Txt.slice T none (some 1) != Str.ofString "<") = true) : R1c T := by
  rw [ne_str, s_lt, ne_eq, first_iff] at h
  exact fun e => h e.1
theorem r1_b {T : Str} (h : (Txt.slice T (some (-1)) none != Str.ofString ">") = true) : R1c T := by
  rw [ne_str, s_gt, ne_eq, last_iff] at h
  exact fun e => h e.2
theorem r1_c {T : Str} (h1 : (Txt.slice T none (some 1) != Str.ofString "<") = false) (h2 : (Txt.slice T (some (-1)) none != Str.ofString ">") = false) : ¬ R1c T := by
  rw [ne_strF, s_lt, first_iff] at h1
  rw [ne_strF, s_gt, last_iff] at h2
  exact fun e => e ⟨h1, h2⟩
theorem r2_a {T : Str} (h1 : (Txt.slice T none (some 1) == Str.ofString "{") = true) (h2 : (Txt.slice T (some (-1)) none == Str.ofString "}") = true) : R2c T := by
  rw [beq_iff_eq, s_lb, first_iff] at h1
  rw [beq_iff_eq, s_rb, last_iff] at h2
  exact ⟨h1, h2⟩
theorem r2_b {T : Str} (h1 : (Txt.slice T none (some 1) == Str.ofString "{") = false) : ¬ R2c T := by
  rw [beq_eq_false_iff_ne, s_lb, ne_eq, first_iff] at h1
  exact fun e => h1 e.1
theorem r2_c {T : Str} (h1 : (Txt.slice T (some (-1)) none == Str.ofString "}") = false) : ¬ R2c T := by
  rw [beq_eq_false_iff_ne, s_rb, ne_eq, last_iff] at h1
  exact fun e => h1 e.2
theorem off1 {l D : Addr} {o : Obj} {tl : List (Addr × Obj)} (h : ∀ p ∈ tl, p.1 ≠ l) (hlt : @LT.lt Nat _ l D) : ∀ p ∈ (D, o) :: tl, p.1 ≠ l := by
  intro p hp
  rcases List.mem_cons.mp hp with e | hp
  · subst e; exact fun e => Nat.lt_irrefl _ (e ▸ hlt)
  · exact h p hp
theorem N_swap {h₀ h : Heap} {L : Addr} {a b : Addr × Obj} {tl : List (Addr × Obj)} (N : News h₀ L h (a :: b :: tl)) : News h₀ L h (b :: a :: tl) := fun p hp => N p (by
  rcases List.mem_cons.mp hp with e | hp
  · rw [e]; exact .tail _ (.head _)
  · rcases List.mem_cons.mp hp with e | hp
    · rw [e]; exact .head _
    · exact .tail _ (.tail _ hp))
theorem midR {s : Shared} {T : Str} {tT : Tok} {C : List Rd → Prop} {h' : Heap} {tk' : Nat} {l : Addr} {vs : List Value} {rs : List Rd} {n : Nat} {tl : List (Addr × Obj)}
    (F : Fr s.heap s.heap.objs.size h' (rdM0 T tT l)) (N : News s.heap s.heap.objs.size h' ((l, W.listOf (List.toArray vs) n) :: tl)) (ho : ∀ p ∈ tl, p.1 ≠ l) (hR : RAll tl vs rs) (hl : rs.length ≤ 2) (hC : C rs) :
    MidR s T tT C .next { s with heap := h', toks := tk' } := ⟨rfl, h', tk', l, vs, rs, n, tl, rfl, F, N, ho, hR, hl, hC⟩
theorem push_snoc (vs : List Value) (v : Value) : vs.toArray.push v = (vs ++ [v]).toArray := by simp
section
variable {prog : Program} {w : World} {A : Around} {E : Value → Shared → Prop} {s : Shared} {env : Env} {h₀ : Heap} {x : Str} {body : List Stmt} {Q : Flow → Shared → Prop}
theorem iter_nil {l : Addr} {nn : Nat} {m₀ : Str → Option Value} {news : List (Addr × Obj)} (hh : A.handled = none) (hl : (l, W.listOf #[] nn) ∈ news) (F : Fr h₀ env.locals s.heap m₀) (N : News h₀ env.locals s.heap news)
    (done : ∀ h tk, Fr h₀ env.locals h m₀ → News h₀ env.locals h news → Q .next { s with heap := h, toks := tk }) :
    wpAny (model prog w) A (pyIter (.ref l)) (fun it s₂ => LoopAtV prog w A h₀ env x body Q E it s₂) E s := by
  refine kdl_iter (vs := []) (fun _ m nx => m = m₀ ∧ nx = news) hh hl F N ⟨rfl, rfl⟩ ?_ ?_
  · intro i v m₁ news₁ h tk own hv
    exact nomatch hv
  · rintro m₁ news₁ h tk ⟨rfl, rfl⟩ F N
    exact done h tk F N
theorem iter_one {l : Addr} {v : Value} {nn : Nat} {m₀ : Str → Option Value} {news : List (Addr × Obj)} (R : (Str → Option Value) → List (Addr × Obj) → Prop) (hh : A.handled = none) (hl : (l, W.listOf #[v] nn) ∈ news) (F : Fr h₀ env.locals s.heap m₀) (N : News h₀ env.locals s.heap news)
    (turn : ∀ h tk own, OwnOff own (news.map (·.1)) → Fr h₀ env.locals h (fun y => if y = x then some v else m₀ y) → News h₀ env.locals h (news ++ own) →
      wpAny (model prog w) A (execs body env) (InvPostG h₀ env.locals (fun m' nx => (l, W.listOf #[v] nn) ∈ nx ∧ R m' nx) own { s with heap := h, toks := tk } Q) E { s with heap := h, toks := tk })
    (done : ∀ m₁ news₁ h tk, R m₁ news₁ → Fr h₀ env.locals h m₁ → News h₀ env.locals h news₁ → Q .next { s with heap := h, toks := tk }) :
    wpAny (model prog w) A (pyIter (.ref l)) (fun it s₂ => LoopAtV prog w A h₀ env x body Q E it s₂) E s := by
  refine kdl_iter (vs := [v]) (fun i m nx => (i = 0 → m = m₀ ∧ nx = news) ∧ (i = 1 → R m nx)) hh hl F N ⟨fun _ => ⟨rfl, rfl⟩, fun e => nomatch e⟩ ?_ ?_
  · rintro i v' m₁ news₁ h tk own hv hoff hm hJ F₁ N₁
    cases i with
    | zero =>
      obtain ⟨rfl, rfl⟩ := hJ.1 rfl
      have : v = v' := by simpa using hv
      subst this
      refine wpAny_mono (turn h tk own hoff F₁ N₁) (fun f s' hp => ?_) fun _ _ e => e
      have fin : InvEndG h₀ env.locals (fun m' nx => (l, W.listOf #[v] nn) ∈ nx ∧ R m' nx) own { s with heap := h, toks := tk } s' → InvEndG h₀ env.locals (fun m' nx => (l, W.listOf [v].toArray nn) ∈ nx ∧ ((0 + 1 = 0 → m' = m₁ ∧ nx = news₁) ∧ (0 + 1 = 1 → R m' nx))) own { s with heap := h, toks := tk } s' := by
        rintro ⟨h', tk, m', news', nx, e, F', N', hn, ho, ha, hm, hr⟩
        exact ⟨h', tk, m', news', nx, e, F', N', hn, ho, ha, hm, (fun e => nomatch e), fun _ => hr⟩
      cases f with
      | ret v => exact hp
      | brk => exact hp
      | next => exact fin hp
      | cont => exact fin hp
    | succ i => simp at hv
  · rintro m₁ news₁ h tk hJ F N
    exact done m₁ news₁ h tk (hJ.2 rfl) F N
end
def RI (T : Str) (tT : Tok) (l I : Addr) (ownO : List (Addr × Obj)) (i : Nat) (m : Str → Option Value) (nx : List (Addr × Obj)) : Prop :=
  ∃ vs rs n tl, (l, W.listOf (List.toArray vs) n) ∈ nx ∧ (∀ p ∈ ownO, p ∈ nx) ∧ (∀ p ∈ tl, p ∈ nx) ∧ (∀ p ∈ tl, p.1 ≠ l) ∧ (∀ p ∈ tl, p.1 ≠ I) ∧ RAll tl vs rs ∧ rs.length ≤ 2 + i ∧ Inv T i rs ∧ m (Str.ofString "text") = some (.str T tT) ∧ m (Str.ofString "readings") = some (.ref l)
theorem ri_end {T : Str} {tT : Tok} {l l9 I L : Addr} {o9 : Obj} {i : Nat} {h₀ h' : Heap} {m' : Str → Option Value} {vs : List Value} {rs : List Rd} {n tk : Nat} {tl own own2 big : List (Addr × Obj)} {s₁ : Shared}
    (F : Fr h₀ L h' m') (N : News h₀ L h' big) (h9 : (l9, o9) ∈ big) (h1 : (l, W.listOf (List.toArray vs) n) ∈ big) (h2 : ∀ p ∈ own, p ∈ big) (h3 : ∀ p ∈ tl, p ∈ big) (h4 : ∀ p ∈ own2, p ∈ big)
    (n9 : ∀ p ∈ own2, p.1 ≠ l9) (nl : ∀ p ∈ own2, p.1 ≠ l) (no : ∀ p ∈ own2, ∀ q ∈ own, p.1 ≠ q.1) (nt : ∀ p ∈ own2, ∀ q ∈ tl, p.1 ≠ q.1)
    (ho : ∀ p ∈ tl, p.1 ≠ l) (hI : ∀ p ∈ tl, p.1 ≠ I)
    (hR : RAll tl vs rs) (hl : rs.length ≤ 2 + i) (hv : Inv T i rs) (hm1 : m' (Str.ofString "text") = some (.str T tT)) (hm2 : m' (Str.ofString "readings") = some (.ref l)) :
    InvEndG h₀ L (fun m' nx => (l9, o9) ∈ nx ∧ RI T tT l I own i m' nx) own2 s₁ { s₁ with heap := h', toks := tk } := by
  refine InvEndG.intro (nx := (l9, o9) :: (l, W.listOf (List.toArray vs) n) :: (own ++ tl)) F N ⟨.head _, vs, rs, n, tl, .tail _ (.head _), ?_, ?_, ho, hI, hR, hl, hv, hm1, hm2⟩ ?_ ?_ h4
  · exact fun p hp => .tail _ (.tail _ (List.mem_append_left _ hp))
  · exact fun p hp => .tail _ (.tail _ (List.mem_append_right _ hp))
  · intro p hp b hb
    obtain ⟨q, hq, rfl⟩ := List.mem_map.mp hb
    rcases List.mem_cons.mp hq with e | hq
    · rw [e]; exact n9 p hp
    · rcases List.mem_cons.mp hq with e | hq
      · rw [e]; exact nl p hp
      · rcases List.mem_append.mp hq with hq | hq
        · exact no p hp q hq
        · exact nt p hp q hq
  · intro p hp
    rcases List.mem_cons.mp hp with e | hp
    · rw [e]; exact h9
    · rcases List.mem_cons.mp hp with e | hp
      · rw [e]; exact h1
      · rcases List.mem_append.mp hp with hp | hp
        · exact h2 p hp
        · exact h3 p hp
theorem ri_add {T : Str} {tT tp ti tn : Tok} {l l9 I L D D1 D2 : Addr} {o1 o2 o9 oI : Obj} {i : Nat} {h₀ h' : Heap} {m' : Str → Option Value} {vs : List Value} {rs : List Rd} {P Nn : Str} {v : Int} {n nt tk : Nat} {tl own own2 rest2 : List (Addr × Obj)} {s₁ : Shared}
    (F : Fr h₀ L h' m') (N : News h₀ L h' ((D, ({ cls := .type "tuple", data := .seq [Value.str P tp, Value.int v ti, Value.str Nn tn].toArray nt } : Obj)) :: (D1, o1) :: (D2, o2) :: (l9, o9) :: (l, W.listOf (vs.toArray.push (.ref D)) n) :: rest2))
    (hD : @LT.lt Nat _ D1 D ∧ @LT.lt Nat _ D2 D ∧ @LT.lt Nat _ l9 D ∧ @LT.lt Nat _ l D ∧ AllLt D rest2) (h2 : ∀ p ∈ own, p ∈ rest2) (h3 : ∀ p ∈ tl, p ∈ rest2) (h4 : ∀ p ∈ own2, p ∈ rest2) (hoI : (I, oI) ∈ own)
    (n9 : ∀ p ∈ own2, p.1 ≠ l9) (nl : ∀ p ∈ own2, p.1 ≠ l) (no : ∀ p ∈ own2, ∀ q ∈ own, p.1 ≠ q.1) (nt' : ∀ p ∈ own2, ∀ q ∈ tl, p.1 ≠ q.1)
    (ho : ∀ p ∈ tl, p.1 ≠ l) (hI : ∀ p ∈ tl, p.1 ≠ I)
    (hR : RAll tl vs rs) (hl : rs.length + 1 ≤ 2 + i) (hv : Inv T i (rs ++ [(P, v, Nn)])) (hm1 : m' (Str.ofString "text") = some (.str T tT)) (hm2 : m' (Str.ofString "readings") = some (.ref l)) :
    InvEndG h₀ L (fun m' nx => (l9, o9) ∈ nx ∧ RI T tT l I own i m' nx) own2 s₁ { s₁ with heap := h', toks := tk } := by
  have hlt := allLt_mem hD.2.2.2.2
  rw [push_snoc] at N
  refine ri_end (tl := (D, ({ cls := .type "tuple", data := .seq [Value.str P tp, Value.int v ti, Value.str Nn tn].toArray nt } : Obj)) :: tl) (vs := vs ++ [.ref D]) F N (.tail _ (.tail _ (.tail _ (.head _)))) (.tail _ (.tail _ (.tail _ (.tail _ (.head _))))) (fun p hp => .tail _ (.tail _ (.tail _ (.tail _ (.tail _ (h2 p hp))))))
    ?_ (fun p hp => .tail _ (.tail _ (.tail _ (.tail _ (.tail _ (h4 p hp)))))) n9 nl no ?_ (off1 ho hD.2.2.2.1) ?_ ((hR.mono (fun p hp => .tail _ hp)).snoc ⟨_, _, _, _, _, rfl, .head _⟩) (by simpa using hl) hv hm1 hm2
  · intro p hp
    rcases List.mem_cons.mp hp with e | hp
    · rw [e]; exact .head _
    · exact .tail _ (.tail _ (.tail _ (.tail _ (.tail _ (h3 p hp)))))
  · intro p hp q hq
    rcases List.mem_cons.mp hq with e | hq
    · rw [e]
      intro e'
      have := hlt p (h4 p hp)
      rw [e'] at this
      exact Nat.lt_irrefl _ this
    · exact nt' p hp q hq
  · refine off1 hI ?_
    exact hlt _ (h2 _ hoI)
theorem N_assoc2 {h₀ h : Heap} {L : Addr} {a b : Addr × Obj} {r o : List (Addr × Obj)} (N : News h₀ L h ((a :: b :: r) ++ o)) : News h₀ L h (a :: b :: (r ++ o)) := N
theorem news_ne {h₀ h : Heap} {L a : Addr} {news : List (Addr × Obj)} (hn : h.get? a = none) (N : News h₀ L h news) : ∀ p ∈ news, @Ne Nat p.1 a := by
  intro p hp e
  have h1 := (N p hp).1
  have e' : p.1 = a := e
  rw [e', hn] at h1
  exact nomatch h1
theorem off_split {l9 l : Addr} {o9 o : Obj} {own2 rest : List (Addr × Obj)} (h : OwnOff own2 (((l9, o9) :: (l, o) :: rest).map (·.1))) : (∀ p ∈ own2, p.1 ≠ l9) ∧ (∀ p ∈ own2, p.1 ≠ l) ∧ ∀ p ∈ own2, ∀ q ∈ rest, p.1 ≠ q.1 :=
  ⟨fun p hp => h p hp _ (.head _), fun p hp => h p hp _ (.tail _ (.head _)), fun p hp q hq => h p hp _ (.tail _ (.tail _ (List.mem_map.mpr ⟨q, hq, rfl⟩)))⟩
theorem sk_num {T : Str} {i : Nat} {rs : List Rd} (h : Inv T i rs) (h1 : ∀ v, Txt.slice T (some ((i : Int) + 1)) (some (Txt.find3 T (Str.ofString "(") (i : Int))) ≠ intT v) : Inv T (i + 1) rs :=
  inv_skip h fun P l N _ m => h1 l m.num
theorem sk_rp {T : Str} {i : Nat} {rs : List Rd} (h : Inv T i rs) (h1 : (Txt.item T (-1) == Str.ofString ")") = false) : Inv T (i + 1) rs :=
  inv_skip h fun P l N _ m => by rw [m.rp] at h1; simp at h1
theorem sk_col {T : Str} {i : Nat} {rs : List Rd} (h : Inv T i rs) (h1 : (Txt.item T (i : Int) == Str.ofString ":") = false) : Inv T (i + 1) rs :=
  inv_skip h fun P l N _ m => by rw [m.col] at h1; simp at h1
theorem sk_pos {T : Str} {i : Nat} {rs : List Rd} (h : Inv T i rs) (h1 : ¬ 0 < Txt.find3 T (Str.ofString "(") (i : Int)) : Inv T (i + 1) rs :=
  inv_skip h fun P l N _ m => h1 m.pos
theorem sk_bi {T : Str} {i : Nat} {rs : List Rd} {v : Int} (h : Inv T i rs) (h1 : Txt.slice T (some ((i : Int) + 1)) (some (Txt.find3 T (Str.ofString "(") (i : Int))) = intT v) (h2 : (Txt.slice T none (some (i : Int)) = Str.ofString "~" ∧ v = 0)) : Inv T (i + 1) rs :=
  inv_skip h fun P l N hb m => hb (by
    have : l = v := intT_inj (m.num.symm.trans h1)
    rw [← m.path, this]; exact h2)
/-- what a call has made -/
def Fresh (h h' : Heap) (big : List (Addr × Obj)) : Prop := ∀ p ∈ big, h'.get? p.1 = some p.2 ∧ h.get? p.1 = none
theorem size_ok (n : Nat) : Builtin.Range.rangeSize 0 (n : Int) 1 = (n : Int) := by
  unfold Builtin.Range.rangeSize
  rw [if_pos (by decide)]
  split <;> omega
theorem fits_ok {z : Int} (h1 : -1000 ≤ z) (h2 : z < 1000) : Builtin.Range.rangeFitsLong z = true := by
  unfold Builtin.Range.rangeFitsLong
  rw [Bool.and_eq_true, decide_eq_true_eq, decide_eq_true_eq]
  constructor
  · exact Int.le_trans (by decide) h1
  · exact Int.lt_of_lt_of_le h2 (by decide)
theorem small_ok {n : Nat} (h : n ≤ 400) : Builtin.Range.small 0 (n : Int) 1 = true := by
  have h1 := fits_ok (z := (n : Int)) (by omega) (by omega)
  have h2 := fits_ok (z := 0) (by decide) (by decide)
  have h3 := fits_ok (z := 1) (by decide) (by decide)
  unfold Builtin.Range.small
  rw [size_ok, h1, h2, h3]
  have h4 : ((if (1 : Int) > 0 then (n : Int) else 0) : Int) = n := if_pos (by decide)
  simp [h1]
end Mine
end
section
open PySem PySem.W PyProof.Rows PySem.Calls
namespace Mine
set_option maxRecDepth 100000
theorem fill_R1 (P : Params) (h : Heap) : (hd.heap_39 P).In h → PySem.Challenge.rw_mg0082_01.prog = PySem.Challenge.rw_mg0082_01.prog := by
  w_top off
  k_fill
  intros; rfl
open NumText
local macro_rules | `(tactic| ktr_rel) => `(tactic| repeat' (first | (k_unfold; (try dsimp only)) | walk1 | (dsimp only; walk1)))
local macro_rules | `(tactic| k_all) => `(tactic| assumption)
local macro_rules | `(tactic| walk_at "call ref") => `(tactic| (k_here; k_dflt (refine' wh_spec ?zX ?zT ?z0 ?zd ?zu ?_; (case zX => exact Frag.In.keeps (by assumption) (Fr.keep (by assumption))); (case zT => exact Top.keeps (by assumption) (Fr.keep (by assumption))); (case z0 => omega); (case zd => (dsimp only [Am, Around.deeper]; omega)); (case zu => (dsimp only [Am, Around.deeper]; omega))); intro l9 vs9 h9 tk9 e9 hg9 hn9 hor9; obtain ⟨n9, hg9⟩ := hg9; (have F9 := Ext.fr e9 (by assumption)); (have N9 := Ext.newsCons e9 (by assumption) (by assumption) hg9 hn9); (have l19 := news_ne hn9 (by assumption)); (have l18 := l19 _ (List.Mem.head _)); (try dsimp only at l18); clear e9 hg9 l19 hn9; (try k_sweep); (rcases hor9 with ⟨h91, h92⟩ | ⟨v9, t9, h91, h92⟩ <;> subst h91)))
local macro_rules | `(tactic| walk_at "compareOp NotEq ref") => `(tactic| (k_here; k_dflt (refine' ne_pair ?za ?zb ?zu ?_; (case za => exact News.isTup (by k_asm) (by k_mem)); (case zb => exact News.isTup (by k_asm) (by k_mem)); (case zu => ((simp only [Around.deeper_units]); omega)))))
set_option maxHeartbeats 8000000 in
theorem rd_spec {w : World} {p : Program} {loose : List Str} {mean : ExcName → Option Value} {mg mb : Str → Option Value} {dp un : Nat} {fr : Option (List Env)} {gd : Option (List Code)} {s : Shared}
  {Q E : Value → Shared → Prop} {T : Str} {tT : Tok}
  (X : (hd.heap_39 w.params).In s.heap) (TT : Top p loose mean mg mb s.heap) (hT : T.length ≤ 400)
  (hd : dp + 32 < recursionLimit) (hu : un + 256 < cLine)
  (ret : ∀ l vs rs n tl h' tk', Ext s.heap h' → Fresh s.heap h' ((l, W.listOf (List.toArray vs) n) :: tl) → RAll tl vs rs → rs.length ≤ 402 → (∀ P l N, (P, l, N) ∈ rs ↔ stdS P l N = T) → Q (.ref l) { s with heap := h', toks := tk' }) :
  wpAny (model prg w) (Am dp un fr gd) (call (.ref 49) [.str T tT]) Q E s := by
  refine' enter_def (binds := [(Str.ofString "text", .str T tT)]) (m := fun y => if y = Str.ofString "text" then some (.str T tT) else none) X TT ?ho ?hc (by show dp < _; omega) ?hb ?hl ?hm ?_ ?c1 ?c2 ?c3 ?c4
  case ho => k_is
  case hc => k_is
  case hb => exact rfl
  case hl => exact locs rfl
  case hm => exact look1 _ _
  case c1 => exact rfl
  case c2 => exact rfl
  case c3 => exact rfl
  case c4 => decide
  intro h₁ F₁ N₁
  k_fold
  iterate 9 (first | (k_unfold; (try dsimp only)) | walk1 | (dsimp only; walk1))
  refine wpAny_mono (Q := MidR s T tT (C1 T)) ?_ ?_ (fun _ _ h => h)
  · ktr_rel
    · refine' midR (vs := [_]) (rs := [(Str.ofString "~", 0, T)]) ?eF (N_swap ?eN) ?eo ?eR (by simp) (Or.inl ⟨r1_a (by assumption), rfl⟩)
      case eF => assumption
      case eN => assumption
      case eo => exact off1 (fun _ h => nomatch h) (by assumption)
      case eR => exact .cons ⟨_, _, _, _, _, rfl, .head _⟩ .nil
    · refine' midR (vs := [_]) (rs := [(Str.ofString "~", 0, T)]) ?eF (N_swap ?eN) ?eo ?eR (by simp) (Or.inl ⟨r1_b (by assumption), rfl⟩)
      case eF => assumption
      case eN => assumption
      case eo => exact off1 (fun _ h => nomatch h) (by assumption)
      case eR => exact .cons ⟨_, _, _, _, _, rfl, .head _⟩ .nil
    · refine' midR (vs := []) (rs := []) ?eF ?eN ?eo .nil (by decide) (Or.inr ⟨r1_c (by assumption) (by assumption), rfl⟩)
      case eF => assumption
      case eN => assumption
      case eo => exact (fun _ h => nomatch h)
  rintro f' s' ⟨rfl, h', tk', l, vs, rs, n, tl, rfl, F2, N2, hoff, hR, hlen, hC⟩
  dsimp only
  unfold rdM0 at F2
  have hlen2 := hR.length
  iterate 1 (first | (k_unfold; (try dsimp only)) | walk1 | (dsimp only; walk1))
  refine wpAny_mono (Q := MidR s T tT (Inv T 0)) ?_ ?_ (fun _ _ h => h)
  · ktr_rel
    · refine' midR (vs := vs ++ [_]) (rs := rs ++ [(Str.ofString "~", 0, Str.ofString "<" ++ Txt.slice T (some 1) (some (-1)) ++ Str.ofString ">")]) ?eF (N_swap ?eN) ?eo ?eR ?el (ini_add hC (r2_a (by assumption) (by assumption)))
      case eF => assumption
      case eN => rw [← push_snoc]; assumption
      case eo => exact off1 hoff (And.left (by assumption))
      case eR => exact (hR.mono (fun p hp => .tail _ hp)).snoc ⟨_, _, _, _, _, rfl, .head _⟩
      case el => rcases hC with ⟨_, e⟩ | ⟨_, e⟩ <;> rw [e] <;> simp
    · refine' midR ?eF ?eN hoff hR hlen (ini_skip hC (r2_c (by assumption)))
      case eF => assumption
      case eN => assumption
    · refine' midR ?eF ?eN hoff hR hlen (ini_skip hC (r2_b (by assumption)))
      case eF => assumption
      case eN => assumption
  clear hlen2 hC hlen hR hoff
  rintro f' s' ⟨rfl, h', tk', l, vs, rs, n, tl, rfl, F3, N3, hoff, hR, hlen, hC⟩
  dsimp only
  unfold rdM0 at F3
  have hlen2 := hR.length
  walk1
  refine For_invV s.heap rfl rfl ?_ (by intro _; rfl) (by intro e s' h; exact h.elim)
  iterate 13 (first | (k_unfold; (try dsimp only)) | walk1 | (dsimp only; walk1))
  refine' iter_range_my (n := T.length) (JR T tT l) rfl ?r1 (small_ok hT) (size_ok _) ?r2 ?r3 ?ini ?turn ?done
  case r1 => assumption
  case r2 => k_asm
  case r3 => k_asm
  case ini => exact ⟨vs, rs, n, tl, _, rfl, hoff, hR, hlen, hC, rdMu_of rfl rfl⟩
  case turn =>
    clear hoff hR hlen hC hlen2
    rintro I i t m₁ nw h₄ tk₄ own hi ⟨vs, rs, n, tl, u, rfl, hoff, hR, hlen, hC, rfl⟩ hI hO ⟨oI, hoI⟩ F₄ N₄
    have hlen2 := hR.length
    unfold rdMu at F₄
    have hlI := hI _ (.head _)
    have htI : ∀ p ∈ tl, p.1 ≠ _ := fun p hp => hI p (.tail _ hp)
    have hoff' : ∀ p ∈ own ++ tl, p.1 ≠ l := by
      intro p hp
      rcases List.mem_append.mp hp with hp | hp
      · rw [hO p hp]; exact fun e => hlI e.symm
      · exact hoff p hp
    have N₅ : News s.heap s.heap.objs.size h₄ ((l, W.listOf (List.toArray vs) n) :: (own ++ tl)) := by
      intro p hp
      refine N₄ p ?_
      rcases List.mem_cons.mp hp with e | hp
      · rw [e]; exact List.mem_append_right _ (.head _)
      · rcases List.mem_append.mp hp with hp | hp
        · exact List.mem_append_left _ hp
        · exact List.mem_append_right _ (.tail _ hp)
    clear N₄
    have hown : ∀ p ∈ own, p ∈ own ++ tl := fun p hp => List.mem_append_left _ hp
    have htl : ∀ p ∈ tl, p ∈ own ++ tl := fun p hp => List.mem_append_right _ hp
    generalize own ++ tl = rest at *
    have hown2 : ∀ p ∈ own, p ∈ (l, W.listOf (List.toArray vs) n) :: rest := fun p hp => .tail _ (hown p hp)
    have htl2 : ∀ p ∈ tl, p ∈ (l, W.listOf (List.toArray vs) n) :: rest := fun p hp => .tail _ (htl p hp)
    ktr_rel
    · refine' iter_nil rfl (List.Mem.head _) ?nF ?nN ?_
      case nF => k_asm
      case nN => k_asm
      rintro h₅ tk₅ F₅ N₆
      ktr_rel
      refine' jr_end ?eF ?eN (.tail _ (.head _)) (fun p hp => .tail _ (hown2 p hp)) (fun p hp => .tail _ (htl2 p hp)) hoff hlI htI hR ?el (sk_num hC (by assumption)) ?e1 ?e2
      case eF => assumption
      case eN => assumption
      case el => omega
      case e1 => rfl
      case e2 => rfl
    · refine' iter_one (RI T tT l I own (i + 1)) rfl (List.Mem.head _) ?nF ?nN ?tn ?dn
      case nF => k_asm
      case nN => k_asm
      case tn =>
        rintro h₅ tk₅ own2 hoff2 F₅ N₆
        replace N₆ := N_assoc2 N₆
        obtain ⟨n9, nl, nr⟩ := off_split hoff2
        have hoff3 : ∀ p ∈ rest ++ own2, p.1 ≠ l := fun p hp => (List.mem_append.mp hp).elim (hoff' p) (nl p)
        have hr2 : ∀ p ∈ rest, p ∈ rest ++ own2 := fun p hp => List.mem_append_left _ hp
        have ho2 : ∀ p ∈ own2, p ∈ rest ++ own2 := fun p hp => List.mem_append_right _ hp
        generalize rest ++ own2 = rest2 at *
        ktr_rel
        · refine' ri_end ?eF ?eN (.tail _ (.tail _ (.head _))) (.tail _ (.tail _ (.tail _ (.head _)))) ?e1 ?e2 ?e3 n9 nl (fun p hp q hq => nr p hp q (hown q hq)) (fun p hp q hq => nr p hp q (htl q hq)) hoff htI hR ?el (sk_bi hC (by assumption) (by assumption)) ?e4 ?e5
          case eF => assumption
          case eN => assumption
          case e1 => exact fun p hp => .tail _ (.tail _ (.tail _ (.tail _ (hr2 p (hown p hp)))))
          case e2 => exact fun p hp => .tail _ (.tail _ (.tail _ (.tail _ (hr2 p (htl p hp)))))
          case e3 => exact fun p hp => .tail _ (.tail _ (.tail _ (.tail _ (ho2 p hp))))
          case el => omega
          case e4 => rfl
          case e5 => rfl
        · refine' ri_add ?eF ?eN ?eD (fun p hp => hr2 p (hown p hp)) (fun p hp => hr2 p (htl p hp)) ho2 hoI n9 nl (fun p hp q hq => nr p hp q (hown q hq)) (fun p hp q hq => nr p hp q (htl q hq)) hoff htI hR ?el (inv_add hC hi (eq_of_beq (by assumption)) (by assumption) (eq_of_beq (by assumption)) (by assumption) (by assumption)) ?e4 ?e5
          case eF => assumption
          case eN => assumption
          case eD => assumption
          case el => omega
          case e4 => rfl
          case e5 => rfl
      case dn =>
        rintro m₂ nw2 h₅ tk₅ ⟨vs', rs', n', tl', hm1, hm2, hm3, ho1, ho2, hR', hl', hI', e1, e2⟩ F₅ N₆
        ktr_rel
        exact jr_end F₅ N₆ hm1 hm2 hm3 ho1 hlI ho2 hR' hl' hI' e1 e2
    · refine' jr_end ?eF ?eN (.head _) hown2 htl2 hoff hlI htI hR ?el (sk_rp hC (by assumption)) ?e1 ?e2
      case eF => assumption
      case eN => assumption
      case el => omega
      case e1 => rfl
      case e2 => rfl
    · refine' jr_end ?eF ?eN (.head _) hown2 htl2 hoff hlI htI hR ?el (sk_pos hC (by assumption)) ?e1 ?e2
      case eF => assumption
      case eN => assumption
      case el => omega
      case e1 => rfl
      case e2 => rfl
    · refine' jr_end ?eF ?eN (.head _) hown2 htl2 hoff hlI htI hR ?el (sk_col hC (by assumption)) ?e1 ?e2
      case eF => assumption
      case eN => assumption
      case el => omega
      case e1 => rfl
      case e2 => rfl
  case done =>
    rintro m₁ nw h₄ tk₄ ⟨vs, rs, n, tl, u, rfl, hoff, hR, hlen, hC, rfl⟩ F₄ N₄
    unfold rdMu at F₄
    ktr_rel
    show Q (Value.ref l) _
    exact ret l vs rs n tl h₄ tk₄ (Fr.keep F₄) (fun p hp => ⟨(N₄ p hp).1, (N₄ p hp).2.2⟩) hR (by omega) (inv_done hC)

end Mine
end
section
open PySem PySem.W PyProof.Rows PySem.Calls
namespace Mine
set_option maxRecDepth 100000
open NumText
theorem one_len {c : Nat} {s : String} (h : Str.ofString s = ⟨#[c]⟩) : (Str.ofString s).length = 1 := by rw [h]; rfl
/-- what a text's readings are bounded by -/
theorem std_back {P N T : Str} {l : Int} (h : stdS P l N = T) (hT : T.length ≤ 400) : P.length ≤ 1000 ∧ N.length ≤ 1000 ∧ l.natAbs < Big := by
  by_cases hb : Bi P l
  · obtain ⟨rfl, rfl⟩ := hb
    refine ⟨by decide +kernel, ?_, Nat.lt_of_lt_of_le (by decide : 0 < 10 ^ 0) (big_le (by decide))⟩
    rcases std_bi h with ⟨_, e⟩ | ⟨_, e⟩
    · rw [e]; omega
    · have := Txt.slice_le T (some 1) (some (-1))
      rw [e, Str.length_append, Str.length_append, one_len s_lt, one_len s_gt]
      omega
  · have e := congrArg List.length (LL_std (N := N) hb)
    rw [h, LL_len] at e
    simp only [List.length_append, List.length_cons, List.length_nil, LL_len] at e
    refine ⟨by omega, by omega, ?_⟩
    have h1 : (decL l.natAbs).length ≤ 400 := by
      have : (intL l).length ≤ 400 := by omega
      unfold intL at this
      rw [List.length_append] at this
      omega
    have h2 := digitsVal_lt (decL_num l.natAbs).1
    rw [decL_val] at h2
    exact Nat.lt_of_lt_of_le h2 (big_le h1)
theorem std_short {P N : Str} {l : Int} (hP : P.length ≤ 150) (hN : N.length ≤ 150) (hl : l.natAbs < 10 ^ 13) : (stdS P l N).length ≤ 400 := by
  by_cases hb : Bi P l
  · obtain ⟨rfl, rfl⟩ := hb
    have e := std_bi (N := N) (T := stdS (Str.ofString "~") 0 N) rfl
    by_cases hN' : R1c N
    · rw [std_plain hN']; omega
    · have h1 := Classical.not_not.mp hN'
      have h2 := two_ends h1.1 h1.2 (by decide)
      have h3 := congrArg List.length (std_in h2)
      have h4 := congrArg List.length h2
      rw [LL_len] at h3 h4
      simp only [List.length_append, List.length_cons, List.length_nil] at h3 h4
      omega
  · have e := congrArg List.length (LL_std (N := N) hb)
    rw [LL_len] at e
    simp only [List.length_append, List.length_cons, List.length_nil, LL_len] at e
    have h1 := intT_lenk (n := l) (k := 13) (by decide) hl
    rw [← LL_len, LL_intT] at h1
    omega
theorem big13 {l : Int} (h : l.natAbs < 10 ^ 13) : l.natAbs < Big := Nat.lt_of_lt_of_le h (big_le (by decide))
section
variable {w : World} {p : Program} {loose : List Str} {mean : ExcName → Option Value} {mg mb : Str → Option Value} {A : Around} {s : Shared} {Q E : Value → Shared → Prop} {t : Addr} {P N T : Str} {l : Int} {tp tl tn : Tok}
theorem std_call1 (X : (hd.heap_39 w.params).In s.heap) (TT : Top p loose mean mg mb s.heap)
  (ht : IsTup s.heap t [.str P tp, .int l tl, .str N tn].toArray) (hP : P.length ≤ 150) (hN : N.length ≤ 150) (hl : l.natAbs < 10 ^ 13)
  (hd : A.depth + 8 < recursionLimit) (hu : A.units + 64 < cLine)
  (ret : ∀ T r h' tk', stdS P l N = T → T.length ≤ 400 → Ext s.heap h' → Q (.str T r) { s with heap := h', toks := tk' }) :
  wpAny (model prg w) A (call (.ref 21) [.ref t]) Q E s :=
  std_spec X TT ht (by omega) (by omega) (big13 hl) hd hu fun r h' tk' e => ret _ r h' tk' rfl (std_short hP hN hl) e
theorem std_call2 (X : (hd.heap_39 w.params).In s.heap) (TT : Top p loose mean mg mb s.heap)
  (ht : IsTup s.heap t [.str P tp, .int l tl, .str N tn].toArray) (hT : stdS P l N = T) (hl : T.length ≤ 400)
  (hd : A.depth + 8 < recursionLimit) (hu : A.units + 64 < cLine)
  (ret : ∀ r h' tk', Ext s.heap h' → Q (.str T r) { s with heap := h', toks := tk' }) :
  wpAny (model prg w) A (call (.ref 21) [.ref t]) Q E s := by
  have hb := std_back hT hl
  subst hT
  exact std_spec X TT ht hb.1 hb.2.1 hb.2.2 hd hu ret
end
section
variable {prog : Program} {w : World} {A : Around} {E : Value → Shared → Prop} {s : Shared}
open SeqAt in
theorem eq_trip {a b : Addr} {r q : Rd} {x1 x2 x3 y1 y2 y3 : Tok} (ha : IsTup s.heap a [.str r.1 x1, .int r.2.1 x2, .str r.2.2 x3].toArray) (hb : IsTup s.heap b [.str q.1 y1, .int q.2.1 y2, .str q.2.2 y3].toArray) (hu : A.units < cLine) (hne : a ≠ b) :
    EqAt A s (.ref a) (.ref b) (decide (r = q)) := by
  have h := RcAt.tuples (A := A) (s := s) (e := fun k => if k = 0 then r.1 == q.1 else if k = 1 then r.2.1 == q.2.1 else r.2.2 == q.2.2) ha hb hu (fun k h1 h2 => by
    have : k < 3 := h1
    match k, this with
    | 0, _ => exact EqAt.str_str _ _ _ _
    | 1, _ => exact EqAt.int_int _ _ _ _
    | 2, _ => exact EqAt.str_str _ _ _ _)
  have e : ((List.range (min ([.str r.1 x1, .int r.2.1 x2, .str r.2.2 x3] : List Value).toArray.size ([.str q.1 y1, .int q.2.1 y2, .str q.2.2 y3] : List Value).toArray.size)).all (fun k => if k = 0 then r.1 == q.1 else if k = 1 then r.2.1 == q.2.1 else r.2.2 == q.2.2) && ([.str r.1 x1, .int r.2.1 x2, .str r.2.2 x3] : List Value).toArray.size == ([.str q.1 y1, .int q.2.1 y2, .str q.2.2 y3] : List Value).toArray.size) = decide (r = q) := by
    have : (List.range (min ([.str r.1 x1, .int r.2.1 x2, .str r.2.2 x3] : List Value).toArray.size ([.str q.1 y1, .int q.2.1 y2, .str q.2.2 y3] : List Value).toArray.size)) = [0, 1, 2] := rfl
    rw [this]
    obtain ⟨r1, r2, r3⟩ := r
    obtain ⟨q1, q2, q3⟩ := q
    by_cases h1 : r1 = q1 <;> by_cases h2 : r2 = q2 <;> by_cases h3 : r3 = q3 <;> simp [h1, h2, h3]
  rw [e] at h
  exact EqAt.of_refs hne h
end
theorem RAll.mem {news : List (Addr × Obj)} {vs : List Value} {rs : List Rd} (h : RAll news vs rs) : (∀ v ∈ vs, ∃ r ∈ rs, RIn news v r) ∧ ∀ r ∈ rs, ∃ v ∈ vs, RIn news v r := by
  induction h with
  | nil => exact ⟨(fun v h => nomatch h), (fun v h => nomatch h)⟩
  | cons h1 _ ih =>
    constructor
    · intro v hv
      rcases List.mem_cons.mp hv with e | hv
      · exact ⟨_, .head _, e ▸ h1⟩
      · obtain ⟨r, hr, h⟩ := ih.1 v hv
        exact ⟨r, .tail _ hr, h⟩
    · intro v hv
      rcases List.mem_cons.mp hv with e | hv
      · exact ⟨_, .head _, e ▸ h1⟩
      · obtain ⟨r, hr, h⟩ := ih.2 v hv
        exact ⟨r, .tail _ hr, h⟩
theorem RIn.one {news : List (Addr × Obj)} {h : Heap} (hh : ∀ p ∈ news, h.get? p.1 = some p.2) {v : Value} {r q : Rd} (h1 : RIn news v r) (h2 : RIn news v q) : r = q := by
  obtain ⟨a, n, t1, t2, t3, e, hm⟩ := h1
  obtain ⟨b, n', u1, u2, u3, e', hm'⟩ := h2
  rw [e] at e'
  have eab : a = b := by injection e'
  subst eab
  have h3 := hh _ hm
  rw [hh _ hm'] at h3
  obtain ⟨r1, r2, r3⟩ := r
  obtain ⟨q1, q2, q3⟩ := q
  simp at h3
  obtain ⟨⟨⟨e1, _⟩, ⟨e2, _⟩, e3, _⟩, _⟩ := h3
  simp [e1, e2, e3]
section
variable {prog : Program} {w : World} {A : Around} {E : Value → Shared → Prop} {s : Shared}
open SeqAt Classical in
theorem notin_read {h₁ : Heap} {a l : Addr} {P N : Str} {z : Int} {x1 x2 x3 : Tok} {vs : List Value} {rs : List Rd} {n : Nat} {tl : List (Addr × Obj)} {Q : Value → Shared → Prop}
    (ha : IsTup s.heap a [.str P x1, .int z x2, .str N x3].toArray) (ho : ∃ o, h₁.get? a = some o) (hf : Fresh h₁ s.heap ((l, W.listOf (List.toArray vs) n) :: tl)) (hR : RAll tl vs rs) (hm : (P, z, N) ∈ rs) (hu : A.units + 8 < cLine)
    (h : Q (.bool false) s) : wpAny (model prog w) A (compareOp .NotIn (.ref a) (.ref l)) Q E s := by
  have hl : s.heap.IsList l vs.toArray := ⟨_, (hf _ (.head _)).1, rfl, n, rfl⟩
  have hh : ∀ p ∈ tl, s.heap.get? p.1 = some p.2 := fun p hp => (hf p (.tail _ hp)).1
  refine notIn_listAt (fun y => decide (RIn tl y (P, z, N))) hl ?_ ?_
  · intro y hy
    obtain ⟨r, hr, h1⟩ := hR.mem.1 y (by simpa using hy)
    have e : decide (RIn tl y (P, z, N)) = decide (r = (P, z, N)) := by
      congr 1
      exact propext ⟨fun h2 => RIn.one hh h1 h2, fun h2 => h2 ▸ h1⟩
    rw [e]
    obtain ⟨b, k, t1, t2, t3, rfl, hm'⟩ := h1
    have hb : IsTup s.heap b [.str r.1 t1, .int r.2.1 t2, .str r.2.2 t3].toArray := ⟨_, hh _ hm', rfl, k, rfl⟩
    refine eq_trip (q := (P, z, N)) hb ha ?_ ?_
    · have : A.in1.units ≤ A.units + 1 := by first | exact Nat.le_refl _ | (simp [Around.in1]; done) | (unfold Around.in1; simp)
      omega
    · intro e
      obtain ⟨o, ho⟩ := ho
      have := (hf _ (.tail _ hm')).2
      rw [e, ho] at this
      exact nomatch this
  · have e : vs.toArray.any (fun y => decide (RIn tl y (P, z, N))) = true := by
      obtain ⟨v, hv, h1⟩ := hR.mem.2 _ hm
      simp only [List.any_toArray, List.any_eq_true]
      exact ⟨v, hv, by simpa using h1⟩
    rw [e]
    exact h
end
end Mine
end
section
open PySem PySem.W PyProof.Rows PySem.Calls
namespace Mine
set_option maxRecDepth 100000
open NumText
/-- a stop for the walk -/
def Hold (p : Prop) : Prop := p
theorem Hold.out {p : Prop} (h : Hold p) : p := h
def Texts (vs : List Value) : Prop := ∀ v ∈ vs, ∃ y t, v = Value.str y t ∧ y.length ≤ 400
def txM (tx : Addr) (u : Str → Option Value) : Str → Option Value := fun y => if y = Str.ofString "texts" then some (.ref tx) else u y
theorem txM_of {tx : Addr} {m : Str → Option Value} (h : m (Str.ofString "texts") = some (.ref tx)) : m = txM tx m := by
  funext y
  unfold txM
  by_cases e : y = Str.ofString "texts"
  · rw [if_pos e, e, h]
  · rw [if_neg e]
def J1 (LD : Addr) (ws : List Value) (nn : Nat) (tx : Addr) (i : Nat) (m : Str → Option Value) (nx : List (Addr × Obj)) : Prop :=
  ∃ vs n u, nx = [(LD, W.listOf (List.toArray ws) nn), (tx, W.listOf (List.toArray vs) n)] ∧ vs.length ≤ 7 + 6 * i ∧ Texts vs ∧ m = txM tx u
section
variable {prog : Program} {w : World} {A : Around} {E : Value → Shared → Prop} {s : Shared} {env : Env} {h₀ : Heap} {x : Str} {body : List Stmt} {Q : Flow → Shared → Prop}
theorem iter_texts {LD tx a1 a2 : Addr} {o1 o2 : Obj} {ws vs0 : List Value} {ns : List Int} {nn n0 : Nat} {m₀ : Str → Option Value}
    (hh : A.handled = none) (F : Fr h₀ env.locals s.heap m₀) (N : News h₀ env.locals s.heap [(LD, W.listOf (List.toArray ws) nn), (a1, o1), (a2, o2), (tx, W.listOf (List.toArray vs0) n0)])
    (hI : IntsAre ws ns) (hn : ns.length ≤ 8) (hne : @Ne Nat LD tx) (hm : m₀ (Str.ofString "texts") = some (.ref tx)) (hv : Texts vs0) (hl : vs0.length ≤ 7)
    (turn : ∀ (i : Nat) (k : Int) (t : Tok) (vs : List Value) (n : Nat) (u : Str → Option Value) h tk own, vs.length ≤ 7 + 6 * i → vs.length ≤ 60 → Texts vs → (∀ p ∈ own, p.1 ≠ tx) → (∀ p ∈ own, p.1 ≠ LD) →
      Fr h₀ env.locals h (fun y => if y = x then some (.int k t) else if y = Str.ofString "texts" then some (.ref tx) else u y) →
      News h₀ env.locals h ((LD, W.listOf (List.toArray ws) nn) :: (tx, W.listOf (List.toArray vs) n) :: own) →
      wpAny (model prog w) A (execs body env) (InvPostG h₀ env.locals (fun m' nx => (LD, W.listOf (List.toArray ws) nn) ∈ nx ∧ J1 LD ws nn tx (i + 1) m' nx) own { s with heap := h, toks := tk } Q) E { s with heap := h, toks := tk })
    (done : ∀ (vs : List Value) (n : Nat) (u : Str → Option Value) h tk, vs.length ≤ 60 → Texts vs → Fr h₀ env.locals h (fun y => if y = Str.ofString "texts" then some (.ref tx) else u y) → News h₀ env.locals h [(tx, W.listOf (List.toArray vs) n)] → Q .next { s with heap := h, toks := tk }) :
    wpAny (model prog w) A (pyIter (.ref LD)) (fun it s₂ => LoopAtV prog w A h₀ env x body Q E it s₂) E s := by
  have hlen : ws.length ≤ 8 := by rw [hI.length]; exact hn
  refine kdl_iter (vs := ws) (news := [(LD, W.listOf (List.toArray ws) nn), (tx, W.listOf (List.toArray vs0) n0)]) (J1 LD ws nn tx) hh (List.Mem.head _) F ?_ ⟨vs0, n0, m₀, rfl, by omega, hv, txM_of hm⟩ ?_ ?_
  · intro p hp
    rcases List.mem_cons.mp hp with e | hp
    · rw [e]; exact N _ (.head _)
    · rw [List.mem_singleton.mp hp]; exact N _ (.tail _ (.tail _ (.tail _ (.head _))))
  · rintro i v m₁ news₁ h tk own hv hoff hm ⟨vs, n, u, rfl, h1, h2, rfl⟩ F₁ N₁
    have hi : i < ws.length := (List.getElem?_eq_some_iff.mp hv).1
    have hi' : i < ns.length := by rw [← hI.length]; exact hi
    obtain ⟨t, ht⟩ := hI.get i ns[i] (by simp [hi'])
    rw [ht] at hv
    obtain rfl := Option.some.inj hv
    exact turn i _ t vs n u h tk own h1 (by omega) h2 (fun p hp => hoff p hp _ (.tail _ (.head _))) (fun p hp => hoff p hp _ (.head _)) F₁ N₁
  · rintro m₁ news₁ h tk ⟨vs, n, u, rfl, h1, h2, rfl⟩ F₁ N₁
    exact done vs n u h tk (by omega) h2 F₁ (fun p hp => N₁ p (.tail _ hp))
end
abbrev tupO (P : Str) (tp : Tok) (z : Int) (tz : Tok) (N : Str) (tn : Tok) (n : Nat) : Obj := { cls := .type "tuple", data := .seq [Value.str P tp, Value.int z tz, Value.str N tn].toArray n }
def xtM (k : Int) (t : Tok) (tx : Addr) (u : Str → Option Value) : Str → Option Value := fun y => if y = Str.ofString "x" then some (.int k t) else if y = Str.ofString "texts" then some (.ref tx) else u y
theorem xtM_of {k : Int} {t : Tok} {tx : Addr} {m : Str → Option Value} (h0 : m (Str.ofString "x") = some (.int k t)) (h : m (Str.ofString "texts") = some (.ref tx)) : m = xtM k t tx m := by
  funext y
  unfold xtM
  by_cases e : y = Str.ofString "x"
  · rw [if_pos e, e, h0]
  · rw [if_neg e]
    by_cases e : y = Str.ofString "texts"
    · rw [if_pos e, e, h]
    · rw [if_neg e]
def J4 (l4 : Addr) (o4 : Obj) (rest : List (Addr × Obj)) (k : Int) (t : Tok) (tx : Addr) (b : Nat) (m : Str → Option Value) (nx : List (Addr × Obj)) : Prop :=
  ∃ vs n u, nx = (l4, o4) :: (tx, W.listOf (List.toArray vs) n) :: rest ∧ vs.length ≤ b ∧ Texts vs ∧ m = xtM k t tx u
theorem RAll.at {news : List (Addr × Obj)} {vs : List Value} {rs : List Rd} (h : RAll news vs rs) {j : Nat} {v : Value} (hv : vs[j]? = some v) : ∃ r ∈ rs, RIn news v r :=
  h.mem.1 v (List.mem_of_getElem? hv)
section
variable {prog : Program} {w : World} {A : Around} {E : Value → Shared → Prop} {s : Shared} {env : Env} {h₀ : Heap} {x : Str} {body : List Stmt} {Q : Flow → Shared → Prop}
theorem iter_four {l4 tx : Addr} {vs4 vs0 : List Value} {rs4 : List Rd} {n4 n0 : Nat} {rest : List (Addr × Obj)} {m₀ : Str → Option Value} {k : Int} {t : Tok}
    (hh : A.handled = none) (F : Fr h₀ env.locals s.heap m₀) (N : News h₀ env.locals s.heap ((l4, W.listOf (List.toArray vs4) n4) :: (tx, W.listOf (List.toArray vs0) n0) :: rest))
    (hR : RAll rest vs4 rs4) (hb : ∀ r ∈ rs4, r.1.length ≤ 150 ∧ r.2.2.length ≤ 150 ∧ r.2.1.natAbs < 10 ^ 13) (h4 : vs4.length ≤ 4)
    (hr : ∀ p ∈ rest, p.1 ≠ tx) (hx : m₀ (Str.ofString "x") = some (.int k t)) (hm : m₀ (Str.ofString "texts") = some (.ref tx)) (hv : Texts vs0) (hl : vs0.length ≤ 60)
    (turn : ∀ (j : Nat) (a : Addr) (P : Str) (z : Int) (Nn : Str) (tp tz tn : Tok) (nt : Nat) (vs : List Value) (n : Nat) (u : Str → Option Value) (rest2 own2 : List (Addr × Obj)) h tk,
      vs.length ≤ vs0.length + j → vs.length ≤ 70 → Texts vs → P.length ≤ 150 → Nn.length ≤ 150 → z.natAbs < 10 ^ 13 → (a, tupO P tp z tz Nn tn nt) ∈ rest2 →
      (∀ p ∈ rest2, p.1 ≠ tx) → (∀ p ∈ rest, p ∈ rest2) → (∀ p ∈ own2, p ∈ rest2) → OwnOff own2 (l4 :: tx :: rest.map (·.1)) →
      Fr h₀ env.locals h (fun y => if y = x then some (.ref a) else if y = Str.ofString "x" then some (.int k t) else if y = Str.ofString "texts" then some (.ref tx) else u y) →
      News h₀ env.locals h ((l4, W.listOf (List.toArray vs4) n4) :: (tx, W.listOf (List.toArray vs) n) :: rest2) →
      wpAny (model prog w) A (execs body env) (InvPostG h₀ env.locals (fun m' nx => (l4, W.listOf (List.toArray vs4) n4) ∈ nx ∧ J4 l4 (W.listOf (List.toArray vs4) n4) rest k t tx (vs0.length + (j + 1)) m' nx) own2 { s with heap := h, toks := tk } Q) E { s with heap := h, toks := tk })
    (done : ∀ (vs : List Value) (n : Nat) (u : Str → Option Value) h tk, vs.length ≤ vs0.length + 4 → Texts vs → Fr h₀ env.locals h (fun y => if y = Str.ofString "x" then some (.int k t) else if y = Str.ofString "texts" then some (.ref tx) else u y) →
      News h₀ env.locals h ((tx, W.listOf (List.toArray vs) n) :: rest) → Q .next { s with heap := h, toks := tk }) :
    wpAny (model prog w) A (pyIter (.ref l4)) (fun it s₂ => LoopAtV prog w A h₀ env x body Q E it s₂) E s := by
  refine kdl_iter (vs := vs4) (fun j => J4 l4 (W.listOf (List.toArray vs4) n4) rest k t tx (vs0.length + j)) hh (List.Mem.head _) F N ⟨vs0, n0, m₀, rfl, by omega, hv, xtM_of hx hm⟩ ?_ ?_
  · rintro j v m₁ news₁ h tk own hvj hoff hm ⟨vs, n, u, rfl, h1, h2, rfl⟩ F₁ N₁
    have hj : j < vs4.length := (List.getElem?_eq_some_iff.mp hvj).1
    obtain ⟨⟨P, z, Nn⟩, hr1, a, nt, tp, tz, tn, rfl, hmem⟩ := hR.at hvj
    obtain ⟨b1, b2, b3⟩ := hb _ hr1
    exact turn j a P z Nn tp tz tn nt vs n u (rest ++ own) own h tk h1 (by omega) h2 b1 b2 b3 (List.mem_append_left _ hmem)
      (fun p hp => (List.mem_append.mp hp).elim (hr p) fun hp => hoff p hp _ (.tail _ (.head _))) (fun p hp => List.mem_append_left _ hp) (fun p hp => List.mem_append_right _ hp) hoff F₁ N₁
  · rintro m₁ news₁ h tk ⟨vs, n, u, rfl, h1, h2, rfl⟩ F₁ N₁
    exact done vs n u h tk (by omega) h2 F₁ (fun p hp => N₁ p (.tail _ hp))
end
theorem four_led {h₀ h : Heap} {L : Addr} {a0 a1 a2 a3 a4 a5 a6 a7 : Addr × Obj} {own : List (Addr × Obj)} (N : News h₀ L h (a0 :: a1 :: a2 :: a3 :: a4 :: a5 :: a6 :: a7 :: own)) : News h₀ L h (a0 :: a7 :: (a1 :: a2 :: a3 :: a4 :: a5 :: a6 :: own)) := by
  intro p hp
  refine N p ?_
  simp only [List.mem_cons] at hp ⊢
  rcases hp with h | h | h | h | h | h | h | h | h <;> simp [h]
theorem four_R {D0 D1 D2 D3 : Addr} {P0 N0 P1 N1 P2 N2 P3 N3 : Str} {z0 z1 z2 z3 : Int} {a0 b0 c0 a1 b1 c1 a2 b2 c2 a3 b3 c3 : Tok} {n0 n1 n2 n3 : Nat} {r : List (Addr × Obj)} :
    RAll ((D0, tupO P0 a0 z0 b0 N0 c0 n0) :: (D1, tupO P1 a1 z1 b1 N1 c1 n1) :: (D2, tupO P2 a2 z2 b2 N2 c2 n2) :: (D3, tupO P3 a3 z3 b3 N3 c3 n3) :: r) [.ref D3, .ref D2, .ref D1, .ref D0] [(P3, z3, N3), (P2, z2, N2), (P1, z1, N1), (P0, z0, N0)] :=
  .cons ⟨_, _, _, _, _, rfl, .tail _ (.tail _ (.tail _ (.head _)))⟩ (.cons ⟨_, _, _, _, _, rfl, .tail _ (.tail _ (.head _))⟩ (.cons ⟨_, _, _, _, _, rfl, .tail _ (.head _)⟩ (.cons ⟨_, _, _, _, _, rfl, .head _⟩ .nil)))
theorem Texts.snoc {vs : List Value} {T : Str} {t : Tok} (h : Texts vs) (hT : T.length ≤ 400) : Texts (vs ++ [.str T t]) := by
  intro v hv
  rcases List.mem_append.mp hv with hv | hv
  · exact h v hv
  · exact ⟨T, t, List.mem_singleton.mp hv, hT⟩
theorem four_end {l4 tx L : Addr} {o4 : Obj} {h₀ h' : Heap} {m' : Str → Option Value} {vs : List Value} {n tk b : Nat} {rest own2 big : List (Addr × Obj)} {s₁ : Shared} {k : Int} {t r : Tok} {T : Str}
    (F : Fr h₀ L h' m') (N : News h₀ L h' ((l4, o4) :: (tx, W.listOf ((List.toArray vs).push (.str T r)) n) :: big)) (h1 : ∀ p ∈ rest, p ∈ big) (h2 : ∀ p ∈ own2, p ∈ big) (ho : OwnOff own2 (l4 :: tx :: rest.map (·.1)))
    (hl : vs.length + 1 ≤ b) (hv : Texts vs) (hT : T.length ≤ 400) (hx : m' (Str.ofString "x") = some (.int k t)) (hm : m' (Str.ofString "texts") = some (.ref tx)) :
    InvEndG h₀ L (fun m' nx => (l4, o4) ∈ nx ∧ J4 l4 o4 rest k t tx b m' nx) own2 s₁ { s₁ with heap := h', toks := tk } := by
  rw [push_snoc] at N
  refine InvEndG.intro (nx := (l4, o4) :: (tx, W.listOf (List.toArray (vs ++ [.str T r])) n) :: rest) F N ⟨.head _, _, n, m', rfl, by simpa using hl, hv.snoc hT, xtM_of hx hm⟩ ho ?_ fun p hp => .tail _ (.tail _ (h2 p hp))
  intro p hp
  rcases List.mem_cons.mp hp with e | hp
  · rw [e]; exact .head _
  · rcases List.mem_cons.mp hp with e | hp
    · rw [e]; exact .tail _ (.head _)
    · exact .tail _ (.tail _ (h1 p hp))
section
variable {prog : Program} {w : World} {A : Around} {E : Value → Shared → Prop} {s : Shared}
theorem notin_rd {h₀ h₁ : Heap} {L a l : Addr} {P N T : Str} {z : Int} {x1 x2 x3 : Tok} {vs : List Value} {rs : List Rd} {n nt : Nat} {tl news : List (Addr × Obj)} {Q : Value → Shared → Prop}
    (hf : Fresh h₁ s.heap ((l, W.listOf (List.toArray vs) n) :: tl)) (N0 : News h₀ L h₁ news) (N1 : News h₀ L s.heap news) (hmem : (a, tupO P x1 z x2 N x3 nt) ∈ news) (hR : RAll tl vs rs)
    (hi : ∀ P l N, (P, l, N) ∈ rs ↔ stdS P l N = T) (hT : stdS P z N = T) (hu : A.units + 8 < cLine)
    (h : Q (.bool false) s) : wpAny (model prog w) A (compareOp .NotIn (.ref a) (.ref l)) Q E s :=
  notin_read (News.isTup N1 hmem) ⟨_, (N0 _ hmem).1⟩ hf hR ((hi P z N).mpr hT) hu h
end
section
variable {prog : Program} {w : World} {A : Around} {E : Value → Shared → Prop} {s : Shared}
theorem ext_two {h₀ : Heap} {L D b : Addr} {m : Str → Option Value} {news news' : List (Addr × Obj)} {vs : List Value} {y1 y2 : Value} {n n2 : Nat} {Q : Value → Shared → Prop}
    (F : Fr h₀ L s.heap m) (N : News h₀ L s.heap news) (hb : (b, W.listOf (List.toArray [y1, y2]) n2) ∈ news) (U : Upd D (W.listOf (List.toArray vs) n) (W.listOf (List.toArray (vs ++ [y1, y2])) (n + 1)) news news') (hz : vs.length ≤ 1000)
    (h : ∀ h', Fr h₀ L h' m → News h₀ L h' news' → Q .none { s with heap := h' }) : wpAny (model prog w) A (call (.builtin "list.extend") [.ref D, .ref b]) Q E s := by
  have h1 : (List.toArray vs).size + (List.toArray [y1, y2]).size ≤ sizeLine := by
    rw [sizeLine_eq, List.size_toArray, List.size_toArray]
    simp only [List.length_cons, List.length_nil]
    omega
  refine kl_extend (l := vs ++ [y1, y2]) F N hb rfl (by simp) U (extend_door h1) ?_ (Nat.le_succ_of_le h1) h
  rw [sizeLine_eq]
  show vs.length ≤ _
  omega
end
theorem j1_end {LD tx L : Addr} {h₀ h' : Heap} {m' : Str → Option Value} {ws vs : List Value} {n nn tk i : Nat} {own big : List (Addr × Obj)} {s₁ : Shared}
    (F : Fr h₀ L h' m') (N : News h₀ L h' big) (h1 : (LD, W.listOf (List.toArray ws) nn) ∈ big) (h2 : (tx, W.listOf (List.toArray vs) n) ∈ big) (h3 : ∀ p ∈ own, p ∈ big) (o1 : ∀ p ∈ own, p.1 ≠ tx) (o2 : ∀ p ∈ own, p.1 ≠ LD)
    (hl : vs.length ≤ 7 + 6 * i) (hv : Texts vs) (hm : m' (Str.ofString "texts") = some (.ref tx)) :
    InvEndG h₀ L (fun m' nx => (LD, W.listOf (List.toArray ws) nn) ∈ nx ∧ J1 LD ws nn tx i m' nx) own s₁ { s₁ with heap := h', toks := tk } := by
  refine InvEndG.intro (nx := [(LD, W.listOf (List.toArray ws) nn), (tx, W.listOf (List.toArray vs) n)]) F N ⟨.head _, vs, n, m', rfl, hl, hv, txM_of hm⟩ ?_ ?_ h3
  · intro p hp b hb
    rcases List.mem_cons.mp hb with e | hb
    · rw [e]; exact o2 p hp
    · rw [List.mem_singleton.mp hb]; exact o1 p hp
  · intro p hp
    rcases List.mem_cons.mp hp with e | hp
    · rw [e]; exact h1
    · rw [List.mem_singleton.mp hp]; exact h2
theorem Texts.two {vs : List Value} {T : Str} {t u : Tok} (h : Texts vs) (hT : T.length ≤ 150) : Texts (vs ++ [.str T t, .str (T ++ Str.ofString ")") u]) := by
  intro v hv
  rcases List.mem_append.mp hv with hv | hv
  · exact h v hv
  · rcases List.mem_cons.mp hv with e | hv
    · exact ⟨_, _, e, by omega⟩
    · refine ⟨_, _, List.mem_singleton.mp hv, ?_⟩
      rw [Str.length_append, one_len s_rp]
      omega
end Mine
end
section
open PySem PySem.W PyProof.Rows PySem.Calls
namespace Mine
set_option maxRecDepth 100000
open NumText
section
variable {prog : Program} {w : World} {A : Around} {E : Value → Shared → Prop} {s : Shared} {env : Env} {h₀ : Heap} {x : Str} {body : List Stmt} {Q : Flow → Shared → Prop}
theorem iter_last {tx : Addr} {vs : List Value} {n : Nat} {m₀ : Str → Option Value}
    (hh : A.handled = none) (F : Fr h₀ env.locals s.heap m₀) (N : News h₀ env.locals s.heap [(tx, W.listOf (List.toArray vs) n)]) (hT : Texts vs)
    (turn : ∀ (T : Str) (tT : Tok) (u : Str → Option Value) h tk own, T.length ≤ 400 → (∀ p ∈ own, p.1 ≠ tx) → Fr h₀ env.locals h (fun y => if y = x then some (.str T tT) else u y) → News h₀ env.locals h ((tx, W.listOf (List.toArray vs) n) :: own) →
      wpAny (model prog w) A (execs body env) (InvPostG h₀ env.locals (fun m' nx => (tx, W.listOf (List.toArray vs) n) ∈ nx ∧ nx = [(tx, W.listOf (List.toArray vs) n)]) own { s with heap := h, toks := tk } Q) E { s with heap := h, toks := tk })
    (done : ∀ (u : Str → Option Value) h tk, Fr h₀ env.locals h u → News h₀ env.locals h [(tx, W.listOf (List.toArray vs) n)] → Q .next { s with heap := h, toks := tk }) :
    wpAny (model prog w) A (pyIter (.ref tx)) (fun it s₂ => LoopAtV prog w A h₀ env x body Q E it s₂) E s := by
  refine kdl_iter (vs := vs) (fun _ _ nx => nx = [(tx, W.listOf (List.toArray vs) n)]) hh (List.Mem.head _) F N rfl ?_ ?_
  · rintro i v m₁ news₁ h tk own hv hoff hm rfl F₁ N₁
    obtain ⟨T, tT, rfl, hl⟩ := hT v (List.mem_of_getElem? hv)
    exact turn T tT m₁ h tk own hl (fun p hp => hoff p hp _ (.head _)) F₁ N₁
  · rintro m₁ news₁ h tk rfl F₁ N₁
    exact done m₁ h tk F₁ N₁
def teM (T : Str) (tT : Tok) (u : Str → Option Value) : Str → Option Value := fun y => if y = Str.ofString "text" then some (.str T tT) else u y
theorem teM_of {T : Str} {tT : Tok} {m : Str → Option Value} (h : m (Str.ofString "text") = some (.str T tT)) : m = teM T tT m := by
  funext y
  unfold teM
  by_cases e : y = Str.ofString "text"
  · rw [if_pos e, e, h]
  · rw [if_neg e]
def J5 (nx : List (Addr × Obj)) (T : Str) (tT : Tok) (m : Str → Option Value) (nx' : List (Addr × Obj)) : Prop := nx' = nx ∧ ∃ u, m = teM T tT u
theorem Fresh.news {h₁ h : Heap} {L : Addr} {m : Str → Option Value} {big news : List (Addr × Obj)} (F : Fr h₀ L h₁ m) (f : Fresh h₁ h big) (N : News h₀ L h news) : News h₀ L h (big ++ news) := by
  intro p hp
  rcases List.mem_append.mp hp with hp | hp
  · obtain ⟨g1, g2⟩ := f p hp
    refine ⟨g1, ?_, ?_⟩
    · intro e
      obtain ⟨⟨o', es, ep, ho, r⟩, _, _⟩ := F
      rw [e, ho] at g2
      exact nomatch g2
    · cases hx : h₀.get? p.1 with
      | none => rfl
      | some o' => rw [F.keep _ _ hx] at g2; exact nomatch g2
  · exact N p hp
theorem iter_rd {l9 : Addr} {h₁ : Heap} {vs : List Value} {rs : List Rd} {n : Nat} {tl news : List (Addr × Obj)} {T : Str} {tT : Tok} {m₀ m₁ : Str → Option Value}
    (hh : A.handled = none) (hf : Fresh h₁ s.heap ((l9, W.listOf (List.toArray vs) n) :: tl)) (F0 : Fr h₀ env.locals h₁ m₁) (F : Fr h₀ env.locals s.heap m₀) (N : News h₀ env.locals s.heap news)
    (hR : RAll tl vs rs) (hi : ∀ P l N, (P, l, N) ∈ rs ↔ stdS P l N = T) (hm : m₀ (Str.ofString "text") = some (.str T tT))
    (turn : ∀ (a : Addr) (P : Str) (z : Int) (Nn : Str) (tp tz tn : Tok) (nt : Nat) (u : Str → Option Value) (big own2 : List (Addr × Obj)) h tk, stdS P z Nn = T → (a, tupO P tp z tz Nn tn nt) ∈ big →
      (∀ p ∈ (l9, W.listOf (List.toArray vs) n) :: (tl ++ news), p ∈ big) → (∀ p ∈ own2, p ∈ big) → OwnOff own2 (((l9, W.listOf (List.toArray vs) n) :: (tl ++ news)).map (·.1)) →
      Fr h₀ env.locals h (fun y => if y = x then some (.ref a) else if y = Str.ofString "text" then some (.str T tT) else u y) → News h₀ env.locals h big →
      wpAny (model prog w) A (execs body env) (InvPostG h₀ env.locals (fun m' nx => (l9, W.listOf (List.toArray vs) n) ∈ nx ∧ J5 ((l9, W.listOf (List.toArray vs) n) :: (tl ++ news)) T tT m' nx) own2 { s with heap := h, toks := tk } Q) E { s with heap := h, toks := tk })
    (done : ∀ (u : Str → Option Value) h tk, Fr h₀ env.locals h u → News h₀ env.locals h news → Q .next { s with heap := h, toks := tk }) :
    wpAny (model prog w) A (pyIter (.ref l9)) (fun it s₂ => LoopAtV prog w A h₀ env x body Q E it s₂) E s := by
  refine kdl_iter (vs := vs) (news := (l9, W.listOf (List.toArray vs) n) :: (tl ++ news)) (fun _ => J5 ((l9, W.listOf (List.toArray vs) n) :: (tl ++ news)) T tT) hh (List.Mem.head _) F (hf.news F0 N) ⟨rfl, _, teM_of hm⟩ ?_ ?_
  · rintro i v m₁ news₁ h tk own hv hoff hmm ⟨rfl, u, rfl⟩ F₁ N₁
    obtain ⟨⟨P, z, Nn⟩, hr, a, nt, tp, tz, tn, rfl, hmem⟩ := hR.at hv
    exact turn a P z Nn tp tz tn nt u _ own h tk ((hi P z Nn).mp hr) (List.mem_append_left _ (.tail _ (List.mem_append_left _ hmem))) (fun p hp => List.mem_append_left _ hp) (fun p hp => List.mem_append_right _ hp) hoff F₁ N₁
  · rintro m₁ news₁ h tk ⟨rfl, u, rfl⟩ F₁ N₁
    exact done _ h tk F₁ (fun p hp => N₁ p (.tail _ (List.mem_append_right _ hp)))
end
theorem rd_end {l9 L : Addr} {o9 : Obj} {h₀ h' : Heap} {m' : Str → Option Value} {tk : Nat} {nx own2 big : List (Addr × Obj)} {T : Str} {tT : Tok} {s₁ : Shared}
    (F : Fr h₀ L h' m') (N : News h₀ L h' big) (h1 : ∀ p ∈ (l9, o9) :: nx, p ∈ big) (h2 : ∀ p ∈ own2, p ∈ big) (ho : OwnOff own2 (((l9, o9) :: nx).map (·.1))) (hm : m' (Str.ofString "text") = some (.str T tT)) :
    InvEndG h₀ L (fun m' nx' => (l9, o9) ∈ nx' ∧ J5 ((l9, o9) :: nx) T tT m' nx') own2 s₁ { s₁ with heap := h', toks := tk } :=
  InvEndG.intro (nx := (l9, o9) :: nx) F N ⟨.head _, rfl, _, teM_of hm⟩ ho h1 h2
theorem last_end {tx L : Addr} {o : Obj} {h₀ h' : Heap} {m' : Str → Option Value} {tk : Nat} {own big : List (Addr × Obj)} {s₁ : Shared}
    (F : Fr h₀ L h' m') (N : News h₀ L h' big) (h1 : (tx, o) ∈ big) (h2 : ∀ p ∈ own, p ∈ big) (ho : ∀ p ∈ own, p.1 ≠ tx) :
    InvEndG h₀ L (fun m' nx => (tx, o) ∈ nx ∧ nx = [(tx, o)]) own s₁ { s₁ with heap := h', toks := tk } :=
  InvEndG.intro (nx := [(tx, o)]) F N ⟨.head _, rfl⟩ (fun p hp b hb => by rw [List.mem_singleton.mp hb]; exact ho p hp) (fun p hp => by rw [List.mem_singleton.mp hp]; exact h1) h2
theorem ne_self {T : Str} (h : (T != T) = true) : False := by simp at h
end Mine
end
section
open PySem PySem.W PyProof.Rows PySem.Calls
namespace Mine
set_option maxRecDepth 100000
theorem fill_Z2 (P : Params) (h : Heap) : (hd.heap_39 P).In h → PySem.Challenge.rw_mg0082_01.prog = PySem.Challenge.rw_mg0082_01.prog := by
  w_top off
  k_fill
  intros; rfl
open NumText
local macro_rules | `(tactic| ktr_rel) => `(tactic| repeat' (first | (k_unfold; (try dsimp only)) | walk1 | (dsimp only; walk1)))
local macro_rules | `(tactic| walk_at "exec For Name BinOp cons nil") => `(tactic| (k_here; (rename Fr _ _ _ _ => lF'); (with_unfolding_all refine' For_invVF lF' ?k1 ?k2 (Hold.out ?_); (case k1 => exact rfl); (case k2 => exact rfl); k_whole)))
local macro_rules | `(tactic| k_all) => `(tactic| assumption)
local macro_rules | `(tactic| walk_at "call ref") => `(tactic| (k_here; k_dflt (refine' wl_spec ?zX ?zT ?z0 ?z1 ?zl ?z2 ?z3 ?z4 ?zd ?zu ?_; (case zX => exact Frag.In.keeps (by assumption) (Fr.keep (by assumption))); (case zT => exact Top.keeps (by assumption) (Fr.keep (by assumption))); (case z0 => exact fmod_lo _ (by decide)); (case z1 => exact Int.lt_of_lt_of_le (fmod_hi _ (by decide)) (by decide)); (case zl => exact ⟨_, News.get (by assumption) (by k_mem), rfl, _, rfl⟩); (case z2 => exact Nat.le_of_ble_eq_true rfl); (case z3 => exact Nat.le_of_ble_eq_true rfl); (case z4 => (intro v9 hv9; simp only [List.mem_cons, List.not_mem_nil, or_false] at hv9; rcases hv9 with hv9 | hv9 | hv9 | hv9 | hv9 | hv9 | hv9 | hv9 | hv9 | hv9 | hv9 | hv9 | hv9 <;> exact ⟨_, _, hv9, by decide +kernel⟩)); (case zd => decide); (case zu => decide)); intro r9 t9 h9 tk9 hl9 e9; (have F9 := Ext.fr e9 (by assumption)); (have N9 := Ext.news e9 (by assumption)); clear e9; (try k_sweep)))
local macro_rules | `(tactic| walk_at "call ref") => `(tactic| (k_here; k_dflt (refine' rd_spec ?zX ?zT ?z0 ?zd ?zu ?_; (case zX => exact Frag.In.keeps (by assumption) (Fr.keep (by assumption))); (case zT => exact Top.keeps (by assumption) (Fr.keep (by assumption))); (case z0 => assumption); (case zd => decide); (case zu => decide)); intro l9 vs9 rs9 n9 tl9 h9 tk9 e9 f9 hR9 hl9 hi9; (have F9 := Ext.fr e9 (by assumption)); (have N9 := Ext.news e9 (by assumption))))
local macro_rules | `(tactic| walk_at "call ref") => `(tactic| (k_here; k_dflt (refine' std_call1 ?zX ?zT ?z0 ?z1 ?z2 ?z3 ?zd ?zu ?_; (case z0 => exact News.isTup (by assumption) (List.Mem.tail _ (List.Mem.tail _ (by assumption)))); (case zX => exact Frag.In.keeps (by assumption) (Fr.keep (by assumption))); (case zT => exact Top.keeps (by assumption) (Fr.keep (by assumption))); (case z1 => first | assumption | decide +kernel); (case z2 => first | assumption | decide +kernel); (case z3 => first | assumption | decide +kernel); (case zd => (show callerA.depth + 1 + 8 < recursionLimit; decide)); (case zu => (show callerA.units + 3 + 64 < cLine; decide))); intro T9 r9 h9 tk9 hT9 hl9 e9; (have F9 := Ext.fr e9 (by assumption)); (have N9 := Ext.news e9 (by assumption)); clear e9; (try k_sweep)))
local macro_rules | `(tactic| walk_at "call ref") => `(tactic| (k_here; k_dflt (refine' fn_spec ?zX ?zT ?zd ?zu ?_; (case zX => exact Frag.In.keeps (by assumption) (Fr.keep (by assumption))); (case zT => exact Top.keeps (by assumption) (Fr.keep (by assumption))); (case zd => decide); (case zu => decide)); intro t9 P9 tp9 l9 tl9 Q9 tn9 h9 tk9 hP9 hQ9 hl9 e9 hg9 hn9; obtain ⟨n9, hg9⟩ := hg9; (have F9 := Ext.fr e9 (by assumption)); (have N9 := Ext.newsCons e9 (by assumption) (by assumption) hg9 hn9); (have l19 := news_ne hn9 (by assumption)); (have l18 := l19 _ (List.Mem.head _)); (have l17 := l19 _ (List.Mem.tail _ (List.Mem.head _))); (try dsimp only at l18 l17); clear e9 hg9 l19 hn9; (try k_sweep)))
local macro_rules | `(tactic| walk_at "compareOp NotIn ref") => `(tactic| (k_here; k_dflt (refine' notin_rd ?zf ?z0 ?z1 (List.Mem.tail _ (List.Mem.tail _ ?zm)) ?zR ?zi ?zt ?zu ?_; (case zf => assumption); (case z0 => assumption); (case z1 => assumption); (case zm => assumption); (case zR => assumption); (case zi => assumption); (case zt => assumption); (case zu => (show callerA.units + 3 + 8 < cLine; decide))); (try k_sweep)))
local macro_rules | `(tactic| walk_at "call builtin:list.extend") => `(tactic| (k_here; k_dflt (refine' ext_two ?zF ?zN ?zb ?zU ?zz ?_; (case zF => k_asm); (case zN => k_asm); (case zb => k_mem); (case zU => k_upd); (case zz => omega)); intro h' F' N'; (try k_sweep)))
local macro_rules | `(tactic| walk_at "call ref") => `(tactic| (k_here; k_dflt (refine' std_call2 ?zX ?zT ?z0 ?z1 ?z2 ?zd ?zu ?_; (case z1 => assumption); (case z0 => exact News.isTup (by assumption) (by assumption)); (case zX => exact Frag.In.keeps (by assumption) (Fr.keep (by assumption))); (case zT => exact Top.keeps (by assumption) (Fr.keep (by assumption))); (case z2 => assumption); (case zd => (show callerA.depth + 1 + 8 < recursionLimit; decide)); (case zu => (show callerA.units + 3 + 64 < cLine; decide))); intro r9 h9 tk9 e9; (have F9 := Ext.fr e9 (by assumption)); (have N9 := Ext.news e9 (by assumption)); clear e9; (try k_sweep)))
set_option maxHeartbeats 8000000 in
theorem law_holds : PySem.Challenge.rw_mg0082_01.Holds := by
  refine hd ?_
  k_go0
  all_goals try k_fold
  ktr_rel
  refine (id ?_ : wpAny _ _ _ _ _ _)
  iterate 17 (first | (k_unfold; (try dsimp only)) | walk1 | (dsimp only; walk1))
  refine' iter_texts rfl ?iF ?iN ?iI ?ic ?ine ?im ?iv ?il ?turn ?done
  case iF => k_asm
  case iN => k_asm
  case iI => assumption
  case ic => (simp only [List.length_append, List.length_take, List.length_cons, List.length_nil]; omega)
  case ine => omega
  case im => rfl
  case iv => (intro v9 hv9; simp only [List.mem_cons, List.not_mem_nil, or_false] at hv9; rcases hv9 with hv9 | hv9 | hv9 | hv9 | hv9 | hv9 | hv9 <;> exact ⟨_, _, hv9, by decide +kernel⟩)
  case il => exact Nat.le_refl 7
  case turn =>
    rintro i k t vs n u h tk own hl1 hl2 hT ho1 ho2 F₁ N₁
    ktr_rel
    refine' iter_four rfl ?jF (four_led ?jN) four_R ?jb ?j4 ?jr ?jx ?jm hT hl2 ?jturn ?jdone
    case jF => k_asm
    case jN => k_asm
    case jb =>
      refine List.forall_mem_cons.mpr ⟨⟨by assumption, by assumption, by assumption⟩, List.forall_mem_cons.mpr ⟨⟨?_, by assumption, by assumption⟩, List.forall_mem_cons.mpr ⟨⟨by assumption, by assumption, ?_⟩, List.forall_mem_cons.mpr ⟨⟨?_, by assumption, ?_⟩, List.forall_mem_nil _⟩⟩⟩⟩ <;> (dsimp only; decide +kernel)
    case j4 => exact Nat.le_refl 4
    case jr =>
      refine List.forall_mem_cons.mpr ⟨?_, List.forall_mem_cons.mpr ⟨?_, List.forall_mem_cons.mpr ⟨?_, List.forall_mem_cons.mpr ⟨?_, List.forall_mem_cons.mpr ⟨?_, List.forall_mem_cons.mpr ⟨?_, ho1⟩⟩⟩⟩⟩⟩ <;> k_ne
    case jx => rfl
    case jm => rfl
    case jturn =>
      rintro j a P z Nn tp tz tn nt vs' n' u' rest2 own2 h₂ tk₂ g1 g2 gT gP gN gz gm g3 g4 g5 g6 F₂ N₂
      ktr_rel
      refine' four_end ?eF ?eN g4 g5 g6 ?el gT ?eT ?ex ?em
      case eF => assumption
      case eN => assumption
      case el => omega
      case eT => assumption
      case ex => rfl
      case em => rfl
    case jdone =>
      rintro vs' n' u' h₂ tk₂ g1 gT F₂ N₂
      ktr_rel
      refine' j1_end ?eF ?eN (.tail _ (.tail _ (.tail _ (.tail _ (.tail _ (.tail _ (.tail _ (.tail _ (.head _))))))))) (.tail _ (.tail _ (.head _))) (fun p hp => .tail _ (.tail _ (.tail _ (.tail _ (.tail _ (.tail _ (.tail _ (.tail _ (.tail _ hp))))))))) ho1 ho2 ?el (Texts.two gT ?eT) ?em
      case eF => assumption
      case eN => assumption
      case el => (simp only [List.length_append, List.length_cons, List.length_nil]; omega)
      case eT => assumption
      case em => rfl
  case done =>
    rintro vs n u h tk hl hT F₁ N₁
    ktr_rel
    refine' iter_last rfl ?iF ?iN hT ?turn ?done
    case iF => k_asm
    case iN => k_asm
    case turn =>
      rintro T tT u h tk own hTl ho F₂ N₂
      ktr_rel
      refine' iter_rd rfl ?jf ?j0 ?jF ?jN ?jR ?ji ?jm ?jturn ?jdone
      case jf => assumption
      case j0 => assumption
      case jF => assumption
      case jN => assumption
      case jR => assumption
      case ji => assumption
      case jm => rfl
      case jturn =>
        rintro a P z Nn tp tz tn nt u' big own2 h₂ tk₂ g1 g2 g3 g4 g5 F₃ N₃
        ktr_rel
        · exact (ne_self (by assumption)).elim
        · refine' rd_end ?eF ?eN g3 g4 g5 ?em
          case eF => assumption
          case eN => assumption
          case em => rfl
      case jdone =>
        rintro u' h₂ tk₂ F₃ N₃
        ktr_rel
        refine' last_end ?eF ?eN (.head _) (fun p hp => .tail _ hp) ho
        case eF => assumption
        case eN => assumption
    case done =>
      rintro u h tk F₂ N₂
      k_steps

end Mine
end
theorem PySem.Challenge.cw_mg0082_01_holds : PySem.Challenge.rw_mg0082_01.Holds := by
  exact Mine.law_holds
