import PyProof.Rows.All
import Wide.All
import OpenK.AllK
import Wide.FinOn
import PySem.Challenge.RW_he0003_01
open PySem PySem.W PySem.W.X PyProof.Rows
set_option Elab.async false
set_option maxRecDepth 100000
set_option maxHeartbeats 0
namespace Mine

open_top hd for PySem.Challenge.rw_he0003_01

abbrev pw : Program := PySem.Challenge.rw_he0003_01.row.prog
def Bd (B z : Int) : Prop := -B ≤ z ∧ z ≤ B
abbrev ptup (x y z : Int) (t u v : Tok) (n : Nat) : Obj := { cls := .type "tuple", data := .seq #[.int x t, .int y u, .int z v] n }
theorem bd_mul {B C x y : Int} (hx : Bd B x) (hy : Bd C y) : Bd (B * C) (x * y) := by
  obtain ⟨a1, a2⟩ := hx
  obtain ⟨b1, b2⟩ := hy
  have hB : 0 ≤ B := by omega
  have hC : 0 ≤ C := by omega
  have h1 : x.natAbs ≤ B.natAbs := by omega
  have h2 : y.natAbs ≤ C.natAbs := by omega
  have h3 : (x * y).natAbs ≤ (B * C).natAbs := by rw [Int.natAbs_mul, Int.natAbs_mul]; exact Nat.mul_le_mul h1 h2
  have h4 : 0 ≤ B * C := Int.mul_nonneg hB hC
  unfold Bd
  omega
theorem sub_cons {p : Addr × Obj} {l : List (Addr × Obj)} : ∀ q ∈ l, q ∈ p :: l := fun _ h => List.mem_cons_of_mem _ h
local macro_rules | `(tactic| walk_at "MY and_open") => `(tactic| repeat (with_reducible rename And _ _ => hAnd'; obtain ⟨_, _⟩ := hAnd'))
local macro_rules | `(tactic| walk_at "MY k_sub") => `(tactic| repeat (first | exact fun _ h => h | refine (fun q hq => List.mem_cons_of_mem _ ((?_ : ∀ p ∈ _, p ∈ _) q hq))))
local macro_rules | `(tactic| walk_at "MY my_end3") => `(tactic| (refine' kcu3_end ?e1 ?e2 ?e3 rfl rfl ?F ⟨?N, ?M⟩ ?S ?L; (case F => assumption); (case N => assumption); (case M => k_mem); (case S => walk_at "MY k_sub"); (case L => (walk_at "MY and_open"; (repeat' (first | assumption | apply And.intro)))); (case e1 => rfl); (case e2 => rfl); (case e3 => rfl)))
theorem for_items_nil {prog : Program} {w : World} {A : Around} {E : Value → Shared → Prop} {s : Shared} {Q : Flow → Shared → Prop} {name : Str} {scope : Scope} {L fa : Addr} {cd : Value} {xk xv y : Str} {pk pv pt pos apos cpos py : Pos} {x1 : Nat} {body : List Stmt} {d : Addr} {o : Obj} {h₀ : Heap} {m : Str → Option Value} {news : List (Addr × Obj)}
    (hh : A.handled = none) (F : Fr h₀ L s.heap m) (N : News h₀ L s.heap news) (hm : (d, o) ∈ news) (hd : o.IsDictOf (PySem.strKind prog w) []) (lo : (d == sysModules) = false) (hv : m y = some (.ref d))
    (hk : scope.kind = .function) (hxk : (envOf name scope L fa cd).kindOf xk = some .local) (hxv : (envOf name scope L fa cd).kindOf xv = some .local) (hy : (envOf name scope L fa cd).kindOf y = some .local) (hb : (y == ("__debug__" : Str)) = false)
    (hbase : attributeBase (.Name y py) "items" (envOf name scope L fa cd) (eval (.Name y py) (envOf name scope L fa cd)) = eval (.Name y py) (envOf name scope L fa cd)) (hline : (apos.endLine == cpos.line) = true)
    (hs : ∀ x, foldedSetIterable (.Call (.Attribute (.Name y py) "items" apos) [] [] cpos) (envOf name scope L fa cd) x = pure x)
    (hE : PassesOwn (model prog w) A (envOf name scope L fa cd) E)
    (h : ∀ h' tk, Fr h₀ L h' m → News h₀ L h' news → Q .next { s with heap := h', toks := tk }) :
    wpAny (model prog w) A (exec (.For (.Tuple [.Name xk pk, .Name xv pv] x1 pt) (.Call (.Attribute (.Name y py) "items" apos) [] [] cpos) body [] pos) (envOf name scope L fa cd)) Q E s := by
  obtain ⟨es, ep, hd2⟩ := hd
  have hN := N _ hm
  refine wpAny_For_items_locals (knd := PySem.strKind prog w) (d := d) (kvs := []) (ep := ep) (m := m) hh hxk hxv (by show (scope.kind == .class || (scope.kind == .module && L != mainGlobals)) = false; rw [hk]; rfl) hN.2.1 lo ?_ F.ns hbase hline (fun Q' q => ld F hv q hk hy hb) (fun _ m' => m' = m) rfl ?_ ?_ hs hE
  · exact ⟨o, es, hN.1, hd2⟩
  · intro i k v key m₁ s₁ e
    simp at e
  · intro h' tk m' hn hmm hkeep
    subst hmm
    refine h h' tk ⟨hn, fun b ob e => hkeep b ob (fun hb => ?_) (F.keep b ob e), F.above⟩ fun p hp => ⟨hkeep _ _ (N p hp).2.1 (N p hp).1, (N p hp).2⟩
    rw [hb] at e
    exact absurd (Nat.lt_of_lt_of_le (Heap.lt_size e) F.above) (Nat.lt_irrefl _)
local macro_rules | `(tactic| walk_at "exec For Tuple Call") => `(tactic| (k_here; k_dflt (refine' for_items_nil ?hh ?F ?N ?m ?d ?lo ?v ?hk ?xk ?xv ?y ?b ?base ?line ?hs ?hE ?_; (case hh => exact rfl); (case F => k_asm); (case N => k_asm); (case v => exact rfl); (case m => k_mem); (case d => assumption); (case lo => assumption); (case hk => exact rfl); (case xk => exact rfl); (case xv => exact rfl); (case y => exact rfl); (case b => decide); (case base => exact rfl); (case line => exact rfl); (case hs => (intro _; exact rfl)); (case hE => first | exact PySem.PassesOwn.leaving | passes_own); k_whole; intro h' tk' F' N'; (try k_sweep))))
section
variable {M : Model} {A : Around} {E : Value → Shared → Prop} {s : Shared} {h₀ : Heap} {L : Addr} {m : Str → Option Value} {news : List (Addr × Obj)}
theorem newTuple2_G {Q : Value → Shared → Prop} {a b : Int} {t u : Tok} (F : Fr h₀ L s.heap m) (N : News h₀ L s.heap news)
    (h : ∀ D h' tk' t' u', Fr h₀ L h' m → News h₀ L h' ((D, ({ cls := .type "tuple", data := .seq #[.int a t', .int b u'] } : Obj)) :: news) → (∀ p ∈ news, p.1 < D) → Q (.ref D) { s with heap := h', toks := tk' }) : wpAny M A (newTuple [.int a t, .int b u]) Q E s :=
  kup_newTuple F N (fun D h' F' N' l => h D h' s.toks t u F' N' l) (by show 2 ≤ sizeLine; decide)
theorem newTuple3_G {Q : Value → Shared → Prop} {a b c : Int} {t u v : Tok} (F : Fr h₀ L s.heap m) (N : News h₀ L s.heap news)
    (h : ∀ D h' tk' t' u' v', Fr h₀ L h' m → News h₀ L h' ((D, ({ cls := .type "tuple", data := .seq #[.int a t', .int b u', .int c v'] } : Obj)) :: news) → (∀ p ∈ news, p.1 < D) → Q (.ref D) { s with heap := h', toks := tk' }) : wpAny M A (newTuple [.int a t, .int b u, .int c v]) Q E s :=
  kup_newTuple F N (fun D h' F' N' l => h D h' s.toks t u v F' N' l) (by show 3 ≤ sizeLine; decide)
theorem newTuple5_G {Q : Value → Shared → Prop} {a b c d : Int} {t u v x : Tok} {r : Addr} (F : Fr h₀ L s.heap m) (N : News h₀ L s.heap news)
    (h : ∀ D h' tk' t' u' v' x', Fr h₀ L h' m → News h₀ L h' ((D, ({ cls := .type "tuple", data := .seq #[.int a t', .int b u', .int c v', .int d x', .ref r] } : Obj)) :: news) → (∀ p ∈ news, p.1 < D) → Q (.ref D) { s with heap := h', toks := tk' }) : wpAny M A (newTuple [.int a t, .int b u, .int c v, .int d x, .ref r]) Q E s :=
  kup_newTuple F N (fun D h' F' N' l => h D h' s.toks t u v x F' N' l) (by show 5 ≤ sizeLine; decide)
theorem wp_toks {α : Type} {t : Sem α} {Q : α → Shared → Prop} {h : Heap} {g : Array GenState} {d : Drawn} {tk : Nat} {os : OsState} (k : ∀ tk', wpAny M A t Q E ⟨h, g, d, tk', os⟩) : wpAny M A t Q E ⟨h, g, d, tk, os⟩ := k tk
theorem storeX_LI {a : Addr} {cn : Str} {cs : Scope} {ccd : Value} {cl : List (Str × Addr)} {x : Str} {i : Int} {t : Tok} {Q : Unit → Shared → Prop} (F : Fr h₀ L s.heap m) (N : News h₀ L s.heap news)
    (h : ∀ h' t' tk', Fr h₀ L h' (fun y => if y = x then some (.int i t') else m y) → News h₀ L h' news → Q () { s with heap := h', toks := tk' })
    (hk : cs.kind = .function := by rfl) (hx : (envX cn cs L a ccd cl).kindOf x = some .local := by rfl) : wpAny M A (storeName (envX cn cs L a ccd cl) x (.int i t)) Q E s :=
  storeX_L F N (fun h' F' N' => h h' t _ F' N') hk hx
end
section
variable {prog : Program} {w : World} {A : Around} {E : Value → Shared → Prop} {s : Shared} {h₀ : Heap} {L : Addr} {m : Str → Option Value} {news : List (Addr × Obj)}
theorem sliceApplied_35 {sl : Addr} {u : Tok} {Q : Int × Int × Nat → Shared → Prop} (hs : s.heap.IsSliceOf sl .none (.int 3 u) .none) (h : Q ((0 : Int), (1 : Int), 3) s) :
    wpAny (model prog w) A (Builtin.Slice.sliceApplied (.ref sl) (pure (5 : Int))) Q E s := by
  obtain ⟨os, hos, hcs, hds⟩ := id hs
  unfold Builtin.Slice.sliceApplied Builtin.Slice.sliceFields
  refine wpAny_bind (wpAny_bind (wpAny_field hos hds (x := .none) rfl (wpAny_bind (wpAny_field hos hds (x := .int 3 u) rfl (wpAny_bind (wpAny_field hos hds (x := .none) rfl (wpAny_pure ?_)))))))
  refine wpAny_bind (slicePart_none ?_)
  show wpAny _ _ (if ((1 : Int) == 0) = true then _ else _) _ _ s
  rw [if_neg (by decide)]
  refine wpAny_bind (slicePart_none (wpAny_bind (slicePart_int (wpAny_bind (wpAny_pure ?_)))))
  exact wpAny_pure h
theorem getItem_35 {t sl : Addr} {a b c d e : Value} {u : Tok} {Q : Value → Shared → Prop} (ht : IsTup s.heap t #[a, b, c, d, e]) (hs : s.heap.IsSliceOf sl .none (.int 3 u) .none)
    (h : Q (.ref s.heap.objs.size) { s with heap := s.heap.push { cls := .type "tuple", data := .seq #[a, b, c] } }) : wpAny (model prog w) A (getItem (.ref t) (.ref sl)) Q E s := by
  have hsz : sizeOk (.seq #[a, b, c]) := by show 3 ≤ sizeLine; decide
  obtain ⟨os, hos, hcs, hds⟩ := id hs
  have hTs : s.TypeIs (.ref sl) "slice" := ⟨os, hos, hcs⟩
  unfold getItem
  try with_reducible refine wpAny_holding ?_
  first | refine wpAny_bind (wpAny_pure ?_) | skip
  refine wpAny_bind (wpAny_sequenceKey ht.typeIs (by decide) ?_)
  refine wpAny_bind (wpAny_callSpecial?_slot (name := Str.ofString "__getitem__") ht.typeIs PySem.F.slot_tuple_getitem
    (wpAny_call_entry PySem.F.slot_tuple_getitem ht.typeIs PySem.F.entry_tuple_getitem ?_ (PySem.F.args_tuple_getitem_2 _ _)))
  show wpAny _ _ (Builtin.Tuple.tupleItemsOf (.ref t) >>= _) _ _ s
  refine wpAny_bind (tupleItemsOf_ ht ?_)
  refine wpAny_bind (wpAny_typeOf hTs ?_)
  rw [if_pos (by decide)]
  refine wpAny_bind (sliceApplied_35 hs ?_)
  show wpAny _ _ (if ((0 : Int) == 0 && (1 : Int) == 1 && (3 : Nat) == 5) = true then _ else _) _ _ s
  rw [if_neg (by decide)]
  first
    | exact wpAny_bind (m := Builtin.Tuple.tupleExact _) (wpAny_newObj_type (wpAny_pure ⟨_, rfl, wpAny_pure h⟩) hsz)
    | exact wpAny_bind (m := Builtin.Tuple.tupleExact _) (wpAny_newObj_type (wpAny_bind (wpAny_pure (wpAny_pure ⟨_, rfl, wpAny_pure h⟩))) hsz)
    | exact wpAny_bind (wpAny_bind (m := Builtin.Tuple.tupleExact _) (wpAny_newObj_type (wpAny_pure (wpAny_pure ⟨_, rfl, wpAny_pure h⟩)) hsz))
    | exact wpAny_bind (wpAny_bind (m := Builtin.Tuple.tupleExact _) (wpAny_newObj_type (wpAny_pure ⟨_, rfl, wpAny_pure h⟩) hsz))
theorem slice_35 {value slice : Expr} {t : Addr} {a b c : Int} {d e : Value} {u ta tb tc : Tok} {Q : Value → Shared → Prop} {k : Nat}
    (F : Fr h₀ L s.heap m) (N : News h₀ L s.heap news) (hm : (t, ({ cls := .type "tuple", data := .seq #[.int a ta, .int b tb, .int c tc, d, e] k } : Obj)) ∈ news)
    (h : ∀ D h' tk' ta' tb' tc', Fr h₀ L h' m → News h₀ L h' ((D, ({ cls := .type "tuple", data := .seq #[.int a ta', .int b tb', .int c tc'] } : Obj)) :: news) → (∀ p ∈ news, p.1 < D) → Q (.ref D) { s with heap := h', toks := tk' })
    (hs : subscripted slice false (.ref t) (.ref s.heap.objs.size) = operate [.ref s.heap.objs.size, .ref t] (getItem (.ref t) (.ref s.heap.objs.size)))
    (hg : ∀ r, letTemporaryGo value (.ref t) r = pure ()) :
    wpAny (model prog w) A (subscriptTail value slice (.ref t) (.ref s.heap.objs.size)) Q E { s with heap := s.heap.push { cls := .type "slice", data := .fields #[.none, .int 3 u, .none] } } := by
  have ht := N.isTup hm
  have ht' : IsTup (s.heap.push { cls := .type "slice", data := .fields #[.none, .int 3 u, .none] }) t #[.int a ta, .int b tb, .int c tc, d, e] := ht.keeps fun _ _ e => Heap.get?_push_of_some _ e
  refine subscriptTail_ops (s := { s with heap := s.heap.push { cls := .type "slice", data := .fields #[.none, .int 3 u, .none] } }) ht'.typeIs PySem.F.slot_tuple_getitem.lookup
    (getItem_35 ht' (Heap.IsSliceOf.new ..) ?_) hs hg
  have N1 := News.push (F.push { cls := .type "slice", data := .fields #[.none, .int 3 u, .none] }) (N.grown fun _ _ e => Heap.get?_push_of_some _ e) { cls := .type "tuple", data := .seq #[.int a ta, .int b tb, .int c tc] }
  exact h _ _ s.toks _ _ _ ((F.push _).push _) N1 fun p hp => by
    show p.1 < (s.heap.push _).objs.size
    rw [Heap.size_push]
    exact Nat.lt_succ_of_lt (Heap.lt_size (N p hp).1)
end
local macro_rules | `(tactic| walk_at "subscriptTail Name Slice ref ref") => `(tactic| (k_here; k_dflt (refine' slice_35 ?F ?N ?m ?_ ?s ?t; (case F => k_asm); (case N => k_asm); (case m => k_mem); (case s => with_unfolding_all rfl); (case t => kmk_pure)); intro D' h' tk' t' u' v' F' N' l1; (try k_lt l1); (try dsimp only); (try k_sweep)))
local macro_rules | `(tactic| walk_at "newTuple") => `(tactic| (k_here; k_dflt (first
  | (refine' newTuple3_G ?F ?N ?_; (case F => k_asm); (case N => k_asm); k_whole; intro D' h' tk' t' u' v' F' N' l1)
  | (refine' newTuple2_G ?F ?N ?_; (case F => k_asm); (case N => k_asm); k_whole; intro D' h' tk' t' u' F' N' l1)
  | (refine' newTuple5_G ?F ?N ?_; (case F => k_asm); (case N => k_asm); k_whole; intro D' h' tk' t' u' v' x' F' N' l1)); (try k_lt l1); (try dsimp only); (try k_sweep)))
local macro_rules | `(tactic| walk_at "storeName int") => `(tactic| (k_here; k_dflt (refine' storeX_LI ?F ?N ?_ ?a ?b; (case F => k_asm); (case N => k_asm); (case a => rfl); (case b => rfl); k_whole; intro h' t' tk' F' N'; (try dsimp only); (try k_sweep))))
local macro_rules | `(tactic| walk_at "execs cons") => `(tactic| (k_here; k_dflt (refine wp_toks (fun tk' => ?_)); (try dsimp only); refine wpAny_execs_cons ?_))
local macro_rules | `(tactic| k_room) => `(tactic| ktr_room)
def KB (h₀ : Heap) (L : Addr) (m : Str → Option Value) (news : List (Addr × Obj)) (s : Shared) (r : Bool) (v : Value) (s' : Shared) : Prop :=
  ∃ (h : Heap) (tk : Nat), v = .bool r ∧ s' = { s with heap := h, toks := tk } ∧ Fr h₀ L h m ∧ News h₀ L h news
theorem kb_end {h₀ h : Heap} {L : Addr} {m : Str → Option Value} {news news' : List (Addr × Obj)} {s s' : Shared} {r r' : Bool} {tk : Nat} (e : r' = r) (hs' : s' = { s with heap := h, toks := tk }) (F : Fr h₀ L h m) (N : News h₀ L h news') (hs : ∀ p ∈ news, p ∈ news') : KB h₀ L m news s r (.bool r') s' :=
  ⟨h, tk, by rw [e], hs', F, fun p hp => N p (hs p hp)⟩
theorem eq0_dec (x : Int) : (x == 0) = decide (x = 0) := rfl
local macro_rules | `(tactic| walk_at "MY my_endB") => `(tactic| (refine' kb_end ?e rfl ?F ?N ?S; (case F => assumption); (case N => assumption); (case S => walk_at "MY k_sub"); (case e => first | exact rfl | exact eq0_dec _ | (simp only [*, beq_self_eq_true, Bool.and_self]; done))))
local macro_rules | `(tactic| walk_at "KB") => `(tactic| walk_at "MY my_endB")
local macro_rules | `(tactic| walk_at "KCt3") => `(tactic| walk_at "MY my_end3")
section
variable {w : World} {dp un : Nat} {gd : Option (List Code)} {cn : Str} {cs : Scope} {fa : Addr} {ccd : Value} {cl : List (Str × Addr)} {outer : List Env} {B₀ : Around} {base h₀ : Heap} {L : Addr} {m mg mb : Str → Option Value} {mean : ExcName → Option Value} {s : Shared} {E : Value → Shared → Prop} {rest : List (Addr × Obj)}

/-- the list at l after an insert: its ints ns, of which P holds -/
def KIns (h₀ : Heap) (L : Addr) (m : Str → Option Value) (l : Addr) (rest : List (Addr × Obj)) (s : Shared) (P : List Int → Prop) (v : Value) (s' : Shared) : Prop :=
  ∃ (h : Heap) (tk n : Nat) (vs : List Value) (ns : List Int), v = .none ∧ s' = { s with heap := h, toks := tk } ∧ Fr h₀ L h m ∧ News h₀ L h ((l, W.listOf vs.toArray n) :: rest) ∧ IntsAre vs ns ∧ P ns
theorem kins_end {h₀ h : Heap} {L l : Addr} {m : Str → Option Value} {rest news : List (Addr × Obj)} {s s' : Shared} {P : List Int → Prop} {tk n : Nat} {vs : List Value} {ns : List Int} (hs' : s' = { s with heap := h, toks := tk }) (F : Fr h₀ L h m) (N : News h₀ L h news)
    (hm : (l, W.listOf vs.toArray n) ∈ news) (hs : ∀ p ∈ rest, p ∈ news) (hi : IntsAre vs ns) (hp : P ns) : KIns h₀ L m l rest s P .none s' :=
  ⟨h, tk, n, vs, ns, rfl, hs', F, fun p hp => by
    rcases List.mem_cons.mp hp with rfl | hp
    · exact N _ hm
    · exact N p (hs p hp), hi, hp⟩
def Ins1 (a x : Int) : List Int → Prop
  | [p, q] => p ≤ q ∧ ((p = x ∧ q = a) ∨ (p = a ∧ q = x))
  | _ => False
def Ins2 (a b x : Int) : List Int → Prop
  | [p, q, r] => p ≤ q ∧ q ≤ r ∧ ((p = x ∧ q = a ∧ r = b) ∨ (p = a ∧ q = x ∧ r = b) ∨ (p = a ∧ q = b ∧ r = x))
  | _ => False
local macro_rules | `(tactic| walk_at "MY ints_of") => `(tactic| first | exact IntsAre.cons _ _ .nil | exact IntsAre.cons _ _ (.cons _ _ .nil) | exact IntsAre.cons _ _ (.cons _ _ (.cons _ _ .nil)))
local macro_rules | `(tactic| walk_at "MY my_endI") => `(tactic| (refine' kins_end rfl ?F ?N ?M ?S ?I ?P; (case F => assumption); (case N => assumption); (case M => k_mem); (case S => walk_at "MY k_sub"); (case I => walk_at "MY ints_of"); (case P => first | exact rfl | ((try simp only [Int.reduceAdd, Int.reduceFDiv, Int.reduceToNat, List.getD_cons_succ, List.getD_cons_zero] at *); (try simp only [decide_eq_true_eq, decide_eq_false_iff_not, Bool.not_eq_true, Bool.not_eq_false] at *); (show _ ≤ _ ∧ _); omega))))
local macro_rules | `(tactic| walk_at "call builtin:list.insert") => `(tactic| (k_here; k_dflt (refine' kl_insert ?F ?N ?f ?e ?U ?z ?_; (case F => k_asm); (case N => k_asm); (case U => k_upd); (case f => rfl); (case e => kl_lit); (case z => kl_room)); intro h' F' N'; (try dsimp only at N'); (try k_sweep)))
local macro_rules | `(tactic| k_all) => `(tactic| assumption)
local macro_rules | `(tactic| walk_at "KIns") => `(tactic| walk_at "MY my_endI")

theorem cAcross {a b : Addr} {x1 x2 x3 y1 y2 y3 : Int} {t1 t2 t3 u1 u2 u3 : Tok} {n k : Nat} (B : Below B₀ base outer h₀) (F : Fr h₀ L s.heap m) (X : (hd.heap_39 w.params).In h₀) (T : Top hd.view_39 (looseW hd.view_39 [Str.ofString "insort_left", Str.ofString "bisect_left"]) mean mg mb h₀) (hk : cs.kind = .function) (hdp : dp + 10 < recursionLimit) (hun : un + 100 < cLine)
    (N : News h₀ L s.heap ((a, { cls := .type "tuple", data := .seq #[.int x1 t1, .int x2 t2, .int x3 t3] n }) :: (b, { cls := .type "tuple", data := .seq #[.int y1 u1, .int y2 u2, .int y3 u3] k }) :: rest))
    (hx1 : Bd 1000000 x1) (hx2 : Bd 1000000 x2) (hx3 : Bd 1000000 x3) (hy1 : Bd 1000000 y1) (hy2 : Bd 1000000 y2) (hy3 : Bd 1000000 y3) :
    wpAny (model pw w) (ktrTop dp un gd cn cs L fa ccd cl outer) (call (.ref 60) [.ref a, .ref b]) (KCt3 Value.int Value.int Value.int h₀ L m ((a, { cls := .type "tuple", data := .seq #[.int x1 t1, .int x2 t2, .int x3 t3] n }) :: (b, { cls := .type "tuple", data := .seq #[.int y1 u1, .int y2 u2, .int y3 u3] k }) :: rest) s (x2 * y3 - x3 * y2) (x3 * y1 - x1 * y3) (x1 * y2 - x2 * y1)) E s := by
  simp only [Bd] at hx1 hx2 hx3 hy1 hy2 hy3
  refine wpAny_call ?_
  k_dflt cell_enter
  k_steps

theorem cSum {a b : Addr} {p q : Int} {tp tq : Tok} {x1 x2 x3 y1 y2 y3 : Int} {t1 t2 t3 u1 u2 u3 : Tok} {n k : Nat} (B : Below B₀ base outer h₀) (F : Fr h₀ L s.heap m) (X : (hd.heap_39 w.params).In h₀) (T : Top hd.view_39 (looseW hd.view_39 [Str.ofString "insort_left", Str.ofString "bisect_left"]) mean mg mb h₀) (hk : cs.kind = .function) (hdp : dp + 10 < recursionLimit) (hun : un + 100 < cLine)
    (N : News h₀ L s.heap ((a, { cls := .type "tuple", data := .seq #[.int x1 t1, .int x2 t2, .int x3 t3] n }) :: (b, { cls := .type "tuple", data := .seq #[.int y1 u1, .int y2 u2, .int y3 u3] k }) :: rest)) (hp : Bd 10 p) (hq : Bd 10 q)
    (hx1 : Bd 1000000 x1) (hx2 : Bd 1000000 x2) (hx3 : Bd 1000000 x3) (hy1 : Bd 1000000 y1) (hy2 : Bd 1000000 y2) (hy3 : Bd 1000000 y3) :
    wpAny (model pw w) (ktrTop dp un gd cn cs L fa ccd cl outer) (call (.ref 53) [.int p tp, .ref a, .int q tq, .ref b]) (KCt3 Value.int Value.int Value.int h₀ L m ((a, { cls := .type "tuple", data := .seq #[.int x1 t1, .int x2 t2, .int x3 t3] n }) :: (b, { cls := .type "tuple", data := .seq #[.int y1 u1, .int y2 u2, .int y3 u3] k }) :: rest) s (q * y1 + p * x1) (q * y2 + p * x2) (q * y3 + p * x3)) E s := by
  simp only [Bd] at hp hq hx1 hx2 hx3 hy1 hy2 hy3
  refine wpAny_call ?_
  k_dflt cell_enter
  k_steps

theorem cLin {a b d : Addr} {x1 x2 x3 y1 y2 y3 z1 z2 z3 : Int} {t1 t2 t3 u1 u2 u3 v1 v2 v3 : Tok} {n k j : Nat} (B : Below B₀ base outer h₀) (F : Fr h₀ L s.heap m) (X : (hd.heap_39 w.params).In h₀) (T : Top hd.view_39 (looseW hd.view_39 [Str.ofString "insort_left", Str.ofString "bisect_left"]) mean mg mb h₀) (hk : cs.kind = .function) (hdp : dp + 10 < recursionLimit) (hun : un + 100 < cLine)
    (N : News h₀ L s.heap ((a, { cls := .type "tuple", data := .seq #[.int x1 t1, .int x2 t2, .int x3 t3] n }) :: (b, { cls := .type "tuple", data := .seq #[.int y1 u1, .int y2 u2, .int y3 u3] k }) :: (d, { cls := .type "tuple", data := .seq #[.int z1 v1, .int z2 v2, .int z3 v3] j }) :: rest))
    (hx1 : Bd 1000000 x1) (hx2 : Bd 1000000 x2) (hx3 : Bd 1000000 x3) (hy1 : Bd 1000000 y1) (hy2 : Bd 1000000 y2) (hy3 : Bd 1000000 y3) (hz1 : Bd 1000000 z1) (hz2 : Bd 1000000 z2) (hz3 : Bd 1000000 z3) :
    wpAny (model pw w) (ktrTop dp un gd cn cs L fa ccd cl outer) (call (.ref 74) [.ref a, .ref b, .ref d]) (KB h₀ L m ((a, { cls := .type "tuple", data := .seq #[.int x1 t1, .int x2 t2, .int x3 t3] n }) :: (b, { cls := .type "tuple", data := .seq #[.int y1 u1, .int y2 u2, .int y3 u3] k }) :: (d, { cls := .type "tuple", data := .seq #[.int z1 v1, .int z2 v2, .int z3 v3] j }) :: rest) s (decide (z1 * (x2 * y3 - x3 * y2) + z2 * (x3 * y1 - x1 * y3) + z3 * (x1 * y2 - x2 * y1) = 0))) E s := by
  simp only [Bd] at hx1 hx2 hx3 hy1 hy2 hy3 hz1 hz2 hz3
  refine wpAny_call ?_
  k_dflt cell_enter
  k_steps

theorem cSame {a b : Addr} {x1 x2 x3 y1 y2 y3 : Int} {t1 t2 t3 u1 u2 u3 : Tok} {n k : Nat} (B : Below B₀ base outer h₀) (F : Fr h₀ L s.heap m) (X : (hd.heap_39 w.params).In h₀) (T : Top hd.view_39 (looseW hd.view_39 [Str.ofString "insort_left", Str.ofString "bisect_left"]) mean mg mb h₀) (hk : cs.kind = .function) (hdp : dp + 10 < recursionLimit) (hun : un + 100 < cLine)
    (N : News h₀ L s.heap ((a, { cls := .type "tuple", data := .seq #[.int x1 t1, .int x2 t2, .int x3 t3] n }) :: (b, { cls := .type "tuple", data := .seq #[.int y1 u1, .int y2 u2, .int y3 u3] k }) :: rest))
    (hx1 : Bd 1000000 x1) (hx2 : Bd 1000000 x2) (hx3 : Bd 1000000 x3) (hy1 : Bd 1000000 y1) (hy2 : Bd 1000000 y2) (hy3 : Bd 1000000 y3) (e1 : x2 * y3 - x3 * y2 = 0) (e2 : x3 * y1 - x1 * y3 = 0) (e3 : x1 * y2 - x2 * y1 = 0) :
    wpAny (model pw w) (ktrTop dp un gd cn cs L fa ccd cl outer) (call (.ref 81) [.ref a, .ref b]) (KB h₀ L m ((a, { cls := .type "tuple", data := .seq #[.int x1 t1, .int x2 t2, .int x3 t3] n }) :: (b, { cls := .type "tuple", data := .seq #[.int y1 u1, .int y2 u2, .int y3 u3] k }) :: rest) s true) E s := by
  simp only [Bd] at hx1 hx2 hx3 hy1 hy2 hy3
  refine wpAny_call ?_
  k_dflt cell_enter
  k_steps

theorem cIns0 {l : Addr} {x : Int} {t : Tok} {n : Nat} (B : Below B₀ base outer h₀) (F : Fr h₀ L s.heap m) (X : (hd.heap_39 w.params).In h₀) (T : Top hd.view_39 (looseW hd.view_39 [Str.ofString "insort_left", Str.ofString "bisect_left"]) mean mg mb h₀) (hk : cs.kind = .function) (hdp : dp + 10 < recursionLimit) (hun : un + 100 < cLine)
    (N : News h₀ L s.heap ((l, W.listOf #[] n) :: rest)) (hrest : ∀ p ∈ rest, p.1 ≠ l)  :
    wpAny (model pw w) (ktrTop dp un gd cn cs L fa ccd cl outer) (call (.ref 37) [.ref l, .int x t]) (KIns h₀ L m l rest s (fun ns => ns = [x])) E s := by
  cases cs; cases hk
  refine wpAny_call ?_
  k_dflt k_enter
  k_steps
  all_goals walk_at "MY my_endI"

theorem cIns1 {l : Addr} {x : Int} {t : Tok} {a : Int} {ta : Tok} {n : Nat} (B : Below B₀ base outer h₀) (F : Fr h₀ L s.heap m) (X : (hd.heap_39 w.params).In h₀) (T : Top hd.view_39 (looseW hd.view_39 [Str.ofString "insort_left", Str.ofString "bisect_left"]) mean mg mb h₀) (hk : cs.kind = .function) (hdp : dp + 10 < recursionLimit) (hun : un + 100 < cLine)
    (N : News h₀ L s.heap ((l, W.listOf #[.int a ta] n) :: rest)) (hrest : ∀ p ∈ rest, p.1 ≠ l)  :
    wpAny (model pw w) (ktrTop dp un gd cn cs L fa ccd cl outer) (call (.ref 37) [.ref l, .int x t]) (KIns h₀ L m l rest s (Ins1 a x)) E s := by
  cases cs; cases hk
  refine wpAny_call ?_
  k_dflt k_enter
  k_steps
  all_goals walk_at "MY my_endI"

theorem cIns2 {l : Addr} {x : Int} {t : Tok} {a : Int} {ta : Tok} {b : Int} {tb : Tok} {n : Nat} (B : Below B₀ base outer h₀) (F : Fr h₀ L s.heap m) (X : (hd.heap_39 w.params).In h₀) (T : Top hd.view_39 (looseW hd.view_39 [Str.ofString "insort_left", Str.ofString "bisect_left"]) mean mg mb h₀) (hk : cs.kind = .function) (hdp : dp + 10 < recursionLimit) (hun : un + 100 < cLine)
    (N : News h₀ L s.heap ((l, W.listOf #[.int a ta, .int b tb] n) :: rest)) (hrest : ∀ p ∈ rest, p.1 ≠ l) (hab : a ≤ b) :
    wpAny (model pw w) (ktrTop dp un gd cn cs L fa ccd cl outer) (call (.ref 37) [.ref l, .int x t]) (KIns h₀ L m l rest s (Ins2 a b x)) E s := by
  cases cs; cases hk
  refine wpAny_call ?_
  k_dflt k_enter
  k_steps
  all_goals walk_at "MY my_endI"

def ix (p q x : Int) : Int := if x = p then 0 else if x = q then 1 else 2
def KI (h₀ : Heap) (L : Addr) (m : Str → Option Value) (news : List (Addr × Obj)) (s : Shared) (i : Int) (v : Value) (s' : Shared) : Prop :=
  ∃ (h : Heap) (tk : Nat) (t : Tok), v = .int i t ∧ s' = { s with heap := h, toks := tk } ∧ Fr h₀ L h m ∧ News h₀ L h news
theorem ki_end {h₀ h : Heap} {L : Addr} {m : Str → Option Value} {news news' : List (Addr × Obj)} {s s' : Shared} {r r' : Int} {t : Tok} {tk : Nat} (e : r' = r) (hs' : s' = { s with heap := h, toks := tk }) (F : Fr h₀ L h m) (N : News h₀ L h news') (hs : ∀ p ∈ news, p ∈ news') : KI h₀ L m news s r (.int r' t) s' :=
  ⟨h, tk, t, by rw [e], hs', F, fun p hp => N p (hs p hp)⟩
local macro_rules | `(tactic| walk_at "MY my_endJ") => `(tactic| (refine' ki_end ?e rfl ?F ?N ?S; (case F => assumption); (case N => assumption); (case S => walk_at "MY k_sub"); (case e => ((simp only [decide_eq_true_eq, decide_eq_false_iff_not, Bool.not_eq_true, Bool.not_eq_false] at *); (try simp only [Int.reduceAdd, Int.reduceFDiv, Int.reduceToNat, List.getD_cons_succ, List.getD_cons_zero] at *); unfold ix; (repeat' split) <;> omega))))
local macro_rules | `(tactic| walk_at "KI") => `(tactic| walk_at "MY my_endJ")

theorem cBis {l : Addr} {x : Int} {t : Tok} {p q r : Int} {tp tq tr : Tok} {n : Nat} (B : Below B₀ base outer h₀) (F : Fr h₀ L s.heap m) (X : (hd.heap_39 w.params).In h₀) (T : Top hd.view_39 (looseW hd.view_39 [Str.ofString "insort_left", Str.ofString "bisect_left"]) mean mg mb h₀) (hk : cs.kind = .function) (hdp : dp + 10 < recursionLimit) (hun : un + 100 < cLine)
    (N : News h₀ L s.heap ((l, W.listOf #[.int p tp, .int q tq, .int r tr] n) :: rest)) (h1 : p ≤ q) (h2 : q ≤ r) (hx : x = p ∨ x = q ∨ x = r) :
    wpAny (model pw w) (ktrTop dp un gd cn cs L fa ccd cl outer) (call (.ref 46) [.ref l, .int x t]) (KI h₀ L m ((l, W.listOf #[.int p tp, .int q tq, .int r tr] n) :: rest) s (ix p q x)) E s := by
  cases cs; cases hk
  refine wpAny_call ?_
  k_dflt k_enter
  k_steps
  all_goals walk_at "MY my_endJ"

theorem ints_nil {vs : List Value} (h : IntsAre vs []) : vs = [] := by cases h; rfl
theorem ints_cons {vs : List Value} {n : Int} {ns : List Int} (h : IntsAre vs (n :: ns)) : ∃ t ws, vs = .int n t :: ws ∧ IntsAre ws ns := by cases h with | cons _ t r => exact ⟨t, _, rfl, r⟩

theorem bd_mono {B C x : Int} (h : Bd B x) (hB : B ≤ C) : Bd C x := by unfold Bd at *; omega
theorem bd_abs {x : Int} (h : Bd 5 x) : Bd 10 (1 + if x < 0 then -x else x) := by unfold Bd at *; split <;> omega
theorem bd_nabs {x : Int} (h : Bd 5 x) : Bd 10 (0 - (1 + if x < 0 then -x else x)) := by unfold Bd at *; split <;> omega
theorem bd_add {B C x y : Int} (hx : Bd B x) (hy : Bd C y) : Bd (B + C) (x + y) := by unfold Bd at *; omega
local macro_rules | `(tactic| walk_at "MY bd") => `(tactic| first | assumption | (exact And.intro (by decide) (by decide)) | exact bd_mono (by assumption) (by decide) | exact bd_abs (by assumption) | exact bd_nabs (by assumption))
theorem sum_use {a b : Addr} {p q : Int} {tp tq : Tok} {x1 x2 x3 y1 y2 y3 : Int} {t1 t2 t3 u1 u2 u3 : Tok} {n k : Nat} (BB CC : Int) (B : Below B₀ base outer h₀) (F : Fr h₀ L s.heap m) (X : (hd.heap_39 w.params).In h₀) (T : Top hd.view_39 (looseW hd.view_39 [Str.ofString "insort_left", Str.ofString "bisect_left"]) mean mg mb h₀) (hk : cs.kind = .function) (hdp : dp + 10 < recursionLimit) (hun : un + 100 < cLine)
    (N : News h₀ L s.heap rest) (ma : (a, ({ cls := .type "tuple", data := .seq #[.int x1 t1, .int x2 t2, .int x3 t3] n } : Obj)) ∈ rest) (mb : (b, ({ cls := .type "tuple", data := .seq #[.int y1 u1, .int y2 u2, .int y3 u3] k } : Obj)) ∈ rest) (hp : Bd 10 p) (hq : Bd 10 q)
    (hB : BB ≤ 1000000) (hC : 20 * BB ≤ CC) (hx1 : Bd BB x1) (hx2 : Bd BB x2) (hx3 : Bd BB x3) (hy1 : Bd BB y1) (hy2 : Bd BB y2) (hy3 : Bd BB y3) {Q : Value → Shared → Prop}
    (K : ∀ D h tk z1 z2 z3 v1 v2 v3 j, Fr h₀ L h m → News h₀ L h ((D, ({ cls := .type "tuple", data := .seq #[.int z1 v1, .int z2 v2, .int z3 v3] j } : Obj)) :: rest) → AllLt D rest → z1 = q * y1 + p * x1 → z2 = q * y2 + p * x2 → z3 = q * y3 + p * x3 → Bd CC z1 → Bd CC z2 → Bd CC z3 → Q (.ref D) { s with heap := h, toks := tk }) :
    wpAny (model pw w) (ktrTop dp un gd cn cs L fa ccd cl outer) (call (.ref 53) [.int p tp, .ref a, .int q tq, .ref b]) Q E s := by
  have N' : News h₀ L s.heap ((a, ({ cls := .type "tuple", data := .seq #[.int x1 t1, .int x2 t2, .int x3 t3] n } : Obj)) :: (b, ({ cls := .type "tuple", data := .seq #[.int y1 u1, .int y2 u2, .int y3 u3] k } : Obj)) :: rest) := fun z hz => by
    rcases List.mem_cons.mp hz with rfl | hz
    · exact N _ ma
    · rcases List.mem_cons.mp hz with rfl | hz
      · exact N _ mb
      · exact N _ hz
  have fin : ∀ {x y : Int}, Bd BB x → Bd BB y → Bd CC (q * y + p * x) := fun hx hy => bd_mono (bd_add (bd_mul hq hy) (bd_mul hp hx)) (by omega)
  refine wpAny_mono (cSum B F X T hk hdp hun N' hp hq (bd_mono hx1 hB) (bd_mono hx2 hB) (bd_mono hx3 hB) (bd_mono hy1 hB) (bd_mono hy2 hB) (bd_mono hy3 hB)) (fun v s₂ hv => ?_) fun _ _ e => e
  obtain ⟨D, v1, v2, v3, c, h, tk, rfl, rfl, F', N2, hl⟩ := hv
  exact K D h tk _ _ _ v1 v2 v3 c F' (fun z hz => by
    rcases List.mem_cons.mp hz with rfl | hz
    · exact N2 _ List.mem_cons_self
    · exact N2 z (List.mem_cons_of_mem _ (List.mem_cons_of_mem _ (List.mem_cons_of_mem _ hz)))) hl.2.2 rfl rfl rfl (fin hx1 hy1) (fin hx2 hy2) (fin hx3 hy3)
theorem across_use {a b : Addr} {x1 x2 x3 y1 y2 y3 : Int} {t1 t2 t3 u1 u2 u3 : Tok} {n k : Nat} (B : Below B₀ base outer h₀) (F : Fr h₀ L s.heap m) (X : (hd.heap_39 w.params).In h₀) (T : Top hd.view_39 (looseW hd.view_39 [Str.ofString "insort_left", Str.ofString "bisect_left"]) mean mg mb h₀) (hk : cs.kind = .function) (hdp : dp + 10 < recursionLimit) (hun : un + 100 < cLine)
    (N : News h₀ L s.heap rest) (ma : (a, ({ cls := .type "tuple", data := .seq #[.int x1 t1, .int x2 t2, .int x3 t3] n } : Obj)) ∈ rest) (mb : (b, ({ cls := .type "tuple", data := .seq #[.int y1 u1, .int y2 u2, .int y3 u3] k } : Obj)) ∈ rest) (hx1 : Bd 15 x1) (hx2 : Bd 15 x2) (hx3 : Bd 15 x3) (hy1 : Bd 15 y1) (hy2 : Bd 15 y2) (hy3 : Bd 15 y3) {Q : Value → Shared → Prop}
    (K : ∀ D h tk z1 z2 z3 v1 v2 v3 j, Fr h₀ L h m → News h₀ L h ((D, ({ cls := .type "tuple", data := .seq #[.int z1 v1, .int z2 v2, .int z3 v3] j } : Obj)) :: rest) → AllLt D rest → z1 = x2 * y3 - x3 * y2 → z2 = x3 * y1 - x1 * y3 → z3 = x1 * y2 - x2 * y1 → Bd 500 z1 → Bd 500 z2 → Bd 500 z3 → Q (.ref D) { s with heap := h, toks := tk }) :
    wpAny (model pw w) (ktrTop dp un gd cn cs L fa ccd cl outer) (call (.ref 60) [.ref a, .ref b]) Q E s := by
  have N' : News h₀ L s.heap ((a, ({ cls := .type "tuple", data := .seq #[.int x1 t1, .int x2 t2, .int x3 t3] n } : Obj)) :: (b, ({ cls := .type "tuple", data := .seq #[.int y1 u1, .int y2 u2, .int y3 u3] k } : Obj)) :: rest) := fun z hz => by
    rcases List.mem_cons.mp hz with rfl | hz
    · exact N _ ma
    · rcases List.mem_cons.mp hz with rfl | hz
      · exact N _ mb
      · exact N _ hz
  have fin : ∀ {x y z v : Int}, Bd 15 x → Bd 15 y → Bd 15 z → Bd 15 v → Bd 500 (x * y - z * v) := fun h1 h2 h3 h4 => by
    have a := bd_mul h1 h2; have b := bd_mul h3 h4; unfold Bd at *; omega
  refine wpAny_mono (cAcross B F X T hk hdp hun N' (bd_mono hx1 (by decide)) (bd_mono hx2 (by decide)) (bd_mono hx3 (by decide)) (bd_mono hy1 (by decide)) (bd_mono hy2 (by decide)) (bd_mono hy3 (by decide))) (fun v s₂ hv => ?_) fun _ _ e => e
  obtain ⟨D, v1, v2, v3, c, h, tk, rfl, rfl, F', N2, hl⟩ := hv
  exact K D h tk _ _ _ v1 v2 v3 c F' (fun z hz => by
    rcases List.mem_cons.mp hz with rfl | hz
    · exact N2 _ List.mem_cons_self
    · exact N2 z (List.mem_cons_of_mem _ (List.mem_cons_of_mem _ (List.mem_cons_of_mem _ hz)))) hl.2.2 rfl rfl rfl (fin hx2 hy3 hx3 hy2) (fin hx3 hy1 hx1 hy3) (fin hx1 hy2 hx2 hy1)
theorem line_use (r : Bool) {a b d : Addr} {x1 x2 x3 y1 y2 y3 z1 z2 z3 : Int} {t1 t2 t3 u1 u2 u3 v1 v2 v3 : Tok} {n k j : Nat} (B : Below B₀ base outer h₀) (F : Fr h₀ L s.heap m) (X : (hd.heap_39 w.params).In h₀) (T : Top hd.view_39 (looseW hd.view_39 [Str.ofString "insort_left", Str.ofString "bisect_left"]) mean mg mb h₀) (hk : cs.kind = .function) (hdp : dp + 10 < recursionLimit) (hun : un + 100 < cLine)
    (N : News h₀ L s.heap rest) (ma : (a, ({ cls := .type "tuple", data := .seq #[.int x1 t1, .int x2 t2, .int x3 t3] n } : Obj)) ∈ rest) (mb : (b, ({ cls := .type "tuple", data := .seq #[.int y1 u1, .int y2 u2, .int y3 u3] k } : Obj)) ∈ rest) (md : (d, ({ cls := .type "tuple", data := .seq #[.int z1 v1, .int z2 v2, .int z3 v3] j } : Obj)) ∈ rest) (hx1 : Bd 1000000 x1) (hx2 : Bd 1000000 x2) (hx3 : Bd 1000000 x3) (hy1 : Bd 1000000 y1) (hy2 : Bd 1000000 y2) (hy3 : Bd 1000000 y3) (hz1 : Bd 1000000 z1) (hz2 : Bd 1000000 z2) (hz3 : Bd 1000000 z3) {Q : Value → Shared → Prop}
    (hr : decide (z1 * (x2 * y3 - x3 * y2) + z2 * (x3 * y1 - x1 * y3) + z3 * (x1 * y2 - x2 * y1) = 0) = r)
    (K : ∀ h tk, Fr h₀ L h m → News h₀ L h rest → Q (.bool r) { s with heap := h, toks := tk }) :
    wpAny (model pw w) (ktrTop dp un gd cn cs L fa ccd cl outer) (call (.ref 74) [.ref a, .ref b, .ref d]) Q E s := by
  have N' : News h₀ L s.heap ((a, ({ cls := .type "tuple", data := .seq #[.int x1 t1, .int x2 t2, .int x3 t3] n } : Obj)) :: (b, ({ cls := .type "tuple", data := .seq #[.int y1 u1, .int y2 u2, .int y3 u3] k } : Obj)) :: (d, ({ cls := .type "tuple", data := .seq #[.int z1 v1, .int z2 v2, .int z3 v3] j } : Obj)) :: rest) := fun z hz => by
    rcases List.mem_cons.mp hz with rfl | hz
    · exact N _ ma
    · rcases List.mem_cons.mp hz with rfl | hz
      · exact N _ mb
      · rcases List.mem_cons.mp hz with rfl | hz
        · exact N _ md
        · exact N _ hz
  refine wpAny_mono (cLin B F X T hk hdp hun N' hx1 hx2 hx3 hy1 hy2 hy3 hz1 hz2 hz3) (fun v s₂ hv => ?_) fun _ _ e => e
  obtain ⟨h, tk, rfl, rfl, F', N2⟩ := hv
  rw [hr]
  exact K h tk F' fun z hz => N2 z (List.mem_cons_of_mem _ (List.mem_cons_of_mem _ (List.mem_cons_of_mem _ hz)))
theorem same_use {a b : Addr} {x1 x2 x3 y1 y2 y3 : Int} {t1 t2 t3 u1 u2 u3 : Tok} {n k : Nat} (B : Below B₀ base outer h₀) (F : Fr h₀ L s.heap m) (X : (hd.heap_39 w.params).In h₀) (T : Top hd.view_39 (looseW hd.view_39 [Str.ofString "insort_left", Str.ofString "bisect_left"]) mean mg mb h₀) (hk : cs.kind = .function) (hdp : dp + 10 < recursionLimit) (hun : un + 100 < cLine)
    (N : News h₀ L s.heap rest) (ma : (a, ({ cls := .type "tuple", data := .seq #[.int x1 t1, .int x2 t2, .int x3 t3] n } : Obj)) ∈ rest) (mb : (b, ({ cls := .type "tuple", data := .seq #[.int y1 u1, .int y2 u2, .int y3 u3] k } : Obj)) ∈ rest) (hx1 : Bd 1000000 x1) (hx2 : Bd 1000000 x2) (hx3 : Bd 1000000 x3) (hy1 : Bd 1000000 y1) (hy2 : Bd 1000000 y2) (hy3 : Bd 1000000 y3) {Q : Value → Shared → Prop}
    (he : x2 * y3 - x3 * y2 = 0 ∧ x3 * y1 - x1 * y3 = 0 ∧ x1 * y2 - x2 * y1 = 0)
    (K : ∀ h tk, Fr h₀ L h m → News h₀ L h rest → Q (.bool true) { s with heap := h, toks := tk }) :
    wpAny (model pw w) (ktrTop dp un gd cn cs L fa ccd cl outer) (call (.ref 81) [.ref a, .ref b]) Q E s := by
  have N' : News h₀ L s.heap ((a, ({ cls := .type "tuple", data := .seq #[.int x1 t1, .int x2 t2, .int x3 t3] n } : Obj)) :: (b, ({ cls := .type "tuple", data := .seq #[.int y1 u1, .int y2 u2, .int y3 u3] k } : Obj)) :: rest) := fun z hz => by
    rcases List.mem_cons.mp hz with rfl | hz
    · exact N _ ma
    · rcases List.mem_cons.mp hz with rfl | hz
      · exact N _ mb
      · exact N _ hz
  refine wpAny_mono (cSame B F X T hk hdp hun N' hx1 hx2 hx3 hy1 hy2 hy3 he.1 he.2.1 he.2.2) (fun v s₂ hv => ?_) fun _ _ e => e
  obtain ⟨h, tk, rfl, rfl, F', N2⟩ := hv
  exact K h tk F' fun z hz => N2 z (List.mem_cons_of_mem _ (List.mem_cons_of_mem _ hz))

theorem ins_use0 {l : Addr} {x : Int} {t : Tok} {n : Nat} {news : List (Addr × Obj)} {g : Obj → List (Addr × Obj)} (B : Below B₀ base outer h₀) (F : Fr h₀ L s.heap m) (X : (hd.heap_39 w.params).In h₀) (T : Top hd.view_39 (looseW hd.view_39 [Str.ofString "insort_left", Str.ofString "bisect_left"]) mean mg mb h₀) (hk : cs.kind = .function) (hdp : dp + 10 < recursionLimit) (hun : un + 100 < cLine)
    (N : News h₀ L s.heap news) (U : UpdF l (W.listOf #[] n) news g)  {Q : Value → Shared → Prop}
    (K : ∀ h tk n' t1, Fr h₀ L h m → News h₀ L h (g (W.listOf #[.int x t1] n')) →  Q .none { s with heap := h, toks := tk }) :
    wpAny (model pw w) (ktrTop dp un gd cn cs L fa ccd cl outer) (call (.ref 37) [.ref l, .int x t]) Q E s := by
  obtain ⟨pre, post, rfl, hg, h1, h2⟩ := U.split
  have N' : News h₀ L s.heap ((l, W.listOf #[] n) :: (pre ++ post)) := fun z hz => by
    rcases List.mem_cons.mp hz with rfl | hz
    · exact N _ (List.mem_append_right _ List.mem_cons_self)
    · rcases List.mem_append.mp hz with hz | hz
      · exact N _ (List.mem_append_left _ hz)
      · exact N _ (List.mem_append_right _ (List.mem_cons_of_mem _ hz))
  refine wpAny_mono (cIns0 (rest := pre ++ post) B F X T hk hdp hun N' (fun p hp => (List.mem_append.mp hp).elim (h1 p) (h2 p))) (fun v s₂ hv => ?_) fun _ _ e => e
  obtain ⟨h, tk, n', vs, ns, rfl, rfl, F', N2, hi, hP⟩ := hv
  have N3 : News h₀ L h (g (W.listOf vs.toArray n')) := by
    rw [hg]
    intro z hz
    rcases List.mem_append.mp hz with hz | hz
    · exact N2 _ (List.mem_cons_of_mem _ (List.mem_append_left _ hz))
    · rcases List.mem_cons.mp hz with rfl | hz
      · exact N2 _ List.mem_cons_self
      · exact N2 _ (List.mem_cons_of_mem _ (List.mem_append_right _ hz))
  subst hP
  obtain ⟨t1, v1, rfl, h1⟩ := ints_cons hi
  rw [ints_nil h1] at N3
  exact K h tk n' t1 F' N3

theorem ins_use1 {l : Addr} {x : Int} {t : Tok} {a : Int} {ta : Tok} {n : Nat} {news : List (Addr × Obj)} {g : Obj → List (Addr × Obj)} (B : Below B₀ base outer h₀) (F : Fr h₀ L s.heap m) (X : (hd.heap_39 w.params).In h₀) (T : Top hd.view_39 (looseW hd.view_39 [Str.ofString "insort_left", Str.ofString "bisect_left"]) mean mg mb h₀) (hk : cs.kind = .function) (hdp : dp + 10 < recursionLimit) (hun : un + 100 < cLine)
    (N : News h₀ L s.heap news) (U : UpdF l (W.listOf #[.int a ta] n) news g)  {Q : Value → Shared → Prop}
    (K : ∀ h tk n' p q t1 t2, Fr h₀ L h m → News h₀ L h (g (W.listOf #[.int p t1, .int q t2] n')) → p ≤ q → ((p = x ∧ q = a) ∨ (p = a ∧ q = x)) → Q .none { s with heap := h, toks := tk }) :
    wpAny (model pw w) (ktrTop dp un gd cn cs L fa ccd cl outer) (call (.ref 37) [.ref l, .int x t]) Q E s := by
  obtain ⟨pre, post, rfl, hg, h1, h2⟩ := U.split
  have N' : News h₀ L s.heap ((l, W.listOf #[.int a ta] n) :: (pre ++ post)) := fun z hz => by
    rcases List.mem_cons.mp hz with rfl | hz
    · exact N _ (List.mem_append_right _ List.mem_cons_self)
    · rcases List.mem_append.mp hz with hz | hz
      · exact N _ (List.mem_append_left _ hz)
      · exact N _ (List.mem_append_right _ (List.mem_cons_of_mem _ hz))
  refine wpAny_mono (cIns1 (rest := pre ++ post) B F X T hk hdp hun N' (fun p hp => (List.mem_append.mp hp).elim (h1 p) (h2 p))) (fun v s₂ hv => ?_) fun _ _ e => e
  obtain ⟨h, tk, n', vs, ns, rfl, rfl, F', N2, hi, hP⟩ := hv
  have N3 : News h₀ L h (g (W.listOf vs.toArray n')) := by
    rw [hg]
    intro z hz
    rcases List.mem_append.mp hz with hz | hz
    · exact N2 _ (List.mem_cons_of_mem _ (List.mem_append_left _ hz))
    · rcases List.mem_cons.mp hz with rfl | hz
      · exact N2 _ List.mem_cons_self
      · exact N2 _ (List.mem_cons_of_mem _ (List.mem_append_right _ hz))
  match ns, hP, hi with
  | [p, q], hP, hi =>
    obtain ⟨t1, v1, rfl, h1⟩ := ints_cons hi
    obtain ⟨t2, v2, rfl, h2⟩ := ints_cons h1
    rw [ints_nil h2] at N3
    exact K h tk n' p q t1 t2 F' N3 hP.1 hP.2

theorem ins_use2 {l : Addr} {x : Int} {t : Tok} {a : Int} {ta : Tok} {b : Int} {tb : Tok} {n : Nat} {news : List (Addr × Obj)} {g : Obj → List (Addr × Obj)} (B : Below B₀ base outer h₀) (F : Fr h₀ L s.heap m) (X : (hd.heap_39 w.params).In h₀) (T : Top hd.view_39 (looseW hd.view_39 [Str.ofString "insort_left", Str.ofString "bisect_left"]) mean mg mb h₀) (hk : cs.kind = .function) (hdp : dp + 10 < recursionLimit) (hun : un + 100 < cLine)
    (N : News h₀ L s.heap news) (U : UpdF l (W.listOf #[.int a ta, .int b tb] n) news g) (hab : a ≤ b) {Q : Value → Shared → Prop}
    (K : ∀ h tk n' p q r t1 t2 t3, Fr h₀ L h m → News h₀ L h (g (W.listOf #[.int p t1, .int q t2, .int r t3] n')) → p ≤ q → q ≤ r → ((p = x ∧ q = a ∧ r = b) ∨ (p = a ∧ q = x ∧ r = b) ∨ (p = a ∧ q = b ∧ r = x)) → Q .none { s with heap := h, toks := tk }) :
    wpAny (model pw w) (ktrTop dp un gd cn cs L fa ccd cl outer) (call (.ref 37) [.ref l, .int x t]) Q E s := by
  obtain ⟨pre, post, rfl, hg, h1, h2⟩ := U.split
  have N' : News h₀ L s.heap ((l, W.listOf #[.int a ta, .int b tb] n) :: (pre ++ post)) := fun z hz => by
    rcases List.mem_cons.mp hz with rfl | hz
    · exact N _ (List.mem_append_right _ List.mem_cons_self)
    · rcases List.mem_append.mp hz with hz | hz
      · exact N _ (List.mem_append_left _ hz)
      · exact N _ (List.mem_append_right _ (List.mem_cons_of_mem _ hz))
  refine wpAny_mono (cIns2 (rest := pre ++ post) B F X T hk hdp hun N' (fun p hp => (List.mem_append.mp hp).elim (h1 p) (h2 p)) hab) (fun v s₂ hv => ?_) fun _ _ e => e
  obtain ⟨h, tk, n', vs, ns, rfl, rfl, F', N2, hi, hP⟩ := hv
  have N3 : News h₀ L h (g (W.listOf vs.toArray n')) := by
    rw [hg]
    intro z hz
    rcases List.mem_append.mp hz with hz | hz
    · exact N2 _ (List.mem_cons_of_mem _ (List.mem_append_left _ hz))
    · rcases List.mem_cons.mp hz with rfl | hz
      · exact N2 _ List.mem_cons_self
      · exact N2 _ (List.mem_cons_of_mem _ (List.mem_append_right _ hz))
  match ns, hP, hi with
  | [p, q, r], hP, hi =>
    obtain ⟨t1, v1, rfl, h1⟩ := ints_cons hi
    obtain ⟨t2, v2, rfl, h2⟩ := ints_cons h1
    obtain ⟨t3, v3, rfl, h3⟩ := ints_cons h2
    rw [ints_nil h3] at N3
    exact K h tk n' p q r t1 t2 t3 F' N3 hP.1 hP.2.1 hP.2.2

theorem bis_use {l : Addr} {x : Int} {t : Tok} {p q r : Int} {tp tq tr : Tok} {n : Nat} {news : List (Addr × Obj)} (B : Below B₀ base outer h₀) (F : Fr h₀ L s.heap m) (X : (hd.heap_39 w.params).In h₀) (T : Top hd.view_39 (looseW hd.view_39 [Str.ofString "insort_left", Str.ofString "bisect_left"]) mean mg mb h₀) (hk : cs.kind = .function) (hdp : dp + 10 < recursionLimit) (hun : un + 100 < cLine)
    (N : News h₀ L s.heap news) (ml : (l, W.listOf #[.int p tp, .int q tq, .int r tr] n) ∈ news) (h1 : p ≤ q) (h2 : q ≤ r) (hx : x = p ∨ x = q ∨ x = r) {Q : Value → Shared → Prop}
    (K : ∀ h tk t', Fr h₀ L h m → News h₀ L h news → Q (.int (ix p q x) t') { s with heap := h, toks := tk }) :
    wpAny (model pw w) (ktrTop dp un gd cn cs L fa ccd cl outer) (call (.ref 46) [.ref l, .int x t]) Q E s := by
  have N' : News h₀ L s.heap ((l, W.listOf #[.int p tp, .int q tq, .int r tr] n) :: news) := fun z hz => by
    rcases List.mem_cons.mp hz with rfl | hz
    · exact N _ ml
    · exact N _ hz
  refine wpAny_mono (cBis B F X T hk hdp hun N' h1 h2 hx) (fun v s₂ hv => ?_) fun _ _ e => e
  obtain ⟨h, tk, t', rfl, rfl, F', N2⟩ := hv
  exact K h tk t' F' fun z hz => N2 z (List.mem_cons_of_mem _ hz)

theorem perm3 {x y z p1 q1 p q r : Int} (h1 : (p1 = y ∧ q1 = x) ∨ (p1 = x ∧ q1 = y)) (h2 : (p = z ∧ q = p1 ∧ r = q1) ∨ (p = p1 ∧ q = z ∧ r = q1) ∨ (p = p1 ∧ q = q1 ∧ r = z)) : [p, q, r].Perm [x, y, z] := by
  apply List.perm_iff_count.mpr
  intro a
  simp only [List.count_cons, List.count_nil]
  rcases h1 with ⟨rfl, rfl⟩ | ⟨rfl, rfl⟩ <;> rcases h2 with ⟨rfl, rfl, rfl⟩ | ⟨rfl, rfl, rfl⟩ | ⟨rfl, rfl, rfl⟩ <;> omega
section
variable {prog : Program} {w : World} {A : Around} {E : Value → Shared → Prop} {s : Shared} {h₀ : Heap} {L : Addr} {m : Str → Option Value} {news : List (Addr × Obj)}
theorem collect_tup {l : Addr} {vs : List Value} {Q : List Value → Shared → Prop} (hl : IsTup s.heap l vs.toArray) (hsz : vs.length ≤ sizeLine)
    (h : Q vs { s with heap := (s.heap.push (seqObj "list" #[] 0)).update s.heap.objs.size (Obj.mapSeq (· ++ vs.toArray)) }) :
    wpAny (model prog w) A (collect (.ref l)) Q E s := by
  obtain ⟨o, ho, hc, n, hd⟩ := id hl
  unfold collect
  refine wpAny_bind (wpAny_runValue (codeAny_builtin entry_proto_collect' ?_))
  show wpAny _ _ (do again (.builtin "list.__iadd__" ⟨[← newList [], .ref l], []⟩)) _ _ s
  refine wpAny_bind (wpAny_newList (wpAny_pure ⟨Code.quiet_builtin _ (by decide +kernel), codeAny_builtin entry_list_iadd' ?_⟩))
  show wpAny _ _ (Builtin.List.listExtendWith (.ref s.heap.objs.size) (.ref l) (.ref s.heap.objs.size)) _ _ { s with heap := s.heap.push (seqObj "list" #[] 0) }
  unfold Builtin.List.listExtendWith
  have ho' : (s.heap.push (seqObj "list" #[] 0)).get? l = some o := Heap.get?_push_of_some _ ho
  refine wpAny_bind (wpAny_typeOf (T := "tuple") ⟨o, ho', hc⟩ ?_)
  have ht : (Value.type "tuple" == Value.type "tuple") = true := by rfl
  rw [if_pos (by rw [ht]; simp)]
  refine wpAny_bind (listItems_at ho' hd ?_)
  refine wpAny_bind (listItems_at (xs := #[]) (n := 0) (Heap.get?_push_size _ rfl) rfl ?_)
  rw [if_neg (by simp)]
  refine wpAny_bind (listUpdate_at (xs := #[]) (n := 0) (Heap.get?_push_size _ rfl) rfl ?_ (Nat.zero_le _) (by show (#[] ++ vs.toArray).size ≤ sizeLine + 1; simp only [Array.size_append, List.size_toArray, List.length_nil]; omega))
  refine wpAny_pure ?_
  show wpAny (model prog w) A (do
      let o ← load s.heap.objs.size
      match o.data with
      | .seq xs _ => pure xs.toList
      | _ => unsupported "internal:collect") Q E { s with heap := (s.heap.push (seqObj "list" #[] 0)).update s.heap.objs.size (Obj.mapSeq (· ++ vs.toArray)) }
  refine wpAny_bind (wpAny_load (get?_update_seq (Heap.get?_push_size _ rfl) _) ?_)
  show wpAny _ _ (pure ((#[] : Array Value) ++ vs.toArray).toList) Q E _
  rw [show ((#[] : Array Value) ++ vs.toArray).toList = vs by simp]
  exact wpAny_pure h
theorem sorted_tup {l : Addr} {vs : List Value} {ns : List Int} {Q : Value → Shared → Prop} (hl : IsTup s.heap l vs.toArray) (hI : IntsAre vs ns) (h64 : vs.length < 64) (hsz0 : vs.length ≤ sizeLine)
    (h : ∀ (out : Array Value) (ns' : List Int), IntsAre out.toList ns' → ns'.Perm ns → ns'.Pairwise (· ≤ ·) → Q (.ref (s.heap.objs.size + 1)) { s with heap := sortedAll s.heap vs out }) :
    wpAny (model prog w) A (call (.builtin "sorted") [.ref l]) Q E s := by
  refine Calls.call_function_entry kind_sorted plain_sorted entry_sorted (args_sorted1 _) ?_
  unfold Builtin.«sorted»
  refine wpAny_bind (m := checkCount "sorted" 1 1 _) (wpAny_pure ?_)
  refine wpAny_bind (collect_tup hl hsz0 ?_)
  refine wpAny_bind (wpAny_newList ?_)
  have hsz : ((s.heap.push (seqObj "list" #[] 0)).update s.heap.objs.size (Obj.mapSeq (· ++ vs.toArray))).objs.size = s.heap.objs.size + 1 := by
    rw [Heap.size_update, size_push']
  have hoL : (((s.heap.push (seqObj "list" #[] 0)).update s.heap.objs.size (Obj.mapSeq (· ++ vs.toArray))).push (seqObj "list" vs.toArray 0)).get? (s.heap.objs.size + 1) = some (seqObj "list" vs.toArray 0) := by
    rw [← hsz]; exact Heap.get?_push_size _ rfl
  show wpAny _ _ _ _ _ { s with heap := ((s.heap.push (seqObj "list" #[] 0)).update s.heap.objs.size (Obj.mapSeq (· ++ vs.toArray))).push (seqObj "list" vs.toArray 0) }
  rw [hsz]
  refine wpAny_bind (wpAny_holding (wpAny_call_entry slot_list_sort ⟨_, hoL, rfl⟩ entry_list_sort (list_sort_tree hoL hI h64 fun out ns' a1 a2 a3 => ⟨_, rfl, ?_⟩) (args_list_sort _)))
  exact wpAny_pure ⟨_, rfl, h out ns' a1 a2 a3⟩
/-- sorted of a tuple of three ints whose order is known -/
theorem sorted3_use {l : Addr} {x y z p q r : Int} {t u v : Tok} {n : Nat} {Q : Value → Shared → Prop}
    (F : Fr h₀ L s.heap m) (N : News h₀ L s.heap news) (hm : (l, ({ cls := .type "tuple", data := .seq #[.int x t, .int y u, .int z v] n } : Obj)) ∈ news)
    (hp : [p, q, r].Perm [x, y, z]) (h1 : p ≤ q) (h2 : q ≤ r)
    (K : ∀ D h' tk e t1 t2 t3, Fr h₀ L h' m → News h₀ L h' ((D, W.listOf #[.int p t1, .int q t2, .int r t3] e) :: news) → (∀ q ∈ news, q.1 < D) → Q (.ref D) { s with heap := h', toks := tk }) :
    wpAny (model prog w) A (call (.builtin "sorted") [.ref l]) Q E s := by
  refine sorted_tup (vs := [.int x t, .int y u, .int z v]) (ns := [x, y, z]) (N.isTup hm) (.cons _ _ (.cons _ _ (.cons _ _ .nil))) (by show 3 < 64; decide) (by show 3 ≤ sizeLine; decide) fun out ns' a1 a2 a3 => ?_
  obtain ⟨e, he⟩ := sortedAll_at s.heap [.int x t, .int y u, .int z v] out
  have hs : ns' = [p, q, r] := ksm_same (a2.trans hp.symm) a3 (by simp; omega)
  subst hs
  obtain ⟨t1, v1, e1, i1⟩ := ints_cons a1
  obtain ⟨t2, v2, e2, i2⟩ := ints_cons i1
  obtain ⟨t3, v3, e3, i3⟩ := ints_cons i2
  have ho : out = #[.int p t1, .int q t2, .int r t3] := by
    apply Array.toList_inj.mp
    rw [e1, e2, e3, ints_nil i3]
  subst ho
  exact K _ _ s.toks e t1 t2 t3 (F.kept fun _ _ => sortedAll_old) (N.kept_cons F (fun _ _ => sortedAll_old) (Nat.le_succ _) he) fun p hp => Nat.lt_succ_of_lt (Heap.lt_size (N p hp).1)
end
def OkG (c : Addr) (p : Addr × Obj) : Prop := p.1 ≠ c ∨ ∃ a n, p.2.data = .seq a n
def AllG (c : Addr) : List (Addr × Obj) → Prop
  | [] => True
  | p :: r => OkG c p ∧ AllG c r
inductive UpdG (c : Addr) (o : Obj) : List (Addr × Obj) → (Obj → List (Addr × Obj)) → Prop
  | head {r} : AllG c r → UpdG c o ((c, o) :: r) (fun o' => (c, o') :: r)
  | tail {p r g} : OkG c p → UpdG c o r g → UpdG c o (p :: r) (fun o' => p :: g o')
theorem UpdG.mem {c : Addr} {o : Obj} {l : List (Addr × Obj)} {g : Obj → List (Addr × Obj)} (U : UpdG c o l g) : (c, o) ∈ l := by
  induction U with
  | head _ => exact List.mem_cons_self
  | tail _ _ ih => exact List.mem_cons_of_mem _ ih
theorem okG_ne {h₀ h : Heap} {L c : Addr} {o : Obj} {v : Option Value} {news : List (Addr × Obj)} (N : News h₀ L h news) (hm : (c, o) ∈ news) (hd : o.data = .cell v) {p : Addr × Obj} (hp : p ∈ news) (k : OkG c p) : p.1 ≠ c := by
  rcases k with k | ⟨a, n, k⟩
  · exact k
  · intro e
    have h1 := (N _ hp).1
    have h2 := (N _ hm).1
    rw [e] at h1
    have h3 : p.2 = o := Option.some.inj (h1.symm.trans h2)
    rw [h3, hd] at k
    cases k
theorem AllG.mem {c : Addr} : ∀ {l : List (Addr × Obj)}, AllG c l → ∀ p ∈ l, OkG c p
  | [], _, _, h => nomatch h
  | _ :: _, x, p, h => by
    rcases List.mem_cons.mp h with rfl | h
    · exact x.1
    · exact AllG.mem x.2 p h
theorem UpdG.toF {h₀ h : Heap} {L c : Addr} {o : Obj} {v : Option Value} {news : List (Addr × Obj)} (N : News h₀ L h news) (hm : (c, o) ∈ news) (hd : o.data = .cell v) :
    ∀ {l : List (Addr × Obj)} {g : Obj → List (Addr × Obj)}, UpdG c o l g → (∀ p ∈ l, p ∈ news) → UpdF c o l g
  | _, _, .head h, hs => .head fun p hp => okG_ne N hm hd (hs p (List.mem_cons_of_mem _ hp)) (h.mem p hp)
  | _, _, .tail h r, hs => .tail (okG_ne N hm hd (hs _ List.mem_cons_self) h) (r.toF N hm hd fun p hp => hs p (List.mem_cons_of_mem _ hp))
section
variable {M : Model} {A : Around} {E : Value → Shared → Prop} {s : Shared} {h₀ : Heap} {L a : Addr} {m : Str → Option Value} {cn : Str} {cs : Scope} {ccd : Value} {cl : List (Str × Addr)}
  {x : Str} {v : Value} {Q : Unit → Shared → Prop} {news : List (Addr × Obj)} {g : Obj → List (Addr × Obj)} {c : Addr} {o : Obj} {v₀ : Option Value}
theorem storeX_G (F : Fr h₀ L s.heap m) (N : News h₀ L s.heap news) (hc : cl.lookup x = some c) (U : UpdG c o news g) (hd : o.data = .cell v₀)
    (h : ∀ h' o', Fr h₀ L h' m → News h₀ L h' (g o') → o'.data = .cell (some v) → Q () { s with heap := h' })
    (hk : cs.kind = .function := by rfl) (hx : (envX cn cs L a ccd cl).kindOf x = some .cell := by rfl) : wpAny M A (storeName (envX cn cs L a ccd cl) x v) Q E s :=
  storeX_C F N hc (U.toF N U.mem hd fun _ hp => hp) hd h hk hx
end
theorem okG_seq {c : Addr} {p : Addr × Obj} {a : Array Value} {n : Nat} (h : p.2.data = .seq a n) : OkG c p := .inr ⟨a, n, h⟩
theorem okG_sz {n i j : Nat} {o : Obj} (h : i ≠ j) : OkG (n + i) (n + j, o) := .inl fun e => h (Nat.add_left_cancel e).symm
local macro_rules | `(tactic| walk_at "MY g_ok") => `(tactic| first | exact okG_seq rfl | (refine Or.inl (neN ?_); (try dsimp only); omega))
local macro_rules | `(tactic| walk_at "MY g_all") => `(tactic| repeat (first | exact True.intro | refine And.intro (by walk_at "MY g_ok") ?_))
local macro_rules | `(tactic| walk_at "MY g_upd") => `(tactic| first | (refine' UpdG.head ?a; (case a => walk_at "MY g_all")) | (refine' UpdG.tail ?a ?b; (case a => walk_at "MY g_ok"); (case b => walk_at "MY g_upd")))
local macro_rules | `(tactic| walk_at "storeName") => `(tactic| (k_here; k_dflt (refine' storeX_G ?F ?N ?c ?U ?d ?_ ?a ?b; (case a => rfl); (case b => rfl); (case F => k_asm); (case N => k_asm); (case c => rfl); (case U => walk_at "MY g_upd"); (case d => k_asm); k_whole; intro h' o' F' N' d'; (try dsimp only at N'); (try k_sweep))))

def lawStmt : Stmt := pw.main.body.getLastD (.Pass default)
def lawScope : Scope := match lawStmt with | .FunctionDef _ _ _ _ _ _ sc _ _ _ => sc | _ => default
def lawBody : List Stmt := match lawStmt with | .FunctionDef _ _ b _ _ _ _ _ _ _ => b | _ => []
def lawS (i : Nat) : Stmt := lawBody.getD i (.Pass default)
abbrev lawEnv (L fa : Addr) (ccd : Value) : Env := envOfC (Str.ofString "law") lawScope L fa ccd
abbrev lawA (L fa : Addr) (ccd : Value) : Around := callerA.deeper (lawEnv L fa ccd)

theorem news_sub {h₀ h : Heap} {L : Addr} {big small : List (Addr × Obj)} (N : News h₀ L h big) (hs : ∀ p ∈ small, p ∈ big) : News h₀ L h small := fun p hp => N p (hs p hp)

def TailS : Prop := ∀ {w : World} {fa : Addr} {ccd : Value} {h₀ : Heap} {L : Addr} {m mg mb : Str → Option Value} {mean : ExcName → Option Value} {s : Shared} {an as at' a0 a1 a2 kn kt : Nat} {n0 n1 n2 n3 n4 n5 n6 n7 n8 n9 n10 n11 : Int} {k0 k1 k2 k3 k4 k5 k6 k7 k8 j0 j1 j2 j3 j4 j5 j6 j7 j8 j9 j10 j11 g1 g2 g3 : Tok} {c1 c2 c3 c4 c5 c6 c7 c8 : Obj} {v4 v5 v6 v7 v8 : Option Value} {rest : List Stmt} {Q : Flow → Shared → Prop} (B : Below callerA h₀ [] h₀) (F : Fr h₀ L s.heap m) (X : (hd.heap_39 w.params).In h₀) (T : Top hd.view_39 (looseW hd.view_39 [Str.ofString "insort_left", Str.ofString "bisect_left"]) mean mg mb h₀)     (N : News h₀ L s.heap [(at', W.listOf #[.ref a0, .ref a1, .ref a2] kt), (a0, { cls := .type "tuple", data := .seq #[.int n0 k0, .int n1 k1, .int n2 k2] }), (a1, { cls := .type "tuple", data := .seq #[.int n3 k3, .int n4 k4, .int n5 k5] }), (a2, { cls := .type "tuple", data := .seq #[.int n6 k6, .int n7 k7, .int n8 k8] }), (as, { cls := .type "tuple", data := .seq #[.int 1 g1, .int 2 g2, .int 3 g3] }), (an, W.listOf #[.int n0 j0, .int n1 j1, .int n2 j2, .int n3 j3, .int n4 j4, .int n5 j5, .int n6 j6, .int n7 j7, .int n8 j8, .int n9 j9, .int n10 j10, .int n11 j11] kn), (L + 1 + 1 + 1 + 1 + 1 + 1 + 1 + 1, c8), (L + 1 + 1 + 1 + 1 + 1 + 1 + 1, c7), (L + 1 + 1 + 1 + 1 + 1 + 1, c6), (L + 1 + 1 + 1 + 1 + 1, c5), (L + 1 + 1 + 1 + 1, c4), (L + 1 + 1 + 1, c3), (L + 1 + 1, c2), (L + 1, c1)])     (d1 : c1.data = .cell (some (.ref an))) (d2 : c2.data = .cell (some (.ref as))) (d3 : c3.data = .cell (some (.ref at'))) (d4 : c4.data = .cell v4) (d5 : c5.data = .cell v5) (d6 : c6.data = .cell v6) (d7 : c7.data = .cell v7) (d8 : c8.data = .cell v8) (b0 : Bd 5 n0) (b1 : Bd 5 n1) (b2 : Bd 5 n2) (b3 : Bd 5 n3) (b4 : Bd 5 n4) (b5 : Bd 5 n5) (b6 : Bd 5 n6) (b7 : Bd 5 n7) (b8 : Bd 5 n8) (b9 : Bd 5 n9) (b10 : Bd 5 n10) (b11 : Bd 5 n11)     (K : ∀ h tk m', Fr h₀ L h m' → Q (.ret (.bool true)) { s with heap := h, toks := tk }), wpAny (model pw w) (lawA L fa ccd) (execs (lawS 3 :: lawS 4 :: lawS 5 :: lawS 6 :: lawS 7 :: lawS 8 :: lawS 9 :: lawS 10 :: lawS 11 :: lawS 12 :: lawS 13 :: lawS 14 :: lawS 15 :: rest) (lawEnv L fa ccd)) Q (fun _ _ => False) s
theorem law_tail' (ht : TailS) {an as at' a0 a1 a2 kn kt : Nat} {n0 n1 n2 n3 n4 n5 n6 n7 n8 n9 n10 n11 : Int} {k0 k1 k2 k3 k4 k5 k6 k7 k8 j0 j1 j2 j3 j4 j5 j6 j7 j8 j9 j10 j11 g1 g2 g3 : Tok} {c1 c2 c3 c4 c5 c6 c7 c8 : Obj} {v4 v5 v6 v7 v8 : Option Value} {rest : List Stmt} {Q : Flow → Shared → Prop} (B : Below callerA h₀ [] h₀) (F : Fr h₀ L s.heap m) (X : (hd.heap_39 w.params).In h₀) (T : Top hd.view_39 (looseW hd.view_39 [Str.ofString "insort_left", Str.ofString "bisect_left"]) mean mg mb h₀)     (N : News h₀ L s.heap [(at', W.listOf #[.ref a0, .ref a1, .ref a2] kt), (a0, { cls := .type "tuple", data := .seq #[.int n0 k0, .int n1 k1, .int n2 k2] }), (a1, { cls := .type "tuple", data := .seq #[.int n3 k3, .int n4 k4, .int n5 k5] }), (a2, { cls := .type "tuple", data := .seq #[.int n6 k6, .int n7 k7, .int n8 k8] }), (as, { cls := .type "tuple", data := .seq #[.int 1 g1, .int 2 g2, .int 3 g3] }), (an, W.listOf #[.int n0 j0, .int n1 j1, .int n2 j2, .int n3 j3, .int n4 j4, .int n5 j5, .int n6 j6, .int n7 j7, .int n8 j8, .int n9 j9, .int n10 j10, .int n11 j11] kn), (L + 1 + 1 + 1 + 1 + 1 + 1 + 1 + 1, c8), (L + 1 + 1 + 1 + 1 + 1 + 1 + 1, c7), (L + 1 + 1 + 1 + 1 + 1 + 1, c6), (L + 1 + 1 + 1 + 1 + 1, c5), (L + 1 + 1 + 1 + 1, c4), (L + 1 + 1 + 1, c3), (L + 1 + 1, c2), (L + 1, c1)])     (d1 : c1.data = .cell (some (.ref an))) (d2 : c2.data = .cell (some (.ref as))) (d3 : c3.data = .cell (some (.ref at'))) (d4 : c4.data = .cell v4) (d5 : c5.data = .cell v5) (d6 : c6.data = .cell v6) (d7 : c7.data = .cell v7) (d8 : c8.data = .cell v8) (b0 : Bd 5 n0) (b1 : Bd 5 n1) (b2 : Bd 5 n2) (b3 : Bd 5 n3) (b4 : Bd 5 n4) (b5 : Bd 5 n5) (b6 : Bd 5 n6) (b7 : Bd 5 n7) (b8 : Bd 5 n8) (b9 : Bd 5 n9) (b10 : Bd 5 n10) (b11 : Bd 5 n11)     (K : ∀ h tk m', Fr h₀ L h m' → Q (.ret (.bool true)) { s with heap := h, toks := tk }) : wpAny (model pw w) (lawA L fa ccd) (execs (lawS 3 :: lawS 4 :: lawS 5 :: lawS 6 :: lawS 7 :: lawS 8 :: lawS 9 :: lawS 10 :: lawS 11 :: lawS 12 :: lawS 13 :: lawS 14 :: lawS 15 :: rest) (lawEnv L fa ccd)) Q (fun _ _ => False) s :=
  ht B F X T N d1 d2 d3 d4 d5 d6 d7 d8 b0 b1 b2 b3 b4 b5 b6 b7 b8 b9 b10 b11 K
section
theorem nums_of (l : List Int) : ∃ a b c d e f g h i j k m, (List.map (fun k' : Int => k'.fmod 9 - 4) (List.take 12 (l ++ (List.replicate 12 [(0 : Int)]).flatten)) = [a, b, c, d, e, f, g, h, i, j, k, m]) ∧
    Bd 4 a ∧ Bd 4 b ∧ Bd 4 c ∧ Bd 4 d ∧ Bd 4 e ∧ Bd 4 f ∧ Bd 4 g ∧ Bd 4 h ∧ Bd 4 i ∧ Bd 4 j ∧ Bd 4 k ∧ Bd 4 m := by
  have hb : ∀ x : Int, Bd 4 (x.fmod 9 - 4) := fun x => by
    have h1 : x.fmod 9 = x % 9 := Int.fmod_eq_emod_of_nonneg x (by decide)
    unfold Bd; rw [h1]; omega
  have hl : (List.take 12 (l ++ (List.replicate 12 [(0 : Int)]).flatten)).length = 12 := by simp
  generalize List.take 12 (l ++ (List.replicate 12 [(0 : Int)]).flatten) = q at hl
  match q, hl with
  | [a, b, c, d, e, f, g, h, i, j, k, m], _ => exact ⟨_, _, _, _, _, _, _, _, _, _, _, _, rfl, hb _, hb _, hb _, hb _, hb _, hb _, hb _, hb _, hb _, hb _, hb _, hb _⟩
theorem ints3 {vs : List Value} {a b c : Int} (h : IntsAre vs [a, b, c]) : ∃ t u v, vs = [.int a t, .int b u, .int c v] := by
  obtain ⟨t, v1, rfl, h1⟩ := ints_cons h
  obtain ⟨u, v2, rfl, h2⟩ := ints_cons h1
  obtain ⟨v, v3, rfl, h3⟩ := ints_cons h2
  rw [ints_nil h3]; exact ⟨_, _, _, rfl⟩
theorem ints12 {vs : List Value} {a b c d e f g h i j k m : Int} (x : IntsAre vs [a, b, c, d, e, f, g, h, i, j, k, m]) : ∃ t1 t2 t3 t4 t5 t6 t7 t8 t9 t10 t11 t12,
    vs = [.int a t1, .int b t2, .int c t3, .int d t4, .int e t5, .int f t6, .int g t7, .int h t8, .int i t9, .int j t10, .int k t11, .int m t12] := by
  obtain ⟨t1, v1, rfl, x1⟩ := ints_cons x
  obtain ⟨t2, v2, rfl, x2⟩ := ints_cons x1
  obtain ⟨t3, v3, rfl, x3⟩ := ints_cons x2
  obtain ⟨t4, v4, rfl, x4⟩ := ints_cons x3
  obtain ⟨t5, v5, rfl, x5⟩ := ints_cons x4
  obtain ⟨t6, v6, rfl, x6⟩ := ints_cons x5
  obtain ⟨t7, v7, rfl, x7⟩ := ints_cons x6
  obtain ⟨t8, v8, rfl, x8⟩ := ints_cons x7
  obtain ⟨t9, v9, rfl, x9⟩ := ints_cons x8
  obtain ⟨t10, v10, rfl, x10⟩ := ints_cons x9
  obtain ⟨t11, v11, rfl, x11⟩ := ints_cons x10
  obtain ⟨t12, v12, rfl, x12⟩ := ints_cons x11
  rw [ints_nil x12]; exact ⟨_, _, _, _, _, _, _, _, _, _, _, _, rfl⟩
local macro_rules | `(tactic| walk_at "MY num_open") => `(tactic| (
  (with_reducible rename IntsAre _ (List.map _ (List.take 12 _)) => hI)
  (with_reducible rename IntsAre _ (_ ++ _) => hI2)
  obtain ⟨n0, n1, n2, n3, n4, n5, n6, n7, n8, n9, n10, n11, he, b0, b1, b2, b3, b4, b5, b6, b7, b8, b9, b10, b11⟩ := nums_of _
  rw [he] at hI
  clear he
  obtain ⟨t0, t1, t2, t3, t4, t5, t6, t7, t8, t9, t10, t11, he⟩ := ints12 hI
  subst he))
local macro_rules | `(tactic| walk_at "storeName") => `(tactic| (walk_at "MY num_open"; skip))
local macro_rules | `(tactic| walk_at "MY three_open") => `(tactic| (
  (with_reducible rename IntsAre _ (List.take _ (_ :: _)) => hI)
  (simp only [List.take_succ_cons, List.take_zero] at hI)
  obtain ⟨t, u, v, he⟩ := ints3 hI
  subst he
  clear hI))



theorem news_nil {h₀ h : Heap} {L : Addr} {m : Str → Option Value} (F : Fr h₀ L h m) : News h₀ L h [] := fun _ hp => nomatch hp
theorem bd45 {x : Int} (h : Bd 4 x) : Bd 5 x := by unfold Bd at *; omega
local macro_rules | `(tactic| walk_at "execs cons For") => `(tactic| (k_here; (with_reducible show wpAny _ _ (execs (Stmt.For (Expr.Name (Str.ofString "point") _) _ _ _ _ :: _) _) _ _ _); (rename Fr _ _ _ _ => fF'); (rename News _ _ _ _ => nN'); k_dflt (refine' wpAny_mono (law_tail' (by assumption) (rest := []) ?B ?F ?X ?T ?N ?d1 ?d2 ?d3 ?d4 ?d5 ?d6 ?d7 ?d8 ?b0 ?b1 ?b2 ?b3 ?b4 ?b5 ?b6 ?b7 ?b8 ?b9 ?b10 ?b11 ?_) ?q ?e; (case q => exact fun _ _ h => h); (case e => exact fun _ _ h => h.elim); (case F => exact fF'); (case B => k_asm); (case X => k_asm); (case T => k_asm); (case N => exact news_sub nN' (by lcg_sub)); (case d1 => assumption); (case d2 => assumption); (case d3 => assumption); (case d4 => assumption); (case d5 => assumption); (case d6 => assumption); (case d7 => assumption); (case d8 => assumption); (case b0 => exact bd45 (by assumption)); (case b1 => exact bd45 (by assumption)); (case b2 => exact bd45 (by assumption)); (case b3 => exact bd45 (by assumption)); (case b4 => exact bd45 (by assumption)); (case b5 => exact bd45 (by assumption)); (case b6 => exact bd45 (by assumption)); (case b7 => exact bd45 (by assumption)); (case b8 => exact bd45 (by assumption)); (case b9 => exact bd45 (by assumption)); (case b10 => exact bd45 (by assumption)); (case b11 => exact bd45 (by assumption)); clear nN'; intro h6' tk6' m6' F6'; (have nN6' := news_nil F6'); clear fF')))

theorem fin (ht : TailS) : PySem.Challenge.rw_he0003_01.Holds := hd (by
  k_go0
  (all_goals try k_fold)
  k_steps)
end

local macro_rules | `(tactic| walk_at "MY ctxA") => `(tactic| ((case hk => exact rfl); (case B => k_asm); (case F => k_asm); (case X => k_asm); (case T => k_asm); (case hd => decide); (case hu => decide); (case N => k_asm)))
local macro_rules | `(tactic| walk_at "MY ctxB") => `(tactic| ((case B => k_asm); (case F => k_asm); (case X => k_asm); (case T => k_asm); (case hk => exact rfl); (case hd => decide); (case hu => decide); (case N => k_asm)))
local macro_rules | `(tactic| walk_at "MY xy") => `(tactic| ((case x1 => walk_at "MY bd"); (case x2 => walk_at "MY bd"); (case x3 => walk_at "MY bd"); (case y1 => walk_at "MY bd"); (case y2 => walk_at "MY bd"); (case y3 => walk_at "MY bd")))
local macro_rules | `(tactic| walk_at "MY zz") => `(tactic| ((case z1 => walk_at "MY bd"); (case z2 => walk_at "MY bd"); (case z3 => walk_at "MY bd")))
local macro_rules | `(tactic| walk_at "MY sumr") => `(tactic| ((case hB => decide); (case hC => decide); (case hp => walk_at "MY bd"); (case hq => walk_at "MY bd")))
local macro_rules | `(tactic| walk_at "MY mab") => `(tactic| ((case ma => k_mem); (case mb => k_mem)))
local macro_rules | `(tactic| walk_at "MY sumc") => `(tactic| (walk_at "MY ctxB"; walk_at "MY mab"; walk_at "MY sumr"; walk_at "MY xy"))
local macro_rules | `(tactic| walk_at "MY sumi") => `(tactic| (intro D' h' tk' z1' z2' z3' v1' v2' v3' j' F' N' l1 e1' e2' e3' b1' b2' b3'; (try simp only [AllLt, and_true] at l1); (try dsimp only); (try k_sweep)))
local macro_rules | `(tactic| walk_at "exec For Name Name cons nil") => `(tactic| (k_here; (with_reducible show wpAny _ _ (exec (Stmt.For (Expr.Name (Str.ofString "point") _) _ _ _ _) _) _ _ _); (rename Fr _ _ _ _ => lF'); (with_unfolding_all refine' For_invVF lF' ?k1 ?k2 ?_; (case k1 => exact rfl); (case k2 => exact rfl); k_whole)))
local macro_rules | `(tactic| walk_at "call ref") => `(tactic| (k_here; k_dflt (refine' sum_use 2000 40000 ?B ?F ?X ?T ?hk ?hd ?hu ?N ?ma ?mb ?hp ?hq ?hB ?hC ?x1 ?x2 ?x3 ?y1 ?y2 ?y3 ?_; walk_at "MY sumc"); walk_at "MY sumi"))
local macro_rules | `(tactic| walk_at "call ref") => `(tactic| (k_here; k_dflt (refine' sum_use 100 2000 ?B ?F ?X ?T ?hk ?hd ?hu ?N ?ma ?mb ?hp ?hq ?hB ?hC ?x1 ?x2 ?x3 ?y1 ?y2 ?y3 ?_; walk_at "MY sumc"); walk_at "MY sumi"))
local macro_rules | `(tactic| walk_at "call ref") => `(tactic| (k_here; k_dflt (refine' sum_use 5 100 ?B ?F ?X ?T ?hk ?hd ?hu ?N ?ma ?mb ?hp ?hq ?hB ?hC ?x1 ?x2 ?x3 ?y1 ?y2 ?y3 ?_; walk_at "MY sumc"); walk_at "MY sumi"))
local macro_rules | `(tactic| walk_at "call ref") => `(tactic| (k_here; k_dflt (refine' ins_use0 ?B ?F ?X ?T ?hk ?hd ?hu ?N ?U ?_; walk_at "MY ctxA"; (case U => k_updF); intro h' tk' n' t1' F' N'); (try dsimp only at N'); (try dsimp only); (try k_sweep)))
local macro_rules | `(tactic| walk_at "call ref") => `(tactic| (k_here; k_dflt (refine' ins_use1 ?B ?F ?X ?T ?hk ?hd ?hu ?N ?U ?_; walk_at "MY ctxA"; (case U => k_updF); intro h' tk' n' p' q' t1' t2' F' N' o1' o2'); (try dsimp only at N'); (try dsimp only); (try k_sweep)))
local macro_rules | `(tactic| walk_at "call ref") => `(tactic| (k_here; k_dflt (refine' ins_use2 ?B ?F ?X ?T ?hk ?hd ?hu ?N ?U ?hab ?_; walk_at "MY ctxA"; (case U => k_updF); (case hab => assumption); intro h' tk' n' p' q' r' t1' t2' t3' F' N' o1' o2' o3'); (try dsimp only at N'); (try dsimp only); (try k_sweep)))
local macro_rules | `(tactic| walk_at "call builtin:sorted") => `(tactic| (k_here; k_dflt (refine' sorted3_use ?F ?N ?m ?p ?h1 ?h2 ?_; (case F => k_asm); (case N => k_asm); (case m => k_mem); (case p => exact perm3 (by assumption) (by assumption)); (case h1 => assumption); (case h2 => assumption); intro D' h' tk' e' t1' t2' t3' F' N' l1); (try k_lt l1); (try dsimp only); (try k_sweep)))

section
open PyProof.Rows.LCg PyProof.Rows.LCt
variable {prog : Program} {w : World} {A : Around} {E : Value → Shared → Prop} {s : Shared} {h₀ : Heap} {L : Addr} {m : Str → Option Value} {env : Env}
/-- the tuple of the ledger that a comprehension goes over -/
def TupAt (ax : Addr) (its : Array Value) (news : List (Addr × Obj)) : Prop := False ∨ ∃ o, (ax, o) ∈ news ∧ o.cls = .type "tuple" ∧ ∃ n, o.data = .seq its n
theorem TupAt.tup {h : Heap} {ax : Addr} {its : Array Value} {news : List (Addr × Obj)} (x : TupAt ax its news) (N : News h₀ L h news) : h.IsTuple ax its := by
  rcases x with x | ⟨o, hm, hc, n, hd⟩
  · exact x.elim
  · exact ⟨o, (N _ hm).1, hc, n, hd⟩
def SrcTT (prog : Program) (w : World) (A : Around) (h₀ : Heap) (L : Addr) (m : Str → Option Value) (env : Env) (ct elt : Expr) (x : Str) (scope : Scope) (cl : List (Str × Addr)) (Fin : Shared → List Value → List (Addr × Obj) → Prop) (xv : Value) (s₁ : Shared) : Prop :=
  ∃ ax its news, xv = .ref ax ∧ A.handled = none ∧ Fr h₀ L s₁.heap m ∧ News h₀ L s₁.heap news ∧ TupAt ax its news ∧ its.size ≤ sizeLine ∧
    ∀ s₂ : Shared, (∃ h, s₂ = { s₁ with heap := h }) → CompRestT prog w A h₀ L m env ct elt x scope cl s₂ (TupAt ax its) (fun i v => its[i]? = some v) (Fin s₂) its.size 0 [] news
theorem SrcTT.mk' {ct elt : Expr} {x : Str} {scope : Scope} {cl : List (Str × Addr)} {Fin : Shared → List Value → List (Addr × Obj) → Prop} {ax : Addr} {its : Array Value} {k : Nat} {news : List (Addr × Obj)} {s₁ : Shared}
    (hh : A.handled = none) (F : Fr h₀ L s₁.heap m) (N : News h₀ L s₁.heap news) (hm : (ax, ({ cls := .type "tuple", data := .seq its k } : Obj)) ∈ news) (hsz : its.size ≤ sizeLine)
    (h : ∀ g, CompRestT prog w A h₀ L m env ct elt x scope cl { s₁ with heap := g } (TupAt ax its) (fun i v => its[i]? = some v) (Fin { s₁ with heap := g }) its.size 0 [] news) :
    SrcTT prog w A h₀ L m env ct elt x scope cl Fin (.ref ax) s₁ := ⟨ax, its, news, rfl, hh, F, N, .inr ⟨_, hm, rfl, _, rfl⟩, hsz, fun _ ⟨g, e⟩ => e ▸ h g⟩
theorem tup_st {ax I : Addr} {its : Array Value} : ∀ i (h h' : Heap) (o : Obj) (nw : List (Addr × Obj)), (h.IsTupleIter I ax i ∧ h.IsTuple ax its) → h.get? I = some o → h'.get? I = some o → (∀ b o, h₀.get? b = some o → h'.get? b = some o) → News h₀ L h' nw → TupAt ax its nw → (h'.IsTupleIter I ax i ∧ h'.IsTuple ax its) :=
  fun i h h' o nw st e e' _ N S => ⟨by obtain ⟨o', q, r⟩ := st.1; rw [e] at q; cases q; exact ⟨o, e', r⟩, S.tup N⟩
theorem listComp_Tt {ct elt iter : Expr} {x : Str} {px : Pos} {scope : Scope} {cl : List (Str × Addr)} {pos : Pos} {Q : Value → Shared → Prop} (F₀ : Fr h₀ L s.heap m)
    (hclos : closureFor scope env = pure cl) (hcell : ∀ y ∈ scope.names, y.2 ≠ .cell) (hkind : scope.kind = .function)
    (hnames : ∀ y ∈ scope.names, y.2 = .local → scope.names.lookup y.1 = some .local) (hx : scope.names.lookup x = some .local)
    (h : wpAny (model prog w) A (eval iter env) (SrcTT prog w A h₀ L m env ct elt x scope cl (fun s₂ => FinE h₀ L m s₂ Q)) E s)
    (hs : ∀ x, foldedSetIterable iter env x = pure x) :
    wpAny (model prog w) A (eval (.ListComp elt [⟨.Name x px, iter, [ct], 0⟩] scope pos) env) Q E s := by
  rw [eval_ListComp]
  refine wpAny_comprehension_free (use := none) rfl hs hclos hkind hnames (wpAny_mono h (fun xv s₁ h₁ => ?_) fun _ _ e => e)
  obtain ⟨ax, its, news, rfl, hh, F, N, S, hsz, R⟩ := h₁
  have hl := S.tup N
  have hlt : ax < s₁.heap.objs.size := by obtain ⟨_, e, _⟩ := hl; exact Heap.lt_size e
  refine wpAny_pyIter_tuple hl ?_
  have up : ∀ b o, s₁.heap.get? b = some o → (s₁.heap.push { cls := .type "tuple_iterator", data := .fields #[.ref ax, .int 0 0] }).get? b = some o := fun b o e => Heap.get?_push_of_some _ e
  refine block_T (Walks.tuple hh s₁.heap.objs.size ax (Nat.ne_of_lt hlt) its) hsz (fun i h st => by obtain ⟨o, e, _⟩ := st.1; exact ⟨o, e⟩) tup_st hcell hkind hx ⟨⟨_, Heap.get?_push_size _ rfl, rfl, rfl⟩, hl.push _⟩ (fun b hb => ?_)
    (F.keeps up) (N.grown up) (Nat.ne_of_lt F.ns.lt) (next_is_new F) (fun p hp => Nat.ne_of_lt (Heap.lt_size (N p hp).1)) S (R _ ⟨_, rfl⟩) ?_
  · show b < (s₁.heap.push _).objs.size
    rw [Heap.size_push]
    rcases List.mem_cons.mp hb with rfl | hb
    · exact Nat.lt_succ_self _
    · rw [List.mem_singleton.mp hb]; exact Nat.lt_succ_of_lt hlt
  · intro D C h' tk m' ys news' F' N' o1 hn hC₀ hD₀ hCL hDL hCD offC fin
    refine ⟨m', hn, fun h'' hs'' => fin D h'' tk (F'.change hs'' hCL hC₀) (fun p hp => ?_) o1⟩
    refine ⟨hs''.extBut _ _ ?_ (N' p hp).1, (N' p hp).2⟩
    rcases List.mem_cons.mp hp with rfl | hp
    · exact Ne.symm hCD
    · exact offC p hp
end
local macro_rules | `(tactic| walk_at "eval ListComp Name") => `(tactic| (k_here; lct_look; k_dflt (refine listComp_Tt (F₀ := by k_asm) (by with_unfolding_all rfl) (by decide) (by rfl) (by decide) (by rfl) ?_ (by intro _; with_unfolding_all rfl))))
local macro_rules | `(tactic| walk_at "SrcTT") => `(tactic| (k_here; k_dflt (refine SrcTT.mk' (by rfl) (by k_asm) (by k_asm) (by k_mem) (by first | size_fits | exact Nat.le_of_ble_eq_true rfl) ?_; intro g'; lct_lit)))
theorem min_ix (p q x : Int) : ix p q x ≤ 2 ∧ 0 ≤ ix p q x := by unfold ix; (repeat' split) <;> omega
theorem at_ix {p q r x : Int} {tp tq tr : Tok} (hx : x = p ∨ x = q ∨ x = r) : ∃ t, (#[.int p tp, .int q tq, .int r tr] : Array Value)[(ix p q x).toNat]? = some (.int x t) := by
  unfold ix
  split
  · rename_i h; subst h; exact ⟨_, rfl⟩
  · split
    · rename_i _ h; subst h; exact ⟨_, rfl⟩
    · have h : x = r := by omega
      subst h; exact ⟨_, rfl⟩
theorem mem3 {x y z p1 q1 p q r : Int} (h1 : (p1 = y ∧ q1 = x) ∨ (p1 = x ∧ q1 = y)) (h2 : (p = z ∧ q = p1 ∧ r = q1) ∨ (p = p1 ∧ q = z ∧ r = q1) ∨ (p = p1 ∧ q = q1 ∧ r = z)) : (x = p ∨ x = q ∨ x = r) ∧ (y = p ∨ y = q ∨ y = r) ∧ (z = p ∨ z = q ∨ z = r) := by omega
section
variable {prog : Program} {w : World} {A : Around} {E : Value → Shared → Prop} {s : Shared} {h₀ : Heap} {L : Addr} {m : Str → Option Value} {news : List (Addr × Obj)} {Q : Value → Shared → Prop}
theorem min_ix_use {p q x : Int} {t u : Tok} (hh : A.handled = none) (F : Fr h₀ L s.heap m) (N : News h₀ L s.heap news)
    (K : ∀ h' tk t', Fr h₀ L h' m → News h₀ L h' news → Q (.int (ix p q x) t') { s with heap := h', toks := tk }) :
    wpAny (model prog w) A (call (.builtin "min") [.int (ix p q x) t, .int 2 u]) Q E s :=
  min_two_N hh F N fun h' tk F' N' => by
    have hn : ¬ (2 < ix p q x) := by have := min_ix p q x; omega
    rw [if_neg hn]
    exact K h' tk _ F' N'
theorem item_ix {value slice : Expr} {l : Addr} {p q r x : Int} {tp tq tr u : Tok} {n : Nat} (N : News h₀ L s.heap news) (hm : (l, W.listOf #[.int p tp, .int q tq, .int r tr] n) ∈ news) (hx : x = p ∨ x = q ∨ x = r)
    (hs : subscripted slice false (.ref l) (.int (ix p q x) u) = operate [.ref l, .int (ix p q x) u] (getItem (.ref l) (.int (ix p q x) u))) (hg : ∀ r, letTemporaryGo value (.ref l) r = pure ())
    (K : ∀ t, Q (.int x t) s) : wpAny (model prog w) A (subscriptTail value slice (.ref l) (.int (ix p q x) u)) Q E s := by
  obtain ⟨t, e⟩ := at_ix (tp := tp) (tq := tq) (tr := tr) hx
  exact item_list (N.isList hm) (min_ix p q x).2 (by have := min_ix p q x; omega) e (K t) hs hg
theorem ne_same {a : Int} {t u : Tok} (h : Q (.bool false) s) : wpAny (model prog w) A (compareOp .NotEq (.int a t) (.int a u)) Q E s := by
  refine PyProof.Rows.ne_int ?_
  rw [show (a != a) = false by simp]
  exact h
end
local macro_rules | `(tactic| walk_at "MY mem_3") => `(tactic| first | exact (mem3 (by assumption) (by assumption)).1 | exact (mem3 (by assumption) (by assumption)).2.1 | exact (mem3 (by assumption) (by assumption)).2.2)
local macro_rules | `(tactic| walk_at "call ref") => `(tactic| (k_here; k_dflt (refine' bis_use ?B ?F ?X ?T ?hk ?hd ?hu ?N ?m ?h1 ?h2 ?hx ?_; walk_at "MY ctxA"; (case m => k_mem); (case h1 => assumption); (case h2 => assumption); (case hx => walk_at "MY mem_3"); intro h' tk' t1' F' N'); (try dsimp only); (try k_sweep)))
local macro_rules | `(tactic| walk_at "call builtin:min") => `(tactic| (k_here; (with_reducible show wpAny _ _ (call _ [Value.int (ix _ _ _) _, _]) _ _ _); k_dflt (refine' min_ix_use ?hh ?F ?N ?_; (case hh => exact rfl); (case F => k_asm); (case N => k_asm); intro h' tk' t1' F' N'); (try dsimp only); (try k_sweep)))
local macro_rules | `(tactic| walk_at "subscriptTail Name Call ref int") => `(tactic| (k_here; (with_reducible show wpAny _ _ (subscriptTail _ _ (Value.ref _) (Value.int (ix _ _ _) _)) _ _ _); k_dflt (refine' item_ix ?N ?m ?x ?s ?g ?_; (case N => k_asm); (case m => k_mem); (case x => walk_at "MY mem_3"); (case s => with_unfolding_all rfl); (case g => (intro _; with_unfolding_all rfl)); intro t1')))
theorem news_drop2 {h₀ h : Heap} {L : Addr} {a b : Addr × Obj} {l : List (Addr × Obj)} (N : News h₀ L h (a :: b :: l)) : News h₀ L h l := fun p hp => N p (List.mem_cons_of_mem _ (List.mem_cons_of_mem _ hp))
local macro_rules | `(tactic| walk_at "UnrPost") => `(tactic| ((rename News _ _ _ ((_, W.listOf #[] _) :: (_, LCg.lst []) :: _) => nN'); (replace nN' := news_drop2 nN'); dsimp only [UnrPost]; (with_reducible show UnrEnd _ _ _ _ _ _ _)))
local macro_rules | `(tactic| walk_at "subscriptTail Name BinOp ref int") => `(tactic| (k_here; k_dflt (refine' item_list ?l ?a ?b ?c ?_ ?s ?g; (case l => exact News.isList (by k_asm) (by k_mem)); (case a => decide); (case b => decide); (case c => first | exact (rfl : _ = some (Value.int _ _)) | exact (rfl : _ = some (Value.ref _))); (case s => with_unfolding_all rfl); (case g => (intro _; with_unfolding_all rfl)))))
local macro_rules | `(tactic| walk_at "subscriptTail Name Name ref int") => `(tactic| (k_here; k_dflt (refine' item_list ?l ?a ?b ?c ?_ ?s ?g; (case l => exact News.isList (by k_asm) (by k_mem)); (case a => decide); (case b => decide); (case c => first | exact (rfl : _ = some (Value.int _ _)) | exact (rfl : _ = some (Value.ref _))); (case s => with_unfolding_all rfl); (case g => (intro _; with_unfolding_all rfl)))))
local macro_rules | `(tactic| walk_at "exec Assign cons ListComp") => `(tactic| (k_here; (with_reducible show wpAny _ _ (exec (Stmt.Assign [Expr.Name (Str.ofString "others") _] _ _) _) _ _ _); k_dflt (refine' LCg.Assign_ListComp_U ?F0 ?a1 ?a2 ?a3 ?a4 ?a5 ?a6 ?a7 ?a8 ?a9 ?_ ?a10; (case F0 => k_asm); (case a1 => rfl); (case a2 => with_unfolding_all rfl); (case a3 => with_unfolding_all rfl); (case a4 => decide); (case a5 => rfl); (case a6 => decide); (case a7 => rfl); (case a8 => rfl); (case a9 => rfl); (case a10 => (intro _; rfl)))))
local macro_rules | `(tactic| walk_at "FinA") => `(tactic| ((unfold LCg.FinA); intro D' h' tk' F' N' o1'; clear o1'; (try simp only [List.nil_append, List.cons_append] at N'); (try dsimp only); (try k_sweep)))
local macro_rules | `(tactic| walk_at "CompSrc") => `(tactic| (k_here; k_dflt (first
  | (refine LCg.CompSrc.ledger (by rfl) (by k_asm) (by k_asm) (by k_mem) (by first | size_fits | exact Nat.le_of_ble_eq_true rfl) ?_; intro g'; lcg_lit)
  | (refine LCg.CompSrc.range (by rfl) (by k_asm) (by k_asm) (by assumption) (by first | decide | rfl) (by first | rfl | decide) (by first | size_fits | exact Nat.le_of_ble_eq_true rfl) ?_; intro g'; lcg_lit))))
local macro_rules | `(tactic| lcg_off) => `(tactic| first | assumption | (refine And.intro ⟨by k_ne, by k_ne, by k_ne⟩ ?_; lcg_off))
local macro_rules | `(tactic| walk_at "CompRestT") => `(tactic| (with_unfolding_all first | (refine LCt.CompRestT.succ ?_; intro v' I' oI' C' oC' D' m' h' tk' E' hv' hC' hx' F' N' off' ne'; clear ne'; lcg_open hv') | refine LCt.CompRestT.zero ?_))
local macro_rules | `(tactic| walk_at "CompRest") => `(tactic| (with_unfolding_all first | (refine LCg.CompRest.succ ?_; intro v' I' oI' C' oC' D' m' h' tk' E' hv' hC' hx' F' N' off' ne'; clear ne'; (first | lcg_open hv' | (obtain ⟨t9', hv9'⟩ := hv'; subst hv9'))) | refine LCg.CompRest.zero ?_))
local macro_rules | `(tactic| walk_at "FinE") => `(tactic| ((unfold LCg.FinE); intro D' h' tk' F' N' o1'; clear o1'; (try simp only [List.nil_append, List.cons_append] at N'); (try dsimp only); (try k_sweep)))
local macro_rules | `(tactic| walk_at "compareOp NotEq int int") => `(tactic| (k_here; with_reducible (refine ne_same ?_)))

theorem det1 {p q x1 x2 x3 y1 y2 y3 z1 z2 z3 : Int} (e1 : z1 = q * y1 + p * x1) (e2 : z2 = q * y2 + p * x2) (e3 : z3 = q * y3 + p * x3) : decide (z1 * (x2 * y3 - x3 * y2) + z2 * (x3 * y1 - x1 * y3) + z3 * (x1 * y2 - x2 * y1) = 0) = true := by
  rw [decide_eq_true_eq]; subst e1 e2 e3; grind
theorem det3 {l r a1 a2 a3 b1 b2 b3 s1 s2 s3 x1 x2 x3 y1 y2 y3 z1 z2 z3 : Int} (e1 : x1 = l * a1 + 1 * s1) (e2 : x2 = l * a2 + 1 * s2) (e3 : x3 = l * a3 + 1 * s3) (f1 : y1 = r * b1 + 1 * s1) (f2 : y2 = r * b2 + 1 * s2) (f3 : y3 = r * b3 + 1 * s3) (g1 : z1 = (0 - r) * b1 + l * a1) (g2 : z2 = (0 - r) * b2 + l * a2) (g3 : z3 = (0 - r) * b3 + l * a3) : decide (z1 * (x2 * y3 - x3 * y2) + z2 * (x3 * y1 - x1 * y3) + z3 * (x1 * y2 - x2 * y1) = 0) = true := by
  rw [decide_eq_true_eq]; subst e1 e2 e3 f1 f2 f3 g1 g2 g3; grind
theorem det4 {l r o a1 a2 a3 b1 b2 b3 c1 c2 c3 x1 x2 x3 y1 y2 y3 z1 z2 z3 : Int} (e1 : x1 = (0 - r) * b1 + l * a1) (e2 : x2 = (0 - r) * b2 + l * a2) (e3 : x3 = (0 - r) * b3 + l * a3) (f1 : y1 = (0 - o) * c1 + r * b1) (f2 : y2 = (0 - o) * c2 + r * b2) (f3 : y3 = (0 - o) * c3 + r * b3) (g1 : z1 = (0 - l) * a1 + o * c1) (g2 : z2 = (0 - l) * a2 + o * c2) (g3 : z3 = (0 - l) * a3 + o * c3) : decide (z1 * (x2 * y3 - x3 * y2) + z2 * (x3 * y1 - x1 * y3) + z3 * (x1 * y2 - x2 * y1) = 0) = true := by
  rw [decide_eq_true_eq]
  have h1 : z1 = -x1 - y1 := by subst e1 f1 g1; grind
  have h2 : z2 = -x2 - y2 := by subst e2 f2 g2; grind
  have h3 : z3 = -x3 - y3 := by subst e3 f3 g3; grind
  subst h1 h2 h3
  grind
theorem sum0 {l r o a b c x y z u v : Int} (e : x = (0 - r) * b + l * a) (f : y = (0 - o) * c + r * b) (g : z = (0 - l) * a + o * c) (hu : u = 1 * y + 1 * x) (hv : v = 1 * z + 1 * u) : v = 0 := by
  subst e f g hu hv; grind
theorem meet_eq {l r a b s x y z u : Int} (e : x = l * a + 1 * s) (f : y = r * b + 1 * s) (g : z = (0 - r) * b + l * a) (h : u = (0 - 1) * y + 1 * x) : z = u := by
  subst e f g h; grind
theorem same_tw {x1 x2 x3 y1 y2 y3 : Int} (e1 : x1 = 0 * y1 + 2 * y1) (e2 : x2 = 0 * y2 + 2 * y2) (e3 : x3 = 0 * y3 + 2 * y3) : x2 * y3 - x3 * y2 = 0 ∧ x3 * y1 - x1 * y3 = 0 ∧ x1 * y2 - x2 * y1 = 0 := by
  subst e1 e2 e3; refine ⟨?_, ?_, ?_⟩ <;> grind
theorem det5 {l r o a1 a2 a3 b1 b2 b3 c1 c2 c3 x1 x2 x3 y1 y2 y3 z1 z2 z3 u1 u2 u3 v1 v2 v3 : Int} (e1 : x1 = (0 - r) * b1 + l * a1) (e2 : x2 = (0 - r) * b2 + l * a2) (e3 : x3 = (0 - r) * b3 + l * a3) (f1 : y1 = (0 - o) * c1 + r * b1) (f2 : y2 = (0 - o) * c2 + r * b2) (f3 : y3 = (0 - o) * c3 + r * b3) (g1 : z1 = (0 - l) * a1 + o * c1) (g2 : z2 = (0 - l) * a2 + o * c2) (g3 : z3 = (0 - l) * a3 + o * c3) (hu1 : u1 = 0 * x1 + 2 * x1) (hu2 : u2 = 0 * x2 + 2 * x2) (hu3 : u3 = 0 * x3 + 2 * x3) (hv1 : v1 = 0 * z1 + 2 * z1) (hv2 : v2 = 0 * z2 + 2 * z2) (hv3 : v3 = 0 * z3 + 2 * z3) : decide (v1 * (u2 * y3 - u3 * y2) + v2 * (u3 * y1 - u1 * y3) + v3 * (u1 * y2 - u2 * y1) = 0) = true := by
  rw [decide_eq_true_eq]
  have h1 : z1 = -x1 - y1 := by subst e1 f1 g1; grind
  have h2 : z2 = -x2 - y2 := by subst e2 f2 g2; grind
  have h3 : z3 = -x3 - y3 := by subst e3 f3 g3; grind
  subst h1 h2 h3 hu1 hu2 hu3 hv1 hv2 hv3
  grind

local macro_rules | `(tactic| walk_at "MY det_tac") => `(tactic| first
  | exact det1 (by assumption) (by assumption) (by assumption)
  | exact det3 (by assumption) (by assumption) (by assumption) (by assumption) (by assumption) (by assumption) (by assumption) (by assumption) (by assumption)
  | exact det4 (by assumption) (by assumption) (by assumption) (by assumption) (by assumption) (by assumption) (by assumption) (by assumption) (by assumption)
  | exact det5 (by assumption) (by assumption) (by assumption) (by assumption) (by assumption) (by assumption) (by assumption) (by assumption) (by assumption) (by assumption) (by assumption) (by assumption) (by assumption) (by assumption) (by assumption))
local macro_rules | `(tactic| walk_at "call ref") => `(tactic| (k_here; k_dflt (refine' line_use true ?B ?F ?X ?T ?hk ?hd ?hu ?N ?ma ?mb ?md ?x1 ?x2 ?x3 ?y1 ?y2 ?y3 ?z1 ?z2 ?z3 ?hr ?_; walk_at "MY ctxA"; walk_at "MY mab"; (case md => k_mem); (case hr => walk_at "MY det_tac"); walk_at "MY xy"; walk_at "MY zz"; intro h' tk' F' N'); (try dsimp only); (try k_sweep)))
local macro_rules | `(tactic| walk_at "call ref") => `(tactic| (k_here; k_dflt (refine' same_use ?B ?F ?X ?T ?hk ?hd ?hu ?N ?ma ?mb ?x1 ?x2 ?x3 ?y1 ?y2 ?y3 ?he ?_; walk_at "MY ctxA"; walk_at "MY mab"; (case he => exact same_tw (by assumption) (by assumption) (by assumption)); walk_at "MY xy"; intro h' tk' F' N'); (try dsimp only); (try k_sweep)))

theorem sum02 {l r o a b c x y z u v : Int} (hv : v = 1 * z + 1 * u) (hu : u = 1 * y + 1 * x) (e : x = (0 - r) * b + l * a) (f : y = (0 - o) * c + r * b) (g : z = (0 - l) * a + o * c) : v = 0 := sum0 e f g hu hv
theorem meet_eq2 {l r a b s x y z u : Int} (g : z = (0 - r) * b + l * a) (h : u = (0 - 1) * y + 1 * x) (e : x = l * a + 1 * s) (f : y = r * b + 1 * s) : z = u := meet_eq e f g h
section
variable {prog : Program} {w : World} {A : Around} {E : Value → Shared → Prop} {s : Shared} {h₀ : Heap} {L : Addr} {m : Str → Option Value} {news : List (Addr × Obj)} {Q : Value → Shared → Prop}
theorem ne_tup3 {a b : Addr} {x1 x2 x3 y1 y2 y3 : Int} {t1 t2 t3 u1 u2 u3 : Tok} {n k : Nat} (N : News h₀ L s.heap news) (hu : A.units + 64 < cLine)
    (ma : (a, ({ cls := .type "tuple", data := .seq #[.int x1 t1, .int x2 t2, .int x3 t3] n } : Obj)) ∈ news) (mb : (b, ({ cls := .type "tuple", data := .seq #[.int y1 u1, .int y2 u2, .int y3 u3] k } : Obj)) ∈ news)
    (e1 : x1 = y1) (e2 : x2 = y2) (e3 : x3 = y3) (h : Q (.bool false) s) : wpAny (model prog w) A (compareOp .NotEq (.ref a) (.ref b)) Q E s := by
  subst e1 e2 e3
  refine ne_dataH (da := .tuple [.int x1, .int x2, .int x3]) (db := .tuple [.int x1, .int x2, .int x3]) (reads_tuple_at (N.get ma) rfl rfl (.cons (.int _ _) (.cons (.int _ _) (.cons (.int _ _) .nil)))) (reads_tuple_at (N.get mb) rfl rfl (.cons (.int _ _) (.cons (.int _ _) (.cons (.int _ _) .nil)))) rfl rfl hu ?_
  rw [show (!PyData.eqv (.tuple [.int x1, .int x2, .int x3]) (.tuple [.int x1, .int x2, .int x3])) = false by simp [PyData.eqv, PyData.eqvAll]]
  exact h
end
local macro_rules | `(tactic| walk_at "MY meet3") => `(tactic| first | exact meet_eq2 (by assumption) (by assumption) (by assumption) (by assumption) | exact sum02 (by assumption) (by assumption) (by assumption) (by assumption) (by assumption))
local macro_rules | `(tactic| walk_at "compareOp NotEq ref ref") => `(tactic| (k_here; k_dflt (refine' ne_tup3 ?N ?u ?a ?b ?e1 ?e2 ?e3 ?_; (case N => k_asm); (case u => first | decide | ke_room); (case a => k_mem); (case b => k_mem); (case e1 => walk_at "MY meet3"); (case e2 => walk_at "MY meet3"); (case e3 => walk_at "MY meet3"))))

local macro_rules | `(tactic| walk_at "call builtin:list.append") => `(tactic| (k_here; (try dsimp only [List.cons_append, List.nil_append]); (with_reducible show wpAny _ _ (call (Value.builtin _) [Value.ref _, _]) _ _ _); k_dflt (refine' append_K ?k1 ?k2 ?k3 ?_ ?z; (case k1 => k_asm); (case k2 => k_asm); (case k3 => k_upd); (case z => size_fits); (k_whole)); intro h' F' N'; (try k_sweep)))

def turnBody : List Stmt := match lawS 3 with | .For _ _ b _ _ => b | _ => []
theorem turn1 {pa : Addr} {x y z : Int} {tx ty tz : Tok} {qp : Nat} {I : Addr} {it : Obj} {an as at' a0 a1 a2 kn kt : Nat} {n0 n1 n2 n3 n4 n5 n6 n7 n8 n9 n10 n11 : Int} {k0 k1 k2 k3 k4 k5 k6 k7 k8 j0 j1 j2 j3 j4 j5 j6 j7 j8 j9 j10 j11 g1 g2 g3 : Tok} {c1 c2 c3 c4 c5 c6 c7 c8 : Obj} {v4 : Option Value} {Q : Flow → Shared → Prop} (B : Below callerA h₀ [] h₀) (F : Fr h₀ L s.heap (fun y => if y = Str.ofString "point" then some (.ref pa) else m y)) (X : (hd.heap_39 w.params).In h₀) (T : Top hd.view_39 (looseW hd.view_39 [Str.ofString "insort_left", Str.ofString "bisect_left"]) mean mg mb h₀)
    (N : News h₀ L s.heap [(pa, { cls := .type "tuple", data := .seq #[.int x tx, .int y ty, .int z tz] qp }), (I, it), (at', W.listOf #[.ref a0, .ref a1, .ref a2] kt), (a0, { cls := .type "tuple", data := .seq #[.int n0 k0, .int n1 k1, .int n2 k2] }), (a1, { cls := .type "tuple", data := .seq #[.int n3 k3, .int n4 k4, .int n5 k5] }), (a2, { cls := .type "tuple", data := .seq #[.int n6 k6, .int n7 k7, .int n8 k8] }), (as, { cls := .type "tuple", data := .seq #[.int 1 g1, .int 2 g2, .int 3 g3] }), (an, W.listOf #[.int n0 j0, .int n1 j1, .int n2 j2, .int n3 j3, .int n4 j4, .int n5 j5, .int n6 j6, .int n7 j7, .int n8 j8, .int n9 j9, .int n10 j10, .int n11 j11] kn), (L + 1 + 1 + 1 + 1 + 1 + 1 + 1 + 1, c8), (L + 1 + 1 + 1 + 1 + 1 + 1 + 1, c7), (L + 1 + 1 + 1 + 1 + 1 + 1, c6), (L + 1 + 1 + 1 + 1 + 1, c5), (L + 1 + 1 + 1 + 1, c4), (L + 1 + 1 + 1, c3), (L + 1 + 1, c2), (L + 1, c1)]) (hI : @LT.lt Nat _ (L + 1 + 1 + 1 + 1 + 1 + 1 + 1 + 1) I)
    (d4 : c4.data = .cell v4)
    (K : ∀ h tk m' c4' v4', Fr h₀ L h m' → News h₀ L h [(I, it), (at', W.listOf #[.ref a0, .ref a1, .ref a2] kt), (a0, { cls := .type "tuple", data := .seq #[.int n0 k0, .int n1 k1, .int n2 k2] }), (a1, { cls := .type "tuple", data := .seq #[.int n3 k3, .int n4 k4, .int n5 k5] }), (a2, { cls := .type "tuple", data := .seq #[.int n6 k6, .int n7 k7, .int n8 k8] }), (as, { cls := .type "tuple", data := .seq #[.int 1 g1, .int 2 g2, .int 3 g3] }), (an, W.listOf #[.int n0 j0, .int n1 j1, .int n2 j2, .int n3 j3, .int n4 j4, .int n5 j5, .int n6 j6, .int n7 j7, .int n8 j8, .int n9 j9, .int n10 j10, .int n11 j11] kn), (L + 1 + 1 + 1 + 1 + 1 + 1 + 1 + 1, c8), (L + 1 + 1 + 1 + 1 + 1 + 1 + 1, c7), (L + 1 + 1 + 1 + 1 + 1 + 1, c6), (L + 1 + 1 + 1 + 1 + 1, c5), (L + 1 + 1 + 1 + 1, c4'), (L + 1 + 1 + 1, c3), (L + 1 + 1, c2), (L + 1, c1)] → c4'.data = .cell v4' → Q .next { s with heap := h, toks := tk }) :
    wpAny (model pw w) (lawA L fa ccd) (execs turnBody (lawEnv L fa ccd)) Q (fun _ _ => False) s := by
  have es : lawScope = lawScope := rfl
  conv at es => rhs; whnf
  have eb : turnBody = turnBody := rfl
  conv at eb => rhs; whnf
  unfold lawA lawEnv
  rw [es, eb]
  clear es eb
  k_steps
  rename Fr _ _ _ _ => fF
  rename News _ _ _ _ => nN
  exact K _ _ _ _ _ fF (news_sub nN (by lcg_sub)) (by assumption)
section

local macro_rules | `(tactic| walk_at "execs cons Assign cons") => `(tactic| (k_here; (with_reducible show wpAny _ _ (execs (Stmt.Assign [Expr.Name (Str.ofString "order") _] _ _ :: _) _) _ _ _); (rename Fr _ _ _ _ => fF'); (rename News _ _ _ _ => nN'); k_dflt (refine' turn1 ?B ?F ?X ?T ?N ?hI ?d4 ?_; (case F => exact fF'); (case B => k_asm); (case X => k_asm); (case T => k_asm); (case N => exact news_sub nN' (by lcg_sub)); (case hI => first | assumption | omega); (case d4 => assumption)); clear fF' nN'; intro h' tk' m' c' v' F' N' d'))
theorem seg1 {an as at' a0 a1 a2 kn kt : Nat} {n0 n1 n2 n3 n4 n5 n6 n7 n8 n9 n10 n11 : Int} {k0 k1 k2 k3 k4 k5 k6 k7 k8 j0 j1 j2 j3 j4 j5 j6 j7 j8 j9 j10 j11 g1 g2 g3 : Tok} {c1 c2 c3 c4 c5 c6 c7 c8 : Obj} {v4 : Option Value} {rest : List Stmt} {Q : Flow → Shared → Prop} (B : Below callerA h₀ [] h₀) (F : Fr h₀ L s.heap m) (X : (hd.heap_39 w.params).In h₀) (T : Top hd.view_39 (looseW hd.view_39 [Str.ofString "insort_left", Str.ofString "bisect_left"]) mean mg mb h₀)
    (N : News h₀ L s.heap [(at', W.listOf #[.ref a0, .ref a1, .ref a2] kt), (a0, { cls := .type "tuple", data := .seq #[.int n0 k0, .int n1 k1, .int n2 k2] }), (a1, { cls := .type "tuple", data := .seq #[.int n3 k3, .int n4 k4, .int n5 k5] }), (a2, { cls := .type "tuple", data := .seq #[.int n6 k6, .int n7 k7, .int n8 k8] }), (as, { cls := .type "tuple", data := .seq #[.int 1 g1, .int 2 g2, .int 3 g3] }), (an, W.listOf #[.int n0 j0, .int n1 j1, .int n2 j2, .int n3 j3, .int n4 j4, .int n5 j5, .int n6 j6, .int n7 j7, .int n8 j8, .int n9 j9, .int n10 j10, .int n11 j11] kn), (L + 1 + 1 + 1 + 1 + 1 + 1 + 1 + 1, c8), (L + 1 + 1 + 1 + 1 + 1 + 1 + 1, c7), (L + 1 + 1 + 1 + 1 + 1 + 1, c6), (L + 1 + 1 + 1 + 1 + 1, c5), (L + 1 + 1 + 1 + 1, c4), (L + 1 + 1 + 1, c3), (L + 1 + 1, c2), (L + 1, c1)])
    (d3 : c3.data = .cell (some (.ref at'))) (d4 : c4.data = .cell v4)
    (K : ∀ h tk m' c4' v4', Fr h₀ L h m' → News h₀ L h [(at', W.listOf #[.ref a0, .ref a1, .ref a2] kt), (a0, { cls := .type "tuple", data := .seq #[.int n0 k0, .int n1 k1, .int n2 k2] }), (a1, { cls := .type "tuple", data := .seq #[.int n3 k3, .int n4 k4, .int n5 k5] }), (a2, { cls := .type "tuple", data := .seq #[.int n6 k6, .int n7 k7, .int n8 k8] }), (as, { cls := .type "tuple", data := .seq #[.int 1 g1, .int 2 g2, .int 3 g3] }), (an, W.listOf #[.int n0 j0, .int n1 j1, .int n2 j2, .int n3 j3, .int n4 j4, .int n5 j5, .int n6 j6, .int n7 j7, .int n8 j8, .int n9 j9, .int n10 j10, .int n11 j11] kn), (L + 1 + 1 + 1 + 1 + 1 + 1 + 1 + 1, c8), (L + 1 + 1 + 1 + 1 + 1 + 1 + 1, c7), (L + 1 + 1 + 1 + 1 + 1 + 1, c6), (L + 1 + 1 + 1 + 1 + 1, c5), (L + 1 + 1 + 1 + 1, c4'), (L + 1 + 1 + 1, c3), (L + 1 + 1, c2), (L + 1, c1)] → c4'.data = .cell v4' → wpAny (model pw w) (lawA L fa ccd) (execs rest (lawEnv L fa ccd)) Q (fun _ _ => False) { s with heap := h, toks := tk }) :
    wpAny (model pw w) (lawA L fa ccd) (execs (lawS 3 :: rest) (lawEnv L fa ccd)) Q (fun _ _ => False) s := by
  have es : lawScope = lawScope := rfl
  conv at es => rhs; whnf
  have eb : lawS 3 = lawS 3 := rfl
  conv at eb => rhs; whnf
  unfold lawA lawEnv
  rw [es, eb]
  clear es eb
  k_steps
  dsimp only
  rename Fr _ _ _ _ => fF
  rename News _ _ _ _ => nN
  exact K _ _ _ _ _ fF (news_sub nN (by lcg_sub)) (by assumption)
end
section

theorem fr_name {h₀ h : Heap} {L : Addr} {m : Str → Option Value} {x : Str} {v : Value} (F : Fr h₀ L h m) (hv : m x = some v) : Fr h₀ L h (fun y => if y = x then some v else m y) := by
  have e : (fun y => if y = x then some v else m y) = m := by
    funext y
    split
    · rename_i h; rw [h, hv]
    · rfl
  rw [e]; exact F
theorem seg2 {an as at' a0 a1 a2 kn kt : Nat} {n0 n1 n2 n3 n4 n5 n6 n7 n8 n9 n10 n11 : Int} {k0 k1 k2 k3 k4 k5 k6 k7 k8 j0 j1 j2 j3 j4 j5 j6 j7 j8 j9 j10 j11 g1 g2 g3 : Tok} {c1 c2 c3 c4 c5 c6 c7 c8 : Obj} {rest : List Stmt} {Q : Flow → Shared → Prop} (B : Below callerA h₀ [] h₀) (F : Fr h₀ L s.heap m) (X : (hd.heap_39 w.params).In h₀) (T : Top hd.view_39 (looseW hd.view_39 [Str.ofString "insort_left", Str.ofString "bisect_left"]) mean mg mb h₀)
    (N : News h₀ L s.heap [(at', W.listOf #[.ref a0, .ref a1, .ref a2] kt), (a0, { cls := .type "tuple", data := .seq #[.int n0 k0, .int n1 k1, .int n2 k2] }), (a1, { cls := .type "tuple", data := .seq #[.int n3 k3, .int n4 k4, .int n5 k5] }), (a2, { cls := .type "tuple", data := .seq #[.int n6 k6, .int n7 k7, .int n8 k8] }), (as, { cls := .type "tuple", data := .seq #[.int 1 g1, .int 2 g2, .int 3 g3] }), (an, W.listOf #[.int n0 j0, .int n1 j1, .int n2 j2, .int n3 j3, .int n4 j4, .int n5 j5, .int n6 j6, .int n7 j7, .int n8 j8, .int n9 j9, .int n10 j10, .int n11 j11] kn), (L + 1 + 1 + 1 + 1 + 1 + 1 + 1 + 1, c8), (L + 1 + 1 + 1 + 1 + 1 + 1 + 1, c7), (L + 1 + 1 + 1 + 1 + 1 + 1, c6), (L + 1 + 1 + 1 + 1 + 1, c5), (L + 1 + 1 + 1 + 1, c4), (L + 1 + 1 + 1, c3), (L + 1 + 1, c2), (L + 1, c1)])
    (d1 : c1.data = .cell (some (.ref an))) (d2 : c2.data = .cell (some (.ref as))) (d3 : c3.data = .cell (some (.ref at')))
    (b0 : Bd 5 n0) (b1 : Bd 5 n1) (b2 : Bd 5 n2) (b3 : Bd 5 n3) (b4 : Bd 5 n4) (b5 : Bd 5 n5) (b6 : Bd 5 n6) (b7 : Bd 5 n7) (b8 : Bd 5 n8) (b9 : Bd 5 n9) (b10 : Bd 5 n10) (b11 : Bd 5 n11)
    (K : ∀ (h : Heap) (tk : Nat) (m' : Str → Option Value) (ao o0 o1 o2 ko qo0 qo1 qo2 : Nat) (x1 x2 x3 y1 y2 y3 z1 z2 z3 : Int) (tx1 tx2 tx3 ty1 ty2 ty3 tz1 tz2 tz3 : Tok), Fr h₀ L h (fun y => if y = Str.ofString "others" then some (.ref ao) else m' y) → News h₀ L h [(ao, W.listOf #[.ref o0, .ref o1, .ref o2] ko), (o0, { cls := .type "tuple", data := .seq #[.int x1 tx1, .int x2 tx2, .int x3 tx3] qo0 }), (o1, { cls := .type "tuple", data := .seq #[.int y1 ty1, .int y2 ty2, .int y3 ty3] qo1 }), (o2, { cls := .type "tuple", data := .seq #[.int z1 tz1, .int z2 tz2, .int z3 tz3] qo2 }), (at', W.listOf #[.ref a0, .ref a1, .ref a2] kt), (a0, { cls := .type "tuple", data := .seq #[.int n0 k0, .int n1 k1, .int n2 k2] }), (a1, { cls := .type "tuple", data := .seq #[.int n3 k3, .int n4 k4, .int n5 k5] }), (a2, { cls := .type "tuple", data := .seq #[.int n6 k6, .int n7 k7, .int n8 k8] }), (as, { cls := .type "tuple", data := .seq #[.int 1 g1, .int 2 g2, .int 3 g3] }), (an, W.listOf #[.int n0 j0, .int n1 j1, .int n2 j2, .int n3 j3, .int n4 j4, .int n5 j5, .int n6 j6, .int n7 j7, .int n8 j8, .int n9 j9, .int n10 j10, .int n11 j11] kn), (L + 1 + 1 + 1 + 1 + 1 + 1 + 1 + 1, c8), (L + 1 + 1 + 1 + 1 + 1 + 1 + 1, c7), (L + 1 + 1 + 1 + 1 + 1 + 1, c6), (L + 1 + 1 + 1 + 1 + 1, c5), (L + 1 + 1 + 1 + 1, c4), (L + 1 + 1 + 1, c3), (L + 1 + 1, c2), (L + 1, c1)] → x1 = (1 + if n9 < 0 then -n9 else n9) * n0 + 1 * 1 → x2 = (1 + if n9 < 0 then -n9 else n9) * n1 + 1 * 2 → x3 = (1 + if n9 < 0 then -n9 else n9) * n2 + 1 * 3 → y1 = (1 + if n10 < 0 then -n10 else n10) * n3 + 1 * 1 → y2 = (1 + if n10 < 0 then -n10 else n10) * n4 + 1 * 2 → y3 = (1 + if n10 < 0 then -n10 else n10) * n5 + 1 * 3 → z1 = (1 + if n11 < 0 then -n11 else n11) * n6 + 1 * 1 → z2 = (1 + if n11 < 0 then -n11 else n11) * n7 + 1 * 2 → z3 = (1 + if n11 < 0 then -n11 else n11) * n8 + 1 * 3 → Bd 100 x1 → Bd 100 x2 → Bd 100 x3 → Bd 100 y1 → Bd 100 y2 → Bd 100 y3 → Bd 100 z1 → Bd 100 z2 → Bd 100 z3 →
      wpAny (model pw w) (lawA L fa ccd) (execs rest (lawEnv L fa ccd)) Q (fun _ _ => False) { s with heap := h, toks := tk }) :
    wpAny (model pw w) (lawA L fa ccd) (execs (lawS 4 :: lawS 5 :: rest) (lawEnv L fa ccd)) Q (fun _ _ => False) s := by
  have es : lawScope = lawScope := rfl
  conv at es => rhs; whnf
  have eb4 : lawS 4 = lawS 4 := rfl
  conv at eb4 => rhs; whnf
  have eb5 : lawS 5 = lawS 5 := rfl
  conv at eb5 => rhs; whnf
  unfold lawA lawEnv
  rw [es, eb4, eb5]
  clear es eb4 eb5
  k_steps
  dsimp only
  rename Fr _ _ _ _ => fF
  rename News _ _ _ _ => nN
  exact K _ _ _ _ _ _ _ _ _ _ _ _ _ _ _ _ _ _ _ _ _ _ _ _ _ _ _ _ _ (fr_name fF rfl) (news_sub nN (by lcg_sub)) (by assumption) (by assumption) (by assumption) (by assumption) (by assumption) (by assumption) (by assumption) (by assumption) (by assumption) (by assumption) (by assumption) (by assumption) (by assumption) (by assumption) (by assumption) (by assumption) (by assumption) (by assumption)
end
section

theorem seg3 {an as at' a0 a1 a2 kn kt : Nat} {ao o0 o1 o2 ko qo0 qo1 qo2 : Nat} {x1 x2 x3 y1 y2 y3 z1 z2 z3 : Int} {tx1 tx2 tx3 ty1 ty2 ty3 tz1 tz2 tz3 : Tok} {n0 n1 n2 n3 n4 n5 n6 n7 n8 n9 n10 n11 : Int} {k0 k1 k2 k3 k4 k5 k6 k7 k8 j0 j1 j2 j3 j4 j5 j6 j7 j8 j9 j10 j11 g1 g2 g3 : Tok} {c1 c2 c3 c4 c5 c6 c7 c8 : Obj} {v5 : Option Value} {rest : List Stmt} {Q : Flow → Shared → Prop} (B : Below callerA h₀ [] h₀) (F : Fr h₀ L s.heap (fun y => if y = Str.ofString "others" then some (.ref ao) else m y)) (X : (hd.heap_39 w.params).In h₀) (T : Top hd.view_39 (looseW hd.view_39 [Str.ofString "insort_left", Str.ofString "bisect_left"]) mean mg mb h₀)
    (N : News h₀ L s.heap [(ao, W.listOf #[.ref o0, .ref o1, .ref o2] ko), (o0, { cls := .type "tuple", data := .seq #[.int x1 tx1, .int x2 tx2, .int x3 tx3] qo0 }), (o1, { cls := .type "tuple", data := .seq #[.int y1 ty1, .int y2 ty2, .int y3 ty3] qo1 }), (o2, { cls := .type "tuple", data := .seq #[.int z1 tz1, .int z2 tz2, .int z3 tz3] qo2 }), (at', W.listOf #[.ref a0, .ref a1, .ref a2] kt), (a0, { cls := .type "tuple", data := .seq #[.int n0 k0, .int n1 k1, .int n2 k2] }), (a1, { cls := .type "tuple", data := .seq #[.int n3 k3, .int n4 k4, .int n5 k5] }), (a2, { cls := .type "tuple", data := .seq #[.int n6 k6, .int n7 k7, .int n8 k8] }), (as, { cls := .type "tuple", data := .seq #[.int 1 g1, .int 2 g2, .int 3 g3] }), (an, W.listOf #[.int n0 j0, .int n1 j1, .int n2 j2, .int n3 j3, .int n4 j4, .int n5 j5, .int n6 j6, .int n7 j7, .int n8 j8, .int n9 j9, .int n10 j10, .int n11 j11] kn), (L + 1 + 1 + 1 + 1 + 1 + 1 + 1 + 1, c8), (L + 1 + 1 + 1 + 1 + 1 + 1 + 1, c7), (L + 1 + 1 + 1 + 1 + 1 + 1, c6), (L + 1 + 1 + 1 + 1 + 1, c5), (L + 1 + 1 + 1 + 1, c4), (L + 1 + 1 + 1, c3), (L + 1 + 1, c2), (L + 1, c1)])
    (d1 : c1.data = .cell (some (.ref an))) (d3 : c3.data = .cell (some (.ref at'))) (d5 : c5.data = .cell v5)
    (b0 : Bd 5 n0) (b1 : Bd 5 n1) (b2 : Bd 5 n2) (b3 : Bd 5 n3) (b4 : Bd 5 n4) (b5 : Bd 5 n5) (b6 : Bd 5 n6) (b7 : Bd 5 n7) (b8 : Bd 5 n8) (b9 : Bd 5 n9) (b10 : Bd 5 n10) (b11 : Bd 5 n11) (he0 : x1 = (1 + if n9 < 0 then -n9 else n9) * n0 + 1 * 1) (he1 : x2 = (1 + if n9 < 0 then -n9 else n9) * n1 + 1 * 2) (he2 : x3 = (1 + if n9 < 0 then -n9 else n9) * n2 + 1 * 3) (he3 : y1 = (1 + if n10 < 0 then -n10 else n10) * n3 + 1 * 1) (he4 : y2 = (1 + if n10 < 0 then -n10 else n10) * n4 + 1 * 2) (he5 : y3 = (1 + if n10 < 0 then -n10 else n10) * n5 + 1 * 3) (he6 : z1 = (1 + if n11 < 0 then -n11 else n11) * n6 + 1 * 1) (he7 : z2 = (1 + if n11 < 0 then -n11 else n11) * n7 + 1 * 2) (he8 : z3 = (1 + if n11 < 0 then -n11 else n11) * n8 + 1 * 3) (hb0 : Bd 100 x1) (hb1 : Bd 100 x2) (hb2 : Bd 100 x3) (hb3 : Bd 100 y1) (hb4 : Bd 100 y2) (hb5 : Bd 100 y3) (hb6 : Bd 100 z1) (hb7 : Bd 100 z2) (hb8 : Bd 100 z3)
    (K : ∀ (h : Heap) (tk : Nat) (m' : Str → Option Value) (c5' : Obj) (am p0 p1 p2 km qp0 qp1 qp2 : Nat) (u1 u2 u3 v1 v2 v3 r1 r2 r3 : Int) (tu1 tu2 tu3 tv1 tv2 tv3 tw1 tw2 tw3 : Tok), Fr h₀ L h m' → News h₀ L h [(am, W.listOf #[.ref p0, .ref p1, .ref p2] km), (p0, { cls := .type "tuple", data := .seq #[.int u1 tu1, .int u2 tu2, .int u3 tu3] qp0 }), (p1, { cls := .type "tuple", data := .seq #[.int v1 tv1, .int v2 tv2, .int v3 tv3] qp1 }), (p2, { cls := .type "tuple", data := .seq #[.int r1 tw1, .int r2 tw2, .int r3 tw3] qp2 }), (as, { cls := .type "tuple", data := .seq #[.int 1 g1, .int 2 g2, .int 3 g3] }), (L + 1 + 1 + 1 + 1 + 1 + 1 + 1 + 1, c8), (L + 1 + 1 + 1 + 1 + 1 + 1 + 1, c7), (L + 1 + 1 + 1 + 1 + 1 + 1, c6), (L + 1 + 1 + 1 + 1 + 1, c5'), (L + 1 + 1 + 1 + 1, c4), (L + 1 + 1 + 1, c3), (L + 1 + 1, c2), (L + 1, c1)] → c5'.data = .cell (some (.ref am)) → u1 = (0 - (1 + if n10 < 0 then -n10 else n10)) * n3 + (1 + if n9 < 0 then -n9 else n9) * n0 → u2 = (0 - (1 + if n10 < 0 then -n10 else n10)) * n4 + (1 + if n9 < 0 then -n9 else n9) * n1 → u3 = (0 - (1 + if n10 < 0 then -n10 else n10)) * n5 + (1 + if n9 < 0 then -n9 else n9) * n2 → v1 = (0 - (1 + if n11 < 0 then -n11 else n11)) * n6 + (1 + if n10 < 0 then -n10 else n10) * n3 → v2 = (0 - (1 + if n11 < 0 then -n11 else n11)) * n7 + (1 + if n10 < 0 then -n10 else n10) * n4 → v3 = (0 - (1 + if n11 < 0 then -n11 else n11)) * n8 + (1 + if n10 < 0 then -n10 else n10) * n5 → r1 = (0 - (1 + if n9 < 0 then -n9 else n9)) * n0 + (1 + if n11 < 0 then -n11 else n11) * n6 → r2 = (0 - (1 + if n9 < 0 then -n9 else n9)) * n1 + (1 + if n11 < 0 then -n11 else n11) * n7 → r3 = (0 - (1 + if n9 < 0 then -n9 else n9)) * n2 + (1 + if n11 < 0 then -n11 else n11) * n8 → Bd 100 u1 → Bd 100 u2 → Bd 100 u3 → Bd 100 v1 → Bd 100 v2 → Bd 100 v3 → Bd 100 r1 → Bd 100 r2 → Bd 100 r3 →
      wpAny (model pw w) (lawA L fa ccd) (execs rest (lawEnv L fa ccd)) Q (fun _ _ => False) { s with heap := h, toks := tk }) :
    wpAny (model pw w) (lawA L fa ccd) (execs (lawS 6 :: lawS 7 :: rest) (lawEnv L fa ccd)) Q (fun _ _ => False) s := by
  have es : lawScope = lawScope := rfl
  conv at es => rhs; whnf
  have eb6 : lawS 6 = lawS 6 := rfl
  conv at eb6 => rhs; whnf
  have eb7 : lawS 7 = lawS 7 := rfl
  conv at eb7 => rhs; whnf
  unfold lawA lawEnv
  rw [es, eb6, eb7]
  clear es eb6 eb7
  k_steps
  dsimp only
  rename Fr _ _ _ _ => fF
  rename News _ _ _ _ => nN
  refine' K _ _ _ _ _ _ _ _ _ _ _ _ _ _ _ _ _ _ _ _ _ _ _ _ _ _ _ _ _ _ fF ?N ?d ?e0 ?e1 ?e2 ?e3 ?e4 ?e5 ?e6 ?e7 ?e8 ?e9 ?e10 ?e11 ?e12 ?e13 ?e14 ?e15 ?e16 ?e17
  case d => assumption
  case N => exact news_sub nN (by lcg_sub)
  all_goals assumption
end
section

theorem seg4a {as : Nat} {am p0 p1 p2 km qp0 qp1 qp2 : Nat} {u1 u2 u3 v1 v2 v3 r1 r2 r3 : Int} {tu1 tu2 tu3 tv1 tv2 tv3 tw1 tw2 tw3 : Tok} {n0 n1 n2 n3 n4 n5 n6 n7 n8 n9 n10 n11 : Int} {g1 g2 g3 : Tok} {c1 c2 c3 c4 c5 c6 c7 c8 : Obj} {rest : List Stmt} {Q : Flow → Shared → Prop} (B : Below callerA h₀ [] h₀) (F : Fr h₀ L s.heap m) (X : (hd.heap_39 w.params).In h₀) (T : Top hd.view_39 (looseW hd.view_39 [Str.ofString "insort_left", Str.ofString "bisect_left"]) mean mg mb h₀)
    (N : News h₀ L s.heap [(am, W.listOf #[.ref p0, .ref p1, .ref p2] km), (p0, { cls := .type "tuple", data := .seq #[.int u1 tu1, .int u2 tu2, .int u3 tu3] qp0 }), (p1, { cls := .type "tuple", data := .seq #[.int v1 tv1, .int v2 tv2, .int v3 tv3] qp1 }), (p2, { cls := .type "tuple", data := .seq #[.int r1 tw1, .int r2 tw2, .int r3 tw3] qp2 }), (as, { cls := .type "tuple", data := .seq #[.int 1 g1, .int 2 g2, .int 3 g3] }), (L + 1 + 1 + 1 + 1 + 1 + 1 + 1 + 1, c8), (L + 1 + 1 + 1 + 1 + 1 + 1 + 1, c7), (L + 1 + 1 + 1 + 1 + 1 + 1, c6), (L + 1 + 1 + 1 + 1 + 1, c5), (L + 1 + 1 + 1 + 1, c4), (L + 1 + 1 + 1, c3), (L + 1 + 1, c2), (L + 1, c1)])
    (d5 : c5.data = .cell (some (.ref am)))
    (he0 : u1 = (0 - (1 + if n10 < 0 then -n10 else n10)) * n3 + (1 + if n9 < 0 then -n9 else n9) * n0) (he1 : u2 = (0 - (1 + if n10 < 0 then -n10 else n10)) * n4 + (1 + if n9 < 0 then -n9 else n9) * n1) (he2 : u3 = (0 - (1 + if n10 < 0 then -n10 else n10)) * n5 + (1 + if n9 < 0 then -n9 else n9) * n2) (he3 : v1 = (0 - (1 + if n11 < 0 then -n11 else n11)) * n6 + (1 + if n10 < 0 then -n10 else n10) * n3) (he4 : v2 = (0 - (1 + if n11 < 0 then -n11 else n11)) * n7 + (1 + if n10 < 0 then -n10 else n10) * n4) (he5 : v3 = (0 - (1 + if n11 < 0 then -n11 else n11)) * n8 + (1 + if n10 < 0 then -n10 else n10) * n5) (he6 : r1 = (0 - (1 + if n9 < 0 then -n9 else n9)) * n0 + (1 + if n11 < 0 then -n11 else n11) * n6) (he7 : r2 = (0 - (1 + if n9 < 0 then -n9 else n9)) * n1 + (1 + if n11 < 0 then -n11 else n11) * n7) (he8 : r3 = (0 - (1 + if n9 < 0 then -n9 else n9)) * n2 + (1 + if n11 < 0 then -n11 else n11) * n8) (hb0 : Bd 100 u1) (hb1 : Bd 100 u2) (hb2 : Bd 100 u3) (hb3 : Bd 100 v1) (hb4 : Bd 100 v2) (hb5 : Bd 100 v3) (hb6 : Bd 100 r1) (hb7 : Bd 100 r2) (hb8 : Bd 100 r3)
    (K : ∀ h tk m', Fr h₀ L h m' → News h₀ L h [(am, W.listOf #[.ref p0, .ref p1, .ref p2] km), (p0, { cls := .type "tuple", data := .seq #[.int u1 tu1, .int u2 tu2, .int u3 tu3] qp0 }), (p1, { cls := .type "tuple", data := .seq #[.int v1 tv1, .int v2 tv2, .int v3 tv3] qp1 }), (p2, { cls := .type "tuple", data := .seq #[.int r1 tw1, .int r2 tw2, .int r3 tw3] qp2 }), (as, { cls := .type "tuple", data := .seq #[.int 1 g1, .int 2 g2, .int 3 g3] }), (L + 1 + 1 + 1 + 1 + 1 + 1 + 1 + 1, c8), (L + 1 + 1 + 1 + 1 + 1 + 1 + 1, c7), (L + 1 + 1 + 1 + 1 + 1 + 1, c6), (L + 1 + 1 + 1 + 1 + 1, c5), (L + 1 + 1 + 1 + 1, c4), (L + 1 + 1 + 1, c3), (L + 1 + 1, c2), (L + 1, c1)] →
      wpAny (model pw w) (lawA L fa ccd) (execs rest (lawEnv L fa ccd)) Q (fun _ _ => False) { s with heap := h, toks := tk }) :
    wpAny (model pw w) (lawA L fa ccd) (execs (lawS 8 :: lawS 9 :: rest) (lawEnv L fa ccd)) Q (fun _ _ => False) s := by
  have es : lawScope = lawScope := rfl
  conv at es => rhs; whnf
  have eb8 : lawS 8 = lawS 8 := rfl
  conv at eb8 => rhs; whnf
  have eb9 : lawS 9 = lawS 9 := rfl
  conv at eb9 => rhs; whnf
  unfold lawA lawEnv
  rw [es, eb8, eb9]
  clear es eb8 eb9
  k_steps
  dsimp only
  rename Fr _ _ _ _ => fF
  rename News _ _ _ _ => nN
  exact K _ _ _ fF (news_sub nN (by lcg_sub))
end
section

theorem det5b {l r o a1 a2 a3 b1 b2 b3 c1 c2 c3 x1 x2 x3 y1 y2 y3 z1 z2 z3 u1 u2 u3 v1 v2 v3 : Int} (hu1 : u1 = 0 * x1 + 2 * x1) (hu2 : u2 = 0 * x2 + 2 * x2) (hu3 : u3 = 0 * x3 + 2 * x3) (hv1 : v1 = 0 * z1 + 2 * z1) (hv2 : v2 = 0 * z2 + 2 * z2) (hv3 : v3 = 0 * z3 + 2 * z3) (e1 : x1 = (0 - r) * b1 + l * a1) (e2 : x2 = (0 - r) * b2 + l * a2) (e3 : x3 = (0 - r) * b3 + l * a3) (f1 : y1 = (0 - o) * c1 + r * b1) (f2 : y2 = (0 - o) * c2 + r * b2) (f3 : y3 = (0 - o) * c3 + r * b3) (g1 : z1 = (0 - l) * a1 + o * c1) (g2 : z2 = (0 - l) * a2 + o * c2) (g3 : z3 = (0 - l) * a3 + o * c3) : decide (v1 * (u2 * y3 - u3 * y2) + v2 * (u3 * y1 - u1 * y3) + v3 * (u1 * y2 - u2 * y1) = 0) = true :=
  det5 e1 e2 e3 f1 f2 f3 g1 g2 g3 hu1 hu2 hu3 hv1 hv2 hv3

local macro_rules | `(tactic| walk_at "MY det_tac") => `(tactic| exact det5b (by assumption) (by assumption) (by assumption) (by assumption) (by assumption) (by assumption) (by assumption) (by assumption) (by assumption) (by assumption) (by assumption) (by assumption) (by assumption) (by assumption) (by assumption))

local macro_rules | `(tactic| walk_at "eval ListComp Name") => `(tactic| (k_here; (with_reducible show wpAny _ _ (eval (Expr.ListComp (Expr.Name (Str.ofString "k") _) _ _ _) _) _ _ _); k_dflt (refine LCt.ListComp_T (F₀ := by k_asm) (by with_unfolding_all rfl) (by decide) (by rfl) (by decide) (by rfl) ?_ (by intro _; with_unfolding_all rfl))))
local macro_rules | `(tactic| walk_at "CompRestT") => `(tactic| (with_unfolding_all first | (refine LCt.CompRestT.succ ?_; intro v' I' oI' C' oC' D' m' h' tk' E' hv' hC' hx' F' N' off' ne'; clear ne'; (first | lcg_open hv' | (obtain ⟨t9', hv9'⟩ := hv'; subst hv9'))) | refine LCt.CompRestT.zero ?_))

theorem seg4b {as : Nat} {am p0 p1 p2 km qp0 qp1 qp2 : Nat} {u1 u2 u3 v1 v2 v3 r1 r2 r3 : Int} {tu1 tu2 tu3 tv1 tv2 tv3 tw1 tw2 tw3 : Tok} {n0 n1 n2 n3 n4 n5 n6 n7 n8 n9 n10 n11 : Int} {g1 g2 g3 : Tok} {c1 c2 c3 c4 c5 c6 c7 c8 : Obj} {v6 : Option Value} {rest : List Stmt} {Q : Flow → Shared → Prop} (B : Below callerA h₀ [] h₀) (F : Fr h₀ L s.heap m) (X : (hd.heap_39 w.params).In h₀) (T : Top hd.view_39 (looseW hd.view_39 [Str.ofString "insort_left", Str.ofString "bisect_left"]) mean mg mb h₀)
    (N : News h₀ L s.heap [(am, W.listOf #[.ref p0, .ref p1, .ref p2] km), (p0, { cls := .type "tuple", data := .seq #[.int u1 tu1, .int u2 tu2, .int u3 tu3] qp0 }), (p1, { cls := .type "tuple", data := .seq #[.int v1 tv1, .int v2 tv2, .int v3 tv3] qp1 }), (p2, { cls := .type "tuple", data := .seq #[.int r1 tw1, .int r2 tw2, .int r3 tw3] qp2 }), (as, { cls := .type "tuple", data := .seq #[.int 1 g1, .int 2 g2, .int 3 g3] }), (L + 1 + 1 + 1 + 1 + 1 + 1 + 1 + 1, c8), (L + 1 + 1 + 1 + 1 + 1 + 1 + 1, c7), (L + 1 + 1 + 1 + 1 + 1 + 1, c6), (L + 1 + 1 + 1 + 1 + 1, c5), (L + 1 + 1 + 1 + 1, c4), (L + 1 + 1 + 1, c3), (L + 1 + 1, c2), (L + 1, c1)])
    (d5 : c5.data = .cell (some (.ref am))) (d6 : c6.data = .cell v6)
    (he0 : u1 = (0 - (1 + if n10 < 0 then -n10 else n10)) * n3 + (1 + if n9 < 0 then -n9 else n9) * n0) (he1 : u2 = (0 - (1 + if n10 < 0 then -n10 else n10)) * n4 + (1 + if n9 < 0 then -n9 else n9) * n1) (he2 : u3 = (0 - (1 + if n10 < 0 then -n10 else n10)) * n5 + (1 + if n9 < 0 then -n9 else n9) * n2) (he3 : v1 = (0 - (1 + if n11 < 0 then -n11 else n11)) * n6 + (1 + if n10 < 0 then -n10 else n10) * n3) (he4 : v2 = (0 - (1 + if n11 < 0 then -n11 else n11)) * n7 + (1 + if n10 < 0 then -n10 else n10) * n4) (he5 : v3 = (0 - (1 + if n11 < 0 then -n11 else n11)) * n8 + (1 + if n10 < 0 then -n10 else n10) * n5) (he6 : r1 = (0 - (1 + if n9 < 0 then -n9 else n9)) * n0 + (1 + if n11 < 0 then -n11 else n11) * n6) (he7 : r2 = (0 - (1 + if n9 < 0 then -n9 else n9)) * n1 + (1 + if n11 < 0 then -n11 else n11) * n7) (he8 : r3 = (0 - (1 + if n9 < 0 then -n9 else n9)) * n2 + (1 + if n11 < 0 then -n11 else n11) * n8) (hb0 : Bd 100 u1) (hb1 : Bd 100 u2) (hb2 : Bd 100 u3) (hb3 : Bd 100 v1) (hb4 : Bd 100 v2) (hb5 : Bd 100 v3) (hb6 : Bd 100 r1) (hb7 : Bd 100 r2) (hb8 : Bd 100 r3)
    (K : ∀ h tk m' c6', Fr h₀ L h m' → News h₀ L h [(as, { cls := .type "tuple", data := .seq #[.int 1 g1, .int 2 g2, .int 3 g3] }), (L + 1 + 1 + 1 + 1 + 1 + 1 + 1 + 1, c8), (L + 1 + 1 + 1 + 1 + 1 + 1 + 1, c7), (L + 1 + 1 + 1 + 1 + 1 + 1, c6'), (L + 1 + 1 + 1 + 1 + 1, c5), (L + 1 + 1 + 1 + 1, c4), (L + 1 + 1 + 1, c3), (L + 1 + 1, c2), (L + 1, c1)] →
      wpAny (model pw w) (lawA L fa ccd) (execs rest (lawEnv L fa ccd)) Q (fun _ _ => False) { s with heap := h, toks := tk }) :
    wpAny (model pw w) (lawA L fa ccd) (execs (lawS 10 :: lawS 11 :: rest) (lawEnv L fa ccd)) Q (fun _ _ => False) s := by
  have es : lawScope = lawScope := rfl
  conv at es => rhs; whnf
  have eb10 : lawS 10 = lawS 10 := rfl
  conv at eb10 => rhs; whnf
  have eb11 : lawS 11 = lawS 11 := rfl
  conv at eb11 => rhs; whnf
  unfold lawA lawEnv
  rw [es, eb10, eb11]
  clear es eb10 eb11
  k_steps
  dsimp only
  rename Fr _ _ _ _ => fF
  rename News _ _ _ _ => nN
  exact K _ _ _ _ fF (news_sub nN (by lcg_sub))
end
section
local macro_rules | `(tactic| walk_at "call ref") => `(tactic| (k_here; k_dflt (refine' line_use false ?B ?F ?X ?T ?hk ?hd ?hu ?N ?ma ?mb ?md ?x1 ?x2 ?x3 ?y1 ?y2 ?y3 ?z1 ?z2 ?z3 ?hr ?_; walk_at "MY ctxA"; walk_at "MY mab"; (case md => k_mem); (case hr => decide); walk_at "MY xy"; walk_at "MY zz"; intro h' tk' F' N'); (try dsimp only); (try k_sweep)))
local macro_rules | `(tactic| walk_at "call ref") => `(tactic| (k_here; k_dflt (refine' sum_use 5 100 ?B ?F ?X ?T ?hk ?hd ?hu ?N ?ma ?mb ?hp ?hq ?hB ?hC ?x1 ?x2 ?x3 ?y1 ?y2 ?y3 ?_; walk_at "MY sumc"); intro D' h' tk' z1' z2' z3' v1' v2' v3' j' F' N' l1 e1' e2' e3' b1' b2' b3'; clear b1' b2' b3'; (try simp only [AllLt, and_true] at l1); (try simp only [Int.reduceMul, Int.reduceSub, Int.reduceAdd, Int.reduceNeg] at e1'); subst e1'; (try simp only [Int.reduceMul, Int.reduceSub, Int.reduceAdd, Int.reduceNeg] at e2'); subst e2'; (try simp only [Int.reduceMul, Int.reduceSub, Int.reduceAdd, Int.reduceNeg] at e3'); subst e3'; (try dsimp only); (try k_sweep)))
local macro_rules | `(tactic| walk_at "call ref") => `(tactic| (k_here; k_dflt (refine' across_use ?B ?F ?X ?T ?hk ?hd ?hu ?N ?ma ?mb ?x1 ?x2 ?x3 ?y1 ?y2 ?y3 ?_; walk_at "MY ctxB"; walk_at "MY mab"; walk_at "MY xy"); intro D' h' tk' z1' z2' z3' v1' v2' v3' j' F' N' l1 e1' e2' e3' b1' b2' b3'; clear b1' b2' b3'; (try simp only [AllLt, and_true] at l1); (try simp only [Int.reduceMul, Int.reduceSub, Int.reduceAdd, Int.reduceNeg] at e1'); subst e1'; (try simp only [Int.reduceMul, Int.reduceSub, Int.reduceAdd, Int.reduceNeg] at e2'); subst e2'; (try simp only [Int.reduceMul, Int.reduceSub, Int.reduceAdd, Int.reduceNeg] at e3'); subst e3'; (try dsimp only); (try k_sweep)))
local macro_rules | `(tactic| walk_at "execs cons") => `(tactic| (k_here; k_dflt (refine wp_toks ?_); intro tk'; (try dsimp only); refine wpAny_execs_cons ?_))
local macro_rules | `(tactic| walk_at "CompRestP") => `(tactic| (with_unfolding_all first
  | (refine LCp.CompRestP.succ ?_; intro v' hv'; lcg_open hv'; refine ⟨_, _, _, _, _, rfl, by k_mem, rfl, rfl, ?_⟩; intro I' oI' C' oC' D' m' h' tk' E' hC' hx' hy' F' N' off' ne'; clear ne')
  | refine LCp.CompRestP.zero ?_))
local macro_rules | `(tactic| walk_at "subscriptTail Name Constant ref int") => `(tactic| (k_here; k_dflt (refine' item_list ?l ?a ?b ?c ?_ ?s ?g; (case l => exact News.isList (by k_asm) (by k_mem)); (case a => decide); (case b => decide); (case c => first | exact (rfl : _ = some (Value.int _ _)) | exact (rfl : _ = some (Value.ref _))); (case s => with_unfolding_all rfl); (case g => (intro _; with_unfolding_all rfl)))))

theorem seg4c {as : Nat} {g1 g2 g3 : Tok} {c1 c2 c3 c4 c5 c6 c7 c8 : Obj} {v7 v8 : Option Value} {rest : List Stmt} {t : Sem Flow} (ht : execs (lawS 12 :: lawS 13 :: lawS 14 :: lawS 15 :: rest) (lawEnv L fa ccd) = t) {Q : Flow → Shared → Prop} (B : Below callerA h₀ [] h₀) (F : Fr h₀ L s.heap m) (X : (hd.heap_39 w.params).In h₀) (T : Top hd.view_39 (looseW hd.view_39 [Str.ofString "insort_left", Str.ofString "bisect_left"]) mean mg mb h₀)
    (N : News h₀ L s.heap [(as, { cls := .type "tuple", data := .seq #[.int 1 g1, .int 2 g2, .int 3 g3] }), (L + 1 + 1 + 1 + 1 + 1 + 1 + 1 + 1, c8), (L + 1 + 1 + 1 + 1 + 1 + 1 + 1, c7), (L + 1 + 1 + 1 + 1 + 1 + 1, c6), (L + 1 + 1 + 1 + 1 + 1, c5), (L + 1 + 1 + 1 + 1, c4), (L + 1 + 1 + 1, c3), (L + 1 + 1, c2), (L + 1, c1)])
    (d2 : c2.data = .cell (some (.ref as))) (d7 : c7.data = .cell v7) (d8 : c8.data = .cell v8)
    (K : ∀ h tk m', Fr h₀ L h m' → Q (.ret (.bool true)) { s with heap := h, toks := tk }) :
    wpAny (model pw w) (lawA L fa ccd) t Q (fun _ _ => False) s := by
  subst ht
  have es : lawScope = lawScope := rfl
  conv at es => rhs; whnf
  have eb12 : lawS 12 = lawS 12 := rfl
  conv at eb12 => rhs; whnf
  have eb13 : lawS 13 = lawS 13 := rfl
  conv at eb13 => rhs; whnf
  have eb14 : lawS 14 = lawS 14 := rfl
  conv at eb14 => rhs; whnf
  have eb15 : lawS 15 = lawS 15 := rfl
  conv at eb15 => rhs; whnf
  unfold lawA lawEnv
  rw [es, eb12, eb13, eb14, eb15]
  clear es eb12 eb13 eb14 eb15
  k_steps
  rename Fr _ _ _ _ => fF
  exact K _ _ _ fF
end

theorem law_tail {an as at' a0 a1 a2 kn kt : Nat} {n0 n1 n2 n3 n4 n5 n6 n7 n8 n9 n10 n11 : Int} {k0 k1 k2 k3 k4 k5 k6 k7 k8 j0 j1 j2 j3 j4 j5 j6 j7 j8 j9 j10 j11 g1 g2 g3 : Tok} {c1 c2 c3 c4 c5 c6 c7 c8 : Obj} {v4 v5 v6 v7 v8 : Option Value} {rest : List Stmt} {Q : Flow → Shared → Prop} (B : Below callerA h₀ [] h₀) (F : Fr h₀ L s.heap m) (X : (hd.heap_39 w.params).In h₀) (T : Top hd.view_39 (looseW hd.view_39 [Str.ofString "insort_left", Str.ofString "bisect_left"]) mean mg mb h₀)
    (N : News h₀ L s.heap [(at', W.listOf #[.ref a0, .ref a1, .ref a2] kt), (a0, { cls := .type "tuple", data := .seq #[.int n0 k0, .int n1 k1, .int n2 k2] }), (a1, { cls := .type "tuple", data := .seq #[.int n3 k3, .int n4 k4, .int n5 k5] }), (a2, { cls := .type "tuple", data := .seq #[.int n6 k6, .int n7 k7, .int n8 k8] }), (as, { cls := .type "tuple", data := .seq #[.int 1 g1, .int 2 g2, .int 3 g3] }), (an, W.listOf #[.int n0 j0, .int n1 j1, .int n2 j2, .int n3 j3, .int n4 j4, .int n5 j5, .int n6 j6, .int n7 j7, .int n8 j8, .int n9 j9, .int n10 j10, .int n11 j11] kn), (L + 1 + 1 + 1 + 1 + 1 + 1 + 1 + 1, c8), (L + 1 + 1 + 1 + 1 + 1 + 1 + 1, c7), (L + 1 + 1 + 1 + 1 + 1 + 1, c6), (L + 1 + 1 + 1 + 1 + 1, c5), (L + 1 + 1 + 1 + 1, c4), (L + 1 + 1 + 1, c3), (L + 1 + 1, c2), (L + 1, c1)])
    (d1 : c1.data = .cell (some (.ref an))) (d2 : c2.data = .cell (some (.ref as))) (d3 : c3.data = .cell (some (.ref at'))) (d4 : c4.data = .cell v4) (d5 : c5.data = .cell v5) (d6 : c6.data = .cell v6) (d7 : c7.data = .cell v7) (d8 : c8.data = .cell v8) (b0 : Bd 5 n0) (b1 : Bd 5 n1) (b2 : Bd 5 n2) (b3 : Bd 5 n3) (b4 : Bd 5 n4) (b5 : Bd 5 n5) (b6 : Bd 5 n6) (b7 : Bd 5 n7) (b8 : Bd 5 n8) (b9 : Bd 5 n9) (b10 : Bd 5 n10) (b11 : Bd 5 n11)
    (K : ∀ h tk m', Fr h₀ L h m' → Q (.ret (.bool true)) { s with heap := h, toks := tk }) :
    wpAny (model pw w) (lawA L fa ccd) (execs (lawS 3 :: lawS 4 :: lawS 5 :: lawS 6 :: lawS 7 :: lawS 8 :: lawS 9 :: lawS 10 :: lawS 11 :: lawS 12 :: lawS 13 :: lawS 14 :: lawS 15 :: rest) (lawEnv L fa ccd)) Q (fun _ _ => False) s := by
  refine seg1 B F X T N d3 d4 ?_
  intro h1 tk1 m1 e4 w4 F1 N1 d4'
  refine seg2 B F1 X T N1 d1 d2 d3 b0 b1 b2 b3 b4 b5 b6 b7 b8 b9 b10 b11 ?_
  intro h2 tk2 m2 ao o0 o1 o2 ko qo0 qo1 qo2 x1 x2 x3 y1 y2 y3 z1 z2 z3 tx1 tx2 tx3 ty1 ty2 ty3 tz1 tz2 tz3 F2 N2 he0 he1 he2 he3 he4 he5 he6 he7 he8 hb0 hb1 hb2 hb3 hb4 hb5 hb6 hb7 hb8
  refine seg3 B F2 X T N2 d1 d3 d5 b0 b1 b2 b3 b4 b5 b6 b7 b8 b9 b10 b11 he0 he1 he2 he3 he4 he5 he6 he7 he8 hb0 hb1 hb2 hb3 hb4 hb5 hb6 hb7 hb8 ?_
  intro h3 tk3 m3 e5 am p0 p1 p2 km qp0 qp1 qp2 u1 u2 u3 v1 v2 v3 r1 r2 r3 tu1 tu2 tu3 tv1 tv2 tv3 tw1 tw2 tw3 F3 N3 d5' me0 me1 me2 me3 me4 me5 me6 me7 me8 mb0 mb1 mb2 mb3 mb4 mb5 mb6 mb7 mb8
  refine seg4a B F3 X T N3 d5' me0 me1 me2 me3 me4 me5 me6 me7 me8 mb0 mb1 mb2 mb3 mb4 mb5 mb6 mb7 mb8 ?_
  intro h4 tk4 m4 F4 N4
  refine seg4b B F4 X T N4 d5' d6 me0 me1 me2 me3 me4 me5 me6 me7 me8 mb0 mb1 mb2 mb3 mb4 mb5 mb6 mb7 mb8 ?_
  intro h5 tk5 m5 e6 F5 N5
  generalize ht : execs (lawS 12 :: _) _ = t
  refine seg4c ht B F5 X T N5 d2 d7 d8 ?_
  intro h6 tk6 m6 F6
  exact K h6 tk6 m6 F6

theorem tail_ok : TailS := by
  intro w fa ccd h₀ L m mg mb mean s an as at' a0 a1 a2 kn kt n0 n1 n2 n3 n4 n5 n6 n7 n8 n9 n10 n11 k0 k1 k2 k3 k4 k5 k6 k7 k8 j0 j1 j2 j3 j4 j5 j6 j7 j8 j9 j10 j11 g1 g2 g3 c1 c2 c3 c4 c5 c6 c7 c8 v4 v5 v6 v7 v8 rest Q B F X T N d1 d2 d3 d4 d5 d6 d7 d8 b0 b1 b2 b3 b4 b5 b6 b7 b8 b9 b10 b11 K
  exact law_tail B F X T N d1 d2 d3 d4 d5 d6 d7 d8 b0 b1 b2 b3 b4 b5 b6 b7 b8 b9 b10 b11 K
end
end Mine
theorem PySem.Challenge.cw_he0003_01_holds : PySem.Challenge.rw_he0003_01.Holds := by
  exact Mine.fin Mine.tail_ok
