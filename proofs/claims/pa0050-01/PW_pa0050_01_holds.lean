import PyProof.Rows.All
import Wide.All
import OpenK.AllK
import Wide.FinOn
import Lean
import PySem.Challenge.RW_pa0050_01
set_option Elab.async false
set_option maxRecDepth 100000
set_option rowWalk.seconds 0

section -- HeadA
open PySem PySem.W PyProof.Rows
set_option maxHeartbeats 8000000
namespace Mine
theorem said_q {l : OpenLaw} (h : Fast.tw9446332074065402090 l = true) : l.wellSaid = true := by
  rw [Fast.te9446332074065402090]; exact h
theorem law_said : PySem.Challenge.rw_pa0050_01.wellSaid = true := by
  refine said_q ?_
  unfold Fast.tw9446332074065402090 Fast.tw17960256430627541270 Fast.tw2436336058641802641 Fast.tw12908688711261696721
  repeat' (with_reducible refine look_both ?_ ?_)
  all_goals (as_aux_lemma => kernel_rfl)
local macro_rules | `(tactic| o_law) => `(tactic| refine holds_law law_said fun said => ?_)
/- the top: one check of the library's twins -/
local macro_rules
  | `(tactic| refine $e) =>
    if e.raw.getKind == `Lean.Parser.Term.app && e.raw[0].getId == `PySem.W.holds_open then
      `(tactic| (refine' $e; (case hl => (intro w; unfold openEnds fencedOpening topFrom; rw [Fast.te10274390034422433532, Fast.te14364793385576792824, Fast.te1435165496053646825, Fast.te14289696077712309145, Fast.te14082659384304107361, Fast.te5923862056798008813, Fast.te4187177175401517315]; kernel_rfl))))
    else Lean.Macro.throwUnsupported
open_top hd for PySem.Challenge.rw_pa0050_01
end Mine
end

section -- FwA
open PySem PySem.W PySem.Spec PySem.Calls PyProof.Rows
namespace Mine
/-- the head leaves the walker's word for the top on: off again -/
theorem quiet : True := by
  w_top off
  exact trivial

noncomputable def Filled (_ : OpenLaw) (_ : Params → Frag) (G : Prop) : Prop := G
theorem fill_at {G : Prop} (h : Filled PySem.Challenge.rw_pa0050_01 hd.heap_1 G) : G := h

/-- a contract of a def of the text: address, arguments, depth that it wants, what must hold of the ledger, what holds behind -/
noncomputable def Spec (prog : Program) (w : World) (p : Program) (loose : List Str) (mean : ExcName → Option Value) (mg mb : Str → Option Value)
    (f : Addr) (args : List Value) (need : Nat) (news : List (Addr × Obj)) (Post : Value → List (Addr × Obj) → Prop) : Prop :=
  ∀ (dp un : Nat) (gd : Option (List Code)) (cn : Str) (cs : Scope) (a : Addr) (ccd : Value) (cl : List (Str × Addr)) (outer : List Env) (A₀ : Around) (base h₀ : Heap) (L : Addr) (m : Str → Option Value) (s : Shared)
    (Q E : Value → Shared → Prop),
    Below A₀ base outer h₀ → Fr h₀ L s.heap m → Frag.In (hd.heap_1 w.params) h₀ → News h₀ L s.heap news → Top p loose mean mg mb h₀ → cs.kind = .function → dp + need < recursionLimit → un + 40 * need < cLine →
    (∀ r news' h' tk', Fr h₀ L h' m → News h₀ L h' news' → Post r news' → Q r { s with heap := h', toks := tk' }) →
    wpAny (model prog w) (ktrTop dp un gd cn cs L a ccd cl outer) (call (.ref f) args) Q E s
/-- a turn's end -/
noncomputable def FEnd {σ : Type} (h₀ : Heap) (L : Addr) (s : Shared) (Led : σ → List (Addr × Obj)) (ps : σ → List (Str × Value)) (x : Str) (stored : List Str) (m₀ : Str → Option Value) (P : σ → Prop) (own : List (Addr × Obj)) (s₂ : Shared) : Prop :=
  ∃ (c : σ) (h' : Heap) (tk : Nat) (m' : Str → Option Value) (news' : List (Addr × Obj)), s₂ = { s with heap := h', toks := tk } ∧ Fr h₀ L h' m' ∧ News h₀ L h' news' ∧ (∀ p ∈ Led c, p ∈ news') ∧ (∀ p ∈ own, p ∈ news') ∧ OwnOff own ((Led c).map (·.1)) ∧
    (∀ p ∈ ps c, m' p.1 = some p.2) ∧ (∀ z, z ≠ x → (∀ p ∈ ps c, z ≠ p.1) → stored.contains z = false → m' z = m₀ z) ∧ P c
noncomputable def FPost {σ : Type} (h₀ : Heap) (L : Addr) (s : Shared) (Led : σ → List (Addr × Obj)) (ps : σ → List (Str × Value)) (x : Str) (stored : List Str) (m₀ : Str → Option Value) (P : σ → Prop) (own : List (Addr × Obj)) (Q : Flow → Shared → Prop) (f : Flow) (s₂ : Shared) : Prop :=
  match f with
  | .ret v => Q (.ret v) s₂
  | .brk => Q .next s₂
  | _ => FEnd h₀ L s Led ps x stored m₀ P own s₂
/-- what holds behind an element -/
noncomputable def ElPost (h₀ : Heap) (L : Addr) (m : Str → Option Value) (s : Shared) (K news0 : List (Addr × Obj)) (J : List Value → List (Addr × Obj) → Prop) (ys : List Value) (y : Value) (s₂ : Shared) : Prop :=
  ∃ h' tk tl', s₂ = { s with heap := h', toks := tk } ∧ Fr h₀ L h' m ∧ News h₀ L h' (K ++ (tl' ++ news0)) ∧ (∀ p ∈ tl', ∀ q ∈ K, p.1 ≠ q.1) ∧ J (ys ++ [y]) tl'
noncomputable def Mid (P : Heap → Prop) (s : Shared) (f : Flow) (s' : Shared) : Prop := f = .next ∧ ∃ h tk, s' = { s with heap := h, toks := tk } ∧ P h
/-- what stands behind a statement, hidden behind a letter -/
structure Thru {α : Type} (K Q : α → Shared → Prop) : Prop where
  h : ∀ v s, K v s → Q v s
theorem Thru.use {α : Type} {K Q : α → Shared → Prop} (t : Thru K Q) {v : α} {s : Shared} (h : K v s) : Q v s := t.h v s h
theorem hide_cons {M : Model} {A : Around} {env : Env} {E : Value → Shared → Prop} {st : Stmt} {rest : List Stmt} {Q : Flow → Shared → Prop} {h : Heap} {g : Array GenState} {d : Drawn} {t : Nat} {o : OsState}
    (H : ∀ (Q' : Flow → Shared → Prop) (tk : Nat), Thru (fun f s' => match f with | .next => wpAny M A (execs rest env) Q E s' | f => Q f s') Q' → wpAny M A (exec st env) Q' E ⟨h, g, d, tk, o⟩) : wpAny M A (execs (st :: rest) env) Q E ⟨h, g, d, t, o⟩ :=
  wpAny_execs_cons (H _ t ⟨fun _ _ h => h⟩)
/-- a frame's map behind a letter -/
theorem let_fr {β : Type} {M : Model} {A : Around} {E : Value → Shared → Prop} {e : Sem β} {Q : β → Shared → Prop} {h₀ h : Heap} {g : Array GenState} {d : Drawn} {t : Nat} {o : OsState} {L : Addr} {m : Str → Option Value} {x : Str} {v : Option Value}
    (F : Fr h₀ L h (fun y => if y = x then v else m y)) (H : let m' := (fun y => if y = x then v else m y); Fr h₀ L h m' → wpAny M A e Q E ⟨h, g, d, t, o⟩) : wpAny M A e Q E ⟨h, g, d, t, o⟩ := H F
end Mine
end

section -- TupLt
open PySem PySem.W PySem.Spec PySem.Calls PyProof.Rows
namespace Mine
section
variable {prog : Program} {w : World} {A : Around} {E : Value → Shared → Prop} {s : Shared}
noncomputable abbrev tupO (vs : List Value) (n : Nat) : Obj := { cls := .type "tuple", data := .seq vs.toArray n }
noncomputable def lex2 (x y : Int × Int) : Bool := decide (x.1 < y.1 ∨ (x.1 = y.1 ∧ x.2 < y.2))
theorem tup2_lt_tree {a b : Addr} {c1 m1 c2 m2 : Int} {t1 u1 t2 u2 : Tok} {n1 n2 : Nat} {P : Fin → Shared → Prop}
    (ha : s.heap.get? a = some (tupO [.int c1 t1, .int m1 u1] n1)) (hb : s.heap.get? b = some (tupO [.int c2 t2, .int m2 u2] n2))
    (h : P (.done (.ret (.bool (lex2 (c1, m1) (c2, m2))))) s) :
    wpAny (model prog w) A (Builtin.«tuple.__lt__» ⟨[.ref a, .ref b], []⟩) P E s := by
  have hTb : s.TypeIs (.ref b) "tuple" := ⟨_, hb, rfl⟩
  show wpAny _ _ (isInstance (.ref b) (.type "tuple") >>= _) _ _ s
  refine wpAny_bind (wpAny_isInstance hTb isSubtype_tuple_tuple ?_)
  simp only [Bool.not_true, Bool.false_eq_true, if_false]
  refine wpAny_bind (wpAny_tupleItemsOf ha rfl ?_)
  refine wpAny_bind (wpAny_tupleItemsOf hb rfl ?_)
  refine wpAny_bind ?_
  simp only [List.zip_cons_cons, List.zip_nil_right, List.forIn_cons, List.forIn_nil]
  refine wpAny_bind (wpAny_bind (wpAny_eqBool_int ?_))
  by_cases hc : c1 = c2
  · subst hc
    rw [beq_self_eq_true]
    simp only [Bool.not_true, Bool.false_eq_true, if_false]
    refine wpAny_pure ?_
    simp only
    refine wpAny_bind (wpAny_bind (wpAny_eqBool_int ?_))
    by_cases hm : m1 = m2
    · subst hm
      rw [beq_self_eq_true]
      simp only [Bool.not_true, Bool.false_eq_true, if_false]
      refine wpAny_pure ?_
      simp only
      refine wpAny_pure ?_
      have e : lex2 (c1, m1) (c1, m1) = false := by simp [lex2]
      rw [e] at h
      exact wpAny_pure h
    · rw [beq_eq_false_iff_ne.mpr hm]
      simp only [Bool.not_false, if_true]
      refine wpAny_bind (wpAny_rule (wpAny_bind (m := richCompare .Lt _ _) (lt_int ?_)))
      have e : lex2 (c1, m1) (c1, m2) = decide (m1 < m2) := by simp [lex2]
      rw [e] at h
      exact wpAny_bind (wpAny_pure (wpAny_pure (wpAny_pure (wpAny_pure h))))
  · rw [beq_eq_false_iff_ne.mpr hc]
    simp only [Bool.not_false, if_true]
    refine wpAny_bind (wpAny_rule (wpAny_bind (m := richCompare .Lt _ _) (lt_int ?_)))
    have e : lex2 (c1, m1) (c2, m2) = decide (c1 < c2) := by simp [lex2, hc]
    rw [e] at h
    exact wpAny_bind (wpAny_pure (wpAny_pure (wpAny_pure (wpAny_pure h))))
theorem tup2_lt {a b : Addr} {c1 m1 c2 m2 : Int} {t1 u1 t2 u2 : Tok} {n1 n2 : Nat} {Q : Value → Shared → Prop}
    (ha : s.heap.get? a = some (tupO [.int c1 t1, .int m1 u1] n1)) (hb : s.heap.get? b = some (tupO [.int c2 t2, .int m2 u2] n2)) (hu : A.units < cLine)
    (h : Q (.bool (lex2 (c1, m1) (c2, m2))) s) : wpAny (model prog w) A (compareOp .Lt (.ref a) (.ref b)) Q E s :=
  cmp_ofLt (wpAny_richCompare_same_room (op := .Lt) ⟨_, ha, rfl⟩ ⟨_, hb, rfl⟩ F.slot_tuple_lt
      (wpAny_call_entry F.slot_tuple_lt ⟨_, ha, rfl⟩ F.entry_tuple_lt (tup2_lt_tree ha hb ⟨_, rfl, (fun e => nomatch e), h⟩) (F.args_tuple_lt_2 _ _)) hu)
end
end Mine
end

section -- the walks
open PySem PySem.W PySem.Spec PySem.Calls PyProof.Rows Mine
set_option compiler.extract_closed false
local macro_rules | `(tactic| walk_at "stopA") => `(tactic| fail_if_success with_reducible first | show wpAny _ _ (exec (Stmt.While _ _ _ _) _) _ _ _ | show wpAny _ _ (exec (Stmt.For _ _ _ _ _) _) _ _ _ | show wpAny _ _ (subscriptTail _ _ (Value.ref _) _) _ _ _ | show wpAny _ _ (setItem (Value.ref _) _ _) _ _ _ | show wpAny _ _ (compareOp CmpOp.Lt (Value.ref _) (Value.ref _)) _ _ _ | show wpAny _ _ (call (Value.ref _) _ _) _ _ _ | show wpAny _ _ (call (Value.builtin _) (Value.ref _ :: _) _) _ _ _ | show wpAny _ _ (truthy (Value.ref _)) _ _ _ | show KswEnd _ _ _ _ _ _ _ _ _ _ _ _)
local macro_rules | `(tactic| walk_at "stopB") => `(tactic| fail_if_success with_reducible first | show wpAny _ _ (getItem (Value.ref _) _) _ _ _ | show wpAny _ _ (compareOp CmpOp.NotIn _ (Value.ref _)) _ _ _ | show wpAny _ _ (compareOp CmpOp.Eq (Value.ref _) _) _ _ _ | show wpAny _ _ (eval (Expr.Dict _ _ _) _) _ _ _ | show wpAny _ _ (newTuple _) _ _ _ | show wpAny _ _ (pyIter _) _ _ _ | show wpAny _ _ (newList _) _ _ _ | show FEnd _ _ _ _ _ _ _ _ _ _ _)
local macro_rules | `(tactic| walk_at "stopC") => `(tactic| fail_if_success with_reducible first | show wpAny _ _ (call (Value.type "range") _ _) _ _ _ | show wpAny _ _ (call (Value.builtin "bytes.maketrans") _ _) _ _ _ | show wpAny _ _ (call (Value.builtin "bytes.translate") _ _) _ _ _ | show wpAny _ _ (call (Value.builtin "str.encode") _ _) _ _ _ | show wpAny _ _ (getMethod (Value.bytes _ _) _ _) _ _ _ | show wpAny _ _ (getMethod (Value.type _) _ _) _ _ _ | show wpAny _ _ (assign (Expr.Tuple _ _ _) _ _) _ _ _ | show wpAny _ _ (call (Value.type _) (Value.ref _ :: _) _) _ _ _ | show Mid _ _ _ _ | show wpAny _ _ (binaryOp Operator.Mult _ _) _ _ _ | show wpAny _ _ (binaryOp Operator.Add (Value.str _ _) _) _ _ _ | show wpAny _ _ (eval (Expr.ListComp _ _ _ _) _) _ _ _ | show wpAny _ _ (exec (Stmt.Assign _ (Expr.ListComp _ _ _ _) _) _) _ _ _ | show wpAny _ _ (compareOp CmpOp.In _ (Value.ref _)) _ _ _ | show ElPost _ _ _ _ _ _ _ _ _ _ | show wpAny _ _ (eval (Expr.IfExp _ _ _ _) _) _ _ _)
local macro_rules | `(tactic| walk_at "go") => `(tactic| (first | walk1 | (dsimp only; walk1)))
local macro_rules | `(tactic| walk_at "hide") => `(tactic| ((with_reducible refine hide_cons ?_); intro _ _ _; (try dsimp only); (try ((with_reducible refine let_fr (by assumption) ?_); intro _ _))))
local macro_rules | `(tactic| walk_at "thru") => `(tactic| ((with_reducible refine Thru.use (by assumption) ?_); (try dsimp only)))
local macro_rules | `(tactic| walk_at "stopE") => `(tactic| fail_if_success (with_reducible show wpAny _ _ (compareOp _ (Value.int _ _) (Value.int _ _)) _ _ _))
local macro_rules | `(tactic| walk_at "stopI") => `(tactic| fail_if_success (with_reducible show wpAny _ _ (exec (Stmt.If _ _ _ _) _) _ _ _))
local macro_rules | `(tactic| walk_at "step") => `(tactic| first | (k_unfold; (try dsimp only)) | walk_at "hide")
local macro_rules | `(tactic| walk_at "mineA") => `(tactic| repeat' (first | walk_at "step" | (walk_at "stopA"; walk_at "go") | walk_at "thru" | fail "no step"))
local macro_rules | `(tactic| walk_at "mineB") => `(tactic| repeat' (first | walk_at "step" | (walk_at "stopA"; walk_at "stopB"; walk_at "go") | walk_at "thru" | fail "no step"))
local macro_rules | `(tactic| walk_at "mineBE") => `(tactic| repeat' (first | walk_at "step" | (walk_at "stopA"; walk_at "stopB"; walk_at "stopE"; walk_at "go") | walk_at "thru" | fail "no step"))
local macro_rules | `(tactic| walk_at "mineBI") => `(tactic| repeat' (first | walk_at "step" | (walk_at "stopA"; walk_at "stopB"; walk_at "stopI"; walk_at "go") | walk_at "thru" | fail "no step"))
local macro_rules | `(tactic| walk_at "mine") => `(tactic| repeat' (first | walk_at "step" | (walk_at "stopA"; walk_at "stopB"; walk_at "stopC"; walk_at "go") | walk_at "thru" | fail "no step"))
local macro_rules | `(tactic| walk_at "mineE") => `(tactic| repeat' (first | walk_at "step" | (walk_at "stopA"; walk_at "stopB"; walk_at "stopC"; walk_at "stopE"; walk_at "go") | walk_at "thru" | fail "no step"))
local macro_rules | `(tactic| walk_at "mineI") => `(tactic| repeat' (first | walk_at "step" | (walk_at "stopA"; walk_at "stopB"; walk_at "stopC"; walk_at "stopI"; walk_at "go") | walk_at "thru" | fail "no step"))
local macro_rules | `(tactic| walk_at "mineO") => `(tactic| repeat' (first | (k_unfold; (try dsimp only)) | (walk_at "stopA"; walk_at "stopB"; walk_at "stopC"; walk_at "go") | fail "no step"))
local macro_rules | `(tactic| walk_at "FPost") => `(tactic| (dsimp only [FPost]))
local macro_rules | `(tactic| walk_at "use") => `(tactic| ((case sB => assumption); (case sF => assumption); (case sX => assumption); (case sN => assumption); (case sT => assumption); (case sK => rfl)))
local macro_rules | `(tactic| k_qdec) => `(tactic| first | (rw [Fast.te17448422675489707002]; kernel_rfl) | (rw [Fast.te2458874890965802552]; kernel_rfl))

section -- HeapA
open PySem PySem.W PySem.Spec PySem.Calls PyProof.Rows
set_option maxHeartbeats 8000000
namespace Mine
noncomputable abbrev pd (x : Int × Int) : Dat := .tuple [.int x.1, .int x.2]
theorem pd_ref {tl : List (Addr × Obj)} {v : Value} {x : Int × Int} (h : DatIn tl v (pd x)) : ∃ a t u n, v = .ref a ∧ (a, tupO [.int x.1 t, .int x.2 u] n) ∈ tl := by
  cases h with
  | tuple hm hr =>
    cases hr with
    | cons h1 hr =>
      cases hr with
      | cons h2 hr =>
        cases hr
        cases h1
        cases h2
        exact ⟨_, _, _, _, rfl, hm⟩
theorem datAll_set {tl : List (Addr × Obj)} {v : Value} {d : Dat} (hv : DatIn tl v d) : ∀ {vs : List Value} {ds : List Dat} (k : Nat), DatAll tl vs ds → DatAll tl (vs.set k v) (ds.set k d)
  | _, _, _, .nil => .nil
  | _, _, 0, .cons _ r => .cons hv r
  | _, _, k + 1, .cons h r => .cons h (datAll_set hv k r)
section
variable {prog : Program} {w : World} {A : Around} {E : Value → Shared → Prop} {s : Shared} {h₀ : Heap} {L l : Addr} {m : Str → Option Value} {news rest tl : List (Addr × Obj)} {vs : List Value} {n : Nat} {hs : List (Int × Int)} {k : Int} {u : Tok}
theorem item_l {value slice : PySem.Expr} {x : Int × Int} {Q : Value → Shared → Prop} (N : News h₀ L s.heap ((l, listOf vs.toArray n) :: rest)) (hD : DatAll tl vs (hs.map pd)) (h0 : 0 ≤ k) (hx : hs[k.toNat]? = some x) (hfit : k < 2 ^ 63)
    (h : ∀ a t u n, (a, tupO [.int x.1 t, .int x.2 u] n) ∈ tl → Q (.ref a) s)
    (hs : subscripted slice false (.ref l) (.int k u) = operate [.ref l, .int k u] (getItem (.ref l) (.int k u)) := by with_unfolding_all rfl) :
    wpAny (model prog w) A (subscriptTail value slice (.ref l) (.int k u)) Q E s := by
  have hk := (List.getElem?_eq_some_iff.mp hx).1
  refine kd_item N (.head _) hD h0 (by rw [List.length_map]; omega) hfit (fun v d hd _ hv => ?_) hs
  rw [List.getElem?_map, hx] at hd
  cases hd
  obtain ⟨a, t, u, n, rfl, hm⟩ := pd_ref hv
  exact h a t u n hm
theorem set_l {v : Value} {Q : Unit → Shared → Prop} (F : Fr h₀ L s.heap m) (N : News h₀ L s.heap ((l, listOf vs.toArray n) :: rest)) (hr : ∀ p ∈ rest, p.1 ≠ l) (h0 : 0 ≤ k) (h1 : k < (vs.length : Int)) (hfit : k < 2 ^ 63)
    (h : ∀ h', Fr h₀ L h' m → News h₀ L h' ((l, listOf (vs.set k.toNat v).toArray n) :: rest) → Q () { s with heap := h' }) :
    wpAny (model prog w) A (setItem (.ref l) (.int k u) v) Q E s := by
  have z := N (l, listOf vs.toArray n) (.head _)
  refine ki_setAt z.1 h0 hfit (by rw [List.size_toArray]; exact h1) (h _ (F.change (Heap.SameBut.update ..) z.2.1 z.2.2) (ki_turn (pre := []) _ N (fun _ h => nomatch h) hr ?_ ?_))
  · show vs.toArray.setIfInBounds k.toNat v = (vs.set k.toNat v).toArray
    apply Array.toList_inj.mp
    simp
  · simp
theorem lt_l {a b : Addr} {x y : Int × Int} {t1 u1 t2 u2 : Tok} {n1 n2 : Nat} {Q : Value → Shared → Prop} (N : News h₀ L s.heap news) (ha : (a, tupO [.int x.1 t1, .int x.2 u1] n1) ∈ news) (hb : (b, tupO [.int y.1 t2, .int y.2 u2] n2) ∈ news) (hu : A.units < cLine)
    (h : Q (.bool (lex2 x y)) s) : wpAny (model prog w) A (compareOp .Lt (.ref a) (.ref b)) Q E s := tup2_lt (N _ ha).1 (N _ hb).1 hu h
end
inductive SD (x : Int × Int) : List (Int × Int) → Nat → List (Int × Int) → Prop
  | zero {hs} : SD x hs 0 (hs.set 0 x)
  | stop {hs pos par} : 0 < pos → hs[(pos - 1) / 2]? = some par → lex2 x par = false → SD x hs pos (hs.set pos x)
  | step {hs pos par r} : 0 < pos → hs[(pos - 1) / 2]? = some par → lex2 x par = true → SD x (hs.set pos par) ((pos - 1) / 2) r → SD x hs pos r


variable {prog : Program} {w : World} {p : Program} {loose : List Str} {mean : ExcName → Option Value} {mg mb : Str → Option Value}
structure SdSt where
  vs : List Value
  n : Nat
  hs : List (Int × Int)
  pos : Nat
  t : Tok
theorem half_fdiv {k : Nat} (h : 0 < k) : ((k : Int) - 1).fdiv (2 ^ Int.toNat 1) = (((k - 1) / 2 : Nat) : Int) := by
  have e : (2 : Int) ^ Int.toNat 1 = 2 := rfl
  rw [e, Int.fdiv_eq_ediv_of_nonneg _ (by omega)]
  omega
theorem siftdown_spec (l : Addr) (vs : List Value) (n : Nat) (rest tl : List (Addr × Obj)) (hs : List (Int × Int)) (pos : Nat) (x : Int × Int) (t0 t1 : Tok)
   (hrest : ∀ p ∈ rest, p.1 ≠ l) (htl : ∀ p ∈ tl, p ∈ rest) (hD : DatAll tl vs (hs.map pd)) (hx : hs[pos]? = some x) (hsz : hs.length < 100000) :
   Spec prog w p loose mean mg mb 42 [.ref l, .int 0 t0, .int pos t1] 1 ((l, listOf vs.toArray n) :: rest) (fun r news' => r = .none ∧ ∃ vs' n' hs', news' = (l, listOf vs'.toArray n') :: rest ∧ DatAll tl vs' (hs'.map pd) ∧ SD x hs pos hs') := by
  refine fill_at ?_
  k_fill
  unfold Filled Spec
  intro dp un gd cn cs a ccd cl outer A₀ base h₀ L m s Q E B F X N T hk hd hu hret
  refine wpAny_call ?_
  k_dflt ktr_enter
  rename_i g' L' h' FG' F' N' B' X' T'
  replace F' : Fr g' L' h' (fun y => List.lookup y [(Str.ofString "pos", .int pos t1), (Str.ofString "startpos", .int 0 t0), (Str.ofString "heap", .ref l)]) := F'
  walk_at "mineA"
  have hps : pos < hs.length := (List.getElem?_eq_some_iff.mp hx).1
  refine item_l (by assumption) hD (by omega) (x := x) (by simpa using hx) (by omega) ?_
  intro ax tx ux nx hax
  have hxi : DatIn tl (.ref ax) (pd x) := .tuple hax (.cons (.int _ _) (.cons (.int _ _) .nil))
  walk_at "mineA"
  (rename Fr _ _ _ _ => F')
  (rename News _ _ _ _ => N')
  refine ksw_while (fun c : SdSt => (l, listOf c.vs.toArray c.n) :: rest) (fun c => [(Str.ofString "pos", .int c.pos c.t)]) (fun _ => True) [Str.ofString "parentpos", Str.ofString "parent"]
    (fun c => DatAll tl c.vs (c.hs.map pd) ∧ c.pos < c.hs.length ∧ c.hs.length < 100000 ∧ ∀ r, SD x c.hs c.pos r → SD x hs pos r) (fun c => c.pos) ⟨vs, n, hs, pos, t1⟩ F' N' trivial ?_ ⟨hD, hps, hsz, fun _ h => h⟩ ?_
  · intro q hq
    rw [List.mem_singleton.mp hq]
    rfl
  · intro c u h tk _ hP Fc Nc
    obtain ⟨hDc, hpc, hzc, hSc⟩ := hP
    have hlen : c.vs.length = c.hs.length := by rw [hDc.length, List.length_map]
    walk_at "mineA"
    · skip
      have hp0 : 0 < c.pos := by omega
      have hpl : (c.pos - 1) / 2 < c.hs.length := by omega
      have hZz : ∃ par, c.hs[(c.pos - 1) / 2]? = some par := ⟨_, List.getElem?_eq_getElem hpl⟩
      obtain ⟨par, hpar⟩ := hZz
      have e := half_fdiv hp0
      refine item_l (by assumption) hDc (x := par) (by rw [e]; omega) (by rw [e]; exact hpar) (by rw [e]; omega) ?_
      intro ap tp up np hap
      have hpi : DatIn tl (.ref ap) (pd par) := .tuple hap (.cons (.int _ _) (.cons (.int _ _) .nil))
      walk_at "mineA"
      refine lt_l (by assumption) (.tail _ (htl _ hax)) (.tail _ (htl _ hap)) (by show un + 3 < cLine; omega) ?_
      walk_at "mineA"
      · refine set_l (by assumption) (by assumption) hrest (by omega) (by omega) (by omega) ?_
        intro h' F' N'
        walk_at "mineA"
        refine' ksw_end (⟨c.vs.set c.pos (.ref ap), c.n, c.hs.set c.pos par, (c.pos - 1) / 2, _⟩ : SdSt) ?kF ?kN ?kn ?kf ?kk ?kr ?kp ?km
        case kF => assumption
        case kN => assumption
        case kn => exact fun _ h => h
        case kf => trivial
        case kk => intro q hq; rw [List.mem_singleton.mp hq]; exact congrArg (fun k => some (Value.int k _)) e
        case kr =>
          intro z h2 h3
          simp only [List.contains_cons, List.contains_nil, Bool.or_false, Bool.or_eq_false_iff, beq_eq_false_iff_ne, ne_eq] at h3
          have h4 : z ≠ Str.ofString "pos" := h2 _ (.head _)
          simp +zetaDelta only [kstB, if_neg h3.1, if_neg h3.2, if_neg h4, List.contains_cons, List.contains_nil, Bool.or_false, beq_eq_false_iff_ne.mpr h3.1, beq_eq_false_iff_ne.mpr h3.2, Bool.false_eq_true, if_false]
        case kp => exact ⟨by rw [List.map_set]; exact datAll_set hpi c.pos hDc, by rw [List.length_set]; exact hpl, by rw [List.length_set]; exact hzc, fun r hr => hSc _ (.step hp0 hpar (by assumption) hr)⟩
        case km => show (c.pos - 1) / 2 < c.pos; omega
      · refine set_l (by assumption) (by assumption) hrest (by omega) (by omega) (by omega) ?_
        intro h' F' N'
        walk_at "mineA"
        exact hret _ _ _ _ (by assumption) (by assumption) ⟨rfl, c.vs.set c.pos (.ref ax), c.n, c.hs.set c.pos x, rfl, by rw [List.map_set]; exact datAll_set hxi c.pos hDc, hSc _ (.stop hp0 hpar (by assumption))⟩
    · refine set_l (by assumption) (by assumption) hrest (by omega) (by omega) (by omega) ?_
      intro h' F' N'
      walk_at "mineA"
      have hz0 : c.pos = 0 := by omega
      exact hret _ _ _ _ (by assumption) (by assumption) ⟨rfl, c.vs.set c.pos (.ref ax), c.n, c.hs.set c.pos x, rfl, by rw [List.map_set]; exact datAll_set hxi c.pos hDc, hSc _ (by rw [hz0]; exact .zero)⟩
end Mine
end

section -- HeapB
open PySem PySem.W PySem.Spec PySem.Calls PyProof.Rows
set_option maxHeartbeats 8000000
namespace Mine
section
variable {prog : Program} {w : World} {A : Around} {E : Value → Shared → Prop} {s : Shared} {h₀ : Heap} {L l : Addr} {m : Str → Option Value} {news rest tl : List (Addr × Obj)} {vs : List Value} {n : Nat} {hs : List (Int × Int)} {k : Int} {u : Tok}
theorem Spec.use {p : Program} {loose : List Str} {mean : ExcName → Option Value} {mg mb : Str → Option Value} {f : Addr} {args : List Value} {need : Nat} {Post : Value → List (Addr × Obj) → Prop}
    {dp un : Nat} {gd : Option (List Code)} {cn : Str} {cs : Scope} {a : Addr} {ccd : Value} {cl : List (Str × Addr)} {outer : List Env} {A₀ : Around} {base : Heap} {Q : Value → Shared → Prop}
    (S : Spec prog w p loose mean mg mb f args need news Post) (B : Below A₀ base outer h₀) (F : Fr h₀ L s.heap m) (X : Frag.In (hd.heap_1 w.params) h₀) (N : News h₀ L s.heap news) (T : Top p loose mean mg mb h₀) (hk : cs.kind = .function)
    (hd : dp + need < recursionLimit) (hu : un + 40 * need < cLine)
    (ret : ∀ r news' h' tk', Fr h₀ L h' m → News h₀ L h' news' → Post r news' → Q r { s with heap := h', toks := tk' }) :
    wpAny (model prog w) (ktrTop dp un gd cn cs L a ccd cl outer) (call (.ref f) args) Q E s := S _ _ _ _ _ _ _ _ _ _ _ _ _ _ _ _ _ B F X N T hk hd hu ret
theorem app_l {v : Value} {Q : Value → Shared → Prop} (F : Fr h₀ L s.heap m) (N : News h₀ L s.heap ((l, listOf vs.toArray n) :: rest)) (hr : ∀ p ∈ rest, p.1 ≠ l) (hz : vs.length < 16000000)
    (h : ∀ h', Fr h₀ L h' m → News h₀ L h' ((l, listOf (vs ++ [v]).toArray (n + 1)) :: rest) → Q .none { s with heap := h' }) :
    wpAny (model prog w) A (call (.builtin "list.append") [.ref l, v]) Q E s := by
  refine append_K F N (.head hr) (fun h' F' N' => h h' F' ?_) (by rw [List.size_toArray, sizeLine_eq]; omega)
  simpa using N'
theorem pop_l {y : Value} {Q : Value → Shared → Prop} (F : Fr h₀ L s.heap m) (N : News h₀ L s.heap ((l, listOf (vs ++ [y]).toArray n) :: rest)) (hr : ∀ p ∈ rest, p.1 ≠ l) (hz : vs.length < 16000000)
    (h : ∀ h', Fr h₀ L h' m → News h₀ L h' ((l, listOf vs.toArray (n + 1)) :: rest) → Q y { s with heap := h' }) :
    wpAny (model prog w) A (call (.builtin "list.pop") [.ref l]) Q E s := by
  refine kl_pop (p := vs) (y := y) F N ?_ (.head hr) (by simp [sizeLine_eq]; omega) h
  have e : ∀ l : List Value, kl_last (l ++ [y]) = some (l, y) := by
    intro l
    induction l with
    | nil => rfl
    | cons a r ih => simp only [List.cons_append, kl_last, ih]
  simpa using e vs
theorem len_l {Q : Value → Shared → Prop} (N : News h₀ L s.heap news) (hm : (l, listOf vs.toArray n) ∈ news) (hz : vs.length < 16000000) (h : Q (.int (vs.length : Int) (s.toks + 1)) { s with toks := s.toks + 1 + 1 }) :
    wpAny (model prog w) A (call (.builtin "len") [.ref l]) Q E s :=
  len_list (items := vs.toArray) ⟨_, (N _ hm).1, rfl, n, rfl⟩ (by rw [List.size_toArray]; omega) (by rw [List.size_toArray]; exact h)
theorem truthy_l {Q : Bool → Shared → Prop} (N : News h₀ L s.heap news) (hm : (l, listOf vs.toArray n) ∈ news) (hz : vs.length < 16000000) (h : Q (!vs.isEmpty) { s with toks := s.toks + 1 + 1 }) :
    wpAny (model prog w) A (truthy (.ref l)) Q E s :=
  wpAny_truthy_list (items := vs.toArray) ⟨_, (N _ hm).1, rfl, n, rfl⟩ (by rw [List.size_toArray]; omega) (by simpa using h)
theorem meth_l {name : Str} {id : String} {pl : Sem Bool} {Q : Value × List Value → Shared → Prop} (N : News h₀ L s.heap news) (hm : (l, listOf vs.toArray n) ∈ news) (slot : Slot "list" name id) (hty : typeOf (.builtin id) = pure (.type "method_descriptor"))
    (h : Q (.builtin id, [.ref l]) s) : wpAny (model prog w) A (getMethod (.ref l) name pl) Q E s := kl_method N hm slot hty h
end


variable {prog : Program} {w : World} {p : Program} {loose : List Str} {mean : ExcName → Option Value} {mg mb : Str → Option Value}
theorem heappush_spec (l : Addr) (vs : List Value) (n : Nat) (rest tl : List (Addr × Obj)) (hs : List (Int × Int)) (x : Int × Int) (ax : Addr) (tx ux : Tok) (nx : Nat)
   (hrest : ∀ p ∈ rest, p.1 ≠ l) (htl : ∀ p ∈ tl, p ∈ rest) (hD : DatAll tl vs (hs.map pd)) (hax : (ax, tupO [.int x.1 tx, .int x.2 ux] nx) ∈ tl) (hsz : hs.length < 90000) :
   Spec prog w p loose mean mg mb 28 [.ref l, .ref ax] 2 ((l, listOf vs.toArray n) :: rest) (fun r news' => r = .none ∧ ∃ vs' n' hs', news' = (l, listOf vs'.toArray n') :: rest ∧ DatAll tl vs' (hs'.map pd) ∧ SD x (hs ++ [x]) hs.length hs') := by
  refine fill_at ?_
  k_fill
  unfold Filled Spec
  intro dp un gd cn cs a ccd cl outer A₀ base h₀ L m s Q E B F X N T hk hd hu hret
  refine wpAny_call ?_
  k_dflt ktr_enter
  rename_i g' L' h' FG' F' N' B' X' T'
  replace F' : Fr g' L' h' (fun y => List.lookup y [(Str.ofString "item", .ref ax), (Str.ofString "heap", .ref l)]) := F'
  have hxi : DatIn tl (.ref ax) (pd x) := .tuple hax (.cons (.int _ _) (.cons (.int _ _) .nil))
  have hlen : vs.length = hs.length := by rw [hD.length, List.length_map]
  have hD2 : DatAll tl (vs ++ [.ref ax]) ((hs ++ [x]).map pd) := by rw [List.map_append]; exact hD.append (.one hxi)
  walk_at "mineA"
  refine app_l (by assumption) (by assumption) hrest (by omega) ?_
  intro h2 F2 N2
  walk_at "mineA"
  refine len_l (by assumption) (.head _) (by simp; omega) ?_
  walk_at "mineA"
  have e : ((vs ++ [Value.ref ax]).length : Int) - 1 = (hs.length : Nat) := by simp; omega
  simp only [e]
  refine' Spec.use (siftdown_spec l (vs ++ [.ref ax]) (n + 1) rest tl (hs ++ [x]) hs.length x _ _ hrest htl hD2 (by simp) (by simp; omega)) ?sB ?sF ?sX ?sN ?sT ?sK ?sD ?sU ?_
  walk_at "use"
  case sD => show dp + 1 + 1 < recursionLimit; omega
  case sU => show un + 3 + 40 * 1 < cLine; omega
  rintro r news' h3 tk3 F3 N3 ⟨rfl, vs', n', hs', rfl, hD', hS⟩
  walk_at "mineA"
  exact hret _ _ _ _ (by assumption) (by assumption) ⟨rfl, vs', n', hs', rfl, hD', hS⟩

inductive SU (x : Int × Int) : List (Int × Int) → Nat → List (Int × Int) → Prop
  | stop {hs pos r} : hs.length ≤ 2 * pos + 1 → SD x (hs.set pos x) pos r → SU x hs pos r
  | left {hs pos y r} : hs[2 * pos + 1]? = some y → (∀ z, hs[2 * pos + 2]? = some z → lex2 y z = true) → SU x (hs.set pos y) (2 * pos + 1) r → SU x hs pos r
  | right {hs pos y z r} : hs[2 * pos + 1]? = some y → hs[2 * pos + 2]? = some z → lex2 y z = false → SU x (hs.set pos z) (2 * pos + 2) r → SU x hs pos r

structure SuSt where
  vs : List Value
  n : Nat
  hs : List (Int × Int)
  pos : Nat
  t : Tok
  t2 : Tok
theorem siftup_spec (l : Addr) (vs : List Value) (n : Nat) (rest tl : List (Addr × Obj)) (hs : List (Int × Int)) (x : Int × Int) (t0 : Tok)
   (hrest : ∀ p ∈ rest, p.1 ≠ l) (htl : ∀ p ∈ tl, p ∈ rest) (hD : DatAll tl vs (hs.map pd)) (hx : hs[0]? = some x) (hsz : hs.length < 90000) :
   Spec prog w p loose mean mg mb 49 [.ref l, .int 0 t0] 2 ((l, listOf vs.toArray n) :: rest) (fun r news' => r = .none ∧ ∃ vs' n' hs', news' = (l, listOf vs'.toArray n') :: rest ∧ DatAll tl vs' (hs'.map pd) ∧ SU x hs 0 hs') := by
  refine fill_at ?_
  k_fill
  unfold Filled Spec
  intro dp un gd cn cs a ccd cl outer A₀ base h₀ L m s Q E B F X N T hk hd hu hret
  refine wpAny_call ?_
  k_dflt ktr_enter
  rename_i g' L' h' FG' F' N' B' X' T'
  replace F' : Fr g' L' h' (fun y => List.lookup y [(Str.ofString "pos", .int 0 t0), (Str.ofString "heap", .ref l)]) := F'
  have hlen : vs.length = hs.length := by rw [hD.length, List.length_map]
  walk_at "mineA"
  refine len_l (by assumption) (.head _) (by omega) ?_
  walk_at "mineA"
  have hps : 0 < hs.length := (List.getElem?_eq_some_iff.mp hx).1
  refine item_l (by assumption) hD (by omega) (x := x) (by simpa using hx) (by omega) ?_
  intro ax tx ux nx hax
  have hxi : DatIn tl (.ref ax) (pd x) := .tuple hax (.cons (.int _ _) (.cons (.int _ _) .nil))
  walk_at "mineA"
  (rename Fr _ _ _ _ => F')
  (rename News _ _ _ _ => N')
  refine' ksw_while (fun c : SuSt => (l, listOf c.vs.toArray c.n) :: rest) (fun c => [(Str.ofString "pos", .int c.pos c.t), (Str.ofString "childpos", .int (2 * c.pos + 1) c.t2)]) (fun _ => True) [Str.ofString "rightpos"]
    (fun c => DatAll tl c.vs (c.hs.map pd) ∧ c.pos < c.hs.length ∧ c.hs.length = hs.length ∧ ∀ r, SU x c.hs c.pos r → SU x hs 0 r) (fun c => hs.length - c.pos) ⟨vs, n, hs, 0, t0, _⟩ (by assumption) (by assumption) trivial ?kk ?kp ?_
  case kk =>
    intro q hq
    rcases List.mem_cons.mp hq with rfl | hq
    · rfl
    · rw [List.mem_singleton.mp hq]
      rfl
  case kp => exact ⟨hD, hps, rfl, fun _ h => h⟩
  · intro c u h tk _ hP Fc Nc
    obtain ⟨hDc, hpc, hzc, hSc⟩ := hP
    have hlen : c.vs.length = c.hs.length := by rw [hDc.length, List.length_map]
    have tup {av : Addr} {y : Int × Int} {t u : Tok} {n : Nat} (h : (av, tupO [.int y.1 t, .int y.2 u] n) ∈ tl) : DatIn tl (.ref av) (pd y) := .tuple h (.cons (.int _ _) (.cons (.int _ _) .nil))
    walk_at "mineA"
    · have hcl : 2 * c.pos + 1 < c.hs.length := by omega
      have hcr : 2 * c.pos + 2 < c.hs.length := by omega
      have hZz : ∃ y, c.hs[2 * c.pos + 1]? = some y := ⟨_, List.getElem?_eq_getElem hcl⟩
      obtain ⟨y, hy⟩ := hZz
      have hZz : ∃ z, c.hs[2 * c.pos + 2]? = some z := ⟨_, List.getElem?_eq_getElem hcr⟩
      obtain ⟨z, hz⟩ := hZz
      have ey : (2 * (c.pos : Int) + 1).toNat = 2 * c.pos + 1 := by omega
      have ez : (2 * (c.pos : Int) + 1 + 1).toNat = 2 * c.pos + 2 := by omega
      refine item_l (k := 2 * (c.pos : Int) + 1) (by assumption) hDc (x := y) (by omega) (by rw [ey]; exact hy) (by omega) ?_
      intro ay ty uy ny hay
      walk_at "mineA"
      refine item_l (k := 2 * (c.pos : Int) + 1 + 1) (by assumption) hDc (x := z) (by omega) (by rw [ez]; exact hz) (by omega) ?_
      intro az tz uz nz haz
      walk_at "mineA"
      refine lt_l (by assumption) (.tail _ (htl _ hay)) (.tail _ (htl _ haz)) (by show un + 3 < cLine; omega) ?_
      walk_at "mineA"
      · refine item_l (k := 2 * (c.pos : Int) + 1) (by assumption) hDc (x := y) (by omega) (by rw [ey]; exact hy) (by omega) ?_
        intro ay ty uy ny hay
        walk_at "mineA"
        have e1 : (2 * (c.pos : Int) + 1) = ((2 * c.pos + 1 : Nat) : Int) := by omega
        have e2 : (2 * (2 * (c.pos : Int) + 1) + 1) = 2 * ((2 * c.pos + 1 : Nat) : Int) + 1 := by omega
        have hlt : lex2 y z = true := by assumption
        refine set_l (by assumption) (by assumption) hrest (by omega) (by omega) (by omega) ?_
        intro h' F' N'
        walk_at "mineA"
        refine' ksw_end (⟨c.vs.set c.pos (.ref ay), c.n, c.hs.set c.pos y, 2 * c.pos + 1, _, _⟩ : SuSt) ?kF ?kN ?kn ?kf ?kk ?kr ?kp ?km
        case kF => assumption
        case kN => assumption
        case kn => exact fun _ h => h
        case kf => trivial
        case kk =>
          intro q hq
          rcases List.mem_cons.mp hq with rfl | hq
          · exact congrArg (fun k => some (Value.int k _)) e1
          · rw [List.mem_singleton.mp hq]
            exact congrArg (fun k => some (Value.int k _)) e2
        case kr =>
          intro z h2 h3
          simp only [List.contains_cons, List.contains_nil, Bool.or_false, beq_eq_false_iff_ne, ne_eq] at h3
          have h4 : z ≠ Str.ofString "pos" := h2 _ (.head _)
          have h5 : z ≠ Str.ofString "childpos" := h2 _ (.tail _ (.head _))
          simp +zetaDelta only [kstB, if_neg h3, if_neg h5, if_neg h4, List.contains_cons, List.contains_nil, Bool.or_false, beq_eq_false_iff_ne.mpr h3, Bool.false_eq_true, if_false]
        case kp => exact ⟨by rw [List.map_set]; exact datAll_set (tup hay) c.pos hDc, by rw [List.length_set]; omega, by rw [List.length_set]; exact hzc, fun r hr => hSc _ (.left hy (fun z' hz' => by rw [hz] at hz'; cases hz'; exact hlt) hr)⟩
        case km => show hs.length - (2 * c.pos + 1) < hs.length - c.pos; omega
      · refine item_l (k := 2 * (c.pos : Int) + 1 + 1) (by assumption) hDc (x := z) (by omega) (by rw [ez]; exact hz) (by omega) ?_
        intro az tz uz nz haz
        walk_at "mineA"
        have e1 : (2 * (c.pos : Int) + 1 + 1) = ((2 * c.pos + 2 : Nat) : Int) := by omega
        have e2 : (2 * (2 * (c.pos : Int) + 1 + 1) + 1) = 2 * ((2 * c.pos + 2 : Nat) : Int) + 1 := by omega
        have hlt : lex2 y z = false := by assumption
        refine set_l (by assumption) (by assumption) hrest (by omega) (by omega) (by omega) ?_
        intro h' F' N'
        walk_at "mineA"
        refine' ksw_end (⟨c.vs.set c.pos (.ref az), c.n, c.hs.set c.pos z, 2 * c.pos + 2, _, _⟩ : SuSt) ?kF ?kN ?kn ?kf ?kk ?kr ?kp ?km
        case kF => assumption
        case kN => assumption
        case kn => exact fun _ h => h
        case kf => trivial
        case kk =>
          intro q hq
          rcases List.mem_cons.mp hq with rfl | hq
          · exact congrArg (fun k => some (Value.int k _)) e1
          · rw [List.mem_singleton.mp hq]
            exact congrArg (fun k => some (Value.int k _)) e2
        case kr =>
          intro z h2 h3
          simp only [List.contains_cons, List.contains_nil, Bool.or_false, beq_eq_false_iff_ne, ne_eq] at h3
          have h4 : z ≠ Str.ofString "pos" := h2 _ (.head _)
          have h5 : z ≠ Str.ofString "childpos" := h2 _ (.tail _ (.head _))
          simp +zetaDelta only [kstB, if_neg h3, if_neg h5, if_neg h4, List.contains_cons, List.contains_nil, Bool.or_false, beq_eq_false_iff_ne.mpr h3, Bool.false_eq_true, if_false]
        case kp => exact ⟨by rw [List.map_set]; exact datAll_set (tup haz) c.pos hDc, by rw [List.length_set]; omega, by rw [List.length_set]; exact hzc, fun r hr => hSc _ (.right hy hz hlt hr)⟩
        case km => show hs.length - (2 * c.pos + 2) < hs.length - c.pos; omega
    · have hcl : 2 * c.pos + 1 < c.hs.length := by omega
      have hZz : ∃ y, c.hs[2 * c.pos + 1]? = some y := ⟨_, List.getElem?_eq_getElem hcl⟩
      obtain ⟨y, hy⟩ := hZz
      have ey : (2 * (c.pos : Int) + 1).toNat = 2 * c.pos + 1 := by omega
      · refine item_l (k := 2 * (c.pos : Int) + 1) (by assumption) hDc (x := y) (by omega) (by rw [ey]; exact hy) (by omega) ?_
        intro ay ty uy ny hay
        walk_at "mineA"
        have e1 : (2 * (c.pos : Int) + 1) = ((2 * c.pos + 1 : Nat) : Int) := by omega
        have e2 : (2 * (2 * (c.pos : Int) + 1) + 1) = 2 * ((2 * c.pos + 1 : Nat) : Int) + 1 := by omega
        refine set_l (by assumption) (by assumption) hrest (by omega) (by omega) (by omega) ?_
        intro h' F' N'
        walk_at "mineA"
        refine' ksw_end (⟨c.vs.set c.pos (.ref ay), c.n, c.hs.set c.pos y, 2 * c.pos + 1, _, _⟩ : SuSt) ?kF ?kN ?kn ?kf ?kk ?kr ?kp ?km
        case kF => assumption
        case kN => assumption
        case kn => exact fun _ h => h
        case kf => trivial
        case kk =>
          intro q hq
          rcases List.mem_cons.mp hq with rfl | hq
          · exact congrArg (fun k => some (Value.int k _)) e1
          · rw [List.mem_singleton.mp hq]
            exact congrArg (fun k => some (Value.int k _)) e2
        case kr =>
          intro z h2 h3
          simp only [List.contains_cons, List.contains_nil, Bool.or_false, beq_eq_false_iff_ne, ne_eq] at h3
          have h4 : z ≠ Str.ofString "pos" := h2 _ (.head _)
          have h5 : z ≠ Str.ofString "childpos" := h2 _ (.tail _ (.head _))
          simp +zetaDelta only [kstB, if_neg h3, if_neg h5, if_neg h4, List.contains_cons, List.contains_nil, Bool.or_false, beq_eq_false_iff_ne.mpr h3, Bool.false_eq_true, if_false]
        case kp => exact ⟨by rw [List.map_set]; exact datAll_set (tup hay) c.pos hDc, by rw [List.length_set]; omega, by rw [List.length_set]; exact hzc, fun r hr => hSc _ (.left hy (fun z' hz' => by have := (List.getElem?_eq_some_iff.mp hz').1; omega) hr)⟩
        case km => show hs.length - (2 * c.pos + 1) < hs.length - c.pos; omega
    · refine set_l (by assumption) (by assumption) hrest (by omega) (by omega) (by omega) ?_
      intro h' F' N'
      walk_at "mineA"
      refine' Spec.use (siftdown_spec l (c.vs.set c.pos (.ref ax)) c.n rest tl (c.hs.set c.pos x) c.pos x _ _ hrest htl (by rw [List.map_set]; exact datAll_set hxi c.pos hDc) (by rw [List.getElem?_set_self hpc]) (by rw [List.length_set]; omega)) ?sB ?sF ?sX ?sN ?sT ?sK ?sD ?sU ?_
      walk_at "use"
      case sD => show dp + 1 + 1 < recursionLimit; omega
      case sU => show un + 3 + 40 * 1 < cLine; omega
      rintro r news' h3 tk3 F3 N3 ⟨rfl, vs', n', hs', rfl, hD', hS⟩
      walk_at "mineA"
      exact hret _ _ _ _ (by assumption) (by assumption) ⟨rfl, vs', n', hs', rfl, hD', hSc _ (.stop (by omega) hS)⟩
end Mine
end

section -- HeapC
open PySem PySem.W PySem.Spec PySem.Calls PyProof.Rows
set_option maxHeartbeats 8000000
namespace Mine

variable {prog : Program} {w : World} {p : Program} {loose : List Str} {mean : ExcName → Option Value} {mg mb : Str → Option Value}

noncomputable def PopRel (hs0 : List (Int × Int)) (y x : Int × Int) (hs' : List (Int × Int)) : Prop := (hs0 = [] ∧ x = y ∧ hs' = []) ∨ (hs0[0]? = some x ∧ SU y (hs0.set 0 y) 0 hs')
theorem heappop_spec (l : Addr) (vs0 : List Value) (v : Value) (n : Nat) (rest tl : List (Addr × Obj)) (hs0 : List (Int × Int)) (y : Int × Int)
   (hrest : ∀ p ∈ rest, p.1 ≠ l) (htl : ∀ p ∈ tl, p ∈ rest) (hD : DatAll tl vs0 (hs0.map pd)) (hy : DatIn tl v (pd y)) (hsz : hs0.length < 80000) :
   Spec prog w p loose mean mg mb 35 [.ref l] 3 ((l, listOf (vs0 ++ [v]).toArray n) :: rest) (fun r news' => ∃ a t u nn x vs' n' hs', r = .ref a ∧ (a, tupO [.int x.1 t, .int x.2 u] nn) ∈ tl ∧ news' = (l, listOf vs'.toArray n') :: rest ∧ DatAll tl vs' (hs'.map pd) ∧ PopRel hs0 y x hs') := by
  refine fill_at ?_
  k_fill
  unfold Filled Spec
  intro dp un gd cn cs a ccd cl outer A₀ base h₀ L m s Q E B F X N T hk hd hu hret
  refine wpAny_call ?_
  k_dflt ktr_enter
  rename_i g' L' h' FG' F' N' B' X' T'
  replace F' : Fr g' L' h' (fun y => List.lookup y [(Str.ofString "heap", .ref l)]) := F'
  have hlen : vs0.length = hs0.length := by rw [hD.length, List.length_map]
  walk_at "mineA"
  refine pop_l (by assumption) (by assumption) hrest (by omega) ?_
  intro h2 F2 N2
  obtain ⟨ay, ty, uy, ny, rfl, hay⟩ := pd_ref hy
  walk_at "mineA"
  refine truthy_l (by assumption) (.head _) (by omega) ?_
  cases vs0 with
  | nil =>
    have hs0n : hs0 = [] := by cases hs0 with | nil => rfl | cons _ _ => simp at hlen
    subst hs0n
    walk_at "mineA"
    exact hret _ _ _ _ (by assumption) (by assumption) ⟨ay, ty, uy, ny, y, [], _, [], rfl, hay, rfl, .nil, .inl ⟨rfl, rfl, rfl⟩⟩
  | cons v0 vs1 =>
    have hZz : ∃ x hs1, hs0 = x :: hs1 := by cases hs0 with | nil => simp at hlen | cons a b => exact ⟨a, b, rfl⟩
    obtain ⟨x, hs1, rfl⟩ := hZz
    rw [show (!(v0 :: vs1).isEmpty) = true from rfl]
    walk_at "mineA"
    refine item_l (k := 0) (by assumption) hD (by omega) (x := x) rfl (by omega) ?_
    intro ax tx ux nx hax
    walk_at "mineA"
    refine set_l (k := 0) (by assumption) (by assumption) hrest (by omega) (by simp) (by omega) ?_
    intro h3 F3 N3
    walk_at "mineA"
    refine' Spec.use (siftup_spec l ((v0 :: vs1).set 0 (.ref ay)) (n + 1) rest tl ((x :: hs1).set 0 y) y _ hrest htl (by rw [List.map_set]; exact datAll_set hy 0 hD) rfl (by rw [List.length_set]; omega)) ?sB ?sF ?sX ?sN ?sT ?sK ?sD ?sU ?_
    walk_at "use"
    case sD => show dp + 1 + 2 < recursionLimit; omega
    case sU => show un + 3 + 40 * 2 < cLine; omega
    rintro r news' h3 tk3 F3 N3 ⟨rfl, vs', n', hs', rfl, hD', hS⟩
    walk_at "mineA"
    exact hret _ _ _ _ (by assumption) (by assumption) ⟨ax, tx, ux, nx, x, vs', n', hs', rfl, hax, rfl, hD', .inr ⟨rfl, hS⟩⟩
end Mine
end

section -- DjDef
open PySem PySem.W PySem.Spec PySem.Calls PyProof.Rows
namespace Mine
/-- the search's state: the heap, what is settled, the three tables as functions -/
structure St where
  hs : List (Int × Int)
  ss : List (Int × Int × Int)
  fP : Int → Option Int
  fL : Int → Option Int
  fW : Int → Option Int
noncomputable def upd (f : Int → Option Int) (k v : Int) : Int → Option Int := fun x => if x = k then some v else f x
noncomputable def iabs (x : Int) : Int := if x < 0 then -x else x
noncomputable def Push (hs : List (Int × Int)) (x : Int × Int) (hs' : List (Int × Int)) : Prop := SD x (hs ++ [x]) hs.length hs'
noncomputable abbrev nbr (m b : Int) : Int := Builtin.bitXor m b
/-- the prices behind a look at the neighbour -/
noncomputable def seen (price : Int → Int) (f : Int → Option Int) (o : Int) : Int → Option Int := match f o with | some _ => f | none => upd f o (price o)
structure Gr where
  V : List Int
  bits : List Int
  s : Int
  P : Int → Int
  D : Int → Int
  W : Int → Int
noncomputable def Gr.c (G : Gr) (m o : Int) : Int := iabs (G.P m - G.P o)
inductive Relax (G : Gr) (cost mode wm : Int) (st : St) (bit : Int) : St → Prop
  | new {hs'} : st.fL (nbr mode bit) = none → Push st.hs (cost + G.c mode (nbr mode bit), nbr mode bit) hs' →
      Relax G cost mode wm st bit ⟨hs', st.ss, seen G.P st.fP (nbr mode bit), upd st.fL (nbr mode bit) (cost + G.c mode (nbr mode bit)), upd st.fW (nbr mode bit) wm⟩
  | less {hs' l} : st.fL (nbr mode bit) = some l → cost + G.c mode (nbr mode bit) < l → Push st.hs (cost + G.c mode (nbr mode bit), nbr mode bit) hs' →
      Relax G cost mode wm st bit ⟨hs', st.ss, seen G.P st.fP (nbr mode bit), upd st.fL (nbr mode bit) (cost + G.c mode (nbr mode bit)), upd st.fW (nbr mode bit) wm⟩
  | same {wo} : st.fL (nbr mode bit) = some (cost + G.c mode (nbr mode bit)) → st.fW (nbr mode bit) = some wo →
      Relax G cost mode wm st bit ⟨st.hs, st.ss, seen G.P st.fP (nbr mode bit), st.fL, upd st.fW (nbr mode bit) (wo + wm)⟩
  | more {l} : st.fL (nbr mode bit) = some l → l < cost + G.c mode (nbr mode bit) →
      Relax G cost mode wm st bit ⟨st.hs, st.ss, seen G.P st.fP (nbr mode bit), st.fL, st.fW⟩
noncomputable def modesOf (ss : List (Int × Int × Int)) : List Int := ss.map (·.2.1)
noncomputable def IsHeap (hs : List (Int × Int)) : Prop := ∀ i x y, 0 < i → hs[i]? = some x → hs[(i - 1) / 2]? = some y → lex2 x y = false
structure Gr.Ok (G : Gr) : Prop where
  nodup : G.V.Nodup
  sV : G.s ∈ G.V
  D0 : G.D G.s = 0
  W0 : G.W G.s = 1
  bnd : G.bits.Nodup
  nV : ∀ m ∈ G.V, ∀ b ∈ G.bits, nbr m b ∈ G.V
  inv : ∀ m ∈ G.V, ∀ b ∈ G.bits, nbr (nbr m b) b = m
  inj : ∀ m ∈ G.V, ∀ b ∈ G.bits, ∀ b' ∈ G.bits, nbr m b = nbr m b' → b = b'
  pos : ∀ m ∈ G.V, ∀ b ∈ G.bits, 0 < G.c m (nbr m b)
  tri : ∀ m ∈ G.V, ∀ b ∈ G.bits, G.D (nbr m b) ≤ G.D m + G.c m (nbr m b)
  pre : ∀ m ∈ G.V, m ≠ G.s → ∃ b ∈ G.bits, G.D (nbr m b) + G.c (nbr m b) m = G.D m
  ways : ∀ m ∈ G.V, m ≠ G.s → G.W m = (G.bits.map fun b => if G.D (nbr m b) + G.c (nbr m b) m = G.D m then G.W (nbr m b) else 0).sum
  few : G.bits.length ≤ 4
  fewV : G.V.length ≤ 16
  rng : ∀ m ∈ G.V, 0 ≤ m ∧ m < 65536
/-- the invariant, `act` saying which edges (settled end, bit) have been looked along -/
structure Inv (G : Gr) (act : Int → Int → Prop) (st : St) : Prop where
  heap : IsHeap st.hs
  sorted : st.ss.Pairwise fun a b => lex2 (a.1, a.2.1) (b.1, b.2.1) = true
  setl : ∀ t ∈ st.ss, t.2.1 ∈ G.V ∧ t.1 = G.D t.2.1 ∧ t.2.2 = G.W t.2.1
  price : ∀ m p, st.fP m = some p → m ∈ G.V ∧ p = G.P m
  pkey : ∀ m l, st.fL m = some l → st.fP m ≠ none
  wkey : ∀ m l, st.fL m = some l → st.fW m ≠ none
  low : ∀ m l, st.fL m = some l → m ∈ G.V ∧ G.D m ≤ l
  sL : ∀ m ∈ modesOf st.ss, st.fL m = some (G.D m)
  actS : ∀ n b, act n b → n ∈ modesOf st.ss
  sFirst : G.s ∉ modesOf st.ss → st.ss = [] ∧ st.fL G.s = some 0 ∧ st.fW G.s = some 1
  none : ∀ m ∈ G.V, m ∉ modesOf st.ss → m ≠ G.s → st.fL m = none → ∀ b ∈ G.bits, ¬ act (nbr m b) b
  wit : ∀ m ∈ G.V, m ∉ modesOf st.ss → m ≠ G.s → ∀ l, st.fL m = some l → ∃ b ∈ G.bits, act (nbr m b) b ∧ G.D (nbr m b) + G.c (nbr m b) m = l
  least : ∀ m ∈ G.V, m ∉ modesOf st.ss → m ≠ G.s → ∀ l, st.fL m = some l → ∀ b ∈ G.bits, act (nbr m b) b → l ≤ G.D (nbr m b) + G.c (nbr m b) m
  sum : ∀ m ∈ G.V, m ∉ modesOf st.ss → m ≠ G.s → ∀ l, st.fL m = some l → ∃ S : Int → Bool, (∀ b ∈ G.bits, S b = true ↔ (act (nbr m b) b ∧ G.D (nbr m b) + G.c (nbr m b) m = l)) ∧ st.fW m = some ((G.bits.map fun b => if S b then G.W (nbr m b) else 0).sum)
  ent : ∀ e ∈ st.hs, ∃ l, st.fL e.2 = some l ∧ l ≤ e.1 ∧ (e.2 ∈ modesOf st.ss → l < e.1)
  ord : ∀ t ∈ st.ss, ∀ m ∈ G.V, m ∉ modesOf st.ss → lex2 (t.1, t.2.1) (G.D m, m) = true
  one : ∀ m, m ∉ modesOf st.ss → ∀ l, st.fL m = some l → st.hs.count (l, m) = 1
noncomputable def DjInv (G : Gr) (st : St) : Prop := Inv G (fun n _ => n ∈ modesOf st.ss) st
noncomputable def RInv (G : Gr) (mode : Int) (pre : List Int) (st : St) : Prop := mode ∈ modesOf st.ss ∧ Inv G (fun n b => n ∈ modesOf st.ss ∧ (n = mode → b ∈ pre)) st
noncomputable def meas (G : Gr) (st : St) : Nat := 6 * (G.V.length - st.ss.length) + st.hs.length
end Mine
end

section -- HeapT
open PySem PySem.W PySem.Spec PySem.Calls PyProof.Rows
namespace Mine
noncomputable abbrev P2 := Int × Int
noncomputable def le2 (a b : P2) : Prop := lex2 b a = false
theorem le2_refl (a : P2) : le2 a a := by simp [le2, lex2]
theorem le2_trans {a b c : P2} (h1 : le2 a b) (h2 : le2 b c) : le2 a c := by
  simp only [le2, lex2, decide_eq_false_iff_not] at *
  omega
theorem le2_of_lt {a b : P2} (h : lex2 a b = true) : le2 a b := by
  simp only [le2, lex2, decide_eq_true_eq, decide_eq_false_iff_not] at *
  omega
/-- a heap but for a hole at `pos` -/
structure Hole (hs : List P2) (pos : Nat) : Prop where
  edge : ∀ i x y, 0 < i → i ≠ pos → (i - 1) / 2 ≠ pos → hs[i]? = some x → hs[(i - 1) / 2]? = some y → le2 y x
  over : ∀ c x y, 0 < pos → 0 < c → (c - 1) / 2 = pos → hs[c]? = some x → hs[(pos - 1) / 2]? = some y → le2 y x
theorem set_ne {hs : List P2} {pos i : Nat} {v : P2} (h : i ≠ pos) : (hs.set pos v)[i]? = hs[i]? := by
  rw [List.getElem?_set_ne (Ne.symm h)]
theorem set_eq {hs : List P2} {pos : Nat} {v z : P2} (h : (hs.set pos v)[pos]? = some z) : z = v := by
  have hl : pos < hs.length := by have := (List.getElem?_eq_some_iff.mp h).1; simpa using this
  rw [List.getElem?_set_self hl] at h
  exact (Option.some.inj h).symm
theorem swap_perm {hs : List P2} {i j : Nat} {x y : P2} (hij : j ≠ i) (hj : hs[j]? = some y) (hi : i < hs.length) : ((hs.set i y).set j x).Perm (hs.set i x) := by
  rw [List.perm_iff_count]
  intro a
  obtain ⟨hjl, hjv⟩ := List.getElem?_eq_some_iff.mp hj
  have e1 := List.count_set (a := x) (b := a) (l := hs.set i y) (i := j) (by rw [List.length_set]; exact hjl)
  have e2 := List.count_set (a := y) (b := a) (l := hs) (i := i) hi
  have e3 := List.count_set (a := x) (b := a) (l := hs) (i := i) hi
  rw [e1, e2, e3]
  have e4 : (hs.set i y)[j]'(by rw [List.length_set]; exact hjl) = y := by
    have := set_ne (hs := hs) (v := y) hij
    rw [hj] at this
    exact (List.getElem?_eq_some_iff.mp this).2
  rw [e4]
  have c1 : (if hs[i] == a then 1 else 0) ≤ List.count a hs := by
    split
    · rename_i h
      exact List.count_pos_iff.mpr (by rw [← eq_of_beq h]; exact List.getElem_mem _)
    · exact Nat.zero_le _
  split <;> split <;> omega
theorem sd_heap {x : P2} {hs r : List P2} {pos : Nat} (h : SD x hs pos r) : pos < hs.length → Hole hs pos → (∀ c z, 0 < c → (c - 1) / 2 = pos → hs[c]? = some z → le2 x z) → IsHeap r ∧ r.Perm (hs.set pos x) := by
  induction h with
  | zero =>
    rename_i hs
    intro hl H hx
    refine ⟨?_, List.Perm.refl _⟩
    intro i a b hi ha hb
    show le2 b a
    by_cases hp : (i - 1) / 2 = 0
    · rw [hp] at hb
      rw [set_eq hb]
      rw [set_ne (by omega)] at ha
      exact hx i a hi hp ha
    · rw [set_ne (by omega)] at ha
      rw [set_ne hp] at hb
      exact H.edge i a b hi (by omega) hp ha hb
  | stop hp0 hpar hlt =>
    rename_i hs pos par
    intro hl H hx
    refine ⟨?_, List.Perm.refl _⟩
    intro i a b hi ha hb
    show le2 b a
    by_cases h1 : i = pos
    · subst h1
      rw [set_eq ha]
      rw [set_ne (by omega), hpar] at hb
      cases hb
      exact hlt
    · rw [set_ne h1] at ha
      by_cases h2 : (i - 1) / 2 = pos
      · rw [h2] at hb
        rw [set_eq hb]
        exact hx i a hi h2 ha
      · rw [set_ne h2] at hb
        exact H.edge i a b hi h1 h2 ha hb
  | step hp0 hpar hlt hr ih =>
    rename_i hs pos par r
    intro hl H hx
    have hne : (pos - 1) / 2 ≠ pos := by omega
    refine (fun k => ⟨k.1, k.2.trans (swap_perm hne hpar hl)⟩) (ih (by rw [List.length_set]; omega) ⟨?_, ?_⟩ ?_)
    · intro i a b hi h1 h2 ha hb
      by_cases h3 : i = pos
      · exact absurd (by rw [h3]) h2
      · rw [set_ne h3] at ha
        by_cases h4 : (i - 1) / 2 = pos
        · rw [h4] at hb
          rw [set_eq hb]
          exact H.over i a par hp0 hi h4 ha hpar
        · rw [set_ne h4] at hb
          exact H.edge i a b hi h3 h4 ha hb
    · intro c a b hq hc hcp ha hb
      rw [set_ne (by omega)] at hb
      have hb2 : le2 b par := H.edge ((pos - 1) / 2) par b hq hne (by omega) hpar hb
      by_cases h3 : c = pos
      · rw [h3] at ha
        rw [set_eq ha]
        exact hb2
      · rw [set_ne h3] at ha
        refine le2_trans hb2 (H.edge c a par hc h3 (by omega) ha (by rw [hcp]; exact hpar))
    · intro c z hc hcp hz
      by_cases h3 : c = pos
      · rw [h3] at hz
        rw [set_eq hz]
        exact le2_of_lt hlt
      · rw [set_ne h3] at hz
        exact le2_trans (le2_of_lt hlt) (H.edge c z par hc h3 (by omega) hz (by rw [hcp]; exact hpar))
theorem su_heap {x : P2} {hs r : List P2} {pos : Nat} (h : SU x hs pos r) : pos < hs.length → Hole hs pos → IsHeap r ∧ r.Perm (hs.set pos x) := by
  induction h with
  | stop hlen hsd =>
    rename_i hs pos r
    intro hl H
    have k := sd_heap hsd (by rw [List.length_set]; exact hl) ⟨fun i a b hi h1 h2 ha hb => ?_, fun c a b h0 hc hcp ha hb => ?_⟩ fun c z hc hcp hz => ?_
    · rw [List.set_set] at k
      exact k
    · rw [set_ne h1] at ha
      rw [set_ne h2] at hb
      exact H.edge i a b hi h1 h2 ha hb
    · have := (List.getElem?_eq_some_iff.mp ha).1
      rw [List.length_set] at this
      omega
    · have := (List.getElem?_eq_some_iff.mp hz).1
      rw [List.length_set] at this
      omega
  | left hy hz hsu ih =>
    rename_i hs pos y r
    intro hl H
    refine (fun k => ⟨k.1, k.2.trans (swap_perm (by omega) hy hl)⟩) (ih (by rw [List.length_set]; exact (List.getElem?_eq_some_iff.mp hy).1) ⟨?_, ?_⟩)
    · intro i a b hi h1 h2 ha hb
      by_cases h3 : i = pos
      · subst h3
        rw [set_eq ha]
        rw [set_ne (by omega)] at hb
        exact H.over (2 * i + 1) y b (by omega) (by omega) (by omega) hy hb
      · rw [set_ne h3] at ha
        by_cases h4 : (i - 1) / 2 = pos
        · rw [h4] at hb
          rw [set_eq hb]
          obtain rfl : i = 2 * pos + 2 := by omega
          exact le2_of_lt (hz a ha)
        · rw [set_ne h4] at hb
          exact H.edge i a b hi h3 h4 ha hb
    · intro c a b h0 hc hcp ha hb
      rw [show (2 * pos + 1 - 1) / 2 = pos by omega] at hb
      rw [set_eq hb]
      rw [set_ne (by omega)] at ha
      exact H.edge c a y hc (by omega) (by omega) ha (by rw [hcp]; exact hy)
  | right hy hz hlt hsu ih =>
    rename_i hs pos y z r
    intro hl H
    refine (fun k => ⟨k.1, k.2.trans (swap_perm (by omega) hz hl)⟩) (ih (by rw [List.length_set]; exact (List.getElem?_eq_some_iff.mp hz).1) ⟨?_, ?_⟩)
    · intro i a b hi h1 h2 ha hb
      by_cases h3 : i = pos
      · subst h3
        rw [set_eq ha]
        rw [set_ne (by omega)] at hb
        exact H.over (2 * i + 2) z b (by omega) (by omega) (by omega) hz hb
      · rw [set_ne h3] at ha
        by_cases h4 : (i - 1) / 2 = pos
        · rw [h4] at hb
          rw [set_eq hb]
          obtain rfl : i = 2 * pos + 1 := by omega
          rw [hy] at ha
          cases ha
          exact hlt
        · rw [set_ne h4] at hb
          exact H.edge i a b hi h3 h4 ha hb
    · intro c a b h0 hc hcp ha hb
      rw [show (2 * pos + 2 - 1) / 2 = pos by omega] at hb
      rw [set_eq hb]
      rw [set_ne (by omega)] at ha
      exact H.edge c a z hc (by omega) (by omega) ha (by rw [hcp]; exact hz)
theorem heap_hole {hs : List P2} (h : IsHeap hs) (pos : Nat) : Hole hs pos := by
  refine ⟨fun i x y hi _ _ hx hy => h i x y hi hx hy, fun c x y h0 hc hcp hx hy => ?_⟩
  have hp : pos < hs.length := by have := (List.getElem?_eq_some_iff.mp hx).1; omega
  have e := List.getElem?_eq_getElem hp
  exact le2_trans (h pos _ y h0 e hy) (h c x _ hc hx (by rw [hcp]; exact e))
theorem push_heap {hs hs' : List P2} {x : P2} (h : Push hs x hs') (H : IsHeap hs) : IsHeap hs' ∧ hs'.Perm (x :: hs) := by
  have k := sd_heap h (by simp) ⟨fun i a b hi h1 h2 ha hb => ?_, fun c a b h0 hc hcp ha hb => ?_⟩ fun c z hc hcp hz => ?_
  · refine ⟨k.1, k.2.trans ?_⟩
    have e : (hs ++ [x]).set hs.length x = hs ++ [x] := by
      apply List.ext_getElem?
      intro i
      by_cases hi : i = hs.length
      · subst hi; simp
      · rw [set_ne hi]
    rw [e]
    exact List.perm_append_comm.trans (by simp)
  · have hl := (List.getElem?_eq_some_iff.mp ha).1
    simp at hl
    rw [List.getElem?_append_left (by omega)] at ha
    rw [List.getElem?_append_left (by omega)] at hb
    exact H i a b hi ha hb
  · have hl := (List.getElem?_eq_some_iff.mp ha).1
    simp at hl
    omega
  · have hl := (List.getElem?_eq_some_iff.mp hz).1
    simp at hl
    omega
theorem heap_min {hs : List P2} (H : IsHeap hs) {x : P2} (hx : hs[0]? = some x) : ∀ (n i : Nat) (z : P2), i < n → hs[i]? = some z → le2 x z
  | 0, i, z, h, _ => absurd h (Nat.not_lt_zero _)
  | n + 1, i, z, h, hz => by
    by_cases h0 : i = 0
    · subst h0
      rw [hx] at hz
      cases hz
      exact le2_refl _
    · have hl := (List.getElem?_eq_some_iff.mp hz).1
      have e := List.getElem?_eq_getElem (l := hs) (i := (i - 1) / 2) (by omega)
      exact le2_trans (heap_min H hx n ((i - 1) / 2) _ (by omega) e) (H i z _ (by omega) hz e)
theorem pop_heap {hs0 hs' : List P2} {y x : P2} (h : PopRel hs0 y x hs') (H : IsHeap (hs0 ++ [y])) : IsHeap hs' ∧ (hs0 ++ [y]).Perm (x :: hs') ∧ ∀ e ∈ hs0 ++ [y], le2 x e := by
  rcases h with ⟨rfl, rfl, rfl⟩ | ⟨hx, hsu⟩
  · refine ⟨fun i a b _ ha => by simp at ha, List.Perm.refl _, fun e he => ?_⟩
    simp at he
    rw [he]
    exact le2_refl _
  · have hl : 0 < hs0.length := (List.getElem?_eq_some_iff.mp hx).1
    have H0 : IsHeap hs0 := by
      intro i a b hi ha hb
      have l1 := (List.getElem?_eq_some_iff.mp ha).1
      have l2 := (List.getElem?_eq_some_iff.mp hb).1
      exact H i a b hi (by rw [List.getElem?_append_left l1]; exact ha) (by rw [List.getElem?_append_left l2]; exact hb)
    have hole : Hole (hs0.set 0 y) 0 := by
      refine ⟨fun i a b hi h1 h2 ha hb => ?_, fun c a b h0 => absurd h0 (by omega)⟩
      rw [set_ne h1] at ha
      rw [set_ne h2] at hb
      exact H0 i a b hi ha hb
    obtain ⟨k1, k2⟩ := su_heap hsu (by rw [List.length_set]; exact hl) hole
    rw [List.set_set] at k2
    refine ⟨k1, ?_, fun e he => ?_⟩
    · cases hs0 with
      | nil => simp at hl
      | cons a r =>
        simp at hx
        subst hx
        simp at k2
        exact List.perm_append_comm.trans ((List.Perm.swap a y r).trans (k2.symm.cons a))
    · obtain ⟨i, hi⟩ := List.mem_iff_getElem?.mp he
      refine heap_min H (by rw [List.getElem?_append_left hl]; exact hx) (i + 1) i e (Nat.lt_succ_self _) hi
theorem sd_len {x : P2} {hs r : List P2} {pos : Nat} (h : SD x hs pos r) : r.length = hs.length := by
  induction h with
  | zero => simp
  | stop => simp
  | step _ _ _ _ ih => rw [ih]; simp
theorem su_len {x : P2} {hs r : List P2} {pos : Nat} (h : SU x hs pos r) : r.length = hs.length := by
  induction h with
  | stop _ h => rw [sd_len h]; simp
  | left _ _ _ ih => rw [ih]; simp
  | right _ _ _ _ ih => rw [ih]; simp
theorem pop_len {hs0 : List (Int × Int)} {y x : Int × Int} {hs' : List (Int × Int)} (hp : PopRel hs0 y x hs') : hs'.length = hs0.length := by
  rcases hp with ⟨rfl, rfl, rfl⟩ | ⟨_, hsu⟩
  · rfl
  · rw [su_len hsu]; simp
theorem push_len {hs : List (Int × Int)} {x : Int × Int} {hs' : List (Int × Int)} (hp : Push hs x hs') : hs'.length = hs.length + 1 := by
  have := sd_len hp
  simpa using this
end Mine
end

section -- DjP
open PySem PySem.W PySem.Spec PySem.Calls PyProof.Rows
namespace Mine
theorem iabs_comm (a b : Int) : iabs (a - b) = iabs (b - a) := by unfold iabs; split <;> split <;> omega
theorem c_comm (G : Gr) (a b : Int) : G.c a b = G.c b a := iabs_comm _ _
theorem filter_lt {α : Type} {p q : α → Bool} {l : List α} (h : ∀ a, p a = true → q a = true) {x : α} (hx : x ∈ l) (h1 : p x = false) (h2 : q x = true) : (l.filter p).length < (l.filter q).length := by
  induction l with
  | nil => cases hx
  | cons a r ih =>
    have le : ∀ l : List α, (l.filter p).length ≤ (l.filter q).length := by
      intro l
      induction l with
      | nil => simp
      | cons a r ih =>
        rw [List.filter_cons, List.filter_cons]
        cases hp : p a with
        | true => rw [h a hp]; simpa using ih
        | false => cases q a <;> simp <;> omega
    rcases List.mem_cons.mp hx with rfl | hx
    · rw [List.filter_cons, List.filter_cons, h1, h2]
      have := le r
      simp
      omega
    · have := ih hx
      rw [List.filter_cons, List.filter_cons]
      cases hp : p a with
      | true => rw [h a hp]; simpa using this
      | false => cases q a <;> simp <;> omega
/-- induction along ever nearer vertices -/
theorem near_ind {G : Gr} {P : Int → Prop} (step : ∀ v ∈ G.V, (∀ n ∈ G.V, G.D n < G.D v → P n) → P v) : ∀ v ∈ G.V, P v := by
  have all : ∀ k, ∀ v ∈ G.V, (G.V.filter fun u => decide (G.D u < G.D v)).length < k → P v := by
    intro k
    induction k with
    | zero => intro v _ h; exact absurd h (Nat.not_lt_zero _)
    | succ k ih =>
      intro v hv h
      refine step v hv fun n hn hlt => ih n hn ?_
      refine Nat.lt_of_lt_of_le (filter_lt (fun a ha => ?_) hn (by simp) (by simpa using hlt)) (Nat.le_of_lt_succ h)
      simp only [decide_eq_true_eq] at ha ⊢
      omega
  exact fun v hv => all _ v hv (Nat.lt_succ_self _)
section
variable {G : Gr} {act : Int → Int → Prop} {st : St}
theorem D_pos (ok : G.Ok) : ∀ v ∈ G.V, v ≠ G.s → 0 < G.D v := by
  refine near_ind fun v hv ih hvs => ?_
  obtain ⟨b, hb, he⟩ := ok.pre v hv hvs
  have hn := ok.nV v hv b hb
  have hc := ok.pos v hv b hb
  rw [c_comm] at hc
  by_cases hs : nbr v b = G.s
  · rw [hs] at he hc
    rw [ok.D0] at he
    omega
  · have := ih _ hn (by omega) hs
    omega
theorem front (ok : G.Ok) (h : Inv G act st) (hact : ∀ n ∈ modesOf st.ss, ∀ b ∈ G.bits, act n b) : ∀ v ∈ G.V, v ∉ modesOf st.ss → ∃ u, u ∈ G.V ∧ u ∉ modesOf st.ss ∧ st.fL u = some (G.D u) ∧ (u = v ∨ G.D u < G.D v) := by
  refine near_ind fun v hv ih hu => ?_
  by_cases hs : v = G.s
  · subst hs
    exact ⟨G.s, hv, hu, by rw [ok.D0]; exact (h.sFirst hu).2.1, .inl rfl⟩
  · obtain ⟨b, hb, he⟩ := ok.pre v hv hs
    have hn := ok.nV v hv b hb
    have hc := ok.pos v hv b hb
    rw [c_comm] at hc
    by_cases hset : nbr v b ∈ modesOf st.ss
    · have ha := hact _ hset b hb
      cases hfl : st.fL v with
      | none => exact absurd ha (h.none v hv hu hs hfl b hb)
      | some l =>
        have h1 := h.least v hv hu hs l hfl b hb ha
        have h2 := (h.low v l hfl).2
        have : l = G.D v := by omega
        exact ⟨v, hv, hu, by rw [hfl, this], .inl rfl⟩
    · obtain ⟨u, hu1, hu2, hu3, hu4⟩ := ih _ hn (by omega) hset
      refine ⟨u, hu1, hu2, hu3, .inr ?_⟩
      rcases hu4 with rfl | hlt <;> omega
theorem settled_nodup (h : st.ss.Pairwise fun a b => lex2 (a.1, a.2.1) (b.1, b.2.1) = true) (hs : ∀ t ∈ st.ss, t.1 = G.D t.2.1) : (modesOf st.ss).Nodup := by
  unfold modesOf
  rw [List.Nodup, List.pairwise_map]
  refine (List.Pairwise.and_mem.mp h).imp fun {a b} hab e => ?_
  obtain ⟨ha, hb, hl⟩ := hab
  have h1 := hs a ha
  have h2 := hs b hb
  rw [← e] at h2
  simp [lex2, h1, h2, e] at hl
theorem mem_modes {ss : List (Int × Int × Int)} {m : Int} : m ∈ modesOf ss ↔ ∃ t ∈ ss, t.2.1 = m := by
  unfold modesOf
  exact List.mem_map
theorem modes_snoc {ss : List (Int × Int × Int)} {t : Int × Int × Int} {m : Int} : m ∈ modesOf (ss ++ [t]) ↔ m ∈ modesOf ss ∨ m = t.2.1 := by
  unfold modesOf
  simp
theorem nodup_sub_len {a b : List Int} (ha : a.Nodup) (hs : ∀ x ∈ a, x ∈ b) : a.length ≤ b.length := by
  induction a generalizing b with
  | nil => simp
  | cons x r ih =>
    have hx := hs x (.head _)
    obtain ⟨hn, hr⟩ := List.nodup_cons.mp ha
    have := ih (b := b.erase x) hr fun y hy => (List.mem_erase_of_ne (fun e => hn (by rw [← e]; exact hy))).mpr (hs y (.tail _ hy))
    rw [List.length_erase_of_mem hx] at this
    have hp := List.length_pos_of_mem hx
    simp only [List.length_cons]
    omega
theorem sum_one {f : Int → Int} {bit : Int} : ∀ {l : List Int}, l.Nodup → bit ∈ l → ∀ S : Int → Bool, S bit = false → (l.map fun b => if (S b || b == bit) = true then f b else 0).sum = (l.map fun b => if S b = true then f b else 0).sum + f bit
  | [], _, h, _, _ => by cases h
  | a :: r, hn, h, S, hS => by
    obtain ⟨hna, hr⟩ := List.nodup_cons.mp hn
    rw [List.map_cons, List.map_cons, List.sum_cons, List.sum_cons]
    rcases List.mem_cons.mp h with rfl | h
    · have e : (r.map fun b => if (S b || b == bit) = true then f b else 0) = r.map fun b => if S b = true then f b else 0 := by
        refine List.map_congr_left fun b hb => ?_
        have : (b == bit) = false := by
          rw [beq_eq_false_iff_ne]
          intro e
          exact hna (by rw [← e]; exact hb)
        rw [this, Bool.or_false]
      rw [e, hS]
      simp
      omega
    · have e : (a == bit) = false := by
        rw [beq_eq_false_iff_ne]
        intro e
        exact hna (by rw [e]; exact h)
      rw [sum_one hr h S hS, e, Bool.or_false]
      omega
theorem sum_only {f : Int → Int} {bit : Int} {l : List Int} (hn : l.Nodup) (h : bit ∈ l) : (l.map fun b => if (b == bit) = true then f b else 0).sum = f bit := by
  have e := sum_one (f := f) hn h (fun _ => false) rfl
  simp only [Bool.false_or, Bool.false_eq_true, if_false] at e
  rw [e]
  have z : ∀ l : List Int, (l.map fun _ => (0 : Int)).sum = 0 := by
    intro l
    induction l with
    | nil => rfl
    | cons a r ih => rw [List.map_cons, List.sum_cons, ih]; rfl
  rw [z]
  omega
end
theorem dj_init {G : Gr} (ok : G.Ok) {hs : List (Int × Int)} (h : Push [] (0, G.s) hs) : DjInv G ⟨hs, [], upd (fun _ => none) G.s (G.P G.s), upd (fun _ => none) G.s 0, upd (fun _ => none) G.s 1⟩ := by
  obtain ⟨h1, h2⟩ := push_heap h (fun i x y _ hx => by simp at hx)
  have e : hs = [(0, G.s)] := List.perm_singleton.mp h2
  subst e
  have key : ∀ {v : Int} {m x : Int}, upd (fun _ => none) G.s v m = some x → m = G.s ∧ x = v := by
    intro v m x hx
    unfold upd at hx
    split at hx
    · rename_i hm; exact ⟨hm, (Option.some.inj hx).symm⟩
    · cases hx
  have selff : ∀ v : Int, upd (fun _ => none) G.s v G.s = some v := fun v => by simp [upd]
  refine ⟨h1, List.Pairwise.nil, fun t ht => (nomatch ht), ?_, ?_, ?_, ?_, fun m hm => (nomatch hm), fun n b hn => hn, fun _ => ⟨rfl, selff 0, selff 1⟩, fun m _ _ _ _ b _ ha => (nomatch ha), ?_, ?_, ?_, ?_, fun t ht => (nomatch ht), ?_⟩
  · intro m p hp
    obtain ⟨rfl, rfl⟩ := key hp
    exact ⟨ok.sV, rfl⟩
  · intro m l hl
    obtain ⟨rfl, rfl⟩ := key hl
    simp [upd]
  · intro m l hl
    obtain ⟨rfl, rfl⟩ := key hl
    simp [upd]
  · intro m l hl
    obtain ⟨rfl, rfl⟩ := key hl
    exact ⟨ok.sV, by rw [ok.D0]; exact Int.le_refl _⟩
  · intro m _ _ hms l hl
    exact absurd (key hl).1 hms
  · intro m _ _ hms l hl
    exact absurd (key hl).1 hms
  · intro m _ _ hms l hl
    exact absurd (key hl).1 hms
  · intro e he
    rw [List.mem_singleton.mp he]
    exact ⟨0, selff 0, Int.le_refl _, fun h => (nomatch h)⟩
  · intro m _ l hl
    obtain ⟨rfl, rfl⟩ := key hl
    simp
theorem dj_done {G : Gr} (_ok : G.Ok) {st : St} {mode : Int} (h : RInv G mode G.bits st) : DjInv G st := by
  obtain ⟨hm, h⟩ := h
  have eqv : ∀ n, ∀ b ∈ G.bits, (n ∈ modesOf st.ss ∧ (n = mode → b ∈ G.bits)) ↔ n ∈ modesOf st.ss := fun n b hb => ⟨fun h => h.1, fun h => ⟨h, fun _ => hb⟩⟩
  refine ⟨h.heap, h.sorted, h.setl, h.price, h.pkey, h.wkey, h.low, h.sL, fun _ _ h => h, h.sFirst, ?_, ?_, ?_, ?_, h.ent, h.ord, h.one⟩
  · exact fun m h1 h2 h3 h4 b hb ha => h.none m h1 h2 h3 h4 b hb ((eqv _ b hb).mpr ha)
  · intro m h1 h2 h3 l hl
    obtain ⟨b, hb, ha, he⟩ := h.wit m h1 h2 h3 l hl
    exact ⟨b, hb, ha.1, he⟩
  · exact fun m h1 h2 h3 l hl b hb ha => h.least m h1 h2 h3 l hl b hb ((eqv _ b hb).mpr ha)
  · intro m h1 h2 h3 l hl
    obtain ⟨S, hS, hW⟩ := h.sum m h1 h2 h3 l hl
    exact ⟨S, fun b hb => (hS b hb).trans (and_congr (eqv _ b hb) Iff.rfl), hW⟩
theorem dj_end {G : Gr} (ok : G.Ok) {st : St} (h : DjInv G st) (he : st.hs = []) : (modesOf st.ss).Perm G.V := by
  have hn : (modesOf st.ss).Nodup := settled_nodup (G := G) h.sorted fun t ht => (h.setl t ht).2.1
  refine (List.perm_ext_iff_of_nodup hn ok.nodup).mpr fun v => ⟨fun hv => ?_, fun hv => ?_⟩
  · obtain ⟨t, ht, rfl⟩ := mem_modes.mp hv
    exact (h.setl t ht).1
  · refine Classical.byContradiction fun hu => ?_
    obtain ⟨u, hu1, hu2, hu3, _⟩ := front ok h (fun n hn b _ => hn) v hv hu
    have := h.one u hu2 _ hu3
    rw [he] at this
    simp at this
theorem dj_pop {G : Gr} (ok : G.Ok) {st : St} (h : DjInv G st) {hs0 : List (Int × Int)} {y x : Int × Int} {hs' : List (Int × Int)} (e : st.hs = hs0 ++ [y]) (hp : PopRel hs0 y x hs') :
    ∃ l wm, st.fL x.2 = some l ∧ st.fW x.2 = some wm ∧ x.2 ∈ G.V ∧
      (l < x.1 → DjInv G { st with hs := hs' } ∧ meas G { st with hs := hs' } < meas G st) ∧
      (¬ l < x.1 → x.1 = G.D x.2 ∧ st.ss.length < G.V.length ∧ RInv G x.2 [] { st with hs := hs', ss := st.ss ++ [(x.1, x.2, wm)] }) := by
  obtain ⟨k1, k2, k3⟩ := pop_heap hp (by rw [← e]; exact h.heap)
  rw [← e] at k2 k3
  have hx : x ∈ st.hs := k2.mem_iff.mpr (.head _)
  have sub : ∀ z ∈ hs', z ∈ st.hs := fun z hz => k2.mem_iff.mpr (.tail _ hz)
  have cnt : ∀ z, st.hs.count z = hs'.count z + if x == z then 1 else 0 := fun z => by rw [k2.count_eq, List.count_cons]
  obtain ⟨l, hl, hlx, hset⟩ := h.ent x hx
  obtain ⟨wm, hwm⟩ := Option.ne_none_iff_exists'.mp (h.wkey _ _ hl)
  have hV := (h.low _ _ hl).1
  refine ⟨l, wm, hl, hwm, hV, fun hlt => ⟨?_, ?_⟩, fun hnl => ?_⟩
  · refine ⟨k1, h.sorted, h.setl, h.price, h.pkey, h.wkey, h.low, h.sL, h.actS, h.sFirst, h.none, h.wit, h.least, h.sum, fun z hz => h.ent z (sub z hz), h.ord, fun m hm l' hl' => ?_⟩
    have h1 := h.one m hm l' hl'
    have h2 := cnt (l', m)
    have h3 : (x == (l', m)) = false := by
      rw [beq_eq_false_iff_ne]
      intro e2
      rw [e2] at hl hlt
      rw [hl'] at hl
      cases hl
      exact absurd hlt (Int.lt_irrefl _)
    rw [h3] at h2
    simp only [Bool.false_eq_true, if_false] at h2
    show hs'.count (l', m) = 1
    omega
  · have := k2.length_eq
    rw [List.length_cons] at this
    unfold meas
    dsimp only
    omega
  · have hxl : x.1 = l := by omega
    have hu : x.2 ∉ modesOf st.ss := fun hm => hnl (hset hm)
    have fr := front ok h (fun n hn b _ => hn)
    have min : ∀ u, u ∉ modesOf st.ss → st.fL u = some (G.D u) → le2 x (G.D u, u) := by
      intro u hu1 hu2
      have := h.one u hu1 _ hu2
      exact k3 _ (by rw [← List.count_pos_iff]; omega)
    have hD : x.1 = G.D x.2 := by
      obtain ⟨u, _, hu2, hu3, hu4⟩ := fr x.2 hV hu
      have h1 := min u hu2 hu3
      have h2 := (h.low _ _ hl).2
      simp only [le2, lex2, decide_eq_false_iff_not] at h1
      rcases hu4 with rfl | hlt
      · omega
      · omega
    have far : ∀ v ∈ G.V, v ∉ modesOf st.ss → v ≠ x.2 → lex2 x (G.D v, v) = true := by
      intro v hv hvu hne
      obtain ⟨u, _, hu2, hu3, hu4⟩ := fr v hv hvu
      have h1 := min u hu2 hu3
      simp only [le2, lex2, decide_eq_false_iff_not, decide_eq_true_eq] at h1 ⊢
      rcases hu4 with rfl | hlt
      · omega
      · omega
    have hnd : (modesOf st.ss).Nodup := settled_nodup (G := G) h.sorted fun t ht => (h.setl t ht).2.1
    have hW : wm = G.W x.2 := by
      by_cases hs : x.2 = G.s
      · have := (h.sFirst (by rw [← hs]; exact hu)).2.2
        rw [← hs, hwm] at this
        rw [hs, ok.W0]
        exact Option.some.inj this
      · obtain ⟨S, hS, hWs⟩ := h.sum x.2 hV hu hs l hl
        rw [hwm] at hWs
        rw [Option.some.inj hWs, ok.ways x.2 hV hs]
        refine congrArg List.sum (List.map_congr_left fun b hb => ?_)
        have hnV := ok.nV x.2 hV b hb
        have hc := ok.pos x.2 hV b hb
        rw [c_comm] at hc
        by_cases ht : G.D (nbr x.2 b) + G.c (nbr x.2 b) x.2 = G.D x.2
        · have hsn : nbr x.2 b ∈ modesOf st.ss := by
            refine Classical.byContradiction fun hnu => ?_
            obtain ⟨u, _, hu2, hu3, hu4⟩ := fr _ hnV hnu
            have h1 := min u hu2 hu3
            simp only [le2, lex2, decide_eq_false_iff_not] at h1
            rcases hu4 with rfl | hlt <;> omega
          rw [if_pos ht, if_pos ((hS b hb).mpr ⟨hsn, by rw [ht, ← hD, hxl]⟩)]
        · rw [if_neg ht, if_neg]
          intro hSb
          exact ht (by rw [((hS b hb).mp hSb).2, ← hxl, hD])
    have hfirst : G.s ∉ modesOf (st.ss ++ [(x.1, x.2, wm)]) → False := by
      intro hsn
      have hsn' : G.s ∉ modesOf st.ss := fun hh => hsn (modes_snoc.mpr (.inl hh))
      have hne : x.2 ≠ G.s := fun hh => hsn (modes_snoc.mpr (.inr hh.symm))
      have hp := D_pos ok x.2 hV hne
      have h1 := min G.s hsn' (by rw [ok.D0]; exact (h.sFirst hsn').2.1)
      simp only [le2, lex2, decide_eq_false_iff_not] at h1
      have := ok.D0
      omega
    refine ⟨hD, ?_, modes_snoc.mpr (.inr rfl), k1, ?_, ?_, h.price, h.pkey, h.wkey, h.low, ?_, ?_, fun hsn => (hfirst hsn).elim, ?_, ?_, ?_, ?_, ?_, ?_, ?_⟩
    · have hle := nodup_sub_len (a := x.2 :: modesOf st.ss) (b := G.V) (List.nodup_cons.mpr ⟨hu, hnd⟩) (fun z hz => ?_)
      · simp only [List.length_cons, modesOf, List.length_map] at hle
        omega
      · rcases List.mem_cons.mp hz with rfl | hz
        · exact hV
        · obtain ⟨t, ht, rfl⟩ := mem_modes.mp hz
          exact (h.setl t ht).1
    · refine List.pairwise_append.mpr ⟨h.sorted, List.pairwise_singleton _ _, fun a ha b hb => ?_⟩
      rw [List.mem_singleton.mp hb]
      have := h.ord a ha x.2 hV hu
      rw [← hD] at this
      exact this
    · intro t ht
      rcases List.mem_append.mp ht with ht | ht
      · exact h.setl t ht
      · rw [List.mem_singleton.mp ht]
        exact ⟨hV, hD, hW⟩
    · intro m hm
      rcases modes_snoc.mp hm with hm | rfl
      · exact h.sL m hm
      · show st.fL x.2 = _
        rw [hl, ← hD, hxl]
    · exact fun n b hn => hn.1
    · intro m hm hmu hms hf b hb ha
      refine h.none m hm (fun hh => hmu (modes_snoc.mpr (.inl hh))) hms hf b hb ?_
      rcases modes_snoc.mp ha.1 with h1 | h1
      · exact h1
      · exact absurd (ha.2 h1) (by simp)
    · intro m hm hmu hms l' hl'
      obtain ⟨b, hb, ha, he⟩ := h.wit m hm (fun hh => hmu (modes_snoc.mpr (.inl hh))) hms l' hl'
      exact ⟨b, hb, ⟨modes_snoc.mpr (.inl ha), fun e2 => absurd (by rw [← e2]; exact ha) hu⟩, he⟩
    · intro m hm hmu hms l' hl' b hb ha
      refine h.least m hm (fun hh => hmu (modes_snoc.mpr (.inl hh))) hms l' hl' b hb ?_
      rcases modes_snoc.mp ha.1 with h1 | h1
      · exact h1
      · exact absurd (ha.2 h1) (by simp)
    · intro m hm hmu hms l' hl'
      obtain ⟨S, hS, hWs⟩ := h.sum m hm (fun hh => hmu (modes_snoc.mpr (.inl hh))) hms l' hl'
      refine ⟨S, fun b hb => (hS b hb).trans (and_congr ⟨fun ha => ⟨modes_snoc.mpr (.inl ha), fun e2 => absurd (by rw [← e2]; exact ha) hu⟩, fun ha => ?_⟩ Iff.rfl), hWs⟩
      rcases modes_snoc.mp ha.1 with h1 | h1
      · exact h1
      · exact absurd (ha.2 h1) (by simp)
    · intro z hz
      obtain ⟨l', h1, h2, h3⟩ := h.ent z (sub z hz)
      refine ⟨l', h1, h2, fun hm => ?_⟩
      rcases modes_snoc.mp hm with hm | hm
      · exact h3 hm
      · have hm : z.2 = x.2 := hm
        rw [hm, hl] at h1
        cases h1
        have h4 := h.one x.2 hu l hl
        have h5 := cnt (l, x.2)
        rw [show (x == (l, x.2)) = true by rw [← hxl]; exact beq_self_eq_true _] at h5
        simp only [if_true] at h5
        have h6 : hs'.count (l, x.2) = 0 := by omega
        refine Classical.byContradiction fun hge => ?_
        have : z = (l, x.2) := Prod.ext (by show z.1 = l; omega) hm
        rw [← this] at h6
        exact absurd (List.count_pos_iff.mpr (show z ∈ hs' from hz)) (by omega)
    · intro t ht m hm hmu
      have hmu' : m ∉ modesOf st.ss := fun hh => hmu (modes_snoc.mpr (.inl hh))
      rcases List.mem_append.mp ht with ht | ht
      · exact h.ord t ht m hm hmu'
      · rw [List.mem_singleton.mp ht]
        exact far m hm hmu' fun e2 => hmu (modes_snoc.mpr (.inr e2))
    · intro m hmu l' hl'
      have hmu' : m ∉ modesOf st.ss := fun hh => hmu (modes_snoc.mpr (.inl hh))
      have h1 := h.one m hmu' l' hl'
      have h2 := cnt (l', m)
      have h3 : (x == (l', m)) = false := by
        rw [beq_eq_false_iff_ne]
        intro e2
        exact hmu (modes_snoc.mpr (.inr (by rw [e2])))
      rw [h3] at h2
      simp only [Bool.false_eq_true, if_false] at h2
      show hs'.count (l', m) = 1
      omega
theorem upd_self {f : Int → Option Int} {k v : Int} : upd f k v k = some v := by simp [upd]
theorem upd_ne {f : Int → Option Int} {k v x : Int} (h : x ≠ k) : upd f k v x = f x := by simp [upd, h]
theorem seen_at {P : Int → Int} {f : Int → Option Int} {o : Int} (v : Int) (h : f o = some v) : seen P f o = f := by unfold seen; rw [h]
theorem seen_no {P : Int → Int} {f : Int → Option Int} {o : Int} (h : f o = none) : seen P f o = upd f o (P o) := by unfold seen; rw [h]
theorem seen_some {P : Int → Int} {f : Int → Option Int} {o m : Int} (h : f m ≠ none) : seen P f o m ≠ none := by
  cases e : f o with
  | some v => rw [seen_at v e]; exact h
  | none =>
    rw [seen_no e]
    unfold upd
    split
    · simp
    · exact h
theorem seen_self {P : Int → Int} {f : Int → Option Int} {o : Int} : seen P f o o ≠ none := by
  cases e : f o with
  | some v => rw [seen_at v e, e]; simp
  | none => rw [seen_no e, upd_self]; simp
theorem seen_val {P : Int → Int} {f : Int → Option Int} {o m p : Int} (h : seen P f o m = some p) : f m = some p ∨ (m = o ∧ p = P o) := by
  cases e : f o with
  | some v => rw [seen_at v e] at h; exact .inl h
  | none =>
    rw [seen_no e] at h
    unfold upd at h
    split at h
    · rename_i hm; exact .inr ⟨hm, (Option.some.inj h).symm⟩
    · exact .inl h
theorem dj_relax {G : Gr} (ok : G.Ok) {st st' : St} {cost mode wm : Int} {pre : List Int} {bit : Int} (h : RInv G mode pre st) (hc : cost = G.D mode) (hw : wm = G.W mode) (hb : bit ∈ G.bits) (hn : bit ∉ pre) (hr : Relax G cost mode wm st bit st') : RInv G mode (pre ++ [bit]) st' := by
  obtain ⟨hm, h⟩ := h
  have hmV : mode ∈ G.V := by
    obtain ⟨t, ht, rfl⟩ := mem_modes.mp hm
    exact (h.setl t ht).1
  subst hc hw
  obtain ⟨o, ho⟩ : ∃ o, o = nbr mode bit := ⟨_, rfl⟩
  have hoV : o ∈ G.V := by rw [ho]; exact ok.nV mode hmV bit hb
  have hback : nbr o bit = mode := by rw [ho]; exact ok.inv mode hmV bit hb
  have htri : G.D o ≤ G.D mode + G.c mode o := by rw [ho]; exact ok.tri mode hmV bit hb
  have hcc : G.c o mode = G.c mode o := c_comm G o mode
  have hsS : G.s ∈ modesOf st.ss := by
    refine Classical.byContradiction fun hh => ?_
    have := (h.sFirst hh).1
    rw [this] at hm
    cases hm
  -- the looks that are new
  have new_o : ∀ m ∈ G.V, ∀ b ∈ G.bits, nbr m b = mode → b = bit → m = o := by
    intro m hmm b hbb e1 e2
    rw [ho, ← e1, e2]
    exact (ok.inv m hmm bit hb).symm
  have up : ∀ {n b : Int}, (n ∈ modesOf st.ss ∧ (n = mode → b ∈ pre)) → (n ∈ modesOf st.ss ∧ (n = mode → b ∈ pre ++ [bit])) := fun ha => ⟨ha.1, fun e => List.mem_append_left _ (ha.2 e)⟩
  have dn : ∀ {n b : Int}, (n ∈ modesOf st.ss ∧ (n = mode → b ∈ pre ++ [bit])) → (n ∈ modesOf st.ss ∧ (n = mode → b ∈ pre)) ∨ (n = mode ∧ b = bit) := by
    intro n b ha
    by_cases e : n = mode
    · rcases List.mem_append.mp (ha.2 e) with h1 | h1
      · exact .inl ⟨ha.1, fun _ => h1⟩
      · exact .inr ⟨e, List.mem_singleton.mp h1⟩
    · exact .inl ⟨ha.1, fun e2 => absurd e2 e⟩
  have dn' : ∀ m ∈ G.V, m ≠ o → ∀ b ∈ G.bits, (nbr m b ∈ modesOf st.ss ∧ (nbr m b = mode → b ∈ pre ++ [bit])) → (nbr m b ∈ modesOf st.ss ∧ (nbr m b = mode → b ∈ pre)) := by
    intro m hmm hmo b hbb ha
    rcases dn ha with h1 | ⟨h1, h2⟩
    · exact h1
    · exact absurd (new_o m hmm b hbb h1 h2) hmo
  have dno : ∀ b ∈ G.bits, (nbr o b ∈ modesOf st.ss ∧ (nbr o b = mode → b ∈ pre ++ [bit])) → (nbr o b ∈ modesOf st.ss ∧ (nbr o b = mode → b ∈ pre)) ∨ b = bit := by
    intro b hbb ha
    rcases dn ha with h1 | ⟨_, h2⟩
    · exact .inl h1
    · exact .inr h2
  have notyet : ¬ (nbr o bit ∈ modesOf st.ss ∧ (nbr o bit = mode → bit ∈ pre)) := fun ha => hn (ha.2 hback)
  have isnow : nbr o bit ∈ modesOf st.ss ∧ (nbr o bit = mode → bit ∈ pre ++ [bit]) := ⟨by rw [hback]; exact hm, fun _ => by simp⟩
  have price' : ∀ m p, seen G.P st.fP o m = some p → m ∈ G.V ∧ p = G.P m := by
    intro m p hp
    rcases seen_val hp with h1 | ⟨rfl, rfl⟩
    · exact h.price m p h1
    · exact ⟨hoV, rfl⟩
  -- a fresh and better value at o
  have better : ∀ hs' : List (Int × Int), Push st.hs (G.D mode + G.c mode o, o) hs' → o ∉ modesOf st.ss → (∀ l, st.fL o = some l → G.D mode + G.c mode o < l) →
      RInv G mode (pre ++ [bit]) ⟨hs', st.ss, seen G.P st.fP o, upd st.fL o (G.D mode + G.c mode o), upd st.fW o (G.W mode)⟩ := by
    intro hs' hpush hou hbet
    obtain ⟨k1, k2⟩ := push_heap hpush h.heap
    have hos : o ≠ G.s := fun e => hou (by rw [e]; exact hsS)
    have cnt : ∀ z, hs'.count z = st.hs.count z + if (G.D mode + G.c mode o, o) == z then 1 else 0 := fun z => by rw [k2.count_eq, List.count_cons]
    have only : ∀ b ∈ G.bits, (nbr o b ∈ modesOf st.ss ∧ (nbr o b = mode → b ∈ pre ++ [bit])) → G.D (nbr o b) + G.c (nbr o b) o ≤ G.D mode + G.c mode o → b = bit := by
      intro b hbb ha hle
      rcases dno b hbb ha with h1 | h1
      · cases hfo : st.fL o with
        | none => exact absurd h1 (h.none o hoV hou hos hfo b hbb)
        | some l =>
          have h2 := h.least o hoV hou hos l hfo b hbb h1
          have h3 := hbet l hfo
          omega
      · exact h1
    refine ⟨hm, k1, h.sorted, h.setl, price', ?_, ?_, ?_, ?_, fun n b ha => ha.1, fun hh => absurd hsS hh, ?_, ?_, ?_, ?_, ?_, h.ord, ?_⟩
    · intro m l hl
      by_cases e : m = o
      · rw [e]; exact seen_self
      · have hl : upd st.fL o (G.D mode + G.c mode o) m = some l := hl
        rw [upd_ne e] at hl
        exact seen_some (h.pkey m l hl)
    · intro m l hl
      show upd st.fW o (G.W mode) m ≠ none
      have hl : upd st.fL o (G.D mode + G.c mode o) m = some l := hl
      by_cases e : m = o
      · rw [e, upd_self]; simp
      · rw [upd_ne e] at hl ⊢
        exact h.wkey m l hl
    · intro m l hl
      have hl : upd st.fL o (G.D mode + G.c mode o) m = some l := hl
      by_cases e : m = o
      · subst e
        rw [upd_self] at hl
        cases hl
        exact ⟨hoV, htri⟩
      · rw [upd_ne e] at hl
        exact h.low m l hl
    · intro m hmm
      have e : m ≠ o := fun e => hou (by rw [← e]; exact hmm)
      show upd st.fL o (G.D mode + G.c mode o) m = _
      rw [upd_ne e]
      exact h.sL m hmm
    · intro m hmm hmu hms hf b hbb ha
      have hf : upd st.fL o (G.D mode + G.c mode o) m = none := hf
      by_cases e : m = o
      · subst e
        rw [upd_self] at hf
        cases hf
      · rw [upd_ne e] at hf
        exact h.none m hmm hmu hms hf b hbb (dn' m hmm e b hbb ha)
    · intro m hmm hmu hms l hl
      have hl : upd st.fL o (G.D mode + G.c mode o) m = some l := hl
      by_cases e : m = o
      · subst e
        rw [upd_self] at hl
        cases hl
        exact ⟨bit, hb, isnow, by rw [hback]⟩
      · rw [upd_ne e] at hl
        obtain ⟨b, hbb, ha, he⟩ := h.wit m hmm hmu hms l hl
        exact ⟨b, hbb, up ha, he⟩
    · intro m hmm hmu hms l hl b hbb ha
      have hl : upd st.fL o (G.D mode + G.c mode o) m = some l := hl
      by_cases e : m = o
      · subst e
        rw [upd_self] at hl
        cases hl
        refine Classical.byContradiction fun hlt => ?_
        have := only b hbb ha (by omega)
        rw [this, hback] at hlt
        omega
      · rw [upd_ne e] at hl
        exact h.least m hmm hmu hms l hl b hbb (dn' m hmm e b hbb ha)
    · intro m hmm hmu hms l hl
      have hl : upd st.fL o (G.D mode + G.c mode o) m = some l := hl
      by_cases e : m = o
      · subst e
        rw [upd_self] at hl
        cases hl
        refine ⟨fun b => b == bit, fun b hbb => ⟨fun hS => ?_, fun ha => ?_⟩, ?_⟩
        · have := eq_of_beq hS
          rw [this]
          exact ⟨isnow, by rw [hback]⟩
        · rw [only b hbb ha.1 (by omega)]
          exact beq_self_eq_true _
        · show upd st.fW m (G.W mode) m = _
          rw [upd_self, sum_only (f := fun b => G.W (nbr m b)) ok.bnd hb, hback]
      · rw [upd_ne e] at hl
        obtain ⟨S, hS, hW⟩ := h.sum m hmm hmu hms l hl
        refine ⟨S, fun b hbb => (hS b hbb).trans (and_congr ⟨up, dn' m hmm e b hbb⟩ Iff.rfl), ?_⟩
        show upd st.fW o (G.W mode) m = _
        rw [upd_ne e]
        exact hW
    · intro z hz
      show ∃ l, upd st.fL o (G.D mode + G.c mode o) z.2 = some l ∧ _
      rcases List.mem_cons.mp (k2.mem_iff.mp hz) with rfl | hz
      · exact ⟨_, upd_self, Int.le_refl _, fun hh => absurd hh hou⟩
      · obtain ⟨l, h1, h2, h3⟩ := h.ent z hz
        by_cases e : z.2 = o
        · rw [e, upd_self]
          rw [e] at h1
          have := hbet l h1
          exact ⟨_, rfl, by omega, fun hh => absurd hh hou⟩
        · rw [upd_ne e]
          exact ⟨l, h1, h2, h3⟩
    · intro m hmu l hl
      have hl : upd st.fL o (G.D mode + G.c mode o) m = some l := hl
      show hs'.count (l, m) = 1
      rw [cnt]
      by_cases e : m = o
      · subst e
        rw [upd_self] at hl
        cases hl
        rw [beq_self_eq_true]
        have : st.hs.count (G.D mode + G.c mode m, m) = 0 := by
          refine List.count_eq_zero.mpr fun hin => ?_
          obtain ⟨l, h1, h2, _⟩ := h.ent _ hin
          have := hbet l h1
          dsimp only at h2
          omega
        rw [this]
        rfl
      · rw [upd_ne e] at hl
        rw [h.one m hmu l hl]
        have : ((G.D mode + G.c mode o, o) == (l, m)) = false := by
          rw [beq_eq_false_iff_ne]
          intro e2
          exact e (congrArg Prod.snd e2).symm
        rw [this]
        rfl
  -- the value at o stands
  have stays : ∀ l : Int, st.fL o = some l → ∀ fW' : Int → Option Int, (∀ m, m ≠ o → fW' m = st.fW m) → fW' o ≠ none → l ≤ G.D mode + G.c mode o →
      (o ∉ modesOf st.ss → o ≠ G.s → ∃ S : Int → Bool, (∀ b ∈ G.bits, S b = true ↔ ((nbr o b ∈ modesOf st.ss ∧ (nbr o b = mode → b ∈ pre ++ [bit])) ∧ G.D (nbr o b) + G.c (nbr o b) o = l)) ∧ fW' o = some ((G.bits.map fun b => if S b = true then G.W (nbr o b) else 0).sum)) →
      RInv G mode (pre ++ [bit]) ⟨st.hs, st.ss, seen G.P st.fP o, st.fL, fW'⟩ := by
    intro l hfo fW' hfW hfo' hle hsum
    refine ⟨hm, h.heap, h.sorted, h.setl, price', fun m l hl => seen_some (h.pkey m l hl), ?_, h.low, h.sL, fun n b ha => ha.1, fun hh => absurd hsS hh, ?_, ?_, ?_, ?_, h.ent, h.ord, h.one⟩
    · intro m l hl
      show fW' m ≠ none
      by_cases e : m = o
      · rw [e]; exact hfo'
      · rw [hfW m e]; exact h.wkey m l hl
    · intro m hmm hmu hms hf b hbb ha
      have e : m ≠ o := fun e => by
        have hf : st.fL m = none := hf
        rw [e, hfo] at hf
        cases hf
      exact h.none m hmm hmu hms hf b hbb (dn' m hmm e b hbb ha)
    · intro m hmm hmu hms l hl
      obtain ⟨b, hbb, ha, he⟩ := h.wit m hmm hmu hms l hl
      exact ⟨b, hbb, up ha, he⟩
    · intro m hmm hmu hms l' hl b hbb ha
      have hl : st.fL m = some l' := hl
      by_cases e : m = o
      · subst e
        rw [hfo] at hl
        cases hl
        rcases dno b hbb ha with h1 | h1
        · exact h.least m hmm hmu hms l hfo b hbb h1
        · rw [h1, hback]; exact hle
      · exact h.least m hmm hmu hms l' hl b hbb (dn' m hmm e b hbb ha)
    · intro m hmm hmu hms l' hl
      have hl : st.fL m = some l' := hl
      by_cases e : m = o
      · subst e
        rw [hfo] at hl
        cases hl
        exact hsum hmu hms
      · obtain ⟨S, hS, hW⟩ := h.sum m hmm hmu hms l' hl
        refine ⟨S, fun b hbb => (hS b hbb).trans (and_congr ⟨up, dn' m hmm e b hbb⟩ Iff.rfl), ?_⟩
        show fW' m = _
        rw [hfW m e]
        exact hW
  cases hr with
  | new hf hpush =>
    rw [← ho] at hf hpush ⊢
    refine better _ hpush (fun hh => ?_) (fun l hl => by rw [hf] at hl; cases hl)
    rw [h.sL o hh] at hf
    cases hf
  | less hf hlt hpush =>
    rw [← ho] at hf hlt hpush ⊢
    refine better _ hpush (fun hh => ?_) (fun l' hl => by rw [hf] at hl; cases hl; exact hlt)
    rw [h.sL o hh] at hf
    cases hf
    omega
  | same hf hwo =>
    rename_i wo
    rw [← ho] at hf hwo ⊢
    refine stays _ hf _ (fun m hmo => upd_ne hmo) (by rw [upd_self]; simp) (Int.le_refl _) fun hou hos => ?_
    obtain ⟨S, hS, hW⟩ := h.sum o hoV hou hos _ hf
    have hSb : S bit = false := by
      cases e : S bit with
      | false => rfl
      | true => exact absurd ((hS bit hb).mp e).1 notyet
    refine ⟨fun b => S b || b == bit, fun b hbb => ⟨fun hh => ?_, fun ha => ?_⟩, ?_⟩
    · rcases Bool.or_eq_true_iff.mp hh with h1 | h1
      · have := (hS b hbb).mp h1
        exact ⟨up this.1, this.2⟩
      · rw [eq_of_beq h1]
        exact ⟨isnow, by rw [hback]⟩
    · rcases dno b hbb ha.1 with h1 | h1
      · exact Bool.or_eq_true_iff.mpr (.inl ((hS b hbb).mpr ⟨h1, ha.2⟩))
      · exact Bool.or_eq_true_iff.mpr (.inr (by rw [h1]; exact beq_self_eq_true _))
    · rw [upd_self, sum_one (f := fun b => G.W (nbr o b)) ok.bnd hb S hSb, hback]
      rw [hwo] at hW
      rw [Option.some.inj hW]
  | more hf hlt =>
    rename_i l
    rw [← ho] at hf hlt ⊢
    refine stays l hf _ (fun _ _ => rfl) (h.wkey o l hf) (by omega) fun hou hos => ?_
    obtain ⟨S, hS, hW⟩ := h.sum o hoV hou hos _ hf
    refine ⟨S, fun b hbb => ⟨fun hh => ⟨up ((hS b hbb).mp hh).1, ((hS b hbb).mp hh).2⟩, fun ha => (hS b hbb).mpr ⟨?_, ha.2⟩⟩, hW⟩
    rcases dno b hbb ha.1 with h1 | h1
    · exact h1
    · have := ha.2
      rw [h1, hback] at this
      omega
end Mine
end

section -- DictL
open PySem PySem.W PySem.Spec PySem.Calls PyProof.Rows
namespace Mine
theorem valueAt_cons (a : Int × Value) (r : List (Int × Value)) (x : Int) : valueAt (a :: r) x = if a.1 = x then some a.2 else valueAt r x := by
  unfold valueAt
  by_cases h : a.1 = x
  · simp [List.find?_cons, h]
  · simp [List.find?_cons, h]
theorem valueAt_map (k : Int) (v : Value) (x : Int) : ∀ kvs : List (Int × Value), valueAt (kvs.map fun kv => if kv.1 = k then (kv.1, v) else kv) x = if x = k then (valueAt kvs x).map fun _ => v else valueAt kvs x
  | [] => by simp [valueAt]
  | a :: r => by
    rw [List.map_cons, valueAt_cons, valueAt_cons, valueAt_map k v x r]
    by_cases ha : a.1 = k <;> by_cases hx : x = k <;> by_cases hax : a.1 = x <;> simp_all
theorem valueAt_append (b : Int × Value) (x : Int) : ∀ kvs : List (Int × Value), valueAt (kvs ++ [b]) x = match valueAt kvs x with | some v => some v | none => if b.1 = x then some b.2 else none
  | [] => by rw [List.nil_append, valueAt_cons]; rfl
  | a :: r => by
    rw [List.cons_append, valueAt_cons, valueAt_cons, valueAt_append b x r]
    by_cases hax : a.1 = x <;> simp [hax]
theorem any_valueAt (k : Int) : ∀ kvs : List (Int × Value), (kvs.any fun kv => kv.1 = k) = (valueAt kvs k).isSome
  | [] => rfl
  | a :: r => by
    rw [List.any_cons, valueAt_cons, any_valueAt k r]
    by_cases h : a.1 = k <;> simp [h]
theorem valueAt_stored (kvs : List (Int × Value)) (k : Int) (v : Value) (x : Int) : valueAt (stored kvs k v) x = if x = k then some v else valueAt kvs x := by
  unfold stored
  rw [any_valueAt]
  cases h : valueAt kvs k with
  | some u =>
    rw [if_pos (by rfl), valueAt_map]
    by_cases hx : x = k
    · subst hx; simp [h]
    · simp [hx]
  | none =>
    rw [if_neg (by simp), valueAt_append]
    by_cases hx : x = k
    · subst hx; simp [h]
    · have hx' : ¬ k = x := fun e => hx e.symm
      simp only [hx, hx', if_false]
      cases valueAt kvs x <;> rfl

/-- a dict of ints under int keys -/
noncomputable def IDict (prog : Program) (w : World) (o : Obj) (f : Int → Option Int) (sz : Nat) : Prop :=
  ∃ kvs, o.IsDictOf (intKind prog w) kvs ∧ kvs.length ≤ sz ∧ ∀ k, match f k with | some v => ∃ t, valueAt kvs k = some (.int v t) | none => valueAt kvs k = none

noncomputable abbrev dictE : Obj := { cls := .type "dict", data := .dict #[] }
section
variable {prog : Program} {w : World} {A : Around} {E : Value → Shared → Prop} {s : Shared} {h₀ : Heap} {L d : Addr} {m : Str → Option Value} {news rest : List (Addr × Obj)} {o : Obj} {f : Int → Option Int} {sz : Nat} {k : Int} {t u : Tok}
theorem IDict.some (D : IDict prog w o f sz) {v : Int} (h : f k = .some v) {Q : Prop} (hq : ∀ kvs t, o.IsDictOf (intKind prog w) kvs → valueAt kvs k = .some (.int v t) → Q) : Q := by
  obtain ⟨kvs, a, _, c⟩ := D
  have := c k
  rw [h] at this
  obtain ⟨t, ht⟩ := this
  exact hq kvs t a ht
theorem IDict.isSome (D : IDict prog w o f sz) : ∃ kvs, o.IsDictOf (intKind prog w) kvs ∧ ∀ k, (valueAt kvs k).isSome = (f k).isSome := by
  obtain ⟨kvs, a, _, c⟩ := D
  refine ⟨kvs, a, fun k => ?_⟩
  have := c k
  cases h : f k with
  | none => rw [h] at this; rw [this]; rfl
  | some v => rw [h] at this; obtain ⟨t, ht⟩ := this; rw [ht]; rfl
theorem dget_l {value slice : Expr} {v : Int} {Q : Value → Shared → Prop} (N : News h₀ L s.heap news) (hm : (d, o) ∈ news) (D : IDict prog w o f sz) (hk : f k = some v) (h : ∀ t, Q (.int v t) { s with toks := s.toks + 1 })
    (hs : subscripted slice false (.ref d) (.int k u) = operate [.ref d, .int k u] (getItem (.ref d) (.int k u)) := by with_unfolding_all rfl) (hg : ∀ r, letTemporaryGo value (.ref d) r = pure () := by intro _; with_unfolding_all rfl) :
    wpAny (model prog w) A (subscriptTail value slice (.ref d) (.int k u)) Q E s := by
  refine D.some hk fun kvs t hd hv => ?_
  have hD : s.heap.DictOf (intKind prog w) d kvs := Heap.dictOf_iff.mpr ⟨o, (N _ hm).1, hd⟩
  exact subscriptTail_builtin hD.typeIs slot_dict_getitem.lookup (wpAny_getItem_of (intKind_is prog w k u) hD.mapOf hv (h t)) hs hg
theorem dgetItem_l {v : Int} {Q : Value → Shared → Prop} (N : News h₀ L s.heap news) (hm : (d, o) ∈ news) (D : IDict prog w o f sz) (hk : f k = some v) (h : ∀ t, Q (.int v t) { s with toks := s.toks + 1 }) :
    wpAny (model prog w) A (getItem (.ref d) (.int k u)) Q E s := by
  refine D.some hk fun kvs t hd hv => ?_
  have hD : s.heap.DictOf (intKind prog w) d kvs := Heap.dictOf_iff.mpr ⟨o, (N _ hm).1, hd⟩
  exact wpAny_getItem_of (intKind_is prog w k u) hD.mapOf hv (h t)
theorem din_l {Q : Value → Shared → Prop} (N : News h₀ L s.heap news) (hm : (d, o) ∈ news) (lo : (d == sysModules) = false) (D : IDict prog w o f sz) (h : Q (.bool (!(f k).isSome)) { s with toks := s.toks + 1 }) :
    wpAny (model prog w) A (compareOp .NotIn (.int k u) (.ref d)) Q E s := by
  obtain ⟨kvs, hd, e⟩ := D.isSome
  have hD : s.heap.DictOf (intKind prog w) d kvs := Heap.dictOf_iff.mpr ⟨o, (N _ hm).1, hd⟩
  exact wpAny_notIn_of (intKind_is prog w k u) lo hD.mapOf (by rw [e]; exact h)
theorem dset_l {v : Int} {Q : Unit → Shared → Prop} {g : Obj → List (Addr × Obj)} (F : Fr h₀ L s.heap m) (N : News h₀ L s.heap news) (U : UpdF d o news g) (D : IDict prog w o f sz) (hz : sz < 16000000)
    (h : ∀ h' o', Fr h₀ L h' m → News h₀ L h' (g o') → IDict prog w o' (upd f k v) (sz + 1) → Q () { s with heap := h', toks := s.toks + 1 }) :
    wpAny (model prog w) A (setItem (.ref d) (.int k t) (.int v u)) Q E s := by
  obtain ⟨pre, post, rfl, hg, a, b⟩ := U.split
  obtain ⟨kvs, hd, hl, hc⟩ := D
  have z := N (d, o) (List.mem_append.mpr (.inr (.head _)))
  have hD : s.heap.DictOf (intKind prog w) d kvs := Heap.dictOf_iff.mpr ⟨o, z.1, hd⟩
  refine wpAny_setItem_pairs (intKind_is prog w k t) hD (fun h' hd' hs' => ?_) (by rw [sizeLine_eq]; omega)
  obtain ⟨o', ho', hi'⟩ := Heap.dictOf_iff.mp hd'
  refine h h' o' (F.change hs' z.2.1 z.2.2) (by rw [hg]; exact news_set N a b hs' ho') ⟨_, hi', by have := stored_length_le kvs k (.int v u); omega, fun x => ?_⟩
  rw [valueAt_stored]
  unfold upd
  by_cases hx : x = k
  · simp [hx]
  · simp only [if_neg hx]
    exact hc x
noncomputable def DEnd (prog : Program) (w : World) (h₀ : Heap) (L : Addr) (m : Str → Option Value) (d : Addr) (news : List (Addr × Obj)) (Q : Value → Shared → Prop) (kv vv : Value) (s₂ : Shared) : Prop :=
  ∃ i ti v tv, kv = .int i ti ∧ vv = .int v tv ∧ Fr h₀ L s₂.heap m ∧ News h₀ L s₂.heap ((d, dictE) :: news) ∧
        (∀ h' o, Fr h₀ L h' m → News h₀ L h' ((d, o) :: news) → IDict prog w o (upd (fun _ => none) i v) 1 → Q (.ref d) { s₂ with heap := h', toks := s₂.toks + 1 })
theorem dict1_l {env : Env} {ke ve : Expr} {pos : Pos} {Q : Value → Shared → Prop} (F : Fr h₀ L s.heap m) (N : News h₀ L s.heap news) (hbig : h₀.NoLimit)
    (h : ∀ d h₁, Fr h₀ L h₁ m → News h₀ L h₁ ((d, dictE) :: news) → (∀ q ∈ news, q.1 < d) → (d == sysModules) = false →
      wpAny (model prog w) A (eval ke env) (fun kv s₁ => wpAny (model prog w) A (eval ve env) (DEnd prog w h₀ L m d news Q kv) E s₁) E { s with heap := h₁ }) :
    wpAny (model prog w) A (eval (.Dict [some ke] [ve] pos) env) Q E s := by
  have hlow : sysModules < h₀.objs.size := modules_low hbig
  have hsz : h₀.objs.size ≤ s.heap.objs.size := Nat.le_of_lt (Nat.lt_of_le_of_lt F.above F.ns.lt)
  have lo : (s.heap.objs.size == sysModules) = false := beq_eq_false_iff_ne.mpr (Nat.ne_of_gt (Nat.lt_of_lt_of_le hlow hsz))
  refine wpAny_Dict_pairs (knd := intKind prog w) (pairs := [(eval ke env, do let x ← eval ve env; standAt pos; pure x)]) rfl (by simp) (by simp) ?_
  refine evalPairs_cons (wpAny_mono (h s.heap.objs.size _ (F.push _) (N.push F _) (fun q hq => Heap.lt_size (N q hq).1) lo) (fun kv s₁ h₁ => ?_) fun _ _ e => e)
  refine wpAny_bind (wpAny_mono h₁ (fun vv s₂ h₂ => ?_) fun _ _ e => e)
  refine wpAny_bind (wpAny_standAt (wpAny_pure (evalPairs_nil ?_)))
  obtain ⟨i, ti, v, tv, rfl, rfl, F₂, N₂, hq⟩ := h₂
  have z := N₂ _ (.head _)
  have hE : (dictE).IsDictOf (intKind prog w) ([] : List (Int × Value)) := by
    refine ⟨#[], 0, ⟨rfl, rfl, rfl⟩, rfl, ?_, ?_, ?_⟩
    · intro e he; simp at he
    · exact .nil
    · simp
  refine ⟨[(i, .int v tv)], ⟨intKind_is prog w i ti, rfl, trivial⟩, Heap.dictOf_iff.mpr ⟨_, z.1, hE⟩, fun h' hd' hs' => ?_⟩
  obtain ⟨o', ho', hi'⟩ := Heap.dictOf_iff.mp hd'
  refine hq h' o' (F₂.change hs' z.2.1 z.2.2) (news_set (pre := []) N₂ (fun _ h => nomatch h) (fun q hq => ?_) hs' ho') ⟨[(i, .int v tv)], by simpa [merged, stored] using hi', by simp, fun x => ?_⟩
  · exact Nat.ne_of_lt (Heap.lt_size (N q hq).1)
  · unfold upd valueAt
    by_cases hx : x = i
    · subst hx; simp
    · have hx' : ¬ i = x := fun e => hx e.symm
      simp [hx, hx']
end
end Mine
end

section -- ForL
open PySem PySem.W PySem.Spec PySem.Calls PyProof.Rows
namespace Mine
section
variable {prog : Program} {w : World} {A : Around} {E : Value → Shared → Prop} {s : Shared} {env : Env} {h₀ : Heap} {x : Str} {body : List Stmt} {Q : Flow → Shared → Prop}
theorem fend {σ : Type} {L : Addr} {Led : σ → List (Addr × Obj)} {ps : σ → List (Str × Value)} {stored : List Str} {m₀ m' : Str → Option Value} {P : σ → Prop} {own news' : List (Addr × Obj)} {h' : Heap} {tk : Nat} (c : σ)
    (F : Fr h₀ L h' m') (N : News h₀ L h' news') (hn : ∀ p ∈ Led c, p ∈ news') (ho : ∀ p ∈ own, p ∈ news') (hoff : OwnOff own ((Led c).map (·.1)))
    (hk : ∀ p ∈ ps c, m' p.1 = some p.2) (hr : ∀ z, z ≠ x → (∀ p ∈ ps c, z ≠ p.1) → stored.contains z = false → m' z = m₀ z) (hp : P c) : FEnd h₀ L s Led ps x stored m₀ P own { s with heap := h', toks := tk } :=
  ⟨c, h', tk, m', news', rfl, F, N, hn, ho, hoff, hk, hr, hp⟩
theorem for_list {σ : Type} {l : Addr} {vs : List Value} {nn : Nat} {m₀ : Str → Option Value} {news : List (Addr × Obj)} (Led : σ → List (Addr × Obj)) (ps : σ → List (Str × Value)) (stored : List Str) (P : List Value → σ → Prop) (c₀ : σ)
    (hh : A.handled = none) (hl : ∀ c, (l, listOf vs.toArray nn) ∈ Led c) (F : Fr h₀ env.locals s.heap m₀) (N : News h₀ env.locals s.heap news) (hn : ∀ p ∈ Led c₀, p ∈ news) (hk : ∀ p ∈ ps c₀, m₀ p.1 = some p.2) (hp : P [] c₀)
    (turn : ∀ (c : σ) pre v post (u : Str → Option Value) h tk own, vs = pre ++ v :: post → OwnOff own ((Led c).map (·.1)) → P pre c →
      Fr h₀ env.locals h (fun y => if y = x then some v else kstB (fun z => if stored.contains z then u z else m₀ z) (ps c) y) → News h₀ env.locals h (Led c ++ own) →
      wpAny (model prog w) A (execs body env) (FPost h₀ env.locals s Led ps x stored m₀ (P (pre ++ [v])) own Q) E { s with heap := h, toks := tk })
    (done : ∀ (c : σ) (u : Str → Option Value) h tk, P vs c → Fr h₀ env.locals h (fun y => if y = x then u y else kstB (fun z => if stored.contains z then u z else m₀ z) (ps c) y) → News h₀ env.locals h (Led c) → Q .next { s with heap := h, toks := tk }) :
    wpAny (model prog w) A (pyIter (.ref l)) (fun it s₂ => LoopAtV prog w A h₀ env x body Q E it s₂) E s := by
  refine kdl_iter (news := Led c₀) (fun i m nx => ∃ c, nx = Led c ∧ (∀ p ∈ ps c, m p.1 = some p.2) ∧ (∀ z, z ≠ x → (∀ p ∈ ps c, z ≠ p.1) → stored.contains z = false → m z = m₀ z) ∧ P (vs.take i) c) hh (hl c₀) F (fun p hp => N p (hn p hp)) ⟨c₀, rfl, hk, fun _ _ _ _ => rfl, by simpa using hp⟩ ?_ ?_
  · rintro i v m₁ nx h tk own hv hoff _ ⟨c, rfl, h1, h2, hp'⟩ F₁ N₁
    have hi' : i < vs.length := (List.getElem?_eq_some_iff.mp hv).1
    have hs : vs.take (i + 1) = vs.take i ++ [v] := by rw [List.take_add_one, hv]; rfl
    have e : vs = vs.take i ++ v :: vs.drop (i + 1) := by
      have h9 := List.take_append_drop (i + 1) vs
      rw [hs, List.append_assoc] at h9
      exact h9.symm
    have FF : Fr h₀ env.locals h (fun y => if y = x then some v else kstB (fun z => if stored.contains z then m₁ z else m₀ z) (ps c) y) := by
      have em : (fun y => if y = x then some v else kstB (fun z => if stored.contains z then m₁ z else m₀ z) (ps c) y) = fun y => if y = x then some v else m₁ y := by
        funext y
        by_cases hy : y = x
        · simp [hy]
        · simp only [if_neg hy]
          refine kstB_eq h1 fun hn' => ?_
          show (if stored.contains y = true then m₁ y else m₀ y) = m₁ y
          cases h3 : stored.contains y with
          | true => simp
          | false => simp only [Bool.false_eq_true, if_false]; exact (h2 y hy hn' h3).symm
      rw [em]; exact F₁
    refine wpAny_mono (turn c _ v _ m₁ h tk own e hoff hp' FF N₁) (fun f s₂ q => ?_) fun _ _ z => z
    have up : FEnd h₀ env.locals s Led ps x stored m₀ (P (vs.take i ++ [v])) own s₂ →
        InvEndG h₀ env.locals (fun m' nx => (l, listOf vs.toArray nn) ∈ nx ∧ ∃ c, nx = Led c ∧ (∀ p ∈ ps c, m' p.1 = some p.2) ∧ (∀ z, z ≠ x → (∀ p ∈ ps c, z ≠ p.1) → stored.contains z = false → m' z = m₀ z) ∧ P (vs.take (i + 1)) c) own { s with heap := h, toks := tk } s₂ := by
      rintro ⟨c', h', tk', m', news', e', F', N', hn', ho', ha, hk', hr', hP⟩
      exact ⟨h', tk', m', news', Led c', e', F', N', hn', ho', ha, hl c', c', rfl, hk', hr', by rw [hs]; exact hP⟩
    cases f with
    | ret v => exact q
    | brk => exact q
    | next => exact up q
    | cont => exact up q
  · rintro m₁ nx h tk ⟨c, rfl, h1, h2, hp'⟩ F₁ N₁
    rw [List.take_length] at hp'
    refine done c m₁ h tk hp' ?_ N₁
    have em : (fun y => if y = x then m₁ y else kstB (fun z => if stored.contains z then m₁ z else m₀ z) (ps c) y) = m₁ := by
      funext y
      by_cases hy : y = x
      · simp [hy]
      · simp only [if_neg hy]
        refine kstB_eq h1 fun hn' => ?_
        show (if stored.contains y = true then m₁ y else m₀ y) = m₁ y
        cases h3 : stored.contains y with
        | true => simp
        | false => simp only [Bool.false_eq_true, if_false]; exact (h2 y hy hn' h3).symm
    rw [em]; exact F₁
end
end Mine
end

section -- ForB
open PySem PySem.W PySem.Spec PySem.Calls PyProof.Rows
namespace Mine
section
variable {prog : Program} {w : World} {A : Around} {E : Value → Shared → Prop} {s : Shared} {env : Env} {h₀ : Heap} {x : Str} {body : List Stmt} {Q : Flow → Shared → Prop}
theorem for_bytes {σ : Type} {b : Array UInt8} {tb : Tok} {m₀ : Str → Option Value} (Led : σ → List (Addr × Obj)) (ps : σ → List (Str × Value)) (stored : List Str) (P : List Int → σ → Prop) (c₀ : σ)
    (hh : A.handled = none) (hadr : ∀ c, (Led c).map (·.1) = (Led c₀).map (·.1)) (F : Fr h₀ env.locals s.heap m₀) (N : News h₀ env.locals s.heap (Led c₀)) (hk : ∀ p ∈ ps c₀, m₀ p.1 = some p.2) (hp : P [] c₀)
    (turn : ∀ (c : σ) (pre post : List Int) (n : Int) t (u : Str → Option Value) h tk own, KBw.bInts b = pre ++ n :: post → 0 ≤ n → n < 256 → OwnOff own ((Led c).map (·.1)) → P pre c →
      Fr h₀ env.locals h (fun y => if y = x then some (.int n t) else kstB (fun z => if stored.contains z then u z else m₀ z) (ps c) y) → News h₀ env.locals h (Led c ++ own) →
      wpAny (model prog w) A (execs body env) (FPost h₀ env.locals s Led ps x stored m₀ (P (pre ++ [n])) own Q) E { s with heap := h, toks := tk })
    (done : ∀ (c : σ) (u : Str → Option Value) h tk, P (KBw.bInts b) c → Fr h₀ env.locals h (fun y => if y = x then u y else kstB (fun z => if stored.contains z then u z else m₀ z) (ps c) y) → News h₀ env.locals h (Led c) → Q .next { s with heap := h, toks := tk }) :
    wpAny (model prog w) A (pyIter (.bytes b tb)) (fun it s₂ => LoopAtV prog w A h₀ env x body Q E it s₂) E s := by
  refine KStb.kst_bytes Led ps (fun _ => True) stored P c₀ rfl rfl hh F N trivial hk hp ?_ ?_
  · intro c pre post n t u h tk own hb _ h0 h1 hoff _ hP F1 N1
    refine wpAny_mono (turn c pre post n t u h tk own hb h0 h1 (by rw [hadr]; exact hoff) hP F1 N1) (fun f s₂ q => ?_) fun _ _ z => z
    have up : FEnd h₀ env.locals s Led ps x stored m₀ (P (pre ++ [n])) own s₂ →
        InvEndN h₀ env.locals (KstS Led ps (fun _ => True) x stored m₀ P (pre ++ [n])) own ((Led c₀).map (·.1)) { s with heap := h, toks := tk } s₂ := by
      rintro ⟨c', h', tk', m', news', e', F', N', hn', ho', ha, hk', hr', hP'⟩
      exact ⟨h', tk', m', news', Led c', e', F', N', hn', ho', hadr c', c', rfl, trivial, hk', hr', hP'⟩
    cases f with
    | ret v => exact q
    | brk => exact q
    | next => exact up q
    | cont => exact up q
  · intro c u h tk _ _ hP F1 N1
    exact done c u h tk hP F1 N1
end
section
variable {prog : Program} {w : World} {A : Around} {E : Value → Shared → Prop} {s : Shared} {h₀ : Heap} {L : Addr} {m : Str → Option Value} {news : List (Addr × Obj)}
theorem tup_l {vs : List Value} {Q : Value → Shared → Prop} (F : Fr h₀ L s.heap m) (N : News h₀ L s.heap news) (hz : vs.length ≤ 16)
    (h : ∀ a h', Fr h₀ L h' m → News h₀ L h' ((a, tupO vs 0) :: news) → (∀ q ∈ news, q.1 < a) → Q (.ref a) { s with heap := h' }) : wpAny (model prog w) A (newTuple vs) Q E s :=
  newTuple_N F N (fun h' F' N' => h _ h' F' N' fun q hq => Heap.lt_size (N q hq).1) (by rw [sizeLine_eq]; omega)
theorem list_l {vs : List Value} {Q : Value → Shared → Prop} (F : Fr h₀ L s.heap m) (N : News h₀ L s.heap news) (hz : vs.length ≤ 16)
    (h : ∀ a h', Fr h₀ L h' m → News h₀ L h' ((a, listOf vs.toArray 0) :: news) → (∀ q ∈ news, q.1 < a) → Q (.ref a) { s with heap := h' }) : wpAny (model prog w) A (newList vs) Q E s :=
  newList_K F N h (by rw [sizeLine_eq]; omega)
theorem updF_upd {d : Addr} {o o' : Obj} {l : List (Addr × Obj)} {g : Obj → List (Addr × Obj)} (U : UpdF d o l g) : Upd d o o' l (g o') := by
  induction U with
  | head h => exact .head h
  | tail h _ ih => exact .tail h ih
theorem app_u {D : Addr} {vs : List Value} {n : Nat} {v : Value} {g : Obj → List (Addr × Obj)} {Q : Value → Shared → Prop} (F : Fr h₀ L s.heap m) (N : News h₀ L s.heap news) (U : UpdF D (listOf vs.toArray n) news g) (hz : vs.length < 16000000)
    (h : ∀ h', Fr h₀ L h' m → News h₀ L h' (g (listOf (vs ++ [v]).toArray (n + 1))) → Q .none { s with heap := h' }) :
    wpAny (model prog w) A (call (.builtin "list.append") [.ref D, v]) Q E s := by
  refine append_K F N (updF_upd U) (fun h' F' N' => h h' F' ?_) (by rw [List.size_toArray, sizeLine_eq]; omega)
  simpa using N'
theorem news_sub {h : Heap} {news' : List (Addr × Obj)} (N : News h₀ L h news) (hs : ∀ p ∈ news', p ∈ news) : News h₀ L h news' := fun p hp => N p (hs p hp)
end
end Mine
end

section -- ForR
open PySem PySem.W PySem.Spec PySem.Calls PyProof.Rows
namespace Mine
section
variable {prog : Program} {w : World} {A : Around} {E : Value → Shared → Prop} {s : Shared} {h₀ : Heap} {L : Addr} {m : Str → Option Value} {news : List (Addr × Obj)}
theorem range_l {n : Int} {t : Tok} {Q : Value → Shared → Prop} (F : Fr h₀ L s.heap m) (N : News h₀ L s.heap news)
    (h : ∀ a h' tk t₀ u₀ v₀, Fr h₀ L h' m → News h₀ L h' news → IsRange h' a 0 n 1 t₀ u₀ v₀ → Q (.ref a) { s with heap := h', toks := tk }) : wpAny (model prog w) A (call (.type "range") [.int n t]) Q E s := by
  refine call_range_1 ?_
  exact h _ _ _ _ _ _ (F.push _) (fun p hp => ⟨Heap.get?_push_of_some _ (N p hp).1, (N p hp).2⟩) (IsRange.new _ _ _ _ _ _ _)
end
section
variable {prog : Program} {w : World} {A : Around} {E : Value → Shared → Prop} {s : Shared} {env : Env} {h₀ : Heap} {x : Str} {body : List Stmt} {Q : Flow → Shared → Prop}
theorem for_range {σ : Type} {r : Addr} {n : Nat} {t₀ u₀ v₀ : Tok} {m₀ : Str → Option Value} (Led : σ → List (Addr × Obj)) (ps : σ → List (Str × Value)) (stored : List Str) (P : Nat → σ → Prop) (c₀ : σ)
    (hh : A.handled = none) (hadr : ∀ c, (Led c).map (·.1) = (Led c₀).map (·.1)) (hr : IsRange s.heap r 0 (n : Int) 1 t₀ u₀ v₀) (hn : n ≤ 1000) (F : Fr h₀ env.locals s.heap m₀) (N : News h₀ env.locals s.heap (Led c₀)) (hk : ∀ p ∈ ps c₀, m₀ p.1 = some p.2) (hp : P 0 c₀)
    (turn : ∀ (c : σ) (i : Nat) t (u : Str → Option Value) h tk own, i < n → OwnOff own ((Led c).map (·.1)) → P i c →
      Fr h₀ env.locals h (fun y => if y = x then some (.int i t) else kstB (fun z => if stored.contains z then u z else m₀ z) (ps c) y) → News h₀ env.locals h (Led c ++ own) →
      wpAny (model prog w) A (execs body env) (FPost h₀ env.locals s Led ps x stored m₀ (P (i + 1)) own Q) E { s with heap := h, toks := tk })
    (done : ∀ (c : σ) (u : Str → Option Value) h tk, P n c → Fr h₀ env.locals h (fun y => if y = x then u y else kstB (fun z => if stored.contains z then u z else m₀ z) (ps c) y) → News h₀ env.locals h (Led c) → Q .next { s with heap := h, toks := tk }) :
    wpAny (model prog w) A (pyIter (.ref r)) (fun it s₂ => LoopAtV prog w A h₀ env x body Q E it s₂) E s := by
  refine kst_range (n := n) Led ps (fun _ => True) stored (fun pre c => P pre.length c) c₀ hh hr (small_one (by omega) (by omega) (by omega) (by omega)) (by rw [rangeSize_one]; split <;> omega) F N trivial hk hp ?_ ?_
  · intro c pre k t u h tk own hk0 hlt hoff _ hP F1 N1
    subst hk0
    rw [Int.zero_add] at F1
    refine wpAny_mono (turn c pre.length t u h tk own hlt (by rw [hadr]; exact hoff) hP F1 N1) (fun f s₂ q => ?_) fun _ _ z => z
    have up : FEnd h₀ env.locals s Led ps x stored m₀ (P (pre.length + 1)) own s₂ →
        InvEndN h₀ env.locals (KstS Led ps (fun _ => True) x stored m₀ (fun pre c => P pre.length c) (pre ++ [0 + (pre.length : Int)])) own ((Led c₀).map (·.1)) { s with heap := h, toks := tk } s₂ := by
      rintro ⟨c', h', tk', m', news', e', F', N', hn', ho', ha, hk', hr', hP'⟩
      exact ⟨h', tk', m', news', Led c', e', F', N', hn', ho', hadr c', c', rfl, trivial, hk', hr', by simpa using hP'⟩
    cases f with
    | ret v => exact q
    | brk => exact q
    | next => exact up q
    | cont => exact up q
  · intro c u h tk _ hP F1 N1
    exact done c u h tk (by simpa [rangeKs_length] using hP) F1 N1
end
end Mine
end

section -- Mixed
open PySem PySem.W PySem.Spec PySem.Calls PyProof.Rows
set_option maxHeartbeats 8000000
namespace Mine
variable {prog : Program} {w : World} {p : Program} {loose : List Str} {mean : ExcName → Option Value} {mg mb : Str → Option Value}
variable {prog : Program} {w : World} {p : Program} {loose : List Str} {mean : ExcName → Option Value} {mg mb : Str → Option Value}

noncomputable def mixStep (d : Int) (c : Int) (s : Nat) : Int := (c * (d + (s : Int) + 1)).fdiv ((s : Int) + 1)
noncomputable def mixF (d : Int) (k : Nat) : Int := (List.range k).foldl (mixStep d) 1
theorem mixF_succ (d : Int) (k : Nat) : mixF d (k + 1) = mixStep d (mixF d k) k := by
  unfold mixF
  rw [List.range_succ, List.foldl_append]
  rfl
theorem small_bits {n : Int} (h0 : 0 ≤ n) (h1 : n < 2000) : Builtin.Int.intBits n ≤ 64 := by
  refine intBits_le_iff.mpr (Nat.lt_of_lt_of_le (m := 2000) (by omega) (by decide))
structure MSt where
  v : Int
  t : Tok
theorem mixed_spec (d : Int) (k : Nat) (td tk : Tok) (news : List (Addr × Obj)) (h0 : 0 ≤ d) (h1 : d < 1000) (hk3 : k ≤ 3) : Spec prog w p loose mean mg mb 196 [.int d td, .int k tk] 1 news (fun r news' => (∃ t', r = .int (mixF d k) t') ∧ news' = news) := by
  refine fill_at ?_
  k_fill
  unfold Filled Spec
  intro dp un gd cn cs a ccd cl outer A₀ base h₀ L m s Q E B F X N T hk hd hu hret
  refine wpAny_call ?_
  k_dflt ktr_enter
  rename_i g' L' h' FG' F' N' B' X' T'
  replace F' : Fr g' L' h' (fun y => List.lookup y [(Str.ofString "size", .int k tk), (Str.ofString "done", .int d td)]) := F'
  walk_at "mine"
  refine' For_invVF (by assumption) ?k1 ?k2 ?_
  case k1 => rfl
  case k2 => rfl
  walk_at "mine"
  refine' range_l (by assumption) (by assumption) ?_
  intro ra h3 tk3 t₀ u₀ v₀ F3 N3 hr3
  walk_at "mine"
  refine' for_range (n := k) (fun _ : MSt => news) (fun c => [(Str.ofString "count", .int c.v c.t)]) [] (fun i c => c.v = mixF d i) ⟨1, _⟩ rfl (fun _ => rfl) hr3 (by omega) F3 N3 ?kk ?kp ?turn ?done
  case kk =>
    intro q hq
    rw [List.mem_singleton.mp hq]
    rfl
  case kp => rfl
  case turn =>
    intro c i t u h tk own hi hoff hP F1 N1
    clear F3 N3
    walk_at "mine"
    refine mul_int ?_ (IntMulOk.of_right ?_)
    · walk_at "mine"
      refine' fend (⟨mixStep d c.v i, _⟩ : MSt) ?kF ?kN ?kn ?ko ?kof ?kk ?kr ?kp
      case kF => assumption
      case kN => assumption
      case kn => intro q hq; exact List.mem_append_left own hq
      case ko => intro q hq; exact List.mem_append_right news hq
      case kof => exact hoff
      case kk => intro q hq; rw [List.mem_singleton.mp hq]; rfl
      case kr =>
        intro z h1z h2 h3
        have hz1 := h2 _ (.head _)
        dsimp only at hz1
        simp +zetaDelta [kstB, h1z, hz1]
      case kp => show mixStep d c.v i = _; rw [hP, mixF_succ]
    · exact small_bits (by omega) (by omega)
  case done =>
    intro c u h tk hP F1 N1
    clear F3 N3
    walk_at "mine"
    exact hret _ _ _ _ (by assumption) (by assumption) ⟨⟨_, congrArg (fun k => Value.int k _) hP⟩, rfl⟩
end Mine
end

section -- ForT
open PySem PySem.W PySem.Spec PySem.Calls PyProof.Rows
namespace Mine
section
variable {prog : Program} {w : World} {A : Around} {E : Value → Shared → Prop} {s : Shared} {env : Env} {h₀ : Heap} {target : Expr} {body orelse : List Stmt} {Q : Flow → Shared → Prop}
/-- what the iterable must bring at the loop's start -/
noncomputable def TAt (prog : Program) (w : World) (A : Around) (h₀ : Heap) (env : Env) (target : Expr) (body orelse : List Stmt) (Q : Flow → Shared → Prop) (E : Value → Shared → Prop) (it : Value) (s : Shared) : Prop :=
  codeAny (model prog w) A (.forLoop target it body orelse env) (fun r s' => match r with | .ok f => Q f s' | .error e => cameBackBy (model prog w) A env E e s') s
theorem For_T {iter : Expr} {pos : Pos} (h : wpAny (model prog w) A (eval iter env) (fun xv s₁ => wpAny (model prog w) A (pyIter xv) (fun it s₂ => TAt prog w A h₀ env target body orelse Q E it s₂) E s₁) E s)
    (hs : ∀ x, foldedSetIterable iter env x = pure x := by intro _; rfl) : wpAny (model prog w) A (exec (.For target iter body orelse pos) env) Q E s := wpAny_For h hs
theorem loop_G {σ : Type} {I : Addr} {fp wr ow : List Addr} {n : Nat} {P Md : Nat → Value → Heap → Prop} {St : Nat → Heap → Prop} {x : Str} {m₀ : Str → Option Value} (W : KTurns prog w A target I fp wr n P Md St)
    (Led : σ → List (Addr × Obj)) (ps : σ → List (Str × Value)) (stored : List Str) (Pc : Nat → σ → Prop) (c₀ : σ)
    (hwo : ∀ b ∈ wr, b ∈ ow) (hLo : env.locals ∉ ow) (hwr : ∀ b ∈ ow, h₀.get? b = none) (hfp : ∀ b ∈ fp, b ∈ ow ∨ (h₀.get? b).isSome = true ∨ ∃ o, ∀ c, (b, o) ∈ Led c) (hst : St 0 s.heap) (F : Fr h₀ env.locals s.heap m₀) (N : News h₀ env.locals s.heap (Led c₀)) (hnw : ∀ p ∈ Led c₀, p.1 ∉ ow)
    (hk : ∀ p ∈ ps c₀, m₀ p.1 = some p.2) (hp : Pc 0 c₀) (hlive : ∀ i h, St i h → ∀ b ∈ ow, ∃ o, h.get? b = some o)
    (turn : ∀ i v (c : σ) (u : Str → Option Value) h tk own, i < n → P i v h → Pc i c → OwnOff own ((Led c).map (·.1)) → (∀ p ∈ own, p.1 ∈ ow) →
      Fr h₀ env.locals h (fun y => if y = x then u y else kstB (fun z => if stored.contains z then u z else m₀ z) (ps c) y) → News h₀ env.locals h (Led c ++ own) →
      wpAny (model prog w) A (assign target env v) (fun _ s₂ => wpAny (model prog w) A (execs body env) (FPost h₀ env.locals s Led ps x stored m₀ (Pc (i + 1)) own Q) E s₂) E { s with heap := h, toks := tk })
    (done : ∀ (c : σ) (u : Str → Option Value) h tk, Pc n c → Fr h₀ env.locals h (fun y => if y = x then u y else kstB (fun z => if stored.contains z then u z else m₀ z) (ps c) y) → News h₀ env.locals h (Led c) →
      wpAny (model prog w) A (execs orelse env) Q E { s with heap := h, toks := tk })
    (hE : PassesOwn (model prog w) A env E := by passes_own) : TAt prog w A h₀ env target body orelse Q E (.ref I) s := by
  have hLw : env.locals ∉ wr := fun h => hLo (hwo _ h)
  have old : ∀ b o, h₀.get? b = some o → b ∉ wr := fun b o e hb => by rw [hwr b (hwo b hb)] at e; cases e
  have fr : ∀ {h : Heap} {m : Str → Option Value} {c : σ}, Fr h₀ env.locals h m → (∀ p ∈ ps c, m p.1 = some p.2) → (∀ z, z ≠ x → (∀ p ∈ ps c, z ≠ p.1) → stored.contains z = false → m z = m₀ z) →
      Fr h₀ env.locals h (fun y => if y = x then m y else kstB (fun z => if stored.contains z then m z else m₀ z) (ps c) y) := by
    intro h m c F1 h1 h2
    have em : (fun y => if y = x then m y else kstB (fun z => if stored.contains z then m z else m₀ z) (ps c) y) = m := by
      funext y
      by_cases hy : y = x
      · simp [hy]
      · simp only [if_neg hy]
        refine kstB_eq h1 fun hn' => ?_
        show (if stored.contains y = true then m y else m₀ y) = m y
        cases h3 : stored.contains y with
        | true => simp
        | false => simp only [Bool.false_eq_true, if_false]; exact (h2 y hy hn' h3).symm
    rw [em]; exact F1
  unfold TAt
  refine codeAny_forLoop_any
    (fun k s' => ∃ i c m h tk, s' = { s with heap := h, toks := tk } ∧ i ≤ n ∧ k = n + 1 - i ∧ St i h ∧ Fr h₀ env.locals h m ∧ News h₀ env.locals h (Led c) ∧ (∀ p ∈ Led c, p.1 ∉ ow) ∧ (∀ p ∈ ps c, m p.1 = some p.2) ∧ (∀ z, z ≠ x → (∀ p ∈ ps c, z ≠ p.1) → stored.contains z = false → m z = m₀ z) ∧ Pc i c) ?_ (n + 1)
    ⟨0, c₀, m₀, s.heap, s.toks, rfl, Nat.zero_le _, rfl, hst, F, N, hnw, hk, fun _ _ _ _ => rfl, hp⟩
  rintro k s' ⟨i, c, m, h, tk, rfl, hi, rfl, hst', F', N', hnw', h1, h2, hP⟩
  have next : ∀ h₁ : Heap, (∀ b o, b ∉ wr → h.get? b = some o → h₁.get? b = some o) → Fr h₀ env.locals h₁ m ∧ News h₀ env.locals h₁ (Led c) := fun h₁ hk₁ =>
    ⟨⟨F'.ns.at' fun o e => hk₁ _ o hLw e, fun b o e => hk₁ b o (old b o e) (F'.keep b o e), F'.above⟩, fun p hp => ⟨hk₁ _ _ (fun hb => hnw' p hp (hwo _ hb)) (N' p hp).1, (N' p hp).2⟩⟩
  by_cases hlt : i < n
  · refine W.item i _ _ _ hlt hst' fun v h₁ tk₁ hMd hk₁ => ?_
    refine W.go i v _ _ _ hMd fun h₂ hP₂ hst₂ hk₂ => ?_
    obtain ⟨F₂, N₂⟩ := next h₂ fun b o hb y => hk₂ b o hb (hk₁ b o hb y)
    have hLw' : env.locals ∉ ow := hLo
    have Nown : News h₀ env.locals h₂ (PyProof.Rows.ownOf h₀ ow h₂) := news_ownOf hLw'
    have hsub : ∀ p ∈ PyProof.Rows.ownOf h₀ ow h₂, p.1 ∈ ow := fun p hp => ownOf_sub p hp
    have hoff : OwnOff (PyProof.Rows.ownOf h₀ ow h₂) ((Led c).map (·.1)) := by
      intro p hp b hb e
      obtain ⟨q, hq, rfl⟩ := List.mem_map.mp hb
      exact hnw' q hq (e ▸ hsub p hp)
    have N₃ : News h₀ env.locals h₂ (Led c ++ PyProof.Rows.ownOf h₀ ow h₂) := fun p hp => (List.mem_append.mp hp).elim (N₂ p) (Nown p)
    refine wpAny_mono (turn i v c m h₂ tk₁ _ hlt hP₂ hP hoff hsub (fr F₂ h1 h2) N₃) (fun _ s₂ h₂' => wpAny_passesOwn hE (wpAny_mono h₂' (fun f s₃ h₃ => ?_) fun _ _ e => e)) hE
    have fin : FEnd h₀ env.locals s Led ps x stored m₀ (Pc (i + 1)) (PyProof.Rows.ownOf h₀ ow h₂) s₃ → ∃ m', m' < n + 1 - i ∧ ∃ i c m h tk, s₃ = { s with heap := h, toks := tk } ∧ i ≤ n ∧ m' = n + 1 - i ∧ St i h ∧ Fr h₀ env.locals h m ∧ News h₀ env.locals h (Led c) ∧ (∀ p ∈ Led c, p.1 ∉ ow) ∧ (∀ p ∈ ps c, m p.1 = some p.2) ∧ (∀ z, z ≠ x → (∀ p ∈ ps c, z ≠ p.1) → stored.contains z = false → m z = m₀ z) ∧ Pc i c := by
      rintro ⟨c', h', tk', m', news', e', F'', N'', hn', ho', ha, hk', hr', hP'⟩
      refine ⟨n + 1 - (i + 1), by omega, i + 1, c', m', h', tk', e', hlt, rfl, ?_, F'', news_sub N'' hn', ?_, hk', hr', hP'⟩
      · refine W.frame _ _ _ hst₂ fun b hb o e => ?_
        rcases hfp b hb with hw | hw | ⟨o₀, hw⟩
        · exact (N'' _ (ho' _ (mem_ownOf hw (hwr b hw) e))).1
        · obtain ⟨o₀, ho₀⟩ := Option.isSome_iff_exists.mp hw
          have : o₀ = o := by have q := F₂.keep b o₀ ho₀; rw [e] at q; exact (Option.some.inj q).symm
          exact this ▸ F''.keep b o₀ ho₀
        · have : o₀ = o := by have q := (N₂ _ (hw c)).1; rw [e] at q; exact (Option.some.inj q).symm
          exact this ▸ (N'' _ (hn' _ (hw c'))).1
      · intro p hp hw
        have hmem : ∃ o, h₂.get? p.1 = some o := hlive _ _ hst₂ _ hw
        obtain ⟨o, ho⟩ := hmem
        exact ha (p.1, o) (mem_ownOf hw (hwr _ hw) ho) p.1 (List.mem_map.mpr ⟨p, hp, rfl⟩) rfl
    cases f with
    | ret v => exact h₃
    | brk => exact h₃
    | next => exact fin h₃
    | cont => exact fin h₃
  · have hin : i = n := by omega
    subst hin
    refine W.done _ _ _ hst' fun h₁ tk₁ hk₁ => ?_
    obtain ⟨F₁, N₁⟩ := next h₁ hk₁
    exact wpAny_passesOwn hE (done c m h₁ tk₁ hP (fr F₁ h1 h2) N₁)
theorem loop_T {σ : Type} {I : Addr} {fp wr : List Addr} {n : Nat} {P Md : Nat → Value → Heap → Prop} {St : Nat → Heap → Prop} {x : Str} {m₀ : Str → Option Value} (W : KTurns prog w A target I fp wr n P Md St)
    (Led : σ → List (Addr × Obj)) (ps : σ → List (Str × Value)) (stored : List Str) (Pc : Nat → σ → Prop) (c₀ : σ)
    (hLf : env.locals ∉ fp) (hwr : ∀ b ∈ wr, h₀.get? b = none) (hfp : ∀ b ∈ fp, b ∈ wr ∨ (h₀.get? b).isSome = true) (hst : St 0 s.heap) (F : Fr h₀ env.locals s.heap m₀) (N : News h₀ env.locals s.heap (Led c₀)) (hnw : ∀ p ∈ Led c₀, p.1 ∉ wr)
    (hk : ∀ p ∈ ps c₀, m₀ p.1 = some p.2) (hp : Pc 0 c₀) (hlive : ∀ i h, St i h → ∀ b ∈ wr, ∃ o, h.get? b = some o)
    (turn : ∀ i v (c : σ) (u : Str → Option Value) h tk own, i < n → P i v h → Pc i c → OwnOff own ((Led c).map (·.1)) → (∀ p ∈ own, p.1 ∈ wr) →
      Fr h₀ env.locals h (fun y => if y = x then u y else kstB (fun z => if stored.contains z then u z else m₀ z) (ps c) y) → News h₀ env.locals h (Led c ++ own) →
      wpAny (model prog w) A (assign target env v) (fun _ s₂ => wpAny (model prog w) A (execs body env) (FPost h₀ env.locals s Led ps x stored m₀ (Pc (i + 1)) own Q) E s₂) E { s with heap := h, toks := tk })
    (done : ∀ (c : σ) (u : Str → Option Value) h tk, Pc n c → Fr h₀ env.locals h (fun y => if y = x then u y else kstB (fun z => if stored.contains z then u z else m₀ z) (ps c) y) → News h₀ env.locals h (Led c) →
      wpAny (model prog w) A (execs orelse env) Q E { s with heap := h, toks := tk })
    (hE : PassesOwn (model prog w) A env E := by passes_own) : TAt prog w A h₀ env target body orelse Q E (.ref I) s :=
  loop_G (ow := wr) W Led ps stored Pc c₀ (fun _ h => h) (fun h => hLf (W.sub _ h)) hwr (fun b hb => (hfp b hb).elim .inl fun h => .inr (.inl h)) hst F N hnw hk hp hlive turn done hE
theorem iter_tup {σ : Type} {t : Addr} {items : Array Value} {x : Str} {m₀ : Str → Option Value} (Led : σ → List (Addr × Obj)) (ps : σ → List (Str × Value)) (stored : List Str) (Pc : Nat → σ → Prop) (c₀ : σ)
    (hh : A.handled = none) (ht : h₀.IsTuple t items) (F : Fr h₀ env.locals s.heap m₀) (N : News h₀ env.locals s.heap (Led c₀)) (hk : ∀ p ∈ ps c₀, m₀ p.1 = some p.2) (hp : Pc 0 c₀)
    (turn : ∀ i v (c : σ) (u : Str → Option Value) h tk own, i < items.size → items[i]? = some v → Pc i c → OwnOff own ((Led c).map (·.1)) → 
      Fr h₀ env.locals h (fun y => if y = x then u y else kstB (fun z => if stored.contains z then u z else m₀ z) (ps c) y) → News h₀ env.locals h (Led c ++ own) →
      wpAny (model prog w) A (assign target env v) (fun _ s₂ => wpAny (model prog w) A (execs body env) (FPost h₀ env.locals s Led ps x stored m₀ (Pc (i + 1)) own Q) E s₂) E { s with heap := h, toks := tk })
    (done : ∀ (c : σ) (u : Str → Option Value) h tk, Pc items.size c → Fr h₀ env.locals h (fun y => if y = x then u y else kstB (fun z => if stored.contains z then u z else m₀ z) (ps c) y) → News h₀ env.locals h (Led c) →
      wpAny (model prog w) A (execs orelse env) Q E { s with heap := h, toks := tk })
    (hE : PassesOwn (model prog w) A env E := by passes_own) :
    wpAny (model prog w) A (pyIter (.ref t)) (fun it s₂ => TAt prog w A h₀ env target body orelse Q E it s₂) E s := by
  obtain ⟨ot, hot, hc, nn, hd⟩ := id ht
  have hts : s.heap.IsTuple t items := ⟨ot, F.keep t ot hot, hc, nn, hd⟩
  have hlt : t < s.heap.objs.size := Heap.lt_size (F.keep t ot hot)
  have hne : t ≠ s.heap.objs.size := Nat.ne_of_lt hlt
  refine wpAny_pyIter_tuple hts ?_
  refine loop_T (x := x) (s := { s with heap := s.heap.push { cls := .type "tuple_iterator", data := .fields #[.ref t, .int 0 0] } }) (KTurns.ofWalks (Walks.tuple hh s.heap.objs.size t hne items) fun i v s Q E st q => letGo_tupleiter st.1 q) Led ps stored Pc c₀ ?_ ?_ ?_ ?_ (F.push _) ?_ ?_ hk hp ?_ ?_ ?_ hE
  · intro hm
    rcases List.mem_cons.mp hm with e | hm
    · exact absurd F.ns.lt (e ▸ Nat.lt_irrefl _)
    · have e := List.mem_singleton.mp hm
      have := Heap.lt_size hot
      exact absurd (Nat.lt_of_lt_of_le this F.above) (e ▸ Nat.lt_irrefl _)
  · intro b hb
    rw [List.mem_singleton.mp hb]
    exact next_is_new F
  · intro b hb
    rcases List.mem_cons.mp hb with e | hb
    · exact .inl (by rw [e]; exact .head _)
    · exact .inr (by rw [List.mem_singleton.mp hb, hot]; rfl)
  · exact ⟨⟨_, Heap.get?_push_size _ rfl, rfl, rfl⟩, hts.at fun o e => Heap.get?_push_of_some _ e⟩
  · exact fun p hp => ⟨Heap.get?_push_of_some _ (N p hp).1, (N p hp).2⟩
  · intro p hp hI
    exact absurd (Heap.lt_size (N p hp).1) ((List.mem_singleton.mp hI) ▸ Nat.lt_irrefl _)
  · intro i h st b hb
    rw [List.mem_singleton.mp hb]
    obtain ⟨⟨o, ho, _⟩, _⟩ := st
    exact ⟨o, ho⟩
  · intro i v c u h tk own hi hP hPc hoff _ F1 N1
    exact turn i v c u h tk own hi hP hPc hoff F1 N1
  · exact done
end
end Mine
end

section -- ForZ
open PySem PySem.W PySem.Spec PySem.Calls PyProof.Rows
namespace Mine
section
variable {prog : Program} {w : World} {A : Around} {E : Value → Shared → Prop} {s : Shared} {env : Env} {h₀ : Heap} {body orelse : List Stmt} {Q : Flow → Shared → Prop}
theorem iter_zip {σ : Type} {elts : List Expr} {k : Nat} {pos : Pos} {l1 l2 : Addr} {xs ys : List Value} {n1 n2 : Nat} {x : Str} {m₀ : Str → Option Value} (Led : σ → List (Addr × Obj)) (ps : σ → List (Str × Value)) (stored : List Str) (Pc : Nat → σ → Prop) (c₀ : σ)
    (hh : A.handled = none) (h1 : ∀ c, (l1, listOf xs.toArray n1) ∈ Led c) (h2 : ∀ c, (l2, listOf ys.toArray n2) ∈ Led c) (F : Fr h₀ env.locals s.heap m₀) (N : News h₀ env.locals s.heap (Led c₀)) (hk : ∀ p ∈ ps c₀, m₀ p.1 = some p.2) (hp : Pc 0 c₀)
    (turn : ∀ i y z T (c : σ) (u : Str → Option Value) h tk own, i < min xs.length ys.length → xs[i]? = some y → ys[i]? = some z → h.IsTuple T #[y, z] → Pc i c → OwnOff own ((Led c).map (·.1)) →
      Fr h₀ env.locals h (fun z => if z = x then u z else kstB (fun z => if stored.contains z then u z else m₀ z) (ps c) z) → News h₀ env.locals h (Led c ++ own) →
      wpAny (model prog w) A (assign (.Tuple elts k pos) env (.ref T)) (fun _ s₂ => wpAny (model prog w) A (execs body env) (FPost h₀ env.locals s Led ps x stored m₀ (Pc (i + 1)) own Q) E s₂) E { s with heap := h, toks := tk })
    (done : ∀ (c : σ) (u : Str → Option Value) h tk, Pc (min xs.length ys.length) c → Fr h₀ env.locals h (fun z => if z = x then u z else kstB (fun z => if stored.contains z then u z else m₀ z) (ps c) z) → News h₀ env.locals h (Led c) →
      wpAny (model prog w) A (execs orelse env) Q E { s with heap := h, toks := tk })
    (hE : PassesOwn (model prog w) A env E := by passes_own) :
    wpAny (model prog w) A (call (.type "zip") [.ref l1, .ref l2]) (fun xv s₁ => wpAny (model prog w) A (pyIter xv) (fun it s₂ => TAt prog w A h₀ env (.Tuple elts k pos) body orelse Q E it s₂) E s₁) E s := by
  have hax1 := N _ (h1 c₀)
  have hax2 := N _ (h2 c₀)
  have hl1 : s.heap.IsList l1 xs.toArray := ⟨_, hax1.1, rfl, n1, rfl⟩
  have hl2 : s.heap.IsList l2 ys.toArray := ⟨_, hax2.1, rfl, n2, rfl⟩
  have hlt1 : l1 < s.heap.objs.size := Heap.lt_size hax1.1
  have hlt2 : l2 < s.heap.objs.size := Heap.lt_size hax2.1
  have hLs : env.locals < s.heap.objs.size := F.ns.lt
  have D := zipApart_new hlt1 hlt2
  refine call_zip_2 hl1 hl2 fun h' hz hTI hTO hi1 hi2 hsz hkp => ?_
  refine wpAny_pyIter_zip hz ?_
  have new : ∀ b : Addr, s.heap.objs.size ≤ b → h₀.get? b = none := fun b hb => by
    cases hq : h₀.get? b with
    | none => rfl
    | some o => exact absurd (Heap.lt_size (F.keep b o hq)) (Nat.not_lt.mpr hb)
  have five : ∀ b : Addr, b ∈ [s.heap.objs.size + 4, s.heap.objs.size + 2, s.heap.objs.size + 3, s.heap.objs.size, s.heap.objs.size + 1] → s.heap.objs.size ≤ b := by
    intro b hb
    simp only [List.mem_cons, List.not_mem_nil, or_false] at hb
    rcases hb with e | e | e | e | e <;> rw [e] <;> omega
  have W := (WalksT.zip2 (prog := prog) (w := w) (A := A) hh _ _ _ _ _ _ _ D xs.toArray ys.toArray).toU
  have F' : Fr h₀ env.locals h' m₀ := F.keeps hkp
  have N' : News h₀ env.locals h' (Led c₀) := N.grown hkp
  have hmin : min xs.toArray.size ys.toArray.size = min xs.length ys.length := by simp
  rw [hmin] at W
  refine loop_G (ow := [s.heap.objs.size + 4, s.heap.objs.size + 2, s.heap.objs.size + 3, s.heap.objs.size, s.heap.objs.size + 1]) (x := x) (s := { s with heap := h' }) (KTurns.ofWalksU W) Led ps stored Pc c₀ ?_ ?_ ?_ ?_ ?_ F' N' ?_ hk hp ?_ ?_ done hE
  · intro b hb
    simp only [List.mem_cons, List.not_mem_nil, or_false] at hb ⊢
    rcases hb with e | e | e | e <;> simp [e]
  · intro hb
    exact absurd hLs (Nat.not_lt.mpr (five _ hb))
  · exact fun b hb => new b (five b hb)
  · intro b hb
    simp only [List.mem_cons, List.not_mem_nil, or_false] at hb
    rcases hb with e | e | e | e | e | e | e
    · exact .inl (by simp [e])
    · exact .inl (by simp [e])
    · exact .inl (by simp [e])
    · exact .inl (by simp [e])
    · exact .inl (by simp [e])
    · exact .inr (.inr ⟨_, fun c => e ▸ h1 c⟩)
    · exact .inr (.inr ⟨_, fun c => e ▸ h2 c⟩)
  · exact ⟨hz, hTI, ⟨_, _, hTO⟩, hi1, hi2, Heap.IsList.at hl1 (fun o e => hkp _ o e), Heap.IsList.at hl2 (fun o e => hkp _ o e)⟩
  · intro p hp hI
    exact absurd (Heap.lt_size (N p hp).1) (Nat.not_lt.mpr (five _ hI))
  · intro i h st b hb
    obtain ⟨a1, a2, ⟨_, _, a3⟩, ⟨o4, a4, _⟩, ⟨o5, a5, _⟩, _⟩ := st
    simp only [List.mem_cons, List.not_mem_nil, or_false] at hb
    rcases hb with e | e | e | e | e <;> rw [e]
    · exact ⟨_, a1⟩
    · exact ⟨_, a2⟩
    · exact ⟨_, a3⟩
    · exact ⟨_, a4⟩
    · exact ⟨_, a5⟩
  · rintro i v c u h tk own hi ⟨T, vals, rfl, ⟨y, z, hy, hz, rfl⟩, hT⟩ hPc hoff _ F1 N1
    exact turn i y z T c u h tk own hi (by simpa using hy) (by simpa using hz) hT hPc hoff F1 N1
end
end Mine
end

section -- CompR
open PySem PySem.W PySem.Spec PySem.Calls PyProof.Rows PyProof.Rows.LCg
namespace Mine
section
variable {prog : Program} {w : World} {A : Around} {E : Value → Shared → Prop} {R : Result → Shared → Prop} {s : Shared}
theorem compTurn0 (elt t0 i0 t1 i1 : Expr) (scope : Scope) (pos : Pos) (it acc : Value) (env : Env) :
    compTurn (.ListComp elt [⟨t0, i0, [], 0⟩, ⟨t1, i1, [], 0⟩] scope pos) 0 it acc env = (standAt i0.pos >>= fun _ => pyNext it >>= fun r => match r with
      | none => pure (.done .next)
      | some v => letOwnedTupleGo t0 it v >>= fun _ => assign t0 env v >>= fun _ => eval i1 env >>= fun x => standAt i1.pos >>= fun _ => foldedSetIterable i1 env x >>= fun x =>
        holding [x] (pyIter x) >>= fun it1 => runOwn (.compStart (.ListComp elt [⟨t0, i0, [], 0⟩, ⟨t1, i1, [], 0⟩] scope pos) 1 it1 acc env) env >>= fun _ =>
          again (.compLoop (.ListComp elt [⟨t0, i0, [], 0⟩, ⟨t1, i1, [], 0⟩] scope pos) 0 it acc env)) := by rfl
theorem compTurn1 (elt t0 i0 t1 i1 : Expr) (scope : Scope) (pos : Pos) (it acc : Value) (env : Env) :
    compTurn (.ListComp elt [⟨t0, i0, [], 0⟩, ⟨t1, i1, [], 0⟩] scope pos) 1 it acc env = (standAt i1.pos >>= fun _ => pyNext it >>= fun r => match r with
      | none => pure (.done .next)
      | some v => letOwnedTupleGo t1 it v >>= fun _ => assign t1 env v >>= fun _ => 
        (eval elt env >>= fun x => call (.builtin "list.append") [acc, x] >>= fun _ => pure ()) >>= fun _ =>
          again (.compLoop (.ListComp elt [⟨t0, i0, [], 0⟩, ⟨t1, i1, [], 0⟩] scope pos) 1 it acc env)) := by rfl
theorem loop1 {elt t0 i0 t1 i1 : Expr} {scope : Scope} {pos : Pos} {it acc : Value} {env : Env} (I : Nat → Shared → Prop)
    (turn : ∀ n s, I n s → wpAny (model prog w) A (pyNext it) (fun r s₁ => match r with
      | none => R (.ok .next) s₁
      | some v => wpAny (model prog w) A (assign t1 env v) (fun _ s₂ => wpAny (model prog w) A (eval elt env) (fun x s₃ =>
          wpAny (model prog w) A (call (.builtin "list.append") [acc, x]) (fun _ s₄ => ∃ m, m < n ∧ I m s₄) (notedBy (model prog w) A env fun e s' => R (.error e) s') s₃)
          (notedBy (model prog w) A env fun e s' => R (.error e) s') s₂) (notedBy (model prog w) A env fun e s' => R (.error e) s') s₁) (notedBy (model prog w) A env fun e s' => R (.error e) s') s)
    (n : Nat) (h : I n s) (ht : ∀ v, letOwnedTupleGo t1 it v = pure () := by intro _; rfl) :
    codeAny (model prog w) A (.compLoop (.ListComp elt [⟨t0, i0, [], 0⟩, ⟨t1, i1, [], 0⟩] scope pos) 1 it acc env) R s := by
  refine codeAny_loop rfl I (fun n s hI => ?_) n h
  show wpAny _ _ ((compTurn (.ListComp elt [⟨t0, i0, [], 0⟩, ⟨t1, i1, [], 0⟩] scope pos) 1 it acc env).onRaise (fun x => do noteFrame x env; theTreesLotGoes x)) _ _ s
  refine wpAny_noted ?_
  rw [compTurn1]
  refine wpAny_bind (wpAny_standAt (wpAny_bind (wpAny_mono (turn n s hI) (fun r s₁ h₁ => ?_) fun _ _ h' => h')))
  cases r with
  | none => exact wpAny_pure h₁
  | some v =>
    refine wpAny_bind (wpAny_of_eq (ht v) ?_)
    exact wpAny_bind (wpAny_mono h₁ (fun _ s₂ h₂ => wpAny_bind (wpAny_bind (wpAny_mono h₂ (fun x s₃ h₃ => wpAny_bind (wpAny_mono h₃
      (fun _ s₄ h₄ => wpAny_pure (wpAny_pure ⟨rfl, h₄⟩)) fun _ _ h' => h')) fun _ _ h' => h'))) fun _ _ h' => h')
theorem start1 {elt t0 i0 t1 i1 : Expr} {scope : Scope} {pos : Pos} {it acc : Value} {env : Env}
    (h0 : codeAny (model prog w) A (.compLoop (.ListComp elt [⟨t0, i0, [], 0⟩, ⟨t1, i1, [], 0⟩] scope pos) 1 it acc env) R s)
    (h : wpAny (model prog w) A (pyIter it) (fun it' s' => codeAny (model prog w) A (.compLoop (.ListComp elt [⟨t0, i0, [], 0⟩, ⟨t1, i1, [], 0⟩] scope pos) 1 it' acc env) R s')
      (notedBy (model prog w) A env fun x s' => R (.error x) s') s) :
    codeAny (model prog w) A (.compStart (.ListComp elt [⟨t0, i0, [], 0⟩, ⟨t1, i1, [], 0⟩] scope pos) 1 it acc env) R s := by
  refine codeAny_of_tree ?_
  show wpAny _ _ ((compStart (.ListComp elt [⟨t0, i0, [], 0⟩, ⟨t1, i1, [], 0⟩] scope pos) 1 it acc env).onRaise (fun x => do noteFrame x env; standAt theWindowsPlace)) _ _ s
  refine wpAny_notedAt ?_
  unfold compStart
  show wpAny _ _ (ask >>= _) _ _ s
  refine wpAny_bind (wpAny_askSetting (wpAny_ite ?_))
  split
  · first
      | exact wpAny_bind (wpAny_pure (wpAny_pure (And.intro rfl h0)))
      | exact wpAny_pure (And.intro rfl h0)
  · first
      | exact wpAny_bind (wpAny_rule (wpAny_bind (wpAny_standAt (wpAny_bind (wpAny_mono h (fun it' s' h' => wpAny_pure (And.intro rfl h')) fun _ _ x => x)))))
      | (refine wpAny_bind (wpAny_rule ?_); show wpAny _ _ (standAt i1.pos >>= _) _ _ s; exact wpAny_bind (wpAny_standAt (wpAny_bind (wpAny_mono h (fun it' s' h' => wpAny_pure (And.intro rfl h')) fun _ _ x => x))))
theorem loop0 {elt t0 i0 t1 i1 : Expr} {scope : Scope} {pos : Pos} {it acc : Value} {env : Env} (I : Nat → Shared → Prop)
    (turn : ∀ n s, I n s → wpAny (model prog w) A (pyNext it) (fun r s₁ => match r with
      | none => R (.ok .next) s₁
      | some v => wpAny (model prog w) A (letOwnedTupleGo t0 it v) (fun _ s₁' => wpAny (model prog w) A (assign t0 env v) (fun _ s₂ => wpAny (model prog w) A (eval i1 env) (fun x s₃ =>
          wpAny (model prog w) A (pyIter x) (fun it1 s₄ => 
            codeAny (model prog w) A (.compStart (.ListComp elt [⟨t0, i0, [], 0⟩, ⟨t1, i1, [], 0⟩] scope pos) 1 it1 acc env) (fun r s₅ => match r with | .ok _ => ∃ m, m < n ∧ I m s₅ | .error e => cameBackBy (model prog w) A env (notedBy (model prog w) A env fun e s' => R (.error e) s') e s₅) s₄)
              (notedBy (model prog w) A env fun e s' => R (.error e) s') s₃)
          (notedBy (model prog w) A env fun e s' => R (.error e) s') s₂) (notedBy (model prog w) A env fun e s' => R (.error e) s') s₁') (notedBy (model prog w) A env fun e s' => R (.error e) s') s₁) (notedBy (model prog w) A env fun e s' => R (.error e) s') s)
    (n : Nat) (h : I n s) (hs : ∀ x, foldedSetIterable i1 env x = pure x := by intro _; rfl) :
    codeAny (model prog w) A (.compLoop (.ListComp elt [⟨t0, i0, [], 0⟩, ⟨t1, i1, [], 0⟩] scope pos) 0 it acc env) R s := by
  refine codeAny_loop rfl I (fun n s hI => ?_) n h
  show wpAny _ A ((compTurn (.ListComp elt [⟨t0, i0, [], 0⟩, ⟨t1, i1, [], 0⟩] scope pos) 0 it acc env).onRaise (fun x => do noteFrame x env; theTreesLotGoes x)) _ _ s
  refine wpAny_noted ?_
  rw [compTurn0]
  refine wpAny_bind (wpAny_standAt (wpAny_bind (wpAny_mono (turn n s hI) (fun r s₁ h₁ => ?_) fun _ _ h' => h')))
  cases r with
  | none => exact wpAny_pure h₁
  | some v =>
    refine wpAny_bind (wpAny_mono h₁ (fun _ s₁' h₁' => ?_) fun _ _ h' => h')
    refine wpAny_bind (wpAny_mono h₁' (fun _ s₂ h₂ => ?_) fun _ _ h' => h')
    refine wpAny_bind (wpAny_mono h₂ (fun x s₃ h₃ => ?_) fun _ _ h' => h')
    refine wpAny_bind (wpAny_standAt (wpAny_bind (wpAny_of_eq (hs x) ?_)))
    refine wpAny_bind (wpAny_holding (wpAny_mono h₃ (fun it1 s₄ h₄ => ?_) fun _ _ h' => h'))
    refine wpAny_bind (wpAny_runOwn (codeAny_mono h₄ fun r s₅ h₅ => ?_))
    cases r with
    | ok f => exact wpAny_pure ⟨rfl, h₅⟩
    | error e => exact h₅
end
end Mine
end

section -- CompN
open PySem PySem.W PySem.Spec PySem.Calls PyProof.Rows PyProof.Rows.LCg
set_option maxHeartbeats 4000000
namespace Mine
section
variable {prog : Program} {w : World} {A : Around} {E : Value → Shared → Prop} {s : Shared} {h₀ : Heap} {L : Addr} {m : Str → Option Value} {env : Env} {R : Result → Shared → Prop}
theorem inner2 {elt t0 i0 i1 : Expr} {x x₂ y : Str} {py : Pos} {scope : Scope} {cl : List (Str × Addr)} {pos : Pos} {C D I1 I2 sl : Addr} {o1 : Obj} {v₁ v₂ : Value} {svs : List Value} {sn : Nat} {news0 tl : List (Addr × Obj)} {ys : List Value} {m₁ : Str → Option Value}
    (J : Nat → List Value → List (Addr × Obj) → Prop) (k0 : Nat) (hh : A.handled = none) (hkind : scope.kind = .function) (hy : scope.names.lookup y = some .local) (hyx : x ≠ y) (hyx₂ : x₂ ≠ y)
    (hsl : (sl, listOf svs.toArray sn) ∈ news0) (hI2 : s.heap.IsListIter I2 sl 0) (F : Fr h₀ L s.heap m) (hn : s.heap.Ns C m₁) (hx1 : m₁ x = some v₁) (hx2 : m₁ x₂ = some v₂) (N : News h₀ L s.heap ((I1, o1) :: (D, lst ys) :: (tl ++ news0)))
    (hI1C : I1 ≠ C) (hDC : D ≠ C) (hI1D : I1 ≠ D) (a1 : I2 ≠ C) (a2 : I2 ≠ D) (a3 : I2 ≠ I1) (a4 : L ≠ I2) (hI20 : h₀.get? I2 = none) (hC0 : h₀.get? C = none) (hCL : C ≠ L) (hlt : sl ≠ I2)
    (off0 : ∀ p ∈ news0, p.1 ≠ C ∧ p.1 ≠ D ∧ p.1 ≠ I1 ∧ p.1 ≠ I2) (off : ∀ p ∈ tl, p.1 ≠ C ∧ p.1 ≠ D ∧ p.1 ≠ I1 ∧ p.1 ≠ I2) (hJ : J k0 ys tl) (hsz : ∀ k ys tl, J k ys tl → ys.length ≤ 1000)
    (helt : ∀ j v₃ ys tl o2 oC m₂ h tk (E' : Value → Shared → Prop), svs[j]? = some v₃ → J (k0 + j) ys tl → NsObj oC m₂ → m₂ x = some v₁ → m₂ x₂ = some v₂ → m₂ y = some v₃ → Fr h₀ L h m → News h₀ L h ([(I1, o1), (I2, o2), (C, oC), (D, lst ys)] ++ (tl ++ news0)) →
      (∀ p ∈ tl, ∀ q ∈ [(I1, o1), (I2, o2), (C, oC), (D, lst ys)], p.1 ≠ q.1) →
      wpAny (model prog w) A (eval elt (compEnvC scope cl C env)) (ElPost h₀ L m s [(I1, o1), (I2, o2), (C, oC), (D, lst ys)] news0 (J (k0 + j + 1)) ys) E' { s with heap := h, toks := tk })
    (fin : ∀ h tk ys' tl' m₂, Fr h₀ L h m → h.Ns C m₂ → News h₀ L h ((I1, o1) :: (D, lst ys') :: (tl' ++ news0)) → (∀ p ∈ tl', p.1 ≠ C ∧ p.1 ≠ D ∧ p.1 ≠ I1) → J (k0 + svs.length) ys' tl' → R (.ok .next) { s with heap := h, toks := tk }) :
    codeAny (model prog w) A (.compStart (.ListComp elt [⟨t0, i0, [], 0⟩, ⟨.Name y py, i1, [], 0⟩] scope pos) 1 (.ref I2) (.ref D) (compEnvC scope cl C env)) R s := by
  have W := Walks.list (prog := prog) (w := w) hh I2 sl hlt svs.toArray
  have hsl' : ∀ {h}, News h₀ L h news0 → h.IsList sl svs.toArray := fun N => ⟨_, (N _ hsl).1, rfl, sn, rfl⟩
  have N0 : News h₀ L s.heap news0 := fun p hp => N p (.tail _ (.tail _ (List.mem_append_right _ hp)))
  have hst : s.heap.IsListIter I2 sl 0 ∧ s.heap.IsList sl svs.toArray := ⟨hI2, hsl' N0⟩
  have loop : codeAny (model prog w) A (.compLoop (.ListComp elt [⟨t0, i0, [], 0⟩, ⟨.Name y py, i1, [], 0⟩] scope pos) 1 (.ref I2) (.ref D) (compEnvC scope cl C env)) R s := by
    refine loop1
      (fun k s' => ∃ h' tk j ys m' tl', s' = { s with heap := h', toks := tk } ∧ j ≤ svs.length ∧ k = svs.length + 1 - j ∧ (h'.IsListIter I2 sl j ∧ h'.IsList sl svs.toArray) ∧ Fr h₀ L h' m ∧ h'.Ns C m' ∧ m' x = some v₁ ∧ m' x₂ = some v₂ ∧ News h₀ L h' ((I1, o1) :: (D, lst ys) :: (tl' ++ news0)) ∧
        (∀ p ∈ tl', p.1 ≠ C ∧ p.1 ≠ D ∧ p.1 ≠ I1 ∧ p.1 ≠ I2) ∧ J (k0 + j) ys tl') ?_ (svs.length + 1)
      ⟨s.heap, s.toks, 0, ys, m₁, tl, rfl, Nat.zero_le _, rfl, hst, F, hn, hx1, hx2, N, off, hJ⟩
    rintro k s' ⟨h', tk, j, ys, m', tl', rfl, hj, rfl, hst', F', hn', hx1', hx2', N', off', hJ'⟩
    have offAll : ∀ p ∈ tl' ++ news0, p.1 ≠ C ∧ p.1 ≠ D ∧ p.1 ≠ I1 ∧ p.1 ≠ I2 := fun p hp => (List.mem_append.mp hp).elim (off' p) (off0 p)
    by_cases hlt' : j < svs.length
    · refine W.item j _ _ _ (by simpa using hlt') hst' fun v h₂ tk₂ hPv hst₂ hk₂ => ?_
      refine wpAny_assign_Name (wpAny_storeName_local (lookup_relabel_local hy) (hn'.at' fun o e => hk₂ _ o (by simpa using a1.symm) e) (fun h₃ hn₃ hs₃ => ?_) (by simp [compEnvC, relabel, hkind]))
      have hk3 : ∀ b o, b ≠ I2 → b ≠ C → h'.get? b = some o → h₃.get? b = some o := fun b o hb hc e => hs₃.extBut b o hc (hk₂ b o (by simpa using hb) e)
      obtain ⟨o2, ho2⟩ : ∃ o, h₃.get? I2 = some o := by obtain ⟨o, e, _⟩ := hst₂.1; exact ⟨o, hs₃.extBut _ _ a1 e⟩
      obtain ⟨oC, heC, hoC⟩ := ns_obj hn₃
      have F₃ : Fr h₀ L h₃ m := (fr_but F' hk₂ a4 hI20).change hs₃ hCL hC0
      have N₃ : News h₀ L h₃ ([(I1, o1), (I2, o2), (C, oC), (D, lst ys)] ++ (tl' ++ news0)) := by
        intro p hp
        rcases List.mem_append.mp hp with hp | hp
        · simp only [List.mem_cons, List.not_mem_nil, or_false] at hp
          rcases hp with rfl | rfl | rfl | rfl
          · have z := N' _ (.head _); exact ⟨hk3 _ _ a3.symm hI1C z.1, z.2⟩
          · exact ⟨ho2, a4.symm, hI20⟩
          · exact ⟨heC, hCL, hC0⟩
          · have z := N' _ (.tail _ (.head _)); exact ⟨hk3 _ _ a2.symm hDC z.1, z.2⟩
        · have z := N' _ (.tail _ (.tail _ hp)); exact ⟨hk3 _ _ (offAll p hp).2.2.2 (offAll p hp).1 z.1, z.2⟩
      have offK : ∀ p ∈ tl', ∀ q ∈ [(I1, o1), (I2, o2), (C, oC), (D, lst ys)], p.1 ≠ q.1 := by
        intro p hp q hq
        simp only [List.mem_cons, List.not_mem_nil, or_false] at hq
        rcases hq with rfl | rfl | rfl | rfl
        · exact (off' p hp).2.2.1
        · exact (off' p hp).2.2.2
        · exact (off' p hp).1
        · exact (off' p hp).2.1
      refine wpAny_mono (helt j v ys tl' o2 oC _ h₃ _ _ (by simpa using hPv) hJ' hoC ?_ ?_ ?_ F₃ N₃ offK) (fun yv s₄ h₄ => ?_) fun _ _ e => e
      · show (if x = y then some v else m' x) = _
        rw [if_neg hyx]; exact hx1'
      · show (if x₂ = y then some v else m' x₂) = _
        rw [if_neg hyx₂]; exact hx2'
      · show (if y = y then some v else m' y) = _
        rw [if_pos rfl]
      · obtain ⟨h₄, tk₄, tl₄, rfl, F₄, N₄, off₄, hJ₄⟩ := h₄
        have zI2 := (N₄ (I2, o2) (List.mem_append_left _ (.tail _ (.head _)))).1
        have zC := (N₄ (C, oC) (List.mem_append_left _ (.tail _ (.tail _ (.head _))))).1
        have zD := N₄ (D, lst ys) (List.mem_append_left _ (.tail _ (.tail _ (.tail _ (.head _)))))
        have zI1 := N₄ (I1, o1) (List.mem_append_left _ (.head _))
        have hst₄ : h₄.IsListIter I2 sl (j + 1) ∧ h₄.IsList sl svs.toArray := by
          refine ⟨?_, hsl' fun p hp => N₄ p (List.mem_append_right _ (List.mem_append_right _ hp))⟩
          obtain ⟨o', q, r⟩ := hst₂.1
          have q' := hs₃.extBut _ _ a1 q
          rw [ho2] at q'
          cases q'
          exact ⟨o2, zI2, r⟩
        have hlen := hsz _ _ _ hJ'
        refine append_at (hsz := by show ys.toArray.size ≤ sizeLine; rw [List.size_toArray, sizeLine_eq]; omega) zD.1 fun h₅ hs₅ hD₅ => ?_
        refine ⟨svs.length + 1 - (j + 1), by omega, h₅, tk₄, j + 1, ys ++ [yv], _, tl₄, rfl, hlt', rfl, W.frame _ _ _ hst₄ fun b hb o e => hs₅.extBut b o ?_ e, F₄.change hs₅ zD.2.1 zD.2.2, (hoC.ns zC).sameBut hs₅ hDC.symm, ?_, ?_, ?_, ?_, hJ₄⟩
        · rintro rfl
          simp only [List.mem_cons, List.not_mem_nil, or_false] at hb
          rcases hb with hb | hb
          · exact a2 hb.symm
          · exact (off0 _ hsl).2.1 hb.symm
        · show (if x = y then some v else m' x) = _
          rw [if_neg hyx]; exact hx1'
        · show (if x₂ = y then some v else m' x₂) = _
          rw [if_neg hyx₂]; exact hx2'
        · intro p hp
          rcases List.mem_cons.mp hp with rfl | hp
          · exact ⟨hs₅.extBut _ _ hI1D zI1.1, zI1.2⟩
          rcases List.mem_cons.mp hp with rfl | hp
          · exact ⟨hD₅.trans (congrArg some (lst_snoc ys yv)), zD.2⟩
          · have z := N₄ p (List.mem_append_right _ hp)
            refine ⟨hs₅.extBut _ _ ?_ z.1, z.2⟩
            rcases List.mem_append.mp hp with hp | hp
            · exact off₄ p hp (D, lst ys) (.tail _ (.tail _ (.tail _ (.head _))))
            · exact (off0 p hp).2.1
        · intro p hp
          exact ⟨off₄ p hp (C, oC) (.tail _ (.tail _ (.head _))), off₄ p hp (D, lst ys) (.tail _ (.tail _ (.tail _ (.head _)))), off₄ p hp (I1, o1) (.head _), off₄ p hp (I2, o2) (.tail _ (.head _))⟩
    · obtain rfl : j = svs.length := by omega
      refine W.done _ _ _ (by simpa using hst') fun h₂ tk₂ hk₂ => ?_
      refine fin h₂ tk₂ ys tl' m' (fr_but F' hk₂ a4 hI20) (hn'.at' fun o e => hk₂ _ o (by simpa using a1.symm) e) (news_but N' hk₂ ?_) (fun p hp => ⟨(off' p hp).1, (off' p hp).2.1, (off' p hp).2.2.1⟩) hJ'
      intro p hp
      rcases List.mem_cons.mp hp with rfl | hp
      · exact a3.symm
      rcases List.mem_cons.mp hp with rfl | hp
      · exact a2.symm
      · exact (offAll p hp).2.2.2
  exact start1 loop (W.self 0 _ _ _ hst loop)
end
end Mine
end

section -- CompO
open PySem PySem.W PySem.Spec PySem.Calls PyProof.Rows PyProof.Rows.LCg
set_option maxHeartbeats 4000000
namespace Mine
section
variable {prog : Program} {w : World} {A : Around} {E : Value → Shared → Prop} {s : Shared} {h₀ : Heap} {L : Addr} {m : Str → Option Value} {env : Env}
theorem block2 {elt iter i1 : Expr} {x x₂ y : Str} {px px₂ tp py : Pos} {tk0} {scope : Scope} {cl : List (Str × Addr)} {pos : Pos} {s₂ : Shared} {I1 pl sl : Addr} {pvs svs : List Value} {pn sn : Nat} {news0 : List (Addr × Obj)} {RR : Value → Addr → Result → Shared → Prop}
    (J : Nat → List Value → List (Addr × Obj) → Prop) (hh : A.handled = none) (hcell : ∀ y ∈ scope.names, y.2 ≠ .cell) (hkind : scope.kind = .function) (hx : scope.names.lookup x = some .local) (hx₂ : scope.names.lookup x₂ = some .local) (hy : scope.names.lookup y = some .local) (hxx : x ≠ x₂) (hyx : x ≠ y) (hyx₂ : x₂ ≠ y)
    (hit : s₂.heap.IsListIter I1 pl 0) (hpl : (pl, listOf pvs.toArray pn) ∈ news0) (hsl : (sl, listOf svs.toArray sn) ∈ news0) (htup : ∀ v ∈ pvs, ∃ t v₁ v₂ nt, v = .ref t ∧ (t, tupO [v₁, v₂] nt) ∈ news0)
    (F : Fr h₀ L s₂.heap m) (N : News h₀ L s₂.heap news0) (hIL : L ≠ I1) (hI₀ : h₀.get? I1 = none) (off0 : ∀ p ∈ news0, p.1 ≠ I1)
    (hi1 : ∀ C h tk (Q' : Value → Shared → Prop) (E' : Value → Shared → Prop), News h₀ L h news0 → Q' (.ref sl) { s₂ with heap := h, toks := tk } → wpAny (model prog w) A (eval i1 (compEnvC scope cl C env)) Q' E' { s₂ with heap := h, toks := tk })
    (hJ : J 0 [] []) (hsz : ∀ k ys tl, J k ys tl → ys.length ≤ 1000)
    (helt : ∀ i j t v₁ v₂ nt v₃ ys tl I1 o1 I2 o2 C oC D m₂ h tk (E' : Value → Shared → Prop), pvs[i]? = some (.ref t) → (t, tupO [v₁, v₂] nt) ∈ news0 → svs[j]? = some v₃ → J (i * svs.length + j) ys tl → NsObj oC m₂ → m₂ x = some v₁ → m₂ x₂ = some v₂ → m₂ y = some v₃ → Fr h₀ L h m → News h₀ L h ([(I1, o1), (I2, o2), (C, oC), (D, lst ys)] ++ (tl ++ news0)) →
      (∀ p ∈ tl, ∀ q ∈ [(I1, o1), (I2, o2), (C, oC), (D, lst ys)], p.1 ≠ q.1) →
      wpAny (model prog w) A (eval elt (compEnvC scope cl C env)) (ElPost h₀ L m s₂ [(I1, o1), (I2, o2), (C, oC), (D, lst ys)] news0 (J (i * svs.length + j + 1)) ys) E' { s₂ with heap := h, toks := tk })
    (hRR : ∀ D C h tk m' ys tl, Fr h₀ L h m → News h₀ L h ((D, lst ys) :: (tl ++ news0)) → (∀ p ∈ tl ++ news0, p.1 ≠ D) → h.Ns C m' → h₀.get? C = none → h₀.get? D = none → C ≠ L → D ≠ L → C ≠ D → (∀ p ∈ tl ++ news0, p.1 ≠ C) → J (pvs.length * svs.length) ys tl → RR (.ref D) C (.ok .next) { s₂ with heap := h, toks := tk })
    (hs' : ∀ C x, foldedSetIterable i1 (compEnvC scope cl C env) x = pure x := by intro _ _; rfl) :
    wpAny (model prog w) A (newList []) (fun acc s₃ => wpAny (model prog w) A (newFunctionEnv scope env.globals cl [] env.qual none .none (some env)) (fun cenv s₄ =>
      codeAny (model prog w) A (.compStart (.ListComp elt [⟨.Tuple [.Name x px, .Name x₂ px₂] tk0 tp, iter, [], 0⟩, ⟨.Name y py, i1, [], 0⟩] scope pos) 0 (.ref I1) acc { cenv with scope := relabel scope env }) (RR acc cenv.locals) s₄) E s₃) E s₂ := by
  have hlp : pl ≠ I1 := off0 _ hpl
  have W := Walks.list (prog := prog) (w := w) hh I1 pl hlp pvs.toArray
  have hpl' : ∀ {h}, News h₀ L h news0 → h.IsList pl pvs.toArray := fun N => ⟨_, (N _ hpl).1, rfl, pn, rfl⟩
  have hsl' : ∀ {h}, News h₀ L h news0 → h.IsList sl svs.toArray := fun N => ⟨_, (N _ hsl).1, rfl, sn, rfl⟩
  refine wpAny_newObj_type (wpAny_newFunctionEnv hcell (by intro y hy; simp at hy) (fun h₁ hns₁ hsb₁ => ?_) hkind)
  dsimp only at hns₁ hsb₁ ⊢
  generalize hH2 : s₂.heap.push { cls := .type "list", dict := none, data := .seq ([] : List Value).toArray } = H2 at hns₁ hsb₁ ⊢
  have hC : H2.objs.size = s₂.heap.objs.size + 1 := by rw [← hH2, Heap.size_push]
  have hDC : s₂.heap.objs.size ≠ H2.objs.size := by rw [hC]; exact Nat.ne_of_lt (Nat.lt_succ_self _)
  have below : ∀ b, b < s₂.heap.objs.size → b ≠ H2.objs.size ∧ b ≠ s₂.heap.objs.size := fun b hb => ⟨by rw [hC]; exact Nat.ne_of_lt (Nat.lt_succ_of_lt hb), Nat.ne_of_lt hb⟩
  have hIlt : I1 < s₂.heap.objs.size := by obtain ⟨o, e, _⟩ := hit; exact Heap.lt_size e
  have old : ∀ b o, s₂.heap.get? b = some o → h₁.get? b = some o := fun b o e => hsb₁.extBut b o (below b (Heap.lt_size e)).1 (Heap.get?_push_of_some _ (hH2 ▸ Heap.get?_push_of_some _ e))
  have hacc : h₁.get? s₂.heap.objs.size = some (lst []) := hsb₁.extBut _ _ hDC (Heap.get?_push_of_some _ (hH2 ▸ Heap.get?_push_size _ rfl))
  have fresh : ∀ a, s₂.heap.objs.size ≤ a → s₂.heap.get? a = none := fun a ha => by
    cases e : s₂.heap.get? a with
    | none => rfl
    | some o' => exact absurd (Heap.lt_size e) (Nat.not_lt.mpr ha)
  have fresh₀ : ∀ a, s₂.heap.objs.size ≤ a → h₀.get? a = none := fun a ha => by
    cases e : h₀.get? a with
    | none => rfl
    | some o' => have := F.keep a o' e; rw [fresh a ha] at this; cases this
  have hD₀ : h₀.get? s₂.heap.objs.size = none := fresh₀ _ (Nat.le_refl _)
  have hC₀ : h₀.get? H2.objs.size = none := fresh₀ _ (by rw [hC]; exact Nat.le_succ _)
  have hLlt : L < s₂.heap.objs.size := F.ns.lt
  have hDL : s₂.heap.objs.size ≠ L := Ne.symm (below L hLlt).2
  have hCL : H2.objs.size ≠ L := Ne.symm (below L hLlt).1
  have hCI : I1 ≠ H2.objs.size := (below I1 hIlt).1
  have hDI : I1 ≠ s₂.heap.objs.size := (below I1 hIlt).2
  have offN : ∀ p ∈ news0, p.1 ≠ H2.objs.size ∧ p.1 ≠ s₂.heap.objs.size ∧ p.1 ≠ I1 := fun p hp => ⟨(below _ (Heap.lt_size (N p hp).1)).1, (below _ (Heap.lt_size (N p hp).1)).2, off0 p hp⟩
  have hltC : H2.objs.size < h₁.objs.size := hns₁.lt
  generalize hCe : H2.objs.size = C at *
  generalize hDe : s₂.heap.objs.size = D at *
  have loop : ∀ s₃ : Shared, s₃ = { s₂ with heap := h₁, toks := s₂.toks + ([] : List (Str × Value)).length } →
      codeAny (model prog w) A (.compLoop (.ListComp elt [⟨.Tuple [.Name x px, .Name x₂ px₂] tk0 tp, iter, [], 0⟩, ⟨.Name y py, i1, [], 0⟩] scope pos) 0 (.ref I1) (.ref D) (compEnvC scope cl C env))
        (RR (.ref D) C) s₃ := by
    rintro s₃ rfl
    refine loop0
      (fun k s' => ∃ h' tk i ys m' tl, s' = { s₂ with heap := h', toks := tk } ∧ i ≤ pvs.length ∧ k = pvs.length + 1 - i ∧ (h'.IsListIter I1 pl i ∧ h'.IsList pl pvs.toArray) ∧ Fr h₀ L h' m ∧ h'.Ns C m' ∧ News h₀ L h' ((D, lst ys) :: (tl ++ news0)) ∧
        (∀ p ∈ tl, p.1 ≠ C ∧ p.1 ≠ D ∧ p.1 ≠ I1) ∧ J (i * svs.length) ys tl) ?_ (pvs.length + 1)
      ⟨h₁, _, 0, [], _, [], rfl, Nat.zero_le _, rfl, ?_, F.keeps old, hns₁, fun p hp => ?_, (fun p hp => by cases hp), by simpa using hJ⟩ (hs' C)
    · rintro k s' ⟨h', tk, i, ys, m', tl, rfl, hi, rfl, hst', F', hn', N', off', hJ'⟩
      have offAll : ∀ p ∈ tl ++ news0, p.1 ≠ C ∧ p.1 ≠ D ∧ p.1 ≠ I1 := fun p hp => (List.mem_append.mp hp).elim (off' p) (offN p)
      by_cases hlt : i < pvs.length
      · refine W.item i _ _ _ (by simpa using hlt) hst' fun v h₂ tk₂ hPv hst₂ hk₂ => ?_
        have hv : pvs[i]? = some v := by simpa using hPv
        obtain ⟨t, v₁, v₂, nt, rfl, hmt⟩ := htup v (List.mem_of_getElem? hv)
        have N₂ : News h₀ L h₂ ((D, lst ys) :: (tl ++ news0)) := news_but N' hk₂ fun p hp => by
          rcases List.mem_cons.mp hp with rfl | hp
          · exact Ne.symm hDI
          · exact (offAll p hp).2.2
        have ht : IsTup h₂ t #[v₁, v₂] := ⟨_, (N₂ _ (.tail _ (List.mem_append_right _ hmt))).1, rfl, nt, rfl⟩
        refine wpAny_letOwnedTupleGo_listiter hst₂.1 ?_
        refine assign_Tuple_tuple hh ht rfl rfl fun h₅ he => ?_
        have he' : ∀ b o, h₂.get? b = some o → h₅.get? b = some o := fun b o e => he b o (Nat.ne_of_lt (Heap.lt_size e)) e
        refine assignInOrder_cons (wpAny_assign_Name (wpAny_storeName_local (lookup_relabel_local hx) ((hn'.at' fun o e => hk₂ _ o (by simpa using Ne.symm hCI) e).at' fun o e => he' _ o e) (fun h₆ hn₆ hs₆ => ?_) (by simp [compEnvC, relabel, hkind])))
        refine assignInOrder_cons (wpAny_assign_Name (wpAny_storeName_local (lookup_relabel_local hx₂) hn₆ (fun h₃ hn₃ hs₃ => ?_) (by simp [compEnvC, relabel, hkind])))
        refine assignInOrder_nil ?_
        have old3 : ∀ b o, b ≠ C → h₂.get? b = some o → h₃.get? b = some o := fun b o hb e => hs₃.extBut b o hb (hs₆.extBut b o hb (he' b o e))
        have F₃ : Fr h₀ L h₃ m := (((fr_but F' hk₂ hIL hI₀).keeps he').change hs₆ hCL hC₀).change hs₃ hCL hC₀
        have N₃ : News h₀ L h₃ ((D, lst ys) :: (tl ++ news0)) := fun p hp => by
          have z := N₂ p hp
          refine ⟨old3 _ _ ?_ z.1, z.2⟩
          rcases List.mem_cons.mp hp with rfl | hp
          · exact hDC
          · exact (offAll p hp).1
        have N₃0 : News h₀ L h₃ news0 := fun p hp => N₃ p (.tail _ (List.mem_append_right _ hp))
        refine hi1 C h₃ _ _ _ N₃0 ?_
        refine wpAny_pyIter_list (hsl' N₃0) ?_
        have up : ∀ b o, h₃.get? b = some o → (h₃.push { cls := .type "list_iterator", data := .fields #[.ref sl, .int 0 0] }).get? b = some o := fun b o e => Heap.get?_push_of_some _ e
        have lt3 : ∀ {b o}, h₃.get? b = some o → b ≠ h₃.objs.size := fun e => Nat.ne_of_lt (Heap.lt_size e)
        have hst₃ : h₃.IsListIter I1 pl (i + 1) := by obtain ⟨o, e, r⟩ := hst₂.1; exact ⟨o, old3 _ _ hCI e, r⟩
        obtain ⟨o1, heI, hoI⟩ := hst₃
        have hC3 : C ≠ h₃.objs.size := by obtain ⟨o, es, ep, e, _⟩ := hn₃; exact lt3 e
        have hI3 : I1 ≠ h₃.objs.size := lt3 heI
        have hD3 : D ≠ h₃.objs.size := lt3 (N₃ _ (.head _)).1
        have hN3 : ∀ p ∈ tl ++ news0, p.1 ≠ h₃.objs.size := fun p hp => lt3 (N₃ p (.tail _ hp)).1
        have hL3 : L ≠ h₃.objs.size := Nat.ne_of_lt F₃.ns.lt
        refine inner2 (s := { s₂ with heap := h₃.push { cls := .type "list_iterator", data := .fields #[.ref sl, .int 0 0] }, toks := _ }) (o1 := o1) (I1 := I1) (I2 := h₃.objs.size) (sl := sl) (svs := svs) (sn := sn) (x := x) (x₂ := x₂) (v₁ := v₁) (v₂ := v₂) (news0 := news0) (tl := tl) (ys := ys) J (i * svs.length) hh hkind hy hyx hyx₂ hsl ⟨_, Heap.get?_push_size _ rfl, rfl, rfl⟩ (F₃.keeps up) (hn₃.at' fun o e => up _ o e) ?_ ?_ ?_ hCI (Ne.symm hDC |>.symm) hDI (Ne.symm hC3) (Ne.symm hD3) (Ne.symm hI3) hL3 (next_is_new F₃) hC₀ hCL (hN3 _ (List.mem_append_right _ hsl)) ?_ ?_ hJ' hsz ?_ ?_
        · simp [hxx]
        · simp
        · intro p hp
          rcases List.mem_cons.mp hp with rfl | hp
          · exact ⟨up _ _ heI, Ne.symm hIL, hI₀⟩
          · have z := N₃ p hp; exact ⟨up _ _ z.1, z.2⟩
        · exact fun p hp => ⟨(offN p hp).1, (offN p hp).2.1, (offN p hp).2.2, hN3 p (List.mem_append_right _ hp)⟩
        · exact fun p hp => ⟨(off' p hp).1, (off' p hp).2.1, (off' p hp).2.2, hN3 p (List.mem_append_left _ hp)⟩
        · intro j v₃ ys' tl' o2 oC m₂ h₉ tk₉ E' hv3 hJ9 hoC h1 h2 h3 F₉ N₉ off₉
          exact helt i j t v₁ v₂ nt v₃ ys' tl' I1 o1 _ o2 C oC D m₂ h₉ tk₉ E' hv hmt hv3 hJ9 hoC h1 h2 h3 F₉ N₉ off₉
        · intro h₉ tk₉ ys' tl' m₂ F₉ hn₉ N₉ off₉ hJ9
          have N₉' : News h₀ L h₉ ((D, lst ys') :: (tl' ++ news0)) := fun p hp => N₉ p (.tail _ hp)
          refine ⟨pvs.length + 1 - (i + 1), by omega, h₉, tk₉, i + 1, ys', m₂, tl', rfl, hlt, rfl, ⟨⟨o1, (N₉ _ (.head _)).1, hoI⟩, hpl' fun p hp => N₉' p (.tail _ (List.mem_append_right _ hp))⟩, F₉, hn₉, N₉', off₉, ?_⟩
          rw [Nat.succ_mul]; exact hJ9
      · obtain rfl : i = pvs.length := by omega
        refine W.done _ _ _ (by simpa using hst') fun h₂ tk₂ hk₂ => ?_
        exact hRR D C h₂ tk₂ _ ys tl (fr_but F' hk₂ hIL hI₀) (news_but N' hk₂ fun p hp => by
          rcases List.mem_cons.mp hp with rfl | hp
          · exact Ne.symm hDI
          · exact (offAll p hp).2.2) (fun p hp => (offAll p hp).2.1) (hn'.at' fun o e => hk₂ _ o (by simpa using Ne.symm hCI) e) hC₀ hD₀ hCL hDL (Ne.symm hDC) (fun p hp => (offAll p hp).1) hJ'
    · refine ⟨?_, hpl' fun p hp => ⟨old _ _ (N p hp).1, (N p hp).2⟩⟩
      obtain ⟨o, e, r⟩ := hit
      exact ⟨o, old _ _ e, r⟩
    · rcases List.mem_cons.mp hp with rfl | hp
      · exact ⟨hacc, hDL, hD₀⟩
      · exact ⟨old _ _ (N p (by simpa using hp)).1, (N p (by simpa using hp)).2⟩
  have hit1 : h₁.IsListIter I1 pl 0 ∧ h₁.IsList pl pvs.toArray := ⟨by obtain ⟨o, e, r⟩ := hit; exact ⟨o, old _ _ e, r⟩, hpl' fun p hp => ⟨old _ _ (N p hp).1, (N p hp).2⟩⟩
  exact codeAny_compStart_list (loop _ rfl) (W.self 0 _ _ _ hit1 (loop _ rfl))
end
end Mine
end

section -- CompA
open PySem PySem.W PySem.Spec PySem.Calls PyProof.Rows PyProof.Rows.LCg
set_option maxHeartbeats 4000000
namespace Mine
section
variable {prog : Program} {w : World} {A : Around} {E : Value → Shared → Prop} {s : Shared} {h₀ : Heap} {m : Str → Option Value} {env : Env}
theorem Assign_comp2 {elt iter i1 : Expr} {x x₂ y z : Str} {px px₂ tp py pz : Pos} {tk0} {scope : Scope} {cl : List (Str × Addr)} {pos spos : Pos} {pl sl : Addr} {pvs svs : List Value} {pn sn : Nat} {news0 : List (Addr × Obj)} {Q : Flow → Shared → Prop}
    (J : Nat → List Value → List (Addr × Obj) → Prop) (hh : A.handled = none)
    (hsw : swapsWith (.ListComp elt [⟨.Tuple [.Name x px, .Name x₂ px₂] tk0 tp, iter, [], 0⟩, ⟨.Name y py, i1, [], 0⟩] scope pos) (some (.Name z pz)) spos.line env = pure true)
    (hclos : closureFor scope env = pure cl) (hcell : ∀ y ∈ scope.names, y.2 ≠ .cell) (hkind : scope.kind = .function)
    (hnames : ∀ z ∈ scope.names, z.2 = .local → scope.names.lookup z.1 = some .local) (hx : scope.names.lookup x = some .local) (hx₂ : scope.names.lookup x₂ = some .local) (hy : scope.names.lookup y = some .local) (hxx : x ≠ x₂) (hyx : x ≠ y) (hyx₂ : x₂ ≠ y)
    (hz : env.kindOf z = some .local) (hp : (env.scope.kind == .class || (env.scope.kind == .module && env.locals != env.globals)) = false)
    (hev : ∀ Q' : Value → Shared → Prop, Q' (.ref pl) s → wpAny (model prog w) A (eval iter env) Q' E s)
    (hpl : (pl, listOf pvs.toArray pn) ∈ news0) (hsl : (sl, listOf svs.toArray sn) ∈ news0) (htup : ∀ v ∈ pvs, ∃ t v₁ v₂ nt, v = .ref t ∧ (t, tupO [v₁, v₂] nt) ∈ news0)
    (F : Fr h₀ env.locals s.heap m) (N : News h₀ env.locals s.heap news0)
    (hi1 : ∀ C h tk (Q' : Value → Shared → Prop) (E' : Value → Shared → Prop), News h₀ env.locals h news0 → Q' (.ref sl) { s with heap := h, toks := tk } → wpAny (model prog w) A (eval i1 (compEnvC scope cl C env)) Q' E' { s with heap := h, toks := tk })
    (hJ : J 0 [] []) (hsz : ∀ k ys tl, J k ys tl → ys.length ≤ 1000)
    (helt : ∀ i j t v₁ v₂ nt v₃ ys tl I1 o1 I2 o2 C oC D m₂ h tk (E' : Value → Shared → Prop), pvs[i]? = some (.ref t) → (t, tupO [v₁, v₂] nt) ∈ news0 → svs[j]? = some v₃ → J (i * svs.length + j) ys tl → NsObj oC m₂ → m₂ x = some v₁ → m₂ x₂ = some v₂ → m₂ y = some v₃ → Fr h₀ env.locals h m → News h₀ env.locals h ([(I1, o1), (I2, o2), (C, oC), (D, lst ys)] ++ (tl ++ news0)) →
      (∀ p ∈ tl, ∀ q ∈ [(I1, o1), (I2, o2), (C, oC), (D, lst ys)], p.1 ≠ q.1) →
      wpAny (model prog w) A (eval elt (compEnvC scope cl C env)) (ElPost h₀ env.locals m s [(I1, o1), (I2, o2), (C, oC), (D, lst ys)] news0 (J (i * svs.length + j + 1)) ys) E' { s with heap := h, toks := tk })
    (fin : ∀ D h tk ys tl, Fr h₀ env.locals h (fun a => if a = z then some (.ref D) else m a) → News h₀ env.locals h ((D, lst ys) :: (tl ++ news0)) → (∀ p ∈ tl ++ news0, p.1 ≠ D) → J (pvs.length * svs.length) ys tl → Q .next { s with heap := h, toks := tk })
    (hs0 : ∀ x, foldedSetIterable iter env x = pure x := by intro _; rfl)
    (hs' : ∀ C x, foldedSetIterable i1 (compEnvC scope cl C env) x = pure x := by intro _ _; rfl) :
    wpAny (model prog w) A (exec (.Assign [.Name z pz] (.ListComp elt [⟨.Tuple [.Name x px, .Name x₂ px₂] tk0 tp, iter, [], 0⟩, ⟨.Name y py, i1, [], 0⟩] scope pos) spos) env) Q E s := by
  rw [exec_Assign_Name_used _ _ _ _ hsw]
  refine wpAny_bind (wpAny_standAt (wpAny_bind ?_))
  show wpAny _ A (do let _ ← comprehension (.ListComp elt [⟨.Tuple [.Name x px, .Name x₂ px₂] tk0 tp, iter, [], 0⟩, ⟨.Name y py, i1, [], 0⟩] scope pos) scope env _ (newList []) false (eval iter env) (some (assign (.Name z pz) env))) _ _ s
  refine wpAny_bind (wpAny_mono (wpAny_comprehension_free (use := some (assign (.Name z pz) env)) (Q := fun _ s' => Q .next s') rfl hs0 hclos hkind hnames
    (hev _ ?_)) (fun _ s' hq => wpAny_pure (wpAny_pure hq)) fun _ _ e => e)
  have hl : s.heap.IsList pl pvs.toArray := ⟨_, (N _ hpl).1, rfl, pn, rfl⟩
  refine wpAny_pyIter_list hl ?_
  have up : ∀ b o, s.heap.get? b = some o → (s.heap.push { cls := .type "list_iterator", data := .fields #[.ref pl, .int 0 0] }).get? b = some o := fun b o e => Heap.get?_push_of_some _ e
  refine block2 (s₂ := { s with heap := s.heap.push { cls := .type "list_iterator", data := .fields #[.ref pl, .int 0 0] } }) (I1 := s.heap.objs.size) (pl := pl) (sl := sl) (pvs := pvs) (svs := svs) (pn := pn) (sn := sn) (news0 := news0) J hh hcell hkind hx hx₂ hy hxx hyx hyx₂ ⟨_, Heap.get?_push_size _ rfl, rfl, rfl⟩ hpl hsl htup (F.keeps up) (N.grown up) (Nat.ne_of_lt F.ns.lt) (next_is_new F) (fun p hp => Nat.ne_of_lt (Heap.lt_size (N p hp).1)) hi1 hJ hsz helt ?_ hs'
  intro D C h' tk m' ys tl F' N' o1 hn hC₀ hD₀ hCL hDL hCD offC fJ
  show wpAny _ A (assign (.Name z pz) env (.ref D)) _ _ _
  refine wpAny_assign_Name (wpAny_storeName_local hz F'.ns (fun h₂ hn₂ hs₂ => ?_) hp)
  have hL₀ : h₀.get? env.locals = none := Heap.get?_none_of_le F'.above
  have F₂ : Fr h₀ env.locals h₂ (fun a => if a = z then some (.ref D) else m a) := ⟨hn₂, fun b o e => hs₂.extBut b o (fun q => by rw [q, hL₀] at e; cases e) (F'.keep b o e), F'.above⟩
  refine ⟨m', hn.sameBut hs₂ hCL, fun h'' hs'' => fin D h'' _ ys tl (F₂.change hs'' hCL hC₀) (fun p hp => ?_) o1 fJ⟩
  have zz : h₂.get? p.1 = some p.2 := hs₂.extBut _ _ (N' p hp).2.1 (N' p hp).1
  refine ⟨hs''.extBut _ _ ?_ zz, (N' p hp).2⟩
  rcases List.mem_cons.mp hp with rfl | hp
  · exact Ne.symm hCD
  · exact offC p hp
end
end Mine
end

section -- CompJ
open PySem PySem.W PySem.Spec PySem.Calls PyProof.Rows PyProof.Rows.LCg
set_option maxHeartbeats 4000000
namespace Mine
section
variable {prog : Program} {w : World} {A : Around} {E : Value → Shared → Prop} {s : Shared} {h₀ : Heap} {L : Addr} {m : Str → Option Value} {env : Env}
theorem rest_J {elt : Expr} {x : Str} {scope : Scope} {cl : List (Str × Addr)} {news0 : List (Addr × Obj)} {ax : Addr} {vs : List Value} {n : Nat} {Fin : List Value → List (Addr × Obj) → Prop} (J : Nat → List Value → List (Addr × Obj) → Prop) (hm : (ax, listOf vs.toArray n) ∈ news0)
    (turn : ∀ k v ys tl I oI C oC D m₂ h tk (E' : Value → Shared → Prop), vs[k]? = some v → J k ys tl → NsObj oC m₂ → m₂ x = some v → Fr h₀ L h m → News h₀ L h ([(I, oI), (C, oC), (D, lst ys)] ++ (tl ++ news0)) → (∀ p ∈ tl ++ news0, ∀ q ∈ [(I, oI), (C, oC), (D, lst ys)], p.1 ≠ q.1) →
      wpAny (model prog w) A (eval elt (compEnvC scope cl C env)) (ElPost h₀ L m s [(I, oI), (C, oC), (D, lst ys)] news0 (J (k + 1)) ys) E' { s with heap := h, toks := tk })
    (fin : ∀ ys tl, J vs.length ys tl → Fin ys (tl ++ news0)) (hJ : J 0 [] []) :
    CompRest prog w A h₀ L m env elt x scope cl s (SrcAt h₀ ax vs.toArray) (fun i v => vs.toArray[i]? = some v) Fin vs.toArray.size 0 [] news0 := by
  have all : ∀ r k ys tl, k + r = vs.length → J k ys tl → CompRest prog w A h₀ L m env elt x scope cl s (SrcAt h₀ ax vs.toArray) (fun i v => vs.toArray[i]? = some v) Fin r k ys (tl ++ news0) := by
    intro r
    induction r with
    | zero =>
      intro k ys tl e hj
      have hk : k = vs.length := by omega
      subst hk
      exact CompRest.zero (fin _ _ hj)
    | succ r ih =>
      intro k ys tl e hj
      refine CompRest.succ ?_
      intro v I oI C oC D m₂ h tk E' hv hC hx F N off ne
      have o3 := off.mem
      have offI : ∀ p ∈ tl ++ news0, ∀ q ∈ [(I, oI), (C, oC), (D, lst ys)], p.1 ≠ q.1 := by
        intro p hp q hq
        simp only [List.mem_cons, List.not_mem_nil, or_false] at hq
        rcases hq with rfl | rfl | rfl
        · exact (o3 p hp).1
        · exact (o3 p hp).2.1
        · exact (o3 p hp).2.2
      refine wpAny_mono (turn k v ys tl I oI C oC D m₂ h tk E' (by simpa using hv) hj hC hx F N offI) (fun y s₂ hy => ?_) fun _ _ z => z
      obtain ⟨h', tk', tl', rfl, F', N', off', hj'⟩ := hy
      refine ⟨h', tk', tl' ++ news0, rfl, F', N', Off3.of ?_, .inr ⟨_, List.mem_append_right _ hm, rfl, _, rfl⟩, ih _ _ _ (by omega) hj'⟩
      intro p hp
      rcases List.mem_append.mp hp with hp | hp
      · exact ⟨off' p hp _ (.head _), off' p hp _ (.tail _ (.head _)), off' p hp _ (.tail _ (.tail _ (.head _)))⟩
      · exact o3 p (List.mem_append_right _ hp)
  have := all vs.length 0 [] [] (by omega) hJ
  rw [show vs.toArray.size = vs.length from List.size_toArray]
  exact this
theorem comp1 {elt iter : Expr} {x : Str} {px : Pos} {scope : Scope} {cl : List (Str × Addr)} {pos : Pos} {Q : Value → Shared → Prop} {news0 : List (Addr × Obj)} {ax : Addr} {vs : List Value} {n : Nat} {s₁ : Shared} (J : Nat → List Value → List (Addr × Obj) → Prop) (F₀ : Fr h₀ L s.heap m) (hh : A.handled = none)
    (hclos : closureFor scope env = pure cl) (hcell : ∀ y ∈ scope.names, y.2 ≠ .cell) (hkind : scope.kind = .function)
    (hnames : ∀ y ∈ scope.names, y.2 = .local → scope.names.lookup y.1 = some .local) (hx : scope.names.lookup x = some .local)
    (hev : ∀ Q' : Value → Shared → Prop, Q' (.ref ax) s₁ → wpAny (model prog w) A (eval iter env) Q' E s) (F : Fr h₀ L s₁.heap m) (N : News h₀ L s₁.heap news0) (hm : (ax, listOf vs.toArray n) ∈ news0) (hz : vs.length ≤ 1000)
    (turn : ∀ k v ys tl I oI C oC D m₂ h tk (E' : Value → Shared → Prop), vs[k]? = some v → J k ys tl → NsObj oC m₂ → m₂ x = some v → Fr h₀ L h m → News h₀ L h ([(I, oI), (C, oC), (D, lst ys)] ++ (tl ++ news0)) → (∀ p ∈ tl ++ news0, ∀ q ∈ [(I, oI), (C, oC), (D, lst ys)], p.1 ≠ q.1) →
      wpAny (model prog w) A (eval elt (compEnvC scope cl C env)) (ElPost h₀ L m s₁ [(I, oI), (C, oC), (D, lst ys)] news0 (J (k + 1)) ys) E' { s₁ with heap := h, toks := tk })
    (fin : ∀ D h tk ys tl, Fr h₀ L h m → News h₀ L h ((D, lst ys) :: (tl ++ news0)) → (∀ p ∈ tl ++ news0, p.1 ≠ D) → J vs.length ys tl → Q (.ref D) { s₁ with heap := h, toks := tk })
    (hJ : J 0 [] []) (hs : ∀ x, foldedSetIterable iter env x = pure x := by intro _; rfl) :
    wpAny (model prog w) A (eval (.ListComp elt [⟨.Name x px, iter, [], 0⟩] scope pos) env) Q E s := by
  refine LCg.ListComp_U F₀ hclos hcell hkind hnames hx (hev _ ?_) hs
  refine LCg.CompSrc.ledger hh F N hm (by rw [List.size_toArray, sizeLine_eq]; omega) fun g => ?_
  refine rest_J (s := { s₁ with heap := g }) J hm turn (fun ys tl hj => ?_) hJ
  intro D h tk F' N' o1
  refine fin D h tk ys tl F' N' ?_ hj
  have : ∀ {l : List (Addr × Obj)}, Off1 D l → ∀ p ∈ l, p.1 ≠ D := by
    intro l
    induction l with
    | nil => intro _ p hp; cases hp
    | cons a r ih =>
      intro o p hp
      rcases List.mem_cons.mp hp with rfl | hp
      · exact o.1
      · exact ih o.2 p hp
  exact this o1
theorem Assign_comp1 {elt iter : Expr} {x z : Str} {px pz : Pos} {scope : Scope} {cl : List (Str × Addr)} {pos spos : Pos} {Q : Flow → Shared → Prop} {news0 : List (Addr × Obj)} {ax : Addr} {vs : List Value} {n : Nat} {s₁ : Shared} (J : Nat → List Value → List (Addr × Obj) → Prop) (F₀ : Fr h₀ env.locals s.heap m) (hh : A.handled = none)
    (hsw : swapsWith (.ListComp elt [⟨.Name x px, iter, [], 0⟩] scope pos) (some (.Name z pz)) spos.line env = pure true)
    (hclos : closureFor scope env = pure cl) (hcell : ∀ y ∈ scope.names, y.2 ≠ .cell) (hkind : scope.kind = .function)
    (hnames : ∀ y ∈ scope.names, y.2 = .local → scope.names.lookup y.1 = some .local) (hx : scope.names.lookup x = some .local)
    (hy : env.kindOf z = some .local) (hp : (env.scope.kind == .class || (env.scope.kind == .module && env.locals != env.globals)) = false)
    (hev : ∀ Q' : Value → Shared → Prop, Q' (.ref ax) s₁ → wpAny (model prog w) A (eval iter env) Q' E s) (F : Fr h₀ env.locals s₁.heap m) (N : News h₀ env.locals s₁.heap news0) (hm : (ax, listOf vs.toArray n) ∈ news0) (hz : vs.length ≤ 1000)
    (turn : ∀ k v ys tl I oI C oC D m₂ h tk (E' : Value → Shared → Prop), vs[k]? = some v → J k ys tl → NsObj oC m₂ → m₂ x = some v → Fr h₀ env.locals h m → News h₀ env.locals h ([(I, oI), (C, oC), (D, lst ys)] ++ (tl ++ news0)) → (∀ p ∈ tl ++ news0, ∀ q ∈ [(I, oI), (C, oC), (D, lst ys)], p.1 ≠ q.1) →
      wpAny (model prog w) A (eval elt (compEnvC scope cl C env)) (ElPost h₀ env.locals m s₁ [(I, oI), (C, oC), (D, lst ys)] news0 (J (k + 1)) ys) E' { s₁ with heap := h, toks := tk })
    (fin : ∀ D h tk ys tl, Fr h₀ env.locals h (fun a => if a = z then some (.ref D) else m a) → News h₀ env.locals h ((D, lst ys) :: (tl ++ news0)) → (∀ p ∈ tl ++ news0, p.1 ≠ D) → J vs.length ys tl → Q .next { s₁ with heap := h, toks := tk })
    (hJ : J 0 [] []) (hs : ∀ x, foldedSetIterable iter env x = pure x := by intro _; rfl) :
    wpAny (model prog w) A (exec (.Assign [.Name z pz] (.ListComp elt [⟨.Name x px, iter, [], 0⟩] scope pos) spos) env) Q E s := by
  refine LCg.Assign_ListComp_U F₀ rfl hsw hclos hcell hkind hnames hx hy hp (hev _ ?_) hs
  refine LCg.CompSrc.ledger hh F N hm (by rw [List.size_toArray, sizeLine_eq]; omega) fun g => ?_
  refine rest_J (s := { s₁ with heap := g }) J hm turn (fun ys tl hj => ?_) hJ
  intro D h tk F' N' o1
  refine fin D h tk ys tl F' N' ?_ hj
  have : ∀ {l : List (Addr × Obj)}, Off1 D l → ∀ p ∈ l, p.1 ≠ D := by
    intro l
    induction l with
    | nil => intro _ p hp; cases hp
    | cons a r ih =>
      intro o p hp
      rcases List.mem_cons.mp hp with rfl | hp
      · exact o.1
      · exact ih o.2 p hp
  exact this o1
/-- pairs unpacked, a source of the ledger; nothing made by the elements -/
theorem compP {elt iter : Expr} {x x₂ : Str} {px px₂ tp : Pos} {tk0} {scope : Scope} {cl : List (Str × Addr)} {pos : Pos} {Q : Value → Shared → Prop} {news0 : List (Addr × Obj)} {ax : Addr} {vs : List Value} {n : Nat} {s₁ : Shared} (J : Nat → List Value → Prop) (F₀ : Fr h₀ L s.heap m) (hh : A.handled = none)
    (hclos : closureFor scope env = pure cl) (hcell : ∀ y ∈ scope.names, y.2 ≠ .cell) (hkind : scope.kind = .function)
    (hnames : ∀ y ∈ scope.names, y.2 = .local → scope.names.lookup y.1 = some .local) (hx : scope.names.lookup x = some .local) (hx₂ : scope.names.lookup x₂ = some .local) (hxx : x ≠ x₂)
    (hev : ∀ Q' : Value → Shared → Prop, Q' (.ref ax) s₁ → wpAny (model prog w) A (eval iter env) Q' E s) (F : Fr h₀ L s₁.heap m) (N : News h₀ L s₁.heap news0) (hm : (ax, listOf vs.toArray n) ∈ news0) (hz : vs.length ≤ 1000)
    (htup : ∀ v ∈ vs, ∃ t v₁ v₂ nt, v = .ref t ∧ (t, tupO [v₁, v₂] nt) ∈ news0)
    (turn : ∀ k t v₁ v₂ nt ys I oI C oC D m₂ h tk (E' : Value → Shared → Prop), vs[k]? = some (.ref t) → (t, tupO [v₁, v₂] nt) ∈ news0 → J k ys → NsObj oC m₂ → m₂ x = some v₁ → m₂ x₂ = some v₂ → Fr h₀ L h m → News h₀ L h ([(I, oI), (C, oC), (D, lst ys)] ++ news0) →
      wpAny (model prog w) A (eval elt (compEnvC scope cl C env)) (fun y s' => (∃ tk', s' = { s₁ with heap := h, toks := tk' }) ∧ J (k + 1) (ys ++ [y])) E' { s₁ with heap := h, toks := tk })
    (fin : ∀ D h tk ys, Fr h₀ L h m → News h₀ L h ((D, lst ys) :: news0) → (∀ p ∈ news0, p.1 ≠ D) → J vs.length ys → Q (.ref D) { s₁ with heap := h, toks := tk })
    (hJ : J 0 []) (hs : ∀ x, foldedSetIterable iter env x = pure x := by intro _; rfl) :
    wpAny (model prog w) A (eval (.ListComp elt [⟨.Tuple [.Name x px, .Name x₂ px₂] tk0 tp, iter, [], 0⟩] scope pos) env) Q E s := by
  refine LCp.ListComp_P F₀ hclos hcell hkind hnames hx hx₂ hxx (hev _ ?_) hs
  refine LCp.SrcLP.ledger hh F N hm (by rw [List.size_toArray, sizeLine_eq]; omega) fun g => ?_
  have all : ∀ r k ys, k + r = vs.length → J k ys → LCp.CompRestP prog w A h₀ L m env elt x x₂ scope cl { s₁ with heap := g } (SrcAt h₀ ax vs.toArray) (fun i v => vs.toArray[i]? = some v) (FinE h₀ L m { s₁ with heap := g } Q) r k ys news0 := by
    intro r
    induction r with
    | zero =>
      intro k ys e hj
      have hk : k = vs.length := by omega
      subst hk
      refine LCp.CompRestP.zero ?_
      intro D h tk F' N' o1
      refine fin D h tk ys F' N' ?_ hj
      have : ∀ {l : List (Addr × Obj)}, Off1 D l → ∀ p ∈ l, p.1 ≠ D := by
        intro l
        induction l with
        | nil => intro _ p hp; cases hp
        | cons a r ih =>
          intro o p hp
          rcases List.mem_cons.mp hp with rfl | hp
          · exact o.1
          · exact ih o.2 p hp
      exact this o1
    | succ r ih =>
      intro k ys e hj
      refine LCp.CompRestP.succ ?_
      intro v hv
      have hv' : vs[k]? = some v := by simpa using hv
      obtain ⟨t, v₁, v₂, nt, rfl, hmt⟩ := htup v (List.mem_of_getElem? hv')
      refine ⟨t, _, v₁, v₂, nt, rfl, hmt, rfl, rfl, ?_⟩
      intro I oI C oC D m₂ h tk E' hC h1 h2 F' N' off ne
      refine wpAny_mono (turn k t v₁ v₂ nt ys I oI C oC D m₂ h tk E' hv' hmt hj hC h1 h2 F' N') (fun y s₂ hy => ?_) fun _ _ z => z
      obtain ⟨⟨tk', rfl⟩, hj'⟩ := hy
      exact ⟨h, tk', news0, rfl, F', N', off, .inr ⟨_, hm, rfl, _, rfl⟩, ih _ _ (by omega) hj'⟩
  have := all vs.length 0 [] (by omega) hJ
  rw [show vs.toArray.size = vs.length from List.size_toArray]
  exact this
theorem sum_l {l : Addr} {vs : List Value} {n : Nat} {ns : List Int} {news : List (Addr × Obj)} {Q : Value → Shared → Prop} (F : Fr h₀ L s.heap m) (N : News h₀ L s.heap news) (hh : A.handled = none) (hm : (l, listOf vs.toArray n) ∈ news) (I : IntsAre vs ns)
    (h : ∀ h' tk t', Fr h₀ L h' m → News h₀ L h' news → Q (.int ns.sum t') { s with heap := h', toks := tk }) : wpAny (model prog w) A (call (.builtin "sum") [.ref l]) Q E s := by
  have hl : s.heap.IsList l vs.toArray := ⟨_, (N _ hm).1, rfl, n, rfl⟩
  obtain ⟨xs, hxs⟩ := I.allInts.items
  rw [hxs] at hl
  refine sum_intListG hh hl fun h' tk t' hk => ?_
  have e : preSum (numAt xs) xs.size = ns.sum := by
    rw [preSum_eq, List.take_of_length_le (by simp), ← nums_intItems, ← hxs]
    show (numsOf vs).sum = _
    rw [I.numsOf]
  rw [e]
  exact h h' tk t' (F.keeps hk) (N.grown hk)
end
end Mine
end

section -- ForC
open PySem PySem.W PySem.Spec PySem.Calls PyProof.Rows PyProof.Rows.LCg
set_option maxHeartbeats 4000000
namespace Mine
section
variable {prog : Program} {w : World} {A : Around} {E : Value → Shared → Prop} {s : Shared} {env : Env} {h₀ : Heap} {y : Str} {py : Pos} {body orelse : List Stmt} {Q : Flow → Shared → Prop}
/-- for over a list of the ledger, any target -/
theorem iter_list {σ : Type} {l : Addr} {vs : List Value} {nn : Nat} {x : Str} {m₀ : Str → Option Value} (Led : σ → List (Addr × Obj)) (ps : σ → List (Str × Value)) (stored : List Str) (Pc : Nat → σ → Prop) (c₀ : σ)
    (hh : A.handled = none) (hl : ∀ c, (l, listOf vs.toArray nn) ∈ Led c) (F : Fr h₀ env.locals s.heap m₀) (N : News h₀ env.locals s.heap (Led c₀)) (hk : ∀ p ∈ ps c₀, m₀ p.1 = some p.2) (hp : Pc 0 c₀)
    (turn : ∀ i v (c : σ) (u : Str → Option Value) h tk own, i < vs.length → vs[i]? = some v → Pc i c → OwnOff own ((Led c).map (·.1)) → 
      Fr h₀ env.locals h (fun y => if y = x then u y else kstB (fun z => if stored.contains z then u z else m₀ z) (ps c) y) → News h₀ env.locals h (Led c ++ own) →
      wpAny (model prog w) A (assign (.Name y py) env v) (fun _ s₂ => wpAny (model prog w) A (execs body env) (FPost h₀ env.locals s Led ps x stored m₀ (Pc (i + 1)) own Q) E s₂) E { s with heap := h, toks := tk })
    (done : ∀ (c : σ) (u : Str → Option Value) h tk, Pc vs.length c → Fr h₀ env.locals h (fun y => if y = x then u y else kstB (fun z => if stored.contains z then u z else m₀ z) (ps c) y) → News h₀ env.locals h (Led c) →
      wpAny (model prog w) A (execs orelse env) Q E { s with heap := h, toks := tk })
    (hE : PassesOwn (model prog w) A env E := by passes_own) :
    wpAny (model prog w) A (pyIter (.ref l)) (fun it s₂ => TAt prog w A h₀ env (.Name y py) body orelse Q E it s₂) E s := by
  have ht : s.heap.IsList l vs.toArray := ⟨_, (N _ (hl c₀)).1, rfl, nn, rfl⟩
  have hlt : l < s.heap.objs.size := Heap.lt_size (N _ (hl c₀)).1
  have hne : l ≠ s.heap.objs.size := Nat.ne_of_lt hlt
  refine wpAny_pyIter_list ht ?_
  refine loop_G (x := x) (ow := [s.heap.objs.size]) (s := { s with heap := s.heap.push { cls := .type "list_iterator", data := .fields #[.ref l, .int 0 0] } }) (KTurns.ofWalks (Walks.list hh s.heap.objs.size l hne vs.toArray) fun i v s Q E st q => wpAny_of_eq (show letOwnedTupleGo (.Name y py) _ v = pure () by rfl) q) Led ps stored Pc c₀ ?_ ?_ ?_ ?_ ?_ (F.push _) ?_ ?_ hk hp ?_ ?_ ?_ hE
  · exact fun b hb => hb
  · intro hm
    exact absurd F.ns.lt ((List.mem_singleton.mp hm) ▸ Nat.lt_irrefl _)
  · intro b hb
    rw [List.mem_singleton.mp hb]
    exact next_is_new F
  · intro b hb
    rcases List.mem_cons.mp hb with e | hb
    · exact .inl (by rw [e]; exact .head _)
    · exact .inr (.inr ⟨_, fun c => by rw [List.mem_singleton.mp hb]; exact hl c⟩)
  · exact ⟨⟨_, Heap.get?_push_size _ rfl, rfl, rfl⟩, ht.push _⟩
  · exact fun p hp => ⟨Heap.get?_push_of_some _ (N p hp).1, (N p hp).2⟩
  · intro p hp hI
    exact absurd (Heap.lt_size (N p hp).1) ((List.mem_singleton.mp hI) ▸ Nat.lt_irrefl _)
  · intro i h st b hb
    rw [List.mem_singleton.mp hb]
    obtain ⟨⟨o, ho, _⟩, _⟩ := st
    exact ⟨o, ho⟩
  · intro i v c u h tk own hi hP hPc hoff _ F1 N1
    rw [List.size_toArray] at hi
    exact turn i v c u h tk own hi (by simpa using hP) hPc hoff F1 N1
  · intro c u h tk hP F1 N1
    rw [List.size_toArray] at hP
    exact done c u h tk hP F1 N1
/-- for over a range, the ledger free to change -/
theorem iter_range {σ : Type} {r : Addr} {n : Nat} {t₀ u₀ v₀ : Tok} {x : Str} {m₀ : Str → Option Value} (Led : σ → List (Addr × Obj)) (ps : σ → List (Str × Value)) (stored : List Str) (Pc : Nat → σ → Prop) (c₀ : σ)
    (hh : A.handled = none) (hr : IsRange s.heap r 0 (n : Int) 1 t₀ u₀ v₀) (hn : n ≤ 1000) (F : Fr h₀ env.locals s.heap m₀) (N : News h₀ env.locals s.heap (Led c₀)) (hk : ∀ p ∈ ps c₀, m₀ p.1 = some p.2) (hp : Pc 0 c₀)
    (turn : ∀ i t (c : σ) (u : Str → Option Value) h tk own, i < n → Pc i c → OwnOff own ((Led c).map (·.1)) → 
      Fr h₀ env.locals h (fun y => if y = x then u y else kstB (fun z => if stored.contains z then u z else m₀ z) (ps c) y) → News h₀ env.locals h (Led c ++ own) →
      wpAny (model prog w) A (assign (.Name y py) env (.int i t)) (fun _ s₂ => wpAny (model prog w) A (execs body env) (FPost h₀ env.locals s Led ps x stored m₀ (Pc (i + 1)) own Q) E s₂) E { s with heap := h, toks := tk })
    (done : ∀ (c : σ) (u : Str → Option Value) h tk, Pc n c → Fr h₀ env.locals h (fun y => if y = x then u y else kstB (fun z => if stored.contains z then u z else m₀ z) (ps c) y) → News h₀ env.locals h (Led c) →
      wpAny (model prog w) A (execs orelse env) Q E { s with heap := h, toks := tk })
    (hE : PassesOwn (model prog w) A env E := by passes_own) :
    wpAny (model prog w) A (pyIter (.ref r)) (fun it s₂ => TAt prog w A h₀ env (.Name y py) body orelse Q E it s₂) E s := by
  have hsm : Builtin.Range.small 0 (n : Int) 1 = true := small_one (by omega) (by omega) (by omega) (by omega)
  have hrs : Builtin.Range.rangeSize 0 (n : Int) 1 = ((n : Nat) : Int) := by rw [rangeSize_one]; split <;> omega
  refine wpAny_pyIter_range hr hsm ?_
  refine loop_G (x := x) (ow := [s.heap.objs.size]) (KTurns.ofWalks (range_walks (I := s.heap.objs.size) hh 0 n) fun i v s Q E st q => wpAny_of_eq (show letOwnedTupleGo (.Name y py) _ v = pure () by rfl) q) Led ps stored Pc c₀ ?_ ?_ ?_ ?_ ?_ (F.push _) ?_ ?_ hk hp ?_ ?_ ?_ hE
  · exact fun b hb => hb
  · intro hm
    exact absurd F.ns.lt ((List.mem_singleton.mp hm) ▸ Nat.lt_irrefl _)
  · intro b hb
    rw [List.mem_singleton.mp hb]
    exact next_is_new F
  · intro b hb
    exact .inl hb
  · show IsRangeIter _ _ _ _ _
    rw [hrs]
    simpa using Heap.get?_push_size _ rfl
  · exact fun p hp => ⟨Heap.get?_push_of_some _ (N p hp).1, (N p hp).2⟩
  · intro p hp hI
    exact absurd (Heap.lt_size (N p hp).1) ((List.mem_singleton.mp hI) ▸ Nat.lt_irrefl _)
  · intro i h st b hb
    rw [List.mem_singleton.mp hb]
    exact ⟨_, st⟩
  · intro i v c u h tk own hi hP hPc hoff _ F1 N1
    obtain ⟨t, rfl⟩ := hP
    rw [Int.zero_add]
    exact turn i t c u h tk own hi hPc hoff F1 N1
  · intro c u h tk hP F1 N1
    exact done c u h tk hP F1 N1
end
end Mine
end

section -- WaysD
open PySem PySem.W PySem.Spec PySem.Calls PyProof.Rows
namespace Mine
noncomputable def runI (i : Nat) : Int := 8 ^ (2 - (i : Int)).toNat
noncomputable def extI (i : Nat) : Int := 2 ^ (11 - (i : Int)).toNat
noncomputable def chA (t : Int) (i : Nat) : Int := (t.fdiv (4 * runI i)).fmod 2
noncomputable def chB (t : Int) (i : Nat) : Int := (t.fdiv (2 * runI i)).fmod 2
noncomputable def chC (t : Int) (i : Nat) : Int := (t.fdiv (runI i)).fmod 2 + (t.fdiv (extI i)).fmod 2
noncomputable def longB (start t : Int) (bits : List Int) (i : Nat) : Bool := decide (Builtin.bitAnd t (extI i) ≠ 0) && (decide (Builtin.bitAnd t (runI i) = 0) && (decide (Builtin.bitAnd start (runI i) = 0) && decide (runI i ∈ bits)))
noncomputable def choF (start t : Int) (bits : List Int) (i : Nat) : List (List Nat) := [[(chA t i).toNat], [(chB t i).toNat], if longB start t bits i = true then [1, 3] else [(chC t i).toNat]]
noncomputable def plStep (ps : List (Int × Int)) (sz : List Nat) : List (Int × Int) := ps.flatMap fun p => sz.map fun (n : Nat) => (p.1 + (n : Int), p.2 * mixF p.1 n)
noncomputable def plF (start t : Int) (bits : List Int) (k : Nat) : List (Int × Int) := (List.range k).foldl (fun ps i => (choF start t bits i).foldl plStep ps) [(0, 1)]
noncomputable def waysF (start mode : Int) (bits : List Int) : Int := ((plF start (Builtin.bitXor start mode) bits 3).map (·.2)).sum
theorem plF_succ (start t : Int) (bits : List Int) (k : Nat) : plF start t bits (k + 1) = (choF start t bits k).foldl plStep (plF start t bits k) := by
  unfold plF
  rw [List.range_succ, List.foldl_append]
  rfl
noncomputable def SzOk (sz : List Nat) : Prop := sz.length ≤ 2 ∧ ∀ n ∈ sz, n ≤ 3
noncomputable def Bd (k : Nat) (ps : List (Int × Int)) : Prop := ps.length ≤ 2 ^ k ∧ ∀ p ∈ ps, 0 ≤ p.1 ∧ p.1 ≤ 3 * (k : Int)
theorem fm2 (a : Int) : 0 ≤ a.fmod 2 ∧ a.fmod 2 ≤ 1 := by
  have a1 : 0 ≤ a.fmod 2 := Int.fmod_nonneg_of_pos _ (by decide)
  have a2 : a.fmod 2 < 2 := Int.fmod_lt_of_pos _ (by decide)
  omega
theorem choF_ok (start t : Int) (bits : List Int) (i : Nat) : ∀ sz ∈ choF start t bits i, SzOk sz := by
  have h1 := fm2 (t.fdiv (4 * runI i))
  have h2 := fm2 (t.fdiv (2 * runI i))
  have h3 := fm2 (t.fdiv (runI i))
  have h4 := fm2 (t.fdiv (extI i))
  intro sz hsz
  simp only [choF, List.mem_cons, List.not_mem_nil, or_false] at hsz
  rcases hsz with rfl | rfl | rfl
  · refine ⟨by simp, fun n hn => ?_⟩
    rw [List.mem_singleton.mp hn]; unfold chA; omega
  · refine ⟨by simp, fun n hn => ?_⟩
    rw [List.mem_singleton.mp hn]; unfold chB; omega
  · split
    · refine ⟨by simp, fun n hn => ?_⟩
      simp only [List.mem_cons, List.not_mem_nil, or_false] at hn
      omega
    · refine ⟨by simp, fun n hn => ?_⟩
      rw [List.mem_singleton.mp hn]; unfold chC; omega
theorem plStep_len (ps : List (Int × Int)) (sz : List Nat) : (plStep ps sz).length = ps.length * sz.length := by
  unfold plStep
  induction ps with
  | nil => simp
  | cons a r ih => rw [List.flatMap_cons, List.length_append, ih, List.length_map, List.length_cons, Nat.succ_mul]; omega
theorem plStep_bd {k : Nat} {ps : List (Int × Int)} {sz : List Nat} (h : Bd k ps) (hs : SzOk sz) : Bd (k + 1) (plStep ps sz) := by
  refine ⟨?_, fun p hp => ?_⟩
  · rw [plStep_len, Nat.pow_succ]
    exact Nat.mul_le_mul h.1 hs.1
  · unfold plStep at hp
    obtain ⟨q, hq, hp⟩ := List.mem_flatMap.mp hp
    obtain ⟨n, hn, rfl⟩ := List.mem_map.mp hp
    have h1 := h.2 q hq
    have h2 := hs.2 n hn
    dsimp only
    omega
theorem plStep_get {ps : List (Int × Int)} {sz : List Nat} {i j : Nat} {p : Int × Int} {n : Nat} (hi : ps[i]? = some p) (hj : sz[j]? = some n) : (plStep ps sz)[i * sz.length + j]? = some (p.1 + (n : Int), p.2 * mixF p.1 n) := by
  induction ps generalizing i with
  | nil => simp at hi
  | cons a r ih =>
    have e : plStep (a :: r) sz = (sz.map fun (n : Nat) => (a.1 + (n : Int), a.2 * mixF a.1 n)) ++ plStep r sz := by unfold plStep; rw [List.flatMap_cons]
    have hjl : j < sz.length := (List.getElem?_eq_some_iff.mp hj).1
    rw [e]
    cases i with
    | zero =>
      simp at hi
      subst hi
      rw [Nat.zero_mul, Nat.zero_add, List.getElem?_append_left (by rw [List.length_map]; exact hjl), List.getElem?_map, hj]
      rfl
    | succ i =>
      rw [Nat.succ_mul, List.getElem?_append_right (by rw [List.length_map]; omega), List.length_map]
      rw [show i * sz.length + sz.length + j - sz.length = i * sz.length + j by omega]
      exact ih (by simpa using hi)
theorem plF_bd (start t : Int) (bits : List Int) : ∀ k, Bd (3 * k) (plF start t bits k)
  | 0 => ⟨by simp [plF], fun p hp => by simp [plF] at hp; subst hp; simp⟩
  | k + 1 => by
    rw [plF_succ]
    have ok := choF_ok start t bits k
    have h := plF_bd start t bits k
    generalize plF start t bits k = ps at *
    simp only [choF, List.mem_cons, List.not_mem_nil, or_false, forall_eq_or_imp, forall_eq] at ok
    obtain ⟨o1, o2, o3⟩ := ok
    exact plStep_bd (plStep_bd (plStep_bd h o1) o2) o3
theorem take_bd {start t : Int} {bits : List Int} {i : Nat} : ∀ j, j ≤ 3 → Bd (3 * i + j) (((choF start t bits i).take j).foldl plStep (plF start t bits i)) := by
  intro j hj
  have ok := choF_ok start t bits i
  have h := plF_bd start t bits i
  generalize plF start t bits i = ps at *
  simp only [choF, List.mem_cons, List.not_mem_nil, or_false, forall_eq_or_imp, forall_eq] at ok
  obtain ⟨o1, o2, o3⟩ := ok
  obtain rfl | rfl | rfl | rfl : j = 0 ∨ j = 1 ∨ j = 2 ∨ j = 3 := by omega
  · exact h
  · exact plStep_bd h o1
  · exact plStep_bd (plStep_bd h o1) o2
  · exact plStep_bd (plStep_bd (plStep_bd h o1) o2) o3
theorem mix_small {d : Int} {k : Nat} (h0 : 0 ≤ d) (h1 : d < 1000) (hk : k ≤ 3) : 0 ≤ mixF d k ∧ mixF d k < 2 ^ 62 := by
  have s0 : mixF d 0 = 1 := rfl
  have s1 : mixF d 1 = d + 1 := by rw [mixF_succ, s0]; unfold mixStep; simp
  have b2 : 0 ≤ (d + 1) * (d + 2) ∧ (d + 1) * (d + 2) ≤ 1001 * 1002 := ⟨Int.mul_nonneg (by omega) (by omega), Int.mul_le_mul (by omega) (by omega) (by omega) (by omega)⟩
  have s2 : 0 ≤ mixF d 2 ∧ mixF d 2 ≤ 1001 * 1002 := by
    have e : mixF d 2 = ((d + 1) * (d + 2)).fdiv 2 := by
      rw [mixF_succ, s1]; unfold mixStep
      simp only [Int.natCast_one]
      rw [show d + 1 + 1 = d + 2 by omega]; rfl
    rw [e, Int.fdiv_eq_ediv_of_nonneg _ (by omega)]
    omega
  obtain rfl | rfl | rfl | rfl : k = 0 ∨ k = 1 ∨ k = 2 ∨ k = 3 := by omega
  · rw [s0]; decide
  · rw [s1]; omega
  · omega
  · have b3 : 0 ≤ mixF d 2 * (d + 3) ∧ mixF d 2 * (d + 3) ≤ (1001 * 1002) * 1003 := ⟨Int.mul_nonneg (by omega) (by omega), Int.mul_le_mul (by omega) (by omega) (by omega) (by omega)⟩
    have e : mixF d 3 = (mixF d 2 * (d + 3)).fdiv 3 := by
      rw [mixF_succ]; unfold mixStep
      rw [show d + ((2 : Nat) : Int) + 1 = d + 3 by omega]; rfl
    rw [e, Int.fdiv_eq_ediv_of_nonneg _ (by omega)]
    omega
end Mine
end

section -- B64v
open PySem PySem.W PySem.Spec PySem.Calls PyProof.Rows
set_option maxHeartbeats 8000000
namespace Mine
noncomputable def b64v (c : Int) : Int := if 65 ≤ c ∧ c ≤ 90 then c - 65 else if 97 ≤ c ∧ c ≤ 122 then c - 71 else if 48 ≤ c ∧ c ≤ 57 then c + 4 else if c = 43 then 62 else if c = 47 then 63 else 64
variable {prog : Program} {w : World} {p : Program} {loose : List Str} {mean : ExcName → Option Value} {mg mb : Str → Option Value}

theorem b64_spec (c : Int) (t : Tok) (news : List (Addr × Obj)) : Spec prog w p loose mean mg mb 91 [.int c t] 1 news (fun r news' => (∃ t', r = .int (b64v c) t') ∧ news' = news) := by
  refine fill_at ?_
  k_fill
  unfold Filled Spec
  intro dp un gd cn cs a ccd cl outer A₀ base h₀ L m s Q E B F X N T hk hd hu hret
  refine wpAny_call ?_
  k_dflt ktr_enter
  rename_i g' L' h' FG' F' N' B' X' T'
  replace F' : Fr g' L' h' (fun y => List.lookup y [(Str.ofString "c", .int c t)]) := F'
  walk_at "mineB"
  all_goals exact hret _ _ _ _ (by assumption) (by assumption) ⟨⟨_, congrArg (fun k => Value.int k _) (by unfold b64v; (repeat' split) <;> omega)⟩, rfl⟩
noncomputable def SpecK (prog : Program) (w : World) (p : Program) (loose : List Str) (mean : ExcName → Option Value) (mg mb : Str → Option Value)
    (f : Addr) (args : List Value) (kw : List (Str × Value)) (need : Nat) (news : List (Addr × Obj)) (Post : Value → List (Addr × Obj) → Prop) : Prop :=
  ∀ (dp un : Nat) (gd : Option (List Code)) (cn : Str) (cs : Scope) (a : Addr) (ccd : Value) (cl : List (Str × Addr)) (outer : List Env) (A₀ : Around) (base h₀ : Heap) (L : Addr) (m : Str → Option Value) (s : Shared)
    (Q E : Value → Shared → Prop),
    Below A₀ base outer h₀ → Fr h₀ L s.heap m → Frag.In (hd.heap_1 w.params) h₀ → News h₀ L s.heap news → Top p loose mean mg mb h₀ → cs.kind = .function → dp + need < recursionLimit → un + 40 * need < cLine →
    (∀ r news' h' tk', Fr h₀ L h' m → News h₀ L h' news' → Post r news' → Q r { s with heap := h', toks := tk' }) →
    wpAny (model prog w) (ktrTop dp un gd cn cs L a ccd cl outer) (call (.ref f) args kw) Q E s
theorem SpecK.use {f : Addr} {args : List Value} {kw : List (Str × Value)} {need : Nat} {news : List (Addr × Obj)} {Post : Value → List (Addr × Obj) → Prop} {E : Value → Shared → Prop} {s : Shared} {h₀ : Heap} {L : Addr} {m : Str → Option Value}
    {dp un : Nat} {gd : Option (List Code)} {cn : Str} {cs : Scope} {a : Addr} {ccd : Value} {cl : List (Str × Addr)} {outer : List Env} {A₀ : Around} {base : Heap} {Q : Value → Shared → Prop}
    (S : SpecK prog w p loose mean mg mb f args kw need news Post) (B : Below A₀ base outer h₀) (F : Fr h₀ L s.heap m) (X : Frag.In (hd.heap_1 w.params) h₀) (N : News h₀ L s.heap news) (T : Top p loose mean mg mb h₀) (hk : cs.kind = .function)
    (hd : dp + need < recursionLimit) (hu : un + 40 * need < cLine)
    (ret : ∀ r news' h' tk', Fr h₀ L h' m → News h₀ L h' news' → Post r news' → Q r { s with heap := h', toks := tk' }) :
    wpAny (model prog w) (ktrTop dp un gd cn cs L a ccd cl outer) (call (.ref f) args kw) Q E s := S _ _ _ _ _ _ _ _ _ _ _ _ _ _ _ _ _ B F X N T hk hd hu ret
end Mine
end

section -- A2B
open PySem PySem.W PySem.Spec PySem.Calls PyProof.Rows
set_option maxHeartbeats 8000000
namespace Mine
variable {prog : Program} {w : World} {p : Program} {loose : List Str} {mean : ExcName → Option Value} {mg mb : Str → Option Value}

theorem ascii_spec (b : Array UInt8) (tb : Tok) (news : List (Addr × Obj)) : Spec prog w p loose mean mg mb 77 [.bytes b tb] 1 news (fun r news' => r = .bytes b tb ∧ news' = news) := by
  refine fill_at ?_
  k_fill
  unfold Filled Spec
  intro dp un gd cn cs a ccd cl outer A₀ base h₀ L m s Q E B F X N T hk hd hu hret
  refine wpAny_call ?_
  k_dflt ktr_enter
  rename_i g' L' h' FG' F' N' B' X' T'
  replace F' : Fr g' L' h' (fun y => List.lookup y [(Str.ofString "data", .bytes b tb)]) := F'
  walk_at "mineB"
  refine call_type_of (Tx := "bytes") rfl (by decide +kernel) ?_
  walk_at "mineB"
  all_goals exact hret _ _ _ _ (by assumption) (by assumption) ⟨rfl, rfl⟩
theorem truth_spec (news : List (Addr × Obj)) : Spec prog w p loose mean mg mb 84 [.bool false] 1 news (fun r news' => r = .bool false ∧ news' = news) := by
  refine fill_at ?_
  k_fill
  unfold Filled Spec
  intro dp un gd cn cs a ccd cl outer A₀ base h₀ L m s Q E B F X N T hk hd hu hret
  refine wpAny_call ?_
  k_dflt ktr_enter
  rename_i g' L' h' FG' F' N' B' X' T'
  replace F' : Fr g' L' h' (fun y => List.lookup y [(Str.ofString "x", .bool false)]) := F'
  walk_at "mineB"
  all_goals exact hret _ _ _ _ (by assumption) (by assumption) ⟨rfl, rfl⟩

theorem bitOr_nat (a b : Nat) : Builtin.bitOr (a : Int) (b : Int) = ((a ||| b : Nat) : Int) := by
  have h1 : ¬ (0 : Int) ≤ Builtin.bitNot (a : Int) := by unfold Builtin.bitNot; omega
  have h2 : ¬ (0 : Int) ≤ Builtin.bitNot (b : Int) := by unfold Builtin.bitNot; omega
  have h3 : Builtin.bitNot (Builtin.bitNot (a : Int)) = a := by unfold Builtin.bitNot; omega
  have h4 : Builtin.bitNot (Builtin.bitNot (b : Int)) = b := by unfold Builtin.bitNot; omega
  unfold Builtin.bitOr Builtin.bitAnd
  rw [decide_eq_false h1, decide_eq_false h2]
  simp only [h3, h4, Int.toNat_natCast]
  unfold Builtin.bitNot
  omega
theorem bitOr_pow {a b : Int} (k : Nat) (ha : 0 ≤ a) (hb : 0 ≤ b) (hk : b < 2 ^ k) : Builtin.bitOr (a * 2 ^ k) b = a * 2 ^ k + b := by
  obtain ⟨a, rfl⟩ := Int.eq_ofNat_of_zero_le ha
  obtain ⟨b, rfl⟩ := Int.eq_ofNat_of_zero_le hb
  have hk' : b < 2 ^ k := by exact_mod_cast hk
  have e : (a : Int) * 2 ^ k = ((2 ^ k * a : Nat) : Int) := by push_cast; rw [Int.mul_comm]
  rw [e, bitOr_nat, ← Nat.two_pow_add_eq_or_of_lt hk' a]
  push_cast
  rfl
theorem ints_snoc : ∀ {vs : List Value} {ns : List Int}, IntsAre vs ns → ∀ (x : Int) (t : Tok), IntsAre (vs ++ [.int x t]) (ns ++ [x])
  | _, _, .nil, x, t => .cons x t .nil
  | _, _, .cons i u h, x, t => .cons i u (ints_snoc h x t)
theorem all_snoc {P : Int → Prop} {l : List Int} {x : Int} (h : ∀ n ∈ l, P n) (hx : P x) : ∀ n ∈ l ++ [x], P n := by
  intro n hn
  rcases List.mem_append.mp hn with hn | hn
  · exact h n hn
  · rw [List.mem_singleton.mp hn]; exact hx
noncomputable def stepQ (st : Int × Int × List Int) (d : Int) : Int × Int × List Int :=
  if st.1 = 0 then (1, d, st.2.2) else if st.1 = 1 then (2, d % 16, st.2.2 ++ [st.2.1 * 4 + d / 16]) else if st.1 = 2 then (3, d % 4, st.2.2 ++ [st.2.1 * 16 + d / 4]) else (0, 0, st.2.2 ++ [st.2.1 * 64 + d])
structure QSt where
  vs : List Value
  nn : Nat
  q : Int
  left : Int
  out : List Int
  i : Int
  t1 : Tok
  t2 : Tok
  t3 : Tok
  t4 : Tok
theorem a2b_spec (b : Array UInt8) (tb : Tok) (news : List (Addr × Obj)) (hdig : ∀ c ∈ KBw.bInts b, b64v c < 64 ∧ 0 ≤ b64v c ∧ c ≠ 61) (hl : b.size = 12) : SpecK prog w p loose mean mg mb 99 [.bytes b tb] [(Str.ofString "strict_mode", .bool false)] 3 news (fun r news' => (∃ o t', r = .bytes o t' ∧ KBw.bInts o = (((KBw.bInts b).map b64v).foldl stepQ (0, 0, [])).2.2) ∧ news' = news) := by
  refine fill_at ?_
  k_fill
  unfold Filled SpecK
  intro dp un gd cn cs a ccd cl outer A₀ base h₀ L m s Q E B F X N T hk hd hu hret
  refine wpAny_call ?_
  k_dflt ktr_enter
  rename_i g' L' h' FG' F' N' B' X' T'
  replace F' : Fr g' L' h' (fun y => List.lookup y [(Str.ofString "strict_mode", .bool false), (Str.ofString "data", .bytes b tb)]) := F'
  walk_at "mineB"
  refine' Spec.use (ascii_spec b tb news) ?sB ?sF ?sX ?sN ?sT ?sK ?sD ?sU ?_
  walk_at "use"
  case sD => show dp + 1 + 1 < recursionLimit; omega
  case sU => show un + 3 + 40 * 1 < cLine; omega
  rintro r news' h3 tk3 F3 N3 ⟨rfl, e3⟩
  rw [e3] at N3
  clear e3
  walk_at "mineB"
  refine' Spec.use (truth_spec _) ?sB ?sF ?sX ?sN ?sT ?sK ?sD ?sU ?_
  walk_at "use"
  case sD => show dp + 1 + 1 < recursionLimit; omega
  case sU => show un + 3 + 40 * 1 < cLine; omega
  rintro r news' h3 tk3 F3 N3 ⟨rfl, e3⟩
  rw [e3] at N3
  clear e3
  walk_at "mineB"
  refine list_l (by assumption) (by assumption) (by simp) ?_
  intro oA h5 F5 N5 lO
  walk_at "mineB"
  refine' For_invVF (by assumption) ?k1 ?k2 ?_
  case k1 => exact rfl
  case k2 => exact rfl
  walk_at "mineB"
  (rename Fr _ _ _ _ => FF)
  (rename News _ _ _ _ => NN)
  refine' for_bytes (fun c : QSt => (oA, listOf c.vs.toArray c.nn) :: news) (fun c => [(Str.ofString "quad_pos", .int c.q c.t1), (Str.ofString "leftchar", .int c.left c.t2), (Str.ofString "pads", .int 0 c.t3), (Str.ofString "i", .int c.i c.t4)]) []
    (fun pre c => IntsAre c.vs c.out ∧ (∀ n ∈ c.out, 0 ≤ n ∧ n < 256) ∧ (c.q, c.left, c.out) = (pre.map b64v).foldl stepQ (0, 0, []) ∧ 0 ≤ c.left ∧ ((c.q = 0 ∧ c.left = 0) ∨ (c.q = 1 ∧ c.left < 64) ∨ (c.q = 2 ∧ c.left < 16) ∨ (c.q = 3 ∧ c.left < 4)) ∧ c.out.length ≤ pre.length ∧ c.q = ((pre.length % 4 : Nat) : Int))
    ⟨[], 0, 0, 0, [], 0, _, _, _, _⟩ rfl (fun _ => rfl) FF NN ?kk ?kp ?turn ?done
  case kk =>
    intro q hq
    simp only [List.mem_cons, List.not_mem_nil, or_false] at hq
    rcases hq with rfl | rfl | rfl | rfl <;> rfl
  case kp => exact ⟨.nil, (fun _ h => nomatch h), rfl, Int.le_refl _, .inl ⟨rfl, rfl⟩, Nat.le_refl _, rfl⟩
  case turn =>
    intro c pre post n t u h tk own hb h0 h1 hoff hP F1 N1
    obtain ⟨hI, hO, hst, hl0, hq, hlen, hqm⟩ := hP
    clear FF NN
    have hn := hdig n (by rw [hb]; simp)
    have h61 : n ≠ 61 := hn.2.2
    have hpl : pre.length < 12 := by
      have := congrArg List.length hb
      rw [KBw.ints_length, hl] at this
      simp at this
      omega
    obtain ⟨vs, nn, q, left, out, i, t1, t2, t3, t4⟩ := c
    dsimp only at hI hO hst hl0 hq hlen hqm F1 N1 hoff ⊢
    walk_at "mineBE"
    refine eq_int ?_
    rw [beq_eq_false_iff_ne.mpr h61]
    walk_at "mineBE"
    refine' Spec.use (b64_spec n t _) ?sB ?sF ?sX ?sN ?sT ?sK ?sD ?sU ?_
    walk_at "use"
    case sD => show dp + 1 + 1 < recursionLimit; omega
    case sU => show un + 3 + 40 * 1 < cLine; omega
    rintro r news' h3 tk3 F3 N3 ⟨⟨t5, rfl⟩, e3⟩
    rw [e3] at N3
    clear e3
    walk_at "mineBE"
    refine ge_int ?_
    rw [decide_eq_false (by omega)]
    have hrest : ∀ p ∈ news ++ own, p.1 ≠ oA := by
      intro p hp
      rcases List.mem_append.mp hp with hp | hp
      · exact Nat.ne_of_lt (lO p hp)
      · exact hoff p hp _ (.head _)
    rcases hq with ⟨rfl, rfl⟩ | ⟨rfl, hq⟩ | ⟨rfl, hq⟩ | ⟨rfl, hq⟩
    all_goals walk_at "mineB"
    · refine' fend (⟨vs, nn, 1, b64v n, out, i + 1, _, _, _, _⟩ : QSt) ?kF ?kN ?kn ?ko ?kof ?kk ?kr ?kp
      case kF => assumption
      case kN => assumption
      case kn => intro q hq; exact List.mem_append_left own hq
      case ko => intro q hq; exact List.mem_append_right (_ :: news) hq
      case kof => exact hoff
      case kk =>
        intro q hq
        simp only [List.mem_cons, List.not_mem_nil, or_false] at hq
        rcases hq with rfl | rfl | rfl | rfl
        · rfl
        · rfl
        · rfl
        · rfl
      case kr =>
        intro z h1z h2 h3
        have hz1 := h2 _ (.head _)
        have hz2 := h2 _ (.tail _ (.head _))
        have hz3 := h2 _ (.tail _ (.tail _ (.head _)))
        have hz4 := h2 _ (.tail _ (.tail _ (.tail _ (.head _))))
        dsimp only at hz1 hz2 hz3 hz4
        simp +zetaDelta [kstB, h1z, hz1, hz2, hz3, hz4]
      case kp => exact ⟨hI, hO, by rw [List.map_append, List.foldl_append, ← hst]; simp [stepQ], hn.2.1, .inr (.inl ⟨rfl, hn.1⟩), by simp only [List.length_append, List.length_singleton]; exact Nat.le_succ_of_le hlen, by simp only [List.length_append, List.length_singleton]; omega⟩

    · have e : Builtin.bitOr (left * 2 ^ Int.toNat 2) ((b64v n).fdiv (2 ^ Int.toNat 4)) = left * 4 + b64v n / 16 := by
        have e2 : (2 : Int) ^ Int.toNat 2 = 2 ^ 2 := rfl
        have e3 : (b64v n).fdiv (2 ^ Int.toNat 4) = b64v n / 16 := Int.fdiv_eq_ediv_of_nonneg _ (by decide)
        rw [e3]
        rw [e2, bitOr_pow 2 hl0 (by omega) (by omega)]
        rfl
      rw [e]
      refine app_l (by assumption) (by assumption) hrest (by have := hI.length; omega) ?_
      intro h6 F6 N6
      walk_at "mineB"
      refine' fend (⟨vs ++ [.int (left * 4 + b64v n / 16) _], nn + 1, 2, b64v n % 16, out ++ [left * 4 + b64v n / 16], i + 1, _, _, _, _⟩ : QSt) ?kF ?kN ?kn ?ko ?kof ?kk ?kr ?kp
      case kF => assumption
      case kN => assumption
      case kn => intro q hq; exact List.mem_append_left own hq
      case ko => intro q hq; exact List.mem_append_right (_ :: news) hq
      case kof => exact hoff
      case kk =>
        intro q hq
        simp only [List.mem_cons, List.not_mem_nil, or_false] at hq
        rcases hq with rfl | rfl | rfl | rfl
        · rfl
        · exact congrArg (fun k => some (Value.int k _)) (bitAnd_m4 _)
        · rfl
        · rfl
      case kr =>
        intro z h1z h2 h3
        have hz1 := h2 _ (.head _)
        have hz2 := h2 _ (.tail _ (.head _))
        have hz3 := h2 _ (.tail _ (.tail _ (.head _)))
        have hz4 := h2 _ (.tail _ (.tail _ (.tail _ (.head _))))
        dsimp only at hz1 hz2 hz3 hz4
        simp +zetaDelta [kstB, h1z, hz1, hz2, hz3, hz4]
      case kp => exact ⟨ints_snoc hI _ _, all_snoc hO (by omega), by rw [List.map_append, List.foldl_append, ← hst]; simp [stepQ], Int.emod_nonneg _ (by decide), .inr (.inr (.inl ⟨rfl, Int.emod_lt_of_pos _ (by decide)⟩)), by simp only [List.length_append, List.length_singleton]; exact Nat.succ_le_succ hlen, by simp only [List.length_append, List.length_singleton]; omega⟩

    · have e : Builtin.bitOr (left * 2 ^ Int.toNat 4) ((b64v n).fdiv (2 ^ Int.toNat 2)) = left * 16 + b64v n / 4 := by
        have e2 : (2 : Int) ^ Int.toNat 4 = 2 ^ 4 := rfl
        have e3 : (b64v n).fdiv (2 ^ Int.toNat 2) = b64v n / 4 := Int.fdiv_eq_ediv_of_nonneg _ (by decide)
        rw [e3]
        rw [e2, bitOr_pow 4 hl0 (by omega) (by omega)]
        rfl
      rw [e]
      refine app_l (by assumption) (by assumption) hrest (by have := hI.length; omega) ?_
      intro h6 F6 N6
      walk_at "mineB"
      refine' fend (⟨vs ++ [.int (left * 16 + b64v n / 4) _], nn + 1, 3, b64v n % 4, out ++ [left * 16 + b64v n / 4], i + 1, _, _, _, _⟩ : QSt) ?kF ?kN ?kn ?ko ?kof ?kk ?kr ?kp
      case kF => assumption
      case kN => assumption
      case kn => intro q hq; exact List.mem_append_left own hq
      case ko => intro q hq; exact List.mem_append_right (_ :: news) hq
      case kof => exact hoff
      case kk =>
        intro q hq
        simp only [List.mem_cons, List.not_mem_nil, or_false] at hq
        rcases hq with rfl | rfl | rfl | rfl
        · rfl
        · exact congrArg (fun k => some (Value.int k _)) (bitAnd_m2 _)
        · rfl
        · rfl
      case kr =>
        intro z h1z h2 h3
        have hz1 := h2 _ (.head _)
        have hz2 := h2 _ (.tail _ (.head _))
        have hz3 := h2 _ (.tail _ (.tail _ (.head _)))
        have hz4 := h2 _ (.tail _ (.tail _ (.tail _ (.head _))))
        dsimp only at hz1 hz2 hz3 hz4
        simp +zetaDelta [kstB, h1z, hz1, hz2, hz3, hz4]
      case kp => exact ⟨ints_snoc hI _ _, all_snoc hO (by omega), by rw [List.map_append, List.foldl_append, ← hst]; simp [stepQ], Int.emod_nonneg _ (by decide), .inr (.inr (.inr ⟨rfl, Int.emod_lt_of_pos _ (by decide)⟩)), by simp only [List.length_append, List.length_singleton]; exact Nat.succ_le_succ hlen, by simp only [List.length_append, List.length_singleton]; omega⟩

    · have e : Builtin.bitOr (left * 2 ^ Int.toNat 6) (b64v n) = left * 64 + b64v n := by
        have e2 : (2 : Int) ^ Int.toNat 6 = 2 ^ 6 := rfl
        skip
        rw [e2, bitOr_pow 6 hl0 (by omega) (by omega)]
        rfl
      rw [e]
      refine app_l (by assumption) (by assumption) hrest (by have := hI.length; omega) ?_
      intro h6 F6 N6
      walk_at "mineB"
      refine' fend (⟨vs ++ [.int (left * 64 + b64v n) _], nn + 1, 0, 0, out ++ [left * 64 + b64v n], i + 1, _, _, _, _⟩ : QSt) ?kF ?kN ?kn ?ko ?kof ?kk ?kr ?kp
      case kF => assumption
      case kN => assumption
      case kn => intro q hq; exact List.mem_append_left own hq
      case ko => intro q hq; exact List.mem_append_right (_ :: news) hq
      case kof => exact hoff
      case kk =>
        intro q hq
        simp only [List.mem_cons, List.not_mem_nil, or_false] at hq
        rcases hq with rfl | rfl | rfl | rfl
        · rfl
        · rfl
        · rfl
        · rfl
      case kr =>
        intro z h1z h2 h3
        have hz1 := h2 _ (.head _)
        have hz2 := h2 _ (.tail _ (.head _))
        have hz3 := h2 _ (.tail _ (.tail _ (.head _)))
        have hz4 := h2 _ (.tail _ (.tail _ (.tail _ (.head _))))
        dsimp only at hz1 hz2 hz3 hz4
        simp +zetaDelta [kstB, h1z, hz1, hz2, hz3, hz4]
      case kp => exact ⟨ints_snoc hI _ _, all_snoc hO (by omega), by rw [List.map_append, List.foldl_append, ← hst]; simp [stepQ], Int.le_refl _, .inl ⟨rfl, rfl⟩, by simp only [List.length_append, List.length_singleton]; exact Nat.succ_le_succ hlen, by simp only [List.length_append, List.length_singleton]; omega⟩

  case done =>
    intro c u h tk hP F1 N1
    obtain ⟨hI, hO, hst, hl0, hq, hlen, hqm⟩ := hP
    clear FF NN
    obtain ⟨vs, nn, q, left, out, i, t1, t2, t3, t4⟩ := c
    dsimp only at hI hO hst hl0 hq hlen hqm F1 N1 ⊢
    rw [KBw.ints_length, hl] at hqm hlen
    have hq0 : q = 0 := hqm
    subst hq0
    walk_at "mineB"
    (rename News _ _ _ _ => NZ)
    exact hret _ news _ _ (by assumption) (news_sub NZ fun q hq => .tail _ hq) ⟨⟨_, _, rfl, by rw [KBa.ints_make hO, ← hst]⟩, rfl⟩
end Mine
end

section -- Bits
open PySem PySem.W PySem.Spec PySem.Calls PyProof.Rows
set_option maxHeartbeats 8000000
namespace Mine
variable {prog : Program} {w : World} {p : Program} {loose : List Str} {mean : ExcName → Option Value} {mg mb : Str → Option Value}
section
variable {prog : Program} {w : World} {A : Around} {E : Value → Shared → Prop} {s : Shared} {h₀ : Heap} {L : Addr} {news : List (Addr × Obj)}
theorem ints_any {vs : List Value} {ns : List Int} (I : IntsAre vs ns) (k : Int) : vs.toArray.any (fun y => match y with | .int i _ => i == k | _ => false) = decide (k ∈ ns) := by
  rw [← Array.any_toList]
  show vs.any _ = _
  induction I with
  | nil => rfl
  | cons i t _ ih =>
    rw [List.any_cons, ih]
    by_cases h : i = k
    · subst h; simp
    · simp [h, Ne.symm h]
theorem ints_int {vs : List Value} {ns : List Int} (I : IntsAre vs ns) : ∀ y ∈ vs, ∃ i t, y = .int i t := by
  induction I with
  | nil => intro y hy; nomatch hy
  | cons i t _ ih =>
    intro y hy
    cases hy with
    | head => exact ⟨i, t, rfl⟩
    | tail _ hy => exact ih y hy
theorem nin_l {D : Addr} {vs : List Value} {n : Nat} {ns : List Int} {k : Int} {t : Tok} {Q : Value → Shared → Prop} (N : News h₀ L s.heap news) (hm : (D, listOf vs.toArray n) ∈ news) (I : IntsAre vs ns) (h : Q (.bool (!decide (k ∈ ns))) s) :
    wpAny (model prog w) A (compareOp .NotIn (.int k t) (.ref D)) Q E s := by
  refine SeqAt.notIn_listAt (items := vs.toArray) (fun y => match y with | .int i _ => i == k | _ => false) ⟨_, N.get hm, rfl, _, rfl⟩ (fun y hy => ?_) (by rw [ints_any I]; exact h)
  obtain ⟨i, u, rfl⟩ := ints_int I y (by simpa using hy)
  exact SeqAt.EqAt.int_int _ _ _ _
theorem in_l {D : Addr} {vs : List Value} {n : Nat} {ns : List Int} {k : Int} {t : Tok} {Q : Value → Shared → Prop} (N : News h₀ L s.heap news) (hm : (D, listOf vs.toArray n) ∈ news) (I : IntsAre vs ns) (h : Q (.bool (decide (k ∈ ns))) s) :
    wpAny (model prog w) A (compareOp .In (.int k t) (.ref D)) Q E s := by
  refine SeqAt.in_listAt (items := vs.toArray) (fun y => match y with | .int i _ => i == k | _ => false) ⟨_, N.get hm, rfl, _, rfl⟩ (fun y hy => ?_) (by rw [ints_any I]; exact h)
  obtain ⟨i, u, rfl⟩ := ints_int I y (by simpa using hy)
  exact SeqAt.EqAt.int_int _ _ _ _
end
variable {prog : Program} {w : World} {p : Program} {loose : List Str} {mean : ExcName → Option Value} {mg mb : Str → Option Value}

noncomputable def bitOf (n : Int) : Int := 2 ^ (n.fmod 12).toNat
noncomputable def bitStep (bs : List Int) (n : Int) : List Int := if bitOf n ∈ bs then bs else bs ++ [bitOf n]
noncomputable def bitsF (ns : List Int) : List Int := ns.foldl bitStep []
theorem bits_len (ns : List Int) : (bitsF ns).length ≤ ns.length := by
  suffices h : ∀ bs : List Int, (ns.foldl bitStep bs).length ≤ bs.length + ns.length by simpa [bitsF] using h []
  induction ns with
  | nil => intro bs; simp
  | cons n ns ih =>
    intro bs
    refine Nat.le_trans (ih _) ?_
    unfold bitStep
    split <;> simp <;> omega
structure BSt where
  vs : List Value
  n : Nat
  bs : List Int
theorem bits_spec (nA : Addr) (nvs : List Value) (nn : Nat) (ns : List Int) (news : List (Addr × Obj)) (hnA : (nA, listOf nvs.toArray nn) ∈ news) (I : IntsAre nvs ns) (hlen : ns.length ≤ 100) : Spec prog w p loose mean mg mb 168 [.ref nA] 2 news (fun r news' => ∃ D vs n, r = .ref D ∧ IntsAre vs (bitsF ns) ∧ news' = (D, listOf vs.toArray n) :: news ∧ ∀ q ∈ news, q.1 ≠ D) := by
  refine fill_at ?_
  k_fill
  unfold Filled Spec
  intro dp un gd cn cs a ccd cl outer A₀ base h₀ L m s Q E B F X N T hk hd hu hret
  refine wpAny_call ?_
  k_dflt ktr_enter
  rename_i g' L' h' FG' F' N' B' X' T'
  replace F' : Fr g' L' h' (fun y => List.lookup y [(Str.ofString "numbers", .ref nA)]) := F'
  walk_at "mine"
  refine list_l (by assumption) (by assumption) (by decide) ?_
  intro bA h1 F1 N1 hlt
  clear F' N'
  have hoff0 : ∀ q ∈ news, q.1 ≠ bA := fun q hq => Nat.ne_of_lt (hlt q hq)
  walk_at "mine"
  refine' For_invVF (by assumption) ?k1 ?k2 ?_
  case k1 => exact rfl
  case k2 => exact rfl
  walk_at "mine"
  (rename Fr _ _ _ _ => F1)
  (rename News _ _ _ _ => N1)
  refine' for_list (fun c : BSt => (bA, listOf c.vs.toArray c.n) :: news) (fun _ => []) [] (fun pre c => ∃ ps, IntsAre pre ps ∧ c.bs = bitsF ps ∧ IntsAre c.vs c.bs) ⟨[], 0, []⟩ rfl (fun _ => .tail _ hnA) (by assumption) (by assumption) (fun _ h => h) (fun _ h => nomatch h) ?_ ?_ ?_
  · exact ⟨[], .nil, rfl, .nil⟩
  · intro c pre v post u h tk own he hoff hP F2 N2
    clear F1 N1
    obtain ⟨ps, hps, hbs, Ic⟩ := hP
    obtain ⟨x, tx, rfl⟩ := ints_int I v (by rw [he]; simp)
    have hpl : ps.length ≤ ns.length := by rw [← hps.length, ← I.length, he]; simp
    have hbl := bits_len ps
    have hvl := Ic.length
    have hsn : IntsAre (pre ++ [Value.int x tx]) (ps ++ [x]) := ints_snoc hps x tx
    have hst : bitsF (ps ++ [x]) = bitStep (bitsF ps) x := by unfold bitsF; rw [List.foldl_append]; rfl
    have hoffB : ∀ q ∈ news ++ own, q.1 ≠ bA := by
      intro q hq
      rcases List.mem_append.mp hq with hq | hq
      · exact hoff0 q hq
      · exact hoff q hq _ (.head _)
    replace N2 : News g' L' h ((bA, listOf c.vs.toArray c.n) :: (news ++ own)) := N2
    walk_at "mine"
    refine nin_l (by assumption) (.head _) Ic ?_
    by_cases hin : (2 : Int) ^ (x.fmod 12).toNat ∈ c.bs
    · rw [decide_eq_true hin]
      walk_at "mine"
      refine' fend c ?kF ?kN ?kn ?ko ?kof ?kk ?kr ?kp
      case kF => assumption
      case kN => assumption
      case kn => intro q hq; exact List.mem_append_left own hq
      case ko => intro q hq; exact .tail _ (List.mem_append_right _ hq)
      case kof => exact hoff
      case kk => intro q hq; nomatch hq
      case kr =>
        intro z h1z h2 h3
        simp +zetaDelta [kstB, h1z]
      case kp =>
        refine ⟨ps ++ [x], hsn, ?_, Ic⟩
        rw [hst, hbs]
        rw [hbs] at hin
        unfold bitStep bitOf
        rw [if_pos hin]
    · rw [decide_eq_false hin]
      walk_at "mine"
      refine app_l (by assumption) (by assumption) hoffB (by rw [hvl, hbs]; omega) ?_
      intro h5 F5 N5
      walk_at "mine"
      refine' fend ⟨c.vs ++ [_], c.n + 1, c.bs ++ [2 ^ (x.fmod 12).toNat]⟩ ?kF ?kN ?kn ?ko ?kof ?kk ?kr ?kp
      case kF => assumption
      case kN => assumption
      case kn => intro q hq; exact List.mem_append_left own hq
      case ko => intro q hq; exact .tail _ (List.mem_append_right _ hq)
      case kof => exact hoff
      case kk => intro q hq; nomatch hq
      case kr =>
        intro z h1z h2 h3
        simp +zetaDelta [kstB, h1z]
      case kp =>
        refine ⟨ps ++ [x], hsn, ?_, ints_snoc Ic _ _⟩
        rw [hst, hbs]
        rw [hbs] at hin
        unfold bitStep bitOf
        rw [if_neg hin]
  · intro c u h tk hP F2 N2
    clear F1 N1
    obtain ⟨ps, hps, hbs, Ic⟩ := hP
    walk_at "mine"
    exact hret _ _ _ _ (by assumption) (by assumption) ⟨bA, c.vs, c.n, rfl, by rw [show ns = ps from I.nums.symm.trans hps.nums, ← hbs]; exact Ic, rfl, hoff0⟩
end Mine
end

section -- WalkA
open PySem PySem.W PySem.Spec PySem.Calls PyProof.Rows
set_option maxHeartbeats 8000000
namespace Mine
variable {prog : Program} {w : World} {p : Program} {loose : List Str} {mean : ExcName → Option Value} {mg mb : Str → Option Value}

noncomputable abbrev led5 (hA sA dW dL dP : Addr) (oH oS oW oL oP : Obj) (rest : List (Addr × Obj)) : List (Addr × Obj) := (hA, oH) :: (sA, oS) :: (dW, oW) :: (dL, oL) :: (dP, oP) :: rest
structure Apart (hA sA dW dL dP : Addr) : Prop where
  a : hA ≠ sA
  b : hA ≠ dW
  c : hA ≠ dL
  d : hA ≠ dP
  e : sA ≠ dW
  f : sA ≠ dL
  g : sA ≠ dP
  h : dW ≠ dL
  i : dW ≠ dP
  j : dL ≠ dP
noncomputable def Away (hA sA dW dL dP : Addr) (rest : List (Addr × Obj)) : Prop := ∀ p ∈ rest, p.1 ≠ hA ∧ p.1 ≠ sA ∧ p.1 ≠ dW ∧ p.1 ≠ dL ∧ p.1 ≠ dP
section
variable {hA sA dW dL dP : Addr} {oH oS oW oL oP : Obj} {rest : List (Addr × Obj)}
theorem up_h (x : Apart hA sA dW dL dP) (y : Away hA sA dW dL dP rest) : ∀ p ∈ (sA, oS) :: (dW, oW) :: (dL, oL) :: (dP, oP) :: rest, p.1 ≠ hA := by
  intro p hp
  simp only [List.mem_cons] at hp
  rcases hp with rfl | rfl | rfl | rfl | hp
  · exact x.a.symm
  · exact x.b.symm
  · exact x.c.symm
  · exact x.d.symm
  · exact (y p hp).1
theorem up_s (x : Apart hA sA dW dL dP) (y : Away hA sA dW dL dP rest) : UpdF sA oS (led5 hA sA dW dL dP oH oS oW oL oP rest) (fun o => led5 hA sA dW dL dP oH o oW oL oP rest) := by
  refine .tail x.a (.head fun p hp => ?_)
  simp only [List.mem_cons] at hp
  rcases hp with rfl | rfl | rfl | hp
  · exact x.e.symm
  · exact x.f.symm
  · exact x.g.symm
  · exact (y p hp).2.1
theorem up_w (x : Apart hA sA dW dL dP) (y : Away hA sA dW dL dP rest) : UpdF dW oW (led5 hA sA dW dL dP oH oS oW oL oP rest) (fun o => led5 hA sA dW dL dP oH oS o oL oP rest) := by
  refine .tail x.b (.tail x.e (.head fun p hp => ?_))
  simp only [List.mem_cons] at hp
  rcases hp with rfl | rfl | hp
  · exact x.h.symm
  · exact x.i.symm
  · exact (y p hp).2.2.1
theorem up_l (x : Apart hA sA dW dL dP) (y : Away hA sA dW dL dP rest) : UpdF dL oL (led5 hA sA dW dL dP oH oS oW oL oP rest) (fun o => led5 hA sA dW dL dP oH oS oW o oP rest) := by
  refine .tail x.c (.tail x.f (.tail x.h (.head fun p hp => ?_)))
  simp only [List.mem_cons] at hp
  rcases hp with rfl | hp
  · exact x.j.symm
  · exact (y p hp).2.2.2.1
theorem up_p (x : Apart hA sA dW dL dP) (y : Away hA sA dW dL dP rest) : UpdF dP oP (led5 hA sA dW dL dP oH oS oW oL oP rest) (fun o => led5 hA sA dW dL dP oH oS oW oL o rest) := by
  refine .tail x.d (.tail x.g (.tail x.i (.tail x.j (.head fun p hp => ?_))))
  exact (y p hp).2.2.2.2
end
noncomputable def PriceSpec (prog : Program) (w : World) (p : Program) (loose : List Str) (mean : ExcName → Option Value) (mg mb : Str → Option Value) (price : Int → Int) (alt : Array UInt8) : Prop :=
  ∀ (m : Int) (t tb : Tok) (news : List (Addr × Obj)), 0 ≤ m → m < 65536 → Spec prog w p loose mean mg mb 161 [.int m t, .bytes alt tb] 6 news (fun r news' => (∃ t', r = .int (price m) t') ∧ news' = news)
noncomputable abbrev td (x : Int × Int × Int) : Dat := .tuple [.int x.1, .int x.2.1, .int x.2.2]
theorem IDict.le {prog : Program} {w : World} {o : Obj} {f : Int → Option Int} {a b : Nat} (h : IDict prog w o f a) (hab : a ≤ b) : IDict prog w o f b := let ⟨k, x, y, z⟩ := h; ⟨k, x, Nat.le_trans y hab, z⟩
structure WSt where
  hv : List Value
  hn : Nat
  sv : List Value
  sn : Nat
  oW : Obj
  oL : Obj
  oP : Obj
  tl : List (Addr × Obj)
  st : St
  sz : Nat
theorem walked_spec (G : Gr) (ok : G.Ok) (alt : Array UInt8) (hprice : PriceSpec prog w p loose mean mg mb G.P alt) (bA : Addr) (bvs : List Value) (nb : Nat) (news0 : List (Addr × Obj)) (hbA : (bA, listOf bvs.toArray nb) ∈ news0) (hbits : IntsAre bvs G.bits) (ts tb : Tok) :
   Spec prog w p loose mean mg mb 175 [.int G.s ts, .ref bA, .bytes alt tb] 8 news0 (fun r news' => ∃ D vs n ss tl, r = .ref D ∧ (modesOf ss).Perm G.V ∧ ss.Pairwise (fun a b => lex2 (a.1, a.2.1) (b.1, b.2.1) = true) ∧ (∀ t ∈ ss, t.1 = G.D t.2.1 ∧ t.2.2 = G.W t.2.1) ∧ DatAll tl vs (ss.map td) ∧ news' = (D, listOf (vs : List Value).toArray n) :: (tl ++ news0)) := by
  refine fill_at ?_
  k_fill
  unfold Filled Spec
  intro dp un gd cn cs a ccd cl outer A₀ base h₀ L m s Q E B F X N T hk hd hu hret
  refine wpAny_call ?_
  k_dflt ktr_enter
  rename_i g' L' h' FG' F' N' B' X' T'
  replace F' : Fr g' L' h' (fun y => List.lookup y [(Str.ofString "altchars", .bytes alt tb), (Str.ofString "bits", .ref bA), (Str.ofString "start", .int G.s ts)]) := F'
  walk_at "mineB"
  refine dict1_l (by assumption) (by assumption) T'.nolimit ?_
  intro dP h1 F1 N1 lP loP
  walk_at "mineB"
  refine' Spec.use (hprice G.s _ _ ((dP, dictE) :: news0) (ok.rng _ ok.sV).1 (ok.rng _ ok.sV).2) ?sB ?sF ?sX ?sN ?sT ?sK ?sD ?sU ?_
  walk_at "use"
  case sD => show dp + 1 + 6 < recursionLimit; omega
  case sU => show un + 3 + 40 * 6 < cLine; omega
  rintro r news' h3 tk3 F3 N3 ⟨⟨t3, rfl⟩, rfl⟩
  refine ⟨_, _, _, _, rfl, rfl, by assumption, by assumption, ?_⟩
  intro h4 oP F4 N4 IP
  walk_at "mineB"
  refine dict1_l (by assumption) (by assumption) T'.nolimit ?_
  intro dL h1 F1 N1 lL loL
  walk_at "mineB"
  refine ⟨_, _, _, _, rfl, rfl, by assumption, by assumption, ?_⟩
  intro h4 oL F4 N4 IL
  walk_at "mineB"
  refine dict1_l (by assumption) (by assumption) T'.nolimit ?_
  intro dW h1 F1 N1 lW loW
  walk_at "mineB"
  refine ⟨_, _, _, _, rfl, rfl, by assumption, by assumption, ?_⟩
  intro h4 oW F4 N4 IW
  walk_at "mineB"
  refine list_l (by assumption) (by assumption) (by simp) ?_
  intro hA h5 F5 N5 lH
  walk_at "mineB"
  refine list_l (by assumption) (by assumption) (by simp) ?_
  intro sA h6 F6 N6 lS
  walk_at "mineB"
  refine tup_l (by assumption) (by assumption) (by simp) ?_
  intro tA h7 F7 N7 lT
  have ap : Apart hA sA dW dL dP := by
    constructor
    · exact Nat.ne_of_lt (lS _ (.head _))
    · exact Nat.ne_of_gt (lH _ (.head _))
    · exact Nat.ne_of_gt (lH _ (.tail _ (.head _)))
    · exact Nat.ne_of_gt (lH _ (.tail _ (.tail _ (.head _))))
    · exact Nat.ne_of_gt (lS _ (.tail _ (.head _)))
    · exact Nat.ne_of_gt (lS _ (.tail _ (.tail _ (.head _))))
    · exact Nat.ne_of_gt (lS _ (.tail _ (.tail _ (.tail _ (.head _)))))
    · exact Nat.ne_of_gt (lW _ (.head _))
    · exact Nat.ne_of_gt (lW _ (.tail _ (.head _)))
    · exact Nat.ne_of_gt (lL _ (.head _))
  have hZz : ∃ tk0, News g' L' h7 ((tA, tupO [.int 0 tk0, .int G.s ts] 0) :: (sA, listOf [].toArray 0) :: (hA, listOf [].toArray 0) :: (dW, oW) :: (dL, oL) :: (dP, oP) :: news0) := ⟨_, N7⟩
  obtain ⟨tk0, N8⟩ := hZz
  have N9 : News g' L' h7 ((hA, listOf [].toArray 0) :: (sA, listOf [].toArray 0) :: (dW, oW) :: (dL, oL) :: (dP, oP) :: ([(tA, tupO [.int 0 tk0, .int G.s ts] 0)] ++ news0)) := by
    refine news_sub N8 fun q hq => ?_
    simp only [List.mem_cons, List.mem_append, List.not_mem_nil, or_false] at hq ⊢
    rcases hq with h | h | h | h | h | h | h <;> simp [h]
  clear N7 N8
  have aw0 : Away hA sA dW dL dP ([(tA, tupO [.int 0 tk0, .int G.s ts] 0)] ++ news0) := by
    intro q hq
    rcases List.mem_append.mp hq with hq | hq
    · rw [List.mem_singleton.mp hq]
      exact ⟨Nat.ne_of_gt (lT _ (.tail _ (.head _))), Nat.ne_of_gt (lT _ (.head _)), Nat.ne_of_gt (lT _ (.tail _ (.tail _ (.head _)))), Nat.ne_of_gt (lT _ (.tail _ (.tail _ (.tail _ (.head _))))), Nat.ne_of_gt (lT _ (.tail _ (.tail _ (.tail _ (.tail _ (.head _))))))⟩
    · exact ⟨Nat.ne_of_lt (lH _ (.tail _ (.tail _ (.tail _ hq)))), Nat.ne_of_lt (lS _ (.tail _ (.tail _ (.tail _ (.tail _ hq))))), Nat.ne_of_lt (lW _ (.tail _ (.tail _ hq))), Nat.ne_of_lt (lL _ (.tail _ hq)), Nat.ne_of_lt (lP _ hq)⟩
  walk_at "mineB"
  refine' Spec.use (heappush_spec hA [] 0 ((sA, listOf [].toArray 0) :: (dW, oW) :: (dL, oL) :: (dP, oP) :: ([(tA, tupO [.int 0 tk0, .int G.s ts] 0)] ++ news0)) [(tA, tupO [.int 0 tk0, .int G.s ts] 0)] [] (0, G.s) tA tk0 ts 0 (up_h ap aw0) ?shh .nil (.head _) (by simp)) ?sB ?sF ?sX ?sN ?sT ?sK ?sD ?sU ?_
  case shh => intro q hq; rw [List.mem_singleton.mp hq]; exact .tail _ (.tail _ (.tail _ (.tail _ (.head _))))
  walk_at "use"
  case sD => show dp + 1 + 2 < recursionLimit; omega
  case sU => show un + 3 + 40 * 2 < cLine; omega
  rintro r news' h3 tk3 F3 N3 ⟨rfl, hv0, hn0, hs0, rfl, hDh, hPush⟩
  walk_at "mineB"
  refine ksw_while (fun c : WSt => led5 hA sA dW dL dP (listOf c.hv.toArray c.hn) (listOf c.sv.toArray c.sn) c.oW c.oL c.oP (c.tl ++ news0)) (fun _ => []) (fun _ => True) [Str.ofString "cost", Str.ofString "mode", Str.ofString "bit", Str.ofString "other", Str.ofString "there"]
    (fun c => DatAll c.tl c.hv (c.st.hs.map pd) ∧ DatAll c.tl c.sv (c.st.ss.map td) ∧ IDict prog w c.oW c.st.fW c.sz ∧ IDict prog w c.oL c.st.fL c.sz ∧ IDict prog w c.oP c.st.fP c.sz ∧ DjInv G c.st ∧ c.sz + 5 * meas G c.st ≤ 5000 ∧ Away hA sA dW dL dP (c.tl ++ news0))
    (fun c => meas G c.st) ⟨hv0, hn0, [], 0, oW, oL, oP, [(tA, tupO [.int 0 tk0, .int G.s ts] 0)], ⟨hs0, [], upd (fun _ => none) G.s (G.P G.s), upd (fun _ => none) G.s 0, upd (fun _ => none) G.s 1⟩, 1⟩ F3 N3 trivial (fun _ h => nomatch h) ?_ ?_
  · refine ⟨hDh, .nil, IW, IL, IP, dj_init ok hPush, ?_, aw0⟩
    have h1 := push_len hPush
    have h2 := ok.fewV
    simp only [List.length_nil] at h1
    simp only [meas, List.length_nil]
    omega
  · intro c u h tk _ hP Fc Nc
    obtain ⟨hDh, hDs, IW, IL, IP, hInv, hsz, aw⟩ := hP
    walk_at "mineB"
    have hlen : c.hv.length = c.st.hs.length := by rw [hDh.length, List.length_map]
    have hms : c.st.hs.length ≤ meas G c.st := Nat.le_add_left _ _
    refine truthy_l Nc (.head _) (by omega) ?_
    rcases List.eq_nil_or_concat c.hv with hv0 | ⟨hvi, vl, hv1⟩
    · rw [hv0]
      have hs0 : c.st.hs = [] := by rw [hv0] at hlen; exact List.eq_nil_of_length_eq_zero hlen.symm
      walk_at "mineB"
      exact hret _ ((sA, listOf c.sv.toArray c.sn) :: (((hA, listOf c.hv.toArray c.hn) :: (dW, c.oW) :: (dL, c.oL) :: (dP, c.oP) :: c.tl) ++ news0)) _ _ (by assumption) (by
        (rename News _ _ _ _ => NZ)
        refine news_sub NZ fun q hq => ?_
        simp only [led5, List.mem_cons, List.mem_append, List.cons_append] at hq ⊢
        rcases hq with h | h | h | h | h | h | h <;> simp [h]) ⟨sA, c.sv, c.sn, c.st.ss, (hA, listOf c.hv.toArray c.hn) :: (dW, c.oW) :: (dL, c.oL) :: (dP, c.oP) :: c.tl, rfl, dj_end ok hInv hs0, hInv.sorted, fun t ht => (hInv.setl t ht).2, hDs.mono (fun q hq => by simp [hq]), rfl⟩
    · rw [List.concat_eq_append] at hv1
      have e1 : (!c.hv.isEmpty) = true := by rw [hv1]; simp
      rw [e1]
      rw [hv1] at hDh Nc
      obtain ⟨es, dl, he, hDi, hDl⟩ := hDh.snoc
      obtain ⟨hsi, y, hse⟩ : ∃ hsi y, c.st.hs = hsi ++ [y] := by
        rcases List.eq_nil_or_concat c.st.hs with h0 | ⟨a, b, hb⟩
        · rw [h0] at hlen; rw [hv1] at hlen; simp at hlen
        · exact ⟨a, b, by rw [hb, List.concat_eq_append]⟩
      rw [hse, List.map_append, List.map_singleton] at he
      obtain ⟨he1, he2⟩ := List.append_inj' he rfl
      subst he1
      cases he2
      walk_at "mineB"
      refine' Spec.use (heappop_spec hA hvi vl c.hn ((sA, listOf c.sv.toArray c.sn) :: (dW, c.oW) :: (dL, c.oL) :: (dP, c.oP) :: (c.tl ++ news0)) c.tl hsi y (up_h ap aw) ?shh hDi hDl (by rw [hse] at hms; simp at hms; omega)) ?sB ?sF ?sX ?sN ?sT ?sK ?sD ?sU ?_
      case shh => intro q hq; exact .tail _ (.tail _ (.tail _ (.tail _ (List.mem_append_left _ hq))))
      walk_at "use"
      case sD => show dp + 1 + 3 < recursionLimit; omega
      case sU => show un + 3 + 40 * 3 < cLine; omega
      rintro r news' h8 tk8 F8 N8 ⟨ax, tx, ux, nx, x, hv', hn', hs', rfl, hax, rfl, hDh', hPop⟩
      clear Fc Nc
      walk_at "mineB"
      refine unpackN_ F8 N8 (News.isTup N8 (.tail _ (.tail _ (.tail _ (.tail _ (.tail _ (List.mem_append_left _ hax))))))) rfl rfl rfl ?_
      intro h9 F9 N9
      clear F8 N8
      obtain ⟨l, wm, hl, hwm, hxV, hstale, hfresh⟩ := dj_pop ok hInv hse hPop
      have hpl := pop_len hPop
      have hhs' : hs'.length ≤ 1000 := by
        have h9 : c.st.hs.length = hsi.length + 1 := by rw [hse]; simp
        omega
      walk_at "mineB"
      refine dget_l (by assumption) (.tail _ (.tail _ (.tail _ (.head _)))) IL hl ?_
      intro tl9
      walk_at "mineB"
      · rename_i hlt
        obtain ⟨hI', hm'⟩ := hstale (by omega)
        refine' ksw_end (⟨hv', hn', c.sv, c.sn, c.oW, c.oL, c.oP, c.tl, { c.st with hs := hs' }, c.sz⟩ : WSt) ?kF ?kN ?kn ?kf ?kk ?kr ?kp ?km
        case kF => assumption
        case kN => assumption
        case kn => exact fun _ h => h
        case kf => trivial
        case kk => exact fun _ h => nomatch h
        case kr =>
          intro z h2 h3
          simp only [List.contains_cons, List.contains_nil, Bool.or_false, Bool.or_eq_false_iff, beq_eq_false_iff_ne, ne_eq] at h3
          simp +zetaDelta [kstB, h3]
        case kp => exact ⟨hDh', hDs, IW, IL, IP, hI', Nat.le_trans (Nat.add_le_add_left (Nat.mul_le_mul_left 5 (Nat.le_of_lt hm')) _) hsz, aw⟩
        case km => exact hm'
      · obtain ⟨hcost, hssV, hR⟩ := hfresh (by omega)
        refine dget_l (by assumption) (.tail _ (.tail _ (.head _))) IW hwm ?_
        intro tw9
        walk_at "mineB"
        refine tup_l (by assumption) (by assumption) (by simp) ?_
        intro tB hB FB NB lB
        have NB' : News g' L' hB (led5 hA sA dW dL dP (listOf hv'.toArray hn') (listOf c.sv.toArray c.sn) c.oW c.oL c.oP (((tB, tupO [.int x.1 tx, .int x.2 ux, .int wm tw9] 0) :: c.tl) ++ news0)) := by
          refine news_sub NB fun q hq => ?_
          simp only [led5, List.mem_cons, List.mem_append, List.cons_append] at hq ⊢
          rcases hq with h | h | h | h | h | h | h | h <;> simp [h]
        have awB : Away hA sA dW dL dP (((tB, tupO [.int x.1 tx, .int x.2 ux, .int wm tw9] 0) :: c.tl) ++ news0) := by
          intro q hq
          rw [List.cons_append] at hq
          rcases List.mem_cons.mp hq with rfl | hq
          · exact ⟨Nat.ne_of_gt (lB _ (.head _)), Nat.ne_of_gt (lB _ (.tail _ (.head _))), Nat.ne_of_gt (lB _ (.tail _ (.tail _ (.head _)))), Nat.ne_of_gt (lB _ (.tail _ (.tail _ (.tail _ (.head _))))), Nat.ne_of_gt (lB _ (.tail _ (.tail _ (.tail _ (.tail _ (.head _))))))⟩
          · exact aw q hq
        clear NB
        have hsl : c.sv.length = c.st.ss.length := by rw [hDs.length, List.length_map]
        have hV16 := ok.fewV
        walk_at "mineB"
        refine app_u (by assumption) NB' (up_s ap awB) (by omega) ?_
        intro hC FC NC
        clear NB'
        walk_at "mineB"
        refine' For_invVF (by assumption) ?k1 ?k2 ?_
        case k1 => exact rfl
        case k2 => exact rfl
        walk_at "mineB"
        have hbl : bvs.length = G.bits.length := hbits.length
        have hfew := ok.few
        refine for_list (fun c1 : WSt => led5 hA sA dW dL dP (listOf c1.hv.toArray c1.hn) (listOf c1.sv.toArray c1.sn) c1.oW c1.oL c1.oP (c1.tl ++ news0)) (fun _ => []) [Str.ofString "other", Str.ofString "there"]
          (fun pre c1 => DatAll c1.tl c1.hv (c1.st.hs.map pd) ∧ DatAll c1.tl c1.sv (c1.st.ss.map td) ∧ IDict prog w c1.oW c1.st.fW c1.sz ∧ IDict prog w c1.oL c1.st.fL c1.sz ∧ IDict prog w c1.oP c1.st.fP c1.sz ∧
            RInv G x.2 (G.bits.take pre.length) c1.st ∧ c1.st.fW x.2 = some wm ∧ c1.st.fP x.2 = some (G.P x.2) ∧ c1.st.ss = c.st.ss ++ [(x.1, x.2, wm)] ∧ c1.st.hs.length ≤ hs'.length + pre.length ∧ c1.sz ≤ c.sz + pre.length ∧ Away hA sA dW dL dP (c1.tl ++ news0))
          ⟨hv', hn', c.sv ++ [.ref tB], c.sn + 1, c.oW, c.oL, c.oP, (tB, tupO [.int x.1 tx, .int x.2 ux, .int wm tw9] 0) :: c.tl, { c.st with hs := hs', ss := c.st.ss ++ [(x.1, x.2, wm)] }, c.sz⟩
          rfl (fun _ => .tail _ (.tail _ (.tail _ (.tail _ (.tail _ (List.mem_append_right _ hbA)))))) (by assumption) NC (fun _ h => h) (fun _ h => nomatch h) ?_ ?_ ?_
        · refine ⟨hDh'.mono fun _ h => .tail _ h, ?_, IW, IL, IP, hR, hwm, ?_, rfl, Nat.le_refl _, Nat.le_refl _, awB⟩
          · show DatAll _ (c.sv ++ [Value.ref tB]) (List.map td (c.st.ss ++ [(x.1, x.2, wm)]))
            rw [List.map_append]
            exact (hDs.mono fun _ h => .tail _ h).append (.one (.tuple (.head _) (.cons (.int _ _) (.cons (.int _ _) (.cons (.int _ _) .nil)))))
          · obtain ⟨pv, hpv⟩ := Option.ne_none_iff_exists'.mp (hInv.pkey _ _ hl)
            show c.st.fP x.2 = _
            rw [hpv, (hInv.price _ _ hpv).2]
        · intro c1 pre v post u1 h1 tk1 own hbe hoff hP F1 N1
          obtain ⟨hDh1, hDs1, IW1, IL1, IP1, hR1, hW1, hP1, hss1, hhl1, hsz1, aw1⟩ := hP
          clear FC NC
          have hlt1 : pre.length < G.bits.length := by rw [← hbl, hbe]; simp
          obtain ⟨tb1, hv1⟩ := hbits.get pre.length (G.bits[pre.length]'hlt1) (List.getElem?_eq_getElem hlt1)
          have ev : v = .int (G.bits[pre.length]'hlt1) tb1 := by
            rw [hbe] at hv1
            simpa using hv1
          subst ev
          have hbm : G.bits[pre.length]'hlt1 ∈ G.bits := List.getElem_mem hlt1
          generalize hbit : G.bits[pre.length]'hlt1 = bit at *
          have oV : nbr x.2 bit ∈ G.V := ok.nV _ hxV _ hbm
          have aw2 : Away hA sA dW dL dP ((c1.tl ++ news0) ++ own) := by
            intro q hq
            rcases List.mem_append.mp hq with hq | hq
            · exact aw1 q hq
            · exact ⟨hoff q hq _ (.head _), hoff q hq _ (.tail _ (.head _)), hoff q hq _ (.tail _ (.tail _ (.head _))), hoff q hq _ (.tail _ (.tail _ (.tail _ (.head _)))), hoff q hq _ (.tail _ (.tail _ (.tail _ (.tail _ (.head _)))))⟩
          replace N1 : News g' L' h1 (led5 hA sA dW dL dP (listOf c1.hv.toArray c1.hn) (listOf c1.sv.toArray c1.sn) c1.oW c1.oL c1.oP ((c1.tl ++ news0) ++ own)) := N1
          walk_at "mineBI"
          (rename Fr _ _ _ _ => F2)
          (rename News _ _ _ _ => N2)
          have hZz : ∃ mm, Fr g' L' _ mm ∧ mm = _ := ⟨_, F2, rfl⟩
          obtain ⟨mm, F2', hmm⟩ := hZz
          refine wpAny_mono (Q := Mid (fun h2 => ∃ (oP2 : Obj) (sz2 : Nat), sz2 ≤ c1.sz + 1 ∧ IDict prog w oP2 (seen G.P c1.st.fP (nbr x.2 bit)) sz2 ∧ Fr g' L' h2 mm ∧ News g' L' h2 (led5 hA sA dW dL dP (listOf c1.hv.toArray c1.hn) (listOf c1.sv.toArray c1.sn) c1.oW c1.oL oP2 ((c1.tl ++ news0) ++ own))) s) ?_ ?_ (fun _ _ h => h)
          · clear F2'
            walk_at "mineB"
            refine din_l (by assumption) (.tail _ (.tail _ (.tail _ (.tail _ (.head _))))) loP IP1 ?_
            cases hfo : c1.st.fP (nbr x.2 bit) with
            | some po =>
              rw [show (!(some po : Option Int).isSome) = false from rfl]
              walk_at "mineB"
              exact ⟨rfl, _, _, rfl, c1.oP, c1.sz, Nat.le_succ _, by unfold seen; rw [hfo]; exact IP1, by rw [hmm]; assumption, by assumption⟩
            | none =>
              rw [show (!(none : Option Int).isSome) = true from rfl]
              walk_at "mineB"
              refine' Spec.use (hprice (nbr x.2 bit) _ _ (led5 hA sA dW dL dP (listOf c1.hv.toArray c1.hn) (listOf c1.sv.toArray c1.sn) c1.oW c1.oL c1.oP ((c1.tl ++ news0) ++ own)) (ok.rng _ oV).1 (ok.rng _ oV).2) ?sB ?sF ?sX ?sN ?sT ?sK ?sD ?sU ?_
              walk_at "use"
              case sD => show dp + 1 + 6 < recursionLimit; omega
              case sU => show un + 3 + 40 * 6 < cLine; omega
              rintro r news' h3 tk3 F3 N3 ⟨⟨t3, rfl⟩, rfl⟩
              walk_at "mineB"
              refine dset_l (by assumption) N3 (up_p ap aw2) IP1 (by omega) ?_
              intro h4 oP2 F4 N4 IP4
              walk_at "mineB"
              exact ⟨rfl, _, _, rfl, oP2, c1.sz + 1, Nat.le_refl _, by unfold seen; rw [hfo]; exact IP4, by rw [hmm]; assumption, by assumption⟩
          · rintro f s2 ⟨rfl, h2, tk2, rfl, oP2, sz2, hsz2, IP2, F3, N3⟩
            subst hmm
            clear F2 N2 F2'
            have hne : nbr x.2 bit ≠ x.2 := fun e => by
              have := ok.pos _ hxV _ hbm
              unfold Gr.c iabs at this
              rw [e] at this
              simp at this
            have hpo : ∀ po, c1.st.fP (nbr x.2 bit) = some po → po = G.P (nbr x.2 bit) := fun po h => (hR1.2.price _ _ h).2
            have hsM : seen G.P c1.st.fP (nbr x.2 bit) x.2 = some (G.P x.2) := by
              unfold seen
              cases hfo : c1.st.fP (nbr x.2 bit) with
              | some po => exact hP1
              | none => simp only [upd, if_neg hne.symm]; exact hP1
            have hsO : seen G.P c1.st.fP (nbr x.2 bit) (nbr x.2 bit) = some (G.P (nbr x.2 bit)) := by
              unfold seen
              cases hfo : c1.st.fP (nbr x.2 bit) with
              | some po => simp only; rw [hfo, hpo po hfo]
              | none => simp [upd]
            walk_at "mineB"
            refine dget_l (by assumption) (.tail _ (.tail _ (.tail _ (.tail _ (.head _))))) IP2 hsM ?_
            intro tq1
            walk_at "mineB"
            refine dget_l (by assumption) (.tail _ (.tail _ (.tail _ (.tail _ (.head _))))) IP2 hsO ?_
            intro tq2
            walk_at "mineB"
            have hwmW : wm = G.W x.2 := by
              have := hR1.2.setl (x.1, x.2, wm) (by rw [hss1]; simp)
              exact this.2.2
            have htk : G.bits.take (pre ++ [Value.int bit tb1]).length = G.bits.take pre.length ++ [bit] := by
              rw [List.length_append, List.length_singleton, List.take_add_one, List.getElem?_eq_getElem hlt1, hbit]; rfl
            have hnp : bit ∉ G.bits.take pre.length := by
              intro hm
              have h1 := ok.bnd
              rw [← List.take_append_drop pre.length G.bits, List.nodup_append] at h1
              refine h1.2.2 _ hm _ ?_ rfl
              rw [List.drop_eq_getElem_cons hlt1, hbit]; exact .head _
            refine din_l (by assumption) (.tail _ (.tail _ (.tail _ (.head _)))) loL IL1 ?_
            cases hfo : c1.st.fL (nbr x.2 bit) with
            | none =>
              rw [show (!(none : Option Int).isSome) = true from rfl]
              walk_at "mineB"
              refine dset_l (by assumption) (by assumption) (up_l ap aw2) IL1 (by omega) ?_
              intro h5 oL5 F5 N5 IL5
              walk_at "mineB"
              refine dget_l (by assumption) (.tail _ (.tail _ (.head _))) IW1 hW1 ?_
              intro tq4
              walk_at "mineB"
              refine dset_l (by assumption) (by assumption) (up_w ap aw2) IW1 (by omega) ?_
              intro h6 oW6 F6 N6 IW6
              walk_at "mineB"
              refine tup_l (by assumption) (by assumption) (by simp) ?_
              intro tC h7 F7 N7 lC
              have hZz : ∃ tkc tkd, News g' L' h7 ((tC, tupO [.int (x.1 + G.c x.2 (nbr x.2 bit)) tkc, .int (nbr x.2 bit) tkd] 0) :: led5 hA sA dW dL dP (listOf c1.hv.toArray c1.hn) (listOf c1.sv.toArray c1.sn) oW6 oL5 oP2 ((c1.tl ++ news0) ++ own)) := ⟨_, _, N7⟩
              obtain ⟨tkc, tkd, N8⟩ := hZz
              have N9 : News g' L' h7 (led5 hA sA dW dL dP (listOf c1.hv.toArray c1.hn) (listOf c1.sv.toArray c1.sn) oW6 oL5 oP2 ((((tC, tupO [.int (x.1 + G.c x.2 (nbr x.2 bit)) tkc, .int (nbr x.2 bit) tkd] 0) :: c1.tl) ++ news0) ++ own)) := by
                refine news_sub N8 fun q hq => ?_
                simp only [led5, List.mem_cons, List.mem_append, List.cons_append] at hq ⊢
                rcases hq with h | h | h | h | h | h | h <;> simp [h]
              have aw3 : Away hA sA dW dL dP (((tC, tupO [.int (x.1 + G.c x.2 (nbr x.2 bit)) tkc, .int (nbr x.2 bit) tkd] 0) :: c1.tl) ++ news0) := by
                intro q hq
                rw [List.cons_append] at hq
                rcases List.mem_cons.mp hq with rfl | hq
                · exact ⟨Nat.ne_of_gt (lC _ (.head _)), Nat.ne_of_gt (lC _ (.tail _ (.head _))), Nat.ne_of_gt (lC _ (.tail _ (.tail _ (.head _)))), Nat.ne_of_gt (lC _ (.tail _ (.tail _ (.tail _ (.head _))))), Nat.ne_of_gt (lC _ (.tail _ (.tail _ (.tail _ (.tail _ (.head _))))))⟩
                · exact aw1 q hq
              have aw4 : Away hA sA dW dL dP ((((tC, tupO [.int (x.1 + G.c x.2 (nbr x.2 bit)) tkc, .int (nbr x.2 bit) tkd] 0) :: c1.tl) ++ news0) ++ own) := by
                intro q hq
                rcases List.mem_append.mp hq with hq | hq
                · exact aw3 q hq
                · exact aw2 q (List.mem_append_right _ hq)
              have hofC : ∀ q ∈ own, q.1 ≠ tC := fun q hq => Nat.ne_of_lt (lC q (.tail _ (.tail _ (.tail _ (.tail _ (.tail _ (List.mem_append_right _ hq)))))))
              clear N7 N8
              walk_at "mineB"
              refine' Spec.use (heappush_spec hA c1.hv c1.hn ((sA, listOf c1.sv.toArray c1.sn) :: (dW, oW6) :: (dL, oL5) :: (dP, oP2) :: ((((tC, tupO [.int (x.1 + G.c x.2 (nbr x.2 bit)) tkc, .int (nbr x.2 bit) tkd] 0) :: c1.tl) ++ news0) ++ own)) ((tC, tupO [.int (x.1 + G.c x.2 (nbr x.2 bit)) tkc, .int (nbr x.2 bit) tkd] 0) :: c1.tl) c1.st.hs (x.1 + G.c x.2 (nbr x.2 bit), nbr x.2 bit) tC tkc tkd 0 (up_h ap aw4) ?shh (hDh1.mono fun _ h => .tail _ h) (.head _) (by omega)) ?sB ?sF ?sX ?sN ?sT ?sK ?sD ?sU ?_
              case shh => intro q hq; exact .tail _ (.tail _ (.tail _ (.tail _ (List.mem_append_left _ (List.mem_append_left _ hq)))))
              walk_at "use"
              case sD => show dp + 1 + 2 < recursionLimit; omega
              case sU => show un + 3 + 40 * 2 < cLine; omega
              rintro r news' h8 tk8 F8 N8 ⟨rfl, hv8, hn8, hs8, rfl, hDh8, hPush⟩
              walk_at "mineB"
              have hpl8 := push_len hPush
              refine' fend (⟨hv8, hn8, c1.sv, c1.sn, oW6, oL5, oP2, (tC, tupO [.int (x.1 + G.c x.2 (nbr x.2 bit)) tkc, .int (nbr x.2 bit) tkd] 0) :: c1.tl, ⟨hs8, c1.st.ss, seen G.P c1.st.fP (nbr x.2 bit), upd c1.st.fL (nbr x.2 bit) (x.1 + G.c x.2 (nbr x.2 bit)), upd c1.st.fW (nbr x.2 bit) wm⟩, c1.sz + 1⟩ : WSt) ?kF ?kN ?kn ?ko ?kof ?kk ?kr ?kp
              case kF => assumption
              case kN => assumption
              case kn => intro q hq; exact List.mem_append_left own hq
              case ko => intro q hq; exact List.mem_append_right (led5 hA sA dW dL dP (listOf hv8.toArray hn8) (listOf c1.sv.toArray c1.sn) oW6 oL5 oP2 (((tC, tupO [.int (x.1 + G.c x.2 (nbr x.2 bit)) tkc, .int (nbr x.2 bit) tkd] 0) :: c1.tl) ++ news0)) hq
              case kof =>
                intro q hq b hb
                have hb' : b = tC ∨ b ∈ (led5 hA sA dW dL dP (listOf c1.hv.toArray c1.hn) (listOf c1.sv.toArray c1.sn) c1.oW c1.oL c1.oP (c1.tl ++ news0)).map (·.1) := by
                  simp only [led5, List.map_cons, List.mem_cons, List.cons_append] at hb ⊢
                  rcases hb with h | h | h | h | h | h | h
                  · exact .inr (.inl h)
                  · exact .inr (.inr (.inl h))
                  · exact .inr (.inr (.inr (.inl h)))
                  · exact .inr (.inr (.inr (.inr (.inl h))))
                  · exact .inr (.inr (.inr (.inr (.inr (.inl h)))))
                  · exact .inl h
                  · exact .inr (.inr (.inr (.inr (.inr (.inr h)))))
                rcases hb' with rfl | hb'
                · exact hofC q hq
                · exact hoff q hq b hb'
              case kk => exact fun _ h => nomatch h
              case kr =>
                intro z h1z h2 h3
                simp only [List.contains_cons, List.contains_nil, Bool.or_false, Bool.or_eq_false_iff, beq_eq_false_iff_ne, ne_eq] at h3
                simp +zetaDelta [kstB, h3, h1z]
              case kp => exact ⟨hDh8, hDs1.mono (fun _ h => .tail _ h), IW6, IL5, IP2.le hsz2, htk ▸ dj_relax ok hR1 hcost hwmW hbm hnp (.new hfo hPush), by simp only [upd, if_neg hne.symm]; exact hW1, hsM, hss1, by simp only [List.length_append, List.length_singleton]; show hs8.length ≤ _; omega, by simp only [List.length_append, List.length_singleton]; show c1.sz + 1 ≤ _; omega, aw3⟩
            | some l1 =>
              rw [show (!(some l1 : Option Int).isSome) = false from rfl]
              walk_at "mineB"
              refine dget_l (by assumption) (.tail _ (.tail _ (.tail _ (.head _)))) IL1 hfo ?_
              intro tq5
              walk_at "mineB"
              · have hlt2 : x.1 + G.c x.2 (nbr x.2 bit) < l1 := by assumption
                walk_at "mineB"
                refine dset_l (by assumption) (by assumption) (up_l ap aw2) IL1 (by omega) ?_
                intro h5 oL5 F5 N5 IL5
                walk_at "mineB"
                refine dget_l (by assumption) (.tail _ (.tail _ (.head _))) IW1 hW1 ?_
                intro tq4
                walk_at "mineB"
                refine dset_l (by assumption) (by assumption) (up_w ap aw2) IW1 (by omega) ?_
                intro h6 oW6 F6 N6 IW6
                walk_at "mineB"
                refine tup_l (by assumption) (by assumption) (by simp) ?_
                intro tC h7 F7 N7 lC
                have hZz : ∃ tkc tkd, News g' L' h7 ((tC, tupO [.int (x.1 + G.c x.2 (nbr x.2 bit)) tkc, .int (nbr x.2 bit) tkd] 0) :: led5 hA sA dW dL dP (listOf c1.hv.toArray c1.hn) (listOf c1.sv.toArray c1.sn) oW6 oL5 oP2 ((c1.tl ++ news0) ++ own)) := ⟨_, _, N7⟩
                obtain ⟨tkc, tkd, N8⟩ := hZz
                have N9 : News g' L' h7 (led5 hA sA dW dL dP (listOf c1.hv.toArray c1.hn) (listOf c1.sv.toArray c1.sn) oW6 oL5 oP2 ((((tC, tupO [.int (x.1 + G.c x.2 (nbr x.2 bit)) tkc, .int (nbr x.2 bit) tkd] 0) :: c1.tl) ++ news0) ++ own)) := by
                  refine news_sub N8 fun q hq => ?_
                  simp only [led5, List.mem_cons, List.mem_append, List.cons_append] at hq ⊢
                  rcases hq with h | h | h | h | h | h | h <;> simp [h]
                have aw3 : Away hA sA dW dL dP (((tC, tupO [.int (x.1 + G.c x.2 (nbr x.2 bit)) tkc, .int (nbr x.2 bit) tkd] 0) :: c1.tl) ++ news0) := by
                  intro q hq
                  rw [List.cons_append] at hq
                  rcases List.mem_cons.mp hq with rfl | hq
                  · exact ⟨Nat.ne_of_gt (lC _ (.head _)), Nat.ne_of_gt (lC _ (.tail _ (.head _))), Nat.ne_of_gt (lC _ (.tail _ (.tail _ (.head _)))), Nat.ne_of_gt (lC _ (.tail _ (.tail _ (.tail _ (.head _))))), Nat.ne_of_gt (lC _ (.tail _ (.tail _ (.tail _ (.tail _ (.head _))))))⟩
                  · exact aw1 q hq
                have aw4 : Away hA sA dW dL dP ((((tC, tupO [.int (x.1 + G.c x.2 (nbr x.2 bit)) tkc, .int (nbr x.2 bit) tkd] 0) :: c1.tl) ++ news0) ++ own) := by
                  intro q hq
                  rcases List.mem_append.mp hq with hq | hq
                  · exact aw3 q hq
                  · exact aw2 q (List.mem_append_right _ hq)
                have hofC : ∀ q ∈ own, q.1 ≠ tC := fun q hq => Nat.ne_of_lt (lC q (.tail _ (.tail _ (.tail _ (.tail _ (.tail _ (List.mem_append_right _ hq)))))))
                clear N7 N8
                walk_at "mineB"
                refine' Spec.use (heappush_spec hA c1.hv c1.hn ((sA, listOf c1.sv.toArray c1.sn) :: (dW, oW6) :: (dL, oL5) :: (dP, oP2) :: ((((tC, tupO [.int (x.1 + G.c x.2 (nbr x.2 bit)) tkc, .int (nbr x.2 bit) tkd] 0) :: c1.tl) ++ news0) ++ own)) ((tC, tupO [.int (x.1 + G.c x.2 (nbr x.2 bit)) tkc, .int (nbr x.2 bit) tkd] 0) :: c1.tl) c1.st.hs (x.1 + G.c x.2 (nbr x.2 bit), nbr x.2 bit) tC tkc tkd 0 (up_h ap aw4) ?shh (hDh1.mono fun _ h => .tail _ h) (.head _) (by omega)) ?sB ?sF ?sX ?sN ?sT ?sK ?sD ?sU ?_
                case shh => intro q hq; exact .tail _ (.tail _ (.tail _ (.tail _ (List.mem_append_left _ (List.mem_append_left _ hq)))))
                walk_at "use"
                case sD => show dp + 1 + 2 < recursionLimit; omega
                case sU => show un + 3 + 40 * 2 < cLine; omega
                rintro r news' h8 tk8 F8 N8 ⟨rfl, hv8, hn8, hs8, rfl, hDh8, hPush⟩
                walk_at "mineB"
                have hpl8 := push_len hPush
                refine' fend (⟨hv8, hn8, c1.sv, c1.sn, oW6, oL5, oP2, (tC, tupO [.int (x.1 + G.c x.2 (nbr x.2 bit)) tkc, .int (nbr x.2 bit) tkd] 0) :: c1.tl, ⟨hs8, c1.st.ss, seen G.P c1.st.fP (nbr x.2 bit), upd c1.st.fL (nbr x.2 bit) (x.1 + G.c x.2 (nbr x.2 bit)), upd c1.st.fW (nbr x.2 bit) wm⟩, c1.sz + 1⟩ : WSt) ?kF ?kN ?kn ?ko ?kof ?kk ?kr ?kp
                case kF => assumption
                case kN => assumption
                case kn => intro q hq; exact List.mem_append_left own hq
                case ko => intro q hq; exact List.mem_append_right (led5 hA sA dW dL dP (listOf hv8.toArray hn8) (listOf c1.sv.toArray c1.sn) oW6 oL5 oP2 (((tC, tupO [.int (x.1 + G.c x.2 (nbr x.2 bit)) tkc, .int (nbr x.2 bit) tkd] 0) :: c1.tl) ++ news0)) hq
                case kof =>
                  intro q hq b hb
                  have hb' : b = tC ∨ b ∈ (led5 hA sA dW dL dP (listOf c1.hv.toArray c1.hn) (listOf c1.sv.toArray c1.sn) c1.oW c1.oL c1.oP (c1.tl ++ news0)).map (·.1) := by
                    simp only [led5, List.map_cons, List.mem_cons, List.cons_append] at hb ⊢
                    rcases hb with h | h | h | h | h | h | h
                    · exact .inr (.inl h)
                    · exact .inr (.inr (.inl h))
                    · exact .inr (.inr (.inr (.inl h)))
                    · exact .inr (.inr (.inr (.inr (.inl h))))
                    · exact .inr (.inr (.inr (.inr (.inr (.inl h)))))
                    · exact .inl h
                    · exact .inr (.inr (.inr (.inr (.inr (.inr h)))))
                  rcases hb' with rfl | hb'
                  · exact hofC q hq
                  · exact hoff q hq b hb'
                case kk => exact fun _ h => nomatch h
                case kr =>
                  intro z h1z h2 h3
                  simp only [List.contains_cons, List.contains_nil, Bool.or_false, Bool.or_eq_false_iff, beq_eq_false_iff_ne, ne_eq] at h3
                  simp +zetaDelta [kstB, h3, h1z]
                case kp => exact ⟨hDh8, hDs1.mono (fun _ h => .tail _ h), IW6, IL5, IP2.le hsz2, htk ▸ dj_relax ok hR1 hcost hwmW hbm hnp (.less hfo hlt2 hPush), by simp only [upd, if_neg hne.symm]; exact hW1, hsM, hss1, by simp only [List.length_append, List.length_singleton]; show hs8.length ≤ _; omega, by simp only [List.length_append, List.length_singleton]; show c1.sz + 1 ≤ _; omega, aw3⟩
              · rename_i hlt2
                refine dget_l (by assumption) (.tail _ (.tail _ (.tail _ (.head _)))) IL1 hfo ?_
                intro tq6
                walk_at "mineB"
                · have heq2 : x.1 + G.c x.2 (nbr x.2 bit) = l1 := by assumption
                  obtain ⟨wo, hwo⟩ := Option.ne_none_iff_exists'.mp (hR1.2.wkey _ _ hfo)
                  refine dgetItem_l (by assumption) (.tail _ (.tail _ (.head _))) IW1 hwo ?_
                  intro tq7
                  walk_at "mineB"
                  refine dget_l (by assumption) (.tail _ (.tail _ (.head _))) IW1 hW1 ?_
                  intro tq8
                  walk_at "mineB"
                  refine dset_l (by assumption) (by assumption) (up_w ap aw2) IW1 (by omega) ?_
                  intro h6 oW6 F6 N6 IW6
                  walk_at "mineB"
                  refine' fend (⟨c1.hv, c1.hn, c1.sv, c1.sn, oW6, c1.oL, oP2, c1.tl, ⟨c1.st.hs, c1.st.ss, seen G.P c1.st.fP (nbr x.2 bit), c1.st.fL, upd c1.st.fW (nbr x.2 bit) (wo + wm)⟩, c1.sz + 1⟩ : WSt) ?kF ?kN ?kn ?ko ?kof ?kk ?kr ?kp
                  case kF => assumption
                  case kN => assumption
                  case kn => intro q hq; exact List.mem_append_left own hq
                  case ko => intro q hq; exact List.mem_append_right (led5 hA sA dW dL dP (listOf c1.hv.toArray c1.hn) (listOf c1.sv.toArray c1.sn) oW6 c1.oL oP2 (c1.tl ++ news0)) hq
                  case kof => exact hoff
                  case kk => exact fun _ h => nomatch h
                  case kr =>
                    intro z h1z h2 h3
                    simp only [List.contains_cons, List.contains_nil, Bool.or_false, Bool.or_eq_false_iff, beq_eq_false_iff_ne, ne_eq] at h3
                    simp +zetaDelta [kstB, h3, h1z]
                  case kp => exact ⟨hDh1, hDs1, IW6, IL1.le (Nat.le_succ _), IP2.le hsz2, htk ▸ dj_relax ok hR1 hcost hwmW hbm hnp (.same (heq2 ▸ hfo) hwo), by simp only [upd, if_neg hne.symm]; exact hW1, hsM, hss1, by simp only [List.length_append, List.length_singleton]; show c1.st.hs.length ≤ _; omega, by simp only [List.length_append, List.length_singleton]; show c1.sz + 1 ≤ _; omega, aw1⟩
                · rename_i hne2
                  refine' fend (⟨c1.hv, c1.hn, c1.sv, c1.sn, c1.oW, c1.oL, oP2, c1.tl, ⟨c1.st.hs, c1.st.ss, seen G.P c1.st.fP (nbr x.2 bit), c1.st.fL, c1.st.fW⟩, c1.sz + 1⟩ : WSt) ?kF ?kN ?kn ?ko ?kof ?kk ?kr ?kp
                  case kF => assumption
                  case kN => assumption
                  case kn => intro q hq; exact List.mem_append_left own hq
                  case ko => intro q hq; exact List.mem_append_right (led5 hA sA dW dL dP (listOf c1.hv.toArray c1.hn) (listOf c1.sv.toArray c1.sn) c1.oW c1.oL oP2 (c1.tl ++ news0)) hq
                  case kof => exact hoff
                  case kk => exact fun _ h => nomatch h
                  case kr =>
                    intro z h1z h2 h3
                    simp only [List.contains_cons, List.contains_nil, Bool.or_false, Bool.or_eq_false_iff, beq_eq_false_iff_ne, ne_eq] at h3
                    simp +zetaDelta [kstB, h3, h1z]
                  case kp => exact ⟨hDh1, hDs1, IW1.le (Nat.le_succ _), IL1.le (Nat.le_succ _), IP2.le hsz2, htk ▸ dj_relax ok hR1 hcost hwmW hbm hnp (.more hfo (by unfold Gr.c iabs; omega)), hW1, hsM, hss1, by simp only [List.length_append, List.length_singleton]; show c1.st.hs.length ≤ _; omega, by simp only [List.length_append, List.length_singleton]; show c1.sz + 1 ≤ _; omega, aw1⟩
        · intro c1 u1 h1 tk1 hP F1 N1
          obtain ⟨hDh1, hDs1, IW1, IL1, IP1, hR1, hW1, hP1, hss1, hhl1, hsz1, aw1⟩ := hP
          clear FC NC
          have hss2 : c1.st.ss.length = c.st.ss.length + 1 := by rw [hss1]; simp
          have h9 : c.st.hs.length = hsi.length + 1 := by rw [hse]; simp
          have hm1 : meas G c1.st + 3 ≤ meas G c.st := by
            simp only [meas]
            omega
          walk_at "mineB"
          refine' ksw_end c1 ?kF ?kN ?kn ?kf ?kk ?kr ?kp ?km
          case kF => assumption
          case kN => assumption
          case kn => exact fun _ h => h
          case kf => trivial
          case kk => exact fun _ h => nomatch h
          case kr =>
            intro z h2 h3
            simp only [List.contains_cons, List.contains_nil, Bool.or_false, Bool.or_eq_false_iff, beq_eq_false_iff_ne, ne_eq] at h3
            simp +zetaDelta [kstB, h3]
          case kp => exact ⟨hDh1, hDs1, IW1, IL1, IP1, dj_done ok (by rw [hbl, List.take_length] at hR1; exact hR1), by omega, aw1⟩
          case km => show meas G c1.st < meas G c.st; omega
end Mine
end

section -- Figs
open PySem PySem.W PySem.Spec PySem.Calls PyProof.Rows
set_option maxHeartbeats 8000000
namespace Mine
variable {prog : Program} {w : World} {p : Program} {loose : List Str} {mean : ExcName → Option Value} {mg mb : Str → Option Value}
variable {prog : Program} {w : World} {p : Program} {loose : List Str} {mean : ExcName → Option Value} {mg mb : Str → Option Value}

section
variable {A : Around} {E : Value → Shared → Prop} {s : Shared} {h₀ : Heap} {L : Addr} {news : List (Addr × Obj)}
theorem titem_l {value slice : PySem.Expr} {t : Addr} {vs : List Value} {n : Nat} {ns : List Int} {k x : Int} {u : Tok} {Q : Value → Shared → Prop} (N : News h₀ L s.heap news) (hm : (t, tupO vs n) ∈ news) (I : IntsAre vs ns)
    (h0 : 0 ≤ k) (hx : ns[k.toNat]? = some x) (hfit : k < 2 ^ 63) (h : ∀ t', Q (.int x t') s)
    (hs : subscripted slice false (.ref t) (.int k u) = operate [.ref t, .int k u] (getItem (.ref t) (.int k u)) := by with_unfolding_all rfl) :
    wpAny (model prog w) A (subscriptTail value slice (.ref t) (.int k u)) Q E s := by
  obtain ⟨t', hx'⟩ := I.get k.toNat _ hx
  have hk := (List.getElem?_eq_some_iff.mp hx').1
  exact item_tupleT (j := k.toNat) (l := vs) ⟨_, N.get hm, rfl, n, rfl⟩ (by omega) hfit (seqIndex_of h0 (by omega)) hx' (h t') hs
end
noncomputable def IMid (X : Int) (s : Shared) (v : Value) (s' : Shared) : Prop := ∃ t tk, v = .int X t ∧ s' = { s with toks := tk }
theorem join_int {A : Around} {E : Value → Shared → Prop} {s : Shared} {e : Sem Value} {Q : Value → Shared → Prop} (X : Int) (h1 : wpAny (model prog w) A e (IMid X s) E s) (h2 : ∀ t tk, Q (.int X t) { s with toks := tk }) : wpAny (model prog w) A e Q E s :=
  wpAny_mono h1 (fun v s' h => by obtain ⟨t, tk, rfl, rfl⟩ := h; exact h2 t tk) (fun _ _ h => h)
theorem pw8 {i : Nat} (hi : i < 3) : 1 ≤ (8 : Int) ^ (2 - (i : Int)).toNat ∧ (8 : Int) ^ (2 - (i : Int)).toNat ≤ 64 := by
  obtain rfl | rfl | rfl : i = 0 ∨ i = 1 ∨ i = 2 := by omega
  all_goals decide
theorem pw2 {i : Nat} (hi : i < 3) : 1 ≤ (2 : Int) ^ (11 - (i : Int)).toNat ∧ (2 : Int) ^ (11 - (i : Int)).toNat ≤ 2048 := by
  obtain rfl | rfl | rfl : i = 0 ∨ i = 1 ∨ i = 2 := by omega
  all_goals decide
noncomputable def figD (mode : Int) (i : Nat) : Int := (mode.fdiv (8 ^ (2 - (i : Int)).toNat)).fmod 8
noncomputable def figE (mode : Int) (i : Nat) : Int := (mode.fdiv (2 ^ (11 - (i : Int)).toNat)).fmod 2
noncomputable def figR (ab : Int) (i : Nat) (k : Int) : Int := if k = 0 then ab else if k = 1 then 49 else if k = 2 then 18 + (i : Int).fdiv 2 else 44 + (i : Int).fdiv 2
noncomputable def fig3 (mode ab : Int) (i : Nat) : List Int :=
  [if 3 < figD mode i then 43 else ab, if ((figD mode i).fdiv 2).fmod 2 = 0 then ab else 48, figR ab i ((figD mode i).fmod 2 + 2 * figE mode i)]
noncomputable def figF (mode ab : Int) (k : Nat) : List Int := (List.range k).flatMap (fig3 mode ab)
theorem figF_succ (mode ab : Int) (k : Nat) : figF mode ab (k + 1) = figF mode ab k ++ fig3 mode ab k := by
  unfold figF
  rw [List.range_succ, List.flatMap_append]
  simp
theorem figF_len (mode ab : Int) (k : Nat) : (figF mode ab k).length = 3 * k := by
  induction k with
  | zero => rfl
  | succ k ih => rw [figF_succ, List.length_append, ih]; show 3 * k + 3 = _; omega
theorem figR_at (mode ab : Int) (i : Nat) : 0 ≤ (figD mode i).fmod 2 + 2 * figE mode i ∧ (figD mode i).fmod 2 + 2 * figE mode i < 2 ^ 63 ∧
    [ab, 49, 18 + (i : Int).fdiv 2, 44 + (i : Int).fdiv 2][((figD mode i).fmod 2 + 2 * figE mode i).toNat]? = some (figR ab i ((figD mode i).fmod 2 + 2 * figE mode i)) := by
  have a1 : 0 ≤ (figD mode i).fmod 2 := Int.fmod_nonneg_of_pos _ (by decide)
  have a2 : (figD mode i).fmod 2 < 2 := Int.fmod_lt_of_pos _ (by decide)
  have b1 : 0 ≤ figE mode i := Int.fmod_nonneg_of_pos _ (by decide)
  have b2 : figE mode i < 2 := Int.fmod_lt_of_pos _ (by decide)
  have c1 : 0 ≤ (figD mode i).fmod 2 + 2 * figE mode i := by omega
  have c2 : (figD mode i).fmod 2 + 2 * figE mode i < 4 := by omega
  refine ⟨c1, by omega, ?_⟩
  generalize (figD mode i).fmod 2 + 2 * figE mode i = k at *
  obtain rfl | rfl | rfl | rfl : k = 0 ∨ k = 1 ∨ k = 2 ∨ k = 3 := by omega
  all_goals rfl
structure FgSt where
  vs : List Value
  n : Nat
theorem figures_spec (mode ab : Int) (tm ta : Tok) (news : List (Addr × Obj)) : Spec prog w p loose mean mg mb 182 [.int mode tm, .int ab ta] 2 news (fun r news' => ∃ D vs n, r = .ref D ∧ IntsAre vs (figF mode ab 3) ∧ news' = (D, listOf vs.toArray n) :: news ∧ ∀ q ∈ news, q.1 ≠ D) := by
  refine fill_at ?_
  k_fill
  unfold Filled Spec
  intro dp un gd cn cs a ccd cl outer A₀ base h₀ L m s Q E B F X N T hk hd hu hret
  refine wpAny_call ?_
  k_dflt ktr_enter
  rename_i g' L' h' FG' F' N' B' X' T'
  replace F' : Fr g' L' h' (fun y => List.lookup y [(Str.ofString "absent", .int ab ta), (Str.ofString "mode", .int mode tm)]) := F'
  walk_at "mine"
  refine list_l (by assumption) (by assumption) (by decide) ?_
  intro bA h1 F1 N1 hlt
  clear F' N'
  have hoff0 : ∀ q ∈ news, q.1 ≠ bA := fun q hq => Nat.ne_of_lt (hlt q hq)
  walk_at "mine"
  refine' For_invVF (by assumption) ?k1 ?k2 ?_
  case k1 => exact rfl
  case k2 => exact rfl
  walk_at "mine"
  refine' range_l (by assumption) (by assumption) ?_
  intro ra h3 tk3 t₀ u₀ v₀ F3 N3 hr3

  walk_at "mine"
  refine' for_range (n := 3) (fun c : FgSt => (bA, listOf c.vs.toArray c.n) :: news) (fun _ => []) [Str.ofString "digit", Str.ofString "extra"] (fun i c => IntsAre c.vs (figF mode ab i)) ⟨[], 0⟩ rfl (fun _ => rfl) hr3 (by omega) F3 N3 (fun _ h => nomatch h) .nil ?_ ?_
  · intro c i t u h tk own hi hoff hP F2 N2
    clear F3 N3
    have hoffB : ∀ q ∈ news ++ own, q.1 ≠ bA := by
      intro q hq
      rcases List.mem_append.mp hq with hq | hq
      · exact hoff0 q hq
      · exact hoff q hq _ (.head _)
    replace N2 : News g' L' h ((bA, listOf c.vs.toArray c.n) :: (news ++ own)) := N2
    have hvl := hP.length
    have hfl := figF_len mode ab i
    obtain ⟨p8a, p8b⟩ := pw8 hi
    obtain ⟨p2a, p2b⟩ := pw2 hi
    walk_at "mine"
    refine' join_int (if 3 < figD mode i then 43 else ab) ?_ ?_
    · refine' IfExp_ ?_
      walk_at "mine"
      · rename_i hc
        exact ⟨_, _, congrArg (fun k => Value.int k _) (if_pos (by unfold figD; omega)).symm, rfl⟩
      · rename_i hc
        exact ⟨_, _, congrArg (fun k => Value.int k _) (if_neg (by unfold figD; omega)).symm, rfl⟩
    · intro t1 tk1
      walk_at "mine"
      refine app_l (by assumption) (by assumption) hoffB (by omega) ?_
      intro h5 F5 N5
      walk_at "mine"
      refine' join_int (if ((figD mode i).fdiv 2).fmod 2 = 0 then ab else 48) ?_ ?_
      · refine' IfExp_ ?_
        walk_at "mine"
        · rename_i hc
          exact ⟨_, _, congrArg (fun k => Value.int k _) (if_neg (by unfold figD; exact hc)).symm, rfl⟩
        · rename_i hc
          exact ⟨_, _, congrArg (fun k => Value.int k _) (if_pos (by unfold figD; exact hc)).symm, rfl⟩
      · intro t2 tk2
        walk_at "mine"
        refine app_l (by assumption) (by assumption) hoffB (by rw [List.length_append]; simp; omega) ?_
        intro h6 F6 N6
        walk_at "mine"
        refine tup_l (by assumption) (by assumption) (by show (4 : Nat) ≤ 16; decide) ?_
        intro tA h7 F7 N7 hlt7
        walk_at "mine"
        refine mul_int ?_ (IntMulOk.of_left (by decide))
        walk_at "mine"
        obtain ⟨k0, k1, kx⟩ := figR_at mode ab i
        unfold figD figE at k0 k1 kx
        refine titem_l (by assumption) (.head _) (.cons ab _ (.cons 49 _ (.cons (18 + (i : Int).fdiv 2) _ (.cons (44 + (i : Int).fdiv 2) _ .nil)))) k0 kx k1 ?_
        intro t9
        walk_at "mine"
        (rename Fr _ _ _ _ => F9)
        (rename News _ _ _ _ => N9)
        refine app_l F9 (news_sub N9 (fun q hq => .tail _ hq)) hoffB (by simp; omega) ?_
        intro h10 F10 N10
        clear F9 N9
        walk_at "mine"
        refine' fend (⟨((c.vs ++ [_]) ++ [_]) ++ [_], c.n + 1 + 1 + 1⟩ : FgSt) ?kF ?kN ?kn ?ko ?kof ?kk ?kr ?kp
        case kF => assumption
        case kN => assumption
        case kn => intro q hq; exact List.mem_append_left own hq
        case ko => intro q hq; exact .tail _ (List.mem_append_right _ hq)
        case kof => exact hoff
        case kk => intro q hq; nomatch hq
        case kr =>
          intro z h1z h2 h3
          simp +zetaDelta [kstB, h1z] at h3 ⊢
          simp [h3]
        case kp =>
          show IntsAre _ (figF mode ab (i + 1))
          rw [figF_succ]
          rw [List.append_assoc, List.append_assoc]
          exact hP.append (.cons _ _ (.cons _ _ (.cons _ _ .nil)))
  · intro c u h tk hP F2 N2
    clear F3 N3
    walk_at "mine"
    exact hret _ _ _ _ (by assumption) (by assumption) ⟨bA, c.vs, c.n, rfl, hP, rfl, hoff0⟩
end Mine
end

section -- Ways
open PySem PySem.W PySem.Spec PySem.Calls PyProof.Rows
set_option maxHeartbeats 8000000
namespace Mine
variable {prog : Program} {w : World} {p : Program} {loose : List Str} {mean : ExcName → Option Value} {mg mb : Str → Option Value}

structure PSt where
  pl : Addr
  vs : List Value
  n : Nat
  ps : List (Int × Int)
  tl : List (Addr × Obj)
  oc : Obj
noncomputable abbrev PLed (cA : Addr) (nw : List (Addr × Obj)) (c : PSt) : List (Addr × Obj) := (c.pl, listOf c.vs.toArray c.n) :: (cA, c.oc) :: (c.tl ++ nw)
structure POk (cA : Addr) (nw : List (Addr × Obj)) (c : PSt) : Prop where
  dat : DatAll c.tl c.vs (c.ps.map pd)
  cell : ∃ v₀, c.oc.data = .cell v₀
  a1 : c.pl ≠ cA
  a2 : ∀ p ∈ c.tl, p.1 ≠ cA
  a3 : ∀ q ∈ nw, q.1 ≠ cA ∧ q.1 ≠ c.pl ∧ ∀ p ∈ c.tl, p.1 ≠ q.1
theorem ints1 {a : Int} {t : Tok} (h : 0 ≤ a) : IntsAre [Value.int a t] ([a.toNat].map Int.ofNat) := by
  rw [show ([a.toNat].map Int.ofNat) = [a] by simp; omega]
  exact .cons _ _ .nil
theorem chC_nn (t : Int) (i : Nat) : 0 ≤ chC t i := by
  have h3 := fm2 (t.fdiv (runI i))
  have h4 := fm2 (t.fdiv (extI i))
  unfold chC; omega
theorem longB_tt {start t : Int} {bits : List Int} {i : Nat} (h1 : Builtin.bitAnd t (extI i) ≠ 0) (h2 : Builtin.bitAnd t (runI i) = 0) (h3 : Builtin.bitAnd start (runI i) = 0) (h4 : runI i ∈ bits) : longB start t bits i = true := by simp [longB, *]
theorem longB_f1 {start t : Int} {bits : List Int} {i : Nat} (h : Builtin.bitAnd t (extI i) = 0) : longB start t bits i = false := by simp [longB, *]
theorem longB_f2 {start t : Int} {bits : List Int} {i : Nat} (h : Builtin.bitAnd t (runI i) ≠ 0) : longB start t bits i = false := by simp [longB, *]
theorem longB_f3 {start t : Int} {bits : List Int} {i : Nat} (h : Builtin.bitAnd start (runI i) ≠ 0) : longB start t bits i = false := by simp [longB, *]
theorem longB_f4 {start t : Int} {bits : List Int} {i : Nat} (h : runI i ∉ bits) : longB start t bits i = false := by simp [longB, *]
theorem ways_spec (start mode : Int) (ts tm : Tok) (bA : Addr) (bvs : List Value) (bn : Nat) (bits : List Int) (news : List (Addr × Obj)) (hbA : (bA, listOf bvs.toArray bn) ∈ news) (I : IntsAre bvs bits) : Spec prog w p loose mean mg mb 201 [.int start ts, .int mode tm, .ref bA] 4 news (fun r news' => (∃ t', r = .int (waysF start mode bits) t') ∧ news' = news) := by
  refine fill_at ?_
  k_fill
  unfold Filled Spec
  intro dp un gd cn cs a ccd cl outer A₀ base h₀ L m s Q E B F X N T hk hd hu hret
  refine wpAny_call ?_
  k_dflt (refine' code_defC ?k1 ?k2 ?k3 ?k4 ?k5 ?kA ?kF ?kK ?k6 ?k7 ?k8 ?k9 ?kB ?kD ?_ ?c2 ?c3 ?c4; (case kA => exact rfl); (case kF => exact rfl); (case kK => assumption); (case k1 => k_asm); (case k2 => k_asm); (case k3 => k_asm); (case k4 => k_asm); (case k5 => k_asm); (case k6 => k_is); (case k7 => k_is); (case k8 => ktr_room); (case k9 => exact BindsTo.of_eq rfl); (case kB => exact rfl); (case kD => decide +kernel); (case c2 => exact rfl); (case c3 => exact rfl); (case c4 => exact rfl); k_whole; intro g' L' h' tk' cells' FG' F' N' Y' B' X' T' l1; k_cells Y'; (try simp only [List.cons_append, List.nil_append] at N'); (try dsimp only); (try k_fold))
  rename_i oc0 d1
  replace F' : Fr g' L' h' (fun y => if y = Str.ofString "bits" then some (.ref bA) else if y = Str.ofString "mode" then some (.int mode tm) else if y = Str.ofString "start" then some (.int start ts) else none) := by with_unfolding_all exact F'
  replace d1 : oc0.data = .cell none := by with_unfolding_all exact d1
  walk_at "mine"
  refine tup_l (by assumption) (by assumption) (Nat.le_of_ble_eq_true rfl) ?_
  intro tA h1 F1 N1 hlt1
  have hZz : ∃ z0 z1, News g' L' h1 ((tA, tupO [Value.int 0 z0, Value.int 1 z1] 0) :: (L' + 1, oc0) :: news) := ⟨_, _, N1⟩
  obtain ⟨z0, z1, N1'⟩ := hZz
  clear N1
  walk_at "mine"
  refine list_l (by assumption) (by assumption) (Nat.le_of_ble_eq_true rfl) ?_
  intro plA h2 F2 N2 hlt2
  clear F1 N1'
  walk_at "mine"
  refine For_T (h₀ := g') ?_
  walk_at "mine"
  refine' range_l (by assumption) (by assumption) ?_
  intro ra h3 tk3 t₀ u₀ v₀ F3 N3 hr3
  walk_at "mine"
  refine' iter_range (n := 3) (x := Str.ofString "place") (PLed (L' + 1) news) (fun c : PSt => [(Str.ofString "plans", .ref c.pl)]) [Str.ofString "run", Str.ofString "extra", Str.ofString "choices", Str.ofString "sizes"]
    (fun i c => POk (L' + 1) news c ∧ c.ps = plF start (Builtin.bitXor start mode) bits i) ⟨plA, [.ref tA], 0, [(0, 1)], [(tA, tupO [Value.int 0 z0, Value.int 1 z1] 0)], oc0⟩ rfl hr3 (by decide) F3 ?N3 ?kk ?kp ?turn ?done
  case N3 =>
    refine news_sub N3 fun q hq => ?_
    simp only [List.mem_cons, List.mem_append, List.not_mem_nil, or_false, List.cons_append, List.nil_append] at hq ⊢
    rcases hq with rfl | rfl | rfl | hq <;> simp_all
  case kk =>
    intro q hq
    rw [List.mem_singleton.mp hq]
    rfl
  case kp =>
    have q1 := hlt1 _ (.head _)
    refine ⟨⟨.cons (.tuple (.head _) (.cons (.int _ _) (.cons (.int _ _) .nil))) .nil, ⟨_, d1⟩, ?_, ?_, ?_⟩, rfl⟩
    · exact Nat.ne_of_gt (hlt2 (L' + 1, oc0) (.tail _ (.head _)))
    · intro q hq
      rw [List.mem_singleton.mp hq]
      exact Nat.ne_of_gt q1
    · intro q hq
      refine ⟨?_, Nat.ne_of_lt (hlt2 q (.tail _ (.tail _ hq))), fun r hr => ?_⟩
      · exact Nat.ne_of_lt (Nat.lt_succ_of_lt (l1 q hq))
      · rw [List.mem_singleton.mp hr]
        exact Nat.ne_of_gt (hlt1 q (.tail _ hq))
  case turn =>
    intro i t c u h tk own hi hP hoff F4 N4
    clear F3 N3
    obtain ⟨ok, hps⟩ := hP
    obtain ⟨p8a, p8b⟩ := pw8 hi
    obtain ⟨p2a, p2b⟩ := pw2 hi
    have hbd := plF_bd start (Builtin.bitXor start mode) bits i
    rw [← hps] at hbd
    walk_at "mineI"
    refine mul_int ?_ (IntMulOk.of_left (by decide))
    walk_at "mineI"
    refine list_l (by assumption) (by assumption) (Nat.le_of_ble_eq_true rfl) ?_
    intro x1 h5 F5 N5 hlt5
    walk_at "mineI"
    refine mul_int ?_ (IntMulOk.of_left (by decide))
    walk_at "mineI"
    refine list_l (by assumption) (by assumption) (Nat.le_of_ble_eq_true rfl) ?_
    intro x2 h6 F6 N6 hlt6
    walk_at "mineI"
    refine list_l (by assumption) (by assumption) (Nat.le_of_ble_eq_true rfl) ?_
    intro cA h7 F7 N7 hlt7
    walk_at "mineI"
    (rename Fr _ _ _ _ => F8)
    (rename News _ _ _ _ => N8)
    have hZz : ∃ mm, Fr g' L' _ mm ∧ mm = _ := ⟨_, F8, rfl⟩
    obtain ⟨mm, F8', hmm⟩ := hZz
    have hZz : ∃ t2 t1, News g' L' _ ((cA, listOf [Value.ref x1, Value.ref x2].toArray 0) :: (x2, listOf [Value.int (chB (Builtin.bitXor start mode) i) t2].toArray 0) :: (x1, listOf [Value.int (chA (Builtin.bitXor start mode) i) t1].toArray 0) :: (PLed (L' + 1) news c ++ own)) := ⟨_, _, N8⟩
    obtain ⟨t2, t1, N8'⟩ := hZz
    have hoffC : ∀ p ∈ (x2, listOf [Value.int (chB (Builtin.bitXor start mode) i) t2].toArray 0) :: (x1, listOf [Value.int (chA (Builtin.bitXor start mode) i) t1].toArray 0) :: (PLed (L' + 1) news c ++ own), p.1 ≠ cA := by
      intro p hp
      rcases List.mem_cons.mp hp with rfl | hp
      · have e := hlt7 (x2, _) (.head _)
        exact Nat.ne_of_lt e
      rcases List.mem_cons.mp hp with rfl | hp
      · have e := hlt7 (x1, _) (.tail _ (.head _))
        exact Nat.ne_of_lt e
      · exact Nat.ne_of_lt (hlt7 _ (.tail _ (.tail _ hp)))
    clear F4 N4 N8
    refine wpAny_mono (Q := Mid (fun h9 => ∃ (x3 : Addr) (v3 : List Value), IntsAre v3 ((if longB start (Builtin.bitXor start mode) bits i = true then [1, 3] else [(chC (Builtin.bitXor start mode) i).toNat]).map Int.ofNat) ∧ Fr g' L' h9 mm ∧
      (∀ q ∈ PLed (L' + 1) news c ++ own, q.1 < x3) ∧
      News g' L' h9 ((x3, listOf v3.toArray 0) :: (cA, listOf [Value.ref x1, Value.ref x2, Value.ref x3].toArray 1) :: (x2, listOf [Value.int (chB (Builtin.bitXor start mode) i) t2].toArray 0) :: (x1, listOf [Value.int (chA (Builtin.bitXor start mode) i) t1].toArray 0) :: (PLed (L' + 1) news c ++ own))) s) ?_ ?_ (fun _ _ h => h)
    · clear F8'
      walk_at "mine"
      rotate_left 2
      · refine in_l (by assumption) (.tail _ (.tail _ (.tail _ (List.mem_append_left _ (.tail _ (.tail _ (List.mem_append_right _ hbA))))))) I ?_
        by_cases hin : (8 : Int) ^ (2 - (i : Int)).toNat ∈ bits
        · have hlong : longB start (Builtin.bitXor start mode) bits i = true := longB_tt (by assumption) (by assumption) (by assumption) hin
          rw [decide_eq_true hin]
          walk_at "mine"
          refine list_l (by assumption) N8' (Nat.le_of_ble_eq_true rfl) ?_
          intro x3 h10 F10 N10 hlt10
          walk_at "mine"
          refine app_u (vs := [Value.ref x1, Value.ref x2]) (by assumption) N10 (.tail (Nat.ne_of_gt (hlt10 _ (.head _))) (.head hoffC)) (Nat.lt_of_lt_of_le (Nat.lt_succ_self _) (by simp)) ?_
          intro h11 F11 N11
          walk_at "mine"
          exact ⟨rfl, _, _, rfl, x3, _, by rw [hlong]; exact (.cons 1 _ (.cons 3 _ .nil)), by rw [hmm]; exact F11, fun q hq => hlt10 q (.tail _ (.tail _ (.tail _ hq))), N11⟩
        · have hlong : longB start (Builtin.bitXor start mode) bits i = false := longB_f4 hin
          rw [decide_eq_false hin]
          walk_at "mine"
          refine list_l (by assumption) N8' (Nat.le_of_ble_eq_true rfl) ?_
          intro x3 h10 F10 N10 hlt10
          walk_at "mine"
          refine app_u (vs := [Value.ref x1, Value.ref x2]) (by assumption) N10 (.tail (Nat.ne_of_gt (hlt10 _ (.head _))) (.head hoffC)) (Nat.lt_of_lt_of_le (Nat.lt_succ_self _) (by simp)) ?_
          intro h11 F11 N11
          walk_at "mine"
          exact ⟨rfl, _, _, rfl, x3, _, by rw [hlong]; exact (ints1 (chC_nn _ _)), by rw [hmm]; exact F11, fun q hq => hlt10 q (.tail _ (.tail _ (.tail _ hq))), N11⟩
      · have hlong : longB start (Builtin.bitXor start mode) bits i = false := by first | exact longB_f1 (by assumption) | exact longB_f2 (by assumption) | exact longB_f3 (by assumption)
        refine list_l (by assumption) N8' (Nat.le_of_ble_eq_true rfl) ?_
        intro x3 h10 F10 N10 hlt10
        walk_at "mine"
        refine app_u (vs := [Value.ref x1, Value.ref x2]) (by assumption) N10 (.tail (Nat.ne_of_gt (hlt10 _ (.head _))) (.head hoffC)) (Nat.lt_of_lt_of_le (Nat.lt_succ_self _) (by simp)) ?_
        intro h11 F11 N11
        walk_at "mine"
        exact ⟨rfl, _, _, rfl, x3, _, by rw [hlong]; exact (ints1 (chC_nn _ _)), by rw [hmm]; exact F11, fun q hq => hlt10 q (.tail _ (.tail _ (.tail _ hq))), N11⟩
      · have hlong : longB start (Builtin.bitXor start mode) bits i = false := by first | exact longB_f1 (by assumption) | exact longB_f2 (by assumption) | exact longB_f3 (by assumption)
        refine list_l (by assumption) N8' (Nat.le_of_ble_eq_true rfl) ?_
        intro x3 h10 F10 N10 hlt10
        walk_at "mine"
        refine app_u (vs := [Value.ref x1, Value.ref x2]) (by assumption) N10 (.tail (Nat.ne_of_gt (hlt10 _ (.head _))) (.head hoffC)) (Nat.lt_of_lt_of_le (Nat.lt_succ_self _) (by simp)) ?_
        intro h11 F11 N11
        walk_at "mine"
        exact ⟨rfl, _, _, rfl, x3, _, by rw [hlong]; exact (ints1 (chC_nn _ _)), by rw [hmm]; exact F11, fun q hq => hlt10 q (.tail _ (.tail _ (.tail _ hq))), N11⟩
      · have hlong : longB start (Builtin.bitXor start mode) bits i = false := by first | exact longB_f1 (by assumption) | exact longB_f2 (by assumption) | exact longB_f3 (by assumption)
        refine list_l (by assumption) N8' (Nat.le_of_ble_eq_true rfl) ?_
        intro x3 h10 F10 N10 hlt10
        walk_at "mine"
        refine app_u (vs := [Value.ref x1, Value.ref x2]) (by assumption) N10 (.tail (Nat.ne_of_gt (hlt10 _ (.head _))) (.head hoffC)) (Nat.lt_of_lt_of_le (Nat.lt_succ_self _) (by simp)) ?_
        intro h11 F11 N11
        walk_at "mine"
        exact ⟨rfl, _, _, rfl, x3, _, by rw [hlong]; exact (ints1 (chC_nn _ _)), by rw [hmm]; exact F11, fun q hq => hlt10 q (.tail _ (.tail _ (.tail _ hq))), N11⟩
    · rintro f s2 ⟨rfl, h9, tk9, rfl, x3, v3, I3, F9, hlt9, N9⟩
      subst hmm
      clear F8 F8' N8'
      walk_at "mine"
      have hZz : ∃ szs, szs = choF start (Builtin.bitXor start mode) bits i := ⟨_, rfl⟩
      obtain ⟨szs, hszs⟩ := hZz
      have hZz : ∃ chN, chN = (x3, listOf v3.toArray 0) :: (cA, listOf [Value.ref x1, Value.ref x2, Value.ref x3].toArray 1) :: (x2, listOf [Value.int (chB (Builtin.bitXor start mode) i) t2].toArray 0) :: (x1, listOf [Value.int (chA (Builtin.bitXor start mode) i) t1].toArray 0) :: (own ++ news) := ⟨_, rfl⟩
      obtain ⟨chN, hchN⟩ := hZz
      have hch : ∀ (j : Nat) (v : Value), [Value.ref x1, Value.ref x2, Value.ref x3][j]? = some v → ∃ (xa : Addr) (sv : List Value) (sn : Nat) (sz : List Nat), v = .ref xa ∧ (xa, listOf sv.toArray sn) ∈ chN ∧ szs[j]? = some sz ∧ IntsAre sv (sz.map Int.ofNat) ∧ SzOk sz := by
        intro j v hv
        have hj : j < 3 := (List.getElem?_eq_some_iff.mp hv).1
        have ok := choF_ok start (Builtin.bitXor start mode) bits i
        rw [hszs, hchN]
        have e1 := fm2 ((Builtin.bitXor start mode).fdiv (4 * runI i))
        have e2 := fm2 ((Builtin.bitXor start mode).fdiv (2 * runI i))
        obtain rfl | rfl | rfl : j = 0 ∨ j = 1 ∨ j = 2 := by omega
        · cases hv
          exact ⟨x1, _, 0, _, rfl, .tail _ (.tail _ (.tail _ (.head _))), rfl, ints1 (by unfold chA; omega), ok _ (.head _)⟩
        · cases hv
          exact ⟨x2, _, 0, _, rfl, .tail _ (.tail _ (.head _)), rfl, ints1 (by unfold chB; omega), ok _ (.tail _ (.head _))⟩
        · cases hv
          exact ⟨x3, v3, 0, _, rfl, .head _, rfl, I3, ok _ (.tail _ (.tail _ (.head _)))⟩
      have hsl : szs.length = 3 := by rw [hszs]; rfl
      refine For_T (h₀ := g') ?_
      walk_at "mine"
      refine' iter_list (x := Str.ofString "sizes") (l := cA) (vs := [Value.ref x1, Value.ref x2, Value.ref x3]) (nn := 1) (PLed (L' + 1) chN) (fun c : PSt => [(Str.ofString "plans", Value.ref c.pl)]) []
        (fun j c' => POk (L' + 1) chN c' ∧ c'.ps = (szs.take j).foldl plStep c.ps) c rfl ?ihl F9 ?iN ?ik ?ip ?iturn ?idone
      case ihl =>
        intro c'
        rw [hchN]
        exact .tail _ (.tail _ (List.mem_append_right _ (.tail _ (.head _))))
      case iN =>
        refine news_sub N9 fun q hq => ?_
        rw [hchN] at hq
        simp only [List.mem_cons, List.mem_append, List.cons_append] at hq ⊢
        rcases hq with hq | hq | hq | hq | hq | hq | hq | hq | hq <;> simp [hq]
      case ik =>
        intro q hq
        rw [List.mem_singleton.mp hq]
        rfl
      case ip =>
        refine ⟨⟨ok.dat, ok.cell, ok.a1, ok.a2, ?_⟩, by simp⟩
        intro q hq
        rw [hchN] at hq
        have hle : ∀ a : Addr, (∀ q ∈ PLed (L' + 1) news c ++ own, q.1 < a) → a ≠ L' + 1 ∧ a ≠ c.pl ∧ ∀ r ∈ c.tl, r.1 ≠ a := fun a ha => ⟨Nat.ne_of_gt (ha (L' + 1, c.oc) (.tail _ (.head _))), Nat.ne_of_gt (ha (c.pl, _) (.head _)), fun r hr => Nat.ne_of_lt (ha r (.tail _ (.tail _ (List.mem_append_left _ (List.mem_append_left _ hr)))))⟩
        simp only [List.mem_cons] at hq
        rcases hq with rfl | rfl | rfl | rfl | hq
        · exact hle _ hlt9
        · exact hle _ fun r hr => hlt7 r (.tail _ (.tail _ hr))
        · exact hle _ fun r hr => hlt6 r (.tail _ hr)
        · exact hle _ fun r hr => hlt5 r hr
        · rcases List.mem_append.mp hq with hq | hq
          · exact ⟨hoff q hq _ (.tail _ (.head _)), hoff q hq _ (.head _), fun r hr => (hoff q hq r.1 (List.mem_map.mpr ⟨r, .tail _ (.tail _ (List.mem_append_left _ hr)), rfl⟩)).symm⟩
          · exact ok.a3 q hq
      case iturn =>
        intro j v c' u' h12 tk12 own2 hj hv hP2 hoff2 F12 N12
        obtain ⟨xa, sv, sn, sz, rfl, hxa, hsz, Isz, Osz⟩ := hch j v hv
        obtain ⟨ok2, hps2⟩ := hP2
        obtain ⟨v0, hv0⟩ := ok2.cell
        have hj3 : j < 3 := hj
        have hb2 : Bd (3 * i + j) c'.ps := by rw [hps2, hszs, hps]; exact take_bd j (Nat.le_of_lt hj3)
        have hb3 := plStep_bd hb2 Osz
        have hbl : (plStep c'.ps sz).length ≤ 512 := Nat.le_trans hb3.1 (Nat.le_trans (Nat.pow_le_pow_right (by decide) (show 3 * i + j + 1 ≤ 9 by omega)) (by decide))
        have N13 : News g' L' h12 ((c'.pl, listOf c'.vs.toArray c'.n) :: (L' + 1, c'.oc) :: ((c'.tl ++ chN) ++ own2)) := N12
        have offc : ∀ q ∈ (c'.tl ++ chN) ++ own2, q.1 ≠ L' + 1 := by
          intro q hq
          rcases List.mem_append.mp hq with hq | hq
          · rcases List.mem_append.mp hq with hq | hq
            · exact ok2.a2 q hq
            · exact (ok2.a3 q hq).1
          · exact hoff2 q hq _ (.tail _ (.head _))
        clear N12
        walk_at "mine"
        refine' storeX_C (g := fun o => (c'.pl, listOf c'.vs.toArray c'.n) :: (L' + 1, o) :: ((c'.tl ++ chN) ++ own2)) (by assumption) N13 rfl (.tail ok2.a1 (.head offc)) hv0 ?_
        intro h14 o14 F14 N14 hd14
        clear N13 F12
        walk_at "mine"
        have hZz : ∃ nw, nw = (c'.pl, listOf c'.vs.toArray c'.n) :: (L' + 1, o14) :: ((c'.tl ++ chN) ++ own2) := ⟨_, rfl⟩
        obtain ⟨nw, hnw⟩ := hZz
        (rename News _ _ _ _ => N15)
        (rename Fr _ _ _ _ => F15)
        rw [← hnw] at N15
        refine' Assign_comp2 (pl := c'.pl) (sl := xa) (pvs := c'.vs) (svs := sv) (pn := c'.n) (sn := sn) (news0 := nw) (fun k ys tl => DatAll tl ys (((plStep c'.ps sz).take k).map pd) ∧ k ≤ (plStep c'.ps sz).length ∧ (∀ p ∈ tl, ∀ q ∈ nw, p.1 ≠ q.1)) rfl (by with_unfolding_all rfl) (by with_unfolding_all rfl) (by decide) (by rfl) (by decide) (by rfl) (by rfl) (by rfl) (by decide) (by decide) (by decide) (by rfl) (by rfl) ?ahev ?ahpl ?ahsl ?ahtup F15 N15 ?ahi1 ?ahJ ?ahsz ?ahelt ?afin
        case ahev =>
          intro Q' hQ
          walk_at "mine"
          exact hQ
        case ahpl => rw [hnw]; exact .head _
        case ahsl => rw [hnw]; exact .tail _ (.tail _ (List.mem_append_left _ (List.mem_append_right _ hxa)))
        case ahtup =>
          intro v9 hv9
          obtain ⟨k9, hk9⟩ := List.mem_iff_getElem?.mp hv9
          have hkl : k9 < (c'.ps.map pd).length := by rw [← ok2.dat.length]; exact (List.getElem?_eq_some_iff.mp hk9).1
          obtain ⟨v8, e8, d8⟩ := ok2.dat.get hkl
          rw [hk9] at e8
          cases e8
          rw [List.getElem_map] at d8
          obtain ⟨a9, t9, u9, n9, rfl, hm9⟩ := pd_ref d8
          exact ⟨a9, _, _, n9, rfl, by rw [hnw]; exact .tail _ (.tail _ (List.mem_append_left _ (List.mem_append_left _ hm9)))⟩
        case ahi1 =>
          intro C h tk Q' E' N9 hQ
          have hcm : (L' + 1, o14) ∈ nw := by rw [hnw]; exact .tail _ (.head _)
          walk_at "mine"
          exact hQ
        case ahJ => exact ⟨.nil, Nat.zero_le _, fun q hq => nomatch hq⟩
        case ahsz =>
          rintro k ys tl ⟨hD, hk, _⟩
          have := hD.length
          rw [List.length_map, List.length_take] at this
          omega
        case ahelt =>
          intro i2 j2 tt w1 w2 nt w3 ys tl I1 o1 I2 o2 C oC D m2 h tk E' hpv htt hsv hJ hoC hm1 hm2 hm3 F16 N16 off16
          obtain ⟨hD, hk2, hap⟩ := hJ
          have hkl : i2 < (c'.ps.map pd).length := by rw [← ok2.dat.length]; exact (List.getElem?_eq_some_iff.mp hpv).1
          obtain ⟨v8, e8, d8⟩ := ok2.dat.get hkl
          rw [hpv] at e8
          cases e8
          rw [List.getElem_map] at d8
          obtain ⟨a9, t9, u9, n9, e9, hm9⟩ := pd_ref d8
          cases e9
          have hi2 : i2 < c'.ps.length := by rw [List.length_map] at hkl; exact hkl
          have hp2 : c'.ps[i2]? = some c'.ps[i2] := List.getElem?_eq_getElem hi2
          generalize c'.ps[i2] = pp at *
          have hppb := hb2.2 pp (List.mem_of_getElem? hp2)
          have htt2 : (tt, tupO [Value.int pp.1 t9, Value.int pp.2 u9] n9) ∈ nw := by rw [hnw]; exact .tail _ (.tail _ (List.mem_append_left _ (List.mem_append_left _ hm9)))
          have z1 := (N16 _ (List.mem_append_right _ (List.mem_append_right _ htt))).1
          have z2 := (N16 _ (List.mem_append_right _ (List.mem_append_right _ htt2))).1
          rw [z1] at z2
          cases z2
          have hj2 : j2 < sz.length := by have := Isz.length; rw [List.length_map] at this; rw [← this]; exact (List.getElem?_eq_some_iff.mp hsv).1
          have hs2 : sz[j2]? = some sz[j2] := List.getElem?_eq_getElem hj2
          generalize sz[j2] = nn at *
          have hnn := Osz.2 nn (List.mem_of_getElem? hs2)
          obtain ⟨t8, ht8⟩ := Isz.get j2 (nn : Int) (by rw [List.getElem?_map, hs2]; rfl)
          rw [hsv] at ht8
          cases ht8
          have hget := plStep_get hp2 hs2
          have hsvl : sv.length = sz.length := by rw [Isz.length, List.length_map]
          rw [hsvl] at hD hk2 ⊢
          walk_at "mine"
          refine' Spec.use (mixed_spec pp.1 nn _ _ _ hppb.1 (by omega) hnn) ?sB ?sF ?sX ?sN ?sT ?sK ?sD ?sU ?_
          walk_at "use"
          case sD => show dp + 1 + 1 < recursionLimit; omega
          case sU => show un + 3 + 40 * 1 < cLine; omega
          rintro r news' h17 tk17 F17 N17 ⟨⟨t17, rfl⟩, rfl⟩
          have hms := mix_small hppb.1 (show pp.1 < 1000 by omega) hnn
          walk_at "mine"
          refine mul_int ?_ (IntMulOk.of_right (intBits_le_64 (by omega) (by omega)))
          walk_at "mine"
          refine tup_l (by assumption) (by assumption) (Nat.le_of_ble_eq_true rfl) ?_
          intro a18 h18 F18 N18 hlt18
          have hZz : ∃ k1 k2, News g' L' h18 ((a18, tupO [Value.int (pp.1 + (nn : Int)) k1, Value.int (pp.2 * mixF pp.1 nn) k2] 0) :: _) := ⟨_, _, N18⟩
          obtain ⟨k1, k2, N18'⟩ := hZz
          refine ⟨h18, _, (a18, tupO [Value.int (pp.1 + (nn : Int)) k1, Value.int (pp.2 * mixF pp.1 nn) k2] 0) :: tl, rfl, F18, ?_, ?_, ?_, ?_, ?_⟩
          · refine news_sub N18' fun q hq => ?_
            rcases List.mem_append.mp hq with hq | hq
            · exact .tail _ (List.mem_append_left _ hq)
            · rcases List.mem_cons.mp hq with rfl | hq
              · exact .head _
              · exact .tail _ (List.mem_append_right _ hq)
          · intro q hq r hr
            rcases List.mem_cons.mp hq with rfl | hq
            · exact Nat.ne_of_gt (hlt18 r (List.mem_append_left _ hr))
            · exact off16 q hq r hr
          · rw [show (plStep c'.ps sz).take (i2 * sz.length + j2 + 1) = (plStep c'.ps sz).take (i2 * sz.length + j2) ++ [(pp.1 + (nn : Int), pp.2 * mixF pp.1 nn)] by rw [List.take_add_one, hget]; rfl, List.map_append]
            exact (hD.mono fun q hq => .tail _ hq).append (.one (.tuple (.head _) (.cons (.int _ _) (.cons (.int _ _) .nil))))
          · exact (List.getElem?_eq_some_iff.mp hget).1
          · intro q hq r hr
            rcases List.mem_cons.mp hq with rfl | hq
            · exact Nat.ne_of_gt (hlt18 r (List.mem_append_right _ (List.mem_append_right _ hr)))
            · exact hap q hq r hr
        case afin =>
          intro D h20 tk20 ys tl F20 N20 off20 hJ20
          obtain ⟨hD20, hk20, hap20⟩ := hJ20
          have hsvl : sv.length = sz.length := by rw [Isz.length, List.length_map]
          have hpl : c'.vs.length = c'.ps.length := by rw [ok2.dat.length, List.length_map]
          rw [hsvl, hpl, ← plStep_len, List.take_length] at hD20
          walk_at "mine"
          refine' fend (⟨D, ys, ys.length, plStep c'.ps sz, tl, o14⟩ : PSt) ?kF ?kN ?kn ?ko ?kof ?kk ?kr ?kp
          case kF => exact F20
          case kN => exact N20
          case kn =>
            intro q hq
            rcases List.mem_cons.mp hq with rfl | hq
            · exact .head _
            rcases List.mem_cons.mp hq with rfl | hq
            · exact .tail _ (List.mem_append_right _ (by rw [hnw]; exact .tail _ (.head _)))
            rcases List.mem_append.mp hq with hq | hq
            · exact .tail _ (List.mem_append_left _ hq)
            · exact .tail _ (List.mem_append_right _ (by rw [hnw]; exact .tail _ (.tail _ (List.mem_append_left _ (List.mem_append_right _ hq)))))
          case ko => intro q hq; exact .tail _ (List.mem_append_right _ (by rw [hnw]; exact .tail _ (.tail _ (List.mem_append_right _ hq))))
          case kof =>
            intro q hq b hb
            have hqn : q ∈ nw := by rw [hnw]; exact .tail _ (.tail _ (List.mem_append_right _ hq))
            rcases List.mem_cons.mp hb with rfl | hb
            · exact off20 q (List.mem_append_right _ hqn)
            rcases List.mem_cons.mp hb with rfl | hb
            · exact hoff2 q hq _ (.tail _ (.head _))
            · obtain ⟨r, hr, rfl⟩ := List.mem_map.mp hb
              rcases List.mem_append.mp hr with hr | hr
              · exact (hap20 r hr q hqn).symm
              · exact hoff2 q hq _ (.tail _ (.tail _ (List.mem_map.mpr ⟨r, List.mem_append_right _ hr, rfl⟩)))
          case kk =>
            intro q hq
            rw [List.mem_singleton.mp hq]
            rfl
          case kr =>
            intro z h1z h2 h3
            have hz1 := h2 _ (.head _)
            dsimp only at hz1
            simp +zetaDelta [kstB, h1z, hz1]
          case kp =>
            refine ⟨⟨hD20, ⟨_, hd14⟩, off20 _ (List.mem_append_right _ (by rw [hnw]; exact .tail _ (.head _))) |>.symm, fun q hq => hap20 q hq _ (by rw [hnw]; exact .tail _ (.head _)), fun q hq => ⟨(ok2.a3 q hq).1, ?_, fun r hr => ?_⟩⟩, ?_⟩
            · exact off20 q (List.mem_append_right _ (by rw [hnw]; exact .tail _ (.tail _ (List.mem_append_left _ (List.mem_append_right _ hq)))))
            · exact hap20 r hr q (by rw [hnw]; exact .tail _ (.tail _ (List.mem_append_left _ (List.mem_append_right _ hq))))
            · show plStep c'.ps sz = _
              rw [List.take_add_one, hsz, List.foldl_append, ← hps2]
              rfl
      case idone =>
        intro c' u' h12 tk12 hP2 F12 N12
        obtain ⟨ok2, hps2⟩ := hP2
        walk_at "mine"
        refine' fend c' ?kF ?kN ?kn ?ko ?kof ?kk ?kr ?kp
        case kF => exact F12
        case kN => exact N12
        case kn =>
          intro q hq
          rcases List.mem_cons.mp hq with rfl | hq
          · exact .head _
          rcases List.mem_cons.mp hq with rfl | hq
          · exact .tail _ (.head _)
          rcases List.mem_append.mp hq with hq | hq
          · exact .tail _ (.tail _ (List.mem_append_left _ hq))
          · exact .tail _ (.tail _ (List.mem_append_right _ (by rw [hchN]; exact .tail _ (.tail _ (.tail _ (.tail _ (List.mem_append_right _ hq)))))))
        case ko => intro q hq; exact .tail _ (.tail _ (List.mem_append_right _ (by rw [hchN]; exact .tail _ (.tail _ (.tail _ (.tail _ (List.mem_append_left _ hq)))))))
        case kof =>
          intro q hq b hb
          have hqn : q ∈ chN := by rw [hchN]; exact .tail _ (.tail _ (.tail _ (.tail _ (List.mem_append_left _ hq))))
          have a3 := ok2.a3 q hqn
          rcases List.mem_cons.mp hb with rfl | hb
          · exact a3.2.1
          rcases List.mem_cons.mp hb with rfl | hb
          · exact a3.1
          · obtain ⟨r, hr, rfl⟩ := List.mem_map.mp hb
            rcases List.mem_append.mp hr with hr | hr
            · exact (a3.2.2 r hr).symm
            · exact hoff q hq _ (.tail _ (.tail _ (List.mem_map.mpr ⟨r, List.mem_append_right _ hr, rfl⟩)))
        case kk =>
          intro q hq
          rw [List.mem_singleton.mp hq]
          rfl
        case kr =>
          intro z h1z h2 h3
          have hz1 := h2 _ (.head _)
          dsimp only at hz1
          simp +zetaDelta [kstB, h1z, hz1] at h3 ⊢
          simp [h3]
        case kp =>
          refine ⟨⟨ok2.dat, ok2.cell, ok2.a1, ok2.a2, fun q hq => ok2.a3 q (by rw [hchN]; exact .tail _ (.tail _ (.tail _ (.tail _ (List.mem_append_right _ hq)))))⟩, ?_⟩
          rw [plF_succ, ← hps, ← hszs, hps2]
          show (szs.take 3).foldl _ _ = _
          rw [← hsl, List.take_length]
  case done =>
    intro c u h tk hP F4 N4
    clear F3 N3
    obtain ⟨ok, hps⟩ := hP
    have hbd := plF_bd start (Builtin.bitXor start mode) bits 3
    rw [← hps] at hbd
    walk_at "mine"
    have hvl : c.vs.length = c.ps.length := by rw [ok.dat.length, List.length_map]
    have hb9 : c.ps.length ≤ 512 := hbd.1
    refine' compP (s₁ := { s with heap := h, toks := _ }) (ax := c.pl) (vs := c.vs) (n := c.n) (fun k ys => IntsAre ys ((c.ps.map (·.2)).take k)) F4 rfl (by with_unfolding_all rfl) (by decide) (by rfl) (by decide) (by rfl) (by rfl) (by decide) ?ahev F4 N4 (.head _) (by omega) ?ahtup ?aturn ?afin .nil
    case ahev =>
      intro Q' hQ
      walk_at "mine"
      exact hQ
    case ahtup =>
      intro v9 hv9
      obtain ⟨k9, hk9⟩ := List.mem_iff_getElem?.mp hv9
      have hkl : k9 < (c.ps.map pd).length := by rw [← ok.dat.length]; exact (List.getElem?_eq_some_iff.mp hk9).1
      obtain ⟨v8, e8, d8⟩ := ok.dat.get hkl
      rw [hk9] at e8
      cases e8
      rw [List.getElem_map] at d8
      obtain ⟨a9, t9, u9, n9, rfl, hm9⟩ := pd_ref d8
      exact ⟨a9, _, _, n9, rfl, .tail _ (.tail _ (List.mem_append_left _ hm9))⟩
    case aturn =>
      intro i2 tt w1 w2 nt ys I1 o1 C oC D m2 h tk E' hpv htt hJ hoC hm1 hm2 F16 N16
      have hkl : i2 < (c.ps.map pd).length := by rw [← ok.dat.length]; exact (List.getElem?_eq_some_iff.mp hpv).1
      obtain ⟨v8, e8, d8⟩ := ok.dat.get hkl
      rw [hpv] at e8
      cases e8
      rw [List.getElem_map] at d8
      obtain ⟨a9, t9, u9, n9, e9, hm9⟩ := pd_ref d8
      cases e9
      have hi2 : i2 < c.ps.length := by rw [List.length_map] at hkl; exact hkl
      have hp2 : c.ps[i2]? = some c.ps[i2] := List.getElem?_eq_getElem hi2
      generalize c.ps[i2] = pp at *
      have htt2 : (tt, tupO [Value.int pp.1 t9, Value.int pp.2 u9] n9) ∈ PLed (L' + 1) news c := .tail _ (.tail _ (List.mem_append_left _ hm9))
      have z1 := (N16 _ (List.mem_append_right _ htt)).1
      have z2 := (N16 _ (List.mem_append_right _ htt2)).1
      rw [z1] at z2
      cases z2
      walk_at "mine"
      have hg : (c.ps.map (·.2))[i2]? = some pp.2 := by rw [List.getElem?_map, hp2]; rfl
      rw [List.take_add_one, hg]
      exact hJ.append (.cons _ _ .nil)
    case afin =>
      intro D h20 tk20 ys F20 N20 off20 hJ20
      rw [hvl, show c.ps.length = (c.ps.map (·.2)).length by simp, List.take_length] at hJ20
      walk_at "mine"
      refine sum_l (by assumption) (by assumption) rfl (.head _) hJ20 ?_
      intro h21 tk21 t21 F21 N21
      walk_at "mine"
      refine hret _ _ _ _ (by assumption) (news_sub (by assumption) (news' := news) fun q hq => .tail _ (.tail _ (.tail _ (List.mem_append_right _ hq)))) ⟨⟨t21, ?_⟩, rfl⟩
      unfold waysF
      rw [← hps]
end Mine
end

section -- Cost
open PySem PySem.W PySem.Spec PySem.Calls PyProof.Rows
set_option maxHeartbeats 8000000
namespace Mine
variable {prog : Program} {w : World} {p : Program} {loose : List Str} {mean : ExcName → Option Value} {mg mb : Str → Option Value}

noncomputable def costStep (v : Int) (e : Int × Int) : Int := v * 64 + iabs (e.1 - e.2)
noncomputable def costF (row fig : List Int) : Int := ((row.zip fig).foldl costStep 0) * 4096
structure CSt where
  v : Int
  t : Tok
theorem cost_spec (row : List Int) (mode ab : Int) (tm ta : Tok) (rA : Addr) (rvs : List Value) (rn : Nat) (news : List (Addr × Obj)) (hrA : (rA, listOf rvs.toArray rn) ∈ news) (hrow : IntsAre rvs row) :
   Spec prog w p loose mean mg mb 189 [.ref rA, .int mode tm, .int ab ta] 3 news (fun r news' => (∃ t', r = .int (costF row (figF mode ab 3)) t') ∧ news' = news) := by
  refine fill_at ?_
  k_fill
  unfold Filled Spec
  intro dp un gd cn cs a ccd cl outer A₀ base h₀ L m s Q E B F X N T hk hd hu hret
  refine wpAny_call ?_
  k_dflt ktr_enter
  rename_i g' L' h' FG' F' N' B' X' T'
  replace F' : Fr g' L' h' (fun y => List.lookup y [(Str.ofString "absent", .int ab ta), (Str.ofString "mode", .int mode tm), (Str.ofString "row", .ref rA)]) := F'
  walk_at "mine"
  refine For_T (h₀ := g') ?_
  walk_at "mine"
  refine' Spec.use (figures_spec mode ab _ _ news) ?sB ?sF ?sX ?sN ?sT ?sK ?sD ?sU ?_
  walk_at "use"
  case sD => show dp + 1 + 2 < recursionLimit; omega
  case sU => show un + 3 + 40 * 2 < cLine; omega
  rintro r news' h3 tk3 F3 N3 ⟨D, fvs, fn, rfl, hfig, rfl, hoffD⟩
  walk_at "mine"
  refine' iter_zip (x := Str.ofString "here") (fun _ : CSt => (D, listOf fvs.toArray fn) :: news) (fun c => [(Str.ofString "value", .int c.v c.t)]) [Str.ofString "there"]
    (fun i c => c.v = ((row.zip (figF mode ab 3)).take i).foldl costStep 0) ⟨0, _⟩ rfl (fun _ => .tail _ hrA) (fun _ => .head _) F3 N3 ?kk ?kp ?turn ?done
  case kk =>
    intro q hq
    rw [List.mem_singleton.mp hq]
    rfl
  case kp => rfl
  case turn =>
    intro i y z T c u h tk own hi hy hz hT hP hoff F1 N1
    clear F3 N3
    obtain ⟨a_1, ha⟩ : ∃ a, row[i]? = some a := by
      have h1 := hrow.length
      exact ⟨_, List.getElem?_eq_getElem (by omega)⟩
    obtain ⟨b, hb⟩ : ∃ b, (figF mode ab 3)[i]? = some b := by
      have h1 := hfig.length
      exact ⟨_, List.getElem?_eq_getElem (by omega)⟩
    obtain ⟨ty, hy'⟩ := hrow.get i _ ha
    obtain ⟨tz, hz'⟩ := hfig.get i _ hb
    rw [hy] at hy'
    rw [hz] at hz'
    cases hy'
    cases hz'
    refine unpackN_ F1 N1 hT rfl rfl rfl ?_
    intro h6 F6 N6
    clear F1 N1
    walk_at "mine"
    refine mul_int ?_ (IntMulOk.of_right (by decide))
    walk_at "mine"
    refine' fend (⟨costStep c.v (a_1, b), _⟩ : CSt) ?kF ?kN ?kn ?ko ?kof ?kk ?kr ?kp
    case kF => assumption
    case kN => assumption
    case kn => intro q hq; exact List.mem_append_left own hq
    case ko => intro q hq; exact List.mem_append_right _ hq
    case kof => exact hoff
    case kk =>
      intro q hq
      rw [List.mem_singleton.mp hq]
      refine congrArg (fun k => some (Value.int k _)) ?_
      show c.v * 64 + _ = c.v * 64 + iabs (a_1 - b)
      rfl
    case kr =>
      intro z h1z h2 h3
      have hz1 := h2 _ (.head _)
      dsimp only at hz1
      simp +zetaDelta [kstB, h1z, hz1] at h3 ⊢
      simp [h3]
    case kp =>
      show costStep c.v (a_1, b) = _
      have hz9 : (row.zip (figF mode ab 3))[i]? = some (a_1, b) := by simp [List.getElem?_zip_eq_some, ha, hb]
      rw [List.take_add_one, hz9, List.foldl_append, hP]
      rfl
  case done =>
    intro c u h tk hP F1 N1
    clear F3 N3
    walk_at "mine"
    refine mul_int ?_ (IntMulOk.of_right (by decide))
    walk_at "mine"
    (rename News _ _ _ _ => N9)
    (rename Fr _ _ _ _ => F9)
    refine hret _ _ _ _ F9 (news_sub N9 (fun q hq => .tail _ hq)) ⟨⟨_, congrArg (fun k => Value.int k _) ?_⟩, rfl⟩
    have e : min rvs.length fvs.length = (row.zip (figF mode ab 3)).length := by rw [List.length_zip, hrow.length, hfig.length]
    rw [e, List.take_length] at hP
    show c.v * _ = costF _ _
    rw [hP]
    rfl
end Mine
end

section -- EnumT
open PySem PySem.W PySem.Spec PySem.Calls PyProof.Rows
open PySem.AutoSeq1 (wpAny_loadPart')
namespace Mine
section
variable {prog : Program} {w : World} {A : Around} {E : Value → Shared → Prop} {s : Shared}
theorem nextOf_tup {it t : Addr} {i : Nat} {items : Array Value} {x : Value} {Q : Value → Shared → Prop} (hit : s.heap.IsTupleIter it t i) (ht : s.heap.IsTuple t items) (hx : items[i]? = some x)
    (hQ : ∀ h', h'.IsTupleIter it t (i + 1) → Heap.SameBut it s.heap h' → Q x { s with heap := h' }) : wpAny (model prog w) A (Builtin.SmallTypes.nextOf (.ref it)) Q E s := by
  obtain ⟨o, ho, hc, hd⟩ := id hit
  obtain ⟨ol, hol, _, nl, hdl⟩ := ht
  unfold Builtin.SmallTypes.nextOf
  refine wpAny_bind (wpAny_callSpecial?_slot (name := Str.ofString "__next__") hit.typeIs F.slot_tuple_iterator_next
    (wpAny_call_entry F.slot_tuple_iterator_next hit.typeIs F.entry_tuple_iterator_next ?_ (F.args_tuple_iterator_next_1 _)))
  show wpAny _ _ (field (.ref it) 0 >>= _) _ _ s
  refine wpAny_bind (wpAny_field ho hd (x := .ref t) rfl ?_)
  show wpAny _ _ (if (Value.ref t == Value.none) = true then _ else _) _ _ s
  rw [if_neg (show ¬ ((Value.ref t == Value.none) = true) from Bool.false_ne_true)]
  show wpAny _ _ (field (.ref it) 1 >>= _) _ _ s
  refine wpAny_bind (wpAny_field ho hd (x := .int i 0) rfl ?_)
  show wpAny _ _ (seqItems? (.ref t) >>= _) _ _ s
  refine wpAny_bind (wpAny_seqItems hol hdl ?_)
  simp only [Int.toNat_natCast, hx]
  refine wpAny_bind (wpAny_setField ho hd (by simp) (wpAny_pure ⟨x, rfl, wpAny_pure (hQ _ ?_ (Heap.SameBut.update ..))⟩))
  exact ⟨_, Heap.get?_update_self _ ho (Obj.isFreed_of_fields (Obj.data_mapFields hd _)), (Obj.cls_mapFields ..).trans hc, by
    rw [Obj.data_mapFields hd]; simp [rawInt]⟩
theorem nextOf_tup_end {it t : Addr} {i : Nat} {items : Array Value} {Q : Value → Shared → Prop} (hh : A.handled = none) (hit : s.heap.IsTupleIter it t i) (ht : s.heap.IsTuple t items) (hx : items[i]? = none)
    (hE : ∀ h' e, Heap.ExtBut it s.heap h' → (∃ o, h'.get? e = some o ∧ o.cls = .type "StopIteration") → E (.ref e) { s with heap := h' }) :
    wpAny (model prog w) A (Builtin.SmallTypes.nextOf (.ref it)) Q E s := by
  obtain ⟨o, ho, hc, hd⟩ := id hit
  obtain ⟨ol, hol, _, nl, hdl⟩ := ht
  unfold Builtin.SmallTypes.nextOf
  refine wpAny_bind (wpAny_callSpecial?_slot (name := Str.ofString "__next__") hit.typeIs F.slot_tuple_iterator_next
    (wpAny_call_entry F.slot_tuple_iterator_next hit.typeIs F.entry_tuple_iterator_next ?_ (F.args_tuple_iterator_next_1 _)))
  show wpAny _ _ (field (.ref it) 0 >>= _) _ _ s
  refine wpAny_bind (wpAny_field ho hd (x := .ref t) rfl ?_)
  show wpAny _ _ (if (Value.ref t == Value.none) = true then _ else _) _ _ s
  rw [if_neg (show ¬ ((Value.ref t == Value.none) = true) from Bool.false_ne_true)]
  show wpAny _ _ (field (.ref it) 1 >>= _) _ _ s
  refine wpAny_bind (wpAny_field ho hd (x := .int i 0) rfl ?_)
  show wpAny _ _ (seqItems? (.ref t) >>= _) _ _ s
  refine wpAny_bind (wpAny_seqItems hol hdl ?_)
  simp only [Int.toNat_natCast, hx]
  refine wpAny_bind (wpAny_rule (wpAny_bind (wpAny_setField ho hd (by simp) ?_)))
  show wpAny _ _ (newExc (.type "StopIteration") [] >>= _) _ _ _
  refine wpAny_bind ?_
  simp only [newExc, newTuple]
  refine wpAny_bind (wpAny_newObj_type ?_ (by size_fits))
  refine wpAny_bind (m := firstArgMember _ _) (wpAny_of_eq (a := Value.none) (by first | rfl | (simp only [firstArgMember]; rfl)) ?_)
  refine wpAny_newObj_type ?_ (by size_fits)
  simp only [raiseNew]
  refine wpAny_bind (wpAny_handled ?_)
  first | rw [show A.in1.handled = none from hh] | rw [hh]
  refine wpAny_bind (wpAny_pure (wpAny_throw ?_))
  exact hE _ _ (((Heap.SameBut.update ..).extBut.push _).push _) ⟨_, Heap.get?_push_size _ rfl, rfl⟩
theorem drawsTup (hh : A.handled = none) (it t : Addr) (hne : t ≠ it) (items : Array Value) :
    Draws prog w A it [it, t] items.size (fun i v => items[i]? = some v) (fun i h => h.IsTupleIter it t i ∧ h.IsTuple t items) where
  live := fun _ _ st => let ⟨o, ho, _⟩ := st.1; ⟨o, ho⟩
  frame := fun _ _ _ st hk => ⟨st.1.at fun o e => hk it (by simp) o e, st.2.at fun o e => hk t (by simp) o e⟩
  item := fun i s Q E hi st hQ => by
    refine nextOf_tup st.1 st.2 (x := items[i]) (by simp [hi]) fun h' hit' hs' => ?_
    exact hQ _ h' s.toks (by simp [hi]) ⟨hit', st.2.extBut hs'.extBut hne⟩ hs'
  done := fun s Q E st hE => nextOf_tup_end hh st.1 st.2 (by simp) hE
end
set_option maxHeartbeats 1000000 in
theorem meets_enum_tup (l : Addr) (items : Array Value) (n : Nat) (dct : Option Addr) (sl : Array (Option Value)) :
    Meets (Builtin.«enumerate.__new__» ⟨[.type "enumerate", .ref l], []⟩) (fun _ R s => s.heap.get? l = some { cls := .type "tuple", dict := dct, data := .seq items n, slots := sl } ∧
      R (.ok (.ret (.ref (s.heap.push { cls := .type "tuple_iterator", data := .fields #[.ref l, .int 0 0] }).objs.size)))
        { s with heap := (s.heap.push { cls := .type "tuple_iterator", data := .fields #[.ref l, .int 0 0] }).push { cls := .type "enumerate", data := .fields #[.none, .bool false, .ref s.heap.objs.size, rawInt 0, .none, .none] } }) :=
  .of_wp fun prog w A R s h => by
    obtain ⟨hp, g, d, tk, os⟩ := s; obtain ⟨hl, h⟩ := h
    have hsub := sub_enumerate
    have hL : Heap.IsTuple (Shared.heap ⟨hp, g, d, tk, os⟩) l items := ⟨_, hl, rfl, n, rfl⟩
    wp_walk using wpAny_loadPart' hl
    refine wpAny_stack_any fun st => wpAny_pure ?_
    split
    · rename_i c _ _ _ _ _
      cases (c == Value.type "enumerate")
      · wp_walk using wpAny_loadPart' hl, wpAny_pyIter_tuple hL
        exact ⟨_, rfl, h⟩
      · wp_walk using wpAny_loadPart' hl, wpAny_pyIter_tuple hL
        exact ⟨_, rfl, h⟩
    · wp_walk using wpAny_loadPart' hl, wpAny_pyIter_tuple hL
      exact ⟨_, rfl, h⟩
section
variable {prog : Program} {w : World} {A : Around} {E : Value → Shared → Prop} {s : Shared}
theorem call_enum_tup {l : Addr} {items : Array Value} {Q : Value → Shared → Prop} (hL : s.heap.IsTuple l items)
    (h : ∀ h', IsEnum h' (s.heap.objs.size + 1) s.heap.objs.size 0 .none → h'.IsTupleIter s.heap.objs.size l 0 → h'.objs.size = s.heap.objs.size + 2 →
      (∀ b o, s.heap.get? b = some o → h'.get? b = some o) → Q (.ref (s.heap.objs.size + 1)) { s with heap := h' }) :
    wpAny (model prog w) A (call (.type "enumerate") [.ref l]) Q E s := by
  obtain ⟨⟨c, dct, dt, sl⟩, hl, hc, n, hd⟩ := hL
  replace hc : c = .type "tuple" := hc
  replace hd : dt = .seq items n := hd
  subst hc hd
  refine callType_new F.called_enumerate (by decide) (F.typeCall_enumerate_1 _) (F.newCall_enumerate_1 _) (fun obj => F.args_object_init_2 obj _) F.entry_enumerate_new
    (meets_enum_tup l items n dct sl) ⟨hl, ?_⟩
  have hz : (s.heap.push { cls := .type "tuple_iterator", data := .fields #[.ref l, .int 0 0] }).objs.size = s.heap.objs.size + 1 := Heap.size_push ..
  show _ ∧ _
  rw [hz]
  have he : IsEnum ((s.heap.push { cls := .type "tuple_iterator", data := .fields #[.ref l, .int 0 0] }).push
      { cls := .type "enumerate", data := .fields #[.none, .bool false, .ref s.heap.objs.size, rawInt 0, .none, .none] }) (s.heap.objs.size + 1) s.heap.objs.size 0 .none := by
    have := Heap.get?_push_size (s.heap.push { cls := .type "tuple_iterator", data := .fields #[.ref l, .int 0 0] })
      (o := { cls := .type "enumerate", data := .fields #[.none, .bool false, .ref s.heap.objs.size, rawInt 0, .none, .none] }) rfl
    rw [hz] at this; exact this
  refine ⟨⟨_, he, rfl⟩, h _ he ⟨_, Heap.get?_push_of_some _ (Heap.get?_push_size _ rfl), rfl, rfl⟩ (by rw [Heap.size_push, hz]) fun b o x => Heap.get?_push_of_some _ (Heap.get?_push_of_some _ x)⟩

variable {env : Env} {h₀ : Heap} {body orelse : List Stmt} {Q : Flow → Shared → Prop}
theorem iter_enum {σ : Type} {elts : List Expr} {k : Nat} {pos : Pos} {t : Addr} {items : Array Value} {x : Str} {m₀ : Str → Option Value} (Led : σ → List (Addr × Obj)) (ps : σ → List (Str × Value)) (stored : List Str) (Pc : Nat → σ → Prop) (c₀ : σ)
    (hh : A.handled = none) (ht : h₀.IsTuple t items) (F : Fr h₀ env.locals s.heap m₀) (N : News h₀ env.locals s.heap (Led c₀)) (hk : ∀ p ∈ ps c₀, m₀ p.1 = some p.2) (hp : Pc 0 c₀)
    (turn : ∀ i y T tt (c : σ) (u : Str → Option Value) h tk own, i < items.size → items[i]? = some y → h.IsTuple T #[.int i tt, y] → Pc i c → OwnOff own ((Led c).map (·.1)) →
      Fr h₀ env.locals h (fun z => if z = x then u z else kstB (fun z => if stored.contains z then u z else m₀ z) (ps c) z) → News h₀ env.locals h (Led c ++ own) →
      wpAny (model prog w) A (assign (.Tuple elts k pos) env (.ref T)) (fun _ s₂ => wpAny (model prog w) A (execs body env) (FPost h₀ env.locals s Led ps x stored m₀ (Pc (i + 1)) own Q) E s₂) E { s with heap := h, toks := tk })
    (done : ∀ (c : σ) (u : Str → Option Value) h tk, Pc items.size c → Fr h₀ env.locals h (fun z => if z = x then u z else kstB (fun z => if stored.contains z then u z else m₀ z) (ps c) z) → News h₀ env.locals h (Led c) →
      wpAny (model prog w) A (execs orelse env) Q E { s with heap := h, toks := tk })
    (hE : PassesOwn (model prog w) A env E := by passes_own) :
    wpAny (model prog w) A (call (.type "enumerate") [.ref t]) (fun xv s₁ => wpAny (model prog w) A (pyIter xv) (fun it s₂ => TAt prog w A h₀ env (.Tuple elts k pos) body orelse Q E it s₂) E s₁) E s := by
  obtain ⟨ot, hot, hc, nn, hd⟩ := id ht
  have hts : s.heap.IsTuple t items := ⟨ot, F.keep t ot hot, hc, nn, hd⟩
  have hlt : t < s.heap.objs.size := Heap.lt_size (F.keep t ot hot)
  have hne : t ≠ s.heap.objs.size := Nat.ne_of_lt hlt
  have hL : env.locals < s.heap.objs.size := F.ns.lt
  have ht0 : t < env.locals := Nat.lt_of_lt_of_le (Heap.lt_size hot) F.above
  refine call_enum_tup hts fun h' hen hit hsz hkp => ?_
  have W := WalksT.enumerateD (drawsTup (prog := prog) (w := w) (A := A.in1) hh s.heap.objs.size t hne items) (s.heap.objs.size + 1) (Nat.succ_ne_self _) (by simp only [List.mem_cons, List.not_mem_nil, or_false]; exact fun h => h.elim (Nat.succ_ne_self _) (Nat.ne_of_gt (Nat.lt_succ_of_lt hlt))) (by simp)
  have hst : (∃ old, IsEnum h' (s.heap.objs.size + 1) s.heap.objs.size ((0 : Nat) : Int) old) ∧ (h'.IsTupleIter s.heap.objs.size t 0 ∧ h'.IsTuple t items) := ⟨⟨.none, hen⟩, hit, hts.at fun o e => hkp t o e⟩
  refine W.self 0 _ _ _ hst ?_
  have F' : Fr h₀ env.locals h' m₀ := ⟨F.ns.at' fun o e => hkp _ o e, fun b o e => hkp b o (F.keep b o e), F.above⟩
  have N' : News h₀ env.locals h' (Led c₀) := fun p hp => ⟨hkp _ _ (N p hp).1, (N p hp).2⟩
  have new : ∀ b : Addr, s.heap.objs.size ≤ b → h₀.get? b = none := fun b hb => by
    cases hq : h₀.get? b with
    | none => rfl
    | some o => exact absurd (Heap.lt_size (F.keep b o hq)) (Nat.not_lt.mpr hb)
  refine loop_T (x := x) (s := { s with heap := h' }) (KTurns.ofWalksU W.toU) Led ps stored Pc c₀ ?_ ?_ ?_ hst F' N' ?_ hk hp ?_ ?_ ?_ hE
  · intro hm
    simp only [List.mem_cons, List.not_mem_nil, or_false] at hm
    rcases hm with e | e | e
    · rw [e] at hL; exact absurd hL (Nat.not_lt.mpr (Nat.le_succ _))
    · rw [e] at hL; exact absurd hL (Nat.lt_irrefl _)
    · rw [e] at ht0; exact absurd ht0 (Nat.lt_irrefl _)
  · intro b hb
    simp only [List.mem_cons, List.not_mem_nil, or_false] at hb
    rcases hb with e | e <;> rw [e] <;> exact new _ (by omega)
  · intro b hb
    simp only [List.mem_cons, List.not_mem_nil, or_false] at hb ⊢
    rcases hb with e | e | e
    · exact .inl (.inl e)
    · exact .inl (.inr e)
    · exact .inr (by rw [e, hot]; rfl)
  · intro p hp hI
    have := Heap.lt_size (N p hp).1
    simp only [List.mem_cons, List.not_mem_nil, or_false] at hI
    rcases hI with e | e
    · rw [e] at this; exact absurd this (Nat.not_lt.mpr (Nat.le_succ _))
    · rw [e] at this; exact absurd this (Nat.lt_irrefl _)
  · intro i h st b hb
    obtain ⟨⟨old, he⟩, ⟨o, ho, _⟩, _⟩ := st
    simp only [List.mem_cons, List.not_mem_nil, or_false] at hb
    rcases hb with e | e
    · rw [e]; exact ⟨_, he⟩
    · rw [e]; exact ⟨o, ho⟩
  · rintro i v c u h tk own hi ⟨T, vals, rfl, ⟨tt, y, hy, rfl⟩, hT⟩ hPc hoff _ F1 N1
    exact turn i y T tt c u h tk own hi hy hT hPc hoff F1 N1
  · exact done
end
end Mine
end

section -- FileM
open PySem PySem.W PySem.Spec PySem.Calls PyProof.Rows
set_option maxHeartbeats 8000000
namespace Mine
variable {prog : Program} {w : World} {p : Program} {loose : List Str} {mean : ExcName → Option Value} {mg mb : Str → Option Value}

theorem ifmt_spec (m : Int) (t : Tok) (news : List (Addr × Obj)) : Spec prog w p loose mean mg mb 114 [.int m t] 1 news (fun r news' => (∃ t', r = .int (Builtin.bitAnd m 61440) t') ∧ news' = news) := by
  refine fill_at ?_
  k_fill
  unfold Filled Spec
  intro dp un gd cn cs a ccd cl outer A₀ base h₀ L m s Q E B F X N T hk hd hu hret
  refine wpAny_call ?_
  k_dflt ktr_enter
  rename_i g' L' h' FG' F' N' B' X' T'
  replace F' : Fr g' L' h' (fun y => List.lookup y [(Str.ofString "mode", .int _ t)]) := F'
  walk_at "mine"
  exact hret _ _ _ _ (by assumption) (by assumption) ⟨⟨_, rfl⟩, rfl⟩
noncomputable def fmTab : List (Addr × List (Addr × Int × Nat)) := [(122, [(115, 40960, 108), (116, 49152, 115), (117, 32768, 45), (118, 24576, 98), (119, 16384, 100), (120, 8192, 99), (121, 4096, 112)]),
  (124, [(123, 256, 114)]), (126, [(125, 128, 119)]), (130, [(127, 2112, 115), (128, 2048, 83), (129, 64, 120)]), (132, [(131, 32, 114)]), (134, [(133, 16, 119)]),
  (138, [(135, 1032, 115), (136, 1024, 83), (137, 8, 120)]), (140, [(139, 4, 114)]), (142, [(141, 2, 119)]), (146, [(143, 513, 116), (144, 512, 84), (145, 1, 120)])]
noncomputable def one (c : Nat) : Str := ⟨#[c]⟩
theorem fm0 {h : Heap} (X : Frag.In (hd.heap_1 w.params) h) : h.IsTuple 147 (fmTab.map fun e => Value.ref e.1).toArray := by
  refine fill_at ?_
  k_fill
  unfold Filled
  exact ⟨_, X 147 _ (by k_is), rfl, _, rfl⟩
theorem fm1 {h : Heap} (X : Frag.In (hd.heap_1 w.params) h) : ∀ e ∈ fmTab, h.IsTuple e.1 (e.2.map fun r => Value.ref r.1).toArray ∧ ∀ r ∈ e.2, ∃ t u, h.IsTuple r.1 #[.int r.2.1 t, .str (one r.2.2) u] := by
  refine fill_at ?_
  k_fill
  unfold Filled
  unfold fmTab
  simp only [List.forall_mem_cons, List.not_mem_nil, false_implies, implies_true, and_true]
  refine ⟨?_, ?_, ?_, ?_, ?_, ?_, ?_, ?_, ?_, ?_⟩
  all_goals (repeat' (first | apply And.intro | exact ⟨_, X _ _ (by k_is), rfl, _, rfl⟩ | exact ⟨_, _, _, X _ _ (by k_is), rfl, _, rfl⟩))

noncomputable abbrev hit (i : Nat) (m b : Int) : Prop := if i = 0 then Builtin.bitAnd m 61440 = b else Builtin.bitAnd m b = b
noncomputable def pick (i : Nat) (m : Int) : List (Addr × Int × Nat) → Nat
  | [] => if i = 0 then 63 else 45
  | e :: r => if hit i m e.2.1 then e.2.2 else pick i m r
noncomputable def sg (m : Int) : List Nat := fmTab.zipIdx.map fun e => pick e.2 m e.1.2
theorem pick_hit {i : Nat} {m : Int} : ∀ {l : List (Addr × Int × Nat)} {j : Nat} {r : Addr × Int × Nat}, l[j]? = some r → (∀ r ∈ l.take j, ¬ hit i m r.2.1) → hit i m r.2.1 → pick i m l = r.2.2
  | [], _, _, h, _, _ => by simp at h
  | a :: l, 0, r, h, _, hh => by
    simp at h
    subst h
    simp [pick, hh]
  | a :: l, j + 1, r, h, hn, hh => by
    have h1 : ¬ hit i m a.2.1 := hn a (by simp)
    simp only [pick, if_neg h1]
    exact pick_hit (by simpa using h) (fun r hr => hn r (by simp [hr])) hh
theorem pick_no {i : Nat} {m : Int} {l : List (Addr × Int × Nat)} {j : Nat} {r : Addr × Int × Nat} (h : l[j]? = some r) (hn : ∀ r ∈ l.take j, ¬ hit i m r.2.1) (hh : ¬ hit i m r.2.1) : ∀ r ∈ l.take (j + 1), ¬ hit i m r.2.1 := by
  intro q hq
  rw [List.take_add_one, h] at hq
  rcases List.mem_append.mp hq with hq | hq
  · exact hn q hq
  · simp at hq
    subst hq
    exact hh
theorem pick_none {i : Nat} {m : Int} : ∀ {l : List (Addr × Int × Nat)}, (∀ r ∈ l, ¬ hit i m r.2.1) → pick i m l = if i = 0 then 63 else 45
  | [], _ => rfl
  | a :: l, h => by
    simp only [pick, if_neg (h a (by simp))]
    exact pick_none fun r hr => h r (by simp [hr])
theorem strs_snoc : ∀ {vs : List Value} {ns : List Str}, StrsAre vs ns → ∀ (x : Str) (t : Tok), StrsAre (vs ++ [.str x t]) (ns ++ [x])
  | _, _, .nil, x, t => .cons x t .nil
  | _, _, .cons i u h, x, t => .cons i u (strs_snoc h x t)
theorem strs_pairs : ∀ {vs : List Value} {ns : List Str}, StrsAre vs ns → ∃ l : List (Str × Tok), vs = strValues l ∧ l.map (·.1) = ns
  | _, _, .nil => ⟨[], rfl, rfl⟩
  | _, _, .cons x t h => by
    obtain ⟨l, h1, h2⟩ := strs_pairs h
    exact ⟨(x, t) :: l, by rw [h1]; rfl, by rw [List.map_cons, h2]⟩
theorem glued_fold : ∀ (cs : List Nat) (acc : Array Nat), (cs.map one).foldl (fun acc p => acc ++ (Str.ofString "").cps ++ p.cps) acc = acc ++ cs.toArray
  | [], acc => by simp
  | c :: r, acc => by
    rw [List.map_cons, List.foldl_cons, glued_fold r]
    have e : (Str.ofString "").cps = #[] := by decide
    rw [e]
    simp [one]
theorem glued_ones : ∀ (cs : List Nat), Builtin.Str.glued (Str.ofString "") (cs.map one) = ⟨cs.toArray⟩
  | [] => by decide
  | c :: r => by
    unfold Builtin.Str.glued
    congr 1
    rw [List.map_cons, List.drop_one, List.tail_cons, glued_fold]
    simp [one]
section
variable {prog : Program} {w : World} {A : Around} {E : Value → Shared → Prop} {s : Shared}
theorem tooLong10 : ∀ (l : List Str) (k : Nat), (∀ x ∈ l, x.length = 1) → l.foldl (fun (n : Nat) (s : Str) => n + s.length + (Str.ofString "").length) k = k + l.length
  | [], k, _ => rfl
  | x :: r, k, h => by
    rw [List.foldl_cons, tooLong10 r _ fun y hy => h y (.tail _ hy), h x (.head _)]
    have e : (Str.ofString "").length = 0 := by decide
    rw [e, List.length_cons]
    omega
theorem join_l {a : Addr} {l : List (Str × Tok)} {n : Nat} {t : Tok} {Q : Value → Shared → Prop} (ha : s.heap.get? a = some (listOf (strValues l).toArray n)) (hl : l.length = 10) (h1 : ∀ x ∈ l.map (·.1), x.length = 1)
    (h : Q (.str (Builtin.Str.glued (Str.ofString "") (l.map (·.1))) s.toks) { s with toks := s.toks + 1 }) : wpAny (model prog w) A (call (.builtin "str.join") [.str (Str.ofString "") t, .ref a]) Q E s := by
  have hok : Builtin.Str.tooLong ((l.map (·.1)).toArray.foldl (fun (n : Nat) (s : Str) => n + s.length + (Str.ofString "").length) 0) = false := by
    rw [← Array.foldl_toList]
    rw [tooLong10 _ 0 h1, List.length_map, hl]
    decide
  refine call_meets F.slot_str_join (typeIs_str _ _ _) F.entry_str_join (F.args_str_join_2 _ _) (meets_str_join_list (Str.ofString "") t a l hok) ⟨⟨_, ha, rfl, n, rfl⟩, ?_⟩
  have e : joinMade (Str.ofString "") l = .str (Builtin.Str.glued (Str.ofString "") (l.map (·.1))) := by
    match l, hl with
    | [], h => simp at h
    | [_], h => simp at h
    | _ :: _ :: _, _ => rfl
  rw [e]
  refine ⟨?_, h⟩
  have : ∀ cs : List Str, (∀ x ∈ cs, x.length = 1) → ∃ ns : List Nat, cs = ns.map one := by
    intro cs
    induction cs with
    | nil => intro _; exact ⟨[], rfl⟩
    | cons x r ih =>
      intro hx
      obtain ⟨ns, hn⟩ := ih fun y hy => hx y (.tail _ hy)
      have h1 := hx x (.head _)
      obtain ⟨cps⟩ := x
      have h2 : cps.size = 1 := h1
      obtain ⟨c, hc⟩ := Array.size_eq_one_iff.mp h2
      exact ⟨c :: ns, by rw [List.map_cons, hn, hc]; rfl⟩
  obtain ⟨ns, hn⟩ := this _ h1
  rw [hn, glued_ones]
  have hlen : ns.length = 10 := by have := congrArg List.length hn; simpa [hl] using this.symm
  show ns.toArray.size ≤ sizeLine
  rw [List.size_toArray, hlen, sizeLine_eq]
  decide
end
structure FSt where
  vs : List Value
  nn : Nat
theorem filemode_spec (mode : Int) (tm : Tok) (news : List (Addr × Obj)) : Spec prog w p loose mean mg mb 154 [.int mode tm] 3 news (fun r news' => (∃ t', r = .str ⟨(sg mode).toArray⟩ t') ∧ news' = news) := by
  refine fill_at ?_
  k_fill
  unfold Filled Spec
  intro dp un gd cn cs a ccd cl outer A₀ base h₀ L m s Q E B F X N T hk hd hu hret
  refine wpAny_call ?_
  k_dflt ktr_enter
  rename_i g' L' h' FG' F' N' B' X' T'
  replace F' : Fr g' L' h' (fun y => List.lookup y [(Str.ofString "mode", .int mode tm)]) := F'
  walk_at "mine"
  refine list_l (by assumption) (by assumption) (by simp) ?_
  intro pA h5 F5 N5 lO
  walk_at "mine"
  refine For_T (h₀ := g') ?_
  walk_at "mine"
  (rename Fr _ _ _ _ => FF)
  (rename News _ _ _ _ => NN)
  refine iter_enum (x := Str.ofString "index") (fun c : FSt => (pA, listOf c.vs.toArray c.nn) :: news) (fun _ => []) [Str.ofString "table", Str.ofString "bit", Str.ofString "char"]
    (fun i c => StrsAre c.vs (((sg mode).take i).map one)) ⟨[], 0⟩ rfl (fm0 X') FF NN (fun _ h => nomatch h) .nil ?_ ?_
  · intro i y T tt c u h tk own hi hy hT hP hoff F1 N1
    clear FF NN
    have hi' : i < fmTab.length := by simpa using hi
    have hZz : ∃ e, fmTab[i]? = some e := ⟨_, List.getElem?_eq_getElem hi'⟩
    obtain ⟨e, he⟩ := hZz
    have hem : e ∈ fmTab := List.mem_of_getElem? he
    have hye : y = .ref e.1 := by
      have : (fmTab.map fun e => Value.ref e.1)[i]? = some y := by simpa using hy
      rw [List.getElem?_map, he] at this
      exact (Option.some.inj this).symm
    subst hye
    obtain ⟨hTe, hTr⟩ := fm1 X' e hem
    have hlen : c.vs.length ≤ i := by have := hP.length; rw [this, List.length_map, List.length_take]; omega
    have hi10 : i < 10 := hi'
    refine unpackN_ F1 N1 hT rfl rfl rfl ?_
    intro h6 F6 N6
    clear F1 N1
    walk_at "mine"
    (rename Fr _ _ _ _ => F7)
    (rename News _ _ _ _ => N7)
    replace N7 : News g' L' _ ((pA, listOf c.vs.toArray c.nn) :: (news ++ own)) := N7
    have hZz : ∃ mm, Fr g' L' _ mm ∧ mm = _ := ⟨_, F7, rfl⟩
    obtain ⟨mm, F7', hmm⟩ := hZz
    have hrest : ∀ p ∈ news ++ own, p.1 ≠ pA := by
      intro p hp
      rcases List.mem_append.mp hp with hp | hp
      · exact Nat.ne_of_lt (lO p hp)
      · exact hoff p hp _ (.head _)
    refine wpAny_mono (Q := Mid (fun h2 => ∃ t9 m9, Fr g' L' h2 m9 ∧ (∀ z, z ≠ Str.ofString "bit" → z ≠ Str.ofString "char" → m9 z = mm z) ∧ News g' L' h2 ((pA, listOf (c.vs ++ [Value.str (one (pick i mode e.2)) t9]).toArray (c.nn + 1)) :: (news ++ own))) s) ?_ ?_ (fun _ _ h => h)
    · clear F7'
      refine For_T (h₀ := g') ?_
      walk_at "mine"
      refine iter_tup (x := Str.ofString "bit") (fun _ : Unit => (pA, listOf c.vs.toArray c.nn) :: (news ++ own)) (fun _ => []) [Str.ofString "char"]
        (fun j _ => ∀ r ∈ e.2.take j, ¬ hit i mode r.2.1) () rfl hTe F7 N7 (fun _ h => nomatch h) (fun _ h => by simp at h) ?_ ?_
      · intro j v _ u1 h1 tk1 own1 hj hv hPj hoff1 F8 N8
        have hj' : j < e.2.length := by simpa using hj
        have hZz : ∃ r, e.2[j]? = some r := ⟨_, List.getElem?_eq_getElem hj'⟩
        obtain ⟨r, hr⟩ := hZz
        have hrm : r ∈ e.2 := List.mem_of_getElem? hr
        have hve : v = .ref r.1 := by
          have : (e.2.map fun r => Value.ref r.1)[j]? = some v := by simpa using hv
          rw [List.getElem?_map, hr] at this
          exact (Option.some.inj this).symm
        subst hve
        obtain ⟨tr, ur, hTr1⟩ := hTr r hrm
        have hTr2 : IsTup h1 r.1 #[.int r.2.1 tr, .str (one r.2.2) ur] := let ⟨o, ho, q⟩ := hTr1; ⟨o, F8.keep _ _ ho, q⟩
        refine unpackN_ F8 N8 hTr2 rfl rfl rfl ?_
        intro h9 F9 N9
        clear F7 N7 F8 N8
        have hpick : hit i mode r.2.1 → pick i mode e.2 = r.2.2 := pick_hit hr hPj
        have hpj : ¬ hit i mode r.2.1 → ∀ r ∈ e.2.take (j + 1), ¬ hit i mode r.2.1 := pick_no hr hPj
        have hrest1 : ∀ p ∈ (news ++ own) ++ own1, p.1 ≠ pA := by
          intro p hp
          rcases List.mem_append.mp hp with hp | hp
          · exact hrest p hp
          · exact hoff1 p hp _ (.head _)
        replace N9 : News g' L' h9 ((pA, listOf c.vs.toArray c.nn) :: ((news ++ own) ++ own1)) := N9
        rcases Nat.eq_zero_or_pos i with hi0 | hi0
        · subst hi0
          walk_at "mine"
          refine' Spec.use (ifmt_spec mode tm _) ?sB ?sF ?sX ?sN ?sT ?sK ?sD ?sU ?_
          walk_at "use"
          case sD => show dp + 1 + 1 < recursionLimit; omega
          case sU => show un + 3 + 40 * 1 < cLine; omega
          rintro r3 news' h3 tk3 F3 N3 ⟨⟨t3, rfl⟩, e3⟩
          rw [e3] at N3
          clear e3
          walk_at "mineE"
          refine eq_int ?_
          by_cases hq : Builtin.bitAnd mode 61440 = r.2.1
          · have hq' : hit 0 mode r.2.1 := hq
            rw [beq_iff_eq.mpr hq]
            walk_at "mine"
            refine app_l (by assumption) (by assumption) hrest1 (by omega) ?_
            intro h10 F10 N10
            walk_at "mine"
            refine ⟨rfl, _, _, rfl, ur, _, by assumption, ?_, ?_⟩
            · intro z hz1 hz2
              rw [hmm]
              simp +zetaDelta [kstB, hz1, hz2]
            · rw [hpick hq']
              (rename News _ _ _ _ => NZ)
              refine news_sub NZ fun q hq => ?_
              rw [← List.cons_append]
              exact List.mem_append_left own1 hq

          · have hq' : ¬ hit 0 mode r.2.1 := hq
            rw [beq_eq_false_iff_ne.mpr hq]
            walk_at "mine"
            refine' fend () ?kF ?kN ?kn ?ko ?kof ?kk ?kr ?kp
            case kF => assumption
            case kN => assumption
            case kn => intro q hq; exact List.mem_append_left own1 hq
            case ko => intro q hq; exact List.mem_append_right ((pA, listOf c.vs.toArray c.nn) :: (news ++ own)) hq
            case kof => exact hoff1
            case kk => exact fun _ h => nomatch h
            case kr =>
              intro z h1z h2 h3
              simp only [List.contains_cons, List.contains_nil, Bool.or_false, beq_eq_false_iff_ne, ne_eq] at h3
              simp +zetaDelta [kstB, h3, h1z]
            case kp => exact hpj hq'

        · have hne0 : ((i : Nat) : Int) ≠ 0 := by omega
          have hhit : hit i mode r.2.1 ↔ Builtin.bitAnd mode r.2.1 = r.2.1 := by unfold hit; rw [if_neg (by omega)]
          walk_at "mineE"
          refine eq_int ?_
          rw [beq_eq_false_iff_ne.mpr hne0]
          walk_at "mineE"
          refine eq_int ?_
          by_cases hq : Builtin.bitAnd mode r.2.1 = r.2.1
          · have hq' : hit i mode r.2.1 := hhit.mpr hq
            rw [beq_iff_eq.mpr hq]
            walk_at "mine"
            refine app_l (by assumption) (by assumption) hrest1 (by omega) ?_
            intro h10 F10 N10
            walk_at "mine"
            refine ⟨rfl, _, _, rfl, ur, _, by assumption, ?_, ?_⟩
            · intro z hz1 hz2
              rw [hmm]
              simp +zetaDelta [kstB, hz1, hz2]
            · rw [hpick hq']
              (rename News _ _ _ _ => NZ)
              refine news_sub NZ fun q hq => ?_
              rw [← List.cons_append]
              exact List.mem_append_left own1 hq

          · have hq' : ¬ hit i mode r.2.1 := fun h => hq (hhit.mp h)
            rw [beq_eq_false_iff_ne.mpr hq]
            walk_at "mine"
            refine' fend () ?kF ?kN ?kn ?ko ?kof ?kk ?kr ?kp
            case kF => assumption
            case kN => assumption
            case kn => intro q hq; exact List.mem_append_left own1 hq
            case ko => intro q hq; exact List.mem_append_right ((pA, listOf c.vs.toArray c.nn) :: (news ++ own)) hq
            case kof => exact hoff1
            case kk => exact fun _ h => nomatch h
            case kr =>
              intro z h1z h2 h3
              simp only [List.contains_cons, List.contains_nil, Bool.or_false, beq_eq_false_iff_ne, ne_eq] at h3
              simp +zetaDelta [kstB, h3, h1z]
            case kp => exact hpj hq'

      · intro _ u1 h1 tk1 hPj F8 N8
        clear F7 N7
        have hnone : pick i mode e.2 = if i = 0 then 63 else 45 := pick_none (by simpa using hPj)
        rcases Nat.eq_zero_or_pos i with hi0 | hi0
        · subst hi0
          walk_at "mine"
          refine app_l (by assumption) (by assumption) hrest (by omega) ?_
          intro h10 F10 N10
          have hZz : ∃ tz, News g' L' h10 ((pA, listOf (c.vs ++ [Value.str (Str.ofString "?") tz]).toArray (c.nn + 1)) :: (news ++ own)) := ⟨_, N10⟩
          obtain ⟨tz, N11⟩ := hZz
          walk_at "mine"
          refine ⟨rfl, _, _, rfl, tz, _, by assumption, ?_, ?_⟩
          ·
            intro z hz1 hz2
            rw [hmm]
            simp +zetaDelta [kstB, hz1, hz2]
          ·
            rw [hnone, if_pos rfl, ← show Str.ofString "?" = one 63 from by decide]
            assumption

        · have hne0 : ((i : Nat) : Int) ≠ 0 := by omega
          walk_at "mineE"
          refine eq_int ?_
          rw [beq_eq_false_iff_ne.mpr hne0]
          walk_at "mine"
          refine app_l (by assumption) (by assumption) hrest (by omega) ?_
          intro h10 F10 N10
          have hZz : ∃ tz, News g' L' h10 ((pA, listOf (c.vs ++ [Value.str (Str.ofString "-") tz]).toArray (c.nn + 1)) :: (news ++ own)) := ⟨_, N10⟩
          obtain ⟨tz, N11⟩ := hZz
          walk_at "mine"
          refine ⟨rfl, _, _, rfl, tz, _, by assumption, ?_, ?_⟩
          ·
            intro z hz1 hz2
            rw [hmm]
            simp +zetaDelta [kstB, hz1, hz2]
          ·
            rw [hnone, if_neg (by omega), ← show Str.ofString "-" = one 45 from by decide]
            assumption

    · rintro f s2 ⟨rfl, h2, tk2, rfl, t9, m9, F9, hm9, N9⟩
      clear F7 F7' N7
      walk_at "mine"
      refine' fend (⟨c.vs ++ [Value.str (one (pick i mode e.2)) t9], c.nn + 1⟩ : FSt) ?kF ?kN ?kn ?ko ?kof ?kk ?kr ?kp
      case kF => assumption
      case kN => assumption
      case kn => intro q hq; exact List.mem_append_left own hq
      case ko => intro q hq; exact List.mem_append_right ((pA, listOf (c.vs ++ [Value.str (one (pick i mode e.2)) t9]).toArray (c.nn + 1)) :: news) hq
      case kof => exact hoff
      case kk => exact fun _ h => nomatch h
      case kr =>
        intro z h1z h2 h3
        simp only [List.contains_cons, List.contains_nil, Bool.or_false, Bool.or_eq_false_iff, beq_eq_false_iff_ne, ne_eq] at h3
        rw [hm9 z h3.2.1 h3.2.2, hmm]
        simp +zetaDelta [kstB, h3, h1z]
      case kp =>
        show StrsAre (c.vs ++ [.str (one (pick i mode e.2)) t9]) (((sg mode).take (i + 1)).map one)
        have hsg : (sg mode)[i]? = some (pick i mode e.2) := by
          unfold sg
          rw [List.getElem?_map, List.getElem?_zipIdx, he]
          simp
        rw [List.take_add_one, hsg, List.map_append]
        exact strs_snoc hP _ _
  · intro c u h tk hP F1 N1
    clear FF NN
    rw [List.size_toArray, List.length_map] at hP
    have hsl : (sg mode).length = 10 := by simp [sg, fmTab]
    have htk : (sg mode).take fmTab.length = sg mode := by rw [List.take_of_length_le]; rw [hsl]; exact Nat.le_refl 10
    rw [htk] at hP
    obtain ⟨l, hl1, hl2⟩ := strs_pairs hP
    walk_at "mine"
    (rename News _ _ _ _ => NY)
    have hlen : l.length = 10 := by have := congrArg List.length hl2; simpa [hsl] using this
    refine join_l (l := l) (by rw [← hl1]; exact (NY _ (.head _)).1) hlen (by rw [hl2]; intro x hx; obtain ⟨c, _, rfl⟩ := List.mem_map.mp hx; rfl) ?_
    walk_at "mine"
    (rename News _ _ _ _ => NZ)
    exact hret _ news _ _ (by assumption) (news_sub NZ fun q hq => .tail _ hq) ⟨⟨_, congrArg (fun x => Value.str x _) (by rw [hl2]; exact glued_ones (sg mode))⟩, rfl⟩
end Mine
end

section -- Codec
open PySem PySem.W PySem.Spec PySem.Calls PyProof.Rows PySem.Builtin PySem.Builtin._codecs
namespace Mine
theorem foldl_push (f : Nat → UInt8) : ∀ (l : List Nat) (acc : Array UInt8), l.foldl (fun acc y => acc ++ [f y].toArray) acc = acc ++ (l.map f).toArray
  | [], acc => by simp
  | a :: r, acc => by rw [List.foldl_cons, foldl_push f r]; simp
theorem enc12 (id : String) (self : Value) (s : Str) (hl : s.cps.size = 12) (hc : ∀ c ∈ s.cps, c < 128) : encodeNarrow id asciiCodec none self s = pure (s.cps.map Nat.toUInt8) := by
  unfold encodeNarrow
  dsimp only
  rw [Std.Legacy.Range.forIn_eq_forIn_range']
  have h12 : ([0:s.length] : Std.Legacy.Range).size = 12 := by simp [Std.Legacy.Range.size, Str.length, hl]
  have hr : List.range' 0 12 1 = [0, 1, 2, 3, 4, 5, 6, 7, 8, 9, 10, 11] := by decide
  have h0 : s.cps[0]? = some (s.cps[0]'(by omega)) := Array.getElem?_eq_getElem (by omega)
  have hb : asciiCodec.bad (s.cps[0]'(by omega)) = false := by
    have := hc _ (Array.getElem_mem (xs := s.cps) (i := 0) (by omega))
    show decide (s.cps[0] ≥ 128) = false
    exact decide_eq_false (by omega)
  have hx : s.cps.extract 0 s.cps.size = s.cps := by simp
  have hf : s.cps.findIdx? asciiCodec.bad = none := by
    rw [Array.findIdx?_eq_none_iff]
    intro c hm
    have := hc c hm
    exact decide_eq_false (show ¬ c ≥ 128 by omega)
  have hn : s.cps[12]? = none := Array.getElem?_eq_none (by omega)
  have hfold : s.cps.foldl (fun acc y => acc ++ (asciiCodec.bytesOf y).toArray) #[] = s.cps.map Nat.toUInt8 := by
    rw [← Array.foldl_toList]
    show s.cps.toList.foldl (fun acc y => acc ++ [y.toUInt8].toArray) #[] = _
    rw [foldl_push]
    apply Array.toList_inj.mp
    simp
  rw [h12]
  simp only [show ([0:s.length] : Std.Legacy.Range).start = 0 from rfl, show ([0:s.length] : Std.Legacy.Range).step = 1 from rfl, hr]
  have hz0 : ¬ ((#[] : Array UInt8).size > sizeLine) := by rw [sizeLine_eq]; simp
  have hz1 : ¬ ((s.cps.map Nat.toUInt8).size > sizeLine) := by rw [sizeLine_eq]; simp [hl]
  have two : ∀ {β γ : Type} (a b : Nat) (l : List Nat) (f : Nat → β → Sem (ForInStep β)) (i x y : β) (k : β → Sem γ), f a i = pure (.yield x) → f b x = pure (.done y) → (forIn (a :: b :: l) i f >>= k) = k y := by
    intro β γ a b l f i x y k e1 e2
    rw [List.forIn_cons, e1]
    simp only [pure_bind]
    rw [List.forIn_cons, e2]
    simp only [pure_bind]
  refine (two 0 1 _ _ _ (12, s.cps.map Nat.toUInt8, {}) (12, s.cps.map Nat.toUInt8, {}) _ ?_ ?_).trans ?_
  · refine (if_neg hz0).trans ?_
    dsimp only
    rw [h0]
    dsimp only
    rw [hb]
    simp only [Bool.not_false, if_true, hx, hf, Option.getD_none, hfold, Nat.zero_add]
    rw [hl]
  · refine (if_neg hz1).trans ?_
    dsimp only
    rw [hn]
  · rfl
open PySem in
theorem encode_tree2 (x : Str) (t u : Tok) : Builtin.«str.encode» ⟨[.str x t, .str (Str.ofString "ascii") u], []⟩ = (do ret (← encodeRoad "str.encode" (.str x t) x (Str.ofString "ascii") none)) := by kernel_rfl
theorem encodeRoad_ascii (id : String) (self : Value) (x : Str) : encodeRoad id self x (Str.ofString "ascii") none = (do mkBytes (← encodeNarrow id asciiCodec none self x)) := by
  first | rfl | (unfold encodeRoad; rfl) | (unfold encodeRoad; simp only []; rfl) | decide
theorem gives_encode (x : Str) (t u : Tok) (hl : x.cps.size = 12) (hc : ∀ c ∈ x.cps, c < 128) : Gives (Builtin.«str.encode» ⟨[.str x t, .str (Str.ofString "ascii") u], []⟩) (.bytes (x.cps.map Nat.toUInt8)) := by
  rw [encode_tree2, encodeRoad_ascii, enc12 _ _ _ hl hc]
  refine .of_wp fun M A E s Q hq => ?_
  exact wpAny_bind (wpAny_bind (wpAny_pure (wpAny_mkBytes (wpAny_pure ⟨_, rfl, hq.2⟩) hq.1)))
section
variable {prog : Program} {w : World} {A : Around} {E : Value → Shared → Prop} {s : Shared}
theorem enc_meth {x : Str} {t : Tok} {pl : Sem Bool} {Q : Value × List Value → Shared → Prop} (h : Q (.builtin "str.encode", [.str x t]) s) : wpAny (model prog w) A (getMethod (.str x t) (Str.ofString "encode") pl) Q E s :=
  getMethod_builtin (typeIs_str s x t) F.plainAttrs_str F.slot_str_encode F.type_str_encode (fun a e => nomatch e) h
theorem enc_call {x : Str} {t u : Tok} {Q : Value → Shared → Prop} (hl : x.cps.size = 12) (hc : ∀ c ∈ x.cps, c < 128) (h : Q (.bytes (x.cps.map Nat.toUInt8) s.toks) { s with toks := s.toks + 1 }) :
    wpAny (model prog w) A (call (.builtin "str.encode") [.str x t, .str (Str.ofString "ascii") u]) Q E s :=
  call_gives F.slot_str_encode (typeIs_str s x t) F.entry_str_encode (F.args_str_encode_2 _ _) (gives_encode x t u hl hc) ⟨by rw [sizeLine_eq]; simp [hl], h⟩
end
end Mine
end

section -- Trans
open PySem PySem.W PySem.Spec PySem.Calls PyProof.Rows PySem.Builtin
namespace Mine
noncomputable def tabOf (a b : Array UInt8) : Array UInt8 := (a.toList.zip b.toList).foldl (fun t (f, x) => t.setIfInBounds f.toNat x) ((Array.range 256).map (·.toUInt8))
noncomputable def trans (tab b : Array UInt8) : Array UInt8 := b.map fun c => tab.getD c.toNat c
theorem mk_check (a b : Value) : checkBuiltinCall "bytes.maketrans" ⟨[a, b], []⟩ = pure () := by kernel_rfl
theorem mk_find (K : Frag) : findCls K (.type "bytes") (.type "type") (Str.ofString "maketrans") = some (.val (.builtin "bytes.maketrans")) := by kernel_rfl
theorem mk_typeOf : typeOf (.type "bytes") = pure (.type "type") := by first | rfl | kernel_rfl
theorem mk_stub : Manifest.isStub "bytes" = false := by decide +kernel
theorem mk_plain : plainId "bytes.maketrans" = true := by decide +kernel
theorem mk_entry : entryFor table "bytes.maketrans" = some Builtin.«bytes.maketrans» := entryFor_of_tree (by kernel_rfl)
theorem bytesLike_eq (id : String) (b : Array UInt8) (t : Tok) : Bytes.bytesLike id (.bytes b t) = pure b := by
  unfold Bytes.bytesLike
  rw [KBy.buffer_eq]
  rfl
section
variable {prog : Program} {w : World} {A : Around} {E : Value → Shared → Prop} {s : Shared}
theorem mk_call {a b : Array UInt8} {t u : Tok} {Q : Value → Shared → Prop} (hs : a.size = b.size) (hz : (tabOf a b).size ≤ sizeLine) (h : Q (.bytes (tabOf a b) s.toks) { s with toks := s.toks + 1 }) :
    wpAny (model prog w) A (call (.builtin "bytes.maketrans") [.bytes a t, .bytes b u]) Q E s := by
  refine wpAny_call (codeAny_call_builtin mk_plain mk_entry (wpAny_of_eq (mk_check _ _) ?_))
  show wpAny _ _ (Bytes.maketransM .bytes ⟨[.bytes a t, .bytes b u], []⟩) _ _ _
  unfold Bytes.maketransM
  refine wpAny_bind (wpAny_of_eq (a := ()) rfl ?_)
  refine wpAny_bind (wpAny_of_eq (a := ()) rfl ?_)
  refine wpAny_bind (wpAny_of_eq (bytesLike_eq _ a t) ?_)
  refine wpAny_bind (wpAny_of_eq (bytesLike_eq _ b u) ?_)
  rw [if_neg (by simp [hs])]
  exact wpAny_bind (wpAny_mkBytes (wpAny_pure h) hz)
theorem tr_slot : Slot "bytes" (Str.ofString "translate") "bytes.translate" :=
  .of (owner := "bytes") (n := "translate") (by rw [typeLookup_type, builtinLookup_eq_fast]; kernel_rfl) (by decide +kernel) (by decide +kernel) (by decide +kernel)
    (by first | exact .inl (by decide +kernel) | exact .inr (by decide +kernel)) (by rw [isSubtype_type]; kernel_rfl)
theorem tr_type : typeOf (.builtin "bytes.translate") = pure (.type "method_descriptor") := by show builtinType _ = _; rw [builtinType_eq_fast]; kernel_rfl
theorem tr_entry : entryFor table "bytes.translate" = some Builtin.«bytes.translate» := entryFor_of_tree (by kernel_rfl)
theorem tr_args (a b : Value) : argsOk "bytes.translate" ⟨[a, b], []⟩ := by
  unfold argsOk; rw [signature?_of (id := "bytes.translate") (n := ['e', 't', 'a', 'l', 's', 'n', 'a', 'r', 't']) (o := ['s', 'e', 't', 'y', 'b']) (by kernel_rfl) FB.owner_bytes]; kernel_rfl
theorem tr_meth {b : Array UInt8} {t : Tok} {pl : Sem Bool} {Q : Value × List Value → Shared → Prop} (h : Q (.builtin "bytes.translate", [.bytes b t]) s) : wpAny (model prog w) A (getMethod (.bytes b t) (Str.ofString "translate") pl) Q E s :=
  by with_reducible exact KBd.method_of (.bytes b t) (typeIs_bytes _ _ _) tr_slot tr_type KBd.noRef h
theorem tr_call {b tab : Array UInt8} {t u : Tok} {Q : Value → Shared → Prop} (ht : tab.size = 256) (hb : b.size ≤ 1000) (h : ∀ t' k, Q (.bytes (trans tab b) t') { s with toks := k }) :
    wpAny (model prog w) A (call (.builtin "bytes.translate") [.bytes b t, .bytes tab u]) Q E s := by
  refine wpAny_call_entry tr_slot (typeIs_bytes s b t) tr_entry ?_ (tr_args _ _)
  show wpAny _ _ (Bytes.translateM .bytes ⟨[.bytes b t, .bytes tab u], []⟩) _ _ _
  unfold Bytes.translateM
  dsimp only
  rw [if_neg (by simp)]
  rw [if_neg (by simp)]
  rw [if_neg (show ¬ ((Value.bytes tab u == Value.none) = true) from Bool.false_ne_true)]
  refine wpAny_bind (wpAny_of_eq (bytesLike_eq _ tab u) ?_)
  rw [if_neg (by simp [ht])]
  refine wpAny_bind (wpAny_pure ?_)
  dsimp only
  refine wpAny_bind (wpAny_pure ?_)
  refine wpAny_bind (wpAny_of_eq (a := b) rfl ?_)
  have e : Array.map (fun c => tab.getD c.toNat c) (Array.filter (fun x => !(#[] : Array UInt8).contains x) b) = trans tab b := by
    unfold trans
    congr 1
    rw [Array.filter_eq_self]
    intro a _
    simp
  rw [e]
  by_cases hq : (trans tab b == b) = true
  · rw [if_pos hq]
    have hq' : trans tab b = b := eq_of_beq hq
    have hh := h t s.toks
    rw [hq'] at hh
    have es : Bytes.Kind.bytes.same (.bytes b t) = pure (.bytes b t) := by first | rfl | kernel_rfl
    exact wpAny_bind (wpAny_rule (wpAny_bind (wpAny_of_eq es (wpAny_pure ⟨_, rfl, hh⟩))))
  · rw [if_neg hq]
    refine wpAny_bind ?_
    show wpAny _ _ (mkBytes (trans tab b)) _ _ _
    refine wpAny_mkBytes (wpAny_pure ⟨_, rfl, h _ _⟩) (by unfold trans; rw [Array.size_map, sizeLine_eq]; omega)
end
end Mine
end

section -- B64d
open PySem PySem.W PySem.Spec PySem.Calls PyProof.Rows
set_option maxHeartbeats 8000000
namespace Mine
variable {prog : Program} {w : World} {p : Program} {loose : List Str} {mean : ExcName → Option Value} {mg mb : Str → Option Value}


theorem bfd_spec1 (x : Str) (tx : Tok) (news : List (Addr × Obj)) (hl : x.cps.size = 12) (hc : ∀ c ∈ x.cps, c < 128) : Spec prog w p loose mean mg mb 57 [.str x tx] 1 news (fun r news' => (∃ t', r = .bytes (x.cps.map Nat.toUInt8) t') ∧ news' = news) := by
  refine fill_at ?_
  k_fill
  unfold Filled Spec
  intro dp un gd cn cs a ccd cl outer A₀ base h₀ L m s Q E B F X N T hk hd hu hret
  refine wpAny_call ?_
  k_dflt ktr_enter
  rename_i g' L' h' FG' F' N' B' X' T'
  replace F' : Fr g' L' h' (fun y => List.lookup y [(Str.ofString "s", .str x tx)]) := F'
  walk_at "mine"
  refine enc_meth ?_
  walk_at "mine"
  refine enc_call hl hc ?_
  walk_at "mine"
  exact hret _ _ _ _ (by assumption) (by assumption) ⟨⟨_, rfl⟩, rfl⟩
theorem bfd_spec2 (b : Array UInt8) (tx : Tok) (news : List (Addr × Obj)) : Spec prog w p loose mean mg mb 57 [.bytes b tx] 1 news (fun r news' => r = .bytes b tx ∧ news' = news) := by
  refine fill_at ?_
  k_fill
  unfold Filled Spec
  intro dp un gd cn cs a ccd cl outer A₀ base h₀ L m s Q E B F X N T hk hd hu hret
  refine wpAny_call ?_
  k_dflt ktr_enter
  rename_i g' L' h' FG' F' N' B' X' T'
  replace F' : Fr g' L' h' (fun y => List.lookup y [(Str.ofString "s", .bytes b tx)]) := F'
  walk_at "mine"
  exact hret _ _ _ _ (by assumption) (by assumption) ⟨rfl, rfl⟩
theorem b64decode_spec (x : Str) (tx : Tok) (alt : Array UInt8) (halt : alt = #[45, 63] ∨ alt = #[63, 45]) (tb : Tok) (news : List (Addr × Obj)) (hl : x.cps.size = 12) (hc : ∀ c ∈ x.cps, c < 128) (hdig : ∀ c ∈ KBw.bInts (trans (tabOf alt #[43, 47]) (x.cps.map Nat.toUInt8)), b64v c < 64 ∧ 0 ≤ b64v c ∧ c ≠ 61) :
   Spec prog w p loose mean mg mb 107 [.str x tx, .bytes alt tb] 5 news (fun r news' => (∃ o t', r = .bytes o t' ∧ KBw.bInts o = (((KBw.bInts (trans (tabOf alt #[43, 47]) (x.cps.map Nat.toUInt8))).map b64v).foldl stepQ (0, 0, [])).2.2) ∧ news' = news) := by
  refine fill_at ?_
  k_fill
  unfold Filled Spec
  intro dp un gd cn cs a ccd cl outer A₀ base h₀ L m s Q E B F X N T hk hd hu hret
  refine wpAny_call ?_
  k_dflt (refine' code_def ?k1 ?k2 ?k3 ?k4 ?k5 ?kA ?kF ?kK ?k6 ?k7 ?k8 ?k9 ?kB ?_ ?c2 ?c3 ?c4 ?c5; (case kA => exact rfl); (case kF => exact rfl); (case kK => assumption); (case k1 => k_asm); (case k2 => k_asm); (case k3 => k_asm); (case k4 => k_asm); (case k5 => k_asm); (case k6 => k_is); (case k7 => k_is); (case k8 => ktr_room); (case k9 => exact binds_K (by k_in) rfl (by k_is) rfl rfl rfl); (case c5 => decide); (case kB => exact locs rfl); (case c2 => exact rfl); (case c3 => exact rfl); (case c4 => exact rfl); k_whole; intro g' L' h' FG' F' N' B' X' T'; (try dsimp only); (try k_fold))
  replace F' : Fr g' L' h' (fun y => List.lookup y [(Str.ofString "validate", .bool false), (Str.ofString "altchars", .bytes alt tb), (Str.ofString "s", .str x tx)]) := F'
  walk_at "mine"
  refine' Spec.use (bfd_spec1 x tx news hl hc) ?sB ?sF ?sX ?sN ?sT ?sK ?sD ?sU ?_
  walk_at "use"
  case sD => show dp + 1 + 1 < recursionLimit; omega
  case sU => show un + 3 + 40 * 1 < cLine; omega
  rintro r news' h3 tk3 F3 N3 ⟨⟨t3, rfl⟩, e3⟩
  rw [e3] at N3
  clear e3
  walk_at "mine"
  refine' Spec.use (bfd_spec2 alt tb news) ?sB ?sF ?sX ?sN ?sT ?sK ?sD ?sU ?_
  walk_at "use"
  case sD => show dp + 1 + 1 < recursionLimit; omega
  case sU => show un + 3 + 40 * 1 < cLine; omega
  rintro r news' h3 tk3 F3 N3 ⟨rfl, e3⟩
  rw [e3] at N3
  clear e3
  have hsz : alt.size = 2 := by rcases halt with rfl | rfl <;> rfl
  have htab : (tabOf alt #[43, 47]).size = 256 := by rcases halt with rfl | rfl <;> decide +kernel
  walk_at "mineE"
  refine eq_int ?_
  rw [show (((alt.size : Nat) : Int) == 2) = true by rw [hsz]; rfl]
  walk_at "mine"
  refine tr_meth ?_
  walk_at "mine"
  with_reducible refine' method_type (v := .builtin "bytes.maketrans") ?F ?X ?a ?b ?e ?hh ?_
  case F => assumption
  case X => assumption
  case a => exact mk_typeOf
  case b => exact mk_stub
  case e => exact mk_find _
  case hh => kernel_rfl
  walk_at "mine"
  refine mk_call hsz (by rw [htab, sizeLine_eq]; decide) ?_
  walk_at "mine"
  refine tr_call htab (by rw [Array.size_map, hl]; decide) ?_
  intro t9 k9
  walk_at "mine"
  refine' SpecK.use (a2b_spec (trans (tabOf alt #[43, 47]) (x.cps.map Nat.toUInt8)) t9 news hdig (by unfold trans; rw [Array.size_map, Array.size_map, hl])) ?sB ?sF ?sX ?sN ?sT ?sK ?sD ?sU ?_
  walk_at "use"
  case sD => show dp + 1 + 3 < recursionLimit; omega
  case sU => show un + 3 + 40 * 3 < cLine; omega
  rintro r news' h3 tk3 F3 N3 ⟨⟨o, t', rfl, ho⟩, e3⟩
  rw [e3] at N3
  clear e3
  walk_at "mine"
  exact hret _ _ _ _ (by assumption) (by assumption) ⟨⟨o, _, rfl, ho⟩, rfl⟩
end Mine
end

section -- Price
open PySem PySem.W PySem.Spec PySem.Calls PyProof.Rows
set_option maxHeartbeats 8000000
namespace Mine
variable {prog : Program} {w : World} {p : Program} {loose : List Str} {mean : ExcName → Option Value} {mg mb : Str → Option Value}

noncomputable def tr (alt : Array UInt8) (c : Nat) : Int := (((tabOf alt #[43, 47]).getD c.toUInt8.toNat c.toUInt8).toNat : Int)
noncomputable def digs (alt : Array UInt8) (mode : Int) : List Int := (sg mode ++ [65, 65]).map fun c => b64v (tr alt c)
noncomputable def octs (ds : List Int) : List Int := (ds.foldl stepQ (0, 0, [])).2.2
noncomputable def big (os : List Int) : Int := os.foldl (fun v o => v * 256 + o) 0
noncomputable def priceF (alt : Array UInt8) (mode : Int) : Int := big (octs (digs alt mode))
noncomputable def signs : List Nat := [108, 115, 45, 98, 100, 99, 112, 63, 114, 119, 83, 120, 116, 84, 65]
theorem pick_mem (i : Nat) (m : Int) : ∀ l : List (Addr × Int × Nat), (∀ e ∈ l, e.2.2 ∈ signs) → pick i m l ∈ signs
  | [], _ => by
    unfold pick
    split <;> decide
  | e :: r, h => by
    unfold pick
    split
    · exact h e (.head _)
    · exact pick_mem i m r fun e he => h e (.tail _ he)
theorem sg_mem (m : Int) : ∀ c ∈ sg m ++ [65, 65], c ∈ signs := by
  intro c hc
  rcases List.mem_append.mp hc with hc | hc
  · unfold sg at hc
    obtain ⟨e, he, rfl⟩ := List.mem_map.mp hc
    have : e.1 ∈ fmTab := by
      obtain ⟨a, b⟩ := e
      exact (List.mem_zipIdx' he).2 ▸ List.getElem_mem _
    refine pick_mem _ _ _ ?_
    have all : ∀ e ∈ fmTab, ∀ r ∈ e.2, r.2.2 ∈ signs := by decide
    exact all _ this
  · have : c = 65 := by simpa using hc
    rw [this]; decide
theorem sg_small (m : Int) : ∀ c ∈ sg m ++ [65, 65], c < 128 := by
  intro c hc
  have all : ∀ c ∈ signs, c < 128 := by decide
  exact all c (sg_mem m c hc)
theorem sg_dig {alt : Array UInt8} (halt : alt = #[45, 63] ∨ alt = #[63, 45]) (m : Int) : ∀ c ∈ (sg m ++ [65, 65]).map (tr alt), b64v c < 64 ∧ 0 ≤ b64v c ∧ c ≠ 61 := by
  intro c hc
  obtain ⟨d, hd, rfl⟩ := List.mem_map.mp hc
  have h1 := sg_mem m d hd
  rcases halt with rfl | rfl
  · have all : ∀ c ∈ signs, b64v (tr #[45, 63] c) < 64 ∧ 0 ≤ b64v (tr #[45, 63] c) ∧ tr #[45, 63] c ≠ 61 := by decide +kernel
    exact all d h1
  · have all : ∀ c ∈ signs, b64v (tr #[63, 45] c) < 64 ∧ 0 ≤ b64v (tr #[63, 45] c) ∧ tr #[63, 45] c ≠ 61 := by decide +kernel
    exact all d h1
structure VSt where
  v : Int
  t : Tok
theorem price_spec (alt : Array UInt8) (halt : alt = #[45, 63] ∨ alt = #[63, 45]) (mode : Int) (tm tb : Tok) (news : List (Addr × Obj)) : Spec prog w p loose mean mg mb 161 [.int mode tm, .bytes alt tb] 6 news (fun r news' => (∃ t', r = .int (priceF alt mode) t') ∧ news' = news) := by
  refine fill_at ?_
  k_fill
  unfold Filled Spec
  intro dp un gd cn cs a ccd cl outer A₀ base h₀ L m s Q E B F X N T hk hd hu hret
  refine wpAny_call ?_
  k_dflt ktr_enter
  rename_i g' L' h' FG' F' N' B' X' T'
  replace F' : Fr g' L' h' (fun y => List.lookup y [(Str.ofString "altchars", .bytes alt tb), (Str.ofString "mode", .int mode tm)]) := F'
  walk_at "mine"
  refine' For_invVF (by assumption) ?k1 ?k2 ?_
  case k1 => exact rfl
  case k2 => exact rfl
  walk_at "mine"
  refine' Spec.use (filemode_spec mode tm news) ?sB ?sF ?sX ?sN ?sT ?sK ?sD ?sU ?_
  walk_at "use"
  case sD => show dp + 1 + 3 < recursionLimit; omega
  case sU => show un + 3 + 40 * 3 < cLine; omega
  rintro r news' h3 tk3 F3 N3 ⟨⟨t3, rfl⟩, e3⟩
  rw [e3] at N3
  clear e3
  walk_at "mine"
  have hsl : (sg mode).length = 10 := by simp [sg, fmTab]
  have e12 : (⟨(sg mode).toArray⟩ : Str) ++ Str.ofString "AA" = ⟨(sg mode ++ [65, 65]).toArray⟩ := by
    have e : (Str.ofString "AA") = ⟨#[65, 65]⟩ := by decide
    rw [e]
    show (⟨(sg mode).toArray ++ #[65, 65]⟩ : Str) = _
    simp
  have e2 : (Str.ofString "AA").length = 2 := by decide
  refine add_str ?_ (by show (sg mode).toArray.size + _ ≤ _; rw [List.size_toArray, hsl, e2, sizeLine_eq]; decide)
  intro t12 k12
  rw [e12]
  walk_at "mine"
  have hbi : KBw.bInts (trans (tabOf alt #[43, 47]) ((⟨(sg mode ++ [65, 65]).toArray⟩ : Str).cps.map Nat.toUInt8)) = (sg mode ++ [65, 65]).map (tr alt) := by
    unfold KBw.bInts trans tr
    simp [Function.comp_def]
  refine' Spec.use (b64decode_spec ⟨(sg mode ++ [65, 65]).toArray⟩ _ alt halt tb news (by show ((sg mode ++ [65, 65]).toArray).size = 12; rw [List.size_toArray, List.length_append, hsl]; rfl) (by intro c hc; exact sg_small mode c (by simpa using hc)) (by rw [hbi]; exact sg_dig halt mode)) ?sB ?sF ?sX ?sN ?sT ?sK ?sD ?sU ?_
  walk_at "use"
  case sD => show dp + 1 + 5 < recursionLimit; omega
  case sU => show un + 3 + 40 * 5 < cLine; omega
  rintro r news' h3 tk3 F3 N3 ⟨⟨o, t3, rfl, ho⟩, e3⟩
  rw [e3] at N3
  clear e3
  rw [hbi, List.map_map] at ho
  refine' for_bytes (fun _ : VSt => news) (fun c => [(Str.ofString "value", .int c.v c.t)]) [] (fun pre c => c.v = big pre) ⟨0, _⟩ rfl (fun _ => rfl) F3 N3 ?kk ?kp ?turn ?done
  case kk =>
    intro q hq
    rw [List.mem_singleton.mp hq]
    rfl
  case kp => rfl
  case turn =>
    intro c pre post n t u h tk own hb h0 h1 hoff hP F1 N1
    clear F3 N3
    walk_at "mine"
    refine mul_int ?_ (IntMulOk.of_right (by decide))
    walk_at "mine"
    refine' fend (⟨c.v * 256 + n, _⟩ : VSt) ?kF ?kN ?kn ?ko ?kof ?kk ?kr ?kp
    case kF => assumption
    case kN => assumption
    case kn => intro q hq; exact List.mem_append_left own hq
    case ko => intro q hq; exact List.mem_append_right news hq
    case kof => exact hoff
    case kk => intro q hq; rw [List.mem_singleton.mp hq]; rfl
    case kr =>
      intro z h1z h2 h3
      have hz1 := h2 _ (.head _)
      dsimp only at hz1
      simp +zetaDelta [kstB, h1z, hz1]
    case kp => show c.v * 256 + n = big (pre ++ [n]); rw [hP]; unfold big; rw [List.foldl_append]; rfl
  case done =>
    intro c u h tk hP F1 N1
    clear F3 N3
    walk_at "mine"
    exact hret _ _ _ _ (by assumption) (by assumption) ⟨⟨_, congrArg (fun k => Value.int k _) (by rw [hP, ho]; rfl)⟩, rfl⟩
end Mine
end

section -- CompS
open PySem PySem.W PySem.Spec PySem.Calls PyProof.Rows PyProof.Rows.LCg
set_option maxHeartbeats 4000000
namespace Mine
section
variable {prog : Program} {w : World} {A : Around} {E : Value → Shared → Prop} {s : Shared} {h₀ : Heap} {L : Addr} {m : Str → Option Value} {env : Env}
theorem off1_all {D : Addr} : ∀ {l : List (Addr × Obj)}, Off1 D l → ∀ p ∈ l, p.1 ≠ D
  | [], _, p, hp => by cases hp
  | a :: r, o, p, hp => by
    rcases List.mem_cons.mp hp with rfl | hp
    · exact o.1
    · exact off1_all o.2 p hp
theorem srcA {elt : Expr} {x z : Str} {scope : Scope} {cl : List (Str × Addr)} {Q : Flow → Shared → Prop} {news0 : List (Addr × Obj)} {ax : Addr} {vs : List Value} {n : Nat} {s₁ : Shared} (J : Nat → List Value → List (Addr × Obj) → Prop) (hh : A.handled = none)
    (F : Fr h₀ L s₁.heap m) (N : News h₀ L s₁.heap news0) (hm : (ax, listOf vs.toArray n) ∈ news0) (hz : vs.length ≤ 1000)
    (turn : ∀ k v ys tl I oI C oC D m₂ h tk (E' : Value → Shared → Prop), vs[k]? = some v → J k ys tl → NsObj oC m₂ → m₂ x = some v → Fr h₀ L h m → News h₀ L h ([(I, oI), (C, oC), (D, lst ys)] ++ (tl ++ news0)) → (∀ p ∈ tl ++ news0, ∀ q ∈ [(I, oI), (C, oC), (D, lst ys)], p.1 ≠ q.1) →
      wpAny (model prog w) A (eval elt (compEnvC scope cl C env)) (ElPost h₀ L m s₁ [(I, oI), (C, oC), (D, lst ys)] news0 (J (k + 1)) ys) E' { s₁ with heap := h, toks := tk })
    (fin : ∀ D h tk ys tl, Fr h₀ L h (fun a => if a = z then some (.ref D) else m a) → News h₀ L h ((D, lst ys) :: (tl ++ news0)) → (∀ p ∈ tl ++ news0, p.1 ≠ D) → J vs.length ys tl → Q .next { s₁ with heap := h, toks := tk })
    (hJ : J 0 [] []) : CompSrc prog w A h₀ L m env elt x scope cl (fun s₂ => FinA h₀ L m s₂ z Q) (.ref ax) s₁ := by
  refine LCg.CompSrc.ledger hh F N hm (by rw [List.size_toArray, sizeLine_eq]; omega) fun g => ?_
  refine rest_J (s := { s₁ with heap := g }) J hm turn (fun ys tl hj => ?_) hJ
  intro D h tk F' N' o1
  exact fin D h tk ys tl F' N' (off1_all o1) hj
/-- an int of a ledger's list -/
theorem iitem_l {l : Addr} {value slice : PySem.Expr} {vs : List Value} {n : Nat} {ns : List Int} {news : List (Addr × Obj)} {k x : Int} {u : Tok} {Q : Value → Shared → Prop} (N : News h₀ L s.heap news) (hm : (l, listOf vs.toArray n) ∈ news) (I : IntsAre vs ns) (h0 : 0 ≤ k) (hx : ns[k.toNat]? = some x) (hfit : k < 2 ^ 63)
    (h : ∀ t, Q (.int x t) s)
    (hs : subscripted slice false (.ref l) (.int k u) = operate [.ref l, .int k u] (getItem (.ref l) (.int k u)) := by with_unfolding_all rfl) :
    wpAny (model prog w) A (subscriptTail value slice (.ref l) (.int k u)) Q E s := by
  obtain ⟨t, ht⟩ := I.get _ _ hx
  have hl : s.heap.IsList l vs.toArray := ⟨_, (N _ hm).1, rfl, n, rfl⟩
  exact tail_any hl.typeIs slot_list_getitem.lookup (wpAny_getItem_list hl h0 hfit (by simpa using ht) (h t)) hs
end
noncomputable abbrev C5 (L : Addr) (o1 o2 o3 o4 o5 : Obj) : List (Addr × Obj) := [(L + 1 + 1 + 1 + 1 + 1, o5), (L + 1 + 1 + 1 + 1, o4), (L + 1 + 1 + 1, o3), (L + 1 + 1, o2), (L + 1, o1)]
theorem updF_pre {d : Addr} {o : Obj} {l : List (Addr × Obj)} {g : Obj → List (Addr × Obj)} : ∀ {pre : List (Addr × Obj)}, (∀ p ∈ pre, p.1 ≠ d) → UpdF d o l g → UpdF d o (pre ++ l) (fun o' => pre ++ g o')
  | [], _, h => h
  | a :: r, hp, h => .tail (hp a (.head _)) (updF_pre (fun p hp' => hp p (.tail _ hp')) h)
theorem ne_lt {a b : Nat} (h : b < a) : (a : Addr) ≠ (b : Addr) := Nat.ne_of_gt h
noncomputable def OffA (L a : Addr) : Prop := a ≠ L + 1 ∧ a ≠ L + 1 + 1 ∧ a ≠ L + 1 + 1 + 1 ∧ a ≠ L + 1 + 1 + 1 + 1 ∧ a ≠ L + 1 + 1 + 1 + 1 + 1
noncomputable def OffC (L : Addr) (rest : List (Addr × Obj)) : Prop := ∀ p ∈ rest, OffA L p.1
section
variable {L : Addr} {o1 o2 o3 o4 o5 : Obj} {rest : List (Addr × Obj)}
theorem offA_of {a : Addr} (h : ∀ q ∈ rest ++ C5 L o1 o2 o3 o4 o5, q.1 ≠ a) : OffA L a :=
  have z : ∀ q ∈ C5 L o1 o2 o3 o4 o5, q.1 ≠ a := fun q hq => h q (List.mem_append_right _ hq)
  ⟨(z _ (.tail _ (.tail _ (.tail _ (.tail _ (.head _)))))).symm, (z _ (.tail _ (.tail _ (.tail _ (.head _))))).symm, (z _ (.tail _ (.tail _ (.head _)))).symm, (z _ (.tail _ (.head _))).symm, (z _ (.head _)).symm⟩
theorem offA_lt {a : Addr} (h : ∀ q ∈ rest ++ C5 L o1 o2 o3 o4 o5, q.1 < a) : OffA L a := offA_of (o1 := o1) (o2 := o2) (o3 := o3) (o4 := o4) (o5 := o5) fun q hq => Nat.ne_of_lt (h q hq)
theorem up_1 (h : OffC L rest) : UpdF (L + 1) o1 (rest ++ C5 L o1 o2 o3 o4 o5) (fun o => rest ++ C5 L o o2 o3 o4 o5) :=
  updF_pre (fun p hp => (h p hp).1) (.tail (ne_lt (by omega)) (.tail (ne_lt (by omega)) (.tail (ne_lt (by omega)) (.tail (ne_lt (by omega)) (.head fun p hp => nomatch hp)))))
theorem up_2 (h : OffC L rest) : UpdF (L + 1 + 1) o2 (rest ++ C5 L o1 o2 o3 o4 o5) (fun o => rest ++ C5 L o1 o o3 o4 o5) := by
  refine updF_pre (fun p hp => (h p hp).2.1) (.tail (ne_lt (by omega)) (.tail (ne_lt (by omega)) (.tail (ne_lt (by omega)) (.head fun p hp => ?_))))
  rw [List.mem_singleton.mp hp]; exact Nat.ne_of_lt (by omega)
theorem up_3 (h : OffC L rest) : UpdF (L + 1 + 1 + 1) o3 (rest ++ C5 L o1 o2 o3 o4 o5) (fun o => rest ++ C5 L o1 o2 o o4 o5) := by
  refine updF_pre (fun p hp => (h p hp).2.2.1) (.tail (ne_lt (by omega)) (.tail (ne_lt (by omega)) (.head fun p hp => ?_)))
  simp only [List.mem_cons, List.not_mem_nil, or_false] at hp
  rcases hp with rfl | rfl <;> exact Nat.ne_of_lt (by omega)
theorem up_4 (h : OffC L rest) : UpdF (L + 1 + 1 + 1 + 1) o4 (rest ++ C5 L o1 o2 o3 o4 o5) (fun o => rest ++ C5 L o1 o2 o3 o o5) := by
  refine updF_pre (fun p hp => (h p hp).2.2.2.1) (.tail (ne_lt (by omega)) (.head fun p hp => ?_))
  simp only [List.mem_cons, List.not_mem_nil, or_false] at hp
  rcases hp with rfl | rfl | rfl <;> exact Nat.ne_of_lt (by omega)
theorem up_5 (h : OffC L rest) : UpdF (L + 1 + 1 + 1 + 1 + 1) o5 (rest ++ C5 L o1 o2 o3 o4 o5) (fun o => rest ++ C5 L o1 o2 o3 o4 o) := by
  refine updF_pre (fun p hp => (h p hp).2.2.2.2) (.head fun p hp => ?_)
  simp only [List.mem_cons, List.not_mem_nil, or_false] at hp
  rcases hp with rfl | rfl | rfl | rfl <;> exact Nat.ne_of_lt (by omega)
end
theorem opq {h₀ h : Heap} {L : Addr} {l : List (Addr × Obj)} (N : News h₀ L h l) : ∃ l', l' = l ∧ News h₀ L h l' := ⟨l, rfl, N⟩
section
variable {L : Addr} {o1 o2 o3 o4 o5 : Obj} {rest : List (Addr × Obj)}
theorem mc1 : (L + 1, o1) ∈ rest ++ C5 L o1 o2 o3 o4 o5 := List.mem_append_right _ (.tail _ (.tail _ (.tail _ (.tail _ (.head _)))))
theorem mc2 : (L + 1 + 1, o2) ∈ rest ++ C5 L o1 o2 o3 o4 o5 := List.mem_append_right _ (.tail _ (.tail _ (.tail _ (.head _))))
theorem mc3 : (L + 1 + 1 + 1, o3) ∈ rest ++ C5 L o1 o2 o3 o4 o5 := List.mem_append_right _ (.tail _ (.tail _ (.head _)))
theorem mc4 : (L + 1 + 1 + 1 + 1, o4) ∈ rest ++ C5 L o1 o2 o3 o4 o5 := List.mem_append_right _ (.tail _ (.head _))
theorem mc5 : (L + 1 + 1 + 1 + 1 + 1, o5) ∈ rest ++ C5 L o1 o2 o3 o4 o5 := List.mem_append_right _ (.head _)
end
noncomputable def xorS (ms : List Int) (b : Int) : List Int := ms ++ ms.map fun m => Builtin.bitXor m b
noncomputable def modesF (start : Int) (bits : List Int) : List Int := bits.foldl xorS [start]
theorem modesF_len (start : Int) (bits : List Int) : (modesF start bits).length = 2 ^ bits.length := by
  unfold modesF
  suffices h : ∀ ms : List Int, (bits.foldl xorS ms).length = ms.length * 2 ^ bits.length by simpa using h [start]
  induction bits with
  | nil => intro ms; simp
  | cons b r ih =>
    intro ms
    rw [List.foldl_cons, ih, List.length_cons, Nat.pow_succ]
    unfold xorS
    rw [List.length_append, List.length_map, Nat.add_mul, Nat.mul_comm (2 ^ r.length) 2, ← Nat.mul_assoc, Nat.mul_comm ms.length 2, Nat.mul_assoc, Nat.two_mul]
end Mine
end

section -- SortP
open PySem PySem.W PySem.Spec PySem.Calls PyProof.Rows
namespace Mine
structure OrdN (N : Nat) (lt : Nat → Nat → Bool) : Prop where
  trans : ∀ i j k, i < N → j < N → k < N → lt i j = true → lt j k = true → lt i k = true
  tot : ∀ i j, i < N → j < N → i ≠ j → lt i j = false → lt j i = true
noncomputable def PM (N : Nat) (p : Array Nat) : Prop := p.toList.Perm (List.range N)
noncomputable abbrev gd (p : Array Nat) (i : Nat) : Nat := p.getD i 0
noncomputable def So (lt : Nat → Nat → Bool) (p : Array Nat) (k : Nat) : Prop := ∀ i j, i < j → j < k → lt (gd p i) (gd p j) = true
noncomputable def Dso (lt : Nat → Nat → Bool) (p : Array Nat) (k : Nat) : Prop := ∀ i j, i < j → j < k → lt (gd p j) (gd p i) = true
theorem PM.size {N : Nat} {p : Array Nat} (h : PM N p) : p.size = N := by
  have := h.length_eq
  simpa using this
theorem gd_eq {p : Array Nat} {i : Nat} (h : i < p.size) : p.toList[i]? = some (gd p i) := by
  simp [gd, Array.getD, h]
theorem gd_of {p q : Array Nat} {i j : Nat} (h : p[i]? = q[j]?) : gd p i = gd q j := by
  unfold gd
  rw [Array.getD_eq_getD_getElem?, Array.getD_eq_getD_getElem?, h]
theorem PM.lt {N : Nat} {p : Array Nat} (h : PM N p) {i : Nat} (hi : i < N) : gd p i < N := by
  have e := gd_eq (p := p) (i := i) (by rw [h.size]; exact hi)
  exact List.mem_range.mp (h.mem_iff.mp (List.mem_of_getElem? e))
theorem PM.inj {N : Nat} {p : Array Nat} (h : PM N p) {i j : Nat} (hi : i < N) (hj : j < N) (hne : i ≠ j) : gd p i ≠ gd p j := by
  intro e
  have nd : p.toList.Nodup := h.nodup_iff.mpr List.nodup_range
  have e1 := gd_eq (p := p) (i := i) (by rw [h.size]; exact hi)
  have e2 := gd_eq (p := p) (i := j) (by rw [h.size]; exact hj)
  rw [← e] at e2
  exact hne ((List.getElem?_inj (by rw [Array.length_toList, h.size]; exact hi) nd).mp (e1.trans e2.symm))
section
variable {N : Nat} {lt : Nat → Nat → Bool} {cmp : Nat → Nat → (Bool → Shared → Prop) → Shared → Prop} {s : Shared}
theorem asc_wp (O : OrdN N lt) (hc : ∀ i j (C : Bool → Shared → Prop), i < N → j < N → C (lt i j) s → cmp i j C s) {p : Array Nat} (hp : PM N p) {Q : Nat → Shared → Prop} : ∀ f n, 1 ≤ n → n + f ≤ N → So lt p n →
    (∀ m, n ≤ m → m ≤ n + f → So lt p m → (m < n + f → lt (gd p m) (gd p (m - 1)) = true) → Q m s) → (kas_asc p f n).kasWp cmp Q s
  | 0, n, h1, hn, hs, hQ => hQ n (Nat.le_refl _) (Nat.le_refl _) hs (fun h => absurd h (Nat.lt_irrefl _))
  | f + 1, n, h1, hn, hs, hQ => by
    show cmp (gd p n) (gd p (n - 1)) _ s
    refine hc _ _ _ (hp.lt (by omega)) (hp.lt (by omega)) ?_
    cases hl : lt (gd p n) (gd p (n - 1)) with
    | true => exact hQ n (Nat.le_refl _) (by omega) hs (fun _ => hl)
    | false =>
      have hl' := O.tot _ _ (hp.lt (show n < N by omega)) (hp.lt (show n - 1 < N by omega)) (hp.inj (by omega) (by omega) (by omega)) hl
      refine asc_wp O hc hp f (n + 1) (by omega) (by omega) (fun i j hij hj => ?_) (fun m h2 h3 => hQ m (by omega) (by omega) |> fun z hs' hst => z hs' (fun h => hst (by omega)))
      by_cases hjn : j < n
      · exact hs i j hij hjn
      · obtain rfl : j = n := by omega
        by_cases hin : i = j - 1
        · rw [hin]; exact hl'
        · exact O.trans _ _ _ (hp.lt (by omega)) (hp.lt (by omega)) (hp.lt (by omega)) (hs i (j - 1) (by omega) (by omega)) hl'
theorem desc_wp (O : OrdN N lt) (hc : ∀ i j (C : Bool → Shared → Prop), i < N → j < N → C (lt i j) s → cmp i j C s) {p : Array Nat} (hp : PM N p) {Q : Array Nat × Nat × Nat → Shared → Prop} : ∀ f n, 1 ≤ n → n + f ≤ N → Dso lt p n →
    (∀ m, n ≤ m → m ≤ n + f → Dso lt p m → Q (p, m, 0) s) → (kas_desc f p n 0).kasWp cmp Q s
  | 0, n, h1, hn, hs, hQ => hQ n (Nat.le_refl _) (Nat.le_refl _) hs
  | f + 1, n, h1, hn, hs, hQ => by
    show cmp (gd p n) (gd p (n - 1)) _ s
    refine hc _ _ _ (hp.lt (by omega)) (hp.lt (by omega)) ?_
    cases hl : lt (gd p n) (gd p (n - 1)) with
    | true =>
      simp only [if_true]
      rw [if_neg (by omega)]
      refine desc_wp O hc hp f (n + 1) (by omega) (by omega) (fun i j hij hj => ?_) (fun m h2 h3 => hQ m (by omega) (by omega))
      by_cases hjn : j < n
      · exact hs i j hij hjn
      · obtain rfl : j = n := by omega
        by_cases hin : i = j - 1
        · rw [hin]; exact hl
        · exact O.trans _ _ _ (hp.lt (by omega)) (hp.lt (by omega)) (hp.lt (by omega)) hl (hs i (j - 1) (by omega) (by omega))
    | false =>
      simp only [Bool.false_eq_true, if_false]
      have hl' := O.tot _ _ (hp.lt (show n < N by omega)) (hp.lt (show n - 1 < N by omega)) (hp.inj (by omega) (by omega) (by omega)) hl
      show cmp (gd p (n - 1)) (gd p n) _ s
      refine hc _ _ _ (hp.lt (by omega)) (hp.lt (by omega)) ?_
      rw [hl']
      simp only [if_true]
      exact hQ n (Nat.le_refl _) (by omega) hs
theorem rev_pm {p : Array Nat} (hp : PM N p) (n : Nat) : PM N (kas_rev p 0 n) := (mirror_perm p 0 n ((n - 0) / 2)).toList.trans hp
theorem rev_so {p : Array Nat} (hp : PM N p) {n : Nat} (hn : n ≤ N) (hd : Dso lt p n) : So lt (kas_rev p 0 n) n := by
  intro i j hij hj
  have g : ∀ k, k < n → gd (kas_rev p 0 n) k = gd p (n - 1 - k) := by
    intro k hk
    refine gd_of ?_
    have e := getElem?_mirror_all (xs := p) (i := 0) (j := n) (by rw [hp.size]; exact hn) k
    rw [if_pos ⟨Nat.zero_le _, hk⟩] at e
    show (mirror p 0 n ((n - 0) / 2))[k]? = _
    rw [e, Nat.zero_add]
  rw [g i (by omega), g j hj]
  exact hd _ _ (by omega) (by omega)
theorem tail3_wp (O : OrdN N lt) (hc : ∀ i j (C : Bool → Shared → Prop), i < N → j < N → C (lt i j) s → cmp i j C s) {p : Array Nat} (hp : PM N p) {Q : Nat × Array Nat → Shared → Prop} {n : Nat} (h1 : 1 ≤ n) (hn : n ≤ N) (hd : Dso lt p n)
    (hQ : ∀ m p', 1 ≤ m → m ≤ N → PM N p' → So lt p' m → Q (m, p') s) : (kas_tail3 n N p).kasWp cmp Q s := by
  unfold kas_tail3
  rw [KasT.kasWp_bind]
  refine asc_wp O hc (rev_pm hp n) (N - n) n h1 (by omega) (rev_so hp hn hd) fun m h2 h3 hs _ => ?_
  exact hQ m _ (by omega) (by omega) (rev_pm hp n) hs
theorem count_wp (O : OrdN N lt) (hc : ∀ i j (C : Bool → Shared → Prop), i < N → j < N → C (lt i j) s → cmp i j C s) {p : Array Nat} (hp : PM N p) {Q : Nat × Array Nat → Shared → Prop} (h1 : 1 ≤ N)
    (hQ : ∀ m p', 1 ≤ m → m ≤ N → PM N p' → So lt p' m → Q (m, p') s) : (kas_count N p).kasWp cmp Q s := by
  unfold kas_count
  rw [KasT.kasWp_bind]
  refine asc_wp O hc hp (N - 1) 1 (Nat.le_refl _) (by omega) (fun i j hij hj => by omega) fun m h2 h3 hs hst => ?_
  by_cases hm : m = N
  · rw [if_pos (by rw [hm]; exact beq_self_eq_true _)]
    exact hQ m p (by omega) (by omega) hp hs
  · rw [if_neg (by simpa using hm)]
    by_cases hm1 : m > 1
    · rw [if_pos hm1]
      show cmp (gd p 0) (gd p (m - 1)) _ s
      refine hc _ _ _ (hp.lt (by omega)) (hp.lt (by omega)) ?_
      rw [hs 0 (m - 1) (by omega) (by omega)]
      simp only [if_true]
      exact hQ m p (by omega) (by omega) hp hs
    · rw [if_neg hm1]
      obtain rfl : m = 1 := by omega
      have h10 := hst (by omega)
      unfold kas_descPart
      rw [KasT.kasWp_bind]
      refine desc_wp O hc hp (N - (1 + 1)) (1 + 1) (by omega) (by omega) (fun i j hij hj => ?_) fun m h4 h5 hd => ?_
      · obtain rfl : j = 1 := by omega
        obtain rfl : i = 0 := by omega
        exact h10
      · dsimp only
        rw [if_neg (by omega)]
        exact tail3_wp O hc hp (by omega) (by omega) hd hQ
theorem place_wp (O : OrdN N lt) (hc : ∀ i j (C : Bool → Shared → Prop), i < N → j < N → C (lt i j) s → cmp i j C s) {p : Array Nat} (hp : PM N p) {Q : Nat → Shared → Prop} {k : Nat} (hk : k < N) (hs : So lt p k) : ∀ f l r, l ≤ r → r ≤ k → r - l ≤ f →
    (∀ i, i < l → lt (gd p i) (gd p k) = true) → (∀ i, r ≤ i → i < k → lt (gd p k) (gd p i) = true) →
    (∀ l', l' ≤ k → (∀ i, i < l' → lt (gd p i) (gd p k) = true) → (∀ i, l' ≤ i → i < k → lt (gd p k) (gd p i) = true) → Q l' s) → (kas_place p k f l r).kasWp cmp Q s
  | 0, l, r, h1, h2, h3, lo, hi, hQ => hQ l (by omega) lo (fun i hi1 hi2 => hi i (by omega) hi2)
  | f + 1, l, r, h1, h2, h3, lo, hi, hQ => by
    unfold kas_place
    by_cases hlr : l ≥ r
    · rw [if_pos hlr]
      exact hQ l (by omega) lo (fun i hi1 hi2 => hi i (by omega) hi2)
    · rw [if_neg hlr]
      have hm1 : (l + r) / 2 < r := by omega
      have hm2 : l ≤ (l + r) / 2 := by omega
      generalize (l + r) / 2 = mid at *
      show cmp (gd p k) (gd p mid) _ s
      refine hc _ _ _ (hp.lt hk) (hp.lt (by omega)) ?_
      cases hl : lt (gd p k) (gd p mid) with
      | true =>
        simp only [if_true]
        refine place_wp O hc hp hk hs f l mid hm2 (by omega) (by omega) lo (fun i hi1 hi2 => ?_) hQ
        by_cases him : i = mid
        · rw [him]; exact hl
        · exact O.trans _ _ _ (hp.lt hk) (hp.lt (by omega)) (hp.lt (by omega)) hl (hs mid i (by omega) hi2)
      | false =>
        simp only [Bool.false_eq_true, if_false]
        have hl' := O.tot _ _ (hp.lt hk) (hp.lt (show mid < N by omega)) (hp.inj hk (by omega) (by omega)) hl
        refine place_wp O hc hp hk hs f (mid + 1) r (by omega) h2 (by omega) (fun i hi1 => ?_) hi hQ
        by_cases him : i = mid
        · rw [him]; exact hl'
        · exact O.trans _ _ _ (hp.lt (by omega)) (hp.lt (by omega)) (hp.lt hk) (hs i mid (by omega) (by omega)) hl'
theorem bub_so {p : Array Nat} (hp : PM N p) {k l : Nat} (hk : k < N) (hl : l ≤ k) (hs : So lt p k) (lo : ∀ i, i < l → lt (gd p i) (gd p k) = true) (hi : ∀ i, l ≤ i → i < k → lt (gd p k) (gd p i) = true) : So lt (bubble p k (k - l)) (k + 1) := by
  have g : ∀ j, gd (bubble p k (k - l)) j = if j = l then gd p k else if l < j ∧ j ≤ k then gd p (j - 1) else gd p j := by
    intro j
    have e := getElem?_bubble (xs := p) (src := k) (by rw [hp.size]; exact hk) (k - l) (by omega) j
    rw [show k - (k - l) = l by omega] at e
    by_cases h1 : j = l
    · rw [if_pos h1] at e ⊢; exact gd_of e
    · rw [if_neg h1] at e ⊢
      by_cases h2 : l < j ∧ j ≤ k
      · rw [if_pos h2] at e ⊢; exact gd_of e
      · rw [if_neg h2] at e ⊢; exact gd_of e
  intro i j hij hj
  rw [g i, g j]
  by_cases h1 : i = l
  · rw [if_pos h1, if_neg (by omega), if_pos (by omega)]
    exact hi _ (by omega) (by omega)
  · rw [if_neg h1]
    by_cases h2 : j = l
    · rw [if_pos h2, if_neg (by omega)]
      exact lo i (by omega)
    · rw [if_neg h2]
      by_cases h3 : l < i ∧ i ≤ k
      · rw [if_pos h3, if_pos (by omega)]
        exact hs _ _ (by omega) (by omega)
      · rw [if_neg h3]
        by_cases h4 : l < j ∧ j ≤ k
        · rw [if_pos h4]
          exact hs _ _ (by omega) (by omega)
        · rw [if_neg h4]
          exact hs _ _ (by omega) (by omega)
theorem bin_wp (O : OrdN N lt) (hc : ∀ i j (C : Bool → Shared → Prop), i < N → j < N → C (lt i j) s → cmp i j C s) {Q : Array Nat → Shared → Prop} (hQ : ∀ p, PM N p → So lt p N → Q p s) : ∀ f k (p : Array Nat), PM N p → k + f = N → So lt p k → (kas_bin f p k).kasWp cmp Q s
  | 0, k, p, hp, hk, hs => hQ p hp (by rw [← hk]; exact hs)
  | f + 1, k, p, hp, hk, hs => by
    unfold kas_bin
    rw [KasT.kasWp_bind]
    refine place_wp O hc hp (by omega) hs k 0 k (Nat.zero_le _) (Nat.le_refl _) (by omega) (fun i hi => by omega) (fun i h1 h2 => by omega) fun l hl lo hi => ?_
    exact bin_wp O hc hQ f (k + 1) _ ((bubble_perm p k (k - l)).toList.trans hp) (by omega) (bub_so hp (by omega) hl hs lo hi)
theorem sort_wp (O : OrdN N lt) (hc : ∀ i j (C : Bool → Shared → Prop), i < N → j < N → C (lt i j) s → cmp i j C s) {Q : Array Nat → Shared → Prop} (h1 : 1 ≤ N) (hQ : ∀ p, PM N p → So lt p N → Q p s) : (kas_sort N).kasWp cmp Q s := by
  unfold kas_sort
  rw [KasT.kasWp_bind]
  refine count_wp O hc (List.Perm.refl _) h1 fun m p' h2 h3 hp hs => ?_
  dsimp only
  by_cases hm : m < N
  · rw [if_pos hm, Nat.max_eq_left h2]
    exact bin_wp O hc hQ (N - m) m p' hp (by omega) hs
  · rw [if_neg hm]
    obtain rfl : m = N := by omega
    exact hQ p' hp hs
end
end Mine
end

section -- Sort3
open PySem PySem.W PySem.Spec PySem.Calls PyProof.Rows
namespace Mine
noncomputable abbrev T3 := Int × Int × Int
noncomputable def lt3 (x y : T3) : Bool := decide (x.1 < y.1 ∨ (x.1 = y.1 ∧ (x.2.1 < y.2.1 ∨ (x.2.1 = y.2.1 ∧ x.2.2 < y.2.2))))
theorem td_ref {tl : List (Addr × Obj)} {v : Value} {x : T3} (h : DatIn tl v (td x)) : ∃ a t u z n, v = .ref a ∧ (a, tupO [.int x.1 t, .int x.2.1 u, .int x.2.2 z] n) ∈ tl := by
  cases h with
  | tuple hm hr =>
    cases hr with
    | cons h1 hr =>
      cases hr with
      | cons h2 hr =>
        cases hr with
        | cons h3 hr =>
          cases hr
          cases h1
          cases h2
          cases h3
          exact ⟨_, _, _, _, _, rfl, hm⟩
section
variable {prog : Program} {w : World} {A : Around} {E : Value → Shared → Prop} {s : Shared} {h₀ : Heap} {L : Addr} {m : Str → Option Value} {news : List (Addr × Obj)}
theorem key3 {a b : Addr} {x y : T3} {t1 t2 t3 u1 u2 u3 : Tok} {n1 n2 : Nat} {Q : Bool → Shared → Prop} (ha : s.heap.get? a = some (tupO [.int x.1 t1, .int x.2.1 t2, .int x.2.2 t3] n1)) (hb : s.heap.get? b = some (tupO [.int y.1 u1, .int y.2.1 u2, .int y.2.2 u3] n2))
    (h : Q (lt3 x y) s) : wpAny (model prog w) A (keyLt' (tuples' true) (.ref a) (.ref b)) Q E s := by
  refine kat_lt ha rfl hb rfl ?_
  obtain ⟨c1, m1, w1⟩ := x
  obtain ⟨c2, m2, w2⟩ := y
  show KatLex prog w A true false Q [(.int c1 t1, .int c2 u1), (.int m1 t2, .int m2 u2), (.int w1 t3, .int w2 u3)] 0 s
  refine kat_cons (wpAny_eqBool_int ?_)
  by_cases hc : c1 = c2
  · subst hc
    rw [beq_self_eq_true]
    refine kat_yes (kat_cons (wpAny_eqBool_int ?_))
    by_cases hm : m1 = m2
    · subst hm
      rw [beq_self_eq_true]
      refine kat_yes (kat_cons (wpAny_eqBool_int ?_))
      by_cases hw : w1 = w2
      · subst hw
        rw [beq_self_eq_true]
        have e : lt3 (c1, m1, w1) (c1, m1, w1) = false := by simp [lt3]
        rw [e] at h
        exact kat_yes (kat_nil h)
      · rw [beq_eq_false_iff_ne.mpr hw]
        have e : lt3 (c1, m1, w1) (c1, m1, w2) = decide (w1 < w2) := by simp [lt3]
        rw [e] at h
        exact kat_no (kat_one _ _ (lt_int h))
    · rw [beq_eq_false_iff_ne.mpr hm]
      have e : lt3 (c1, m1, w1) (c1, m2, w2) = decide (m1 < m2) := by simp [lt3, hm]
      rw [e] at h
      exact kat_no (kat_one _ _ (lt_int h))
  · rw [beq_eq_false_iff_ne.mpr hc]
    have e : lt3 (c1, m1, w1) (c2, m2, w2) = decide (c1 < c2) := by simp [lt3, hc]
    rw [e] at h
    exact kat_no (oneLt_int h)
theorem lt3_trans {x y z : T3} (h1 : lt3 x y = true) (h2 : lt3 y z = true) : lt3 x z = true := by
  simp only [lt3, decide_eq_true_eq] at *
  omega
theorem lt3_tot {x y : T3} (hne : x ≠ y) (h : lt3 x y = false) : lt3 y x = true := by
  obtain ⟨a, b, c⟩ := x
  obtain ⟨a', b', c'⟩ := y
  have hn : ¬ (a = a' ∧ b = b' ∧ c = c') := fun ⟨h1, h2, h3⟩ => hne (by rw [h1, h2, h3])
  simp only [lt3, decide_eq_true_eq, decide_eq_false_iff_not] at *
  omega
theorem tups3 {tl : List (Addr × Obj)} {h : Heap} (N : ∀ p ∈ tl, h.get? p.1 = some p.2) : ∀ {vs : List Value} {xs : List T3}, DatAll tl vs (xs.map td) → ∃ fs, KatTups h vs fs ∧ fs.length = vs.length ∧ ∀ v ∈ fs, ∃ i t, v = Value.int i t
  | [], [], _ => ⟨[], .nil, rfl, fun v hv => nomatch hv⟩
  | v :: vs, x :: xs, h => by
    cases h with
    | cons h1 h2 =>
      obtain ⟨a, t, u, z, n, rfl, hm⟩ := td_ref h1
      obtain ⟨fs, k1, k2, k3⟩ := tups3 N h2
      refine ⟨.int x.1 t :: fs, .cons (N _ hm) rfl rfl rfl k1, by simp [k2], ?_⟩
      intro v hv
      rcases List.mem_cons.mp hv with rfl | hv
      · exact ⟨_, _, rfl⟩
      · exact k3 v hv
theorem sorted3 {l : Addr} {vs : List Value} {n : Nat} {xs : List T3} {tl : List (Addr × Obj)} {Q : Value → Shared → Prop} (F : Fr h₀ L s.heap m) (N : News h₀ L s.heap news) (hm : (l, listOf vs.toArray n) ∈ news) (hD : DatAll tl vs (xs.map td)) (htl : ∀ p ∈ tl, p ∈ news) (hnd : xs.Nodup) (h2 : 2 ≤ xs.length) (h16 : xs.length ≤ 16)
    (h : ∀ (B : Addr) (ws : List Value) (c : Nat) (ys : List T3) (h' : Heap), Fr h₀ L h' m → News h₀ L h' ((B, listOf ws.toArray c) :: news) → ys.Perm xs → ys.Pairwise (fun a b => lt3 a b = true) → DatAll tl ws (ys.map td) → Q (.ref B) { s with heap := h' }) :
    wpAny (model prog w) A (call (.builtin "sorted") [.ref l]) Q E s := by
  have hvl : vs.length = xs.length := by rw [hD.length, List.length_map]
  refine kat_sorted F N ⟨_, (N _ hm).1, rfl, n, rfl⟩ (by omega) (by omega) ?_
  intro D e1 h' F' N' hlt
  have tlh : ∀ p ∈ tl, h'.get? p.1 = some p.2 := fun p hp => (N' p (.tail _ (htl p hp))).1
  obtain ⟨fs, k1, k2, k3⟩ := tups3 tlh hD
  refine kat_kind (T := .type "int") k1 (by omega) (fun v hv => ?_) (by decide) ?_
  · obtain ⟨i, t, rfl⟩ := k3 v hv
    exact Looks.of_pure rfl
  rw [show ((Value.type "int") != Value.type "tuple") = true by decide, hvl]
  have dv : ((0, 0, 0) : T3) = (0, 0, 0) := rfl
  have at' : ∀ i, i < xs.length → ∃ a t u z k, vs.getD i Value.none = .ref a ∧ (a, tupO [.int (xs.getD i (0, 0, 0)).1 t, .int (xs.getD i (0, 0, 0)).2.1 u, .int (xs.getD i (0, 0, 0)).2.2 z] k) ∈ tl := by
    intro i hi
    obtain ⟨v, hv, dv⟩ := hD.get (k := i) (by rw [List.length_map]; exact hi)
    rw [List.getElem_map] at dv
    obtain ⟨a, t, u, z, k, rfl, hmm⟩ := td_ref dv
    refine ⟨a, t, u, z, k, by rw [List.getD_eq_getElem?_getD, hv]; rfl, ?_⟩
    rw [List.getD_eq_getElem?_getD, List.getElem?_eq_getElem hi]
    exact hmm
  have inj : ∀ i j, i < xs.length → j < xs.length → i ≠ j → xs.getD i (0, 0, 0) ≠ xs.getD j (0, 0, 0) := by
    intro i j hi hj hne e
    rw [List.getD_eq_getElem?_getD, List.getD_eq_getElem?_getD, List.getElem?_eq_getElem hi, List.getElem?_eq_getElem hj] at e
    refine hne ((List.getElem?_inj hi hnd).mp ?_)
    rw [List.getElem?_eq_getElem hi, List.getElem?_eq_getElem hj]
    exact congrArg some e
  refine sort_wp (lt := fun i j => lt3 (xs.getD i (0, 0, 0)) (xs.getD j (0, 0, 0))) ⟨fun i j k _ _ _ h1 h2 => lt3_trans h1 h2, fun i j hi hj hne h1 => lt3_tot (inj i j hi hj hne) h1⟩ (fun i j C hi hj hC => ?_) (by omega) ?_
  · obtain ⟨a, t, u, z, k, e1, m1⟩ := at' i hi
    obtain ⟨a2, t2, u2, z2, k2, e2, m2⟩ := at' j hj
    show wpAny _ _ (keyLt' _ (vs.getD i Value.none) (vs.getD j Value.none)) _ _ _
    rw [e1, e2]
    exact key3 (tlh _ m1) (tlh _ m2) hC
  · intro p hp hs
    refine KasFin.intro F' N' (.head fun q hq => Nat.ne_of_lt (hlt q hq)) ?_
    intro h'' c F'' N''
    refine h D _ c (p.toList.map fun i => xs.getD i (0, 0, 0)) h'' F'' N'' ?_ ?_ ?_
    · have e : (List.range xs.length).map (fun i => xs.getD i (0, 0, 0)) = xs := by
        apply List.ext_getElem?
        intro i
        rw [List.getElem?_map]
        by_cases hi : i < xs.length
        · rw [List.getElem?_range hi, List.getElem?_eq_getElem hi]
          simp [List.getD_eq_getElem?_getD, List.getElem?_eq_getElem hi]
        · rw [List.getElem?_eq_none (by rw [List.length_range]; omega), List.getElem?_eq_none (by omega)]
          rfl
      exact (hp.map _).trans (by rw [e])
    · rw [List.pairwise_map]
      rw [List.pairwise_iff_getElem]
      intro i j hi hj hij
      have hz := hp.size
      have e1 := gd_eq (p := p) (i := i) (by simpa using hi)
      have e2 := gd_eq (p := p) (i := j) (by simpa using hj)
      rw [List.getElem?_eq_getElem hi] at e1
      rw [List.getElem?_eq_getElem hj] at e2
      rw [Option.some.inj e1, Option.some.inj e2]
      exact hs i j hij (by rw [← hz]; simpa using hj)
    · have all : ∀ l : List Nat, (∀ i ∈ l, i < xs.length) → DatAll tl (l.map fun i => vs.getD i Value.none) ((l.map fun i => xs.getD i (0, 0, 0)).map td) := by
        intro l
        induction l with
        | nil => intro _; exact .nil
        | cons i r ih =>
          intro hl
          obtain ⟨a, t, u, z, k, e1, m1⟩ := at' i (hl i (.head _))
          refine .cons ?_ (ih fun j hj => hl j (.tail _ hj))
          show DatIn tl (vs.getD i Value.none) _
          rw [e1]
          exact .tuple m1 (.cons (.int _ _) (.cons (.int _ _) (.cons (.int _ _) .nil)))
      exact all _ fun i hi => List.mem_range.mp (hp.mem_iff.mp hi)
end
/-- two lists sorted strictly, each other's permutation, are one -/
theorem uniq3 {a b : List T3} (hp : a.Perm b) (ha : a.Pairwise (fun x y => lt3 x y = true)) (hb : b.Pairwise (fun x y => lt3 x y = true)) : a = b := by
  refine hp.eq_of_pairwise (fun x y _ _ h1 h2 => ?_) ha hb
  have := lt3_trans h1 h2
  simp [lt3] at this
end Mine
end

section -- LawD
open PySem PySem.W PySem.Spec PySem.Calls PyProof.Rows
namespace Mine
noncomputable def altOf (odd : Int) : Array UInt8 := if odd = 0 then #[45, 63] else #[63, 45]
noncomputable def lawGr (start odd : Int) (bits : List Int) : Gr := { V := modesF start bits, bits := bits, s := start, P := priceF (altOf odd), D := fun m => costF (figF start (62 + odd) 3) (figF m (62 + odd) 3), W := fun m => waysF start m bits }
noncomputable def tellF (start odd : Int) (bits : List Int) (m : Int) : Int × Int × Int := (costF (figF start (62 + odd) 3) (figF m (62 + odd) 3), m, waysF start m bits)
end Mine
end

section -- BitsT
open PySem PySem.W PySem.Spec PySem.Calls PyProof.Rows
namespace Mine
theorem or_xor_and (a : Nat) : ∀ b : Nat, a ||| b = (a ^^^ b) + (a &&& b) := by
  induction a using Nat.strongRecOn with
  | _ a ih =>
    intro b
    by_cases h0 : a = 0
    · subst h0; simp
    · have k := ih (a / 2) (by omega) (b / 2)
      have o1 : (a ||| b) / 2 = a / 2 ||| b / 2 := Nat.or_div_two
      have o2 : (a ^^^ b) / 2 = a / 2 ^^^ b / 2 := Nat.xor_div_two
      have o3 : (a &&& b) / 2 = a / 2 &&& b / 2 := Nat.and_div_two
      have p1 : (a ||| b) % 2 = a % 2 ||| b % 2 := Nat.or_mod_two_pow (n := 1)
      have p2 : (a ^^^ b) % 2 = a % 2 ^^^ b % 2 := Nat.xor_mod_two_pow (n := 1)
      have p3 : (a &&& b) % 2 = a % 2 &&& b % 2 := Nat.and_mod_two_pow (n := 1)
      have m : (a % 2 ||| b % 2) = (a % 2 ^^^ b % 2) + (a % 2 &&& b % 2) := by
        rcases Nat.mod_two_eq_zero_or_one a with e1 | e1 <;> rcases Nat.mod_two_eq_zero_or_one b with e2 | e2 <;> rw [e1, e2] <;> decide
      rw [← o1, ← o2, ← o3] at k
      rw [← p1, ← p2, ← p3] at m
      omega
theorem bitAnd_nat (a b : Nat) : Builtin.bitAnd (a : Int) (b : Int) = ((a &&& b : Nat) : Int) := by
  unfold Builtin.bitAnd
  rw [decide_eq_true (Int.natCast_nonneg a), decide_eq_true (Int.natCast_nonneg b)]
  simp
theorem bitXor_nat (a b : Nat) : Builtin.bitXor (a : Int) (b : Int) = ((a ^^^ b : Nat) : Int) := by
  unfold Builtin.bitXor
  rw [bitOr_nat, bitAnd_nat, or_xor_and]
  omega
theorem nbr_nat (n j : Nat) : nbr (n : Int) ((2 : Int) ^ j) = ((n ^^^ 2 ^ j : Nat) : Int) := by
  have : ((2 : Int) ^ j) = ((2 ^ j : Nat) : Int) := by push_cast; rfl
  unfold nbr
  rw [this, bitXor_nat]
theorem tb_flip (n j i : Nat) : (n ^^^ 2 ^ j).testBit i = if j = i then !n.testBit i else n.testBit i := by
  rw [Nat.testBit_xor, Nat.testBit_two_pow]
  by_cases h : j = i <;> simp [h]
theorem flip_flip (n j : Nat) : (n ^^^ 2 ^ j) ^^^ 2 ^ j = n := by rw [Nat.xor_assoc, Nat.xor_self, Nat.xor_zero]
/-- the exponents of the bits -/
theorem bits_exp (ns : List Int) : ∃ ks : List Nat, bitsF ns = ks.map (fun k => (2 : Int) ^ k) ∧ ks.Nodup ∧ ∀ k ∈ ks, k < 12 := by
  unfold bitsF
  suffices h : ∀ (bs : List Int) (ks : List Nat), bs = ks.map (fun k => (2 : Int) ^ k) → ks.Nodup → (∀ k ∈ ks, k < 12) → ∃ ks : List Nat, ns.foldl bitStep bs = ks.map (fun k => (2 : Int) ^ k) ∧ ks.Nodup ∧ ∀ k ∈ ks, k < 12 from h [] [] rfl List.nodup_nil (fun _ h => nomatch h)
  induction ns with
  | nil => intro bs ks h1 h2 h3; exact ⟨ks, h1, h2, h3⟩
  | cons a r ih =>
    intro bs ks h1 h2 h3
    rw [List.foldl_cons]
    unfold bitStep
    have hk : (a.fmod 12).toNat < 12 := by
      have a1 : 0 ≤ a.fmod 12 := Int.fmod_nonneg_of_pos _ (by decide)
      have a2 : a.fmod 12 < 12 := Int.fmod_lt_of_pos _ (by decide)
      omega
    split
    · exact ih bs ks h1 h2 h3
    · rename_i hn
      refine ih _ (ks ++ [(a.fmod 12).toNat]) (by rw [h1, List.map_append]; rfl) ?_ ?_
      · refine List.nodup_append.mpr ⟨h2, by simp, ?_⟩
        intro x hx y hy e
        rw [List.mem_singleton.mp hy] at e
        refine hn ?_
        rw [h1]
        exact List.mem_map.mpr ⟨x, hx, by rw [e]; rfl⟩
      · intro k hk'
        rcases List.mem_append.mp hk' with h | h
        · exact h3 k h
        · rw [List.mem_singleton.mp h]; exact hk
/-- what a list of modes holds: those that part from s in the bits of K alone -/
noncomputable def Char (s : Nat) (ms : List Int) (K : Nat → Prop) : Prop := ∀ m, m ∈ ms ↔ ∃ n : Nat, m = (n : Int) ∧ n < 65536 ∧ ∀ i, n.testBit i ≠ s.testBit i → K i
theorem char_step {s : Nat} {ms : List Int} {K : Nat → Prop} {k : Nat} (hk : k < 12) (hK : ¬ K k) (h : Char s ms K) (hn : ms.Nodup) : Char s (xorS ms ((2 : Int) ^ k)) (fun i => K i ∨ i = k) ∧ (xorS ms ((2 : Int) ^ k)).Nodup := by
  have h16 : ∀ n, n < 65536 → n ^^^ 2 ^ k < 65536 := by
    intro n hn
    have : (2 : Nat) ^ k < 2 ^ 16 := Nat.pow_lt_pow_right (by decide) (by omega)
    exact Nat.xor_lt_two_pow (n := 16) hn this
  have img : ∀ m, m ∈ ms.map (fun m => Builtin.bitXor m ((2 : Int) ^ k)) ↔ ∃ n : Nat, m = ((n ^^^ 2 ^ k : Nat) : Int) ∧ n < 65536 ∧ ∀ i, n.testBit i ≠ s.testBit i → K i := by
    intro m
    rw [List.mem_map]
    constructor
    · rintro ⟨a, ha, rfl⟩
      obtain ⟨n, rfl, h1, h2⟩ := (h a).mp ha
      exact ⟨n, nbr_nat n k, h1, h2⟩
    · rintro ⟨n, rfl, h1, h2⟩
      exact ⟨(n : Int), (h n).mpr ⟨n, rfl, h1, h2⟩, nbr_nat n k⟩
  refine ⟨fun m => ?_, ?_⟩
  · unfold xorS
    rw [List.mem_append, img, h m]
    constructor
    · rintro (⟨n, rfl, h1, h2⟩ | ⟨n, rfl, h1, h2⟩)
      · exact ⟨n, rfl, h1, fun i hi => .inl (h2 i hi)⟩
      · refine ⟨_, rfl, h16 n h1, fun i hi => ?_⟩
        rw [tb_flip] at hi
        by_cases e : k = i
        · exact .inr e.symm
        · rw [if_neg e] at hi
          exact .inl (h2 i hi)
    · rintro ⟨n, rfl, h1, h2⟩
      by_cases e : n.testBit k = s.testBit k
      · refine .inl ⟨n, rfl, h1, fun i hi => ?_⟩
        rcases h2 i hi with h3 | h3
        · exact h3
        · rw [h3] at hi; exact absurd e hi
      · refine .inr ⟨n ^^^ 2 ^ k, by rw [flip_flip], h16 n h1, fun i hi => ?_⟩
        rw [tb_flip] at hi
        by_cases e2 : k = i
        · rw [if_pos e2, ← e2] at hi
          exfalso
          revert hi e
          cases n.testBit k <;> cases s.testBit k <;> simp
        · rw [if_neg e2] at hi
          rcases h2 i hi with h3 | h3
          · exact h3
          · exact absurd h3.symm e2
  · unfold xorS
    refine List.nodup_append.mpr ⟨hn, ?_, ?_⟩
    · rw [List.Nodup, List.pairwise_map]
      refine (List.Pairwise.and_mem.mp hn).imp fun {a b} hab e => ?_
      obtain ⟨ha, hb, hne⟩ := hab
      obtain ⟨x, rfl, _, _⟩ := (h a).mp ha
      obtain ⟨y, rfl, _, _⟩ := (h b).mp hb
      have e2 : ((x ^^^ 2 ^ k : Nat) : Int) = ((y ^^^ 2 ^ k : Nat) : Int) := (nbr_nat x k).symm.trans (e.trans (nbr_nat y k))
      have e3 : x ^^^ 2 ^ k = y ^^^ 2 ^ k := by omega
      have e4 := congrArg (· ^^^ 2 ^ k) e3
      rw [flip_flip, flip_flip] at e4
      exact hne (by rw [e4])
    · intro a ha b hb e
      obtain ⟨x, rfl, _, hx⟩ := (h a).mp ha
      obtain ⟨y, rfl, _, hy⟩ := (img b).mp hb
      have e3 : x = y ^^^ 2 ^ k := by omega
      have t1 : x.testBit k = s.testBit k := Classical.byContradiction fun hh => hK (hx k hh)
      have t2 : y.testBit k = s.testBit k := Classical.byContradiction fun hh => hK (hy k hh)
      rw [e3, tb_flip, if_pos rfl, t2] at t1
      cases s.testBit k <;> simp at t1
theorem modes_char {s : Nat} (hs : s < 65536) : ∀ (ks : List Nat), ks.Nodup → (∀ k ∈ ks, k < 12) → Char s (modesF (s : Int) (ks.map fun k => (2 : Int) ^ k)) (fun i => i ∈ ks) ∧ (modesF (s : Int) (ks.map fun k => (2 : Int) ^ k)).Nodup := by
  have all : ∀ (ks : List Nat) (ms : List Int) (K : Nat → Prop), ks.Nodup → (∀ k ∈ ks, k < 12) → (∀ k ∈ ks, ¬ K k) → Char s ms K → ms.Nodup →
      Char s ((ks.map fun k => (2 : Int) ^ k).foldl xorS ms) (fun i => K i ∨ i ∈ ks) ∧ ((ks.map fun k => (2 : Int) ^ k).foldl xorS ms).Nodup := by
    intro ks
    induction ks with
    | nil =>
      intro ms K _ _ _ h hn
      exact ⟨fun m => (h m).trans ⟨fun ⟨n, a, b, c⟩ => ⟨n, a, b, fun i hi => .inl (c i hi)⟩, fun ⟨n, a, b, c⟩ => ⟨n, a, b, fun i hi => (c i hi).elim id fun h => nomatch h⟩⟩, hn⟩
    | cons k r ih =>
      intro ms K hnd hlt hK h hn
      obtain ⟨hkr, hr⟩ := List.nodup_cons.mp hnd
      obtain ⟨c1, n1⟩ := char_step (hlt k (.head _)) (hK k (.head _)) h hn
      obtain ⟨c2, n2⟩ := ih _ _ hr (fun x hx => hlt x (.tail _ hx)) (fun x hx hh => hh.elim (hK x (.tail _ hx)) fun e => hkr (by rw [← e]; exact hx)) c1 n1
      refine ⟨fun m => (c2 m).trans ⟨fun ⟨n, a, b, c⟩ => ⟨n, a, b, fun i hi => ?_⟩, fun ⟨n, a, b, c⟩ => ⟨n, a, b, fun i hi => ?_⟩⟩, n2⟩
      · rcases c i hi with (h1 | h1) | h1
        · exact .inl h1
        · exact .inr (by rw [h1]; exact .head _)
        · exact .inr (.tail _ h1)
      · rcases c i hi with h1 | h1
        · exact .inl (.inl h1)
        · rcases List.mem_cons.mp h1 with h1 | h1
          · exact .inl (.inr h1)
          · exact .inr h1
  intro ks hnd hlt
  have c0 : Char s [(s : Int)] (fun _ => False) := by
    intro m
    constructor
    · intro hm
      exact ⟨s, List.mem_singleton.mp hm, hs, fun i hi => hi rfl⟩
    · rintro ⟨n, rfl, _, h⟩
      have : n = s := Nat.eq_of_testBit_eq fun i => Classical.byContradiction fun hh => h i hh
      rw [this]
      exact .head _
  obtain ⟨c, n⟩ := all ks [(s : Int)] (fun _ => False) hnd hlt (fun _ _ h => h) c0 (by simp)
  exact ⟨fun m => (c m).trans ⟨fun ⟨n, a, b, c⟩ => ⟨n, a, b, fun i hi => (c i hi).elim False.elim id⟩, fun ⟨n, a, b, c⟩ => ⟨n, a, b, fun i hi => .inr (c i hi)⟩⟩, n⟩
end Mine
end

section -- FigT
open PySem PySem.W PySem.Spec PySem.Calls PyProof.Rows
namespace Mine
theorem tb_div (n i : Nat) : n.testBit i = decide (n / 2 ^ i % 2 = 1) := Nat.testBit_eq_decide_div_mod_eq
noncomputable def fr (ab : Int) (b : Bool) : Int := if b then 43 else ab
noncomputable def fw (ab : Int) (b : Bool) : Int := if b then 48 else ab
noncomputable def fx (ab h : Int) (x e : Bool) : Int := if x then (if e then 44 + h else 49) else if e then 18 + h else ab
/-- the p-th figure of a mode -/
noncomputable def fg (ab : Int) (n : Nat) : Nat → Int
  | 0 => fr ab (n.testBit 8)
  | 1 => fw ab (n.testBit 7)
  | 2 => fx ab 0 (n.testBit 6) (n.testBit 11)
  | 3 => fr ab (n.testBit 5)
  | 4 => fw ab (n.testBit 4)
  | 5 => fx ab 0 (n.testBit 3) (n.testBit 10)
  | 6 => fr ab (n.testBit 2)
  | 7 => fw ab (n.testBit 1)
  | _ => fx ab 1 (n.testBit 0) (n.testBit 9)
theorem figD_nat (n i : Nat) : figD (n : Int) i = ((n / (8 ^ (2 - (i : Int)).toNat : Nat) % 8 : Nat) : Int) := by
  unfold figD
  rw [Int.fdiv_eq_ediv_of_nonneg _ (by exact_mod_cast Nat.zero_le _), Int.fmod_eq_emod_of_nonneg _ (by decide)]
  push_cast
  rfl
theorem figE_nat (n i : Nat) : figE (n : Int) i = ((n / (2 ^ (11 - (i : Int)).toNat : Nat) % 2 : Nat) : Int) := by
  unfold figE
  rw [Int.fdiv_eq_ediv_of_nonneg _ (by exact_mod_cast Nat.zero_le _), Int.fmod_eq_emod_of_nonneg _ (by decide)]
  push_cast
  rfl
theorem fig3_eq {n D E : Nat} {ab : Int} {i : Nat} {r w x e : Bool} (hD : figD (n : Int) i = ((n / D % 8 : Nat) : Int)) (hE : figE (n : Int) i = ((n / E % 2 : Nat) : Int))
    (hr : r = decide (n / (D * 4) % 2 = 1)) (hw : w = decide (n / (D * 2) % 2 = 1)) (hx : x = decide (n / D % 2 = 1)) (he : e = decide (n / E % 2 = 1)) (h : Int) (hh : h = (i : Int).fdiv 2) :
    fig3 (n : Int) ab i = [fr ab r, fw ab w, fx ab h x e] := by
  unfold fig3 fr fw fx figR
  rw [hD, hE, ← hh]
  rw [← Nat.div_div_eq_div_mul] at hr hw
  generalize n / D = q at *
  have hz2 : n / E % 2 < 2 := Nat.mod_lt _ (by decide)
  generalize n / E % 2 = z at *
  have f1 : ((q % 8 : Nat) : Int).fdiv 2 = ((q % 8 / 2 : Nat) : Int) := by rw [Int.fdiv_eq_ediv_of_nonneg _ (by decide)]; push_cast; rfl
  have f2 : ((q % 8 / 2 : Nat) : Int).fmod 2 = ((q % 8 / 2 % 2 : Nat) : Int) := by rw [Int.fmod_eq_emod_of_nonneg _ (by decide)]; push_cast; rfl
  have f3 : ((q % 8 : Nat) : Int).fmod 2 = ((q % 8 % 2 : Nat) : Int) := by rw [Int.fmod_eq_emod_of_nonneg _ (by decide)]; push_cast; rfl
  rw [f1, f2, f3]
  congr 1
  · by_cases c : q / 4 % 2 = 1
    · rw [decide_eq_true c] at hr
      rw [hr, if_pos (by omega), if_pos rfl]
    · rw [decide_eq_false c] at hr
      rw [hr, if_neg (by omega), if_neg (by decide)]
  congr 1
  · by_cases c : q / 2 % 2 = 1
    · rw [decide_eq_true c] at hw
      rw [hw, if_neg (by omega), if_pos rfl]
    · rw [decide_eq_false c] at hw
      rw [hw, if_pos (by omega), if_neg (by decide)]
  congr 1
  by_cases c : q % 2 = 1
  · rw [decide_eq_true c] at hx
    by_cases d : z = 1
    · rw [decide_eq_true d] at he
      rw [hx, he, if_neg (by omega), if_neg (by omega), if_neg (by omega), if_pos rfl, if_pos rfl]
    · rw [decide_eq_false d] at he
      rw [hx, he, if_neg (by omega), if_pos (by omega), if_pos rfl, if_neg (by decide)]
  · rw [decide_eq_false c] at hx
    by_cases d : z = 1
    · rw [decide_eq_true d] at he
      rw [hx, he, if_neg (by omega), if_neg (by omega), if_pos (by omega), if_neg (by decide), if_pos rfl]
    · rw [decide_eq_false d] at he
      rw [hx, he, if_pos (by omega), if_neg (by decide), if_neg (by decide)]
theorem figF_fg (n : Nat) (ab : Int) : figF (n : Int) ab 3 = [fg ab n 0, fg ab n 1, fg ab n 2, fg ab n 3, fg ab n 4, fg ab n 5, fg ab n 6, fg ab n 7, fg ab n 8] := by
  have e : figF (n : Int) ab 3 = fig3 (n : Int) ab 0 ++ (fig3 (n : Int) ab 1 ++ (fig3 (n : Int) ab 2 ++ [])) := by
    unfold figF
    rw [show List.range 3 = [0, 1, 2] from rfl]
    rfl
  rw [e, fig3_eq (D := 64) (E := 2048) (figD_nat n 0) (figE_nat n 0) (tb_div n 8) (tb_div n 7) (tb_div n 6) (tb_div n 11) 0 rfl,
    fig3_eq (D := 8) (E := 1024) (figD_nat n 1) (figE_nat n 1) (tb_div n 5) (tb_div n 4) (tb_div n 3) (tb_div n 10) 0 rfl,
    fig3_eq (D := 1) (E := 512) (figD_nat n 2) (figE_nat n 2) (tb_div n 2) (tb_div n 1) (tb_div n 0) (tb_div n 9) 1 rfl]
  rfl
/-- the weight of the p-th figure -/
noncomputable def wt : Nat → Int
  | 0 => 1152921504606846976
  | 1 => 18014398509481984
  | 2 => 281474976710656
  | 3 => 4398046511104
  | 4 => 68719476736
  | 5 => 1073741824
  | 6 => 16777216
  | 7 => 262144
  | _ => 4096
noncomputable def S9 (g : Nat → Int) : Int := g 0 * wt 0 + g 1 * wt 1 + g 2 * wt 2 + g 3 * wt 3 + g 4 * wt 4 + g 5 * wt 5 + g 6 * wt 6 + g 7 * wt 7 + g 8 * wt 8
theorem S9_diff {g g' : Nat → Int} {p : Nat} (hp : p < 9) (h : ∀ q, q < 9 → q ≠ p → g' q = g q) : S9 g' - S9 g = (g' p - g p) * wt p := by
  have d : ∀ q, q < 9 → g' q * wt q = g q * wt q + if q = p then (g' p - g p) * wt p else 0 := by
    intro q hq
    by_cases c : q = p
    · rw [if_pos c, c, Int.sub_mul]; omega
    · rw [if_neg c, h q hq c]; omega
  unfold S9
  rw [d 0 (by decide), d 1 (by decide), d 2 (by decide), d 3 (by decide), d 4 (by decide), d 5 (by decide), d 6 (by decide), d 7 (by decide), d 8 (by decide)]
  generalize (g' p - g p) * wt p = c
  have k : ∀ p, p < 9 → (if 0 = p then c else 0) + ((if 1 = p then c else 0) + ((if 2 = p then c else 0) + ((if 3 = p then c else 0) + ((if 4 = p then c else 0) + ((if 5 = p then c else 0) + ((if 6 = p then c else 0) + ((if 7 = p then c else 0) + (if 8 = p then c else 0)))))))) = c := by
    intro p hp
    match p, hp with
    | 0, _ => exact Int.add_zero c
    | 1, _ => exact (Int.zero_add _).trans (Int.add_zero c)
    | 2, _ => exact (Int.zero_add _).trans ((Int.zero_add _).trans (Int.add_zero c))
    | 3, _ => exact (Int.zero_add _).trans ((Int.zero_add _).trans ((Int.zero_add _).trans (Int.add_zero c)))
    | 4, _ => exact (Int.zero_add _).trans ((Int.zero_add _).trans ((Int.zero_add _).trans ((Int.zero_add _).trans (Int.add_zero c))))
    | 5, _ => exact (Int.zero_add _).trans ((Int.zero_add _).trans ((Int.zero_add _).trans ((Int.zero_add _).trans ((Int.zero_add _).trans (Int.add_zero c)))))
    | 6, _ => exact (Int.zero_add _).trans ((Int.zero_add _).trans ((Int.zero_add _).trans ((Int.zero_add _).trans ((Int.zero_add _).trans ((Int.zero_add _).trans (Int.add_zero c))))))
    | 7, _ => exact (Int.zero_add _).trans ((Int.zero_add _).trans ((Int.zero_add _).trans ((Int.zero_add _).trans ((Int.zero_add _).trans ((Int.zero_add _).trans ((Int.zero_add _).trans (Int.add_zero c)))))))
    | 8, _ => exact (Int.zero_add _).trans ((Int.zero_add _).trans ((Int.zero_add _).trans ((Int.zero_add _).trans ((Int.zero_add _).trans ((Int.zero_add _).trans ((Int.zero_add _).trans (Int.zero_add c)))))))
  have := k p hp
  omega
theorem cost_S9 (s n : Nat) (ab : Int) : costF (figF (s : Int) ab 3) (figF (n : Int) ab 3) = S9 fun p => iabs (fg ab s p - fg ab n p) := by
  rw [figF_fg, figF_fg]
  unfold costF S9 costStep
  simp only [List.zip_cons_cons, List.zip_nil_right, List.foldl_cons, List.foldl_nil, wt]
  generalize iabs (fg ab s 0 - fg ab n 0) = a0
  generalize iabs (fg ab s 1 - fg ab n 1) = a1
  generalize iabs (fg ab s 2 - fg ab n 2) = a2
  generalize iabs (fg ab s 3 - fg ab n 3) = a3
  generalize iabs (fg ab s 4 - fg ab n 4) = a4
  generalize iabs (fg ab s 5 - fg ab n 5) = a5
  generalize iabs (fg ab s 6 - fg ab n 6) = a6
  generalize iabs (fg ab s 7 - fg ab n 7) = a7
  generalize iabs (fg ab s 8 - fg ab n 8) = a8
  omega
end Mine
end

section -- PriceT
open PySem PySem.W PySem.Spec PySem.Calls PyProof.Rows
namespace Mine
theorem big12 (d0 d1 d2 d3 d4 d5 d6 d7 d8 d9 da db : Int) : big (octs [d0, d1, d2, d3, d4, d5, d6, d7, d8, d9, da, db]) =
    d0 * 73786976294838206464 + d1 * 1152921504606846976 + d2 * 18014398509481984 + d3 * 281474976710656 + d4 * 4398046511104 + d5 * 68719476736 + d6 * 1073741824 + d7 * 16777216 + d8 * 262144 + d9 * 4096 + da * 64 + db := by
  have e : octs [d0, d1, d2, d3, d4, d5, d6, d7, d8, d9, da, db] = [d0 * 4 + d1 / 16, d1 % 16 * 16 + d2 / 4, d2 % 4 * 64 + d3, d4 * 4 + d5 / 16, d5 % 16 * 16 + d6 / 4, d6 % 4 * 64 + d7, d8 * 4 + d9 / 16, d9 % 16 * 16 + da / 4, da % 4 * 64 + db] := by
    unfold octs
    simp only [List.foldl_cons, List.foldl_nil, stepQ]
    rfl
  rw [e]
  unfold big
  simp only [List.foldl_cons, List.foldl_nil]
  have g1 : ∀ a b c d : Int, (a * 4 + b / 16) * 65536 + (b % 16 * 16 + c / 4) * 256 + (c % 4 * 64 + d) = a * 262144 + b * 4096 + c * 64 + d := by
    intro a b c d
    omega
  have h1 := g1 d0 d1 d2 d3
  have h2 := g1 d4 d5 d6 d7
  have h3 := g1 d8 d9 da db
  omega
noncomputable def kindL : List (Addr × Int × Nat) := [(115, 40960, 108), (116, 49152, 115), (117, 32768, 45), (118, 24576, 98), (119, 16384, 100), (120, 8192, 99), (121, 4096, 112)]
theorem sg_eq (m : Int) : sg m = [pick 0 m kindL, pick 1 m [(123, 256, 114)], pick 2 m [(125, 128, 119)], pick 3 m [(127, 2112, 115), (128, 2048, 83), (129, 64, 120)], pick 4 m [(131, 32, 114)], pick 5 m [(133, 16, 119)],
    pick 6 m [(135, 1032, 115), (136, 1024, 83), (137, 8, 120)], pick 7 m [(139, 4, 114)], pick 8 m [(141, 2, 119)], pick 9 m [(143, 513, 116), (144, 512, 84), (145, 1, 120)]] := rfl
theorem and_pow (n k : Nat) : n &&& 2 ^ k = if n.testBit k then 2 ^ k else 0 := by
  refine Nat.eq_of_testBit_eq fun i => ?_
  rw [Nat.testBit_and, Nat.testBit_two_pow]
  by_cases h : k = i
  · subst h
    cases n.testBit k <;> simp [Nat.testBit_two_pow]
  · cases n.testBit k <;> simp [Nat.testBit_two_pow, h]
theorem hit_pow {i n k : Nat} {b : Int} (hi : i ≠ 0) (hb : b = ((2 ^ k : Nat) : Int)) : hit i (n : Int) b ↔ n.testBit k = true := by
  unfold hit
  rw [if_neg hi, hb, bitAnd_nat, and_pow]
  have hp : 0 < 2 ^ k := Nat.two_pow_pos k
  cases n.testBit k
  · constructor
    · intro h
      have h' : (if false = true then 2 ^ k else 0) = 2 ^ k := by exact_mod_cast h
      rw [if_neg (by decide)] at h'
      omega
    · intro h; cases h
  · simp
theorem hit_two {i n x e : Nat} {b : Int} (hi : i ≠ 0) (hne : x ≠ e) (hb : b = ((2 ^ x ||| 2 ^ e : Nat) : Int)) : hit i (n : Int) b ↔ (n.testBit x = true ∧ n.testBit e = true) := by
  unfold hit
  rw [if_neg hi, hb, bitAnd_nat]
  constructor
  · intro h
    have h' : n &&& (2 ^ x ||| 2 ^ e) = 2 ^ x ||| 2 ^ e := by exact_mod_cast h
    constructor
    · have := congrArg (fun z => z.testBit x) h'
      simpa [Nat.testBit_and, Nat.testBit_or, Nat.testBit_two_pow] using this
    · have := congrArg (fun z => z.testBit e) h'
      simpa [Nat.testBit_and, Nat.testBit_or, Nat.testBit_two_pow] using this
  · rintro ⟨h1, h2⟩
    have : n &&& (2 ^ x ||| 2 ^ e) = 2 ^ x ||| 2 ^ e := by
      rw [Nat.and_or_distrib_left, and_pow, and_pow, h1, h2]
      simp
    exact_mod_cast this
theorem pick_one {i n k c : Nat} {a : Addr} {b : Int} (hi : i ≠ 0) (hb : b = ((2 ^ k : Nat) : Int)) : pick i (n : Int) [(a, b, c)] = if n.testBit k then c else 45 := by
  unfold pick
  have h := hit_pow (n := n) hi hb
  by_cases ht : n.testBit k = true
  · rw [if_pos (h.mpr ht), if_pos ht]
  · rw [if_neg (fun q => ht (h.mp q)), if_neg ht]
    unfold pick
    rw [if_neg hi]
theorem pick_three {i n x e c1 c2 c3 : Nat} {a1 a2 a3 : Addr} {b1 b2 b3 : Int} (hi : i ≠ 0) (hne : x ≠ e) (h1 : b1 = ((2 ^ x ||| 2 ^ e : Nat) : Int)) (h2 : b2 = ((2 ^ e : Nat) : Int)) (h3 : b3 = ((2 ^ x : Nat) : Int)) :
    pick i (n : Int) [(a1, b1, c1), (a2, b2, c2), (a3, b3, c3)] = if n.testBit x then (if n.testBit e then c1 else c3) else if n.testBit e then c2 else 45 := by
  have k1 := hit_two (n := n) hi hne h1
  have k2 := hit_pow (n := n) hi h2
  have k3 := hit_pow (n := n) hi h3
  unfold pick
  by_cases tx : n.testBit x = true
  · rw [if_pos tx]
    by_cases te : n.testBit e = true
    · rw [if_pos (k1.mpr ⟨tx, te⟩), if_pos te]
    · rw [if_neg (fun q => te (k1.mp q).2), if_neg te]
      unfold pick
      rw [if_neg (fun q => te (k2.mp q))]
      unfold pick
      rw [if_pos (k3.mpr tx)]
  · rw [if_neg tx, if_neg (fun q => tx (k1.mp q).1)]
    unfold pick
    by_cases te : n.testBit e = true
    · rw [if_pos (k2.mpr te), if_pos te]
    · rw [if_neg (fun q => te (k2.mp q)), if_neg te]
      unfold pick
      rw [if_neg (fun q => tx (k3.mp q))]
      unfold pick
      rw [if_neg hi]
noncomputable def dg (odd : Int) (c : Nat) : Int := b64v (tr (altOf odd) c)
structure DgOk (odd : Int) : Prop where
  r : dg odd 114 = 43
  w : dg odd 119 = 48
  x : dg odd 120 = 49
  S : dg odd 83 = 18
  s : dg odd 115 = 44
  T : dg odd 84 = 19
  t : dg odd 116 = 45
  n : dg odd 45 = 62 + odd
  A : dg odd 65 = 0
noncomputable def chs : List Nat := [114, 119, 120, 83, 115, 84, 116, 45, 65]
set_option maxHeartbeats 4000000 in
theorem dg0 : chs.map (dg 0) = [43, 48, 49, 18, 44, 19, 45, 62, 0] := by decide +kernel
set_option maxHeartbeats 4000000 in
theorem dg1 : chs.map (dg 1) = [43, 48, 49, 18, 44, 19, 45, 63, 0] := by decide +kernel
theorem dg_ok {odd : Int} (h : odd = 0 ∨ odd = 1) : DgOk odd := by
  have e : chs.map (dg odd) = [43, 48, 49, 18, 44, 19, 45, 62 + odd, 0] := by
    rcases h with rfl | rfl
    · exact dg0
    · exact dg1
  simp only [chs, List.map_cons, List.map_nil, List.cons.injEq, and_true] at e
  obtain ⟨e1, e2, e3, e4, e5, e6, e7, e8, e9⟩ := e
  exact ⟨e1, e2, e3, e4, e5, e6, e7, e8, e9⟩
theorem dg_fr {odd : Int} (o : DgOk odd) (b : Bool) : dg odd (if b = true then 114 else 45) = fr (62 + odd) b := by
  cases b
  · rw [if_neg (by decide), o.n]; rfl
  · rw [if_pos rfl, o.r]; rfl
theorem dg_fw {odd : Int} (o : DgOk odd) (b : Bool) : dg odd (if b = true then 119 else 45) = fw (62 + odd) b := by
  cases b
  · rw [if_neg (by decide), o.n]; rfl
  · rw [if_pos rfl, o.w]; rfl
theorem dg_fx0 {odd : Int} (o : DgOk odd) (x e : Bool) : dg odd (if x = true then (if e = true then 115 else 120) else if e = true then 83 else 45) = fx (62 + odd) 0 x e := by
  cases x <;> cases e
  · rw [if_neg (by decide), if_neg (by decide), o.n]; rfl
  · rw [if_neg (by decide), if_pos rfl, o.S]; rfl
  · rw [if_pos rfl, if_neg (by decide), o.x]; rfl
  · rw [if_pos rfl, if_pos rfl, o.s]; rfl
theorem dg_fx1 {odd : Int} (o : DgOk odd) (x e : Bool) : dg odd (if x = true then (if e = true then 116 else 120) else if e = true then 84 else 45) = fx (62 + odd) 1 x e := by
  cases x <;> cases e
  · rw [if_neg (by decide), if_neg (by decide), o.n]; rfl
  · rw [if_neg (by decide), if_pos rfl, o.T]; rfl
  · rw [if_pos rfl, if_neg (by decide), o.x]; rfl
  · rw [if_pos rfl, if_pos rfl, o.t]; rfl
theorem price_S9 {odd : Int} (h : odd = 0 ∨ odd = 1) (n : Nat) : priceF (altOf odd) (n : Int) = dg odd (pick 0 (n : Int) kindL) * 73786976294838206464 + S9 (fg (62 + odd) n) := by
  have o := dg_ok h
  have e : digs (altOf odd) (n : Int) = [dg odd (pick 0 (n : Int) kindL), fg (62 + odd) n 0, fg (62 + odd) n 1, fg (62 + odd) n 2, fg (62 + odd) n 3, fg (62 + odd) n 4, fg (62 + odd) n 5, fg (62 + odd) n 6, fg (62 + odd) n 7, fg (62 + odd) n 8, 0, 0] := by
    unfold digs
    rw [sg_eq, pick_one (i := 1) (b := 256) (k := 8) (by decide) rfl, pick_one (i := 2) (b := 128) (k := 7) (by decide) rfl, pick_three (i := 3) (b1 := 2112) (b2 := 2048) (b3 := 64) (x := 6) (e := 11) (by decide) (by decide) rfl rfl rfl,
      pick_one (i := 4) (b := 32) (k := 5) (by decide) rfl, pick_one (i := 5) (b := 16) (k := 4) (by decide) rfl, pick_three (i := 6) (b1 := 1032) (b2 := 1024) (b3 := 8) (x := 3) (e := 10) (by decide) (by decide) rfl rfl rfl,
      pick_one (i := 7) (b := 4) (k := 2) (by decide) rfl, pick_one (i := 8) (b := 2) (k := 1) (by decide) rfl, pick_three (i := 9) (b1 := 513) (b2 := 512) (b3 := 1) (x := 0) (e := 9) (by decide) (by decide) rfl rfl rfl]
    show [dg odd _, dg odd _, dg odd _, dg odd _, dg odd _, dg odd _, dg odd _, dg odd _, dg odd _, dg odd _, dg odd 65, dg odd 65] = _
    rw [dg_fr o, dg_fw o, dg_fx0 o, dg_fr o, dg_fw o, dg_fx0 o, dg_fr o, dg_fw o, dg_fx1 o, o.A]
    rfl
  unfold priceF
  rw [e, big12]
  unfold S9
  simp only [wt]
  omega
theorem kind_flip {n j : Nat} (hj : j < 12) : pick 0 ((n ^^^ 2 ^ j : Nat) : Int) kindL = pick 0 (n : Int) kindL := by
  have e : Builtin.bitAnd ((n ^^^ 2 ^ j : Nat) : Int) 61440 = Builtin.bitAnd (n : Int) 61440 := by
    show Builtin.bitAnd ((n ^^^ 2 ^ j : Nat) : Int) ((61440 : Nat) : Int) = Builtin.bitAnd (n : Int) ((61440 : Nat) : Int)
    rw [bitAnd_nat, bitAnd_nat]
    congr 1
    refine Nat.eq_of_testBit_eq fun i => ?_
    rw [Nat.testBit_and, Nat.testBit_and, tb_flip]
    by_cases h : j = i
    · subst h
      have : Nat.testBit 61440 j = false := by
        have all : ∀ j, j < 12 → Nat.testBit 61440 j = false := by decide
        exact all j hj
      rw [this, Bool.and_false, Bool.and_false]
    · rw [if_neg h]
  have k : ∀ l : List (Addr × Int × Nat), pick 0 ((n ^^^ 2 ^ j : Nat) : Int) l = pick 0 (n : Int) l := by
    intro l
    induction l with
    | nil => rfl
    | cons a r ih =>
      unfold pick
      have : hit 0 ((n ^^^ 2 ^ j : Nat) : Int) a.2.1 ↔ hit 0 (n : Int) a.2.1 := by
        unfold hit
        rw [if_pos rfl, if_pos rfl, e]
      by_cases hh : hit 0 (n : Int) a.2.1
      · rw [if_pos (this.mpr hh), if_pos hh]
      · rw [if_neg (fun q => hh (this.mp q)), if_neg hh, ih]
  exact k _
end Mine
end

section -- WaysT
open PySem PySem.W PySem.Spec PySem.Calls PyProof.Rows
namespace Mine
/-- in how many ways n steps mix into d -/
noncomputable def Ms (f : Nat → Nat) : Nat → Nat
  | 0 => 1
  | n + 1 => f (n + 1) + Ms f n
noncomputable def M : Nat → Nat → Nat
  | 0 => fun _ => 1
  | d + 1 => Ms (M d)
theorem M_zero (d : Nat) : M d 0 = 1 := by cases d <;> rfl
theorem M_zero' (n : Nat) : M 0 n = 1 := rfl
theorem M_succ (d n : Nat) : M (d + 1) (n + 1) = M d (n + 1) + M (d + 1) n := rfl
theorem M_step {d n : Nat} (hd : 0 < d) (hn : 0 < n) : M d n = M (d - 1) n + M d (n - 1) := by
  cases d with
  | zero => omega
  | succ d => cases n with
    | zero => omega
    | succ n => exact M_succ d n
theorem M1 : ∀ d, M d 1 = d + 1
  | 0 => rfl
  | d + 1 => by
    have := M1 d
    rw [M_succ, this, M_zero]
theorem M2 : ∀ d, 2 * M d 2 = (d + 1) * (d + 2)
  | 0 => rfl
  | d + 1 => by
    have := M2 d
    have h1 := M1 (d + 1)
    have e : M (d + 1) 2 = M d 2 + M (d + 1) 1 := M_succ d 1
    rw [e, h1]
    grind
theorem M3 : ∀ d, 6 * M d 3 = (d + 1) * (d + 2) * (d + 3)
  | 0 => rfl
  | d + 1 => by
    have := M3 d
    have h1 := M2 (d + 1)
    have e : M (d + 1) 3 = M d 3 + M (d + 1) 2 := M_succ d 2
    rw [e]
    grind
theorem mix_M {d n : Nat} (hn : n ≤ 3) : mixF (d : Int) n = (M d n : Int) := by
  have s0 : mixF (d : Int) 0 = 1 := rfl
  have s1 : mixF (d : Int) 1 = (d : Int) + 1 := by rw [mixF_succ, s0]; unfold mixStep; simp
  have s2 : mixF (d : Int) 2 = (M d 2 : Int) := by
    rw [mixF_succ, s1]
    unfold mixStep
    have h := M2 d
    have e : ((d : Int) + 1) * ((d : Int) + ((1 : Nat) : Int) + 1) = 2 * (M d 2 : Int) := by
      have : ((2 * M d 2 : Nat) : Int) = (((d + 1) * (d + 2) : Nat) : Int) := congrArg _ h
      push_cast at this
      rw [this]
      grind
    rw [e]
    show (2 * (M d 2 : Int)).fdiv 2 = _
    rw [Int.fdiv_eq_ediv_of_nonneg _ (by omega)]
    omega
  obtain rfl | rfl | rfl | rfl : n = 0 ∨ n = 1 ∨ n = 2 ∨ n = 3 := by omega
  · rw [s0, M_zero]; rfl
  · rw [s1, M1]; push_cast; rfl
  · exact s2
  · rw [mixF_succ, s2]
    unfold mixStep
    have h := M3 d
    have h2 := M2 d
    have e : (M d 2 : Int) * ((d : Int) + ((2 : Nat) : Int) + 1) = 3 * (M d 3 : Int) := by
      have a3 : ((6 * M d 3 : Nat) : Int) = (((d + 1) * (d + 2) * (d + 3) : Nat) : Int) := congrArg _ h
      have a2 : ((2 * M d 2 : Nat) : Int) = (((d + 1) * (d + 2) : Nat) : Int) := congrArg _ h2
      push_cast at a2 a3
      have : 2 * ((M d 2 : Int) * ((d : Int) + 2 + 1)) = 2 * (3 * (M d 3 : Int)) := by grind
      show (M d 2 : Int) * ((d : Int) + 2 + 1) = _
      omega
    rw [e]
    show (3 * (M d 3 : Int)).fdiv 3 = _
    rw [Int.fdiv_eq_ediv_of_nonneg _ (by omega)]
    omega
/-- the ways of steps in figures, each with its sizes, behind d steps -/
noncomputable def T : List (List Nat) → Nat → Nat
  | [], _ => 1
  | o :: l, d => (o.map fun n => M d n * T l (d + n)).sum
noncomputable def wsum (f : Nat → Nat) (ps : List (Int × Int)) : Int := (ps.map fun p => p.2 * (f p.1.toNat : Int)).sum
theorem sum_append_int (a b : List Int) : (a ++ b).sum = a.sum + b.sum := by
  induction a with
  | nil => simp
  | cons x r ih => rw [List.cons_append, List.sum_cons, List.sum_cons, ih]; omega
theorem wsum_cons (f : Nat → Nat) (p : Int × Int) (ps : List (Int × Int)) : wsum f (p :: ps) = p.2 * (f p.1.toNat : Int) + wsum f ps := by unfold wsum; rw [List.map_cons, List.sum_cons]
theorem wsum_append (f : Nat → Nat) (a b : List (Int × Int)) : wsum f (a ++ b) = wsum f a + wsum f b := by unfold wsum; rw [List.map_append, sum_append_int]
theorem plStep_T {l : List (List Nat)} {o : List Nat} (ho : ∀ n ∈ o, n ≤ 3) : ∀ ps : List (Int × Int), (∀ p ∈ ps, 0 ≤ p.1) → wsum (T l) (plStep ps o) = wsum (T (o :: l)) ps
  | [], _ => rfl
  | p :: ps, h => by
    have e : plStep (p :: ps) o = (o.map fun (n : Nat) => (p.1 + (n : Int), p.2 * mixF p.1 n)) ++ plStep ps o := by unfold plStep; rw [List.flatMap_cons]
    rw [e, wsum_append, wsum_cons, plStep_T ho ps fun q hq => h q (.tail _ hq)]
    have h0 := h p (.head _)
    obtain ⟨d, hd⟩ := Int.eq_ofNat_of_zero_le h0
    have k : ∀ o : List Nat, (∀ n ∈ o, n ≤ 3) → wsum (T l) (o.map fun (n : Nat) => (p.1 + (n : Int), p.2 * mixF p.1 n)) = p.2 * (((o.map fun n => M p.1.toNat n * T l (p.1.toNat + n)).sum : Nat) : Int) := by
      intro o
      induction o with
      | nil => intro _; simp [wsum]
      | cons n r ih =>
        intro hr
        rw [List.map_cons, wsum_cons, ih fun m hm => hr m (.tail _ hm), List.map_cons, List.sum_cons]
        dsimp only
        rw [hd, mix_M (hr n (.head _)), show ((d : Int) + (n : Int)).toNat = d + n by omega, Int.toNat_natCast]
        push_cast
        grind
    rw [k o ho]
    rfl
theorem pl_T : ∀ (l : List (List Nat)), (∀ o ∈ l, ∀ n ∈ o, n ≤ 3) → ∀ ps : List (Int × Int), (∀ p ∈ ps, 0 ≤ p.1) → ((l.foldl plStep ps).map (·.2)).sum = wsum (T l) ps
  | [], _, ps, _ => by
    show (ps.map (·.2)).sum = (ps.map fun p => p.2 * ((1 : Nat) : Int)).sum
    congr 1
    refine List.map_congr_left fun p _ => ?_
    simp
  | o :: l, h, ps, hp => by
    rw [List.foldl_cons, pl_T l (fun q hq => h q (.tail _ hq)) _ ?_, plStep_T (h o (.head _)) ps hp]
    intro p hpp
    unfold plStep at hpp
    obtain ⟨q, hq, hpp⟩ := List.mem_flatMap.mp hpp
    obtain ⟨n, hn, rfl⟩ := List.mem_map.mp hpp
    have := hp q hq
    dsimp only
    omega
noncomputable def ways9 (start t : Int) (bits : List Int) : List (List Nat) := choF start t bits 0 ++ choF start t bits 1 ++ choF start t bits 2
theorem waysF_T (start mode : Int) (bits : List Int) : waysF start mode bits = (T (ways9 start (Builtin.bitXor start mode) bits) 0 : Int) := by
  have e : plF start (Builtin.bitXor start mode) bits 3 = (ways9 start (Builtin.bitXor start mode) bits).foldl plStep [(0, 1)] := by
    unfold ways9
    rw [List.foldl_append, List.foldl_append, plF_succ, plF_succ, plF_succ]
    have : plF start (Builtin.bitXor start mode) bits 0 = [(0, 1)] := by unfold plF; simp
    rw [this]
  unfold waysF
  rw [e, pl_T _ ?_ _ ?_]
  · simp [wsum]
  · intro o ho n hn
    unfold ways9 at ho
    rcases List.mem_append.mp ho with ho | ho
    · rcases List.mem_append.mp ho with ho | ho
      · exact (choF_ok _ _ _ _ o ho).2 n hn
      · exact (choF_ok _ _ _ _ o ho).2 n hn
    · exact (choF_ok _ _ _ _ o ho).2 n hn
  · intro p hp
    rw [List.mem_singleton.mp hp]
    exact Int.le_refl _
/-- one step taken back, in any figure -/
noncomputable def R : List (List Nat) → Nat → Nat
  | [], _ => 0
  | o :: l, d => (o.map fun n => if n = 0 then 0 else T ([n - 1] :: l) d).sum + (o.map fun n => M d n * R l (d + n)).sum
noncomputable def Z : List (List Nat) → Nat → Nat
  | [], d => if d = 0 then 1 else 0
  | o :: l, d => (o.map fun n => M d n * Z l (d + n)).sum
theorem T_one (n : Nat) (l : List (List Nat)) (d : Nat) : T ([n] :: l) d = M d n * T l (d + n) := by simp [T]
theorem sum_add3 {f g h k : Nat → Nat} : ∀ {o : List Nat}, (∀ n ∈ o, f n = g n + h n + k n) → (o.map f).sum = (o.map g).sum + (o.map h).sum + (o.map k).sum
  | [], _ => by simp
  | a :: r, e => by
    simp only [List.map_cons, List.sum_cons]
    rw [e a (.head _), sum_add3 fun n hn => e n (.tail _ hn)]
    omega
theorem sum_add2 {g h : Nat → Nat} : ∀ {o : List Nat}, (o.map fun n => g n + h n).sum = (o.map g).sum + (o.map h).sum
  | [] => rfl
  | a :: r => by
    simp only [List.map_cons, List.sum_cons]
    rw [sum_add2]
    omega
theorem sum_zero : ∀ (o : List Nat), (o.map fun _ => 0).sum = 0
  | [] => rfl
  | a :: r => by rw [List.map_cons, List.sum_cons, sum_zero r]
theorem T_rec : ∀ (l : List (List Nat)) (d : Nat), T l d = (if d = 0 then 0 else T l (d - 1)) + R l d + Z l d
  | [], d => by
    simp only [T, R, Z]
    split <;> simp
  | o :: l, d => by
    have e1 : (if d = 0 then 0 else T (o :: l) (d - 1)) = (o.map fun n => if d = 0 then 0 else M (d - 1) n * T l (d - 1 + n)).sum := by
      split
      · have : ∀ o : List Nat, (o.map fun _ => 0).sum = 0 := by
          intro o
          induction o with
          | nil => rfl
          | cons a r ih => rw [List.map_cons, List.sum_cons, ih]
        rw [this]
      · rfl
    have e2 : T (o :: l) d = (o.map fun n => (if d = 0 then 0 else M (d - 1) n * T l (d - 1 + n)) + (if n = 0 then 0 else T ([n - 1] :: l) d) + (M d n * R l (d + n) + M d n * Z l (d + n))).sum := by
      show (o.map fun n => M d n * T l (d + n)).sum = _
      congr 1
      refine List.map_congr_left fun n _ => ?_
      rw [T_rec l (d + n), T_one]
      by_cases hd : d = 0
      · subst hd
        by_cases hn : n = 0
        · subst hn
          simp [M_zero]
        · simp only [if_neg hn, Nat.zero_add, if_pos, M_zero', Nat.one_mul]
          omega
      · by_cases hn : n = 0
        · subst hn
          simp only [if_neg hd, Nat.add_zero, if_pos, M_zero, Nat.one_mul]
          omega
        · rw [if_neg hd, if_neg hn, if_neg (by omega), M_step (by omega) (by omega)]
          rw [show d - 1 + n = d + n - 1 by omega, show d + (n - 1) = d + n - 1 by omega]
          grind
    rw [e2, e1]
    rw [sum_add3 (g := fun n => if d = 0 then 0 else M (d - 1) n * T l (d - 1 + n)) (h := fun n => if n = 0 then 0 else T ([n - 1] :: l) d) (k := fun n => M d n * R l (d + n) + M d n * Z l (d + n)) fun n _ => rfl]
    rw [sum_add2 (g := fun n => M d n * R l (d + n)) (h := fun n => M d n * Z l (d + n))]
    show _ = _ + ((o.map fun n => if n = 0 then 0 else T ([n - 1] :: l) d).sum + (o.map fun n => M d n * R l (d + n)).sum) + (o.map fun n => M d n * Z l (d + n)).sum
    omega
theorem Z_pos : ∀ (l : List (List Nat)) (d : Nat), 0 < d → Z l d = 0
  | [], d, h => by simp [Z]; omega
  | o :: l, d, h => by
    show (o.map fun n => M d n * Z l (d + n)).sum = 0
    induction o with
    | nil => rfl
    | cons a r ih => rw [List.map_cons, List.sum_cons, ih, Z_pos l (d + a) (by omega)]; simp
theorem Z_zero : ∀ (l : List (List Nat)), (∃ o ∈ l, 0 ∉ o) → Z l 0 = 0
  | [], h => by obtain ⟨o, ho, _⟩ := h; cases ho
  | o :: l, h => by
    show (o.map fun n => M 0 n * Z l (0 + n)).sum = 0
    obtain ⟨q, hq, h0⟩ := h
    rcases List.mem_cons.mp hq with rfl | hq
    · have all : ∀ o : List Nat, 0 ∉ o → (o.map fun n => M 0 n * Z l (0 + n)).sum = 0 := by
        intro o
        induction o with
        | nil => intro _; rfl
        | cons a r ih =>
          intro hn
          rw [List.map_cons, List.sum_cons, ih fun h => hn (.tail _ h), Z_pos l (0 + a) (by
            have : a ≠ 0 := fun e => hn (by rw [e]; exact .head _)
            omega)]
          simp
      exact all _ h0
    · have z := Z_zero l ⟨q, hq, h0⟩
      have e : (o.map fun n => M 0 n * Z l (0 + n)) = o.map fun _ => 0 := by
        refine List.map_congr_left fun a _ => ?_
        by_cases ha : a = 0
        · subst ha; rw [Nat.zero_add, z, Nat.mul_zero]
        · rw [Z_pos l (0 + a) (by omega), Nat.mul_zero]
      rw [e, sum_zero]
/-- the steps taken back, figure by figure -/
noncomputable def back (l : List (List Nat)) (p : Nat) (d : Nat) : Nat := ((l.getD p []).map fun n => if n = 0 then 0 else T (l.set p [n - 1]) d).sum
theorem mul_sum (c : Nat) : ∀ l : List Nat, c * l.sum = (l.map fun x => c * x).sum
  | [] => by simp
  | a :: r => by rw [List.sum_cons, List.map_cons, List.sum_cons, Nat.mul_add, mul_sum c r]
theorem sum_comm {f : Nat → Nat → Nat} (a : List Nat) (b : List Nat) : (a.map fun i => (b.map fun j => f i j).sum).sum = (b.map fun j => (a.map fun i => f i j).sum).sum := by
  induction a with
  | nil =>
    simp only [List.map_nil, List.sum_nil]
    exact (sum_zero b).symm
  | cons x r ih =>
    rw [List.map_cons, List.sum_cons, ih]
    simp only [List.map_cons, List.sum_cons]
    rw [sum_add2 (g := fun j => f x j) (h := fun j => (r.map fun i => f i j).sum)]
theorem R_back : ∀ (l : List (List Nat)) (d : Nat), R l d = ((List.range l.length).map fun p => back l p d).sum
  | [], d => rfl
  | o :: l, d => by
    rw [List.length_cons, List.range_succ_eq_map, List.map_cons, List.sum_cons, List.map_map]
    show (o.map fun n => if n = 0 then 0 else T ([n - 1] :: l) d).sum + (o.map fun n => M d n * R l (d + n)).sum = _
    have e1 : back (o :: l) 0 d = (o.map fun n => if n = 0 then 0 else T ([n - 1] :: l) d).sum := rfl
    have e2 : (o.map fun n => M d n * R l (d + n)).sum = ((List.range l.length).map ((fun p => back (o :: l) p d) ∘ Nat.succ)).sum := by
      have k : ∀ p, back (o :: l) (p + 1) d = (o.map fun n => M d n * back l p (d + n)).sum := by
        intro p
        show ((l.getD p []).map fun n => if n = 0 then 0 else T (o :: l.set p [n - 1]) d).sum = _
        have a1 : ((l.getD p []).map fun n => if n = 0 then 0 else T (o :: l.set p [n - 1]) d) = (l.getD p []).map fun n => (o.map fun k => M d k * (if n = 0 then 0 else T (l.set p [n - 1]) (d + k))).sum := by
          refine List.map_congr_left fun n _ => ?_
          split
          · simp only [Nat.mul_zero]
            exact (sum_zero o).symm
          · rfl
        rw [a1, sum_comm]
        congr 1
        refine List.map_congr_left fun n _ => ?_
        show _ = M d n * ((l.getD p []).map fun k => if k = 0 then 0 else T (l.set p [k - 1]) (d + n)).sum
        rw [mul_sum, List.map_map]
        rfl
      have a2 : ((List.range l.length).map ((fun p => back (o :: l) p d) ∘ Nat.succ)) = (List.range l.length).map fun p => (o.map fun n => M d n * back l p (d + n)).sum := List.map_congr_left fun p _ => k p
      rw [a2, sum_comm]
      congr 1
      refine List.map_congr_left fun n _ => ?_
      rw [R_back l (d + n), mul_sum, List.map_map]
      rfl
    rw [e1, e2]
theorem T_back (l : List (List Nat)) (h : ∃ o ∈ l, 0 ∉ o) : T l 0 = ((List.range l.length).map fun p => back l p 0).sum := by
  rw [T_rec l 0, Z_zero l h, R_back]
  simp
end Mine
end

section -- OkT
open PySem PySem.W PySem.Spec PySem.Calls PyProof.Rows
namespace Mine
/-- the figure that a bit turns -/
noncomputable def pl : Nat → Nat
  | 8 => 0 | 7 => 1 | 6 => 2 | 11 => 2 | 5 => 3 | 4 => 4 | 3 => 5 | 10 => 5 | 2 => 6 | 1 => 7 | _ => 8
theorem pl_lt (j : Nat) : pl j < 9 := by unfold pl; split <;> decide
theorem twelve {j : Nat} (h : j < 12) : j = 0 ∨ j = 1 ∨ j = 2 ∨ j = 3 ∨ j = 4 ∨ j = 5 ∨ j = 6 ∨ j = 7 ∨ j = 8 ∨ j = 9 ∨ j = 10 ∨ j = 11 :=
  (show ∀ j, j < 12 → (j = 0 ∨ j = 1 ∨ j = 2 ∨ j = 3 ∨ j = 4 ∨ j = 5 ∨ j = 6 ∨ j = 7 ∨ j = 8 ∨ j = 9 ∨ j = 10 ∨ j = 11) by decide) j h
theorem nine {p : Nat} (h : p < 9) : p = 0 ∨ p = 1 ∨ p = 2 ∨ p = 3 ∨ p = 4 ∨ p = 5 ∨ p = 6 ∨ p = 7 ∨ p = 8 :=
  (show ∀ p, p < 9 → (p = 0 ∨ p = 1 ∨ p = 2 ∨ p = 3 ∨ p = 4 ∨ p = 5 ∨ p = 6 ∨ p = 7 ∨ p = 8) by decide) p h
theorem fg_congr (ab : Int) {n m q : Nat} (hq : q < 9) (h : ∀ i, pl i = q → n.testBit i = m.testBit i) : fg ab n q = fg ab m q := by
  match q, hq with
  | 0, _ => exact congrArg (fr ab) (h 8 rfl)
  | 1, _ => exact congrArg (fw ab) (h 7 rfl)
  | 2, _ => exact (congrArg (fun x => fx ab 0 x (n.testBit 11)) (h 6 rfl)).trans (congrArg (fx ab 0 (m.testBit 6)) (h 11 rfl))
  | 3, _ => exact congrArg (fr ab) (h 5 rfl)
  | 4, _ => exact congrArg (fw ab) (h 4 rfl)
  | 5, _ => exact (congrArg (fun x => fx ab 0 x (n.testBit 10)) (h 3 rfl)).trans (congrArg (fx ab 0 (m.testBit 3)) (h 10 rfl))
  | 6, _ => exact congrArg (fr ab) (h 2 rfl)
  | 7, _ => exact congrArg (fw ab) (h 1 rfl)
  | 8, _ => exact (congrArg (fun x => fx ab 1 x (n.testBit 9)) (h 0 rfl)).trans (congrArg (fx ab 1 (m.testBit 0)) (h 9 rfl))
theorem tb_other {n j q : Nat} (h : q ≠ pl j) : ∀ i, pl i = q → (n ^^^ 2 ^ j).testBit i = n.testBit i := by
  intro i e
  rw [tb_flip, if_neg (fun c => h (by rw [c]; exact e.symm))]
theorem fg_ne (ab : Int) {n j q : Nat} (_ : j < 12) (hq : q < 9) (h : q ≠ pl j) : fg ab (n ^^^ 2 ^ j) q = fg ab n q := fg_congr ab hq (tb_other h)
theorem wt_pos (p : Nat) : 0 < wt p := by unfold wt; split <;> decide
section
variable {odd : Int} {s n j : Nat}
theorem abv (h : odd = 0 ∨ odd = 1) : 62 + odd = 62 ∨ 62 + odd = 63 := by omega
theorem iabs_mul (x w : Int) (hw : 0 < w) : iabs (x * w) = iabs x * w := by
  unfold iabs
  by_cases h : x < 0
  · rw [if_pos (Int.mul_neg_of_neg_of_pos h hw), if_pos h, Int.neg_mul]
  · rw [if_neg (by have := Int.mul_nonneg (Int.not_lt.mp h) (Int.le_of_lt hw); omega), if_neg h]
theorem c_flip {bits : List Int} (h : odd = 0 ∨ odd = 1) (hj : j < 12) : (lawGr s odd bits).c (n : Int) ((n ^^^ 2 ^ j : Nat) : Int) = iabs (fg (62 + odd) n (pl j) - fg (62 + odd) (n ^^^ 2 ^ j) (pl j)) * wt (pl j) := by
  unfold Gr.c lawGr
  dsimp only
  rw [price_S9 h, price_S9 h, kind_flip hj, ← iabs_mul _ _ (wt_pos _), ← S9_diff (g := fg (62 + odd) (n ^^^ 2 ^ j)) (g' := fg (62 + odd) n) (pl_lt j) fun q h1 h2 => (fg_ne (62 + odd) hj h1 h2).symm]
  congr 1
  omega
theorem D_flip {bits : List Int} (hj : j < 12) : (lawGr s odd bits).D ((n ^^^ 2 ^ j : Nat) : Int) = (lawGr s odd bits).D (n : Int) + (iabs (fg (62 + odd) s (pl j) - fg (62 + odd) (n ^^^ 2 ^ j) (pl j)) - iabs (fg (62 + odd) s (pl j) - fg (62 + odd) n (pl j))) * wt (pl j) := by
  unfold lawGr
  dsimp only
  rw [cost_S9, cost_S9, ← S9_diff (g := fun p => iabs (fg (62 + odd) s p - fg (62 + odd) n p)) (g' := fun p => iabs (fg (62 + odd) s p - fg (62 + odd) (n ^^^ 2 ^ j) p)) (pl_lt j) fun q h1 h2 => by rw [fg_ne (62 + odd) hj h1 h2]]
  omega
theorem fg_self (h : odd = 0 ∨ odd = 1) (hj : j < 12) : fg (62 + odd) (n ^^^ 2 ^ j) (pl j) ≠ fg (62 + odd) n (pl j) := by
  have fr1 : ∀ b, fr (62 + odd) (!b) ≠ fr (62 + odd) b := by intro b; cases b <;> simp [fr] <;> omega
  have fw1 : ∀ b, fw (62 + odd) (!b) ≠ fw (62 + odd) b := by intro b; cases b <;> simp [fw] <;> omega
  have fx1 : ∀ k x e, (k = 0 ∨ k = 1) → fx (62 + odd) k (!x) e ≠ fx (62 + odd) k x e := by intro k x e hk; cases x <;> cases e <;> simp [fx] <;> omega
  have fx2 : ∀ k x e, (k = 0 ∨ k = 1) → fx (62 + odd) k x (!e) ≠ fx (62 + odd) k x e := by intro k x e hk; cases x <;> cases e <;> simp [fx] <;> omega
  obtain rfl | rfl | rfl | rfl | rfl | rfl | rfl | rfl | rfl | rfl | rfl | rfl := twelve hj <;> simp only [fg, pl, tb_flip]
  · exact fx1 1 _ _ (.inr rfl)
  · exact fw1 _
  · exact fr1 _
  · exact fx1 0 _ _ (.inl rfl)
  · exact fw1 _
  · exact fr1 _
  · exact fx1 0 _ _ (.inl rfl)
  · exact fw1 _
  · exact fr1 _
  · exact fx2 1 _ _ (.inr rfl)
  · exact fx2 0 _ _ (.inl rfl)
  · exact fx2 0 _ _ (.inl rfl)
end
/-- no shorter through the bit j -/
noncomputable abbrev Tight (ab : Int) (s n j : Nat) : Prop := iabs (fg ab s (pl j) - fg ab (n ^^^ 2 ^ j) (pl j)) + iabs (fg ab n (pl j) - fg ab (n ^^^ 2 ^ j) (pl j)) = iabs (fg ab s (pl j) - fg ab n (pl j))
theorem tight_iff {odd : Int} {s n j : Nat} {bits : List Int} (h : odd = 0 ∨ odd = 1) (hj : j < 12) : ((lawGr s odd bits).D ((n ^^^ 2 ^ j : Nat) : Int) + (lawGr s odd bits).c ((n ^^^ 2 ^ j : Nat) : Int) (n : Int) = (lawGr s odd bits).D (n : Int)) ↔ Tight (62 + odd) s n j := by
  have hw := wt_pos (pl j)
  have hc : (lawGr s odd bits).c ((n ^^^ 2 ^ j : Nat) : Int) (n : Int) = iabs (fg (62 + odd) n (pl j) - fg (62 + odd) (n ^^^ 2 ^ j) (pl j)) * wt (pl j) := by
    rw [← c_flip (bits := bits) (s := s) h hj]
    exact iabs_comm _ _
  rw [D_flip hj, hc]
  unfold Tight
  generalize iabs (fg (62 + odd) s (pl j) - fg (62 + odd) (n ^^^ 2 ^ j) (pl j)) = a
  generalize iabs (fg (62 + odd) n (pl j) - fg (62 + odd) (n ^^^ 2 ^ j) (pl j)) = b
  generalize iabs (fg (62 + odd) s (pl j) - fg (62 + odd) n (pl j)) = c
  generalize wt (pl j) = w at *
  generalize (lawGr s odd bits).D (n : Int) = d
  constructor
  · intro e
    have : (a - c + b) * w = 0 := by grind
    rcases Int.mul_eq_zero.mp this with h1 | h1 <;> omega
  · intro e
    have : a - c = -b := by omega
    rw [this]
    grind
end Mine
end

section -- SizeT
open PySem PySem.W PySem.Spec PySem.Calls PyProof.Rows
namespace Mine
noncomputable def ow (a b : Bool) : List Nat := if a = b then [0] else [1]
noncomputable def ox (sx se nx ne xin : Bool) : List Nat := if se ≠ ne ∧ sx = nx ∧ sx = false ∧ xin = true then [1, 3] else [(if sx = nx then 0 else 1) + (if se = ne then 0 else 1)]
/-- the sizes of the p-th figure -/
noncomputable def sz (s n : Nat) (ks : List Nat) : Nat → List Nat
  | 0 => ow (s.testBit 8) (n.testBit 8)
  | 1 => ow (s.testBit 7) (n.testBit 7)
  | 2 => ox (s.testBit 6) (s.testBit 11) (n.testBit 6) (n.testBit 11) (decide (6 ∈ ks))
  | 3 => ow (s.testBit 5) (n.testBit 5)
  | 4 => ow (s.testBit 4) (n.testBit 4)
  | 5 => ox (s.testBit 3) (s.testBit 10) (n.testBit 3) (n.testBit 10) (decide (3 ∈ ks))
  | 6 => ow (s.testBit 2) (n.testBit 2)
  | 7 => ow (s.testBit 1) (n.testBit 1)
  | _ => ox (s.testBit 0) (s.testBit 9) (n.testBit 0) (n.testBit 9) (decide (0 ∈ ks))
noncomputable def Ls (s n : Nat) (ks : List Nat) : List (List Nat) := [sz s n ks 0, sz s n ks 1, sz s n ks 2, sz s n ks 3, sz s n ks 4, sz s n ks 5, sz s n ks 6, sz s n ks 7, sz s n ks 8]
theorem sz_congr {s n m q : Nat} {ks : List Nat} (hq : q < 9) (h : ∀ i, pl i = q → n.testBit i = m.testBit i) : sz s n ks q = sz s m ks q := by
  match q, hq with
  | 0, _ => exact congrArg (ow _) (h 8 rfl)
  | 1, _ => exact congrArg (ow _) (h 7 rfl)
  | 2, _ => exact (congrArg (fun x => ox (s.testBit 6) (s.testBit 11) x (n.testBit 11) (decide (6 ∈ ks))) (h 6 rfl)).trans (congrArg (fun x => ox (s.testBit 6) (s.testBit 11) (m.testBit 6) x (decide (6 ∈ ks))) (h 11 rfl))
  | 3, _ => exact congrArg (ow _) (h 5 rfl)
  | 4, _ => exact congrArg (ow _) (h 4 rfl)
  | 5, _ => exact (congrArg (fun x => ox (s.testBit 3) (s.testBit 10) x (n.testBit 10) (decide (3 ∈ ks))) (h 3 rfl)).trans (congrArg (fun x => ox (s.testBit 3) (s.testBit 10) (m.testBit 3) x (decide (3 ∈ ks))) (h 10 rfl))
  | 6, _ => exact congrArg (ow _) (h 2 rfl)
  | 7, _ => exact congrArg (ow _) (h 1 rfl)
  | 8, _ => exact (congrArg (fun x => ox (s.testBit 0) (s.testBit 9) x (n.testBit 9) (decide (0 ∈ ks))) (h 0 rfl)).trans (congrArg (fun x => ox (s.testBit 0) (s.testBit 9) (m.testBit 0) x (decide (0 ∈ ks))) (h 9 rfl))
theorem sz_ne {s n j q : Nat} {ks : List Nat} (_ : j < 12) (hq : q < 9) (h : q ≠ pl j) : sz s (n ^^^ 2 ^ j) ks q = sz s n ks q := sz_congr hq (tb_other h)
theorem Ls_range (s n : Nat) (ks : List Nat) : Ls s n ks = (List.range 9).map (sz s n ks) := rfl
theorem Ls_flip {s n j : Nat} {ks : List Nat} (hj : j < 12) : Ls s (n ^^^ 2 ^ j) ks = (Ls s n ks).set (pl j) (sz s (n ^^^ 2 ^ j) ks (pl j)) := by
  rw [Ls_range, Ls_range]
  refine List.ext_getElem (by simp) fun i h1 h2 => ?_
  rw [List.length_map, List.length_range] at h1
  rw [List.getElem_set, List.getElem_map, List.getElem_map, List.getElem_range]
  by_cases c : pl j = i
  · rw [if_pos c, c]
  · rw [if_neg c, sz_ne hj h1 fun e => c e.symm]
section
variable {T n s : Nat} {ks : List Nat}
theorem fd2 (t D : Nat) : ((t : Int).fdiv (D : Int)).fmod 2 = ((t / D % 2 : Nat) : Int) := by
  rw [Int.fdiv_eq_ediv_of_nonneg _ (Int.natCast_nonneg D), Int.fmod_eq_emod_of_nonneg _ (by decide)]
  push_cast
  rfl
theorem tbn (t k : Nat) : t / 2 ^ k % 2 = if t.testBit k = true then 1 else 0 := by
  rw [tb_div]
  have := Nat.mod_two_eq_zero_or_one (t / 2 ^ k)
  by_cases h : t / 2 ^ k % 2 = 1
  · rw [decide_eq_true h, if_pos rfl, h]
  · rw [decide_eq_false h, if_neg (by decide)]; omega
theorem xor_tb (s n k : Nat) : (s ^^^ n).testBit k = !(s.testBit k == n.testBit k) := by
  rw [Nat.testBit_xor]
  cases s.testBit k <;> cases n.testBit k <;> rfl
theorem one_ow {v : Int} {k : Nat} (hv : v = (((s ^^^ n) / 2 ^ k % 2 : Nat) : Int)) : [v.toNat] = ow (s.testBit k) (n.testBit k) := by
  rw [hv, Int.toNat_natCast, tbn, xor_tb]
  unfold ow
  cases s.testBit k <;> cases n.testBit k <;> rfl
theorem pow_mem (k : Nat) : (2 : Int) ^ k ∈ ks.map (fun k => (2 : Int) ^ k) ↔ k ∈ ks := by
  rw [List.mem_map]
  constructor
  · rintro ⟨a, ha, e⟩
    have e' : (2 : Nat) ^ a = 2 ^ k := by exact_mod_cast e
    rw [(Nat.pow_right_inj (by decide : 1 < 2)).mp e'] at ha
    exact ha
  · intro h
    exact ⟨k, h, rfl⟩
theorem last_ox {i x e : Nat} (hx : runI i = ((2 ^ x : Nat) : Int)) (he : extI i = ((2 ^ e : Nat) : Int)) :
    (if longB (s : Int) ((s ^^^ n : Nat) : Int) (ks.map fun k => (2 : Int) ^ k) i = true then [1, 3] else [(chC ((s ^^^ n : Nat) : Int) i).toNat]) = ox (s.testBit x) (s.testBit e) (n.testBit x) (n.testBit e) (decide (x ∈ ks)) := by
  have h1 : Builtin.bitAnd ((s ^^^ n : Nat) : Int) (extI i) = ((if (s ^^^ n).testBit e = true then 2 ^ e else 0 : Nat) : Int) := by rw [he, bitAnd_nat, and_pow]
  have h2 : Builtin.bitAnd ((s ^^^ n : Nat) : Int) (runI i) = ((if (s ^^^ n).testBit x = true then 2 ^ x else 0 : Nat) : Int) := by rw [hx, bitAnd_nat, and_pow]
  have h3 : Builtin.bitAnd (s : Int) (runI i) = ((if s.testBit x = true then 2 ^ x else 0 : Nat) : Int) := by rw [hx, bitAnd_nat, and_pow]
  have h4 : runI i ∈ (ks.map fun k => (2 : Int) ^ k) ↔ x ∈ ks := by
    rw [hx]
    have := pow_mem (ks := ks) x
    push_cast
    exact this
  have h5 : (chC ((s ^^^ n : Nat) : Int) i).toNat = (if (s ^^^ n).testBit x = true then 1 else 0) + (if (s ^^^ n).testBit e = true then 1 else 0) := by
    unfold chC
    rw [hx, he, fd2, fd2, tbn, tbn]
    rw [← Int.natCast_add, Int.toNat_natCast]
  have dz : ∀ (b : Bool) (m : Nat), 0 < m → decide (((if b = true then m else 0 : Nat) : Int) = 0) = !b := by
    intro b m hm
    cases b
    · rfl
    · rw [if_pos rfl]
      exact decide_eq_false (by omega)
  have dn : ∀ (b : Bool) (m : Nat), 0 < m → decide (((if b = true then m else 0 : Nat) : Int) ≠ 0) = b := by
    intro b m hm
    cases b
    · rfl
    · rw [if_pos rfl]
      exact decide_eq_true (by omega)
  unfold longB
  rw [h1, h2, h3, h5, xor_tb, xor_tb, decide_eq_decide.mpr h4, dn _ _ (Nat.two_pow_pos e), dz _ _ (Nat.two_pow_pos x), dz _ _ (Nat.two_pow_pos x)]
  unfold ox
  cases s.testBit x <;> cases s.testBit e <;> cases n.testBit x <;> cases n.testBit e <;> cases decide (x ∈ ks) <;> rfl
theorem ways_Ls : ways9 (s : Int) (Builtin.bitXor (s : Int) (n : Int)) (ks.map fun k => (2 : Int) ^ k) = Ls s n ks := by
  rw [bitXor_nat]
  unfold ways9 choF
  rw [last_ox (i := 0) (x := 6) (e := 11) rfl rfl, last_ox (i := 1) (x := 3) (e := 10) rfl rfl, last_ox (i := 2) (x := 0) (e := 9) rfl rfl]
  rw [one_ow (v := chA _ 0) (k := 8) (fd2 _ 256), one_ow (v := chB _ 0) (k := 7) (fd2 _ 128), one_ow (v := chA _ 1) (k := 5) (fd2 _ 32), one_ow (v := chB _ 1) (k := 4) (fd2 _ 16), one_ow (v := chA _ 2) (k := 2) (fd2 _ 4), one_ow (v := chB _ 2) (k := 1) (fd2 _ 2)]
  rfl
end
section
variable {ab : Int} {Φ : List Nat → Nat}
theorem ow_back {f : Bool → Int} (hf : f true ≠ f false) {a b kin : Bool} (h : b ≠ a → kin = true) : ((ow a b).map fun k => if k = 0 then 0 else Φ [k - 1]).sum = if kin = true ∧ iabs (f a - f (!b)) + iabs (f b - f (!b)) = iabs (f a - f b) then Φ (ow a (!b)) else 0 := by
  have p : ∀ x y : Int, x ≠ y → 0 < iabs (x - y) := by intro x y hxy; unfold iabs; split <;> omega
  have z : ∀ x : Int, iabs (x - x) = 0 := by intro x; unfold iabs; split <;> omega
  have p1 := p _ _ hf
  have p2 := p _ _ (Ne.symm hf)
  have c1 := iabs_comm (f true) (f false)
  cases a <;> cases b
  · rw [if_neg]
    · simp [ow]
    · rintro ⟨_, e⟩
      simp only [Bool.not_false, z] at e
      omega
  · rw [h (by decide), if_pos]
    · simp [ow]
    · refine ⟨rfl, ?_⟩
      simp only [Bool.not_true, z]
      omega
  · rw [h (by decide), if_pos]
    · simp [ow]
    · refine ⟨rfl, ?_⟩
      simp only [Bool.not_false, z]
      omega
  · rw [if_neg]
    · simp [ow]
    · rintro ⟨_, e⟩
      simp only [Bool.not_true, z] at e
      omega
noncomputable def oxL (sx se nx ne xin : Bool) : List (List Nat) := ((ox sx se nx ne xin).filter fun k => k != 0).map fun k => [k - 1]
noncomputable def oxR (ab k : Int) (sx se nx ne xin ein : Bool) : List (List Nat) :=
  (if xin = true ∧ iabs (fx ab k sx se - fx ab k (!nx) ne) + iabs (fx ab k nx ne - fx ab k (!nx) ne) = iabs (fx ab k sx se - fx ab k nx ne) then [ox sx se (!nx) ne xin] else []) ++
  (if ein = true ∧ iabs (fx ab k sx se - fx ab k nx (!ne)) + iabs (fx ab k nx ne - fx ab k nx (!ne)) = iabs (fx ab k sx se - fx ab k nx ne) then [ox sx se nx (!ne) xin] else [])
theorem ox_look : ∀ a k sx se nx ne xin ein : Bool, (nx ≠ sx → xin = true) → (ne ≠ se → ein = true) →
    (oxL sx se nx ne xin == oxR (if a then 62 else 63) (if k then 0 else 1) sx se nx ne xin ein || oxL sx se nx ne xin == (oxR (if a then 62 else 63) (if k then 0 else 1) sx se nx ne xin ein).reverse) = true := by decide +kernel
theorem fil_sum : ∀ l : List Nat, (l.map fun k => if k = 0 then 0 else Φ [k - 1]).sum = (((l.filter fun k => k != 0).map fun k => [k - 1]).map Φ).sum
  | [] => rfl
  | k :: l => by
    rw [List.map_cons, List.sum_cons, fil_sum l, List.filter_cons]
    cases k with
    | zero => exact Nat.zero_add _
    | succ k => rfl
theorem sum_rev : ∀ l : List Nat, l.reverse.sum = l.sum
  | [] => rfl
  | k :: l => by
    rw [List.reverse_cons, List.sum_append, sum_rev l, List.sum_cons, List.sum_cons, List.sum_nil]
    omega
theorem ox_back (hab : ab = 62 ∨ ab = 63) {k : Int} (hk : k = 0 ∨ k = 1) {sx se nx ne xin ein : Bool} (h1 : nx ≠ sx → xin = true) (h2 : ne ≠ se → ein = true) :
    ((ox sx se nx ne xin).map fun k => if k = 0 then 0 else Φ [k - 1]).sum =
      (if xin = true ∧ iabs (fx ab k sx se - fx ab k (!nx) ne) + iabs (fx ab k nx ne - fx ab k (!nx) ne) = iabs (fx ab k sx se - fx ab k nx ne) then Φ (ox sx se (!nx) ne xin) else 0) +
      (if ein = true ∧ iabs (fx ab k sx se - fx ab k nx (!ne)) + iabs (fx ab k nx ne - fx ab k nx (!ne)) = iabs (fx ab k sx se - fx ab k nx ne) then Φ (ox sx se nx (!ne) xin) else 0) := by
  have e1 : ∀ (p q : Prop) [Decidable p] [Decidable q] (x y : List Nat), (if p then Φ x else 0) + (if q then Φ y else 0) = (((if p then [x] else []) ++ (if q then [y] else [])).map Φ).sum := by
    intro p q _ _ x y
    by_cases hp : p
    · by_cases hq : q
      · rw [if_pos hp, if_pos hq, if_pos hp, if_pos hq]; rfl
      · rw [if_pos hp, if_neg hq, if_pos hp, if_neg hq]; rfl
    · by_cases hq : q
      · rw [if_neg hp, if_pos hq, if_neg hp, if_pos hq]; exact Nat.zero_add _
      · rw [if_neg hp, if_neg hq, if_neg hp, if_neg hq]; rfl
  rw [e1, fil_sum]
  obtain ⟨a, ha⟩ : ∃ a : Bool, ab = if a then 62 else 63 := by
    rcases hab with h | h
    · exact ⟨true, h⟩
    · exact ⟨false, h⟩
  obtain ⟨b, hb⟩ : ∃ b : Bool, k = if b then 0 else 1 := by
    rcases hk with h | h
    · exact ⟨true, h⟩
    · exact ⟨false, h⟩
  have e := ox_look a b sx se nx ne xin ein h1 h2
  rw [← ha, ← hb, Bool.or_eq_true, beq_iff_eq, beq_iff_eq] at e
  show ((oxL sx se nx ne xin).map Φ).sum = ((oxR ab k sx se nx ne xin ein).map Φ).sum
  rcases e with e | e
  · rw [e]
  · rw [e, List.map_reverse, sum_rev]
end
end Mine
end

section -- LawOk
open PySem PySem.W PySem.Spec PySem.Calls PyProof.Rows
namespace Mine
theorem cast_sum (l : List Nat) : ((l.sum : Nat) : Int) = (l.map fun (x : Nat) => (x : Int)).sum := by
  induction l with
  | nil => rfl
  | cons a r ih => rw [List.sum_cons, List.map_cons, List.sum_cons, ← ih]; push_cast; rfl
theorem perm_sum {a b : List Nat} (h : a.Perm b) : a.sum = b.sum := by
  induction h with
  | nil => rfl
  | cons x _ ih => rw [List.sum_cons, List.sum_cons, ih]
  | swap x y l => simp only [List.sum_cons]; omega
  | trans _ _ ih1 ih2 => exact ih1.trans ih2
theorem sum_range {N : Nat} {ks : List Nat} (hn : ks.Nodup) (hl : ∀ k ∈ ks, k < N) (g : Nat → Nat) : (ks.map g).sum = ((List.range N).map fun j => if j ∈ ks then g j else 0).sum := by
  have hp : ks.Perm ((List.range N).filter fun j => decide (j ∈ ks)) := by
    refine (List.perm_ext_iff_of_nodup hn (List.nodup_range.filter _)).mpr fun a => ?_
    rw [List.mem_filter, List.mem_range]
    constructor
    · intro h; exact ⟨hl a h, by simpa using h⟩
    · rintro ⟨_, h⟩; simpa using h
  have e : ∀ l : List Nat, ((l.filter fun j => decide (j ∈ ks)).map g).sum = (l.map fun j => if j ∈ ks then g j else 0).sum := by
    intro l
    induction l with
    | nil => rfl
    | cons a r ih =>
      rw [List.filter_cons, List.map_cons, List.sum_cons]
      by_cases h : a ∈ ks
      · rw [if_pos (by simpa using h), List.map_cons, List.sum_cons, ih, if_pos h]
      · rw [if_neg (by simpa using h), ih, if_neg h]; omega
  rw [perm_sum (hp.map g), e]
theorem T_pos : ∀ (l : List (List Nat)) (d : Nat), (∀ o ∈ l, o ≠ []) → 0 < T l d
  | [], _, _ => Nat.one_pos
  | o :: l, d, h => by
    have M_pos : ∀ d n, 0 < M d n := by
      intro d
      induction d with
      | zero => intro n; rw [M_zero']; decide
      | succ d ih =>
        intro n
        induction n with
        | zero => rw [M_zero]; decide
        | succ n ih2 => rw [M_succ]; have := ih (n + 1); omega
    cases o with
    | nil => exact absurd rfl (h [] (.head _))
    | cons a r =>
      show 0 < ((a :: r).map fun n => M d n * T l (d + n)).sum
      rw [List.map_cons, List.sum_cons]
      have := Nat.mul_pos (M_pos d a) (T_pos l (d + a) fun o ho => h o (.tail _ ho))
      omega
theorem ow_ne (a b : Bool) : ow a b ≠ [] := by cases a <;> cases b <;> decide
theorem ox_ne (a b c d e : Bool) : ox a b c d e ≠ [] := by cases a <;> cases b <;> cases c <;> cases d <;> cases e <;> decide
theorem ow_no {a b : Bool} (h : b ≠ a) : 0 ∉ ow a b := by cases a <;> cases b <;> first | exact absurd rfl h | decide
theorem ox_no1 {a b c d e : Bool} (h : c ≠ a) : 0 ∉ ox a b c d e := by cases a <;> cases b <;> cases c <;> cases d <;> cases e <;> first | exact absurd rfl h | decide
theorem ox_no2 {a b c d e : Bool} (h : d ≠ b) : 0 ∉ ox a b c d e := by cases a <;> cases b <;> cases c <;> cases d <;> cases e <;> first | exact absurd rfl h | decide
section
variable {odd : Int} {s n : Nat} {ks : List Nat}
theorem Ls_ne : ∀ o ∈ Ls s n ks, o ≠ [] := by
  intro o ho
  unfold Ls at ho
  simp only [List.mem_cons, List.not_mem_nil, or_false] at ho
  rcases ho with rfl | rfl | rfl | rfl | rfl | rfl | rfl | rfl | rfl
  · exact ow_ne _ _
  · exact ow_ne _ _
  · exact ox_ne _ _ _ _ _
  · exact ow_ne _ _
  · exact ow_ne _ _
  · exact ox_ne _ _ _ _ _
  · exact ow_ne _ _
  · exact ow_ne _ _
  · exact ox_ne _ _ _ _ _
theorem Ls_no {i : Nat} (hi : i < 12) (h : n.testBit i ≠ s.testBit i) : ∃ o ∈ Ls s n ks, 0 ∉ o := by
  obtain rfl | rfl | rfl | rfl | rfl | rfl | rfl | rfl | rfl | rfl | rfl | rfl := twelve hi
  · exact ⟨sz s n ks 8, .tail _ (.tail _ (.tail _ (.tail _ (.tail _ (.tail _ (.tail _ (.tail _ (.head _)))))))), ox_no1 h⟩
  · exact ⟨sz s n ks 7, .tail _ (.tail _ (.tail _ (.tail _ (.tail _ (.tail _ (.tail _ (.head _))))))), ow_no h⟩
  · exact ⟨sz s n ks 6, .tail _ (.tail _ (.tail _ (.tail _ (.tail _ (.tail _ (.head _)))))), ow_no h⟩
  · exact ⟨sz s n ks 5, .tail _ (.tail _ (.tail _ (.tail _ (.tail _ (.head _))))), ox_no1 h⟩
  · exact ⟨sz s n ks 4, .tail _ (.tail _ (.tail _ (.tail _ (.head _)))), ow_no h⟩
  · exact ⟨sz s n ks 3, .tail _ (.tail _ (.tail _ (.head _))), ow_no h⟩
  · exact ⟨sz s n ks 2, .tail _ (.tail _ (.head _)), ox_no1 h⟩
  · exact ⟨sz s n ks 1, .tail _ (.head _), ow_no h⟩
  · exact ⟨sz s n ks 0, .head _, ow_no h⟩
  · exact ⟨sz s n ks 8, .tail _ (.tail _ (.tail _ (.tail _ (.tail _ (.tail _ (.tail _ (.tail _ (.head _)))))))), ox_no2 h⟩
  · exact ⟨sz s n ks 5, .tail _ (.tail _ (.tail _ (.tail _ (.tail _ (.head _))))), ox_no2 h⟩
  · exact ⟨sz s n ks 2, .tail _ (.tail _ (.head _)), ox_no2 h⟩
/-- the ways over the bit j -/
noncomputable def gw (ab : Int) (s n : Nat) (ks : List Nat) (j : Nat) : Nat := if j ∈ ks then (if Tight ab s n j then T (Ls s (n ^^^ 2 ^ j) ks) 0 else 0) else 0
theorem gw_eq {ab : Int} {j : Nat} (hj : j < 12) (q : Prop) [Decidable q] (hq : Tight ab s n j ↔ q) : gw ab s n ks j = if decide (j ∈ ks) = true ∧ q then T ((Ls s n ks).set (pl j) (sz s (n ^^^ 2 ^ j) ks (pl j))) 0 else 0 := by
  unfold gw
  rw [Ls_flip hj]
  by_cases h1 : j ∈ ks
  · by_cases h2 : Tight ab s n j
    · rw [if_pos h1, if_pos h2, if_pos ⟨by simpa using h1, hq.mp h2⟩]
    · rw [if_pos h1, if_neg h2, if_neg (fun h => h2 (hq.mpr h.2))]
  · rw [if_neg h1, if_neg (fun h => h1 (by simpa using h.1))]
theorem all_back (h : odd = 0 ∨ odd = 1) (hd : ∀ i, n.testBit i ≠ s.testBit i → i ∈ ks) :
    ((List.range 9).map fun p => back (Ls s n ks) p 0).sum = ((List.range 12).map fun j => gw (62 + odd) s n ks j).sum := by
  have frn : fr (62 + odd) true ≠ fr (62 + odd) false := by simp [fr]; omega
  have fwn : fw (62 + odd) true ≠ fw (62 + odd) false := by simp [fw]; omega
  have hk : ∀ i, n.testBit i ≠ s.testBit i → decide (i ∈ ks) = true := fun i hi => by simpa using hd i hi
  have b0 : back (Ls s n ks) 0 0 = gw (62 + odd) s n ks 8 := by
    rw [gw_eq (by decide) (iabs (fr (62 + odd) (s.testBit 8) - fr (62 + odd) (!n.testBit 8)) + iabs (fr (62 + odd) (n.testBit 8) - fr (62 + odd) (!n.testBit 8)) = iabs (fr (62 + odd) (s.testBit 8) - fr (62 + odd) (n.testBit 8))) (by unfold Tight; simp only [fg, pl, tb_flip]; exact Iff.rfl)]
    rw [show sz s (n ^^^ 2 ^ 8) ks (pl 8) = ow (s.testBit 8) (!n.testBit 8) by simp only [sz, pl, tb_flip]; rfl]
    exact ow_back (Φ := fun o => T ((Ls s n ks).set 0 o) 0) (f := fr (62 + odd)) frn (hk 8)
  have b1 : back (Ls s n ks) 1 0 = gw (62 + odd) s n ks 7 := by
    rw [gw_eq (by decide) (iabs (fw (62 + odd) (s.testBit 7) - fw (62 + odd) (!n.testBit 7)) + iabs (fw (62 + odd) (n.testBit 7) - fw (62 + odd) (!n.testBit 7)) = iabs (fw (62 + odd) (s.testBit 7) - fw (62 + odd) (n.testBit 7))) (by unfold Tight; simp only [fg, pl, tb_flip]; exact Iff.rfl)]
    rw [show sz s (n ^^^ 2 ^ 7) ks (pl 7) = ow (s.testBit 7) (!n.testBit 7) by simp only [sz, pl, tb_flip]; rfl]
    exact ow_back (Φ := fun o => T ((Ls s n ks).set 1 o) 0) (f := fw (62 + odd)) fwn (hk 7)
  have b2 : back (Ls s n ks) 2 0 = gw (62 + odd) s n ks 6 + gw (62 + odd) s n ks 11 := by
    rw [gw_eq (j := 6) (by decide) (iabs (fx (62 + odd) 0 (s.testBit 6) (s.testBit 11) - fx (62 + odd) 0 (!n.testBit 6) (n.testBit 11)) + iabs (fx (62 + odd) 0 (n.testBit 6) (n.testBit 11) - fx (62 + odd) 0 (!n.testBit 6) (n.testBit 11)) = iabs (fx (62 + odd) 0 (s.testBit 6) (s.testBit 11) - fx (62 + odd) 0 (n.testBit 6) (n.testBit 11))) (by unfold Tight; simp only [fg, pl, tb_flip]; exact Iff.rfl)]
    rw [gw_eq (j := 11) (by decide) (iabs (fx (62 + odd) 0 (s.testBit 6) (s.testBit 11) - fx (62 + odd) 0 (n.testBit 6) (!n.testBit 11)) + iabs (fx (62 + odd) 0 (n.testBit 6) (n.testBit 11) - fx (62 + odd) 0 (n.testBit 6) (!n.testBit 11)) = iabs (fx (62 + odd) 0 (s.testBit 6) (s.testBit 11) - fx (62 + odd) 0 (n.testBit 6) (n.testBit 11))) (by unfold Tight; simp only [fg, pl, tb_flip]; exact Iff.rfl)]
    rw [show sz s (n ^^^ 2 ^ 6) ks (pl 6) = ox (s.testBit 6) (s.testBit 11) (!n.testBit 6) (n.testBit 11) (decide (6 ∈ ks)) by simp only [sz, pl, tb_flip]; rfl]
    rw [show sz s (n ^^^ 2 ^ 11) ks (pl 11) = ox (s.testBit 6) (s.testBit 11) (n.testBit 6) (!n.testBit 11) (decide (6 ∈ ks)) by simp only [sz, pl, tb_flip]; rfl]
    exact ox_back (Φ := fun o => T ((Ls s n ks).set 2 o) 0) (ab := 62 + odd) (abv h) (k := 0) (.inl rfl) (hk 6) (hk 11)
  have b3 : back (Ls s n ks) 3 0 = gw (62 + odd) s n ks 5 := by
    rw [gw_eq (by decide) (iabs (fr (62 + odd) (s.testBit 5) - fr (62 + odd) (!n.testBit 5)) + iabs (fr (62 + odd) (n.testBit 5) - fr (62 + odd) (!n.testBit 5)) = iabs (fr (62 + odd) (s.testBit 5) - fr (62 + odd) (n.testBit 5))) (by unfold Tight; simp only [fg, pl, tb_flip]; exact Iff.rfl)]
    rw [show sz s (n ^^^ 2 ^ 5) ks (pl 5) = ow (s.testBit 5) (!n.testBit 5) by simp only [sz, pl, tb_flip]; rfl]
    exact ow_back (Φ := fun o => T ((Ls s n ks).set 3 o) 0) (f := fr (62 + odd)) frn (hk 5)
  have b4 : back (Ls s n ks) 4 0 = gw (62 + odd) s n ks 4 := by
    rw [gw_eq (by decide) (iabs (fw (62 + odd) (s.testBit 4) - fw (62 + odd) (!n.testBit 4)) + iabs (fw (62 + odd) (n.testBit 4) - fw (62 + odd) (!n.testBit 4)) = iabs (fw (62 + odd) (s.testBit 4) - fw (62 + odd) (n.testBit 4))) (by unfold Tight; simp only [fg, pl, tb_flip]; exact Iff.rfl)]
    rw [show sz s (n ^^^ 2 ^ 4) ks (pl 4) = ow (s.testBit 4) (!n.testBit 4) by simp only [sz, pl, tb_flip]; rfl]
    exact ow_back (Φ := fun o => T ((Ls s n ks).set 4 o) 0) (f := fw (62 + odd)) fwn (hk 4)
  have b5 : back (Ls s n ks) 5 0 = gw (62 + odd) s n ks 3 + gw (62 + odd) s n ks 10 := by
    rw [gw_eq (j := 3) (by decide) (iabs (fx (62 + odd) 0 (s.testBit 3) (s.testBit 10) - fx (62 + odd) 0 (!n.testBit 3) (n.testBit 10)) + iabs (fx (62 + odd) 0 (n.testBit 3) (n.testBit 10) - fx (62 + odd) 0 (!n.testBit 3) (n.testBit 10)) = iabs (fx (62 + odd) 0 (s.testBit 3) (s.testBit 10) - fx (62 + odd) 0 (n.testBit 3) (n.testBit 10))) (by unfold Tight; simp only [fg, pl, tb_flip]; exact Iff.rfl)]
    rw [gw_eq (j := 10) (by decide) (iabs (fx (62 + odd) 0 (s.testBit 3) (s.testBit 10) - fx (62 + odd) 0 (n.testBit 3) (!n.testBit 10)) + iabs (fx (62 + odd) 0 (n.testBit 3) (n.testBit 10) - fx (62 + odd) 0 (n.testBit 3) (!n.testBit 10)) = iabs (fx (62 + odd) 0 (s.testBit 3) (s.testBit 10) - fx (62 + odd) 0 (n.testBit 3) (n.testBit 10))) (by unfold Tight; simp only [fg, pl, tb_flip]; exact Iff.rfl)]
    rw [show sz s (n ^^^ 2 ^ 3) ks (pl 3) = ox (s.testBit 3) (s.testBit 10) (!n.testBit 3) (n.testBit 10) (decide (3 ∈ ks)) by simp only [sz, pl, tb_flip]; rfl]
    rw [show sz s (n ^^^ 2 ^ 10) ks (pl 10) = ox (s.testBit 3) (s.testBit 10) (n.testBit 3) (!n.testBit 10) (decide (3 ∈ ks)) by simp only [sz, pl, tb_flip]; rfl]
    exact ox_back (Φ := fun o => T ((Ls s n ks).set 5 o) 0) (ab := 62 + odd) (abv h) (k := 0) (.inl rfl) (hk 3) (hk 10)
  have b6 : back (Ls s n ks) 6 0 = gw (62 + odd) s n ks 2 := by
    rw [gw_eq (by decide) (iabs (fr (62 + odd) (s.testBit 2) - fr (62 + odd) (!n.testBit 2)) + iabs (fr (62 + odd) (n.testBit 2) - fr (62 + odd) (!n.testBit 2)) = iabs (fr (62 + odd) (s.testBit 2) - fr (62 + odd) (n.testBit 2))) (by unfold Tight; simp only [fg, pl, tb_flip]; exact Iff.rfl)]
    rw [show sz s (n ^^^ 2 ^ 2) ks (pl 2) = ow (s.testBit 2) (!n.testBit 2) by simp only [sz, pl, tb_flip]; rfl]
    exact ow_back (Φ := fun o => T ((Ls s n ks).set 6 o) 0) (f := fr (62 + odd)) frn (hk 2)
  have b7 : back (Ls s n ks) 7 0 = gw (62 + odd) s n ks 1 := by
    rw [gw_eq (by decide) (iabs (fw (62 + odd) (s.testBit 1) - fw (62 + odd) (!n.testBit 1)) + iabs (fw (62 + odd) (n.testBit 1) - fw (62 + odd) (!n.testBit 1)) = iabs (fw (62 + odd) (s.testBit 1) - fw (62 + odd) (n.testBit 1))) (by unfold Tight; simp only [fg, pl, tb_flip]; exact Iff.rfl)]
    rw [show sz s (n ^^^ 2 ^ 1) ks (pl 1) = ow (s.testBit 1) (!n.testBit 1) by simp only [sz, pl, tb_flip]; rfl]
    exact ow_back (Φ := fun o => T ((Ls s n ks).set 7 o) 0) (f := fw (62 + odd)) fwn (hk 1)
  have b8 : back (Ls s n ks) 8 0 = gw (62 + odd) s n ks 0 + gw (62 + odd) s n ks 9 := by
    rw [gw_eq (j := 0) (by decide) (iabs (fx (62 + odd) 1 (s.testBit 0) (s.testBit 9) - fx (62 + odd) 1 (!n.testBit 0) (n.testBit 9)) + iabs (fx (62 + odd) 1 (n.testBit 0) (n.testBit 9) - fx (62 + odd) 1 (!n.testBit 0) (n.testBit 9)) = iabs (fx (62 + odd) 1 (s.testBit 0) (s.testBit 9) - fx (62 + odd) 1 (n.testBit 0) (n.testBit 9))) (by unfold Tight; simp only [fg, pl, tb_flip]; exact Iff.rfl)]
    rw [gw_eq (j := 9) (by decide) (iabs (fx (62 + odd) 1 (s.testBit 0) (s.testBit 9) - fx (62 + odd) 1 (n.testBit 0) (!n.testBit 9)) + iabs (fx (62 + odd) 1 (n.testBit 0) (n.testBit 9) - fx (62 + odd) 1 (n.testBit 0) (!n.testBit 9)) = iabs (fx (62 + odd) 1 (s.testBit 0) (s.testBit 9) - fx (62 + odd) 1 (n.testBit 0) (n.testBit 9))) (by unfold Tight; simp only [fg, pl, tb_flip]; exact Iff.rfl)]
    rw [show sz s (n ^^^ 2 ^ 0) ks (pl 0) = ox (s.testBit 0) (s.testBit 9) (!n.testBit 0) (n.testBit 9) (decide (0 ∈ ks)) by simp only [sz, pl, tb_flip]; rfl]
    rw [show sz s (n ^^^ 2 ^ 9) ks (pl 9) = ox (s.testBit 0) (s.testBit 9) (n.testBit 0) (!n.testBit 9) (decide (0 ∈ ks)) by simp only [sz, pl, tb_flip]; rfl]
    exact ox_back (Φ := fun o => T ((Ls s n ks).set 8 o) 0) (ab := 62 + odd) (abv h) (k := 1) (.inr rfl) (hk 0) (hk 9)
  rw [show List.range 9 = [0, 1, 2, 3, 4, 5, 6, 7, 8] from rfl, show List.range 12 = [0, 1, 2, 3, 4, 5, 6, 7, 8, 9, 10, 11] from rfl]
  simp only [List.map_cons, List.map_nil, List.sum_cons, List.sum_nil]
  rw [b0, b1, b2, b3, b4, b5, b6, b7, b8]
  omega
end
set_option maxHeartbeats 4000000 in
theorem law_ok {start odd : Int} {nr : List Int} (h0 : 0 ≤ start) (h1 : start < 65536) (ho : odd = 0 ∨ odd = 1) (_h2 : 3 ≤ nr.length) (h3 : nr.length ≤ 4) : (lawGr start odd (bitsF nr)).Ok := by
  obtain ⟨s, rfl⟩ := Int.eq_ofNat_of_zero_le h0
  have hs : s < 65536 := by omega
  obtain ⟨ks, hks, hnd, hlt⟩ := bits_exp nr
  have hlen : ks.length ≤ 4 := by
    have := bits_len nr
    rw [hks, List.length_map] at this
    omega
  rw [hks]
  obtain ⟨hch, hVn⟩ := modes_char hs ks hnd hlt
  obtain ⟨G, hG⟩ : ∃ G, G = lawGr (s : Int) odd (ks.map fun k => (2 : Int) ^ k) := ⟨_, rfl⟩
  rw [← hG]
  have gV : G.V = modesF (s : Int) (ks.map fun k => (2 : Int) ^ k) := by rw [hG]; unfold lawGr; dsimp only
  have gb : G.bits = ks.map fun k => (2 : Int) ^ k := by rw [hG]; unfold lawGr; dsimp only
  have gs : G.s = (s : Int) := by rw [hG]; unfold lawGr; dsimp only
  have gD : ∀ n : Nat, G.D (n : Int) = S9 fun p => iabs (fg (62 + odd) s p - fg (62 + odd) n p) := by
    intro n
    rw [hG, ← cost_S9]
    unfold lawGr
    dsimp only
  have gW : ∀ n : Nat, G.W (n : Int) = (T (Ls s n ks) 0 : Int) := by
    intro n
    rw [hG, ← ways_Ls, ← waysF_T]
    unfold lawGr
    dsimp only
  have gc : ∀ n j : Nat, j < 12 → G.c (n : Int) ((n ^^^ 2 ^ j : Nat) : Int) = iabs (fg (62 + odd) n (pl j) - fg (62 + odd) (n ^^^ 2 ^ j) (pl j)) * wt (pl j) := by
    intro n j hj
    rw [hG]
    exact c_flip ho hj
  have gf : ∀ n j : Nat, j < 12 → G.D ((n ^^^ 2 ^ j : Nat) : Int) = G.D (n : Int) + (iabs (fg (62 + odd) s (pl j) - fg (62 + odd) (n ^^^ 2 ^ j) (pl j)) - iabs (fg (62 + odd) s (pl j) - fg (62 + odd) n (pl j))) * wt (pl j) := by
    intro n j hj
    rw [hG]
    exact D_flip hj
  have gt : ∀ n j : Nat, j < 12 → ((G.D ((n ^^^ 2 ^ j : Nat) : Int) + G.c ((n ^^^ 2 ^ j : Nat) : Int) (n : Int) = G.D (n : Int)) ↔ Tight (62 + odd) s n j) := by
    intro n j hj
    rw [hG]
    exact tight_iff ho hj
  clear hG
  -- the vertices
  have vert : ∀ m, m ∈ G.V ↔ ∃ n : Nat, m = (n : Int) ∧ n < 65536 ∧ ∀ i, n.testBit i ≠ s.testBit i → i ∈ ks := by rw [gV]; exact hch
  have bit : ∀ b, b ∈ G.bits ↔ ∃ j, j ∈ ks ∧ b = (2 : Int) ^ j := by
    intro b
    rw [gb, List.mem_map]
    exact ⟨fun ⟨j, h1, h2⟩ => ⟨j, h1, h2.symm⟩, fun ⟨j, h1, h2⟩ => ⟨j, h1, h2.symm⟩⟩
  have h16 : ∀ n j, n < 65536 → j < 12 → n ^^^ 2 ^ j < 65536 := by
    intro n j hn hj
    have : (2 : Nat) ^ j < 2 ^ 16 := Nat.pow_lt_pow_right (by decide) (by omega)
    exact Nat.xor_lt_two_pow (n := 16) hn this
  have inV : ∀ n j, n < 65536 → (∀ i, n.testBit i ≠ s.testBit i → i ∈ ks) → j ∈ ks → ∀ i, (n ^^^ 2 ^ j).testBit i ≠ s.testBit i → i ∈ ks := by
    intro n j _ hd hj i hi
    rw [tb_flip] at hi
    by_cases e : j = i
    · rw [← e]; exact hj
    · rw [if_neg e] at hi
      exact hd i hi
  have ways : ∀ n : Nat, (∀ i, n.testBit i ≠ s.testBit i → i ∈ ks) → n ≠ s → T (Ls s n ks) 0 = (ks.map fun j => if Tight (62 + odd) s n j then T (Ls s (n ^^^ 2 ^ j) ks) 0 else 0).sum := by
    intro n hd hne
    obtain ⟨i, hi⟩ : ∃ i, n.testBit i ≠ s.testBit i := Classical.byContradiction fun hh => hne (Nat.eq_of_testBit_eq fun i => Classical.byContradiction fun h => hh ⟨i, h⟩)
    rw [T_back _ (Ls_no (hlt i (hd i hi)) hi)]
    rw [show (Ls s n ks).length = 9 from rfl, all_back ho hd, sum_range hnd hlt]
    refine congrArg List.sum (List.map_congr_left fun j _ => ?_)
    unfold gw
    rfl
  have ne_s : ∀ n : Nat, (n : Int) ≠ G.s → n ≠ s := fun n h e => h (by rw [e, gs])
  refine ⟨by rw [gV]; exact hVn, ?_, ?_, ?_, ?_, ?_, ?_, ?_, ?_, ?_, ?_, ?_, ?_, ?_, ?_⟩
  · rw [gs]
    exact (vert _).mpr ⟨s, rfl, hs, fun i hi => absurd rfl hi⟩
  · rw [gs, gD]
    simp [S9, iabs]
  · rw [gs, gW]
    have e : Ls s s ks = [[0], [0], [0], [0], [0], [0], [0], [0], [0]] := by
      have w : ∀ a, ow a a = [0] := by decide
      have x : ∀ a b c, ox a b a b c = [0] := by decide
      simp only [Ls, sz, w, x]
    rw [e]
    simp [T, M_zero]
  · rw [gb, List.Nodup, List.pairwise_map]
    refine List.Pairwise.imp (fun {a b} hab e => hab ?_) hnd
    have e' : (2 : Nat) ^ a = 2 ^ b := by exact_mod_cast e
    exact (Nat.pow_right_inj (by decide : 1 < 2)).mp e'
  · intro m hm b hb
    obtain ⟨n, rfl, hn, hd⟩ := (vert m).mp hm
    obtain ⟨j, hj, rfl⟩ := (bit b).mp hb
    rw [nbr_nat]
    exact (vert _).mpr ⟨_, rfl, h16 n j hn (hlt j hj), inV n j hn hd hj⟩
  · intro m hm b hb
    obtain ⟨n, rfl, hn, hd⟩ := (vert m).mp hm
    obtain ⟨j, hj, rfl⟩ := (bit b).mp hb
    rw [nbr_nat, nbr_nat, flip_flip]
  · intro m hm b hb b' hb' e
    obtain ⟨n, rfl, hn, hd⟩ := (vert m).mp hm
    obtain ⟨j, hj, rfl⟩ := (bit b).mp hb
    obtain ⟨j', hj', rfl⟩ := (bit b').mp hb'
    rw [nbr_nat, nbr_nat] at e
    have e2 : n ^^^ 2 ^ j = n ^^^ 2 ^ j' := Int.ofNat.inj e
    have e3 : n ^^^ (n ^^^ 2 ^ j) = n ^^^ (n ^^^ 2 ^ j') := by rw [e2]
    rw [← Nat.xor_assoc, ← Nat.xor_assoc, Nat.xor_self, Nat.zero_xor, Nat.zero_xor] at e3
    exact_mod_cast e3
  · intro m hm b hb
    obtain ⟨n, rfl, hn, hd⟩ := (vert m).mp hm
    obtain ⟨j, hj, rfl⟩ := (bit b).mp hb
    rw [nbr_nat, gc n j (hlt j hj)]
    refine Int.mul_pos ?_ (wt_pos _)
    have := fg_self (n := n) ho (hlt j hj)
    unfold iabs
    split <;> omega
  · intro m hm b hb
    obtain ⟨n, rfl, hn, hd⟩ := (vert m).mp hm
    obtain ⟨j, hj, rfl⟩ := (bit b).mp hb
    rw [nbr_nat, gc n j (hlt j hj), gf n j (hlt j hj)]
    have hle : iabs (fg (62 + odd) s (pl j) - fg (62 + odd) (n ^^^ 2 ^ j) (pl j)) - iabs (fg (62 + odd) s (pl j) - fg (62 + odd) n (pl j)) ≤ iabs (fg (62 + odd) n (pl j) - fg (62 + odd) (n ^^^ 2 ^ j) (pl j)) := by
      unfold iabs
      split <;> split <;> split <;> omega
    have := Int.mul_le_mul_of_nonneg_right hle (Int.le_of_lt (wt_pos (pl j)))
    omega
  · intro m hm hms
    obtain ⟨n, rfl, hn, hd⟩ := (vert m).mp hm
    have hne := ne_s n hms
    refine Classical.byContradiction fun hh => ?_
    have hpos := T_pos (Ls s n ks) 0 Ls_ne
    rw [ways n hd hne] at hpos
    have z : (ks.map fun j => if Tight (62 + odd) s n j then T (Ls s (n ^^^ 2 ^ j) ks) 0 else 0) = ks.map fun _ => 0 := by
      refine List.map_congr_left fun j hj => ?_
      refine if_neg fun ht => hh ⟨(2 : Int) ^ j, (bit _).mpr ⟨j, hj, rfl⟩, ?_⟩
      rw [nbr_nat]
      exact (gt n j (hlt j hj)).mpr ht
    rw [z, sum_zero] at hpos
    exact absurd hpos (Nat.lt_irrefl _)
  · intro m hm hms
    obtain ⟨n, rfl, hn, hd⟩ := (vert m).mp hm
    have hne := ne_s n hms
    rw [gW, ways n hd hne, cast_sum, List.map_map, gb, List.map_map]
    refine congrArg List.sum (List.map_congr_left fun j hj => ?_)
    have hj12 := hlt j hj
    dsimp only [Function.comp]
    rw [nbr_nat, gW]
    by_cases ht : Tight (62 + odd) s n j
    · rw [if_pos ht, if_pos ((gt n j hj12).mpr ht)]
    · rw [if_neg ht, if_neg (fun hh => ht ((gt n j hj12).mp hh))]
      rfl
  · rw [gb, List.length_map]; exact hlen
  · rw [gV, modesF_len, List.length_map]
    exact Nat.le_trans (Nat.pow_le_pow_right (by decide) hlen) (by decide)
  · intro m hm
    obtain ⟨n, rfl, hn, _⟩ := (vert m).mp hm
    omega
end Mine
end

section -- LawW
open PySem PySem.W PySem.Spec PySem.Calls PyProof.Rows
namespace Mine
variable {prog : Program} {w : World} {p : Program} {loose : List Str} {mean : ExcName → Option Value} {mg mb : Str → Option Value}
theorem hadAlt (odd : Int) : altOf odd = #[45, 63] ∨ altOf odd = #[63, 45] := by unfold altOf; split <;> simp
theorem units_ok (env : Env) : (callerA.deeper env).units + 64 < cLine := by
  show callerA.units + 3 + 64 < cLine
  decide
theorem walked_law {start odd : Int} {bits : List Int} (ok : (lawGr start odd bits).Ok) (bA : Addr) (bvs : List Value) (nb : Nat) (news0 : List (Addr × Obj)) (hbA : (bA, listOf bvs.toArray nb) ∈ news0) (hbits : IntsAre bvs bits) (ts tb : Tok) :
    Spec prog w p loose mean mg mb 175 [.int start ts, .ref bA, .bytes (altOf odd) tb] 8 news0 (fun r news' => ∃ D vs n ss tl, r = .ref D ∧ (modesOf ss).Perm (modesF start bits) ∧ ss.Pairwise (fun a b => lex2 (a.1, a.2.1) (b.1, b.2.1) = true) ∧ (∀ t ∈ ss, t = tellF start odd bits t.2.1) ∧ DatAll tl vs (ss.map td) ∧ news' = (D, listOf (vs : List Value).toArray n) :: (tl ++ news0)) := by
  have hP : PriceSpec prog w p loose mean mg mb (lawGr start odd bits).P (altOf odd) := by
    unfold lawGr
    dsimp only
    exact fun m t tb news _ _ => price_spec (altOf odd) (hadAlt odd) m t tb news
  obtain ⟨G, hG⟩ : ∃ G, G = lawGr start odd bits := ⟨_, rfl⟩
  rw [← hG] at ok hP
  have hbE : bits = G.bits := by rw [hG]; unfold lawGr; dsimp only
  have hsE : start = G.s := by rw [hG]; unfold lawGr; dsimp only
  have hV : G.V = modesF start bits := by rw [hG]; unfold lawGr; dsimp only
  have hT : ∀ t : Int × Int × Int, t.1 = G.D t.2.1 ∧ t.2.2 = G.W t.2.1 → t = tellF start odd bits t.2.1 := by
    rintro ⟨a, b, c⟩ ⟨h1, h2⟩
    dsimp only at h1 h2 ⊢
    rw [h1, h2, hG]
    unfold lawGr tellF
    dsimp only
  have hw := walked_spec (prog := prog) (w := w) (p := p) (loose := loose) (mean := mean) (mg := mg) (mb := mb) G ok (altOf odd) hP bA bvs nb news0 hbA (by rw [← hbE]; exact hbits) ts tb
  rw [← hsE] at hw
  unfold Spec at hw ⊢
  intro dp un gd cn cs a ccd cl outer A₀ base h₀ L m s Q E B F X N T hk hd hu hret
  refine hw dp un gd cn cs a ccd cl outer A₀ base h₀ L m s Q E B F X N T hk hd hu ?_
  rintro r news' h' tk' F' N' ⟨D, vs, n, ss, tl, h1, h2, h3, h4, h5, h6⟩
  exact hret r news' h' tk' F' N' ⟨D, vs, n, ss, tl, h1, by rw [← hV]; exact h2, h3, fun t ht => hT t (h4 t ht), h5, h6⟩
theorem ok_nodup {start odd : Int} {bits : List Int} (ok : (lawGr start odd bits).Ok) : (modesF start bits).Nodup := by
  have h := ok.nodup
  unfold lawGr at h
  exact h
theorem same_told {start odd : Int} {bits : List Int} {ss : List T3} {ms : List Int} {ys : List T3} (hperm : (modesOf ss).Perm ms) (hpw : ss.Pairwise (fun a b => lex2 (a.1, a.2.1) (b.1, b.2.1) = true))
    (hval : ∀ t ∈ ss, t = tellF start odd bits t.2.1) (hp : ys.Perm (ms.map (tellF start odd bits))) (hs : ys.Pairwise (fun a b => lt3 a b = true)) : ss = ys := by
  have e : ss = (modesOf ss).map (tellF start odd bits) := by
    unfold modesOf
    rw [List.map_map]
    exact (List.map_id _).symm.trans (List.map_congr_left fun t ht => hval t ht)
  refine uniq3 ?_ (hpw.imp fun {a b} h => ?_) hs
  · rw [e]
    exact (hperm.map _).trans hp.symm
  · simp only [lex2, lt3, decide_eq_true_eq] at h ⊢
    omega
end Mine
end

section -- Law
open PySem PySem.W PySem.Spec PySem.Calls PyProof.Rows
set_option maxHeartbeats 8000000
namespace Mine
variable {prog : Program} {w : World} {p : Program} {loose : List Str} {mean : ExcName → Option Value} {mg mb : Str → Option Value}

theorem kqd3 (l : List T3) : ∀ d ∈ l.map td, kqdOk 8 d = true := by
  intro d hd
  obtain ⟨x, _, rfl⟩ := List.mem_map.mp hd
  rfl
theorem nodup_of_map {α β : Type} {f : α → β} {l : List α} (h : (l.map f).Nodup) : l.Nodup := (List.pairwise_map.mp h).imp fun hne e => hne (congrArg f e)
theorem bitsF_pos {ns : List Int} (h : 1 ≤ ns.length) : 1 ≤ (bitsF ns).length := by
  have up : ∀ (l : List Int) (bs : List Int), bs.length ≤ (l.foldl bitStep bs).length := by
    intro l
    induction l with
    | nil => intro bs; exact Nat.le_refl _
    | cons a r ih =>
      intro bs
      refine Nat.le_trans ?_ (ih _)
      unfold bitStep
      split <;> simp
  cases ns with
  | nil => simp at h
  | cons a r => exact up r (bitStep [] a) |> Nat.le_trans (by unfold bitStep; simp)
structure LSt where
  mA : Addr
  vs : List Value
  n : Nat
  ms : List Int
  oc : Obj
noncomputable abbrev LLed (L : Addr) (R : List (Addr × Obj)) (o1 o2 o3 o5 : Obj) (c : LSt) : List (Addr × Obj) := (c.mA, listOf c.vs.toArray c.n) :: (R ++ C5 L o1 o2 o3 c.oc o5)
theorem law_holds : PySem.Challenge.rw_pa0050_01.Holds := hd (by
  k_go0
  k_fold
  rename_i scr vals as5 hL ra w1_ r0 hI hr hc1 hc2 K0 hD h1 tk1 F1 o5 o4 o3 o2 o1 d5 d4 d3 d2 d1 N1 X0
  rename_i s0_ s1_ mg_ mb_ G_ Y_ fa_ fo_ pm_ doc_ ho_ hg_ KX_ X_ V_ GL_ T_ B_ TE_ TW_ mo1 mo2 M_ cdv an_ hcd_ ns hs_ hlay_ hL_ hr1 hl2 as9 as8
  replace F1 : Fr s1_.heap s1_.heap.objs.size h1 (fun y => if y = Str.ofString "script" then some (.ref scr) else none) := by with_unfolding_all exact F1
  replace d1 : o1.data = .cell none := by with_unfolding_all exact d1
  replace d2 : o2.data = .cell none := by with_unfolding_all exact d2
  replace d3 : o3.data = .cell none := by with_unfolding_all exact d3
  replace d4 : o4.data = .cell none := by with_unfolding_all exact d4
  replace d5 : o5.data = .cell none := by with_unfolding_all exact d5
  clear X0 hD w1_ ra hs_ G_ GL_ TE_ B_ V_ TW_ M_ X_
  walk_at "mineO"
  walk1
  walk_at "mineO"
  walk1
  walk_at "mineO"
  rename_i wW sv sh sI sC sL sl1 e1 e2 gH ys I8 L8 dA h3 tk3 o13 lA h4 F4 N4 l14
  have hZz : ∃ dr, dr = (List.take 5 ns).map (fun k' => k'.fmod (10 ^ Int.toNat 6)) := ⟨_, rfl⟩
  obtain ⟨dr, hdr⟩ := hZz
  rw [← hdr] at I8 L8
  have hdrl : dr.length ≤ 5 := by rw [hdr, List.length_map, List.length_take]; omega
  refine len_l N4 (.tail _ (.head _)) (by omega) ?_
  walk_at "mineO"
  refine kba_turn (value' := PySem.Expr.Name (PySem.Str.ofString "_") ⟨0, 0, 0, 0⟩) (fun _ => rfl) ?_
  have I4 : IntsAre [Value.int 33184 tk3, Value.int 6 (tk3 + 1), Value.int 11 (tk3 + 1 + 1), Value.int 2 (tk3 + 1 + 1 + 1)] [33184, 6, 11, 2] := .cons _ _ (.cons _ _ (.cons _ _ (.cons _ _ .nil)))
  have Ls4 : Heap.IsList h4 lA [Value.int 33184 tk3, Value.int 6 (tk3 + 1), Value.int 11 (tk3 + 1 + 1), Value.int 2 (tk3 + 1 + 1 + 1)].toArray := ⟨_, (N4 _ (.head _)).1, rfl, _, rfl⟩
  refine' kmk_slice_ints F4 N4 Ls4 (.int _ _) .none I4 (kmk_from I4 (by omega)) rfl ?_ (by with_unfolding_all rfl) (fun _ => rfl) (Nat.le_of_ble_eq_true rfl)
  intro fA fv h5 F5 N5 l15 I5 _ _
  walk_at "mineO"
  rename_i nA nv h6 I6 l16 h7 F7 N7
  have hZz : ∃ nm, nm = dr ++ List.drop ((ys.length : Int)).toNat [33184, 6, 11, 2] := ⟨_, rfl⟩
  obtain ⟨nm, hnm⟩ := hZz
  rw [← hnm] at I6
  have hnml : nm.length = dr.length + (4 - dr.length) := by rw [hnm, List.length_append, List.length_drop, Int.toNat_natCast, L8]; rfl
  obtain ⟨n0, nr, hn0⟩ : ∃ n0 nr, nm = n0 :: nr := by
    cases nm with
    | nil => simp at hnml; omega
    | cons a b => exact ⟨a, b, rfl⟩
  have hZz : ∃ R1, R1 = [(nA, listOf nv.toArray 0)] := ⟨_, rfl⟩
  obtain ⟨R1, hR1⟩ := hZz
  have lR1 : OffC s1_.heap.objs.size R1 := by
    intro p hp
    rw [hR1] at hp
    rw [List.mem_singleton.mp hp]
    exact ⟨Nat.ne_of_gt l16.2.2.2.2.2.2.2.2, Nat.ne_of_gt l16.2.2.2.2.2.2.2.1, Nat.ne_of_gt l16.2.2.2.2.2.2.1, Nat.ne_of_gt l16.2.2.2.2.2.1, Nat.ne_of_gt l16.2.2.2.2.1⟩
  have hnA : (nA, listOf nv.toArray 0) ∈ R1 := by rw [hR1]; exact .head _
  have N8 : News s1_.heap s1_.heap.objs.size h7 (R1 ++ C5 s1_.heap.objs.size o1 o2 o3 o4 o5) := by
    refine news_sub N7 fun q hq => ?_
    rw [hR1] at hq
    simp only [List.mem_append, List.mem_cons, List.not_mem_nil, or_false] at hq ⊢
    rcases hq with hq | hq | hq | hq | hq | hq <;> simp [hq]
  clear N7
  refine iitem_l N8 (List.mem_append_left _ hnA) I6 (by decide) (x := n0) (by rw [hn0]; rfl) (by decide) ?_
  intro t17
  walk_at "mine"
  refine storeX_C (by assumption) N8 rfl (up_1 lR1) d1 ?_
  intro h9 q1 F9 N9 dq1
  walk_at "mine"
  refine iitem_l N9 (List.mem_append_left _ hnA) I6 (by decide) (x := n0) (by rw [hn0]; rfl) (by decide) ?_
  intro t18
  walk_at "mine"
  refine storeX_C (by assumption) N9 rfl (up_2 lR1) d2 ?_
  intro h10 q2 F10 N10 dq2
  walk_at "mine"
  have Ls10 : Heap.IsList h10 nA nv.toArray := ⟨_, (N10 _ (List.mem_append_left _ hnA)).1, rfl, _, rfl⟩
  refine' kmk_slice_ints (by assumption) N10 Ls10 (.int _ _) .none I6 (kmk_from I6 (by decide)) rfl ?_ (by with_unfolding_all rfl) (fun _ => rfl) (by rw [List.size_toArray, sizeLine_eq, I6.length, hnml]; omega)
  intro bL bv h11 F11 N11 l11 I11 _ _
  have I11' : IntsAre bv nr := by rw [hn0] at I11; exact I11
  clear I11
  walk_at "mine"
  have hnrl : nr.length ≤ 4 := by rw [hn0] at hnml; simp at hnml; omega
  refine' Spec.use (bits_spec bL bv 0 nr _ (.head _) I11' (by omega)) ?sB ?sF ?sX ?sN ?sT ?sK ?sD ?sU ?_
  walk_at "use"
  case sD => decide
  case sU => decide
  rintro r news' h12 tk12 F12 N12 ⟨bA, bvs, bn, rfl, I12, rfl, hoff12⟩
  walk_at "mine"
  have hZz : ∃ R2, R2 = (bA, listOf bvs.toArray bn) :: R1 := ⟨_, rfl⟩
  obtain ⟨R2, hR2⟩ := hZz
  have lR2 : OffC s1_.heap.objs.size R2 := by
    intro p hp
    rw [hR2] at hp
    rcases List.mem_cons.mp hp with rfl | hp
    · exact offA_of (rest := (bL, listOf bv.toArray 0) :: R1) (o1 := q1) (o2 := q2) (o3 := o3) (o4 := o4) (o5 := o5) hoff12
    · exact lR1 p hp
  have hbA : (bA, listOf bvs.toArray bn) ∈ R2 := by rw [hR2]; exact .head _
  have N13 : News s1_.heap s1_.heap.objs.size h12 (R2 ++ C5 s1_.heap.objs.size q1 q2 o3 o4 o5) := by
    refine news_sub N12 fun q hq => ?_
    rw [hR2] at hq
    rcases List.mem_cons.mp hq with rfl | hq
    · exact .head _
    · exact .tail _ (.tail _ hq)
  refine storeX_C (by assumption) N13 rfl (up_3 lR2) d3 ?_
  intro h14 q3 F14 N14 dq3
  clear N12 N11 N13
  have hq1 : (s1_.heap.objs.size + 1, q1) ∈ R2 ++ C5 s1_.heap.objs.size q1 q2 q3 o4 o5 := List.mem_append_right _ (.tail _ (.tail _ (.tail _ (.tail _ (.head _)))))
  walk_at "mine"
  refine list_l (by assumption) N14 (Nat.le_of_ble_eq_true rfl) ?_
  intro m0A h15 F15 N15 l15
  walk_at "mine"
  have hZz : ∃ tS, q1.data = .cell (some (.int (n0.fmod 65536) tS)) := ⟨_, dq1⟩
  obtain ⟨tS, dq1'⟩ := hZz
  have hZz : ∃ tO, q2.data = .cell (some (.int ((n0.fdiv 65536).fmod 2) tO)) := ⟨_, dq2⟩
  obtain ⟨tO, dq2'⟩ := hZz
  clear dq1 dq2
  have hZz : ∃ x, x = n0.fmod 65536 := ⟨_, rfl⟩
  obtain ⟨start, hst⟩ := hZz
  have hZz : ∃ x, x = (n0.fdiv 65536).fmod 2 := ⟨_, rfl⟩
  obtain ⟨odd, hod⟩ := hZz
  have hZz : ∃ x, x = bitsF nr := ⟨_, rfl⟩
  obtain ⟨bits, hbt⟩ := hZz
  rw [← hst] at dq1'
  rw [← hod] at dq2'
  rw [← hbt] at I12
  have hbl : bits.length ≤ 4 := by rw [hbt]; exact Nat.le_trans (bits_len nr) hnrl
  (rename Fr _ _ _ _ => F16)
  (rename News _ _ _ _ => N16)
  rw [← hst] at N16
  obtain ⟨led16, hl16, N16'⟩ := opq N16
  have hq3 : (s1_.heap.objs.size + 1 + 1 + 1, q3) ∈ led16 := by rw [hl16]; exact .tail _ mc3
  clear N16
  refine For_T (h₀ := s1_.heap) ?_
  walk_at "mine"
  refine' iter_list (x := Str.ofString "bit") (l := bA) (vs := bvs) (nn := bn) (LLed s1_.heap.objs.size R2 q1 q2 q3 o5) (fun c : LSt => [(Str.ofString "modes", Value.ref c.mA)]) []
    (fun i c => IntsAre c.vs c.ms ∧ c.ms = modesF start (bits.take i) ∧ OffA s1_.heap.objs.size c.mA ∧ (∃ v, c.oc.data = .cell v) ∧ ∀ q ∈ R2, q.1 ≠ c.mA) ⟨m0A, _, 0, [start], o4⟩ rfl ?ihl F16 (by rw [hl16] at N16'; exact N16') ?ik ?ip ?iturn ?idone
  case ihl =>
    intro c'
    exact .tail _ (List.mem_append_left _ hbA)
  case ik =>
    intro q hq
    rw [List.mem_singleton.mp hq]
    rfl
  case ip =>
    exact ⟨.cons _ _ .nil, rfl, offA_lt l15, ⟨_, d4⟩, fun q hq => Nat.ne_of_lt (l15 q (List.mem_append_left _ hq))⟩
  case iturn =>
    intro i v c u h17 tk17 own hi hv hP hoff F17 N17
    obtain ⟨Ic, hms, oA, ⟨v4, hv4⟩, hne⟩ := hP
    obtain ⟨b, tb, rfl⟩ := ints_int I12 v (List.mem_of_getElem? hv)
    have hib : bits[i]? = some b := by
      have hil : i < bits.length := by rw [← I12.length]; exact hi
      obtain ⟨t', ht'⟩ := I12.get i _ (List.getElem?_eq_getElem hil)
      rw [hv] at ht'
      cases ht'
      exact List.getElem?_eq_getElem hil
    walk_at "mine"
    have hZz : ∃ R4, R4 = (c.mA, listOf c.vs.toArray c.n) :: (own ++ R2) := ⟨_, rfl⟩
    obtain ⟨R4, hR4⟩ := hZz
    have lR4 : OffC s1_.heap.objs.size R4 := by
      intro p hp
      rw [hR4] at hp
      rcases List.mem_cons.mp hp with rfl | hp
      · exact oA
      rcases List.mem_append.mp hp with hp | hp
      · exact offA_of (rest := R2) (o1 := q1) (o2 := q2) (o3 := q3) (o4 := c.oc) (o5 := o5) fun r hr => (hoff p hp r.1 (List.mem_map.mpr ⟨r, .tail _ hr, rfl⟩)).symm
      · exact lR2 p hp
    have N18 : News s1_.heap s1_.heap.objs.size h17 (R4 ++ C5 s1_.heap.objs.size q1 q2 q3 c.oc o5) := by
      refine news_sub N17 fun r hr => ?_
      rw [hR4] at hr
      simp only [List.mem_append, List.mem_cons, List.cons_append] at hr ⊢
      rcases hr with hr | (hr | hr) | hr | hr | hr | hr | hr | hr <;> simp [hr]
    have hm4 : (c.mA, listOf c.vs.toArray c.n) ∈ R4 := by rw [hR4]; exact .head _
    clear N17
    refine storeX_C (by assumption) N18 rfl (up_4 lR4) hv4 ?_
    intro h19 q4 F19 N19 dq4
    clear N18
    walk_at "mine"
    obtain ⟨led19, hl19, N19'⟩ := opq N19
    have hq4 : (s1_.heap.objs.size + 1 + 1 + 1 + 1, q4) ∈ led19 := by rw [hl19]; exact mc4
    have hmm : (c.mA, listOf c.vs.toArray c.n) ∈ led19 := by rw [hl19]; exact List.mem_append_left _ hm4
    clear N19
    have hcl : c.ms.length ≤ 16 := by
      rw [hms, modesF_len]
      exact Nat.le_trans (Nat.pow_le_pow_right (by decide : 0 < 2) (Nat.le_trans (List.length_take_le' ..) hbl)) (by decide)
    have hvl := Ic.length
    refine' comp1 (s₁ := { s1_ with heap := h19, toks := _ }) (ax := c.mA) (vs := c.vs) (n := c.n) (fun k ys tl => tl = [] ∧ IntsAre ys ((c.ms.take k).map fun m => Builtin.bitXor m b)) (by assumption) rfl (by with_unfolding_all rfl) (by decide) (by rfl) (by decide) (by rfl) ?ahev (by assumption) N19' hmm (by omega) ?aturn ?afin ⟨rfl, .nil⟩
    case ahev =>
      intro Q' hQ
      walk_at "mine"
      exact hQ
    case aturn =>
      intro k v9 ys9 tl9 I9 oI C9 oC D9 m9 h9 tk9 E9 hv9 hJ hoC hm9 F9 N9 off9
      obtain ⟨rfl, hJ⟩ := hJ
      obtain ⟨x, tx, rfl⟩ := ints_int Ic v9 (List.mem_of_getElem? hv9)
      have hkx : c.ms[k]? = some x := by
        have hil : k < c.ms.length := by rw [← hvl]; exact (List.getElem?_eq_some_iff.mp hv9).1
        obtain ⟨t', ht'⟩ := Ic.get k _ (List.getElem?_eq_getElem hil)
        rw [hv9] at ht'
        cases ht'
        exact List.getElem?_eq_getElem hil
      have hq4' : (s1_.heap.objs.size + 1 + 1 + 1 + 1, q4) ∈ [(I9, oI), (C9, oC), (D9, LCg.lst ys9)] ++ ([] ++ led19) := List.mem_append_right _ hq4
      walk_at "mine"
      refine ⟨h9, _, [], rfl, F9, N9, (fun q hq => by cases hq), rfl, ?_⟩
      rw [List.take_add_one, hkx, List.map_append]
      exact hJ.append (.cons _ _ .nil)
    case afin =>
      intro D9 h9 tk9 ys9 tl9 F9 N9 off9 hJ
      obtain ⟨rfl, hJ⟩ := hJ
      rw [hvl, List.take_length] at hJ
      walk_at "mine"
      have La : Heap.IsList h9 c.mA c.vs.toArray := ⟨_, (N9 _ (.tail _ hmm)).1, rfl, _, rfl⟩
      have Lb : Heap.IsList h9 D9 ys9.toArray := ⟨_, (N9 _ (.head _)).1, rfl, _, rfl⟩
      refine kmk_add_ints F9 N9 La Lb Ic hJ ?_ (by rw [List.length_map, sizeLine_eq]; omega)
      intro DD us h20 F20 N20 l20 I20
      have hD3 : ∀ q ∈ led19, q.1 < DD := fun q hq => l20 q (.tail _ hq)
      walk_at "mine"
      (rename Fr _ _ _ _ => F21)
      (rename News _ _ _ _ => N21)
      refine' fend (⟨DD, us, 0, xorS c.ms b, q4⟩ : LSt) ?kF ?kN ?kn ?ko ?kof ?kk ?kr ?kp
      case kF => exact F21
      case kN => exact N21
      case kn =>
        intro q hq
        rcases List.mem_cons.mp hq with rfl | hq
        · exact .head _
        · refine .tail _ (.tail _ ?_)
          show q ∈ led19
          rw [hl19, hR4]
          rcases List.mem_append.mp hq with hq | hq
          · exact List.mem_append_left _ (.tail _ (List.mem_append_right _ hq))
          · exact List.mem_append_right _ hq
      case ko =>
        intro q hq
        refine .tail _ (.tail _ ?_)
        show q ∈ led19
        rw [hl19, hR4]
        exact List.mem_append_left _ (.tail _ (List.mem_append_left _ hq))
      case kof =>
        intro q hq r hr
        rcases List.mem_cons.mp hr with rfl | hr
        · exact Nat.ne_of_lt (hD3 q (by rw [hl19, hR4]; exact List.mem_append_left _ (.tail _ (List.mem_append_left _ hq))))
        · refine hoff q hq r (.tail _ ?_)
          replace hr : r ∈ (R2 ++ C5 s1_.heap.objs.size q1 q2 q3 q4 o5).map (·.1) := hr
          show r ∈ (R2 ++ C5 s1_.heap.objs.size q1 q2 q3 c.oc o5).map (·.1)
          rw [List.map_append] at hr ⊢
          exact hr
      case kk =>
        intro q hq
        rw [List.mem_singleton.mp hq]
        rfl
      case kr =>
        intro z h1z h2 h3
        have hz1 := h2 _ (.head _)
        dsimp only at hz1
        simp +zetaDelta [kstB, h1z, hz1]
      case kp =>
        refine ⟨I20, ?_, offA_lt (rest := R4) (o1 := q1) (o2 := q2) (o3 := q3) (o4 := q4) (o5 := o5) (by rw [← hl19]; exact hD3), ⟨_, dq4⟩, fun q hq => Nat.ne_of_lt (hD3 q (by rw [hl19, hR4]; exact List.mem_append_left _ (.tail _ (List.mem_append_right _ hq))))⟩
        show xorS c.ms b = _
        rw [List.take_add_one, hib, hms]
        unfold modesF
        rw [List.foldl_append]
        rfl
  case idone =>
    intro c u h17 tk17 hP F17 N17
    obtain ⟨Ic, hms, oA, ⟨v4, hv4⟩, hne⟩ := hP
    have hZz : ∃ R5, R5 = (c.mA, listOf c.vs.toArray c.n) :: R2 := ⟨_, rfl⟩
    obtain ⟨R5, hR5⟩ := hZz
    have lR5 : OffC s1_.heap.objs.size R5 := by
      intro p hp
      rw [hR5] at hp
      rcases List.mem_cons.mp hp with rfl | hp
      · exact oA
      · exact lR2 p hp
    have hm5 : (c.mA, listOf c.vs.toArray c.n) ∈ R5 := by rw [hR5]; exact .head _
    have hb5 : (bA, listOf bvs.toArray bn) ∈ R5 := by rw [hR5]; exact .tail _ hbA
    have N18 : News s1_.heap s1_.heap.objs.size h17 (R5 ++ C5 s1_.heap.objs.size q1 q2 q3 c.oc o5) := by rw [hR5]; exact N17
    clear N17
    obtain ⟨led18, hl18, N18'⟩ := opq N18
    have hq1 : (s1_.heap.objs.size + 1, q1) ∈ led18 := by rw [hl18]; exact mc1
    have hq2 : (s1_.heap.objs.size + 1 + 1, q2) ∈ led18 := by rw [hl18]; exact mc2
    clear N18
    walk_at "mine"
    refine' Spec.use (figures_spec start (62 + odd) _ _ led18) ?sB ?sF ?sX ?sN ?sT ?sK ?sD ?sU ?_
    walk_at "use"
    case sD => decide
    case sU => decide
    rintro r news' h20 tk20 F20 N20 ⟨rA, rvs, rn, rfl, I20, rfl, hoff20⟩
    walk_at "mine"
    have hZz : ∃ R6, R6 = (rA, listOf rvs.toArray rn) :: R5 := ⟨_, rfl⟩
    obtain ⟨R6, hR6⟩ := hZz
    have lR6 : OffC s1_.heap.objs.size R6 := by
      intro p hp
      rw [hR6] at hp
      rcases List.mem_cons.mp hp with rfl | hp
      · exact offA_of (rest := R5) (o1 := q1) (o2 := q2) (o3 := q3) (o4 := c.oc) (o5 := o5) (by rw [← hl18]; exact hoff20)
      · exact lR5 p hp
    have hr6 : (rA, listOf rvs.toArray rn) ∈ R6 := by rw [hR6]; exact .head _
    have hm6 : (c.mA, listOf c.vs.toArray c.n) ∈ R6 := by rw [hR6]; exact .tail _ hm5
    have hb6 : (bA, listOf bvs.toArray bn) ∈ R6 := by rw [hR6]; exact .tail _ hb5
    have N21 : News s1_.heap s1_.heap.objs.size h20 (R6 ++ C5 s1_.heap.objs.size q1 q2 q3 c.oc o5) := by rw [hR6]; rw [hl18] at N20; exact N20
    clear N20 N18'
    refine storeX_C (by assumption) N21 rfl (up_5 lR6) d5 ?_
    intro h22 q5 F22 N22 dq5
    clear N21
    obtain ⟨led22, hl22, N22'⟩ := opq N22
    have hq1 : (s1_.heap.objs.size + 1, q1) ∈ led22 := by rw [hl22]; exact mc1
    have hq2 : (s1_.heap.objs.size + 1 + 1, q2) ∈ led22 := by rw [hl22]; exact mc2
    have hq3 : (s1_.heap.objs.size + 1 + 1 + 1, q3) ∈ led22 := by rw [hl22]; exact mc3
    have hq5 : (s1_.heap.objs.size + 1 + 1 + 1 + 1 + 1, q5) ∈ led22 := by rw [hl22]; exact mc5
    have hr7 : (rA, listOf rvs.toArray rn) ∈ led22 := by rw [hl22]; exact List.mem_append_left _ hr6
    have hm7 : (c.mA, listOf c.vs.toArray c.n) ∈ led22 := by rw [hl22]; exact List.mem_append_left _ hm6
    have hb7 : (bA, listOf bvs.toArray bn) ∈ led22 := by rw [hl22]; exact List.mem_append_left _ hb6
    clear N22
    walk_at "mine"
    have hcl : c.ms.length ≤ 16 := by
      rw [hms, modesF_len]
      exact Nat.le_trans (Nat.pow_le_pow_right (by decide : 0 < 2) (Nat.le_trans (List.length_take_le' ..) hbl)) (by decide)
    have hvl := Ic.length
    refine' Assign_comp1 (s₁ := { s1_ with heap := h22, toks := _ }) (ax := c.mA) (vs := c.vs) (n := c.n) (fun k ys tl => DatAll tl ys (((c.ms.take k).map (tellF start odd bits)).map td) ∧ ∀ p ∈ tl, ∀ q ∈ led22, p.1 ≠ q.1) F22 rfl (by with_unfolding_all rfl) (by with_unfolding_all rfl) (by decide) (by rfl) (by decide) (by rfl) (by rfl) (by rfl) ?ahev F22 N22' hm7 (by omega) ?aturn ?afin ⟨.nil, fun p hp => by cases hp⟩
    case ahev =>
      intro Q' hQ
      walk_at "mine"
      exact hQ
    case aturn =>
      intro k v9 ys9 tl9 I9 oI C9 oC D9 m9 h9 tk9 E9 hv9 hJ hoC hm9 F9 N9 off9
      obtain ⟨hJ, hap⟩ := hJ
      obtain ⟨x, tx, rfl⟩ := ints_int Ic v9 (List.mem_of_getElem? hv9)
      have hkx : c.ms[k]? = some x := by
        have hil : k < c.ms.length := by rw [← hvl]; exact (List.getElem?_eq_some_iff.mp hv9).1
        obtain ⟨t', ht'⟩ := Ic.get k _ (List.getElem?_eq_getElem hil)
        rw [hv9] at ht'
        cases ht'
        exact List.getElem?_eq_getElem hil
      obtain ⟨led9, hl9, N9'⟩ := opq N9
      have sub9 : ∀ q ∈ led22, q ∈ led9 := fun q hq => by rw [hl9]; exact List.mem_append_right _ (List.mem_append_right _ hq)
      have hC9 : (C9, oC) ∈ led9 := by rw [hl9]; exact .tail _ (.head _)
      have hq1' := sub9 _ hq1
      have hq2' := sub9 _ hq2
      have hq3' := sub9 _ hq3
      have hq5' := sub9 _ hq5
      clear N9
      walk_at "mine"
      refine' Spec.use (cost_spec (figF start (62 + odd) 3) x (62 + odd) _ _ rA rvs rn led9 (sub9 _ hr7) I20) ?sB ?sF ?sX ?sN ?sT ?sK ?sD ?sU ?_
      walk_at "use"
      case sD => decide
      case sU => decide
      rintro r news' h23 tk23 F23 N23 ⟨⟨t23, er23⟩, e23⟩
      rw [e23] at N23
      have hZz : ∃ cc, cc = costF (figF start (62 + odd) 3) (figF x (62 + odd) 3) := ⟨_, rfl⟩
      obtain ⟨cc, hcc⟩ := hZz
      have hZz : ∃ ww, ww = waysF start x bits := ⟨_, rfl⟩
      obtain ⟨ww, hww⟩ := hZz
      have htell : tellF start odd bits x = (cc, x, ww) := by rw [hcc, hww]; rfl
      rw [← hcc] at er23
      subst er23
      walk_at "mine"
      refine' Spec.use (ways_spec start x _ _ bA bvs bn bits led9 (sub9 _ hb7) I12) ?sB ?sF ?sX ?sN ?sT ?sK ?sD ?sU ?_
      walk_at "use"
      case sD => decide
      case sU => decide
      rintro r news'' h24 tk24 F24 N24 ⟨⟨t24, er24⟩, e24⟩
      rw [e24] at N24
      rw [← hww] at er24
      subst er24
      walk_at "mine"
      refine tup_l (by assumption) (by assumption) (Nat.le_of_ble_eq_true rfl) ?_
      intro a25 h25 F25 N25 hlt25
      rw [hl9] at N25 hlt25
      refine ⟨h25, _, (a25, tupO [Value.int cc t23, Value.int x tx, Value.int ww t24] 0) :: tl9, rfl, F25, ?_, ?_, ?_, ?_⟩
      · refine news_sub N25 fun q hq => ?_
        rcases List.mem_append.mp hq with hq | hq
        · exact .tail _ (List.mem_append_left _ hq)
        · rcases List.mem_cons.mp hq with rfl | hq
          · exact .head _
          · exact .tail _ (List.mem_append_right _ hq)
      · intro q hq r hr
        rcases List.mem_cons.mp hq with rfl | hq
        · exact Nat.ne_of_gt (hlt25 r (List.mem_append_left _ hr))
        · exact off9 q (List.mem_append_left _ hq) r hr
      · rw [List.take_add_one, hkx, List.map_append, List.map_append]
        rw [show List.map (tellF start odd bits) (some x).toList = [(cc, x, ww)] by rw [← htell]; rfl]
        exact (hJ.mono fun q hq => .tail _ hq).append (.one (.tuple (.head _) (.cons (.int _ _) (.cons (.int _ _) (.cons (.int _ _) .nil)))))
      · intro q hq r hr
        rcases List.mem_cons.mp hq with rfl | hq
        · exact Nat.ne_of_gt (hlt25 r (List.mem_append_right _ (List.mem_append_right _ hr)))
        · exact hap q hq r hr
    case afin =>
      intro D9 h9 tk9 ys9 tl9 F9 N9 off9 hJ
      obtain ⟨hJ, hap⟩ := hJ
      rw [hvl, List.take_length] at hJ
      obtain ⟨led9, hl9, N9'⟩ := opq N9
      have sub9 : ∀ q ∈ led22, q ∈ led9 := fun q hq => by rw [hl9]; exact .tail _ (List.mem_append_right _ hq)
      have hq1' := sub9 _ hq1
      have hq2' := sub9 _ hq2
      have hq3' := sub9 _ hq3
      clear N9
      walk_at "mine"
      refine tup_l (by assumption) N9' (Nat.le_of_ble_eq_true rfl) ?_
      intro a26 h26 F26 N26 hlt26
      obtain ⟨led26, hl26, N26'⟩ := opq N26
      have sub26 : ∀ q ∈ led22, q ∈ led26 := fun q hq => by rw [hl26]; exact .tail _ (sub9 q hq)
      have hq2'' := sub26 _ hq2
      clear N26
      walk_at "mine"
      have hoddc : odd = 0 ∨ odd = 1 := by
        have := fm2 (n0.fdiv 65536)
        rw [← hod] at this
        omega
      have hta : ∃ ta tb, (a26, tupO [Value.bytes #[45, 63] ta, Value.bytes #[63, 45] tb] 0) ∈ led26 := ⟨_, _, by rw [hl26]; exact .head _⟩
      obtain ⟨ta, tb, ht26⟩ := hta
      have hpick : ∃ tc, [Value.bytes #[45, 63] ta, Value.bytes #[63, 45] tb][odd.toNat]? = some (Value.bytes (altOf odd) tc) := by
        rcases hoddc with e | e
        · rw [e]; exact ⟨_, rfl⟩
        · rw [e]; exact ⟨_, rfl⟩
      obtain ⟨tc, hpick⟩ := hpick
      refine item_tupleT (j := odd.toNat) (l := [Value.bytes #[45, 63] ta, Value.bytes #[63, 45] tb]) ⟨_, N26'.get ht26, rfl, 0, rfl⟩ (by omega) (by omega) (seqIndex_of (by omega) (by show odd < ((2 : Nat) : Int); omega)) hpick ?_ (by with_unfolding_all rfl)
      walk_at "mine"
      have hs0 : 0 ≤ start := by rw [hst]; exact Int.fmod_nonneg_of_pos _ (by decide)
      have hs1 : start < 65536 := by rw [hst]; exact Int.fmod_lt_of_pos _ (by decide)
      have hnr3 : 3 ≤ nr.length := by rw [hn0] at hnml; simp at hnml; omega
      have ok := law_ok (odd := odd) hs0 hs1 hoddc hnr3 hnrl
      rw [← hbt] at ok
      refine' Spec.use (walked_law ok bA bvs bn led26 (sub26 _ hb7) I12 tS tc) ?sB ?sF ?sX ?sN ?sT ?sK ?sD ?sU ?_
      walk_at "use"
      case sD => decide
      case sU => decide
      rintro r news' h27 tk27 F27 N27 ⟨wA, wvs, wn, ss, wtl, rfl, hperm, hpw, hval, hDw, e27⟩
      rw [e27] at N27
      obtain ⟨led27, hl27, N27'⟩ := opq N27
      have sub27 : ∀ q ∈ led26, q ∈ led27 := fun q hq => by rw [hl27]; exact .tail _ (List.mem_append_right _ hq)
      have hD9 : (D9, LCg.lst ys9) ∈ led27 := sub27 _ (by rw [hl26, hl9]; exact .tail _ (.head _))
      have htl9 : ∀ q ∈ tl9, q ∈ led27 := fun q hq => sub27 _ (by rw [hl26, hl9]; exact .tail _ (.tail _ (List.mem_append_left _ hq)))
      have hwA : (wA, listOf wvs.toArray wn) ∈ led27 := by rw [hl27]; exact .head _
      have hwtl : ∀ q ∈ wtl, q ∈ led27 := fun q hq => by rw [hl27]; exact .tail _ (List.mem_append_left _ hq)
      clear N27
      walk_at "mine"
      have hmsE : c.ms = modesF start bits := by rw [hms, I12.length, List.take_length]
      have hVnd : c.ms.Nodup := by rw [hmsE]; exact ok_nodup ok
      have htellnd : (c.ms.map (tellF start odd bits)).Nodup := by
        refine nodup_of_map (f := fun x : T3 => x.2.1) ?_
        rw [List.map_map]
        rw [show ((fun x : T3 => x.2.1) ∘ tellF start odd bits) = id from rfl, List.map_id]
        exact hVnd
      have hms2 : 2 ≤ c.ms.length := by
        rw [hmsE, modesF_len]
        have : 1 ≤ bits.length := by
          rw [hbt]
          exact bitsF_pos (by omega)
        exact Nat.le_trans (by decide : 2 ≤ 2 ^ 1) (Nat.pow_le_pow_right (by decide) this)
      refine sorted3 (by assumption) N27' hD9 hJ htl9 htellnd (by rw [List.length_map]; exact hms2) (by rw [List.length_map]; exact hcl) ?_
      intro B28 ws28 c28 ys28 h28 F28 N28 hp28 hs28 hD28
      walk_at "mine"
      refine kqd_eq (n₁ := wtl) (n₂ := tl9) N28 (.tail _ hwA) rfl rfl hDw (fun q hq => .tail _ (hwtl q hq)) (.head _) rfl rfl hD28 (fun q hq => .tail _ (htl9 q hq)) (kqd3 _) (kqd3 _) (units_ok _) ?_
      have hfin : ss = ys28 := same_told (by rw [hmsE]; exact hperm) hpw hval hp28 hs28
      have hdec : ∀ inst : Decidable (List.map td ss = List.map td ys28), @decide _ inst = true := fun inst => @decide_eq_true _ inst (by rw [hfin])
      rw [hdec]
      repeat walk_at "thru"
      dsimp only [qk]
      k_end
      wrow_close)
end Mine
end

end

theorem PySem.Challenge.cw_pa0050_01_holds : PySem.Challenge.rw_pa0050_01.Holds := by
  exact Mine.law_holds
