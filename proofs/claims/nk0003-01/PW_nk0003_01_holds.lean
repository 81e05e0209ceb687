import PyProof.Rows.All
import Wide.All
import OpenK.AllK
import Wide.FinOn
import PySem.Challenge.RW_nk0003_01
open PySem PySem.W PyProof.Rows PySem.Calls
set_option Elab.async false
namespace Mine
set_option maxRecDepth 100000 in
set_option maxHeartbeats 8000000 in
open_top hd for PySem.Challenge.rw_nk0003_01
noncomputable abbrev P0 : Program := PySem.Challenge.rw_nk0003_01.row.prog
noncomputable abbrev LOOSE : List Str := looseW hd.view_39 [Str.ofString "parse_locale", Str.ofString "get_locale_identifier"]
/-- what of the top is asked: it lies there, and stays -/
structure Tops (w : World) (h : Heap) : Prop where
  K : (hd.heap_39 w.params).In h
  T : ∃ mg mb, TopRead hd.view_39 LOOSE mg mb h
theorem Tops.keeps {w : World} {h h' : Heap} (X : Tops w h) (k : ∀ b o, h.get? b = some o → h'.get? b = some o) : Tops w h' :=
  ⟨X.K.keeps k, let ⟨mg, mb, T⟩ := X.T; ⟨mg, mb, T.keeps k⟩⟩
/-- a def is entered: all that stood stands -/
theorem enter {w : World} {A : Around} {s : Shared} {R : Result → Shared → Prop} {f : Addr} {o : Obj} {name qual : Str} {params : Arguments} {body : List Stmt} {scope : Scope} {dV kV doc pm cdv ct : Value} {an : Option Addr} {args : Args} {binds : List (Str × Value)}
    (X : Tops w s.heap) (hroom : A.depth < recursionLimit) (ho : (hd.heap_39 w.params).lookup f = some o)
    (hd' : o.data = .func (fnOf name qual params body scope dV kV doc pm an cdv ct)) (hcd : codeIn (hd.heap_39 w.params) cdv qual = true)
    (hbind : BindsTo s (fnOf name qual params body scope dV kV doc pm an cdv ct) args binds)
    (hloc : (binds.all fun x => decide (scope.names.lookup x.1 = some .local)) = true)
    (h : ∀ h₁, Fr s.heap s.heap.objs.size h₁ (fun y => binds.reverse.lookup y) →
      wpAny (model P0 w) (A.deeper (envOf qual scope s.heap.objs.size f cdv)) (execs body (envOf qual scope s.heap.objs.size f cdv))
        (fun fl s' => R (.ok (.ret (match fl with | .ret v => v | _ => .none))) s')
        (fun e s' => wpAny (model P0 w) (A.deeper (envOf qual scope s.heap.objs.size f cdv)) (leaving (envOf qual scope s.heap.objs.size f cdv) e) (fun _ s'' => R (.error e) s'') (fun e' s'' => R (.error e') s'') s')
        { s with heap := h₁, toks := s.toks + binds.length })
    (hcell : ∀ x ∈ scope.names, x.2 ≠ .cell) (hco : scope.isCoroutine = false) (hgen : scope.isGenerator = false) (hk : scope.kind = .function) :
    codeAny (model P0 w) A (.call (.ref f) args) R s := by
  obtain ⟨mg, mb, T⟩ := X.T
  exact codeAny_call_def (fd := fnOf name qual params body scope dV kV doc pm an cdv ct) (body := body) (binds := binds) hroom (X.K _ _ ho) hd' T.nolimit
    (codeRec_of X.K hcd) rfl hbind hcell (locs hloc) (fun h₁ hns hk₁ => h h₁ ⟨hns, hk₁, Nat.le_refl _⟩) hco hgen hk
/-! the plain reading of parse_locale -/
def hasS (x y : Str) : Bool := !(Builtin.Str.occurrences x y 0 x.length 1).isEmpty
def idOf (text : Str) : Str :=
  if hasS (Txt.partition text "@").1 "." then (Txt.splitMax (Txt.partition text "@").1 "." 1).getD 0 Str.empty else (Txt.partition text "@").1
def modOf (text : Str) : Str := (Txt.partition text "@").2.2
def takeS : List Str → Option Str × List Str
  | [] => (none, [])
  | w :: r => if w.length = 4 ∧ Txt.isalpha w = true then (some (Txt.title w), r) else (none, w :: r)
def takeT : List Str → Option Str × List Str
  | [] => (none, [])
  | w :: r => if w.length = 2 ∧ Txt.isalpha w = true then (some (Txt.upper w), r) else if w.length = 3 ∧ Txt.isdigit w = true then (some w, r) else (none, w :: r)
def takeV : List Str → Option Str × List Str
  | [] => (none, [])
  | w :: r => if (w.length = 4 ∧ Txt.isdigit (Txt.item w 0) = true) ∨ (5 ≤ w.length ∧ Txt.isalpha (Txt.item w 0) = true) then (some (Txt.upper ((w :: r).getLast (by simp))), (w :: r).dropLast) else (none, w :: r)
def parseL (w0 : Str) (ws : List Str) : Option (List (Option Str)) :=
  if Txt.isalpha (Txt.lower w0) = true then
    if (takeV (takeT (takeS ws).2).2).2 = [] then some [some (Txt.lower w0), (takeT (takeS ws).2).1, (takeS ws).1, (takeV (takeT (takeS ws).2).2).1] else none
  else none
def parseM (w0 : Str) (ws : List Str) (md : Str) : Option (List (Option Str)) := (parseL w0 ws).map fun l => if md.length = 0 then l else l ++ [some md]
def parseT (text sep : Str) : Option (List (Option Str)) := if text.length = 0 then none else match Txt.split (idOf text) sep with | [] => none | w0 :: ws => parseM w0 ws (modOf text)
inductive OptIs : Value → Option Str → Prop
  | none : OptIs .none none
  | some (x : Str) (t : Tok) : OptIs (.str x t) (some x)
inductive OptsAre : List Value → List (Option Str) → Prop
  | nil : OptsAre [] []
  | cons {v : Value} {o : Option Str} {vs : List Value} {os : List (Option Str)} : OptIs v o → OptsAre vs os → OptsAre (v :: vs) (o :: os)
abbrev tupO (vs : List Value) : Obj := { cls := .type "tuple", data := .seq vs.toArray }
theorem splitMax_pos (x y : Str) (k : Int) : 0 < (Txt.splitMax x y k).length := by
  unfold Txt.splitMax
  split
  · simp
  · split
    · simp
    · rw [length_partsBetween]; omega
theorem split_pos (x y : Str) : 0 < (Txt.split x y).length := by
  unfold Txt.split
  split
  · simp
  · split
    · simp
    · rw [length_partsBetween]; omega
theorem takeS_yes {w : Str} {r : List Str} (h1 : w.length = 4) (h2 : Txt.isalpha w = true) : takeS (w :: r) = (some (Txt.title w), r) := by
  unfold takeS; exact if_pos ⟨h1, h2⟩
theorem takeS_no {w : Str} {r : List Str} (h : ¬ (w.length = 4 ∧ Txt.isalpha w = true)) : takeS (w :: r) = (none, w :: r) := by
  unfold takeS; exact if_neg h
theorem takeT_two {w : Str} {r : List Str} (h1 : w.length = 2) (h2 : Txt.isalpha w = true) : takeT (w :: r) = (some (Txt.upper w), r) := by
  unfold takeT; exact if_pos ⟨h1, h2⟩
theorem takeT_three {w : Str} {r : List Str} (h1 : w.length = 3) (h2 : Txt.isdigit w = true) : takeT (w :: r) = (some w, r) := by
  unfold takeT; exact (if_neg (by omega)).trans (if_pos ⟨h1, h2⟩)
theorem takeT_no {w : Str} {r : List Str} (h : ¬ (w.length = 2 ∧ Txt.isalpha w = true)) (h' : ¬ (w.length = 3 ∧ Txt.isdigit w = true)) : takeT (w :: r) = (none, w :: r) := by
  unfold takeT; exact (if_neg h).trans (if_neg h')
theorem takeV_yes {w : Str} {r : List Str} (h : (w.length = 4 ∧ Txt.isdigit (Txt.item w 0) = true) ∨ (5 ≤ w.length ∧ Txt.isalpha (Txt.item w 0) = true)) :
    takeV (w :: r) = (some (Txt.upper ((w :: r).getLast (by simp))), (w :: r).dropLast) := by
  unfold takeV; exact if_pos h
theorem takeV_no {w : Str} {r : List Str} (h : ¬ ((w.length = 4 ∧ Txt.isdigit (Txt.item w 0) = true) ∨ (5 ≤ w.length ∧ Txt.isalpha (Txt.item w 0) = true))) : takeV (w :: r) = (none, w :: r) := by
  unfold takeV; exact if_neg h
theorem takeS_sub (ws : List Str) : (takeS ws).2.length ≤ ws.length ∧ ∀ a ∈ (takeS ws).2, a ∈ ws := by
  cases ws with
  | nil => exact ⟨Nat.le_refl _, fun a h => h⟩
  | cons w r =>
    by_cases h : w.length = 4 ∧ Txt.isalpha w = true
    · rw [takeS_yes h.1 h.2]; exact ⟨by simp, fun a ha => .tail _ ha⟩
    · rw [takeS_no h]; exact ⟨Nat.le_refl _, fun a ha => ha⟩
theorem takeT_sub (ws : List Str) : (takeT ws).2.length ≤ ws.length ∧ ∀ a ∈ (takeT ws).2, a ∈ ws := by
  cases ws with
  | nil => exact ⟨Nat.le_refl _, fun a h => h⟩
  | cons w r =>
    by_cases h : w.length = 2 ∧ Txt.isalpha w = true
    · rw [takeT_two h.1 h.2]; exact ⟨by simp, fun a ha => .tail _ ha⟩
    · by_cases h' : w.length = 3 ∧ Txt.isdigit w = true
      · rw [takeT_three h'.1 h'.2]; exact ⟨by simp, fun a ha => .tail _ ha⟩
      · rw [takeT_no h h']; exact ⟨Nat.le_refl _, fun a ha => ha⟩
theorem takeV_sub (ws : List Str) : (takeV ws).2.length ≤ ws.length := by
  cases ws with
  | nil => exact Nat.le_refl _
  | cons w r =>
    by_cases h : (w.length = 4 ∧ Txt.isdigit (Txt.item w 0) = true) ∨ (5 ≤ w.length ∧ Txt.isalpha (Txt.item w 0) = true)
    · rw [takeV_yes h]; simp
    · rw [takeV_no h]; exact Nat.le_refl _
theorem idOf_len (text : Str) : (idOf text).length ≤ text.length := by
  have hf := fact_partition text "@"
  unfold idOf
  split
  · have hm : (Txt.splitMax (Txt.partition text "@").1 "." 1).getD 0 Str.empty ∈ Txt.splitMax (Txt.partition text "@").1 "." 1 := by
      rw [List.getD_eq_getElem?_getD, List.getElem?_eq_getElem (splitMax_pos _ _ _)]
      exact List.getElem_mem _
    exact Nat.le_trans (partMax_short hm) hf.1
  · exact hf.1
/-! steps -/
theorem Fr.same {h₀ h : Heap} {L : Addr} {m : Str → Option Value} {x : Str} {v : Value} (F : Fr h₀ L h m) (e : m x = some v) : Fr h₀ L h (fun y => if y = x then some v else m y) := by
  have q : (fun y => if y = x then some v else m y) = m := by
    funext y
    by_cases hy : y = x
    · rw [if_pos hy, hy, e]
    · rw [if_neg hy]
  rw [q]; exact F
theorem ifT {c : Prop} {d : Decidable c} {P Q : Prop} (h : c) (p : P) : @ite Prop c d P Q := by rw [if_pos h]; exact p
theorem ifF {c : Prop} {d : Decidable c} {P Q : Prop} (h : ¬ c) (q : Q) : @ite Prop c d P Q := by rw [if_neg h]; exact q
theorem seq_mergeF {M : Model} {A : Around} {E : Value → Shared → Prop} {s : Shared} {env : Env} {st : Stmt} {rest : List Stmt} {Q : Flow → Shared → Prop} {h₀ : Heap} {L D : Addr} {m : Str → Option Value} (x : Str) (_F : Fr h₀ L s.heap m) (Pv : Value → List Value → Prop)
    (now : wpAny M A (exec st env) (fun f s' => f = .next ∧ ∃ h' v vs' n' k, s' = { s with heap := h', toks := k } ∧ Fr h₀ L h' (fun y => if y = x then some v else m y) ∧ News h₀ L h' [(D, W.listOf vs'.toArray n')] ∧ Pv v vs') E s)
    (next : ∀ h' v vs' n' k, Fr h₀ L h' (fun y => if y = x then some v else m y) → News h₀ L h' [(D, W.listOf vs'.toArray n')] → Pv v vs' → wpAny M A (execs rest env) Q E { s with heap := h', toks := k }) :
    wpAny M A (execs (st :: rest) env) Q E s := by
  refine wpAny_execs_cons (wpAny_mono now (fun f s' hf => ?_) fun _ _ e => e)
  obtain ⟨rfl, h', v, vs', n', k, rfl, F', N', p⟩ := hf
  exact next h' v vs' n' k F' N' p
theorem seq_mergeI {M : Model} {A : Around} {E : Value → Shared → Prop} {s : Shared} {env : Env} {st : Stmt} {rest : List Stmt} {Q : Flow → Shared → Prop} {h₀ : Heap} {L : Addr} {m : Str → Option Value} (x : Str) (_F : Fr h₀ L s.heap m) (Pv : Value → Prop)
    (now : wpAny M A (exec st env) (fun f s' => f = .next ∧ ∃ h' v k, s' = { s with heap := h', toks := k } ∧ Fr h₀ L h' (fun y => if y = x then some v else m y) ∧ Pv v) E s)
    (next : ∀ h' v k, Fr h₀ L h' (fun y => if y = x then some v else m y) → News h₀ L h' [] → Pv v → wpAny M A (execs rest env) Q E { s with heap := h', toks := k }) :
    wpAny M A (execs (st :: rest) env) Q E s := by
  refine wpAny_execs_cons (wpAny_mono now (fun f s' hf => ?_) fun _ _ e => e)
  obtain ⟨rfl, h', v, k, rfl, F', p⟩ := hf
  exact next h' v k F' News.nil p
section
variable {prog : Program} {w : World} {A : Around} {E : Value → Shared → Prop} {s : Shared} {x y : Str} {t u : Tok} {h₀ : Heap} {L : Addr} {m : Str → Option Value} {news : List (Addr × Obj)} {Q : Value → Shared → Prop}
theorem split1 (F : Fr h₀ L s.heap m) (N : News h₀ L s.heap news) (hy : (y.length == 0) = false) (hsz : x.length + 2 ≤ sizeLine)
    (h : ∀ D vs h' k, StrsAre vs (Txt.split x y) → (∀ a ∈ Txt.split x y, a.length ≤ x.length) → Fr h₀ L h' m → News h₀ L h' ((D, W.listOf vs.toArray 0) :: news) → (∀ p ∈ news, p.1 ≠ D) → Q (.ref D) { s with heap := h', toks := k }) :
    wpAny (model prog w) A (call (.builtin "str.split") [.str x t, .str y u]) Q E s := by
  refine splitN1A F N hy (fun l h' k e a b _ F' N' => ?_) hsz
  rw [e] at a b
  exact h _ _ h' k a b F' N' fun p hp => Nat.ne_of_lt (Heap.lt_size (N p hp).1)
theorem split2 {k : Int} {v : Tok} (F : Fr h₀ L s.heap m) (N : News h₀ L s.heap news) (hy : (y.length == 0) = false) (hk : (decide (k < -(2 ^ 63 : Int)) || decide (k ≥ 2 ^ 63)) = false) (hsz : x.length + 2 ≤ sizeLine)
    (h : ∀ D vs h' tk, StrsAre vs (Txt.splitMax x y k) → (∀ a ∈ Txt.splitMax x y k, a.length ≤ x.length) → Fr h₀ L h' m → News h₀ L h' ((D, W.listOf vs.toArray 0) :: news) → (∀ p ∈ news, p.1 ≠ D) → Q (.ref D) { s with heap := h', toks := tk }) :
    wpAny (model prog w) A (call (.builtin "str.split") [.str x t, .str y u, .int k v]) Q E s := by
  refine splitN2A F N hy hk (fun l h' k e a b _ F' N' => ?_) hsz
  rw [e] at a b
  exact h _ _ h' k a b F' N' fun p hp => Nat.ne_of_lt (Heap.lt_size (N p hp).1)
theorem pop0 {D : Addr} {v : Value} {vs : List Value} {n : Nat} (F : Fr h₀ L s.heap m) (N : News h₀ L s.heap [(D, W.listOf (v :: vs).toArray n)]) (hsz : vs.length + 1 ≤ 1000)
    (h : ∀ h', Fr h₀ L h' m → News h₀ L h' [(D, W.listOf vs.toArray (n + 1))] → Q v { s with heap := h' }) :
    wpAny (model prog w) A (call (.builtin "list.pop") [.ref D, .int 0 u]) Q E s := by
  refine kl_popAt (k := 0) (p := []) (q := vs) (y := v) F N (by rfl) ?_ (by rfl) (Upd.head fun p hp => by cases hp) ?_ h
  · show seqIndex? 0 (v :: vs).toArray.size = some 0
    simp [seqIndex?]
  · rw [sizeLine_eq]; simp; omega
theorem itemS {D : Addr} {vs : List Value} {ws : List Str} {wd : Str} {k : Nat} {value slice : PySem.Expr} (hl : s.heap.IsList D vs.toArray) (S : StrsAre vs ws) (hk : ws[k]? = some wd) (hk2 : k < 1000)
    (h : ∀ t, Q (.str wd t) s)
    (hs : subscripted slice false (.ref D) (.int k u) = operate [.ref D, .int k u] (getItem (.ref D) (.int k u))) :
    wpAny (model prog w) A (subscriptTail value slice (.ref D) (.int k u)) Q E s := by
  obtain ⟨t, e⟩ := StrsAre.at S hk
  exact item_litK hl (by omega) (by omega) (by simpa using e) (h t) hs
theorem truthyN {D : Addr} {n : Nat} {Q : Bool → Shared → Prop} (N : News h₀ L s.heap ((D, W.listOf (List.toArray []) n) :: news)) (h : Q false { s with toks := s.toks + 1 + 1 }) :
    wpAny (model prog w) A (truthy (.ref D)) Q E s := wpAny_truthy_list (News.isList N (.head _)) (by decide) h
theorem truthyC {D : Addr} {n : Nat} {v : Value} {vs : List Value} {Q : Bool → Shared → Prop} (N : News h₀ L s.heap ((D, W.listOf (List.toArray (v :: vs)) n) :: news)) (hsz : vs.length ≤ 1000) (h : Q true { s with toks := s.toks + 1 + 1 }) :
    wpAny (model prog w) A (truthy (.ref D)) Q E s := wpAny_truthy_list (News.isList N (.head _)) (by simp only [List.size_toArray, List.length_cons]; omega) (by simpa using h)
theorem last_of : ∀ {vs : List Value} {ws : List Str}, StrsAre vs ws → ∀ hn : ws ≠ [], ∃ p t, kl_last vs = some (p, .str (ws.getLast hn) t) ∧ StrsAre p ws.dropLast
  | _, _, .nil, hn => absurd rfl hn
  | _, _, .cons y t (.nil), _ => ⟨[], t, rfl, .nil⟩
  | _, _, .cons y t (.cons (vs := vs) (ys := ys) y' t' h), _ => by
    obtain ⟨p, t'', e, hp⟩ := last_of (.cons y' t' h) (by simp)
    refine ⟨.str y t :: p, t'', ?_, ?_⟩
    · rw [List.getLast_cons (by simp)]
      unfold kl_last
      rw [e]
    · exact .cons y t hp
theorem popE {D : Addr} {vs : List Value} {ws : List Str} {n : Nat} (F : Fr h₀ L s.heap m) (N : News h₀ L s.heap [(D, W.listOf vs.toArray n)]) (S : StrsAre vs ws) (hn : ws ≠ []) (hsz : vs.length ≤ 1000)
    (h : ∀ h' p t, Fr h₀ L h' m → News h₀ L h' [(D, W.listOf p.toArray (n + 1))] → StrsAre p ws.dropLast → Q (.str (ws.getLast hn) t) { s with heap := h' }) :
    wpAny (model prog w) A (call (.builtin "list.pop") [.ref D]) Q E s := by
  obtain ⟨p, t, e, hp⟩ := last_of S hn
  refine kl_pop (p := p) F N (by simpa using e) (Upd.head fun p hp => by cases hp) ?_ (fun h' F' N' => h h' p t F' N' hp)
  rw [sizeLine_eq]; simp; omega
end
theorem B_len : bootBuiltins "len" = some (.builtin "len") := by boot_fast
theorem B_VE : bootBuiltins "ValueError" = some (.type "ValueError") := by boot_fast
theorem nsK {w : World} : nsIn (hd.heap_39 w.params) mainGlobals "len" = some none := by kernel_rfl
theorem nsKV {w : World} : nsIn (hd.heap_39 w.params) mainGlobals "ValueError" = some none := by kernel_rfl
local macro_rules | `(tactic| walk_at "mw") => `(tactic| first
  | with_reducible refine wpAny_execs_nil ?_
  | with_reducible refine wpAny_If ?_
  | with_reducible refine wpAny_Return_some ?_
  | with_reducible refine isTrue_not ?_
  | with_reducible refine isTrue_and ?_
  | with_reducible refine isTrue_and_nil ?_
  | with_reducible refine isTrue_or ?_
  | with_reducible refine isTrue_or_nil ?_
  | ((with_reducible refine' wpAny_isTrue_Compare1 ?hh ?aa); (case aa => rfl))
  | ((with_reducible refine' isTrue_plain ?hh ?aa); (case aa => rfl))
  | ((with_reducible refine' wpAny_Assign_Name ?hh ?aa); (case aa => rfl))
  | ((with_reducible refine' Assign_Tuple ?hh ?aa ?bb); (case aa => rfl); (case bb => rfl))
  | ((with_reducible refine' wpAny_Assign_three ?hh ?aa ?bb); (case aa => rfl); (case bb => rfl))
  | with_reducible refine Subscript_ ?_
  | ((with_reducible refine' MethodCall_ ?hh ?aa); (case aa => rfl))
  | ((with_reducible refine' Call_ ?hh ?aa); (case aa => rfl))
  | with_reducible refine Calls.Constant_str ?_
  | with_reducible refine wpAny_Constant_int ?_
  | with_reducible refine wpAny_Constant_none ?_
  | with_reducible refine wpAny_truthy_bool ?_
  | with_reducible refine Tuple_ ?_
  | ((with_reducible refine' args_cons ?hh ?aa); (case aa => rfl))
  | with_reducible refine args_nil ?_
  | with_reducible refine callWith_method0 ?_
  | ((with_reducible refine' callWith_method1 ?hh ?aa ?bb); (case aa => rfl); (case bb => rfl))
  | ((with_reducible refine' PyProof.Rows.callWith_builtin1 ?hh ?aa ?bb); (case aa => rfl); (case bb => rfl))
  | ((with_reducible refine' PyProof.Rows.callWith_type1 ?hh ?aa ?bb); (case aa => rfl); (case bb => rfl))
  | with_reducible refine PyProof.Rows.assign_Name ?_
  | with_reducible refine bindName_ ?_
  | ((with_reducible show wpAny _ _ (assignInOrder _ _) _ _ _); first | refine assignInOrder_nil ?_ | refine assignInOrder_cons ?_)
  | with_reducible refine GM.partition ?_
  | with_reducible refine GM.split ?_
  | with_reducible refine GM.lower ?_
  | with_reducible refine GM.upper ?_
  | with_reducible refine GM.title ?_
  | with_reducible refine GM.isalpha ?_
  | with_reducible refine GM.isdigit ?_
  | with_reducible refine in_str ?_
  | with_reducible refine SC.isalpha ?_
  | with_reducible refine SC.isdigit ?_
  | with_reducible refine eq_int ?_
  | with_reducible refine PyProof.Rows.ge_int ?_
  | ((with_reducible refine' ld ‹Fr _ _ _ _› ?vv ?hh ?aa ?bb ?cc); (case aa => rfl); (case bb => rfl); (case cc => rfl); (case vv => rfl))
  | ((with_reducible refine' name_B ‹Fr _ _ _ _› ‹Frag.In _ _› ‹TopRead _ _ _ _ _› nsK B_len ?nn ?hh ?aa ?bb ?cc); (case nn => decide); (case aa => rfl); (case bb => rfl); (case cc => rfl))
  | ((with_reducible refine' name_B ‹Fr _ _ _ _› ‹Frag.In _ _› ‹TopRead _ _ _ _ _› nsKV B_VE ?nn ?hh ?aa ?bb ?cc); (case nn => decide); (case aa => rfl); (case bb => rfl); (case cc => rfl))
  | with_reducible refine JoinedStr_many ?_
  | with_reducible refine joinParts_consE ?_
  | with_reducible refine joinParts_nilE ?_
  | with_reducible refine joinParts_cons ?_
  | ((with_reducible refine' joinParts_nil ?hh ?zz); (case zz => (rw [sizeLine_eq]; simp only [Str.length_append]; omega)))
  | with_reducible refine wpAny_FormattedValue_repr ?_
  | ((with_reducible refine' pyReprObj_str ?hh ?zz); (case zz => (rw [sizeLine_eq]; omega)))
  | ((with_reducible refine' formatField_str ?hh ?zz); (case zz => (rw [sizeLine_eq]; omega)); intro tt kk)
  | ((with_reducible show _ ≤ sizeLine ∧ wpAny _ _ _ _ _ _); refine ⟨?zz, ?_⟩; (case zz => (rw [sizeLine_eq]; simp only [Str.length_append]; omega)))
  | ((with_reducible show wpAny _ _ (call (Value.builtin "str.split") [_, _]) _ _ _); refine' split1 ‹Fr _ _ _ _› ‹News _ _ _ _› ?yy ?zz ?hh; (case yy => first | rfl | assumption); (case zz => rw [sizeLine_eq]; omega); intro D vs h' k' S' B' F' N' l')
  | ((with_reducible show wpAny _ _ (call (Value.builtin "str.split") _) _ _ _); refine' split2 ‹Fr _ _ _ _› ‹News _ _ _ _› ?yy ?kk ?zz ?hh; (case yy => first | rfl | assumption); (case kk => decide); (case zz => rw [sizeLine_eq]; omega); intro D vs h' k' S' B' F' N' l')
  | ((with_reducible refine' SCL.lower ?ll ?_); (case ll => omega); intro l')
  | ((with_reducible refine' SCL.upper ?ll ?_); (case ll => omega); intro l')
  | ((with_reducible refine' SCL.title ?ll ?_); (case ll => omega); intro l')
  | ((with_reducible show wpAny _ _ (getMethod (Value.ref _) (Str.ofString "pop") _) _ _ _); refine kl_method ‹News _ _ _ _› (List.Mem.head _) PySem.F.slot_list_pop PySem.F.type_list_pop ?_)
  | ((with_reducible show wpAny _ _ (call (Value.builtin "list.pop") [_, _]) _ _ _); refine' pop0 ‹Fr _ _ _ _› ‹News _ _ _ _› ?ll ?_; (case ll => omega); intro h' F' N')
  | ((with_reducible show wpAny _ _ (subscriptTail _ _ (Value.ref _) (Value.int 0 _)) _ _ _); refine' item_litK (News.isList ‹News _ _ _ _› (List.Mem.head _)) (by decide) (by decide) ?ii ?_ ?ss; (case ss => with_unfolding_all rfl); (case ii => rfl))
  | ((with_reducible show wpAny _ _ (subscriptTail _ _ (Value.str _ _) (Value.int 0 _)) _ _ _); refine' item_str ?ff ?ii ?jj ?_ ?ss ?tt; (case ff => decide); (case ii => omega); (case jj => omega); (case ss => with_unfolding_all rfl); (case tt => intro _; rfl); intro l')
  | ((with_reducible show wpAny _ _ (truthy (Value.ref _)) _ _ _); first | refine truthyN ‹News _ _ _ _› ?_ | (refine' truthyC ‹News _ _ _ _› ?zz ?_; (case zz => omega)))
  | ((with_reducible refine' newTuple_N ‹Fr _ _ _ _› ‹News _ _ _ _› ?hh ?zz); (case zz => (rw [sizeLine_eq]; simp only [List.length_cons, List.length_nil]; omega)); intro h' F' N')
  | ((with_reducible refine' stN ‹Fr _ _ _ _› ‹News _ _ _ _› ?hh ?aa ?bb); (case aa => rfl); (case bb => rfl); intro h' F' N')
  | ((with_reducible refine' SBL.truthy ?ll ?_); (case ll => omega))
  | ((with_reducible refine' SBL.len ?ll ?_); (case ll => omega))
  | ((with_reducible show wpAny _ _ (call (Value.builtin "str.partition") _) _ _ _); refine' partitionN ‹Fr _ _ _ _› ‹News _ _ _ _› ?yy ?hh ?zz; (case yy => rfl); (case zz => rw [sizeLine_eq]; omega); intro ta tb tc h' k' F' N')
  | ((with_reducible refine' Raise_new ?ha ?_); (case ha => assumption))
  | ((with_reducible show wpAny _ _ (call (Value.type "ValueError") _) _ _ _); refine call_exc_raise excClass_ValueError ?_; intro hx e hX)
  | ((with_reducible show wpAny _ _ (assign (Expr.Tuple _ _ _) _ (Value.ref _)) _ _ _); refine' unpackN_ ‹Fr _ _ _ _› ‹News _ _ _ _› (News.isTup ‹News _ _ _ _› (List.Mem.head _)) ?ha ?ll ?ff ?hh; (case ha => assumption); (case ll => rfl); (case ff => rfl); intro h' F' N')
  | fail "no step"
  )
local macro_rules | `(tactic| walk_at "mwF") => `(tactic| (refine' ifF ?cc ?_; (case cc => first | assumption | decide | simp)))
local macro_rules | `(tactic| walk_at "mwT") => `(tactic| (refine' ifT ?cc ?_; (case cc => first | assumption | decide | simp)))
local macro_rules | `(tactic| walk_at "mwR") => `(tactic| repeat' (first | (walk_at "mw"; try dsimp only [List.cons_append, List.nil_append]) | (refine' ifT ?cc ?_; (case cc => with_reducible rfl)) | (refine' ifF ?cc ?_; (case cc => (intro h; exact Bool.noConfusion h))) | fail "no step"))
set_option maxRecDepth 100000 in
set_option maxHeartbeats 4000000 in
theorem parse_spec {w : World} {A : Around} {s : Shared} {E : Value → Shared → Prop} {Q : Value → Shared → Prop} {text sep w0 : Str} {ws : List Str} {t u : Tok} (X : Tops w s.heap)
    (hroom : A.depth < recursionLimit) (hh : A.handled = none) (htx : text.length ≤ 1000) (hsp : sep.length = 1)
    (hw : text.length ≠ 0 → Txt.split (idOf text) sep = w0 :: ws) (hwl : ws.length ≤ 900) (hr1 : (reprText (Txt.lower w0)).length ≤ 100000) (hr2 : (reprText (idOf text)).length ≤ 100000)
    (hret : ∀ r D vs h' k, parseT text sep = some r → (∀ b o, s.heap.get? b = some o → h'.get? b = some o) → s.heap.get? D = none → h'.get? D = some (tupO vs) → OptsAre vs r → Q (.ref D) { s with heap := h', toks := k })
    (hexc : parseT text sep = none → ∀ sc, ∀ m h h' e k, sc.kind = .function → Fr s.heap s.heap.objs.size h m → h.NewExc h' e "ValueError" → wpAny (model P0 w) (A.deeper (envOf "parse_locale" sc s.heap.objs.size 22 (.ref 21))) (leaving (envOf "parse_locale" sc s.heap.objs.size 22 (.ref 21)) (.ref e)) (fun _ s'' => E (.ref e) s'') E { s with heap := h', toks := k }) :
    wpAny (model P0 w) A (call (.ref 22) [.str text t, .str sep u]) Q E s := by
  refine wpAny_call ?_
  refine enter (f := 22) (binds := [("identifier", .str text t), ("sep", .str sep u)]) X hroom (by rfl) (by rfl) (by rfl) (kp_binds X.K fun S => by rfl) (by rfl) ?_ (by decide) (by rfl) (by rfl) (by rfl)
  intro h₁ F
  have XK := X.K
  obtain ⟨mg, mb, XT⟩ := X.T
  have N : News s.heap s.heap.objs.size h₁ [] := News.nil
  suffices H : ∀ (Qf : Flow → Shared → Prop) (Ef : Value → Shared → Prop),
      (∀ r D vs h' k, parseT text sep = some r → (∀ b o, s.heap.get? b = some o → h'.get? b = some o) → s.heap.get? D = none → h'.get? D = some (tupO vs) → OptsAre vs r → Qf (.ret (.ref D)) { s with heap := h', toks := k }) →
      (parseT text sep = none → ∀ m h h' e k, Fr s.heap s.heap.objs.size h m → h.NewExc h' e "ValueError" → Ef (.ref e) { s with heap := h', toks := k }) →
      wpAny (model P0 w) _ (execs _ _) Qf Ef _ by
    exact H _ _ hret (fun hp m h h' e k => hexc hp _ m h h' e k (by rfl))
  intro Qf Ef hQ hE
  have hsp0 : (sep.length == 0) = false := by simp [hsp]
  -- not identifier
  refine wpAny_execs_cons ?_
  walk_at "mwR"
  refine split_bool ?_ ?_ <;> intro hc
  · refine wpAny_execs_cons ?_
    walk_at "mwR"
    refine hE (by have : text.length = 0 := by simpa using hc
                  simp [parseT, this]) _ _ _ _ _ ‹Fr _ _ _ _› ‹Heap.NewExc _ _ _ _›
  have htl : text.length ≠ 0 := by simpa using hc
  replace hw := hw htl
  clear hc
  -- partition
  walk_at "mwR"
  refine wpAny_execs_cons ?_
  walk_at "mwR"
  have hf := fact_partition text "@"
  -- the encoding goes
  refine seq_mergeI "identifier" ‹Fr _ _ _ _› (fun v => ∃ tk, v = .str (idOf text) tk) ?_ ?_
  · walk_at "mwR"
    refine split_bool ?_ ?_ <;> intro hc
    · walk_at "mwR"
      refine wpAny_execs_cons ?_
      walk_at "mwR"
      refine itemS (k := 0) (News.isList ‹News _ _ _ _› (List.Mem.head _)) ‹StrsAre _ _› (List.getElem?_eq_getElem (splitMax_pos _ _ _)) (by decide) ?_ (by with_unfolding_all rfl)
      intro t'
      walk_at "mwR"
      have e : idOf text = (Txt.splitMax (Txt.partition text "@").1 "." 1)[0]'(splitMax_pos _ _ _) := by
        unfold idOf hasS
        rw [if_pos hc]
        simp [List.getD, List.getElem?_eq_getElem (splitMax_pos _ _ _)]
      rw [e]
      exact ⟨rfl, _, _, _, rfl, ‹Fr _ _ _ _›, _, rfl⟩
    · walk_at "mwR"
      have e : idOf text = (Txt.partition text "@").1 := by
        unfold idOf hasS
        rw [if_neg (by rw [hc]; decide)]
      rw [e]
      exact ⟨rfl, _, _, _, rfl, Fr.same ‹Fr _ _ _ _› (by rfl), _, rfl⟩
  intro h' v k F' N' hv
  obtain ⟨tk, rfl⟩ := hv
  have hid : (idOf text).length ≤ 1000 := Nat.le_trans (idOf_len text) htx
  -- split
  refine wpAny_execs_cons ?_
  walk_at "mwR"
  rename_i D vs _ _ S B _ _ _ _ _ _
  rw [hw] at S B
  cases S with
  | cons _ t0 S =>
  rename_i vs
  have hvl := S.len_eq
  have hl0 := B w0 (by simp)
  -- lang
  refine wpAny_execs_cons ?_
  walk_at "mwR"
  have hL1 : (Str.ofString "expected only letters, got ").length = 27 := by decide +kernel
  have hL2 : (Str.ofString " is not a valid locale identifier").length = 33 := by decide +kernel
  have hL3 : Str.empty.length = 0 := rfl
  refine wpAny_execs_cons ?_
  walk_at "mwR"
  refine split_bool ?_ ?_ <;> intro hla
  · refine wpAny_execs_cons ?_
    walk_at "mwR"
    refine hE ?_ _ _ _ _ _ ‹Fr _ _ _ _› ‹Heap.NewExc _ _ _ _›
    unfold parseT
    rw [if_neg htl, hw]
    unfold parseM parseL
    simp only []
    rw [if_neg (by simpa using hla)]; rfl
  refine wpAny_execs_nil ?_
  -- script = territory = variant = None
  refine wpAny_execs_cons ?_
  walk_at "mwR"
  -- script
  refine seq_mergeF (D := D) "script" ‹Fr _ _ _ _› (fun v vs' => OptIs v (takeS ws).1 ∧ StrsAre vs' (takeS ws).2) ?_ ?_
  · cases S with
    | nil =>
      walk_at "mwR"
      exact ⟨rfl, _, _, _, _, _, rfl, Fr.same ‹Fr _ _ _ _› (by rfl), ‹News _ _ _ _›, .none, .nil⟩
    | cons w1 t1 S =>
      have hl1 := B w1 (by simp)
      have hvs := S.len_eq
      simp only [List.length_cons] at hwl
      walk_at "mwR"
      refine split_dec ?_ ?_ <;> intro h4
      · walk_at "mwR"
        refine split_bool ?_ ?_ <;> intro ha
        · walk_at "mwR"
          walk_at "mwR"
          refine wpAny_execs_cons ?_
          walk_at "mwR"
          refine ⟨rfl, _, _, _, _, _, rfl, ‹Fr _ _ _ _›, ‹News _ _ _ _›, ?_⟩
          rw [takeS_yes (by omega) ha]
          exact ⟨.some _ _, S⟩
        · walk_at "mwF"
          walk_at "mwR"
          refine ⟨rfl, _, _, _, _, _, rfl, Fr.same ‹Fr _ _ _ _› (by rfl), ‹News _ _ _ _›, ?_⟩
          rw [takeS_no (by simp [ha])]
          exact ⟨.none, .cons _ _ S⟩
      · walk_at "mwF"
        walk_at "mwR"
        refine ⟨rfl, _, _, _, _, _, rfl, Fr.same ‹Fr _ _ _ _› (by rfl), ‹News _ _ _ _›, ?_⟩
        rw [takeS_no (by omega)]
        exact ⟨.none, .cons _ _ S⟩
  clear S
  intro h' vS vsS n' k F' N' hv
  obtain ⟨hoS, S⟩ := hv
  have B1 : ∀ a ∈ (takeS ws).2, a.length ≤ 1000 := fun a ha => Nat.le_trans (B a (.tail _ ((takeS_sub ws).2 a ha))) hid
  have W1 := (takeS_sub ws).1
  dsimp only
  -- territory
  refine seq_mergeF (D := D) "territory" ‹Fr _ _ _ _› (fun v vs' => OptIs v (takeT (takeS ws).2).1 ∧ StrsAre vs' (takeT (takeS ws).2).2) ?_ ?_
  · generalize (takeS ws).2 = ws1 at *
    cases S with
    | nil =>
      walk_at "mwR"
      exact ⟨rfl, _, _, _, _, _, rfl, Fr.same ‹Fr _ _ _ _› (by rfl), ‹News _ _ _ _›, .none, .nil⟩
    | cons w1 t1 S =>
      have hl1 := B1 w1 (by simp)
      have hvs := S.len_eq
      simp only [List.length_cons] at W1
      walk_at "mwR"
      refine wpAny_execs_cons ?_
      walk_at "mwR"
      refine split_dec ?_ ?_ <;> intro h2
      · walk_at "mwR"
        refine split_bool ?_ ?_ <;> intro ha
        · walk_at "mwR"
          walk_at "mwR"
          refine wpAny_execs_cons ?_
          walk_at "mwR"
          refine ⟨rfl, _, _, _, _, _, rfl, ‹Fr _ _ _ _›, ‹News _ _ _ _›, ?_⟩
          rw [takeT_two (by omega) ha]
          exact ⟨.some _ _, S⟩
        · walk_at "mwF"
          refine wpAny_execs_cons ?_
          walk_at "mwR"
          refine split_dec ?_ ?_ <;> intro h3
          · omega
          walk_at "mwR"
          refine ⟨rfl, _, _, _, _, _, rfl, Fr.same ‹Fr _ _ _ _› (by rfl), ‹News _ _ _ _›, ?_⟩
          rw [takeT_no (by simp [ha]) (by omega)]
          exact ⟨.none, .cons _ _ S⟩
      · walk_at "mwF"
        refine wpAny_execs_cons ?_
        walk_at "mwR"
        refine split_dec ?_ ?_ <;> intro h3
        · walk_at "mwR"
          refine split_bool ?_ ?_ <;> intro ha
          · walk_at "mwR"
            walk_at "mwR"
            refine wpAny_execs_cons ?_
            walk_at "mwR"
            refine ⟨rfl, _, _, _, _, _, rfl, ‹Fr _ _ _ _›, ‹News _ _ _ _›, ?_⟩
            rw [takeT_three (by omega) ha]
            exact ⟨.some _ _, S⟩
          · walk_at "mwF"
            walk_at "mwR"
            refine ⟨rfl, _, _, _, _, _, rfl, Fr.same ‹Fr _ _ _ _› (by rfl), ‹News _ _ _ _›, ?_⟩
            rw [takeT_no (by omega) (by simp [ha])]
            exact ⟨.none, .cons _ _ S⟩
        · walk_at "mwF"
          walk_at "mwR"
          refine ⟨rfl, _, _, _, _, _, rfl, Fr.same ‹Fr _ _ _ _› (by rfl), ‹News _ _ _ _›, ?_⟩
          rw [takeT_no (by omega) (by omega)]
          exact ⟨.none, .cons _ _ S⟩
  clear S
  intro h' vT vsT n' k F' N' hv
  obtain ⟨hoT, S⟩ := hv
  have B2 : ∀ a ∈ (takeT (takeS ws).2).2, a.length ≤ 1000 := fun a ha => B1 a ((takeT_sub _).2 a ha)
  have W2 := (takeT_sub (takeS ws).2).1
  dsimp only
  -- variant
  refine seq_mergeF (D := D) "variant" ‹Fr _ _ _ _› (fun v vs' => OptIs v (takeV (takeT (takeS ws).2).2).1 ∧ StrsAre vs' (takeV (takeT (takeS ws).2).2).2) ?_ ?_
  · generalize (takeT (takeS ws).2).2 = ws1 at *
    cases S with
    | nil =>
      walk_at "mwR"
      exact ⟨rfl, _, _, _, _, _, rfl, Fr.same ‹Fr _ _ _ _› (by rfl), ‹News _ _ _ _›, .none, .nil⟩
    | cons w1 t1 S =>
      have hl1 := B2 w1 (by simp)
      have hvs := S.len_eq
      simp only [List.length_cons] at W2
      walk_at "mwR"
      refine split_dec ?_ ?_ <;> intro h4
      · walk_at "mwR"
        refine split_bool ?_ ?_ <;> intro ha
        · walk_at "mwR"
          refine wpAny_execs_cons ?_
          walk_at "mwR"
          have hlast : ((w1 :: _).getLast (List.cons_ne_nil _ _)).length ≤ 1000 := B2 _ (List.getLast_mem (List.cons_ne_nil _ _))
          refine popE ‹Fr _ _ _ _› ‹News _ _ _ _› (StrsAre.cons _ _ S) (List.cons_ne_nil _ _) (by simp only [List.length_cons]; omega) ?_
          intro h' p t F' N' S'
          walk_at "mwR"
          refine ⟨rfl, _, _, _, _, _, rfl, ‹Fr _ _ _ _›, ‹News _ _ _ _›, ?_⟩
          rw [takeV_yes (.inl ⟨by omega, ha⟩)]
          exact ⟨.some _ _, S'⟩
        · walk_at "mwF"
          walk_at "mwR"
          refine split_dec ?_ ?_ <;> intro h5
          · omega
          walk_at "mwR"
          refine ⟨rfl, _, _, _, _, _, rfl, Fr.same ‹Fr _ _ _ _› (by rfl), ‹News _ _ _ _›, ?_⟩
          rw [takeV_no (by simp [ha]; omega)]
          exact ⟨.none, .cons _ _ S⟩
      · walk_at "mwF"
        walk_at "mwR"
        refine split_dec ?_ ?_ <;> intro h5
        · walk_at "mwR"
          refine split_bool ?_ ?_ <;> intro ha
          · walk_at "mwR"
            refine wpAny_execs_cons ?_
            walk_at "mwR"
            have hlast : ((w1 :: _).getLast (List.cons_ne_nil _ _)).length ≤ 1000 := B2 _ (List.getLast_mem (List.cons_ne_nil _ _))
            refine popE ‹Fr _ _ _ _› ‹News _ _ _ _› (StrsAre.cons _ _ S) (List.cons_ne_nil _ _) (by simp only [List.length_cons]; omega) ?_
            intro h' p t F' N' S'
            walk_at "mwR"
            refine ⟨rfl, _, _, _, _, _, rfl, ‹Fr _ _ _ _›, ‹News _ _ _ _›, ?_⟩
            rw [takeV_yes (.inr ⟨by omega, ha⟩)]
            exact ⟨.some _ _, S'⟩
          · walk_at "mwF"
            walk_at "mwR"
            refine ⟨rfl, _, _, _, _, _, rfl, Fr.same ‹Fr _ _ _ _› (by rfl), ‹News _ _ _ _›, ?_⟩
            rw [takeV_no (by simp [ha]; omega)]
            exact ⟨.none, .cons _ _ S⟩
        · walk_at "mwF"
          walk_at "mwR"
          refine ⟨rfl, _, _, _, _, _, rfl, Fr.same ‹Fr _ _ _ _› (by rfl), ‹News _ _ _ _›, ?_⟩
          rw [takeV_no (by omega)]
          exact ⟨.none, .cons _ _ S⟩
  clear S
  intro h' vV vsV n' k F' N' hv
  obtain ⟨hoV, S⟩ := hv
  have W3 := takeV_sub (takeT (takeS ws).2).2
  dsimp only
  -- something is left
  refine wpAny_execs_cons ?_
  have hpt : parseT text sep = parseM w0 ws (modOf text) := by
    unfold parseT
    rw [if_neg htl, hw]
  have hlt : Txt.isalpha (Txt.lower w0) = true := by simpa using hla
  have hm9 : (modOf text).length ≤ 1000 := Nat.le_trans hf.2.2 htx
  generalize hws3 : (takeV (takeT (takeS ws).2).2).2 = ws3 at *
  cases S with
  | cons w1 t1 S =>
    have hvs := S.len_eq
    simp only [List.length_cons] at W3
    walk_at "mwR"
    refine wpAny_execs_cons ?_
    walk_at "mwR"
    refine hE ?_ _ _ _ _ _ ‹Fr _ _ _ _› ‹Heap.NewExc _ _ _ _›
    rw [hpt]
    unfold parseM parseL
    rw [if_pos hlt, if_neg (by rw [hws3]; exact List.cons_ne_nil _ _)]; rfl
  | nil =>
    walk_at "mwR"
    have hp2 : parseL w0 ws = some [some (Txt.lower w0), (takeT (takeS ws).2).1, (takeS ws).1, (takeV (takeT (takeS ws).2).2).1] := by
      unfold parseL
      rw [if_pos hlt, if_pos hws3]
    refine wpAny_execs_cons ?_
    walk_at "mwR"
    change (Txt.partition text "@").2.2.length ≤ 1000 at hm9
    walk_at "mwR"
    refine split_bool ?_ ?_ <;> intro hmd
    · refine wpAny_execs_cons ?_
      walk_at "mwR"
      have hD := News.get ‹News _ _ _ _› (List.Mem.head _)
      refine hQ _ _ _ _ _ ?_ (Fr.keep ‹Fr _ _ _ _›) ((‹News _ _ _ _› _ (List.Mem.head _)).2.2) hD (.cons (.some _ _) (.cons hoT (.cons hoS (.cons hoV (.cons (.some _ _) .nil)))))
      rw [hpt]
      unfold parseM
      rw [hp2]
      have : ¬ (modOf text).length = 0 := by simpa [modOf] using hmd
      exact congrArg some (if_neg this)
    · refine wpAny_execs_cons ?_
      walk_at "mwR"
      have hD := News.get ‹News _ _ _ _› (List.Mem.head _)
      refine hQ _ _ _ _ _ ?_ (Fr.keep ‹Fr _ _ _ _›) ((‹News _ _ _ _› _ (List.Mem.head _)).2.2) hD (.cons (.some _ _) (.cons hoT (.cons hoS (.cons hoV .nil))))
      rw [hpt]
      unfold parseM
      rw [hp2]
      have : (modOf text).length = 0 := by simpa [modOf] using hmd
      exact congrArg some (if_pos this)
open PySem.Spec
abbrev Grow (h h' : Heap) : Prop := ∀ b o, h.get? b = some o → h'.get? b = some o
abbrev lstO (ys : List Value) : Obj := { cls := .type "list", data := .seq ys.toArray ys.length }
theorem lstO_snoc (ys : List Value) (y : Value) : ({ cls := .type "list", data := .seq (ys.toArray.push y) (ys.length + 1) } : Obj) = lstO (ys ++ [y]) := by
  simp [lstO]
section
variable {prog : Program} {w : World} {A : Around} {E : Value → Shared → Prop} {s : Shared}
theorem compLoop_G {elt target iter : Expr} {ifs : List Expr} {scope : Scope} {pos : Pos} {it acc : Value} {env : Env} {R : Result → Shared → Prop} (I : Nat → Shared → Prop)
    (turn : ∀ n s, I n s → wpAny (model prog w) A (pyNext it) (fun r s₁ => match r with
      | none => R (.ok .next) s₁
      | some v => wpAny (model prog w) A (letOwnedTupleGo target it v) (fun _ s₁' => wpAny (model prog w) A (assign target env v) (fun _ s₂ =>
          wpAny (model prog w) A (forIn ifs true fun c r => if r = true then do let ok ← isTrue c env (eval c env); pure (ForInStep.yield ok) else pure (ForInStep.yield r)) (fun ok s₃ =>
            if ok = true then wpAny (model prog w) A (eval elt env) (fun x s₄ =>
              wpAny (model prog w) A (call (.builtin "list.append") [acc, x]) (fun _ s₅ => ∃ m, m < n ∧ I m s₅) (notedBy (model prog w) A env fun e s' => R (.error e) s') s₄) (notedBy (model prog w) A env fun e s' => R (.error e) s') s₃
            else ∃ m, m < n ∧ I m s₃) (notedBy (model prog w) A env fun e s' => R (.error e) s') s₂) (notedBy (model prog w) A env fun e s' => R (.error e) s') s₁') (notedBy (model prog w) A env fun e s' => R (.error e) s') s₁)
      (notedBy (model prog w) A env fun e s' => R (.error e) s') s)
    (n : Nat) (h : I n s) : codeAny (model prog w) A (.compLoop (.ListComp elt [⟨target, iter, ifs, 0⟩] scope pos) 0 it acc env) R s := by
  refine codeAny_loop rfl I (fun n s hI => ?_) n h
  show wpAny _ A ((compTurn (.ListComp elt [⟨target, iter, ifs, 0⟩] scope pos) 0 it acc env).onRaise (fun x => do noteFrame x env; theTreesLotGoes x)) _ _ s
  refine wpAny_noted ?_
  rw [compTurn_list]
  refine wpAny_bind (wpAny_standAt (wpAny_bind (wpAny_mono (turn n s hI) (fun r s₁ h₁ => ?_) fun _ _ h' => h')))
  cases r with
  | none => exact wpAny_pure h₁
  | some v =>
    refine wpAny_bind (wpAny_mono h₁ (fun _ s₁' h₁' => ?_) fun _ _ h' => h')
    refine wpAny_bind (wpAny_mono h₁' (fun _ s₂ h₂ => wpAny_bind (wpAny_mono h₂ (fun ok s₃ h₃ => ?_) fun _ _ h' => h')) fun _ _ h' => h')
    cases ok with
    | true =>
      rw [if_pos rfl] at h₃
      exact wpAny_bind (wpAny_bind (wpAny_mono h₃ (fun x s₄ h₄ => wpAny_bind (wpAny_mono h₄ (fun _ s₅ h₅ => wpAny_pure (wpAny_pure ⟨rfl, h₅⟩)) fun _ _ h' => h')) fun _ _ h' => h'))
    | false =>
      rw [if_neg Bool.false_ne_true] at h₃
      exact wpAny_pure ⟨rfl, h₃⟩
/-- what a turn of a comprehension leaves -/
def Turned (s : Shared) (C : Addr) (h : Heap) (R : List Value → Heap → Prop) (ys : List Value) (s' : Shared) : Prop :=
  ∃ h' tk, s' = { s with heap := h', toks := tk } ∧ (∀ b o, b ≠ C → h.get? b = some o → h'.get? b = some o) ∧ (∃ m, h'.Ns C m) ∧ R ys h'
theorem block_G {elt target iter : Expr} {ifs : List Expr} {scope : Scope} {cl : List (Str × Addr)} {pos : Pos} {env : Env} {s₂ : Shared} {I : Addr} {fp : List Addr} {n : Nat} {P : Nat → Value → Prop} {St : Nat → Heap → Prop}
    {RR : Value → Addr → Result → Shared → Prop} (base : Heap) (R : (Addr → Prop) → Nat → List Value → Heap → Prop)
    (W : Walks prog w A I fp [I] n P St) (hsz : n ≤ sizeLine) (hcell : ∀ y ∈ scope.names, y.2 ≠ .cell) (hkind : scope.kind = .function)
    (hst : St 0 s₂.heap) (hfp : ∀ b ∈ fp, b < s₂.heap.objs.size) (hk : Grow base s₂.heap) (hI : base.get? I = none)
    (hR0 : ∀ off h, Grow base h → R off 0 [] h) (hRk : ∀ (off : Addr → Prop) i ys h h', (∀ b o, ¬ off b → h.get? b = some o → h'.get? b = some o) → R off i ys h → R off i ys h')
    (hlet : ∀ i h v tk (Q : Unit → Shared → Prop) (E' : Value → Shared → Prop), P i v → St (i + 1) h → Q () { s₂ with heap := h, toks := tk } → wpAny (model prog w) A (letOwnedTupleGo target (.ref I) v) Q E' { s₂ with heap := h, toks := tk })
    (turn : ∀ i v ys h tk C (off : Addr → Prop) (E' : Value → Shared → Prop), i < n → P i v → off C → (∀ b o, base.get? b = some o → ¬ off b) → (∀ b, off b → b < h.objs.size) → Grow base h → (∃ m, h.Ns C m) → R off i ys h →
      wpAny (model prog w) A (assign target (compEnvC scope cl C env) v) (fun _ s₃ =>
        wpAny (model prog w) A (forIn ifs true fun c r => if r = true then do let ok ← isTrue c (compEnvC scope cl C env) (eval c (compEnvC scope cl C env)); pure (ForInStep.yield ok) else pure (ForInStep.yield r)) (fun ok s₄ =>
          if ok = true then wpAny (model prog w) A (eval elt (compEnvC scope cl C env)) (fun y s₅ => Turned s₂ C h (R off (i + 1)) (ys ++ [y]) s₅) E' s₄ else Turned s₂ C h (R off (i + 1)) ys s₄) E' s₃) E' { s₂ with heap := h, toks := tk })
    (hRR : ∀ D C h tk m' ys (off : Addr → Prop), base.get? D = none → base.get? C = none → C ≠ D → off C → Grow base h → h.Ns C m' → h.get? D = some (lstO ys) → R off n ys h → RR (.ref D) C (.ok .next) { s₂ with heap := h, toks := tk }) :
    wpAny (model prog w) A (newList []) (fun acc s₃ => wpAny (model prog w) A (newFunctionEnv scope env.globals cl [] env.qual none .none (some env)) (fun cenv s₄ =>
      codeAny (model prog w) A (.compStart (.ListComp elt [⟨target, iter, ifs, 0⟩] scope pos) 0 (.ref I) acc { cenv with scope := relabel scope env }) (RR acc cenv.locals) s₄) E s₃) E s₂ := by
  refine wpAny_newObj_type (wpAny_newFunctionEnv hcell (by intro y hy; simp at hy) (fun h₁ hns₁ hsb₁ => ?_) hkind)
  dsimp only at hns₁ hsb₁ ⊢
  generalize hH2 : s₂.heap.push { cls := .type "list", dict := none, data := .seq ([] : List Value).toArray } = H2 at hns₁ hsb₁ ⊢
  have hC : H2.objs.size = s₂.heap.objs.size + 1 := by rw [← hH2, Heap.size_push]
  generalize hDn : s₂.heap.objs.size = D at *
  generalize hCn : H2.objs.size = C at *
  have hCD : @Eq Nat C (D + 1) := hC
  have hDC : D ≠ C := fun q => by have q' : @Eq Nat D C := q; omega
  have ltD : ∀ b o, s₂.heap.get? b = some o → @LT.lt Nat _ b D := fun b o e => by rw [← hDn]; exact Heap.lt_size e
  have old : Grow s₂.heap h₁ := fun b o e => hsb₁.extBut b o (fun q => by have q' : @Eq Nat b C := q; have := ltD b o e; omega) (Heap.get?_push_of_some _ (hH2 ▸ Heap.get?_push_of_some _ e))
  have hacc : h₁.get? D = some (lstO []) := hsb₁.extBut _ _ hDC (Heap.get?_push_of_some _ (by rw [← hH2, ← hDn]; exact Heap.get?_push_size _ rfl))
  have hst₁ : St 0 h₁ := W.frame _ _ _ hst fun b _ o e => old b o e
  have hIlt : @LT.lt Nat _ I D := by have := hfp I (W.sub I (List.mem_singleton.mpr rfl)); exact this
  have hIC : I ≠ C := fun q => by have q' : @Eq Nat I C := q; omega
  have hID : I ≠ D := fun q => by have q' : @Eq Nat I D := q; omega
  have fresh : ∀ a, @LE.le Nat _ D a → base.get? a = none := fun a ha => by
    cases e : base.get? a with
    | none => rfl
    | some o' => have := ltD a o' (hk a o' e); omega
  have hD₀ := fresh D (Nat.le_refl _)
  have hC₀ := fresh C (by have := hCD; omega)
  let off : Addr → Prop := fun b => b = I ∨ b = C ∨ b = D
  have hoff : ∀ b o, base.get? b = some o → ¬ off b := fun b o e => by
    rintro (q | q | q)
    · rw [q, hI] at e; cases e
    · rw [q, hC₀] at e; cases e
    · rw [q, hD₀] at e; cases e
  have hDf : ∀ b ∈ fp, b ≠ D ∧ b ≠ C := fun b hb => by
    have h1 : @LT.lt Nat _ b D := hfp b hb
    exact ⟨fun q => by have q' : @Eq Nat b D := q; omega, fun q => by have q' : @Eq Nat b C := q; omega⟩
  have loop : ∀ s₃ : Shared, s₃ = { s₂ with heap := h₁, toks := s₂.toks + ([] : List (Str × Value)).length } →
      codeAny (model prog w) A (.compLoop (.ListComp elt [⟨target, iter, ifs, 0⟩] scope pos) 0 (.ref I) (.ref D) (compEnvC scope cl C env)) (RR (.ref D) C) s₃ := by
    rintro s₃ rfl
    refine compLoop_G
      (fun k s' => ∃ h' tk i ys, s' = { s₂ with heap := h', toks := tk } ∧ i ≤ n ∧ k = n + 1 - i ∧ ys.length ≤ i ∧ St i h' ∧ Grow base h' ∧ (∃ m', h'.Ns C m') ∧ h'.get? D = some (lstO ys) ∧ R off i ys h') ?_ (n + 1)
      ⟨h₁, _, 0, [], rfl, Nat.zero_le _, rfl, Nat.le_refl _, hst₁, fun b o e => old b o (hk b o e), ⟨_, hns₁⟩, hacc, hR0 _ _ fun b o e => old b o (hk b o e)⟩
    rintro k s' ⟨h', tk, i, ys, rfl, hi, rfl, hyl, hst', hg', ⟨m', hn'⟩, hd', hR'⟩
    by_cases hlt : i < n
    · refine W.item i _ _ _ hlt hst' fun v h₂ tk₂ hPv hst₂ hk₂ => ?_
      have k2 : ∀ b o, ¬ off b → h'.get? b = some o → h₂.get? b = some o := fun b o hb e => hk₂ b o (by simp; exact fun q => hb (.inl q)) e
      have hg2 : Grow base h₂ := fun b o e => k2 b o (hoff b o e) (hg' b o e)
      have hd2 : h₂.get? D = some (lstO ys) := hk₂ _ _ (by simp; exact Ne.symm hID) hd'
      have hn2 : h₂.Ns C m' := hn'.at' fun o e => hk₂ _ o (by simp; exact Ne.symm hIC) e
      refine hlet i h₂ v tk₂ _ _ hPv hst₂ ?_
      have hI2 : I < h₂.objs.size := by
        have := Heap.lt_size hd2
        exact Nat.lt_trans hIlt this
      refine wpAny_mono (turn i v ys h₂ tk₂ C off _ hlt hPv (.inr (.inl rfl)) hoff (fun b hb => ?_) hg2 ⟨_, hn2⟩ (hRk _ _ _ _ _ k2 hR')) (fun _ s₃ h₃ => wpAny_mono h₃ (fun ok s₄ h₄ => ?_) fun _ _ e => e) fun _ _ e => e
      · rcases hb with rfl | rfl | rfl
        · exact hI2
        · exact hn2.lt
        · exact Heap.lt_size hd2
      cases ok with
      | false =>
        rw [if_neg Bool.false_ne_true] at h₄ ⊢
        obtain ⟨h₅, tk₅, rfl, hk₅, hn₅, hR₅⟩ := h₄
        exact ⟨n + 1 - (i + 1), by omega, h₅, tk₅, i + 1, ys, rfl, hlt, rfl, by omega, W.frame _ _ _ hst₂ fun b hb o e => hk₅ b o (hDf b hb).2 e, fun b o e => hk₅ b o (fun q => hoff b o e (.inr (.inl q))) (hg2 b o e), hn₅, hk₅ _ _ hDC hd2, hR₅⟩
      | true =>
        rw [if_pos rfl] at h₄ ⊢
        refine wpAny_mono h₄ (fun y s₅ h₅ => ?_) fun _ _ e => e
        obtain ⟨h₅, tk₅, rfl, hk₅, ⟨m₅, hn₅⟩, hR₅⟩ := h₅
        have hd5 := hk₅ _ _ hDC hd2
        refine append_at (hsz := by show ys.toArray.size ≤ sizeLine; rw [List.size_toArray]; omega) hd5 fun h₆ hs₆ hD₆ => ?_
        have k6 : ∀ b o, b ≠ D → h₅.get? b = some o → h₆.get? b = some o := fun b o hb e => hs₆.extBut b o hb e
        refine ⟨n + 1 - (i + 1), by omega, h₆, tk₅, i + 1, ys ++ [y], rfl, hlt, rfl, by rw [List.length_append, List.length_singleton]; omega,
          W.frame _ _ _ (W.frame _ _ _ hst₂ fun b hb o e => hk₅ b o (hDf b hb).2 e) fun b hb o e => k6 b o (hDf b hb).1 e,
          fun b o e => k6 b o (fun q => hoff b o e (.inr (.inr q))) (hk₅ b o (fun q => hoff b o e (.inr (.inl q))) (hg2 b o e)), ⟨m₅, hn₅.sameBut hs₆ (Ne.symm hDC)⟩, ?_, ?_⟩
        · rw [hD₆]; exact congrArg some (lstO_snoc ys y)
        · exact hRk _ _ _ _ _ (fun b o hb e => k6 b o (fun q => hb (.inr (.inr q))) e) hR₅
    · obtain rfl : i = n := Nat.le_antisymm hi (Nat.not_lt.mp hlt)
      refine W.done _ _ _ hst' fun h₂ tk₂ hk₂ => ?_
      have k2 : ∀ b o, ¬ off b → h'.get? b = some o → h₂.get? b = some o := fun b o hb e => hk₂ b o (by simp; exact fun q => hb (.inl q)) e
      exact hRR D C h₂ tk₂ m' ys off hD₀ hC₀ (Ne.symm hDC) (.inr (.inl rfl)) (fun b o e => k2 b o (hoff b o e) (hg' b o e)) (hn'.at' fun o e => hk₂ _ o (by simp; exact Ne.symm hIC) e) (hk₂ _ _ (by simp; exact Ne.symm hID) hd') (hRk _ _ _ _ _ k2 hR')
  exact codeAny_compStart_list (loop _ rfl) (W.self 0 _ _ _ hst₁ (loop _ rfl))
end
section
variable {prog : Program} {w : World} {A : Around} {E : Value → Shared → Prop}
/-- one turn, as it is asked -/
abbrev TurnAsk (prog : Program) (w : World) (A : Around) (env : Env) (target elt : Expr) (ifs : List Expr) (scope : Scope) (cl : List (Str × Addr)) (s₁ : Shared) (n : Nat) (P : Nat → Value → Prop) (R : (Addr → Prop) → Nat → List Value → Heap → Prop) : Prop :=
  ∀ i v ys h tk C (off : Addr → Prop) (E' : Value → Shared → Prop), i < n → P i v → off C → (∀ b o, s₁.heap.get? b = some o → ¬ off b) → (∀ b, off b → b < h.objs.size) → Grow s₁.heap h → (∃ m, h.Ns C m) → R off i ys h →
      wpAny (model prog w) A (assign target (compEnvC scope cl C env) v) (fun _ s₃ =>
        wpAny (model prog w) A (forIn ifs true fun c r => if r = true then do let ok ← isTrue c (compEnvC scope cl C env) (eval c (compEnvC scope cl C env)); pure (ForInStep.yield ok) else pure (ForInStep.yield r)) (fun ok s₄ =>
          if ok = true then wpAny (model prog w) A (eval elt (compEnvC scope cl C env)) (fun y s₅ => Turned s₁ C h (R off (i + 1)) (ys ++ [y]) s₅) E' s₄ else Turned s₁ C h (R off (i + 1)) ys s₄) E' s₃) E' { s₁ with heap := h, toks := tk }
/-- what a source is, what a turn does, what comes behind -/
def CompAsk (prog : Program) (w : World) (A : Around) (env : Env) (target elt : Expr) (ifs : List Expr) (scope : Scope) (cl : List (Str × Addr)) (Fin : Addr → Addr → List Value → Shared → Prop) (xv : Value) (s₁ : Shared) : Prop :=
  ∃ (n : Nat) (P : Nat → Value → Prop) (St : Nat → Heap → Prop) (fp : List Addr) (R : (Addr → Prop) → Nat → List Value → Heap → Prop),
    n ≤ sizeLine ∧ Walks prog w A s₁.heap.objs.size fp [s₁.heap.objs.size] n P St ∧ (∀ b ∈ fp, b ≤ s₁.heap.objs.size) ∧
    (∀ (Q' E' : Value → Shared → Prop), (∀ o, St 0 (s₁.heap.push o) → o.isFreed = false → Q' (.ref s₁.heap.objs.size) { s₁ with heap := s₁.heap.push o }) → wpAny (model prog w) A (pyIter xv) Q' E' s₁) ∧
    (∀ i (s : Shared) v (Q : Unit → Shared → Prop) (E' : Value → Shared → Prop), P i v → St (i + 1) s.heap → Q () s → wpAny (model prog w) A (letOwnedTupleGo target (.ref s₁.heap.objs.size) v) Q E' s) ∧
    (∀ off h, Grow s₁.heap h → R off 0 [] h) ∧ (∀ (off : Addr → Prop) i ys h h', (∀ b o, ¬ off b → h.get? b = some o → h'.get? b = some o) → R off i ys h → R off i ys h') ∧
    TurnAsk prog w A env target elt ifs scope cl s₁ n P R ∧
    (∀ D C ys h tk off, s₁.heap.get? D = none → s₁.heap.get? C = none → off C → D ≠ C → Grow s₁.heap h → h.get? D = some (lstO ys) → R off n ys h → Fin D C ys { s₁ with heap := h, toks := tk })
theorem none_of_push {h : Heap} {o : Obj} {b : Addr} (_hf : o.isFreed = false) (e : (h.push o).get? b = none) : h.get? b = none := by
  cases q : h.get? b with
  | none => rfl
  | some x => rw [Heap.get?_push_of_some _ q] at e; cases e
theorem comp_E {s : Shared} {env : Env} {elt target iter : Expr} {ifs : List Expr} {scope : Scope} {cl : List (Str × Addr)} {pos : Pos} {Q : Value → Shared → Prop}
    (hclos : closureFor scope env = pure cl) (hcell : ∀ y ∈ scope.names, y.2 ≠ .cell) (hkind : scope.kind = .function)
    (hnames : ∀ y ∈ scope.names, y.2 = .local → scope.names.lookup y.1 = some .local)
    (h : wpAny (model prog w) A (eval iter env) (CompAsk prog w A env target elt ifs scope cl fun D _ _ s' => Q (.ref D) s') E s)
    (hs : ∀ x, foldedSetIterable iter env x = pure x) :
    wpAny (model prog w) A (eval (.ListComp elt [⟨target, iter, ifs, 0⟩] scope pos) env) Q E s := by
  rw [eval_ListComp]
  refine wpAny_comprehension_free (use := none) rfl hs hclos hkind hnames (wpAny_mono h (fun xv s₁ h₁ => ?_) fun _ _ e => e)
  obtain ⟨n, P, St, fp, R, hsz, W, hfp, hit, hlet, hR0, hRk, turn, fin⟩ := h₁
  refine hit _ _ fun o hst hof => ?_
  have up : Grow s₁.heap (s₁.heap.push o) := fun b ob e => Heap.get?_push_of_some _ e
  have hI : s₁.heap.get? s₁.heap.objs.size = none := Heap.get?_none_of_le (Nat.le_refl _)
  refine block_G s₁.heap R W hsz hcell hkind hst (fun b hb => ?_) up hI hR0 hRk (fun i h v tk Q' E' hp hs' hq => hlet i _ v Q' E' hp hs' hq) turn ?_
  · show b < (s₁.heap.push o).objs.size
    rw [Heap.size_push]
    exact Nat.lt_succ_of_le (hfp b hb)
  · intro D C h tk m' ys off hD hC hCD hoC hg hn hd hR
    refine ⟨m', hn, fun h'' hs'' => ?_⟩
    have k : ∀ b o, b ≠ C → h.get? b = some o → h''.get? b = some o := fun b o hb e => hs''.extBut b o hb e
    exact fin D C ys h'' tk off hD hC hoC (Ne.symm hCD) (fun b o e => k b o (fun q => by rw [q, hC] at e; cases e) (hg b o e)) (k _ _ (Ne.symm hCD) hd) (hRk _ _ _ _ _ (fun b o hb e => k b o (fun q => hb (q ▸ hoC)) e) hR)
theorem compUse {s : Shared} {env : Env} {elt target iter : Expr} {ifs : List Expr} {scope : Scope} {cl : List (Str × Addr)} {pos spos py : Pos} {y : Str} {Q : Flow → Shared → Prop} {h₀ : Heap} {m : Str → Option Value} {news : List (Addr × Obj)}
    (hsw : swapsWith (.ListComp elt [⟨target, iter, ifs, 0⟩] scope pos) (some (.Name y py)) spos.line env = pure true)
    (hclos : closureFor scope env = pure cl) (hcell : ∀ y ∈ scope.names, y.2 ≠ .cell) (hkind : scope.kind = .function)
    (hnames : ∀ y ∈ scope.names, y.2 = .local → scope.names.lookup y.1 = some .local)
    (hy : env.kindOf y = some .local) (hp : (env.scope.kind == .class || (env.scope.kind == .module && env.locals != env.globals)) = false)
    (_hap : firstAsync [⟨target, iter, ifs, 0⟩] = false)
    (h : wpAny (model prog w) A (eval iter env) (fun xv s₁ => Fr h₀ env.locals s₁.heap m ∧ News h₀ env.locals s₁.heap news ∧ CompAsk prog w A env target elt ifs scope cl
      (fun D C _ s₂ => ∀ h' k, Fr h₀ env.locals h' (fun z => if z = y then some (.ref D) else m z) → News h₀ env.locals h' news → (∀ b o, b ≠ env.locals → b ≠ C → s₂.heap.get? b = some o → h'.get? b = some o) → Q .next { s₂ with heap := h', toks := k }) xv s₁) E s)
    (hs : ∀ x, foldedSetIterable iter env x = pure x) :
    wpAny (model prog w) A (exec (.Assign [.Name y py] (.ListComp elt [⟨target, iter, ifs, 0⟩] scope pos) spos) env) Q E s := by
  rw [exec_Assign_Name_used _ _ _ _ hsw]
  refine wpAny_bind (wpAny_standAt (wpAny_bind ?_))
  show wpAny _ A (do let _ ← comprehension (.ListComp elt [⟨target, iter, ifs, 0⟩] scope pos) scope env _ (newList []) false (eval iter env) (some (assign (.Name y py) env))) _ _ s
  refine wpAny_bind (wpAny_mono (wpAny_comprehension_free (use := some (assign (.Name y py) env)) (Q := fun _ s' => Q .next s') rfl hs hclos hkind hnames
    (wpAny_mono h (fun xv s₁ h₁ => ?_) fun _ _ e => e)) (fun _ s' hq => wpAny_pure (wpAny_pure hq)) fun _ _ e => e)
  obtain ⟨F, N, n, P, St, fp, R, hsz, W, hfp, hit, hlet, hR0, hRk, turn, fin⟩ := h₁
  refine hit _ _ fun o hst hof => ?_
  have up : Grow s₁.heap (s₁.heap.push o) := fun b ob e => Heap.get?_push_of_some _ e
  have hI : s₁.heap.get? s₁.heap.objs.size = none := Heap.get?_none_of_le (Nat.le_refl _)
  refine block_G s₁.heap R W hsz hcell hkind hst (fun b hb => ?_) up hI hR0 hRk (fun i h v tk Q' E' hp hs' hq => hlet i _ v Q' E' hp hs' hq) turn ?_
  · show b < (s₁.heap.push o).objs.size
    rw [Heap.size_push]
    exact Nat.lt_succ_of_le (hfp b hb)
  · intro D C h tk m' ys off hD hC hCD hoC hg hn hd hR
    have F' : Fr h₀ env.locals h m := F.keeps hg
    have N' : News h₀ env.locals h news := N.grown hg
    have hLC : env.locals ≠ C := by
      obtain ⟨oL, _, _, hL, _⟩ := F.ns
      intro q
      rw [q, hC] at hL; cases hL
    have hLD : env.locals ≠ D := by
      obtain ⟨oL, _, _, hL, _⟩ := F.ns
      intro q
      rw [q, hD] at hL; cases hL
    show wpAny _ A (assign (.Name y py) env (.ref D)) _ _ _
    refine wpAny_assign_Name (wpAny_storeName_local hy F'.ns (fun h₂ hn₂ hs₂ => ?_) hp)
    have F₂ : Fr h₀ env.locals h₂ (fun z => if z = y then some (.ref D) else m z) := F'.set hn₂ hs₂
    have N₂ : News h₀ env.locals h₂ news := N'.set hs₂
    refine ⟨m', hn.sameBut hs₂ (Ne.symm hLC), fun h'' hs'' => ?_⟩
    have k : ∀ b o, b ≠ C → h₂.get? b = some o → h''.get? b = some o := fun b o hb e => hs''.extBut b o hb e
    have hC0 : h₀.get? C = none := by
      cases q : h₀.get? C with
      | none => rfl
      | some x => have := F.keep _ _ q; rw [hC] at this; cases this
    refine fin D C ys h tk off hD hC hoC (Ne.symm hCD) hg hd hR h'' _ (F₂.change hs'' (Ne.symm hLC) hC0) (fun p hp => ⟨k _ _ (fun q => ?_) (N₂ p hp).1, (N₂ p hp).2⟩) fun b o hb hbC e => k b o hbC (hs₂.extBut b o hb e)
    have := (N p hp).1; rw [q, hC] at this; cases this
end
set_option maxRecDepth 100000
section
variable {prog : Program} {w : World} {A : Around} {E : Value → Shared → Prop} {s : Shared}
theorem sliceApplied_upto {sl : Addr} {n : Nat} {u : Tok} {Q : Int × Int × Nat → Shared → Prop} (hs : s.heap.IsSliceOf sl .none (.int 5 u) .none) (hn : n ≤ 5) (h : Q (0, 1, n) s) :
    wpAny (model prog w) A (Builtin.Slice.sliceApplied (.ref sl) (pure (n : Int))) Q E s := by
  obtain ⟨os, hos, hcs, hds⟩ := id hs
  unfold Builtin.Slice.sliceApplied Builtin.Slice.sliceFields
  refine wpAny_bind (wpAny_bind (wpAny_field hos hds (x := .none) rfl (wpAny_bind (wpAny_field hos hds (x := .int 5 u) rfl (wpAny_bind (wpAny_field hos hds (x := .none) rfl (wpAny_pure ?_)))))))
  refine wpAny_bind (slicePart_none ?_)
  show wpAny _ _ (if ((1 : Int) == 0) = true then _ else _) _ _ s
  rw [if_neg (by decide)]
  refine wpAny_bind (slicePart_none (wpAny_bind (slicePart_int (wpAny_bind (wpAny_pure ?_)))))
  have e1 : Builtin.Slice.sliceAdjust none (some 5) 1 (n : Int) = (0, (n : Int)) := by
    unfold Builtin.Slice.sliceAdjust
    have h1 : ¬ ((1 : Int) < 0) := by omega
    have h2 : ¬ ((5 : Int) < 0) := by omega
    simp only [h1, h2, if_false]
    congr 1
    omega
  have e2 : Builtin.Slice.slicePlaces 0 (n : Int) 1 = n := by
    unfold Builtin.Slice.slicePlaces
    have h1 : (1 : Int) > 0 := by omega
    simp only [h1, if_true, Int.ediv_one]
    split <;> omega
  show wpAny _ _ (match Builtin.Slice.sliceAdjust none (some 5) 1 (n : Int) with | (lo, hi) => pure (lo, (1 : Int), Builtin.Slice.slicePlaces lo hi 1)) _ _ s
  rw [e1]
  show wpAny _ _ (pure ((0 : Int), (1 : Int), Builtin.Slice.slicePlaces 0 (n : Int) 1)) _ _ s
  rw [e2]
  exact wpAny_pure h
theorem getItem_tuple_whole {t sl : Addr} {items : Array Value} {u : Tok} {Q : Value → Shared → Prop} (ht : IsTup s.heap t items) (hs : s.heap.IsSliceOf sl .none (.int 5 u) .none) (hn : items.size ≤ 5)
    (h : Q (.ref t) s) : wpAny (model prog w) A (getItem (.ref t) (.ref sl)) Q E s := by
  obtain ⟨os, hos, hcs, hds⟩ := id hs
  have hTs : s.TypeIs (.ref sl) "slice" := ⟨os, hos, hcs⟩
  unfold getItem
  try with_reducible refine wpAny_holding ?_
  first | refine wpAny_bind (wpAny_pure ?_) | skip
  refine wpAny_bind (wpAny_sequenceKey ht.typeIs (by decide) ?_)
  refine wpAny_bind (wpAny_callSpecial?_slot (name := Str.ofString "__getitem__") ht.typeIs slot_tuple_getitem
    (wpAny_call_entry slot_tuple_getitem ht.typeIs entry_tuple_getitem ?_ (args_tuple_getitem _ _)))
  show wpAny _ _ (Builtin.Tuple.tupleItemsOf (.ref t) >>= _) _ _ s
  refine wpAny_bind (tupleItemsOf_ ht ?_)
  refine wpAny_bind (wpAny_typeOf hTs ?_)
  rw [if_pos (by decide)]
  refine wpAny_bind (sliceApplied_upto hs hn ?_)
  show wpAny _ _ (if ((0 : Int) == 0 && (1 : Int) == 1 && items.size == items.size) = true then _ else _) _ _ s
  rw [if_pos (by simp)]
  refine wpAny_bind (m := Builtin.Tuple.tupleIsExact (.ref t)) ?_
  unfold Builtin.Tuple.tupleIsExact
  refine wpAny_bind (wpAny_typeOf ht.typeIs (wpAny_pure ?_))
  show wpAny _ _ (if (Value.type "tuple" == Value.type "tuple") = true then _ else _) _ _ s
  rw [if_pos (by decide)]
  refine wpAny_bind (wpAny_rule ?_)
  first
    | exact wpAny_bind (wpAny_pure (wpAny_pure ⟨_, rfl, wpAny_pure h⟩))
    | exact wpAny_bind (wpAny_pure ⟨_, rfl, wpAny_pure h⟩)
    | exact wpAny_pure ⟨_, rfl, wpAny_pure h⟩
    | exact wpAny_bind (wpAny_pure (wpAny_pure ⟨_, rfl, h⟩))
    | exact wpAny_pure ⟨_, rfl, h⟩
theorem tup_slice {value slice : PySem.Expr} {t : Addr} {items : Array Value} {u : Tok} {Q : Value → Shared → Prop} (ht : IsTup s.heap t items) (hn : items.size ≤ 5)
    (h : Q (.ref t) { s with heap := s.heap.push { cls := .type "slice", data := .fields #[.none, .int 5 u, .none] } })
    (hs : subscripted slice false (.ref t) (.ref s.heap.objs.size) = operate [.ref s.heap.objs.size, .ref t] (getItem (.ref t) (.ref s.heap.objs.size)))
    (hg : ∀ r, letTemporaryGo value (.ref t) r = pure ()) :
    wpAny (model prog w) A (subscriptTail value slice (.ref t) (.ref s.heap.objs.size)) Q E { s with heap := s.heap.push { cls := .type "slice", data := .fields #[.none, .int 5 u, .none] } } := by
  have ht' : IsTup (s.heap.push { cls := .type "slice", data := .fields #[.none, .int 5 u, .none] }) t items := ht.keeps fun _ _ e => Heap.get?_push_of_some _ e
  exact subscriptTail_ops (s := { s with heap := s.heap.push { cls := .type "slice", data := .fields #[.none, .int 5 u, .none] } }) ht'.typeIs slot_tuple_getitem.lookup
    (getItem_tuple_whole ht' (Heap.IsSliceOf.new ..) hn h) hs hg
theorem tup_sliceG {value slice : PySem.Expr} {t L : Addr} {items : Array Value} {u : Tok} {Q : Value → Shared → Prop} {h₀ : Heap} {m : Str → Option Value} {news : List (Addr × Obj)} (F : Fr h₀ L s.heap m) (N : News h₀ L s.heap news) (ht : IsTup s.heap t items) (hn : items.size ≤ 5)
    (h : ∀ h', Fr h₀ L h' m → News h₀ L h' news → Q (.ref t) { s with heap := h' })
    (hs : subscripted slice false (.ref t) (.ref s.heap.objs.size) = operate [.ref s.heap.objs.size, .ref t] (getItem (.ref t) (.ref s.heap.objs.size)))
    (hg : ∀ r, letTemporaryGo value (.ref t) r = pure ()) :
    wpAny (model prog w) A (subscriptTail value slice (.ref t) (.ref s.heap.objs.size)) Q E { s with heap := s.heap.push { cls := .type "slice", data := .fields #[.none, .int 5 u, .none] } } :=
  tup_slice ht hn (h _ (F.push _) (N.grown fun _ _ e => Heap.get?_push_of_some _ e)) hs hg
/-! (None,) * n -/
theorem noFill_tuple_mul : fillsNumberSlot (.type "tuple") "mul" = pure false :=
  PySem.fillsNumberSlot_seq (id := "tuple.__mul__") (r := some (.builtin "tuple.__rmul__")) F.slot_tuple_mul.lookup (by decide +kernel) F.slot_tuple_rmul.lookup (by decide +kernel)
theorem repeat_tuple : seqRepeat? (.type "tuple") = pure (some (.builtin "tuple.__mul__")) := by
  unfold seqRepeat?
  rw [PySem.seqSlot_of (T := "tuple") (name := "__mul__") (id := "tuple.__mul__") F.slot_tuple_mul.lookup (by decide +kernel), PySem.seqSlot_of (T := "tuple") (name := "__rmul__") (id := "tuple.__rmul__") F.slot_tuple_rmul.lookup (by decide +kernel)]
  rfl
theorem int_rmul_tuple (a : Int) (t : Tok) (l : Addr) (items : Array Value) (n : Nat) :
    Meets (Builtin.«int.__rmul__» ⟨[.int a t, .ref l], []⟩) (fun _ R s => s.heap.get? l = some { cls := .type "tuple", dict := none, data := .seq items n, slots := #[] } ∧ R (.ok (.ret Value.notImplemented)) s) :=
  .of_wp fun prog w A R s h => by obtain ⟨hp, g, d, tk, os⟩ := s; obtain ⟨hl, h⟩ := h; wp_walk; exact ⟨_, rfl, h⟩
theorem tuple_mul_run {t : Addr} {n : Nat} {u : Tok} {Q : Value → Shared → Prop} (ht : IsTup s.heap t #[.none]) (hn : n ≤ 5)
    (h : ∀ D h', Grow s.heap h' → IsTup h' D (List.replicate n Value.none).toArray → Q (.ref D) { s with heap := h' }) :
    wpAny (model prog w) A (call (.builtin "tuple.__mul__") [.ref t, .int n u]) Q E s := by
  refine wpAny_call_entry F.slot_tuple_mul ht.typeIs F.entry_tuple_mul ?_ (F.args_tuple_mul_2 _ _)
  show wpAny _ _ (asIndex (Value.int (n : Int) u) >>= _) _ _ s
  refine wpAny_bind (wpAny_of_eq (a := (n : Int)) rfl ?_)
  show wpAny _ _ (if (decide ((n : Int) < -(2 ^ 63)) || decide ((n : Int) ≥ 2 ^ 63)) = true then _ else _) _ _ s
  rw [if_neg (by simp; omega)]
  refine wpAny_bind (tupleItemsOf_ ht ?_)
  have made : ∀ (xs : Array Value), xs.size ≤ 5 → xs = (List.replicate n Value.none).toArray → wpAny (model prog w) A.in1 (Builtin.Tuple.tupleExact xs >>= fun v => ret v) (fun fin s' => ∃ v, fin = Fin.done (Flow.ret v) ∧ Q v s') E s := by
    intro xs hx e
    refine wpAny_bind (m := Builtin.Tuple.tupleExact _) (wpAny_newObj_type (wpAny_pure ⟨_, rfl, h _ _ (fun b o q => Heap.get?_push_of_some _ q) ⟨_, Heap.get?_push_size _ rfl, rfl, _, by rw [e]⟩⟩) ?_)
    show xs.size ≤ sizeLine
    rw [sizeLine_eq]; omega
  by_cases h1 : n = 1
  · subst h1
    show wpAny _ _ (Builtin.Tuple.tupleIsExact (.ref t) >>= _) _ _ s
    unfold Builtin.Tuple.tupleIsExact
    refine wpAny_bind (wpAny_bind (wpAny_typeOf ht.typeIs (wpAny_pure ?_)))
    show wpAny _ _ (rule "tuple.repeat.same-object" >>= _) _ _ s
    refine wpAny_bind (wpAny_rule (wpAny_pure ⟨_, rfl, h t s.heap (fun b o q => q) ht⟩))
  · show wpAny _ _ (if ((#[Value.none] : Array Value).isEmpty || (n : Int) == 1) = true then _ else _) _ _ s
    rw [if_neg (by simp; omega)]
    show wpAny _ _ (if (decide ((n : Int) ≤ 0) || (#[Value.none] : Array Value).isEmpty) = true then _ else _) _ _ s
    by_cases h0 : n = 0
    · subst h0
      rw [if_pos (by decide)]
      exact made _ (by decide) rfl
    · rw [if_neg (by simp; omega)]
      show wpAny _ _ (if ((#[Value.none] : Array Value).size : Int) * (n : Int) > (2 ^ 63 - 1) / 8 then _ else _) _ _ s
      rw [if_neg (by simp; omega)]
      show wpAny _ _ (if Builtin.Tuple.tupleTooMany (((#[Value.none] : Array Value).size : Int) * (n : Int)) = true then _ else _) _ _ s
      rw [if_neg (by unfold Builtin.Tuple.tupleTooMany; rw [sizeLine_eq]; simp; omega)]
      refine made _ ?_ ?_
      · have : n = 2 ∨ n = 3 ∨ n = 4 ∨ n = 5 := by omega
        rcases this with rfl | rfl | rfl | rfl <;> decide
      · have : n = 2 ∨ n = 3 ∨ n = 4 ∨ n = 5 := by omega
        rcases this with rfl | rfl | rfl | rfl <;> rfl
theorem tup_mul {t : Addr} {k n : Nat} {u : Tok} {Q : Value → Shared → Prop} (ht : s.heap.get? t = some { cls := .type "tuple", dict := none, data := .seq #[.none] k, slots := #[] }) (hn : n ≤ 5)
    (h : ∀ D h', Grow s.heap h' → IsTup h' D (List.replicate n Value.none).toArray → Q (.ref D) { s with heap := h' }) :
    wpAny (model prog w) A (binaryOp .Mult (.ref t) (.int n u)) Q E s :=
  wpAny_binaryOp_repeat_ref (T := "tuple") (U := "int") (by decide) ⟨_, ht, rfl⟩ (fun s' => typeIs_int s' n u) noFill_tuple_mul F.fills_int_mul F.slot_int_rmul repeat_tuple F.slot_int_index.lookup
    (call_meets F.slot_int_rmul (typeIs_int s n u) F.entry_int_rmul (F.args_int_rmul_2 _ _) (int_rmul_tuple n u t #[.none] k)
      ⟨ht, rfl, ⟨_, ht, rfl⟩, tuple_mul_run ⟨_, ht, rfl, _, rfl⟩ hn h⟩)
end
section
variable {prog : Program} {w : World} {A : Around} {E : Value → Shared → Prop} {s₁ : Shared} {env : Env} {elt : Expr} {ifs : List Expr} {scope : Scope} {cl : List (Str × Addr)} {Fin : Addr → Addr → List Value → Shared → Prop}
theorem fp_two {a b : Addr} (h : a < b) : ∀ c ∈ [b, a], c ≤ b := fun c hc => by
  rcases List.mem_cons.mp hc with rfl | hc
  · exact Nat.le_refl _
  · rw [List.mem_singleton.mp hc]; exact Nat.le_of_lt h
theorem ask_listN {x : Str} {px : Pos} {ax : Addr} {its : Array Value} (R : (Addr → Prop) → Nat → List Value → Heap → Prop) (hh : A.handled = none) (hl : s₁.heap.IsList ax its) (hsz : its.size ≤ sizeLine)
    (hR0 : ∀ off h, Grow s₁.heap h → R off 0 [] h) (hRk : ∀ (off : Addr → Prop) i ys h h', (∀ b o, ¬ off b → h.get? b = some o → h'.get? b = some o) → R off i ys h → R off i ys h')
    (turn : TurnAsk prog w A env (.Name x px) elt ifs scope cl s₁ its.size (fun i v => its[i]? = some v) R)
    (fin : ∀ D C ys h tk off, s₁.heap.get? D = none → s₁.heap.get? C = none → off C → D ≠ C → Grow s₁.heap h → h.get? D = some (lstO ys) → R off its.size ys h → Fin D C ys { s₁ with heap := h, toks := tk }) :
    CompAsk prog w A env (.Name x px) elt ifs scope cl Fin (.ref ax) s₁ := by
  have hlt : ax < s₁.heap.objs.size := by obtain ⟨_, e, _⟩ := hl; exact Heap.lt_size e
  refine ⟨its.size, _, _, _, R, hsz, Walks.list hh s₁.heap.objs.size ax (Nat.ne_of_lt hlt) its, fp_two hlt, fun Q' E' hq => wpAny_pyIter_list hl (hq _ ⟨⟨_, Heap.get?_push_size _ rfl, rfl, rfl⟩, hl.push _⟩ rfl), fun i s v Q E' _ _ hq => wpAny_of_eq (a := ()) rfl hq, hR0, hRk, turn, fin⟩
theorem ask_listT {es : List Expr} {k : Nat} {px : Pos} {ax : Addr} {its : Array Value} (R : (Addr → Prop) → Nat → List Value → Heap → Prop) (hh : A.handled = none) (hl : s₁.heap.IsList ax its) (hsz : its.size ≤ sizeLine)
    (hrefs : ∀ (i : Nat) (v : Value), its[i]? = some v → ∃ T, v = Value.ref T)
    (hR0 : ∀ off h, Grow s₁.heap h → R off 0 [] h) (hRk : ∀ (off : Addr → Prop) i ys h h', (∀ b o, ¬ off b → h.get? b = some o → h'.get? b = some o) → R off i ys h → R off i ys h')
    (turn : TurnAsk prog w A env (.Tuple es k px) elt ifs scope cl s₁ its.size (fun i v => its[i]? = some v) R)
    (fin : ∀ D C ys h tk off, s₁.heap.get? D = none → s₁.heap.get? C = none → off C → D ≠ C → Grow s₁.heap h → h.get? D = some (lstO ys) → R off its.size ys h → Fin D C ys { s₁ with heap := h, toks := tk }) :
    CompAsk prog w A env (.Tuple es k px) elt ifs scope cl Fin (.ref ax) s₁ := by
  have hlt : ax < s₁.heap.objs.size := by obtain ⟨_, e, _⟩ := hl; exact Heap.lt_size e
  refine ⟨its.size, _, _, _, R, hsz, Walks.list hh s₁.heap.objs.size ax (Nat.ne_of_lt hlt) its, fp_two hlt, fun Q' E' hq => wpAny_pyIter_list hl (hq _ ⟨⟨_, Heap.get?_push_size _ rfl, rfl, rfl⟩, hl.push _⟩ rfl), fun i s v Q E' hp hst hq => ?_, hR0, hRk, turn, fin⟩
  obtain ⟨T, rfl⟩ := hrefs i v hp
  exact wpAny_letOwnedTupleGo_listiter hst.1 hq
theorem ask_tupN {x : Str} {px : Pos} {ax : Addr} {its : Array Value} (R : (Addr → Prop) → Nat → List Value → Heap → Prop) (hh : A.handled = none) (hl : IsTup s₁.heap ax its) (hsz : its.size ≤ sizeLine)
    (hR0 : ∀ off h, Grow s₁.heap h → R off 0 [] h) (hRk : ∀ (off : Addr → Prop) i ys h h', (∀ b o, ¬ off b → h.get? b = some o → h'.get? b = some o) → R off i ys h → R off i ys h')
    (turn : TurnAsk prog w A env (.Name x px) elt ifs scope cl s₁ its.size (fun i v => its[i]? = some v) R)
    (fin : ∀ D C ys h tk off, s₁.heap.get? D = none → s₁.heap.get? C = none → off C → D ≠ C → Grow s₁.heap h → h.get? D = some (lstO ys) → R off its.size ys h → Fin D C ys { s₁ with heap := h, toks := tk }) :
    CompAsk prog w A env (.Name x px) elt ifs scope cl Fin (.ref ax) s₁ := by
  have hlt : ax < s₁.heap.objs.size := by obtain ⟨_, e, _⟩ := hl; exact Heap.lt_size e
  have hl' : s₁.heap.IsTuple ax its := hl
  refine ⟨its.size, _, _, _, R, hsz, Walks.tuple hh s₁.heap.objs.size ax (Nat.ne_of_lt hlt) its, fp_two hlt, fun Q' E' hq => wpAny_pyIter_tuple hl' (hq _ ⟨⟨_, Heap.get?_push_size _ rfl, rfl, rfl⟩, IsTup.keeps hl fun _ _ e => Heap.get?_push_of_some _ e⟩ rfl), fun i s v Q E' _ _ hq => wpAny_of_eq (a := ()) rfl hq, hR0, hRk, turn, fin⟩
theorem ask_strN {x : Str} {px : Pos} {z : Str} {tz : Tok} (R : (Addr → Prop) → Nat → List Value → Heap → Prop) (hh : A.handled = none) (ha : z.cps.all (· < 128) = true) (hsz : z.cps.size ≤ sizeLine)
    (hR0 : ∀ off h, Grow s₁.heap h → R off 0 [] h) (hRk : ∀ (off : Addr → Prop) i ys h h', (∀ b o, ¬ off b → h.get? b = some o → h'.get? b = some o) → R off i ys h → R off i ys h')
    (turn : TurnAsk prog w A env (.Name x px) elt ifs scope cl s₁ z.cps.size (SignAt z) R)
    (fin : ∀ D C ys h tk off, s₁.heap.get? D = none → s₁.heap.get? C = none → off C → D ≠ C → Grow s₁.heap h → h.get? D = some (lstO ys) → R off z.cps.size ys h → Fin D C ys { s₁ with heap := h, toks := tk }) :
    CompAsk prog w A env (.Name x px) elt ifs scope cl Fin (.str z tz) s₁ := by
  refine ⟨z.cps.size, _, _, _, R, hsz, Walks.strAscii hh s₁.heap.objs.size z tz, fun b hb => by rw [List.mem_singleton.mp hb]; exact Nat.le_refl _, fun Q' E' hq => wpAny_pyIter_ascii ha (hq _ ⟨_, Heap.get?_push_size _ rfl, rfl, rfl⟩ rfl), fun i s v Q E' _ _ hq => wpAny_of_eq (a := ()) rfl hq, hR0, hRk, turn, fin⟩
theorem ask_rangeN {x : Str} {px : Pos} {r : Addr} {n : Nat} {t u v : Tok} (R : (Addr → Prop) → Nat → List Value → Heap → Prop) (hh : A.handled = none) (hr : IsRange s₁.heap r 0 n 1 t u v) (hsz : n ≤ 1000)
    (hR0 : ∀ off h, Grow s₁.heap h → R off 0 [] h) (hRk : ∀ (off : Addr → Prop) i ys h h', (∀ b o, ¬ off b → h.get? b = some o → h'.get? b = some o) → R off i ys h → R off i ys h')
    (turn : TurnAsk prog w A env (.Name x px) elt ifs scope cl s₁ n (fun i v => ∃ t, v = .int (i : Int) t) R)
    (fin : ∀ D C ys h tk off, s₁.heap.get? D = none → s₁.heap.get? C = none → off C → D ≠ C → Grow s₁.heap h → h.get? D = some (lstO ys) → R off n ys h → Fin D C ys { s₁ with heap := h, toks := tk }) :
    CompAsk prog w A env (.Name x px) elt ifs scope cl Fin (.ref r) s₁ := by
  have W : Walks prog w A s₁.heap.objs.size [s₁.heap.objs.size] [s₁.heap.objs.size] n (fun i v => ∃ t, v = .int (i : Int) t) (fun i h => IsRangeIter h s₁.heap.objs.size (0 + (i : Nat) * 1) ((n : Int) - (i : Nat)) 1) := by
    have W0 := Walks.range (prog := prog) (w := w) hh s₁.heap.objs.size 0 1 n
    exact { sub := W0.sub, frame := W0.frame, done := W0.done, self := W0.self, item := fun i s Q E hi st hQ => W0.item i s Q E hi st fun v h' tk hP => hQ v h' tk (by obtain ⟨t, rfl⟩ := hP; exact ⟨t, by simp⟩) }
  have hsm : Builtin.Range.small 0 (n : Int) 1 = true := small_one (by omega) (by omega) (by omega) (by omega)
  have hrs : Builtin.Range.rangeSize 0 (n : Int) 1 = (n : Int) := by rw [rangeSize_one]; split <;> omega
  refine ⟨n, _, _, _, R, by rw [sizeLine_eq]; omega, W, fun b hb => by rw [List.mem_singleton.mp hb]; exact Nat.le_refl _, fun Q' E' hq => wpAny_pyIter_range hr hsm (hq _ (by show IsRangeIter _ _ _ _ _; rw [hrs]; simpa using Heap.get?_push_size _ rfl) rfl), fun i s v Q E' _ _ hq => wpAny_of_eq (a := ()) rfl hq, hR0, hRk, turn, fin⟩
end
def keepO : Option Str → Option Str
  | some x => if x.length = 0 then none else some x
  | none => none
def identF (sep : Str) (l t s v m : Option Str) : Str :=
  match keepO m with
  | some x => Str.empty ++ Txt.join sep ([l, s, t, v].filterMap keepO) ++ "@" ++ x
  | none => Txt.join sep ([l, s, t, v].filterMap keepO)
theorem OptsAre.at : ∀ {vs : List Value} {os : List (Option Str)}, OptsAre vs os → ∀ {i : Nat} {v : Value}, vs[i]? = some v → ∃ o, os[i]? = some o ∧ OptIs v o
  | _, _, .nil, i, v, e => by simp at e
  | _, _, .cons a _, 0, v, e => by simp at e; subst e; exact ⟨_, rfl, a⟩
  | _, _, .cons _ r, i + 1, v, e => by simpa using r.at (by simpa using e)
theorem OptsAre.len : ∀ {vs : List Value} {os : List (Option Str)}, OptsAre vs os → vs.length = os.length
  | _, _, .nil => rfl
  | _, _, .cons _ r => congrArg (· + 1) r.len
theorem OptsAre.app : ∀ {vs us : List Value} {os ps : List (Option Str)}, OptsAre vs os → OptsAre us ps → OptsAre (vs ++ us) (os ++ ps)
  | _, _, _, _, .nil, h => h
  | _, _, _, _, .cons a r, h => .cons a (r.app h)
theorem OptsAre.nones : ∀ n, OptsAre (List.replicate n Value.none) (List.replicate n none)
  | 0 => .nil
  | n + 1 => .cons .none (OptsAre.nones n)
theorem StrsAre.snoc' : ∀ {vs : List Value} {ws : List Str}, StrsAre vs ws → ∀ (x : Str) (t : Tok), StrsAre (vs ++ [.str x t]) (ws ++ [x])
  | _, _, .nil, x, t => .cons x t .nil
  | _, _, .cons y u h, x, t => .cons y u (StrsAre.snoc' h x t)
theorem five {us : List Value} {ps : List (Option Str)} (h : OptsAre us ps) (hl : ps.length = 5) :
    ∃ v1 v2 v3 v4 v5 o1 o2 o3 o4 o5, us = [v1, v2, v3, v4, v5] ∧ ps = [o1, o2, o3, o4, o5] ∧ OptIs v1 o1 ∧ OptIs v2 o2 ∧ OptIs v3 o3 ∧ OptIs v4 o4 ∧ OptIs v5 o5 := by
  cases h with
  | nil => simp at hl
  | cons a h => cases h with
    | nil => simp at hl
    | cons b h => cases h with
      | nil => simp at hl
      | cons c h => cases h with
        | nil => simp at hl
        | cons d h => cases h with
          | nil => simp at hl
          | cons e h => cases h with
            | nil => exact ⟨_, _, _, _, _, _, _, _, _, _, rfl, rfl, a, b, c, d, e⟩
            | cons f h => simp at hl
theorem sum_len {n : Nat} : ∀ {l : List Str}, (∀ x ∈ l, x.length ≤ n) → (l.map (·.length)).sum ≤ n * l.length
  | [], _ => by simp
  | x :: r, h => by
    have h1 := h x (.head _)
    have h2 := sum_len (l := r) fun y hy => h y (.tail _ hy)
    simp only [List.map_cons, List.sum_cons, List.length_cons, Nat.mul_add, Nat.mul_one]
    omega
theorem keepO_mem {x : Str} {os : List (Option Str)} (h : x ∈ os.filterMap keepO) : some x ∈ os := by
  obtain ⟨o, ho, e⟩ := List.mem_filterMap.mp h
  unfold keepO at e
  split at e
  · split at e
    · cases e
    · cases e; exact ho
  · cases e
theorem take_keep {os : List (Option Str)} {i : Nat} {o : Option Str} (e : os[i]? = some o) : (os.take (i + 1)).filterMap keepO = (os.take i).filterMap keepO ++ (keepO o).toList := by
  rw [List.take_succ, e, Option.toList_some, List.filterMap_append]
  cases h : keepO o <;> simp [h]
theorem getD_pad (os : List (Option Str)) (n k : Nat) : (os ++ List.replicate n none).getD k none = os.getD k none := by
  rw [List.getD_eq_getElem?_getD, List.getD_eq_getElem?_getD]
  by_cases h : k < os.length
  · rw [List.getElem?_append_left h]
  · rw [List.getElem?_append_right (Nat.le_of_not_lt h), List.getElem?_eq_none (Nat.le_of_not_lt h)]
    by_cases h2 : k - os.length < n
    · rw [List.getElem?_eq_getElem (by simpa using h2)]; simp
    · rw [List.getElem?_eq_none (by simp; omega)]
section
variable {prog : Program} {w : World} {A : Around} {E : Value → Shared → Prop} {s : Shared} {h₀ : Heap} {L T D : Addr} {m : Str → Option Value} {news : List (Addr × Obj)}
theorem tup_addG {vs us : List Value} {Q : Value → Shared → Prop} (F : Fr h₀ L s.heap m) (ht : IsTup s.heap T vs.toArray) (hd : IsTup s.heap D us.toArray) (hv : vs ≠ []) (hz : vs.length + us.length ≤ 1000)
    (h : ∀ D' h', Fr h₀ L h' m → IsTup h' D' (vs ++ us).toArray → Q (.ref D') { s with heap := h' }) : wpAny (model prog w) A (binaryOp .Add (.ref T) (.ref D)) Q E s := by
  by_cases hu : us = []
  · subst hu
    exact kde_addT1 F News.nil ht hd (by simpa using hv) rfl (by simp at hz ⊢; omega) (h T s.heap F (by simpa using ht))
  · exact kde_addT F News.nil ht hd (by simpa using hv) (by simpa using hu) (by simp; omega) rfl (fun D' h' F' N' _ => h D' h' F' (by simpa using News.isTup N' (.head _)))
end
section
variable {prog : Program} {w : World} {A : Around} {E : Value → Shared → Prop} {s : Shared} {scope : Scope} {cl : List (Str × Addr)} {C : Addr} {env : Env} {x : Str} {px : Pos} {m : Str → Option Value}
theorem comp_assign {v : Value} {Q : Unit → Shared → Prop} (hn : s.heap.Ns C m)
    (h : ∀ h', h'.Ns C (fun y => if y = x then some v else m y) → (∀ b o, b ≠ C → s.heap.get? b = some o → h'.get? b = some o) → Q () { s with heap := h', toks := s.toks + 1 })
    (hk : scope.kind = .function) (hx : (compEnvC scope cl C env).kindOf x = some .local) :
    wpAny (model prog w) A (assign (.Name x px) (compEnvC scope cl C env) v) Q E s :=
  wpAny_assign_Name (wpAny_storeName_local hx hn (fun h' hn' hs' => h h' hn' fun b o hb e => hs'.extBut b o hb e) (by simp [compEnvC, relabel, hk]))
theorem comp_name {v : Value} {Q : Value → Shared → Prop} (hn : s.heap.Ns C m) (hv : m x = some v) (h : Q v s)
    (hk : scope.kind = .function) (hx : (compEnvC scope cl C env).kindOf x = some .local) (hd : (x == ("__debug__" : Str)) = false) :
    wpAny (model prog w) A (eval (.Name x px) (compEnvC scope cl C env)) Q E s := wpAny_Name (wpAny_loadName_local (by simpa [compEnvC, relabel] using hk) hx hn hv h) hd
end
theorem B_len' : bootBuiltins "len" = some (.builtin "len") := by boot_fast
theorem B_VE' : bootBuiltins "ValueError" = some (.type "ValueError") := by boot_fast
theorem nsK' {w : World} : nsIn (hd.heap_39 w.params) mainGlobals "len" = some none := by kernel_rfl
theorem nsKV' {w : World} : nsIn (hd.heap_39 w.params) mainGlobals "ValueError" = some none := by kernel_rfl
theorem nsKT {w : World} : nsIn (hd.heap_39 w.params) mainGlobals "tuple" = some none := by kernel_rfl
theorem B_tuple : bootBuiltins "tuple" = some (.type "tuple") := by boot_fast
local macro_rules | `(tactic| walk_at "mw") => `(tactic| first
  | with_reducible refine wpAny_execs_nil ?_
  | with_reducible refine wpAny_If ?_
  | with_reducible refine wpAny_Return_some ?_
  | with_reducible refine isTrue_not ?_
  | with_reducible refine isTrue_and ?_
  | with_reducible refine isTrue_and_nil ?_
  | with_reducible refine isTrue_or ?_
  | with_reducible refine isTrue_or_nil ?_
  | ((with_reducible refine' wpAny_isTrue_Compare1 ?hh ?aa); (case aa => rfl))
  | ((with_reducible refine' isTrue_plain ?hh ?aa); (case aa => rfl))
  | ((with_reducible refine' wpAny_Assign_Name ?hh ?aa); (case aa => rfl))
  | ((with_reducible refine' Assign_Tuple ?hh ?aa ?bb); (case aa => rfl); (case bb => rfl))
  | ((with_reducible refine' wpAny_Assign_three ?hh ?aa ?bb); (case aa => rfl); (case bb => rfl))
  | with_reducible refine Subscript_ ?_
  | ((with_reducible refine' MethodCall_ ?hh ?aa); (case aa => rfl))
  | ((with_reducible refine' Call_ ?hh ?aa); (case aa => rfl))
  | with_reducible refine Calls.Constant_str ?_
  | with_reducible refine wpAny_Constant_int ?_
  | with_reducible refine wpAny_Constant_none ?_
  | with_reducible refine wpAny_truthy_bool ?_
  | with_reducible refine Tuple_ ?_
  | ((with_reducible refine' args_cons ?hh ?aa); (case aa => rfl))
  | with_reducible refine args_nil ?_
  | with_reducible refine callWith_method0 ?_
  | ((with_reducible refine' callWith_method1 ?hh ?aa ?bb); (case aa => rfl); (case bb => rfl))
  | ((with_reducible refine' PyProof.Rows.callWith_builtin1 ?hh ?aa ?bb); (case aa => rfl); (case bb => rfl))
  | ((with_reducible refine' PyProof.Rows.callWith_type1 ?hh ?aa ?bb); (case aa => rfl); (case bb => rfl))
  | with_reducible refine PyProof.Rows.assign_Name ?_
  | with_reducible refine bindName_ ?_
  | ((with_reducible show wpAny _ _ (assignInOrder _ _) _ _ _); first | refine assignInOrder_nil ?_ | refine assignInOrder_cons ?_)
  | with_reducible refine GM.partition ?_
  | with_reducible refine GM.split ?_
  | with_reducible refine GM.join ?_
  | with_reducible refine GM.lower ?_
  | with_reducible refine GM.upper ?_
  | with_reducible refine GM.title ?_
  | with_reducible refine GM.isalpha ?_
  | with_reducible refine GM.isdigit ?_
  | with_reducible refine in_str ?_
  | with_reducible refine SC.isalpha ?_
  | with_reducible refine SC.isdigit ?_
  | with_reducible refine eq_int ?_
  | with_reducible refine PyProof.Rows.ge_int ?_
  | ((with_reducible refine' ld ‹Fr _ _ _ _› ?vv ?hh ?aa ?bb ?cc); (case aa => rfl); (case bb => rfl); (case cc => rfl); (case vv => rfl))
  | ((with_reducible refine' name_B ‹Fr _ _ _ _› ‹Frag.In _ _› ‹TopRead _ _ _ _ _› nsK' B_len' ?nn ?hh ?aa ?bb ?cc); (case nn => decide); (case aa => rfl); (case bb => rfl); (case cc => rfl))
  | ((with_reducible refine' name_B ‹Fr _ _ _ _› ‹Frag.In _ _› ‹TopRead _ _ _ _ _› nsKV' B_VE' ?nn ?hh ?aa ?bb ?cc); (case nn => decide); (case aa => rfl); (case bb => rfl); (case cc => rfl))
  | with_reducible refine wpAny_Slice ?_
  | with_reducible refine evalPart_none_step ?_
  | with_reducible refine evalPart_some_step ?_
  | with_reducible refine wpAny_BinOp ?_
  | ((with_reducible refine' name_B ‹Fr _ _ _ _› ‹Frag.In _ _› ‹TopRead _ _ _ _ _› nsKT B_tuple ?nn ?hh ?aa ?bb ?cc); (case nn => decide); (case aa => rfl); (case bb => rfl); (case cc => rfl))
  | ((with_reducible show wpAny _ _ (subscriptTail _ _ (Value.ref _) (Value.ref _)) _ _ _); refine' tup_sliceG (s := ⟨_, _, _, _, _⟩) ‹Fr _ _ _ _› ‹News _ _ _ _› (IsTup.keeps ‹IsTup _ _ _› (Fr.keep ‹Fr _ _ _ _›)) ?nn ?_ ?ss ?tt; (case nn => assumption); (case ss => with_unfolding_all rfl); (case tt => intro _; rfl); intro h' F' N')
  | ((with_reducible show wpAny _ _ (call (Value.type "tuple") [Value.ref _]) _ _ _); refine call_tuple_tup (IsTup.keeps ‹IsTup _ _ _› (Fr.keep ‹Fr _ _ _ _›)) ?_)
  | with_reducible refine JoinedStr_many ?_
  | with_reducible refine joinParts_consE ?_
  | with_reducible refine joinParts_nilE ?_
  | with_reducible refine joinParts_cons ?_
  | ((with_reducible refine' joinParts_nil ?hh ?zz); (case zz => (rw [sizeLine_eq]; simp only [Str.length_append]; omega)))
  | with_reducible refine wpAny_FormattedValue_repr ?_
  | with_reducible refine FormattedValue_plain ?_
  | with_reducible refine IfExp_ ?_
  | ((with_reducible refine' pyReprObj_str ?hh ?zz); (case zz => (rw [sizeLine_eq]; omega)))
  | ((with_reducible refine' formatField_str ?hh ?zz); (case zz => (rw [sizeLine_eq]; omega)); intro tt kk)
  | ((with_reducible show _ ≤ sizeLine ∧ wpAny _ _ _ _ _ _); refine ⟨?zz, ?_⟩; (case zz => (rw [sizeLine_eq]; simp only [Str.length_append]; omega)))
  | ((with_reducible show wpAny _ _ (call (Value.builtin "str.split") [_, _]) _ _ _); refine' split1 ‹Fr _ _ _ _› ‹News _ _ _ _› ?yy ?zz ?hh; (case yy => first | rfl | assumption); (case zz => rw [sizeLine_eq]; omega); intro D vs h' k' S' B' F' N' l')
  | ((with_reducible show wpAny _ _ (call (Value.builtin "str.split") _) _ _ _); refine' split2 ‹Fr _ _ _ _› ‹News _ _ _ _› ?yy ?kk ?zz ?hh; (case yy => first | rfl | assumption); (case kk => decide); (case zz => rw [sizeLine_eq]; omega); intro D vs h' k' S' B' F' N' l')
  | ((with_reducible refine' SCL.lower ?ll ?_); (case ll => omega); intro l')
  | ((with_reducible refine' SCL.upper ?ll ?_); (case ll => omega); intro l')
  | ((with_reducible refine' SCL.title ?ll ?_); (case ll => omega); intro l')
  | ((with_reducible show wpAny _ _ (getMethod (Value.ref _) (Str.ofString "pop") _) _ _ _); refine kl_method ‹News _ _ _ _› (List.Mem.head _) PySem.F.slot_list_pop PySem.F.type_list_pop ?_)
  | ((with_reducible show wpAny _ _ (call (Value.builtin "list.pop") [_, _]) _ _ _); refine' pop0 ‹Fr _ _ _ _› ‹News _ _ _ _› ?ll ?_; (case ll => omega); intro h' F' N')
  | ((with_reducible show wpAny _ _ (subscriptTail _ _ (Value.ref _) (Value.int 0 _)) _ _ _); refine' item_litK (News.isList ‹News _ _ _ _› (List.Mem.head _)) (by decide) (by decide) ?ii ?_ ?ss; (case ss => with_unfolding_all rfl); (case ii => rfl))
  | ((with_reducible show wpAny _ _ (subscriptTail _ _ (Value.str _ _) (Value.int 0 _)) _ _ _); refine' item_str ?ff ?ii ?jj ?_ ?ss ?tt; (case ff => decide); (case ii => omega); (case jj => omega); (case ss => with_unfolding_all rfl); (case tt => intro _; rfl); intro l')
  | ((with_reducible show wpAny _ _ (truthy (Value.ref _)) _ _ _); first | refine truthyN ‹News _ _ _ _› ?_ | (refine' truthyC ‹News _ _ _ _› ?zz ?_; (case zz => omega)))
  | ((with_reducible refine' newTuple_N ‹Fr _ _ _ _› ‹News _ _ _ _› ?hh ?zz); (case zz => (rw [sizeLine_eq]; simp only [List.length_cons, List.length_nil]; omega)); intro h' F' N')
  | ((with_reducible refine' stN ‹Fr _ _ _ _› ‹News _ _ _ _› ?hh ?aa ?bb); (case aa => rfl); (case bb => rfl); intro h' F' N')
  | ((with_reducible refine' SBL.truthy ?ll ?_); (case ll => omega))
  | ((with_reducible refine' SBL.len ?ll ?_); (case ll => omega))
  | ((with_reducible show wpAny _ _ (call (Value.builtin "str.partition") _) _ _ _); refine' partitionN ‹Fr _ _ _ _› ‹News _ _ _ _› ?yy ?hh ?zz; (case yy => rfl); (case zz => rw [sizeLine_eq]; omega); intro ta tb tc h' k' F' N')
  | ((with_reducible refine' Raise_new ?ha ?_); (case ha => assumption))
  | ((with_reducible show wpAny _ _ (call (Value.type "ValueError") _) _ _ _); refine call_exc_raise excClass_ValueError ?_; intro hx e hX)
  | ((with_reducible show wpAny _ _ (assign (Expr.Tuple _ _ _) _ (Value.ref _)) _ _ _); refine' unpackN_ ‹Fr _ _ _ _› ‹News _ _ _ _› (News.isTup ‹News _ _ _ _› (List.Mem.head _)) ?ha ?ll ?ff ?hh; (case ha => assumption); (case ll => rfl); (case ff => rfl); intro h' F' N')
  | fail "no step"
  )
local macro_rules | `(tactic| walk_at "mwF") => `(tactic| (refine' ifF ?cc ?_; (case cc => first | assumption | decide | simp)))
local macro_rules | `(tactic| walk_at "mwT") => `(tactic| (refine' ifT ?cc ?_; (case cc => first | assumption | decide | simp)))
local macro_rules | `(tactic| walk_at "mwR") => `(tactic| repeat' (first | (walk_at "mw"; try dsimp only [List.cons_append, List.nil_append]) | (refine' ifT ?cc ?_; (case cc => with_reducible rfl)) | (refine' ifF ?cc ?_; (case cc => (intro h; exact Bool.noConfusion h))) | fail "no step"))
set_option maxRecDepth 100000 in
set_option maxHeartbeats 4000000 in
theorem ident_spec {w : World} {A : Around} {s : Shared} {E : Value → Shared → Prop} {Q : Value → Shared → Prop} {sep : Str} {T : Addr} {vs : List Value} {os : List (Option Str)} {u : Tok} (X : Tops w s.heap)
    (hroom : A.depth < recursionLimit) (hh : A.handled = none) (hT : s.heap.get? T = some (tupO vs)) (ho : OptsAre vs os) (h1 : 1 ≤ os.length) (h5 : os.length ≤ 5) (hsp : sep.length = 1)
    (hlen : ∀ x, some x ∈ os → x.length ≤ 5000)
    (hret : ∀ h' t k, Grow s.heap h' → Q (.str (identF sep (os.getD 0 none) (os.getD 1 none) (os.getD 2 none) (os.getD 3 none) (os.getD 4 none)) t) { s with heap := h', toks := k }) :
    wpAny (model P0 w) A (call (.ref 28) [.ref T, .str sep u]) Q E s := by
  refine wpAny_call ?_
  refine enter (f := 28) (binds := [("tup", .ref T), ("sep", .str sep u)]) X hroom (by rfl) (by rfl) (by rfl) (kp_binds X.K fun S => by rfl) (by rfl) ?_ (by decide) (by rfl) (by rfl) (by rfl)
  intro h₁ F
  have XK := X.K
  obtain ⟨mg, mb, XT⟩ := X.T
  have N : News s.heap s.heap.objs.size h₁ [] := News.nil
  suffices H : ∀ (Qf : Flow → Shared → Prop) (Ef : Value → Shared → Prop),
      (∀ h' t k, Grow s.heap h' → Qf (.ret (.str (identF sep (os.getD 0 none) (os.getD 1 none) (os.getD 2 none) (os.getD 3 none) (os.getD 4 none)) t)) { s with heap := h', toks := k }) →
      wpAny (model P0 w) _ (execs _ _) Qf Ef _ by
    exact H _ _ hret
  intro Qf Ef hQ
  have hTI : IsTup s.heap T vs.toArray := ⟨_, hT, rfl, _, rfl⟩
  have hv5 : vs.toArray.size ≤ 5 := by rw [List.size_toArray, ho.len]; exact h5
  -- tup = tuple(tup[:5])
  refine wpAny_execs_cons ?_
  walk_at "mwR"
  -- lang, territory, script, variant, modifier = tup + (None,) * (5 - len(tup))
  refine wpAny_execs_cons ?_
  walk_at "mwR"
  refine len_tuple (IsTup.keeps hTI (Fr.keep ‹Fr _ _ _ _›)) (by omega) ?_
  refine PyProof.Rows.sub_int ?_
  have e5 : (5 : Int) - (vs.toArray.size : Int) = ((5 - os.length : Nat) : Int) := by rw [List.size_toArray, ho.len]; omega
  rw [e5]
  refine tup_mul (News.get ‹News _ _ _ _› (.head _)) (by omega) ?_
  intro D h' hg hD
  have F' := Fr.keeps ‹Fr _ _ _ _› hg
  dsimp only
  refine tup_addG F' (IsTup.keeps hTI (Fr.keep F')) hD ?_ ?_ ?_
  · intro q; rw [q] at ho; have := ho.len; simp at this; omega
  · have := ho.len; simp; omega
  intro D' h' F' hD'
  have N' : News s.heap s.heap.objs.size h' [] := News.nil
  obtain ⟨v1, v2, v3, v4, v5, o1, o2, o3, o4, o5, eu, ep, a1, a2, a3, a4, a5⟩ := five (ho.app (OptsAre.nones (5 - os.length))) (by simp; omega)
  rw [eu] at hD'
  have hl5 : ∀ x, some x ∈ [o1, o2, o3, o4, o5] → x.length ≤ 5000 := fun x hx => by
    rw [← ep] at hx
    rcases List.mem_append.mp hx with q | q
    · exact hlen x q
    · have := List.eq_of_mem_replicate q; cases this
  dsimp only
  refine unpackN_ F' N' hD' (by exact hh) (by rfl) (by rfl) ?_
  intro h' F' N'
  walk_at "mwR"
  -- ret = sep.join([part for part in (lang, script, territory, variant) if part])
  refine wpAny_execs_cons ?_
  walk_at "mwR"
  refine comp_E (cl := []) (by with_unfolding_all rfl) (by decide) (by rfl) (by decide) ?_ (by intro _; rfl)
  walk_at "mwR"
  have oo : OptsAre [v1, v3, v2, v4] [o1, o3, o2, o4] := .cons a1 (.cons a3 (.cons a2 (.cons a4 .nil)))
  refine ask_tupN (fun _ i ys _ => StrsAre ys (([o1, o3, o2, o4].take i).filterMap keepO)) (by exact hh) (News.isTup ‹News _ _ _ _› (.head _)) (by rw [sizeLine_eq]; simp) (fun _ _ _ => .nil) (fun _ _ _ _ _ _ x => x) ?_ ?_
  · intro i v ys h tk C off E' hi hv hoC _ _ hg hnn hR
    obtain ⟨m, hn⟩ := hnn
    obtain ⟨o, eo, ov⟩ := oo.at (by simpa using hv)
    refine comp_assign hn (fun h' hn' hk => ?_) (by rfl) (by rfl)
    refine wpAny_tests_one ?_
    refine isTrue_plain (comp_name hn' (if_pos rfl) ?_ (by rfl) (by rfl) (by decide)) (by rfl)
    dsimp only
    have hk' := take_keep eo
    cases ov with
    | none =>
      refine truthy_none ?_
      refine ifF (by decide) ?_
      refine ⟨h', _, rfl, hk, ⟨_, hn'⟩, ?_⟩
      rw [hk']
      simpa [keepO] using hR
    | some x t =>
      have hx : x.length ≤ 5000 := hl5 x (by have := List.mem_of_getElem? eo; simp at this ⊢; rcases this with h | h | h | h <;> simp [h])
      refine SBL.truthy (by omega) ?_
      by_cases h0 : x.length = 0
      · refine ifF (by simp [h0]) ?_
        refine ⟨h', _, rfl, hk, ⟨_, hn'⟩, ?_⟩
        rw [hk']
        simpa [keepO, h0] using hR
      · refine ifT (by simp; omega) ?_
        refine comp_name hn' (if_pos rfl) ?_ (by rfl) (by rfl) (by decide)
        refine ⟨h', _, rfl, hk, ⟨_, hn'⟩, ?_⟩
        rw [hk']
        simpa [keepO, h0] using StrsAre.snoc' hR x t
  intro D C ys h tk off hD hC _ _ hg hd hR
  dsimp only
  have F' := Fr.keeps ‹Fr _ _ _ _› hg
  have N' : News s.heap s.heap.objs.size h [] := News.nil
  have hR' : StrsAre ys ([o1, o3, o2, o4].filterMap keepO) := by simpa using hR
  have hsum : (([o1, o3, o2, o4].filterMap keepO).map (·.length)).sum + ([o1, o3, o2, o4].filterMap keepO).length ≤ 30000 := by
    have h1 := sum_len (n := 5000) (l := [o1, o3, o2, o4].filterMap keepO) fun x hx => hl5 x (by have := keepO_mem hx; simp at this ⊢; rcases this with h | h | h | h <;> simp [h])
    have h2 : ([o1, o3, o2, o4].filterMap keepO).length ≤ 4 := List.length_filterMap_le _ _
    omega
  walk_at "mwR"
  refine join_listW (items := ys.toArray) ⟨_, hd, rfl, _, rfl⟩ (by simpa using hR') (by omega) (by omega) ?_
  intro t' k'
  walk_at "mwR"
  -- return
  have hjl : (Txt.join sep ([o1, o3, o2, o4].filterMap keepO)).length ≤ 40000 := by
    show (Builtin.Str.glued sep _).length ≤ _
    rw [size_glued, hsp]
    omega
  have eF : identF sep (os.getD 0 none) (os.getD 1 none) (os.getD 2 none) (os.getD 3 none) (os.getD 4 none) = identF sep o1 o2 o3 o4 o5 := by
    rw [← getD_pad os (5 - os.length) 0, ← getD_pad os (5 - os.length) 1, ← getD_pad os (5 - os.length) 2, ← getD_pad os (5 - os.length) 3, ← getD_pad os (5 - os.length) 4, ep]
    rfl
  rw [eF] at hQ
  clear eF hR hR' hd
  refine wpAny_execs_cons ?_
  cases a5 with
  | none =>
    walk_at "mwR"
    refine truthy_none ?_
    walk_at "mwR"
    have eI : identF sep o1 o2 o3 o4 none = Txt.join sep ([o1, o3, o2, o4].filterMap keepO) := rfl
    rw [eI] at hQ
    exact hQ _ _ _ (Fr.keep ‹Fr _ _ _ _›)
  | some x t =>
    have hx : x.length ≤ 5000 := hl5 x (by simp)
    have hL1 : (Str.ofString "@").length = 1 := by decide +kernel
    have hL3 : Str.empty.length = 0 := rfl
    walk_at "mwR"
    by_cases h0 : x.length = 0
    · refine ifF (by simp [h0]) ?_
      walk_at "mwR"
      have eI : identF sep o1 o2 o3 o4 (some x) = Txt.join sep ([o1, o3, o2, o4].filterMap keepO) := by simp [identF, keepO, h0]
      rw [eI] at hQ
      exact hQ _ _ _ (Fr.keep ‹Fr _ _ _ _›)
    · refine ifT (by simp; omega) ?_
      walk_at "mwR"
      have eI : identF sep o1 o2 o3 o4 (some x) = Str.empty ++ Txt.join sep ([o1, o3, o2, o4].filterMap keepO) ++ "@" ++ x := by simp [identF, keepO, h0]
      rw [eI] at hQ
      exact hQ _ _ _ (Fr.keep ‹Fr _ _ _ _›)
def shapesL : List (Str × Str) := [("LL", "t"), ("LLLL", "s"), ("DDD", "t"), ("DLDL", "v"), ("LLDLL", "v"), ("LLLLLLLL", "v"), ("L", "x"), ("LLL", "x"), ("DD", "x"), ("LLLD", "x"), ("DLLLL", "x"), ("", "x"), ("LDDLLD", "v"), ("LLLLLLLLLLL", "v")]
inductive Pairs (h : Heap) : List Value → List (Str × Str) → Prop
  | nil : Pairs h [] []
  | cons {T : Addr} {x y : Str} {t u : Tok} {vs : List Value} {ps : List (Str × Str)} : h.get? T = some (tupO [.str x t, .str y u]) → Pairs h vs ps → Pairs h (.ref T :: vs) ((x, y) :: ps)
theorem Pairs.at {h : Heap} : ∀ {vs : List Value} {ps : List (Str × Str)}, Pairs h vs ps → ∀ {i : Nat}, i < ps.length → ∃ T t u, vs[i]? = some (.ref T) ∧ ∃ x y, ps[i]? = some (x, y) ∧ h.get? T = some (tupO [.str x t, .str y u])
  | _, _, .nil, i, e => absurd e (Nat.not_lt_zero _)
  | _, _, .cons a _, 0, _ => ⟨_, _, _, rfl, _, _, rfl, a⟩
  | _, _, .cons _ r, i + 1, e => by simpa using r.at (i := i) (by simpa using e)
theorem Pairs.len {h : Heap} : ∀ {vs : List Value} {ps : List (Str × Str)}, Pairs h vs ps → vs.length = ps.length
  | _, _, .nil => rfl
  | _, _, .cons _ r => congrArg (· + 1) r.len
local macro_rules | `(tactic| walk_at "mx") => `(tactic| first
  | with_reducible refine wpAny_execs_nil ?_
  | with_reducible refine wpAny_If ?_
  | with_reducible refine wpAny_Return_some ?_
  | with_reducible refine isTrue_not ?_
  | with_reducible refine isTrue_and ?_
  | with_reducible refine isTrue_and_nil ?_
  | with_reducible refine isTrue_or ?_
  | with_reducible refine isTrue_or_nil ?_
  | ((with_reducible refine' wpAny_isTrue_Compare1 ?hh ?aa); (case aa => rfl))
  | ((with_reducible refine' isTrue_plain ?hh ?aa); (case aa => rfl))
  | ((with_reducible refine' wpAny_Assign_Name ?hh ?aa); (case aa => rfl))
  | ((with_reducible refine' Assign_Tuple ?hh ?aa ?bb); (case aa => rfl); (case bb => rfl))
  | ((with_reducible refine' wpAny_Assign_three ?hh ?aa ?bb); (case aa => rfl); (case bb => rfl))
  | with_reducible refine Subscript_ ?_
  | ((with_reducible refine' MethodCall_ ?hh ?aa); (case aa => rfl))
  | ((with_reducible refine' Call_ ?hh ?aa); (case aa => rfl))
  | with_reducible refine Calls.Constant_str ?_
  | with_reducible refine wpAny_Constant_int ?_
  | with_reducible refine wpAny_Constant_none ?_
  | with_reducible refine wpAny_truthy_bool ?_
  | with_reducible refine Tuple_ ?_
  | ((with_reducible refine' args_cons ?hh ?aa); (case aa => rfl))
  | with_reducible refine args_nil ?_
  | with_reducible refine callWith_method0 ?_
  | ((with_reducible refine' callWith_method1 ?hh ?aa ?bb); (case aa => rfl); (case bb => rfl))
  | ((with_reducible refine' PyProof.Rows.callWith_builtin1 ?hh ?aa ?bb); (case aa => rfl); (case bb => rfl))
  | ((with_reducible refine' PyProof.Rows.callWith_type1 ?hh ?aa ?bb); (case aa => rfl); (case bb => rfl))
  | with_reducible refine PyProof.Rows.assign_Name ?_
  | with_reducible refine bindName_ ?_
  | ((with_reducible show wpAny _ _ (assignInOrder _ _) _ _ _); first | refine assignInOrder_nil ?_ | refine assignInOrder_cons ?_)
  | with_reducible refine GM.partition ?_
  | with_reducible refine GM.split ?_
  | with_reducible refine GM.join ?_
  | with_reducible refine GM.lower ?_
  | with_reducible refine GM.upper ?_
  | with_reducible refine GM.title ?_
  | with_reducible refine GM.isalpha ?_
  | with_reducible refine GM.isdigit ?_
  | with_reducible refine in_str ?_
  | with_reducible refine SC.isalpha ?_
  | with_reducible refine SC.isdigit ?_
  | with_reducible refine eq_int ?_
  | with_reducible refine PyProof.Rows.ge_int ?_
  | ((with_reducible refine' ld ‹Fr _ _ _ _› ?vv ?hh ?aa ?bb ?cc); (case aa => rfl); (case bb => rfl); (case cc => rfl); (case vv => rfl))
  | ((with_reducible refine' name_B ‹Fr _ _ _ _› ‹Frag.In _ _› ‹TopRead _ _ _ _ _› nsK' B_len' ?nn ?hh ?aa ?bb ?cc); (case nn => decide); (case aa => rfl); (case bb => rfl); (case cc => rfl))
  | ((with_reducible refine' name_B ‹Fr _ _ _ _› ‹Frag.In _ _› ‹TopRead _ _ _ _ _› nsKV' B_VE' ?nn ?hh ?aa ?bb ?cc); (case nn => decide); (case aa => rfl); (case bb => rfl); (case cc => rfl))
  | with_reducible refine wpAny_Slice ?_
  | with_reducible refine evalPart_none_step ?_
  | with_reducible refine evalPart_some_step ?_
  | with_reducible refine wpAny_BinOp ?_
  | ((with_reducible refine' name_B ‹Fr _ _ _ _› ‹Frag.In _ _› ‹TopRead _ _ _ _ _› nsKT B_tuple ?nn ?hh ?aa ?bb ?cc); (case nn => decide); (case aa => rfl); (case bb => rfl); (case cc => rfl))
  | ((with_reducible show wpAny _ _ (subscriptTail _ _ (Value.ref _) (Value.ref _)) _ _ _); refine' tup_sliceG (s := ⟨_, _, _, _, _⟩) ‹Fr _ _ _ _› ‹News _ _ _ _› (IsTup.keeps ‹IsTup _ _ _› (Fr.keep ‹Fr _ _ _ _›)) ?nn ?_ ?ss ?tt; (case nn => assumption); (case ss => with_unfolding_all rfl); (case tt => intro _; rfl); intro h' F' N')
  | ((with_reducible show wpAny _ _ (call (Value.type "tuple") [Value.ref _]) _ _ _); refine call_tuple_tup (IsTup.keeps ‹IsTup _ _ _› (Fr.keep ‹Fr _ _ _ _›)) ?_)
  | with_reducible refine JoinedStr_many ?_
  | with_reducible refine joinParts_consE ?_
  | with_reducible refine joinParts_nilE ?_
  | with_reducible refine joinParts_cons ?_
  | ((with_reducible refine' joinParts_nil ?hh ?zz); (case zz => (rw [sizeLine_eq]; simp only [Str.length_append]; omega)))
  | with_reducible refine wpAny_FormattedValue_repr ?_
  | with_reducible refine FormattedValue_plain ?_
  | with_reducible refine IfExp_ ?_
  | ((with_reducible refine' pyReprObj_str ?hh ?zz); (case zz => (rw [sizeLine_eq]; omega)))
  | ((with_reducible refine' formatField_str ?hh ?zz); (case zz => (rw [sizeLine_eq]; omega)); intro tt kk)
  | ((with_reducible show _ ≤ sizeLine ∧ wpAny _ _ _ _ _ _); refine ⟨?zz, ?_⟩; (case zz => (rw [sizeLine_eq]; simp only [Str.length_append]; omega)))
  | ((with_reducible show wpAny _ _ (call (Value.builtin "str.split") [_, _]) _ _ _); refine' split1 ‹Fr _ _ _ _› ‹News _ _ _ _› ?yy ?zz ?hh; (case yy => first | rfl | assumption); (case zz => rw [sizeLine_eq]; omega); intro D vs h' k' S' B' F' N' l')
  | ((with_reducible show wpAny _ _ (call (Value.builtin "str.split") _) _ _ _); refine' split2 ‹Fr _ _ _ _› ‹News _ _ _ _› ?yy ?kk ?zz ?hh; (case yy => first | rfl | assumption); (case kk => decide); (case zz => rw [sizeLine_eq]; omega); intro D vs h' k' S' B' F' N' l')
  | ((with_reducible refine' SCL.lower ?ll ?_); (case ll => omega); intro l')
  | ((with_reducible refine' SCL.upper ?ll ?_); (case ll => omega); intro l')
  | ((with_reducible refine' SCL.title ?ll ?_); (case ll => omega); intro l')
  | ((with_reducible show wpAny _ _ (getMethod (Value.ref _) (Str.ofString "pop") _) _ _ _); refine kl_method ‹News _ _ _ _› (List.Mem.head _) PySem.F.slot_list_pop PySem.F.type_list_pop ?_)
  | ((with_reducible show wpAny _ _ (call (Value.builtin "list.pop") [_, _]) _ _ _); refine' pop0 ‹Fr _ _ _ _› ‹News _ _ _ _› ?ll ?_; (case ll => omega); intro h' F' N')
  | ((with_reducible show wpAny _ _ (subscriptTail _ _ (Value.ref _) (Value.int 0 _)) _ _ _); refine' item_litK (News.isList ‹News _ _ _ _› (List.Mem.head _)) (by decide) (by decide) ?ii ?_ ?ss; (case ss => with_unfolding_all rfl); (case ii => rfl))
  | ((with_reducible show wpAny _ _ (subscriptTail _ _ (Value.str _ _) (Value.int 0 _)) _ _ _); refine' item_str ?ff ?ii ?jj ?_ ?ss ?tt; (case ff => decide); (case ii => omega); (case jj => omega); (case ss => with_unfolding_all rfl); (case tt => intro _; rfl); intro l')
  | ((with_reducible show wpAny _ _ (truthy (Value.ref _)) _ _ _); first | refine truthyN ‹News _ _ _ _› ?_ | (refine' truthyC ‹News _ _ _ _› ?zz ?_; (case zz => omega)))
  | ((with_reducible refine' newTuple_N ‹Fr _ _ _ _› ‹News _ _ _ _› ?hh ?zz); (case zz => (rw [sizeLine_eq]; simp only [List.length_cons, List.length_nil]; omega)); intro h' F' N')
  | ((with_reducible refine' stN ‹Fr _ _ _ _› ‹News _ _ _ _› ?hh ?aa ?bb); (case aa => rfl); (case bb => rfl); intro h' F' N')
  | ((with_reducible refine' SBL.truthy ?ll ?_); (case ll => omega))
  | ((with_reducible refine' SBL.len ?ll ?_); (case ll => omega))
  | ((with_reducible show wpAny _ _ (call (Value.builtin "str.partition") _) _ _ _); refine' partitionN ‹Fr _ _ _ _› ‹News _ _ _ _› ?yy ?hh ?zz; (case yy => rfl); (case zz => rw [sizeLine_eq]; omega); intro ta tb tc h' k' F' N')
  | ((with_reducible refine' Raise_new ?ha ?_); (case ha => assumption))
  | ((with_reducible show wpAny _ _ (call (Value.type "ValueError") _) _ _ _); refine call_exc_raise excClass_ValueError ?_; intro hx e hX)
  | ((with_reducible show wpAny _ _ (assign (Expr.Tuple _ _ _) _ (Value.ref _)) _ _ _); refine' unpackN_ ‹Fr _ _ _ _› ‹News _ _ _ _› (News.isTup ‹News _ _ _ _› (List.Mem.head _)) ?ha ?ll ?ff ?hh; (case ha => assumption); (case ll => rfl); (case ff => rfl); intro h' F' N')
  | with_reducible refine List_ ?_
  | ((with_reducible refine' newList_N ‹Fr _ _ _ _› ‹News _ _ _ _› ?hh ?zz); (case zz => (rw [sizeLine_eq]; simp only [List.length_cons, List.length_nil]; omega)); intro h' F' N')
  | ((with_reducible refine' mod_int' ?bb ?hh); (case bb => decide))
  | ((with_reducible refine' floordiv_int ?bb ?hh ?pp); (case bb => decide); (case pp => exact Or.inl (PyProof.noPylong_of_log2 (by decide +kernel))))
  | fail "no step"
  )
local macro_rules | `(tactic| walk_at "mxF") => `(tactic| (refine' ifF ?cc ?_; (case cc => first | assumption | decide | simp)))
local macro_rules | `(tactic| walk_at "mxT") => `(tactic| (refine' ifT ?cc ?_; (case cc => first | assumption | decide | simp)))
local macro_rules | `(tactic| walk_at "mxR") => `(tactic| repeat' (first | (walk_at "mx"; try dsimp only [List.cons_append, List.nil_append]) | (refine' ifT ?cc ?_; (case cc => with_reducible rfl)) | (refine' ifF ?cc ?_; (case cc => (intro h; exact Bool.noConfusion h))) | fail "no step"))
set_option maxRecDepth 100000 in
set_option maxHeartbeats 4000000 in
theorem shapes_spec {w : World} {A : Around} {s : Shared} {E : Value → Shared → Prop} {Q : Value → Shared → Prop} (X : Tops w s.heap)
    (hroom : A.depth < recursionLimit)
    (hret : ∀ D vs h' k, Grow s.heap h' → h'.IsList D vs.toArray → Pairs h' vs shapesL → Q (.ref D) { s with heap := h', toks := k }) :
    wpAny (model P0 w) A (call (.ref 35) []) Q E s := by
  refine wpAny_call ?_
  refine enter (f := 35) (binds := []) X hroom (by rfl) (by rfl) (by rfl) (kp_binds X.K fun S => by rfl) (by rfl) ?_ (by decide) (by rfl) (by rfl) (by rfl)
  intro h₁ F
  have N : News s.heap s.heap.objs.size h₁ [] := News.nil
  suffices H : ∀ (Qf : Flow → Shared → Prop) (Ef : Value → Shared → Prop),
      (∀ D vs h' k, Grow s.heap h' → h'.IsList D vs.toArray → Pairs h' vs shapesL → Qf (.ret (.ref D)) { s with heap := h', toks := k }) →
      wpAny (model P0 w) _ (execs _ _) Qf Ef _ by
    (refine H _ _ ?_; intro D vs h k a b c; exact hret D vs h k a b c)
  intro Qf Ef hQ
  refine wpAny_execs_cons ?_
  walk_at "mxR"
  have N' := ‹News _ _ _ _›
  have hg := Fr.keep ‹Fr _ _ _ _›
  refine hQ _ _ _ _ hg (News.isList N' (.head _)) ?_
  clear hQ hret hg
  unfold shapesL
  repeat' (first | exact Pairs.nil | (refine Pairs.cons (News.get N' (by repeat' (first | exact List.Mem.head _ | apply List.Mem.tail))) ?_))
/-- what a sign of a shape is filled with -/
def fillsC (c d : Nat) : Prop := if c = 76 then d ∈ [97, 98, 89, 90] else d ∈ [49, 57, 48, 53]
inductive Fills : List Nat → List Nat → Prop
  | nil : Fills [] []
  | cons {c d : Nat} {cs ds : List Nat} : fillsC c d → Fills cs ds → Fills (c :: cs) (d :: ds)
theorem Fills.snoc {c d : Nat} (h : fillsC c d) : ∀ {cs ds : List Nat}, Fills cs ds → Fills (cs ++ [c]) (ds ++ [d])
  | _, _, .nil => .cons h .nil
  | _, _, .cons a r => .cons a (r.snoc h)
theorem Fills.len : ∀ {cs ds : List Nat}, Fills cs ds → cs.length = ds.length
  | _, _, .nil => rfl
  | _, _, .cons _ r => congrArg (· + 1) r.len
theorem shapes_small : ∀ p ∈ shapesL, p.1.cps.all (· < 128) = true ∧ p.1.cps.size ≤ 11 := by decide +kernel
theorem item_four {c : Nat} {n : Int} : fillsC c ((if (⟨#[c]⟩ : Str) == "L" then (Txt.item "abYZ" (n.fmod 4)) else (Txt.item "1905" (n.fmod 4))).cps.toList.headD 0) ∧
    (if (⟨#[c]⟩ : Str) == "L" then (Txt.item "abYZ" (n.fmod 4)) else (Txt.item "1905" (n.fmod 4))).cps.toList.length = 1 := by
  have h0 := Int.fmod_nonneg_of_pos n (b := 4) (by decide)
  have h1 := Int.fmod_lt_of_pos n (b := 4) (by decide)
  have e : ((⟨#[c]⟩ : Str) == "L") = decide (c = 76) := by
    have : ("L" : Str) = ⟨#[76]⟩ := by decide +kernel
    rw [this]
    show decide _ = _
    by_cases h : c = 76 <;> simp [h]
  rw [e]
  have : n.fmod 4 = 0 ∨ n.fmod 4 = 1 ∨ n.fmod 4 = 2 ∨ n.fmod 4 = 3 := by omega
  by_cases hc : c = 76
  · subst hc
    unfold fillsC
    rcases this with h | h | h | h <;> rw [h] <;> decide +kernel
  · simp only [hc, decide_false, Bool.false_eq_true, if_false, fillsC]
    rcases this with h | h | h | h <;> rw [h] <;> decide +kernel
theorem fills_next {sh x y : Str} {i c : Nat} (hf : Fills (sh.cps.toList.take i) x.cps.toList) (hc : sh.cps[i]? = some c) (hy : fillsC c (y.cps.toList.headD 0) ∧ y.cps.toList.length = 1) :
    Fills (sh.cps.toList.take (i + 1)) (x ++ y).cps.toList := by
  have hc' : sh.cps.toList[i]? = some c := by simpa using hc
  rw [List.take_add_one, hc']
  have e : (x ++ y).cps.toList = x.cps.toList ++ y.cps.toList := by
    show (x.cps ++ y.cps).toList = _
    simp
  rw [e]
  obtain ⟨a, b⟩ := hy
  match hl : y.cps.toList, b with
  | [d], _ =>
    rw [hl] at a
    exact hf.snoc a
set_option maxRecDepth 100000 in
set_option maxHeartbeats 4000000 in
theorem word_spec {w : World} {A : Around} {s : Shared} {E : Value → Shared → Prop} {Q : Value → Shared → Prop} {n : Int} {tn : Tok} (X : Tops w s.heap)
    (hroom : A.depth + 1 < recursionLimit) (hh : A.handled = none)
    (hret : ∀ D x sh kd t1 t2 t3 h' k, s.heap.objs.size ≤ D → (sh, kd) ∈ shapesL → Fills sh.cps.toList x.cps.toList → Grow s.heap h' → h'.get? D = some (tupO [.str x t1, .str sh t2, .str kd t3]) → Q (.ref D) { s with heap := h', toks := k }) :
    wpAny (model P0 w) A (call (.ref 42) [.int n tn]) Q E s := by
  refine wpAny_call ?_
  refine enter (f := 42) (binds := [("number", .int n tn)]) X (by omega) (by rfl) (by rfl) (by rfl) (kp_binds X.K fun S => by rfl) (by rfl) ?_ (by decide) (by rfl) (by rfl) (by rfl)
  intro h₁ F
  have XK := X.K
  obtain ⟨mg, mb, XT⟩ := X.T
  have N : News s.heap s.heap.objs.size h₁ [] := News.nil
  suffices H : ∀ (Qf : Flow → Shared → Prop) (Ef : Value → Shared → Prop) (_ : PassesOwn (model P0 w) (A.deeper (envOf "_law_word" _ s.heap.objs.size 42 (.ref 41))) (envOf "_law_word" _ s.heap.objs.size 42 (.ref 41)) Ef),
      (∀ D x sh kd t1 t2 t3 h' k, s.heap.objs.size ≤ D → (sh, kd) ∈ shapesL → Fills sh.cps.toList x.cps.toList → Grow s.heap h' → h'.get? D = some (tupO [.str x t1, .str sh t2, .str kd t3]) → Qf (.ret (.ref D)) { s with heap := h', toks := k }) →
      wpAny (model P0 w) _ (execs _ _) Qf Ef _ by
    refine H _ _ (by passes_own) ?_
    intro D x sh kd t1 t2 t3 h' k a b c d e
    exact hret D x sh kd t1 t2 t3 h' k a b c d e
  intro Qf Ef hpass hQ
  refine wpAny_execs_cons ?_
  walk_at "mxR"
  refine name_K ‹Fr _ _ _ _› XK XT (v := .ref 35) (by kernel_rfl) ?_ (by rfl) (by rfl) (by decide)
  refine callWith_K0 (XK.keeps (Fr.keep F)) (by kernel_rfl) ?_
  show wpAny _ _ (call (Value.ref 35) []) _ _ _
  refine shapes_spec (s := { s with heap := h₁, toks := _ }) (X.keeps (Fr.keep F)) (by show A.depth + 1 < _; exact hroom) ?_
  intro D vs h₂ k hg hD hP
  have F₂ := Fr.keeps F hg
  clear hg F
  walk_at "mxR"
  have h0 := Int.fmod_nonneg_of_pos n (b := 14) (by decide)
  have h1 := Int.fmod_lt_of_pos n (b := 14) (by decide)
  obtain ⟨T, t1, t2, eT, sh, kd, ep, hT⟩ := hP.at (i := (n.fmod 14).toNat) (by show _ < 14; omega)
  refine tail_any hD.typeIs slot_list_getitem.lookup (wpAny_getItem_list hD h0 (by omega) (by simpa using eT) ?_) (by with_unfolding_all rfl)
  have hmem := List.mem_of_getElem? ep
  have hsm := shapes_small _ hmem
  dsimp only at hsm
  have N₂ : News s.heap s.heap.objs.size h₂ [] := News.nil
  refine unpackN_ ‹Fr _ _ _ _› N₂ ⟨_, hT, rfl, _, rfl⟩ (by exact hh) (by rfl) (by rfl) ?_
  intro h₃ F₃ N₃
  walk_at "mxR"
  refine wpAny_execs_cons ?_
  walk_at "mxR"
  refine wpAny_execs_cons ?_
  walk_at "mxR"
  refine wpAny_execs_cons ?_
  refine For_inv s.heap (by rfl) (by rfl) ?_ (by intro _; rfl) hpass
  walk_at "mxR"
  refine wpAny_pyIter_ascii hsm.1 ?_
  rename_i h₄ F₄ _
  have hI : s.heap.objs.size < h₄.objs.size := by
    obtain ⟨oL, _, _, hL, _⟩ := F₄.ns
    exact Heap.lt_size hL
  refine ⟨_, _, _, _, _, _, _, [], fun i m => ∃ x tx r tr, m "word" = some (Value.str x tx) ∧ m "rest" = some (Value.int r tr) ∧ m "shape" = some (Value.str sh t1) ∧ m "kind" = some (Value.str kd t2) ∧ Fills (sh.cps.toList.take i) x.cps.toList,
    rfl, Walks.strAscii (by exact hh) h₄.objs.size sh t1, by simp; exact Nat.ne_of_lt hI, by simp; exact Heap.get?_none_of_le (Nat.le_of_lt hI), fun _ h => (nomatch h), ⟨_, Heap.get?_push_size _ rfl, rfl, rfl⟩, F₄.push _, News.nil, ⟨_, _, _, _, rfl, rfl, rfl, rfl, .nil⟩, ?_, ?_⟩
  · rintro i v m₁ s₁ own hi ⟨c, u, hc, rfl⟩ ⟨x, tx, r, tr, hw, hr, hs, hk, hf⟩ F₁ N₁
    have hxl : x.length ≤ 11 := by
      have := hf.len
      rw [List.length_take] at this
      have h1 : x.length = x.cps.toList.length := by simp [Str.length]
      have h2 : sh.cps.toList.length = sh.cps.size := by simp
      omega
    have e1 : ("word" : Str) ≠ "sign" := by decide
    have e2 : ("rest" : Str) ≠ "sign" := by decide
    refine wpAny_execs_cons ?_
    refine wpAny_AugAssign_Name ?_
    refine ldn F₁ ((if_neg e1).trans hw) ?_ (by rfl) (by rfl)
    walk_at "mxR"
    refine ld F₁ (if_pos rfl) ?_ (by rfl) (by rfl) (by decide)
    walk_at "mxR"
    refine PyProof.Rows.eq_str ?_
    walk_at "mxR"
    have hit := item_four (c := c) (n := r)
    have e4 : ("rest" : Str) ≠ "word" := by decide
    have e1' : ("word" : Str) ≠ "rest" := by decide
    have f1 : ("shape" : Str) ≠ "rest" := by decide
    have f2 : ("shape" : Str) ≠ "word" := by decide
    have f3 : ("shape" : Str) ≠ "sign" := by decide
    have g1 : ("kind" : Str) ≠ "rest" := by decide
    have g2 : ("kind" : Str) ≠ "word" := by decide
    have g3 : ("kind" : Str) ≠ "sign" := by decide
    have e3 : ("sign" : Str) ≠ "word" := by decide
    by_cases hb : ((⟨#[c]⟩ : Str) == "L") = true
    all_goals
      first | (refine ifT hb ?_; rw [if_pos hb] at hit) | (refine ifF hb ?_; rw [if_neg hb] at hit)
      walk_at "mxR"
      refine ld F₁ ((if_neg e2).trans hr) ?_ (by rfl) (by rfl) (by decide)
      walk_at "mxR"
      refine item_str_fmod (by decide) (by decide +kernel) (by decide +kernel) (fun hl => ?_) (by with_unfolding_all rfl) (by intro _; with_unfolding_all rfl)
      refine iadd_str (fun t' tk => ?_) (by rw [sizeLine_eq]; omega)
      dsimp only
      refine stN F₁ N₁ (fun h₅ F₅ N₅ => ?_) (by rfl) (by rfl)
      refine wpAny_execs_cons ?_
      refine wpAny_Assign_Name ?_ (by rfl)
      refine wpAny_BinOp ?_
      refine ld F₅ ((if_neg e4).trans ((if_neg e2).trans hr)) ?_ (by rfl) (by rfl) (by decide)
      walk_at "mxR"
      refine LoopStep.intro ‹Fr _ _ _ _› ‹News _ _ _ _› ⟨_, _, _, _, (if_neg e1').trans (if_pos rfl), if_pos rfl, (if_neg f1).trans ((if_neg f2).trans ((if_neg f3).trans hs)), (if_neg g1).trans ((if_neg g2).trans ((if_neg g3).trans hk)), ?_⟩
      exact fills_next hf hc hit
  · intro h' tk m' F' _ ⟨x, tx, r, tr, hw, hr, hs, hk, hf⟩
    refine wpAny_execs_cons ?_
    refine wpAny_Return_some ?_
    refine Tuple_ ?_
    refine args_cons (ld F' hw ?_ (by rfl) (by rfl) (by decide)) (by rfl)
    refine args_cons (ld F' hs ?_ (by rfl) (by rfl) (by decide)) (by rfl)
    refine args_cons (ld F' hk ?_ (by rfl) (by rfl) (by decide)) (by rfl)
    refine args_nil ?_
    have N' : News s.heap s.heap.objs.size h' [] := News.nil
    refine newTuple_N F' N' (fun h₅ F₅ N₅ => ?_) (by rw [sizeLine_eq]; simp only [List.length_cons, List.length_nil]; omega)
    refine hQ _ _ _ _ _ _ _ _ _ (Nat.le_of_lt F'.ns.lt) hmem ?_ (Fr.keep F₅) (News.get N₅ (.head _))
    have : sh.cps.toList.take sh.cps.size = sh.cps.toList := List.take_of_length_le (by simp)
    rwa [this] at hf
noncomputable def lawDef : Option (List Stmt × Scope) :=
  match PySem.Challenge.pw_nk0003_01.main.body.drop 6 with
  | .FunctionDef _ _ body _ _ _ scope _ _ _ :: _ => some (body, scope)
  | _ => none
noncomputable def lawBody : List Stmt := match lawDef with | some p => p.1 | none => []
noncomputable def lawScope : Scope := match lawDef with | some p => p.2 | none => { kind := .module, names := [], isGenerator := false, isCoroutine := false }
noncomputable abbrev lawEnv (L fa : Addr) (cd : Value) : Env := envX "law" lawScope L fa cd [("due", L + 1 + 1 + 1), ("normal", L + 1 + 1), ("kinds", L + 1)]
theorem nsWord {w : World} : nsIn (hd.heap_39 w.params) mainGlobals "_law_word" = some (some (.ref 42)) := by kernel_rfl
theorem nsParse {w : World} : nsIn (hd.heap_39 w.params) mainGlobals "parse_locale" = some (some (.ref 22)) := by kernel_rfl
theorem nsIdent {w : World} : nsIn (hd.heap_39 w.params) mainGlobals "get_locale_identifier" = some (some (.ref 28)) := by kernel_rfl
abbrev up (x : Str) (v : Value) (m : Str → Option Value) : Str → Option Value := fun y => if y = x then some v else m y
abbrev M0 (S : Addr) : Str → Option Value := fun y => if y = "script" then some (.ref S) else none
local macro_rules | `(tactic| walk_at "lw") => `(tactic| first
  | with_reducible refine wpAny_execs_nil ?_
  | with_reducible refine wpAny_If ?_
  | with_reducible refine wpAny_Return_some ?_
  | with_reducible refine isTrue_not ?_
  | with_reducible refine isTrue_and ?_
  | with_reducible refine isTrue_and_nil ?_
  | with_reducible refine isTrue_or ?_
  | with_reducible refine isTrue_or_nil ?_
  | ((with_reducible refine' wpAny_isTrue_Compare1 ?hh ?aa); (case aa => rfl))
  | ((with_reducible refine' isTrue_plain ?hh ?aa); (case aa => rfl))
  | ((with_reducible refine' wpAny_Assign_Name ?hh ?aa); (case aa => rfl))
  | ((with_reducible refine' Assign_Tuple ?hh ?aa ?bb); (case aa => rfl); (case bb => rfl))
  | ((with_reducible refine' wpAny_Assign_three ?hh ?aa ?bb); (case aa => rfl); (case bb => rfl))
  | with_reducible refine Subscript_ ?_
  | ((with_reducible refine' MethodCall_ ?hh ?aa); (case aa => rfl))
  | ((with_reducible refine' Call_ ?hh ?aa); (case aa => rfl))
  | with_reducible refine Calls.Constant_str ?_
  | with_reducible refine wpAny_Constant_int ?_
  | with_reducible refine wpAny_Constant_none ?_
  | with_reducible refine wpAny_truthy_bool ?_
  | with_reducible refine Tuple_ ?_
  | ((with_reducible refine' args_cons ?hh ?aa); (case aa => rfl))
  | with_reducible refine args_nil ?_
  | with_reducible refine callWith_method0 ?_
  | ((with_reducible refine' callWith_method1 ?hh ?aa ?bb); (case aa => rfl); (case bb => rfl))
  | ((with_reducible refine' PyProof.Rows.callWith_builtin1 ?hh ?aa ?bb); (case aa => rfl); (case bb => rfl))
  | ((with_reducible refine' PyProof.Rows.callWith_type1 ?hh ?aa ?bb); (case aa => rfl); (case bb => rfl))
  | with_reducible refine PyProof.Rows.assign_Name ?_
  | with_reducible refine bindName_ ?_
  | ((with_reducible show wpAny _ _ (assignInOrder _ _) _ _ _); first | refine assignInOrder_nil ?_ | refine assignInOrder_cons ?_)
  | with_reducible refine GM.partition ?_
  | with_reducible refine GM.split ?_
  | with_reducible refine GM.join ?_
  | with_reducible refine GM.lower ?_
  | with_reducible refine GM.upper ?_
  | with_reducible refine GM.title ?_
  | with_reducible refine GM.isalpha ?_
  | with_reducible refine GM.isdigit ?_
  | with_reducible refine in_str ?_
  | with_reducible refine SC.isalpha ?_
  | with_reducible refine SC.isdigit ?_
  | with_reducible refine eq_int ?_
  | with_reducible refine PyProof.Rows.ge_int ?_
  | ((with_reducible refine' nameX_L ‹Fr _ _ _ _› ?vv ?hh ?aa ?bb ?cc); (case aa => rfl); (case bb => rfl); (case cc => rfl); (case vv => rfl))
  | ((with_reducible refine' nameX_B ‹Fr _ _ _ _› ‹Frag.In _ _› ‹TopRead _ _ _ _ _› nsK' B_len' ?nn ?hh ?aa ?bb ?cc); (case nn => decide); (case aa => rfl); (case bb => rfl); (case cc => rfl))
  | ((with_reducible refine' nameX_B ‹Fr _ _ _ _› ‹Frag.In _ _› ‹TopRead _ _ _ _ _› nsKV' B_VE' ?nn ?hh ?aa ?bb ?cc); (case nn => decide); (case aa => rfl); (case bb => rfl); (case cc => rfl))
  | with_reducible refine wpAny_Slice ?_
  | with_reducible refine evalPart_none_step ?_
  | with_reducible refine evalPart_some_step ?_
  | with_reducible refine wpAny_BinOp ?_
  | ((with_reducible refine' nameX_B ‹Fr _ _ _ _› ‹Frag.In _ _› ‹TopRead _ _ _ _ _› nsKT B_tuple ?nn ?hh ?aa ?bb ?cc); (case nn => decide); (case aa => rfl); (case bb => rfl); (case cc => rfl))
  | ((with_reducible show wpAny _ _ (subscriptTail _ _ (Value.ref _) (Value.ref _)) _ _ _); refine' tup_sliceG (s := ⟨_, _, _, _, _⟩) ‹Fr _ _ _ _› ‹News _ _ _ _› (IsTup.keeps ‹IsTup _ _ _› (Fr.keep ‹Fr _ _ _ _›)) ?nn ?_ ?ss ?tt; (case nn => assumption); (case ss => with_unfolding_all rfl); (case tt => intro _; rfl); intro h' F' N')
  | ((with_reducible show wpAny _ _ (call (Value.type "tuple") [Value.ref _]) _ _ _); refine call_tuple_tup (IsTup.keeps ‹IsTup _ _ _› (Fr.keep ‹Fr _ _ _ _›)) ?_)
  | with_reducible refine JoinedStr_many ?_
  | with_reducible refine joinParts_consE ?_
  | with_reducible refine joinParts_nilE ?_
  | with_reducible refine joinParts_cons ?_
  | ((with_reducible refine' joinParts_nil ?hh ?zz); (case zz => (rw [sizeLine_eq]; simp only [Str.length_append]; omega)))
  | with_reducible refine wpAny_FormattedValue_repr ?_
  | with_reducible refine FormattedValue_plain ?_
  | with_reducible refine IfExp_ ?_
  | ((with_reducible refine' pyReprObj_str ?hh ?zz); (case zz => (rw [sizeLine_eq]; omega)))
  | ((with_reducible refine' formatField_str ?hh ?zz); (case zz => (rw [sizeLine_eq]; omega)); intro tt kk)
  | ((with_reducible show _ ≤ sizeLine ∧ wpAny _ _ _ _ _ _); refine ⟨?zz, ?_⟩; (case zz => (rw [sizeLine_eq]; simp only [Str.length_append]; omega)))
  | ((with_reducible show wpAny _ _ (call (Value.builtin "str.split") [_, _]) _ _ _); refine' split1 ‹Fr _ _ _ _› ‹News _ _ _ _› ?yy ?zz ?hh; (case yy => first | rfl | assumption); (case zz => rw [sizeLine_eq]; omega); intro D vs h' k' S' B' F' N' l')
  | ((with_reducible show wpAny _ _ (call (Value.builtin "str.split") _) _ _ _); refine' split2 ‹Fr _ _ _ _› ‹News _ _ _ _› ?yy ?kk ?zz ?hh; (case yy => first | rfl | assumption); (case kk => decide); (case zz => rw [sizeLine_eq]; omega); intro D vs h' k' S' B' F' N' l')
  | ((with_reducible refine' SCL.lower ?ll ?_); (case ll => omega); intro l')
  | ((with_reducible refine' SCL.upper ?ll ?_); (case ll => omega); intro l')
  | ((with_reducible refine' SCL.title ?ll ?_); (case ll => omega); intro l')
  | ((with_reducible show wpAny _ _ (getMethod (Value.ref _) (Str.ofString "pop") _) _ _ _); refine kl_method ‹News _ _ _ _› (List.Mem.head _) PySem.F.slot_list_pop PySem.F.type_list_pop ?_)
  | ((with_reducible show wpAny _ _ (call (Value.builtin "list.pop") [_, _]) _ _ _); refine' pop0 ‹Fr _ _ _ _› ‹News _ _ _ _› ?ll ?_; (case ll => omega); intro h' F' N')
  | ((with_reducible show wpAny _ _ (subscriptTail _ _ (Value.ref _) (Value.int 0 _)) _ _ _); refine' item_litK (News.isList ‹News _ _ _ _› (List.Mem.head _)) (by decide) (by decide) ?ii ?_ ?ss; (case ss => with_unfolding_all rfl); (case ii => rfl))
  | ((with_reducible show wpAny _ _ (subscriptTail _ _ (Value.str _ _) (Value.int 0 _)) _ _ _); refine' item_str ?ff ?ii ?jj ?_ ?ss ?tt; (case ff => decide); (case ii => omega); (case jj => omega); (case ss => with_unfolding_all rfl); (case tt => intro _; rfl); intro l')
  | ((with_reducible show wpAny _ _ (truthy (Value.ref _)) _ _ _); first | refine truthyN ‹News _ _ _ _› ?_ | (refine' truthyC ‹News _ _ _ _› ?zz ?_; (case zz => omega)))
  | ((with_reducible refine' newTuple_N ‹Fr _ _ _ _› ‹News _ _ _ _› ?hh ?zz); (case zz => (rw [sizeLine_eq]; simp only [List.length_cons, List.length_nil]; omega)); intro h' F' N')
  | ((with_reducible refine' storeX_L ‹Fr _ _ _ _› ‹News _ _ _ _› ?hh ?aa ?bb); (case aa => rfl); (case bb => rfl); intro h' F' N')
  | ((with_reducible refine' SBL.truthy ?ll ?_); (case ll => omega))
  | ((with_reducible refine' SBL.len ?ll ?_); (case ll => omega))
  | ((with_reducible show wpAny _ _ (call (Value.builtin "str.partition") _) _ _ _); refine' partitionN ‹Fr _ _ _ _› ‹News _ _ _ _› ?yy ?hh ?zz; (case yy => rfl); (case zz => rw [sizeLine_eq]; omega); intro ta tb tc h' k' F' N')
  | ((with_reducible refine' Raise_new ?ha ?_); (case ha => assumption))
  | ((with_reducible show wpAny _ _ (call (Value.type "ValueError") _) _ _ _); refine call_exc_raise excClass_ValueError ?_; intro hx e hX)
  | ((with_reducible show wpAny _ _ (assign (Expr.Tuple _ _ _) _ (Value.ref _)) _ _ _); refine' unpackN_ ‹Fr _ _ _ _› ‹News _ _ _ _› (News.isTup ‹News _ _ _ _› (List.Mem.head _)) ?ha ?ll ?ff ?hh; (case ha => assumption); (case ll => rfl); (case ff => rfl); intro h' F' N')
  | with_reducible refine List_ ?_
  | ((with_reducible refine' newList_N ‹Fr _ _ _ _› ‹News _ _ _ _› ?hh ?zz); (case zz => (rw [sizeLine_eq]; simp only [List.length_cons, List.length_nil]; omega)); intro h' F' N')
  | ((with_reducible refine' mod_int' ?bb ?hh); (case bb => decide))
  | ((with_reducible refine' floordiv_int ?bb ?hh ?pp); (case bb => decide); (case pp => exact Or.inl (PyProof.noPylong_of_log2 (by decide +kernel))))
  | fail "no step"
  )
local macro_rules | `(tactic| walk_at "lwF") => `(tactic| (refine' ifF ?cc ?_; (case cc => first | assumption | decide | simp)))
local macro_rules | `(tactic| walk_at "lwT") => `(tactic| (refine' ifT ?cc ?_; (case cc => first | assumption | decide | simp)))
local macro_rules | `(tactic| walk_at "lwR") => `(tactic| repeat' (first | (walk_at "lw"; try dsimp only [List.cons_append, List.nil_append]) | (refine' ifT ?cc ?_; (case cc => with_reducible rfl)) | (refine' ifF ?cc ?_; (case cc => (intro h; exact Bool.noConfusion h))) | fail "no step"))
section
variable {w : World} {B : Around} {s : Shared} {Ef : Value → Shared → Prop} {Qf : Flow → Shared → Prop} {h₀ h : Heap} {S fa : Addr} {cd : Value} {vs : List Value} {ns : List Int} {tk : Nat} {news : List (Addr × Obj)} {m : Str → Option Value}
set_option maxRecDepth 100000 in
set_option maxHeartbeats 4000000 in
theorem sec0 (X : Tops w h₀) (_hh : B.handled = none) (hS : h₀.IsList S vs.toArray) (hI : IntsAre vs ns) (h63 : ns.length ≤ 63) (F : Fr h₀ h₀.objs.size h (M0 S)) (N : News h₀ h₀.objs.size h news)
    (next : ∀ n t h' k, Fr h₀ h₀.objs.size h' (up "setting" (.int n t) (M0 S)) → News h₀ h₀.objs.size h' news → wpAny (model P0 w) B (execs (lawBody.drop 1) (lawEnv h₀.objs.size fa cd)) Qf Ef { s with heap := h', toks := k }) :
    wpAny (model P0 w) B (execs lawBody (lawEnv h₀.objs.size fa cd)) Qf Ef { s with heap := h, toks := tk } := by
  have XK := X.K
  obtain ⟨mg, mb, XT⟩ := X.T
  have hS' : h.IsList S vs.toArray := let ⟨o, e, r⟩ := hS; ⟨o, F.keep _ _ e, r⟩
  have e : lawBody = lawBody.drop 0 := rfl
  rw [e]
  clear e
  conv in (List.drop 0 lawBody) => whnf
  refine wpAny_execs_cons ?_
  walk_at "lwR"
  refine truthy_ints_fit hS' hI (by omega) ?_
  by_cases hn : 0 < ns.length
  · refine ifT (by simpa using hn) ?_
    walk_at "lwR"
    refine item_list_ints (s := ⟨h, _, _, _, _⟩) hS' hI (by decide) (by omega) (by omega) (fun t => ?_) (by with_unfolding_all rfl) (by intro _; with_unfolding_all rfl)
    walk_at "lwR"
    exact next _ _ _ _ ‹Fr _ _ _ _› ‹News _ _ _ _›
  · refine ifF (by simpa using hn) ?_
    walk_at "lwR"
    exact next _ _ _ _ ‹Fr _ _ _ _› ‹News _ _ _ _›
end
def marksL : List Str := ["", "@euro", "@", "@a@b"]
def encsL : List Str := ["", ".UTF-8", ".8.x"]
theorem sep_item (n : Int) : Txt.item "_-" (n.fmod 2) = "_" ∨ Txt.item "_-" (n.fmod 2) = "-" := by
  have h0 := Int.fmod_nonneg_of_pos n (b := 2) (by decide)
  have h1 := Int.fmod_lt_of_pos n (b := 2) (by decide)
  have : n.fmod 2 = 0 ∨ n.fmod 2 = 1 := by omega
  rcases this with h | h <;> rw [h] <;> decide +kernel
section
variable {w : World} {B : Around} {s : Shared} {Ef : Value → Shared → Prop} {Qf : Flow → Shared → Prop} {h₀ h : Heap} {S fa : Addr} {cd : Value} {vs : List Value} {ns : List Int} {tk : Nat} {news : List (Addr × Obj)} {m : Str → Option Value}
set_option maxRecDepth 100000 in
set_option maxHeartbeats 4000000 in
theorem sec1 {n : Int} {t : Tok} (_X : Tops w h₀) (_hh : B.handled = none) (F : Fr h₀ h₀.objs.size h (up "setting" (.int n t) (M0 S))) (N : News h₀ h₀.objs.size h news)
    (next : ∀ (sep : Str) t' h' k, (sep = ("_" : Str) ∨ sep = ("-" : Str)) → Fr h₀ h₀.objs.size h' (up "sep" (.str sep t') (up "setting" (.int n t) (M0 S))) → News h₀ h₀.objs.size h' news → wpAny (model P0 w) B (execs (lawBody.drop 2) (lawEnv h₀.objs.size fa cd)) Qf Ef { s with heap := h', toks := k }) :
    wpAny (model P0 w) B (execs (lawBody.drop 1) (lawEnv h₀.objs.size fa cd)) Qf Ef { s with heap := h, toks := tk } := by
  conv in (List.drop 1 lawBody) => whnf
  refine wpAny_execs_cons ?_
  walk_at "lwR"
  refine item_str_fmod (by decide) (by decide +kernel) (by decide +kernel) (fun hl => ?_) (by with_unfolding_all rfl) (by intro _; with_unfolding_all rfl)
  walk_at "lwR"
  exact next _ _ _ _ (sep_item n) ‹Fr _ _ _ _› ‹News _ _ _ _›
set_option maxRecDepth 100000 in
set_option maxHeartbeats 4000000 in
theorem sec2 {n : Int} {t t' : Tok} {sep : Str} (_X : Tops w h₀) (_hh : B.handled = none) (F : Fr h₀ h₀.objs.size h (up "sep" (.str sep t') (up "setting" (.int n t) (M0 S)))) (N : News h₀ h₀.objs.size h news)
    (next : ∀ (mk : Str) t2 h' k, mk ∈ marksL → Fr h₀ h₀.objs.size h' (up "mark" (.str mk t2) (up "sep" (.str sep t') (up "setting" (.int n t) (M0 S)))) → News h₀ h₀.objs.size h' news → wpAny (model P0 w) B (execs (lawBody.drop 3) (lawEnv h₀.objs.size fa cd)) Qf Ef { s with heap := h', toks := k }) :
    wpAny (model P0 w) B (execs (lawBody.drop 2) (lawEnv h₀.objs.size fa cd)) Qf Ef { s with heap := h, toks := tk } := by
  conv in (List.drop 2 lawBody) => whnf
  refine wpAny_execs_cons ?_
  walk_at "lwR"
  have h0 := Int.fmod_nonneg_of_pos (n.fdiv 2) (b := 4) (by decide)
  have h1 := Int.fmod_lt_of_pos (n.fdiv 2) (b := 4) (by decide)
  have : (n.fdiv 2).fmod 4 = 0 ∨ (n.fdiv 2).fmod 4 = 1 ∨ (n.fdiv 2).fmod 4 = 2 ∨ (n.fdiv 2).fmod 4 = 3 := by omega
  have hD := News.isList ‹News _ _ _ ((_, _) :: _)› (.head _)
  rcases this with e | e | e | e
  all_goals
    rw [e]
    refine tail_any hD.typeIs slot_list_getitem.lookup (wpAny_getItem_list hD (by decide) (by decide) (by rfl) ?_) (by with_unfolding_all rfl)
    walk_at "lwR"
    refine next _ _ _ _ ?_ ‹Fr _ _ _ _› (fun p hp => ‹News _ _ _ _› p (.tail _ hp))
    decide +kernel
end
structure WT where
  a : Addr
  x : Str
  sh : Str
  kd : Str
  t1 : Tok
  t2 : Tok
  t3 : Tok
def WT.obj (z : WT) : Obj := tupO [.str z.x z.t1, .str z.sh z.t2, .str z.kd z.t3]
def WT.ref (z : WT) : Value := .ref z.a
def WT.good (z : WT) : Prop := (z.sh, z.kd) ∈ shapesL ∧ Fills z.sh.cps.toList z.x.cps.toList
def WT.cell (z : WT) : Addr × Obj := (z.a, z.obj)
section
variable {w : World} {B : Around} {s s₁ : Shared} {E : Value → Shared → Prop} {h₀ : Heap} {L fa D : Addr} {m : Str → Option Value} {scope : Scope} {env : Env} {cl : List (Str × Addr)} {its : Array Value} {px p1 p2 p3 : Pos} {Fin : Addr → Addr → List Value → Shared → Prop}
theorem comp_assign2 {C : Addr} {x : Str} {v : Value} {Q : Unit → Shared → Prop} (hn : s.heap.Ns C m)
    (h : ∀ h', h'.Ns C (fun y => if y = x then some v else m y) → (∀ b o, b ≠ C → s.heap.get? b = some o → h'.get? b = some o) → h'.objs.size = s.heap.objs.size → Q () { s with heap := h', toks := s.toks + 1 })
    (hk : scope.kind = .function) (hx : (compEnvC scope cl C env).kindOf x = some .local) :
    wpAny (model P0 w) B (assign (.Name x px) (compEnvC scope cl C env) v) Q E s :=
  wpAny_assign_Name (wpAny_storeName_local hx hn (fun h' hn' hs' => h h' hn' (fun b o hb e => hs'.extBut b o hb e) hs'.1) (by simp [compEnvC, relabel, hk]))
set_option maxHeartbeats 1000000 in
theorem words_ask (X : Tops w h₀) (hroom : B.depth + 1 < recursionLimit) (hh : B.handled = none) (F : Fr h₀ L s₁.heap m) (hl : s₁.heap.IsList D its) (hint : ∀ (i : Nat) (v : Value), its[i]? = some v → ∃ n t, v = .int n t) (h1 : 1 ≤ its.size) (h6 : its.size ≤ 6)
    (hglob : env.globals = mainGlobals) (hbl : env.builtins = builtinsNs)
    (hk : scope.kind = .function) (hx : ∀ C, (compEnvC scope cl C env).kindOf "number" = some .local) (hg : ∀ C, (compEnvC scope cl C env).kindOf "_law_word" = some .globalImplicit)
    (fin : ∀ D C (ws : List WT) h tk, s₁.heap.get? D = none → s₁.heap.get? C = none → D ≠ C → Grow s₁.heap h → 1 ≤ ws.length → ws.length ≤ 6 →
      (∀ z : WT, z ∈ ws → z.good ∧ h.get? z.a = some z.obj ∧ z.a ≠ C ∧ s₁.heap.get? z.a = none) → h.get? D = some (lstO (ws.map WT.ref)) → Fin D C (ws.map WT.ref) { s₁ with heap := h, toks := tk }) :
    CompAsk P0 w B env (.Name "number" px) (.Call (.Name "_law_word" p1) [.Name "number" p2] [] p3) [] scope cl Fin (.ref D) s₁ := by
  refine ask_listN (fun off i ys h => ∃ ws : List WT, ys = ws.map WT.ref ∧ ws.length = i ∧ ∀ z ∈ ws, z.good ∧ h.get? z.a = some z.obj ∧ ¬ off z.a ∧ s₁.heap.get? z.a = none) hh hl (by rw [sizeLine_eq]; omega)
    (fun _ _ _ => ⟨[], rfl, rfl, fun _ h => (nomatch h)⟩) (fun off i ys h h' hk ⟨ws, a, b, c⟩ => ⟨ws, a, b, fun z hz => ⟨(c z hz).1, hk _ _ (c z hz).2.2.1 (c z hz).2.1, (c z hz).2.2⟩⟩) ?_ ?_
  · intro i v ys h tk C off E' hi hv hoC hoff hbound hgrow hnn ⟨ws, e1, e2, hws⟩
    obtain ⟨mC, hn⟩ := hnn
    obtain ⟨n, t, rfl⟩ := hint i v hv
    refine comp_assign2 hn (fun h' hn' hk' hsz => ?_) hk (hx C)
    refine wpAny_tests_nil ?_
    show wpAny _ _ (eval _ _) _ _ _
    obtain ⟨mg, mb, XT⟩ := X.T
    have kup : ∀ b o, h₀.get? b = some o → h'.get? b = some o := fun b o e => hk' b o (fun q => by
      have := hgrow b o (F.keep b o e)
      obtain ⟨oC, es, ep, hC, _⟩ := hn
      have h2 := hoff _ _ (F.keep b o e)
      exact h2 (q ▸ hoC)) (hgrow b o (F.keep b o e))
    have hgl : h'.Ns (compEnvC scope cl C env).globals mg := by
      show h'.Ns env.globals mg
      rw [hglob]; exact XT.g.keeps kup
    refine Call_ (Name_function_global (by simpa [compEnvC, relabel] using hk) (hg C) (loadGlobal_global (mg := mg) (v := .ref 42) hgl (mg_of X.K XT.g nsWord) ?_) (by decide)) (by rfl)
    refine callWith_K (X.K.keeps kup) (by kernel_rfl) (args_cons (comp_name hn' (if_pos rfl) (args_nil ⟨X.K.keeps kup, ?_⟩) hk (hx C) (by decide)) (by rfl)) (by rfl) (by rfl)
    refine word_spec (s := { s₁ with heap := h', toks := _ }) (X.keeps kup) hroom hh ?_
    intro D' x sh kd t1 t2 t3 h'' k hsz' hmem hfill hg' hD'
    have hCs : ∃ oC, h'.get? C = some oC := let ⟨o, _, _, e, _⟩ := hn'; ⟨o, e⟩
    refine ⟨h'', _, rfl, fun b o hb e => hg' _ _ (hk' b o hb e), ⟨_, hn'.keeps hg'⟩, ws ++ [⟨D', x, sh, kd, t1, t2, t3⟩], by simp [e1, WT.ref], by simp [e2], ?_⟩
    intro z hz
    have hsz2 : h.objs.size ≤ D' := by
      have a1 : h'.objs.size ≤ D' := hsz'
      have a2 : h'.objs.size = h.objs.size := hsz
      rw [← a2]; exact a1
    rcases List.mem_append.mp hz with hz | hz
    · obtain ⟨a1, a2, a3, a4⟩ := hws z hz
      exact ⟨a1, hg' _ _ (hk' _ _ (fun q => a3 (q ▸ hoC)) a2), a3, a4⟩
    · rw [List.mem_singleton.mp hz]
      refine ⟨⟨hmem, hfill⟩, hD', fun q => ?_, ?_⟩
      · have := hbound _ q
        exact absurd this (Nat.not_lt.mpr hsz2)
      · cases q : s₁.heap.get? D' with
        | none => rfl
        | some o =>
          exact absurd (Heap.lt_size (hgrow _ _ q)) (Nat.not_lt.mpr hsz2)
  · rintro D C ys h tk off hD hC hoC hDC hgrow hd ⟨ws, rfl, e2, hws⟩
    exact fin D C ws h tk hD hC hDC hgrow (by omega) (by omega) (fun z hz => ⟨(hws z hz).1, (hws z hz).2.1, fun q => (hws z hz).2.2.1 (q ▸ hoC), (hws z hz).2.2.2⟩) hd
end
abbrev M3 (S : Addr) (n : Int) (t : Tok) (sep : Str) (t1 : Tok) (mk : Str) (t2 : Tok) : Str → Option Value := up "mark" (.str mk t2) (up "sep" (.str sep t1) (up "setting" (.int n t) (M0 S)))
theorem ints_at : ∀ {vs : List Value} {ns : List Int}, IntsAre vs ns → ∀ {v : Value}, v ∈ vs → ∃ n t, v = .int n t := by
  intro vs ns h
  induction h with
  | nil => intro v h; cases h
  | cons n t _ ih => intro v h; rcases List.mem_cons.mp h with rfl | h; exact ⟨_, _, rfl⟩; exact ih h
theorem words_news {h₀ h₁ h h' : Heap} {L C D : Addr} {m : Str → Option Value} {ws : List WT} {news : List (Addr × Obj)} (F₁ : Fr h₀ L h₁ m) (hD : h₁.get? D = none) (hC : h₁.get? C = none) (hDC : D ≠ C)
    (hws : ∀ z : WT, z ∈ ws → z.good ∧ h.get? z.a = some z.obj ∧ z.a ≠ C ∧ h₁.get? z.a = none) (hd : h.get? D = some (lstO (ws.map WT.ref))) (N' : News h₀ L h' news)
    (keep : ∀ b o, b ≠ L → b ≠ C → h.get? b = some o → h'.get? b = some o) : News h₀ L h' ((D, lstO (ws.map WT.ref)) :: (ws.map WT.cell ++ news)) := by
  obtain ⟨oL, _, _, hL, _⟩ := F₁.ns
  have new : ∀ b, h₁.get? b = none → b ≠ L ∧ h₀.get? b = none := fun b hb => ⟨(fun q => by rw [q, hL] at hb; cases hb), by
    cases q : h₀.get? b with
    | none => rfl
    | some o => rw [F₁.keep _ _ q] at hb; cases hb⟩
  intro p hp
  rcases List.mem_cons.mp hp with rfl | hp
  · exact ⟨keep _ _ (new _ hD).1 hDC hd, new _ hD⟩
  · rcases List.mem_append.mp hp with hp | hp
    · obtain ⟨z, hz, rfl⟩ := List.mem_map.mp hp
      obtain ⟨_, a2, a3, a4⟩ := hws z hz
      exact ⟨keep _ _ (new _ a4).1 a3 a2, new _ a4⟩
    · exact N' p hp
section
variable {w : World} {B : Around} {s : Shared} {Ef : Value → Shared → Prop} {Qf : Flow → Shared → Prop} {h₀ h : Heap} {S fa : Addr} {cd : Value} {vs : List Value} {ns : List Int} {tk : Nat} {news : List (Addr × Obj)} {m : Str → Option Value}
set_option maxRecDepth 100000 in
set_option maxHeartbeats 4000000 in
theorem sec3 {n : Int} {t t1 t2 : Tok} {sep mk : Str} (X : Tops w h₀) (hroom : B.depth + 1 < recursionLimit) (hh : B.handled = none) (hS : h₀.IsList S vs.toArray) (hI : IntsAre vs ns) (h63 : ns.length ≤ 63)
    (F : Fr h₀ h₀.objs.size h (M3 S n t sep t1 mk t2)) (N : News h₀ h₀.objs.size h news)
    (next : ∀ (ws : List WT) W h' k, 1 ≤ ws.length → ws.length ≤ 6 → (∀ z : WT, z ∈ ws → z.good) → Fr h₀ h₀.objs.size h' (up "words" (.ref W) (M3 S n t sep t1 mk t2)) → News h₀ h₀.objs.size h' ((W, lstO (ws.map WT.ref)) :: (ws.map WT.cell ++ news)) →
      wpAny (model P0 w) B (execs (lawBody.drop 4) (lawEnv h₀.objs.size fa cd)) Qf Ef { s with heap := h', toks := k }) :
    wpAny (model P0 w) B (execs (lawBody.drop 3) (lawEnv h₀.objs.size fa cd)) Qf Ef { s with heap := h, toks := tk } := by
  have XK := X.K
  obtain ⟨mg, mb, XT⟩ := X.T
  have hS' : h.IsList S vs.toArray := let ⟨o, e, r⟩ := hS; ⟨o, F.keep _ _ e, r⟩
  have hlen := hI.length
  conv in (List.drop 3 lawBody) => whnf
  refine wpAny_execs_cons ?_
  refine compUse (m := M3 S n t sep t1 mk t2) (news := news) (h₀ := h₀) (by with_unfolding_all rfl) (by with_unfolding_all rfl) (by decide) (by rfl) (by decide) (by rfl) (by rfl) (by rfl) ?_ (by intro _; rfl)
  walk_at "lwR"
  refine len_list (s := ⟨h, _, _, _, _⟩) hS' (by simp only [List.size_toArray]; omega) ?_
  walk_at "lwR"
  refine PyProof.Rows.gt_int ?_
  walk_at "lwR"
  have e1 : (vs.toArray.size : Int) = (ns.length : Int) := by rw [List.size_toArray, hlen]
  by_cases hc : 1 < ns.length
  · refine ifT (by rw [e1]; simp only [decide_eq_true_eq]; omega) ?_
    walk_at "lwR"
    refine kmk_slice (s := ⟨h, _, _, _, _⟩) F N hS' (.int 1 _) (.int 7 _) (fun D h₁ F₁ N₁ _ => ?_) (by with_unfolding_all rfl) (by intro _; rfl) (by rw [sizeLine_eq, List.size_toArray]; omega)
    have hD := News.isList N₁ (.head _)
    refine ⟨F₁, fun p hp => N₁ p (.tail _ hp), words_ask X hroom hh F₁ hD ?_ ?_ ?_ (by rfl) (by rfl) (by rfl) (by intro _; rfl) (by intro _; rfl) ?_⟩
    · intro i v hv
      rw [kms_pick_eq] at hv
      exact ints_at hI (List.mem_of_mem_drop (List.mem_of_mem_take (by unfold kms_pick at hv; simpa using Array.mem_of_getElem? hv)))
    · rw [kms_pick_eq]
      simp [kms_pick, kms_lo, kms_hi]
      omega
    · rw [kms_pick_eq]
      simp [kms_pick, kms_lo, kms_hi]
      omega
    · intro D C ws h₂ tk hD hC hDC hgrow h1 h6 hws hd h' k F' N' keep
      exact next ws D h' k h1 h6 (fun z hz => (hws z hz).1) F' (words_news F₁ hD hC hDC hws hd N' keep)
  · refine ifF (by rw [e1]; simp only [decide_eq_true_eq]; omega) ?_
    walk_at "lwR"
    have hD := News.isList ‹News _ _ _ ((_, _) :: _)› (.head _)
    have F₁ := ‹Fr _ _ _ _›
    have N₁ := ‹News _ _ _ ((_, _) :: _)›
    refine ⟨F₁, fun p hp => N₁ p (.tail _ hp), words_ask X hroom hh F₁ hD ?_ (by simp) (by simp) (by rfl) (by rfl) (by rfl) (by intro _; rfl) (by intro _; rfl) ?_⟩
    · intro i v hv
      have := Array.mem_of_getElem? hv
      simp at this
      rcases this with rfl | rfl | rfl | rfl <;> exact ⟨_, _, rfl⟩
    · intro D C ws h₂ tk hD hC hDC hgrow h1 h6 hws hd h' k F' N' keep
      exact next ws D h' k h1 h6 (fun z hz => (hws z hz).1) F' (words_news F₁ hD hC hDC hws hd N' keep)
end
section
variable {w : World} {B : Around} {s s₁ : Shared} {E : Value → Shared → Prop} {h₀ : Heap} {L fa D C : Addr} {m : Str → Option Value} {scope : Scope} {env : Env} {cl : List (Str × Addr)} {its : Array Value} {px p1 p2 p3 : Pos} {Fin : Addr → Addr → List Value → Shared → Prop}
theorem comp_triple {T : Addr} {a b c : Str} {v1 v2 v3 : Value} {k : Nat} {Q : Unit → Shared → Prop} (hh : B.handled = none) (hn : s.heap.Ns C m) (hT : s.heap.get? T = some (tupO [v1, v2, v3]))
    (h : ∀ h' tk, h'.Ns C (up c v3 (up b v2 (up a v1 m))) → (∀ b o, b ≠ C → s.heap.get? b = some o → h'.get? b = some o) → Q () { s with heap := h', toks := tk })
    (hk : scope.kind = .function) (ha : (compEnvC scope cl C env).kindOf a = some .local) (hb : (compEnvC scope cl C env).kindOf b = some .local) (hc : (compEnvC scope cl C env).kindOf c = some .local) :
    wpAny (model P0 w) B (assign (.Tuple [.Name a p1, .Name b p2, .Name c p3] k px) (compEnvC scope cl C env) (.ref T)) Q E s := by
  refine assign_Tuple_tuple hh ⟨_, hT, rfl, _, rfl⟩ (by rfl) (by rfl) fun h₁ he => ?_
  have k1 : ∀ b o, s.heap.get? b = some o → h₁.get? b = some o := fun b o e => he b o (Nat.ne_of_lt (Heap.lt_size e)) e
  refine assignInOrder_cons (comp_assign2 (hn.keeps k1) (fun h₂ n2 k2 _ => ?_) hk ha)
  refine assignInOrder_cons (comp_assign2 n2 (fun h₃ n3 k3 _ => ?_) hk hb)
  refine assignInOrder_cons (comp_assign2 n3 (fun h₄ n4 k4 _ => ?_) hk hc)
  exact assignInOrder_nil (h _ _ n4 fun b o hb e => k4 _ _ hb (k3 _ _ hb (k2 _ _ hb (k1 _ _ e))))
set_option maxHeartbeats 1000000 in
theorem triples_ask {elt : Expr} {zs : List WT} {k : Nat} (f : WT → Str) (hh : B.handled = none) (hl : s₁.heap.IsList D (zs.map WT.ref).toArray) (hz : ∀ z ∈ zs, s₁.heap.get? z.a = some z.obj) (hlen : zs.length ≤ 1000)
    (hk : scope.kind = .function) (hx1 : ∀ C, (compEnvC scope cl C env).kindOf "word" = some .local) (hx2 : ∀ C, (compEnvC scope cl C env).kindOf "shape" = some .local) (hx3 : ∀ C, (compEnvC scope cl C env).kindOf "kind" = some .local)
    (ev : ∀ z ∈ zs, ∀ C h m tk (Q' E' : Value → Shared → Prop), h.Ns C m → m "word" = some (.str z.x z.t1) → m "shape" = some (.str z.sh z.t2) → m "kind" = some (.str z.kd z.t3) →
      (∀ t h' tk', Grow h h' → Q' (.str (f z) t) { s₁ with heap := h', toks := tk' }) → wpAny (model P0 w) B (eval elt (compEnvC scope cl C env)) Q' E' { s₁ with heap := h, toks := tk })
    (fin : ∀ D C ys h tk, s₁.heap.get? D = none → s₁.heap.get? C = none → D ≠ C → Grow s₁.heap h → StrsAre ys (zs.map f) → h.get? D = some (lstO ys) → Fin D C ys { s₁ with heap := h, toks := tk }) :
    CompAsk P0 w B env (.Tuple [.Name "word" p1, .Name "shape" p2, .Name "kind" p3] k px) elt [] scope cl Fin (.ref D) s₁ := by
  have hs : (zs.map WT.ref).toArray.size = zs.length := by simp
  refine ask_listT (fun _ i ys _ => StrsAre ys ((zs.take i).map f)) hh hl (by rw [sizeLine_eq, hs]; omega) ?_ (fun _ _ _ => by simpa using StrsAre.nil) (fun _ _ _ _ _ _ x => x) ?_ ?_
  · intro i v hv
    have := Array.mem_of_getElem? hv
    simp only [List.mem_toArray, List.mem_map] at this
    obtain ⟨z, _, rfl⟩ := this
    exact ⟨z.a, rfl⟩
  · intro i v ys h tk C off E' hi hv hoC hoff hbound hgrow hnn hR
    obtain ⟨mC, hn⟩ := hnn
    have hv' : (zs.map WT.ref)[i]? = some v := by simpa using hv
    rw [List.getElem?_map] at hv'
    cases ez : zs[i]? with
    | none => rw [ez] at hv'; cases hv'
    | some z =>
      rw [ez] at hv'
      cases hv'
      have hmem := List.mem_of_getElem? ez
      refine comp_triple (v1 := .str z.x z.t1) (v2 := .str z.sh z.t2) (v3 := .str z.kd z.t3) hh hn (hgrow _ _ (hz z hmem)) (fun h' tk' hn' hk' => ?_) hk (hx1 C) (hx2 C) (hx3 C)
      refine wpAny_tests_nil ?_
      show wpAny _ _ (eval _ _) _ _ _
      refine ev z hmem C h' _ _ _ _ hn' (by rfl) (by rfl) (by rfl) fun t h'' tk'' hg => ?_
      refine ⟨h'', _, rfl, fun b o hb e => hg _ _ (hk' b o hb e), ⟨_, hn'.keeps hg⟩, ?_⟩
      show StrsAre _ _
      rw [List.take_add_one, ez, List.map_append]
      exact StrsAre.snoc' hR _ t
  · intro D C ys h tk off hD hC hoC hDC hgrow hd hR
    refine fin D C ys h tk hD hC hDC hgrow ?_ hd
    rw [hs, List.take_length] at hR
    exact hR
theorem store_cell {x cn : Str} {cs : Scope} {ca : Addr} {ccd : Value} {v : Value} {v₀ : Option Value} {o : Obj} {news rest : List (Addr × Obj)} {cd : Addr} {Q : Unit → Shared → Prop} (F : Fr h₀ L s.heap m) (N : News h₀ L s.heap news) (hc : cl.lookup x = some cd) (hm : (cd, o) ∈ news) (hd : o.data = .cell v₀)
    (hrest : ∀ p ∈ rest, p ∈ news ∧ p.1 ≠ cd) (h : ∀ h' o', Fr h₀ L h' m → News h₀ L h' ((cd, o') :: rest) → o'.data = .cell (some v) → Q () { s with heap := h' })
    (hk : cs.kind = .function) (hx : (envX cn cs L ca ccd cl).kindOf x = some .cell) :
    wpAny (model P0 w) B (storeName (envX cn cs L ca ccd cl) x v) Q E s := by
  have hN := N _ hm
  refine wpAny_storeName_cell hk hx hc ⟨o, hN.1, hd⟩ fun h' hv hs => ?_
  obtain ⟨o', e', d'⟩ := hv
  refine h h' o' (F.change hs hN.2.1 hN.2.2) ?_ d'
  intro p hp
  rcases List.mem_cons.mp hp with rfl | hp
  · exact ⟨e', hN.2⟩
  · have := N p (hrest p hp).1
    exact ⟨(hs.2 _ (hrest p hp).2).trans this.1, this.2⟩
theorem ne_cell {news : List (Addr × Obj)} {h : Heap} {p : Addr × Obj} {c : Addr} {o : Obj} {v : Option Value} (N : News h₀ L h news) (hp : p ∈ news) (hm : (c, o) ∈ news) (hd : o.data = .cell v) (hq : ∀ v, p.2.data ≠ .cell v) : p.1 ≠ c := fun q => by
  have a := (N p hp).1
  have b := (N _ hm).1
  dsimp only at b
  rw [q, b] at a
  cases a
  exact hq _ hd
end
def kindsOf (zs : List WT) : Str := Txt.join "" (zs.map (·.kd))
abbrev M4 (S : Addr) (n : Int) (t : Tok) (sep : Str) (t1 : Tok) (mk : Str) (t2 : Tok) (W : Addr) : Str → Option Value := up "words" (.ref W) (M3 S n t sep t1 mk t2)
abbrev led4 (ws : List WT) (W : Addr) (news : List (Addr × Obj)) : List (Addr × Obj) := (W, lstO (ws.map WT.ref)) :: (ws.map WT.cell ++ news)
theorem news_word {h₀ h : Heap} {L W : Addr} {ws : List WT} {news : List (Addr × Obj)} (N : News h₀ L h (led4 ws W news)) {z : WT} (hz : z ∈ ws) : h.get? z.a = some z.obj :=
  (N (z.a, z.obj) (.tail _ (List.mem_append_left _ (List.mem_map.mpr ⟨z, hz, rfl⟩)))).1
theorem shapes_kd : ∀ p ∈ shapesL, p.2.length ≤ 1 ∧ p.1.length ≤ 11 := by decide +kernel
theorem kinds_sum {zs : List WT} (hg : ∀ z ∈ zs, z.good) : ((zs.map (·.kd)).map (·.length)).sum ≤ zs.length := by
  have := sum_len (n := 1) (l := zs.map (·.kd)) fun x hx => by
    obtain ⟨z, hz, rfl⟩ := List.mem_map.mp hx
    exact (shapes_kd _ (hg z hz).1).1
  simpa using this
section
variable {w : World} {B : Around} {s : Shared} {Ef : Value → Shared → Prop} {Qf : Flow → Shared → Prop} {h₀ h : Heap} {S fa : Addr} {cd : Value} {vs : List Value} {ns : List Int} {tk : Nat} {news : List (Addr × Obj)} {m : Str → Option Value} {o1 o2 o3 : Obj}
set_option maxRecDepth 100000 in
set_option maxHeartbeats 4000000 in
theorem sec4 {n : Int} {t t1 t2 : Tok} {sep mk : Str} {W : Addr} {z0 : WT} {zs : List WT} (X : Tops w h₀) (hh : B.handled = none) (h5 : zs.length ≤ 5) (hg : ∀ z ∈ zs, z.good)
    (F : Fr h₀ h₀.objs.size h (M4 S n t sep t1 mk t2 W)) (c1 : o1.data = .cell none) (c2 : o2.data = .cell none) (c3 : o3.data = .cell none)
    (N : News h₀ h₀.objs.size h (led4 (z0 :: zs) W [(h₀.objs.size + 1 + 1 + 1, o3), (h₀.objs.size + 1 + 1, o2), (h₀.objs.size + 1, o1)]))
    (next : ∀ o1' t4 h' k, o1'.data = .cell (some (.str (kindsOf zs) t4)) → Fr h₀ h₀.objs.size h' (M4 S n t sep t1 mk t2 W) →
       News h₀ h₀.objs.size h' (led4 (z0 :: zs) W [(h₀.objs.size + 1 + 1 + 1, o3), (h₀.objs.size + 1 + 1, o2), (h₀.objs.size + 1, o1')]) →
      wpAny (model P0 w) B (execs (lawBody.drop 5) (lawEnv h₀.objs.size fa cd)) Qf Ef { s with heap := h', toks := k }) :
    wpAny (model P0 w) B (execs (lawBody.drop 4) (lawEnv h₀.objs.size fa cd)) Qf Ef { s with heap := h, toks := tk } := by
  have XK := X.K
  obtain ⟨mg, mb, XT⟩ := X.T
  conv in (List.drop 4 lawBody) => whnf
  refine wpAny_execs_cons ?_
  walk_at "lwR"
  refine comp_E (cl := []) (by with_unfolding_all rfl) (by decide) (by rfl) (by decide) ?_ (by intro _; rfl)
  walk_at "lwR"
  have hW := News.isList N (.head _)
  refine kmk_slice (s := ⟨h, _, _, _, _⟩) F N hW (.int 1 _) .none (fun D h₁ F₁ N₁ _ => ?_) (by with_unfolding_all rfl) (by intro _; rfl) (by rw [sizeLine_eq]; simp; omega)
  have e1 : slicePick (List.map WT.ref (z0 :: zs)).toArray (some 1) none none = (zs.map WT.ref).toArray := by
    rw [kms_pick_eq]; simp [kms_pick, kms_lo, kms_hi]; exact List.take_of_length_le (by simp)
  rw [e1] at N₁
  refine triples_ask (zs := zs) (fun z => z.kd) hh (News.isList N₁ (.head _)) (fun z hz => news_word (fun p hp => N₁ p (.tail _ hp)) (.tail _ hz)) (by omega) (by rfl) (by intro _; rfl) (by intro _; rfl) (by intro _; rfl) ?_ ?_
  · intro z hz C h m tk Q' E' hn a b c k
    exact comp_name hn c (k _ _ _ fun _ _ e => e) (by rfl) (by rfl) (by decide)
  · intro D C ys h₂ tk hD hC hDC hgrow hys hd
    have F₂ := F₁.keeps hgrow
    have N₂ : News h₀ h₀.objs.size h₂ (led4 (z0 :: zs) W [(h₀.objs.size + 1 + 1 + 1, o3), (h₀.objs.size + 1 + 1, o2), (h₀.objs.size + 1, o1)]) := fun p hp => N₁.grown hgrow p (.tail _ hp)
    dsimp only
    walk_at "lwR"
    have hks := kinds_sum hg
    refine join_listW (items := ys.toArray) ⟨_, hd, rfl, _, rfl⟩ (by simpa using hys) (by decide +kernel) (by simp only [List.length_map] at hks ⊢; omega) ?_
    intro t' k'
    dsimp only
    have hm : (h₀.objs.size + 1, o1) ∈ led4 (z0 :: zs) W [(h₀.objs.size + 1 + 1 + 1, o3), (h₀.objs.size + 1 + 1, o2), (h₀.objs.size + 1, o1)] := .tail _ (List.mem_append_right _ (by simp))
    refine store_cell (rest := led4 (z0 :: zs) W [(h₀.objs.size + 1 + 1 + 1, o3), (h₀.objs.size + 1 + 1, o2)]) F₂ N₂ (by rfl) hm c1 ?_ (fun h' o' F' N' d' => ?_) (by rfl) (by rfl)
    · intro p hp
      rcases List.mem_cons.mp hp with rfl | hp
      · exact ⟨.head _, ne_cell N₂ (.head _) hm c1 (fun v q => by cases q)⟩
      · rcases List.mem_append.mp hp with hp | hp
        · have a : p ∈ led4 (z0 :: zs) W [(h₀.objs.size + 1 + 1 + 1, o3), (h₀.objs.size + 1 + 1, o2), (h₀.objs.size + 1, o1)] := .tail _ (List.mem_append_left _ hp)
          refine ⟨a, ne_cell N₂ a hm c1 ?_⟩
          obtain ⟨z, _, rfl⟩ := List.mem_map.mp hp
          intro v q; cases q
        · refine ⟨.tail _ (List.mem_append_right _ (by simp at hp ⊢; rcases hp with h | h <;> simp [h])), ?_⟩
          rcases List.mem_cons.mp hp with rfl | hp
          · exact fun q => absurd (show (h₀.objs.size + 1 + 1 + 1 : Nat) = h₀.objs.size + 1 from q) (by omega)
          · rw [List.mem_singleton.mp hp]
            exact fun q => absurd (show (h₀.objs.size + 1 + 1 : Nat) = h₀.objs.size + 1 from q) (by omega)
    refine next o' _ _ _ d' F' ?_
    intro p hp
    rcases List.mem_cons.mp hp with h | h
    · exact N' p (.tail _ (h ▸ .head _))
    · rcases List.mem_append.mp h with h | h
      · exact N' p (.tail _ (.tail _ (List.mem_append_left _ h)))
      · simp only [List.mem_cons, List.not_mem_nil, or_false] at h
        rcases h with rfl | rfl | rfl
        · exact N' _ (.tail _ (.tail _ (List.mem_append_right _ (by simp))))
        · exact N' _ (.tail _ (.tail _ (List.mem_append_right _ (by simp))))
        · exact N' _ (.head _)
end
def goodL : List Str := ["", "s", "t", "v", "st", "sv", "tv", "stv"]
def goodB (z0 : WT) (zs : List WT) : Bool := (z0.sh != "") && ((!Txt.contains z0.sh "D") && goodL.any (· == kindsOf zs))
abbrev cells3 (L : Addr) (o1 o2 o3 : Obj) : List (Addr × Obj) := [(L + 1 + 1 + 1, o3), (L + 1 + 1, o2), (L + 1, o1)]
abbrev M5 (S : Addr) (n : Int) (t : Tok) (sep : Str) (t1 : Tok) (mk : Str) (t2 : Tok) (W : Addr) (b : Bool) : Str → Option Value := up "good" (.bool b) (M4 S n t sep t1 mk t2 W)
section
variable {w : World} {B : Around} {s : Shared} {Ef : Value → Shared → Prop} {Qf : Flow → Shared → Prop} {h₀ h : Heap} {S fa : Addr} {cd : Value} {vs : List Value} {ns : List Int} {tk : Nat} {news : List (Addr × Obj)} {m : Str → Option Value} {o1 o2 o3 : Obj}
theorem in_led4 {ws : List WT} {W : Addr} {news : List (Addr × Obj)} {p : Addr × Obj} (h : p ∈ news) : p ∈ led4 ws W news := .tail _ (List.mem_append_right _ h)
theorem word_tup {h₀ h : Heap} {L W : Addr} {ws : List WT} {news : List (Addr × Obj)} (N : News h₀ L h (led4 ws W news)) {z : WT} (hz : z ∈ ws) : IsTup h z.a [.str z.x z.t1, .str z.sh z.t2, .str z.kd z.t3].toArray := ⟨_, news_word N hz, rfl, _, rfl⟩
set_option maxRecDepth 100000 in
set_option maxHeartbeats 4000000 in
theorem sec5 {n : Int} {t t1 t2 t4 : Tok} {sep mk : Str} {W : Addr} {z0 : WT} {zs : List WT} (_X : Tops w h₀) (h5 : zs.length ≤ 5) (hg : ∀ z ∈ z0 :: zs, z.good)
    (F : Fr h₀ h₀.objs.size h (M4 S n t sep t1 mk t2 W)) (c1 : o1.data = .cell (some (.str (kindsOf zs) t4)))
    (N : News h₀ h₀.objs.size h (led4 (z0 :: zs) W (cells3 h₀.objs.size o1 o2 o3)))
    (next : ∀ h' k, Fr h₀ h₀.objs.size h' (M5 S n t sep t1 mk t2 W (goodB z0 zs)) → News h₀ h₀.objs.size h' (led4 (z0 :: zs) W (cells3 h₀.objs.size o1 o2 o3)) →
      wpAny (model P0 w) B (execs (lawBody.drop 6) (lawEnv h₀.objs.size fa cd)) Qf Ef { s with heap := h', toks := k }) :
    wpAny (model P0 w) B (execs (lawBody.drop 5) (lawEnv h₀.objs.size fa cd)) Qf Ef { s with heap := h, toks := tk } := by
  conv in (List.drop 5 lawBody) => whnf
  have hsl := (shapes_kd _ (hg z0 (.head _)).1).2
  refine wpAny_execs_cons ?_
  walk_at "lwR"
  refine BoolOp_and ?_
  refine wpAny_Compare1 ?_ (by with_unfolding_all rfl)
  walk_at "lwR"
  refine item_tupleT (word_tup N (.head _)) (by decide) (by decide) (j := 1) (by rfl) (by rfl) ?_ (by with_unfolding_all rfl)
  walk_at "lwR"
  refine PyProof.Rows.ne_str ?_
  walk_at "lwR"
  by_cases g1 : (z0.sh != "") = true
  · refine ifT g1 ?_
    refine BoolOp_and ?_
    refine wpAny_Compare1 ?_ (by with_unfolding_all rfl)
    walk_at "lwR"
    refine item_tupleT (word_tup N (.head _)) (by decide) (by decide) (j := 1) (by rfl) (by rfl) ?_ (by with_unfolding_all rfl)
    refine SB.notContains ?_
    walk_at "lwR"
    by_cases g2 : (!Txt.contains z0.sh "D") = true
    · refine ifT g2 ?_
      refine BoolOp_one ?_
      refine wpAny_Compare1 ?_ (by with_unfolding_all rfl)
      refine nameX_C N (by rfl) (in_led4 (by simp [cells3])) c1 ?_ (by rfl) (by rfl) (by decide)
      walk_at "lwR"
      refine in_list_strs (ys := goodL) (News.isList ‹News _ _ _ ((_, _) :: _)› (.head _)) (by repeat (first | exact StrsAre.nil | refine StrsAre.cons _ _ ?_)) ?_
      walk_at "lwR"
      have N' := ‹News _ _ _ _›
      have e : goodL.any (· == kindsOf zs) = goodB z0 zs := by simp only [goodB, g1, g2, Bool.true_and]
      have F' := ‹Fr _ _ _ _›
      rw [e] at F'
      exact next _ _ F' fun p hp => N' p (.tail _ hp)
    · refine ifF g2 ?_
      walk_at "lwR"
      have e : (!Txt.contains z0.sh "D") = goodB z0 zs := by simp only [goodB, g1, Bool.true_and]; simp only [Bool.not_eq_true] at g2; rw [g2]; rfl
      have F' := ‹Fr _ _ _ _›
      rw [e] at F'
      exact next _ _ F' ‹News _ _ _ _›
  · refine ifF g1 ?_
    walk_at "lwR"
    have e : (z0.sh != "") = goodB z0 zs := by simp only [goodB]; simp only [Bool.not_eq_true] at g1; rw [g1]; rfl
    have F' := ‹Fr _ _ _ _›
    rw [e] at F'
    exact next _ _ F' ‹News _ _ _ _›
end
def textOf (sep : Str) (ws : List WT) (enc mk : Str) : Str := Txt.join sep (ws.map (·.x)) ++ enc ++ mk
abbrev M6 (S : Addr) (n : Int) (t : Tok) (sep : Str) (t1 : Tok) (mk : Str) (t2 : Tok) (W : Addr) (b : Bool) (tx : Str) (t5 : Tok) : Str → Option Value := up "text" (.str tx t5) (M5 S n t sep t1 mk t2 W b)
theorem word_len {z : WT} (h : z.good) : z.x.length ≤ 11 := by
  have a : z.sh.length ≤ 11 := (shapes_kd _ h.1).2
  have b := h.2.len
  have c : z.x.length = z.x.cps.toList.length := by simp [Str.length]
  have d : z.sh.length = z.sh.cps.toList.length := by simp [Str.length]
  omega
theorem words_sum {ws : List WT} (hg : ∀ z ∈ ws, z.good) : ((ws.map (·.x)).map (·.length)).sum ≤ 11 * ws.length := by
  have := sum_len (n := 11) (l := ws.map (·.x)) fun x hx => by
    obtain ⟨z, hz, rfl⟩ := List.mem_map.mp hx
    exact word_len (hg z hz)
  simpa using this
theorem marks_len : ∀ x ∈ marksL, x.length ≤ 5 := by decide +kernel
theorem encs_len : ∀ x ∈ encsL, x.length ≤ 6 := by decide +kernel
theorem sep_len {sep : Str} (h : sep = "_" ∨ sep = "-") : sep.length = 1 := by rcases h with rfl | rfl <;> decide +kernel
def encAt (i : Int) : Str := encsL.getD i.toNat ""
theorem three {i : Int} (h0 : 0 ≤ i) (h1 : i < 3) : i = 0 ∨ i = 1 ∨ i = 2 := by omega
theorem encAt_mem {i : Int} (h0 : 0 ≤ i) (h1 : i < 3) : encAt i ∈ encsL := by
  rcases three h0 h1 with rfl | rfl | rfl <;> decide +kernel
theorem encAt_eq {i : Int} (a b c : Tok) (h0 : 0 ≤ i) (h1 : i < 3) : (List.toArray [Value.str "" a, .str ".UTF-8" b, .str ".8.x" c])[i.toNat]? = some (.str (encAt i) ([a, b, c].getD i.toNat a)) := by
  rcases three h0 h1 with rfl | rfl | rfl <;> rfl
section
variable {w : World} {B : Around} {s : Shared} {Ef : Value → Shared → Prop} {Qf : Flow → Shared → Prop} {h₀ h : Heap} {S fa : Addr} {cd : Value} {vs : List Value} {ns : List Int} {tk : Nat} {news : List (Addr × Obj)} {m : Str → Option Value} {o1 o2 o3 : Obj}
set_option maxRecDepth 100000 in
set_option maxHeartbeats 4000000 in
theorem sec6 {n : Int} {t t1 t2 : Tok} {sep mk : Str} {W : Addr} {ws : List WT} {b : Bool} (_X : Tops w h₀) (hh : B.handled = none) (h6 : ws.length ≤ 6) (hg : ∀ z ∈ ws, z.good) (hsep : sep = ("_" : Str) ∨ sep = ("-" : Str)) (hmk : mk ∈ marksL)
    (F : Fr h₀ h₀.objs.size h (M5 S n t sep t1 mk t2 W b))
    (N : News h₀ h₀.objs.size h (led4 ws W news))
    (next : ∀ (enc : Str) t5 h' k, enc ∈ encsL → Fr h₀ h₀.objs.size h' (M6 S n t sep t1 mk t2 W b (textOf sep ws enc mk) t5) → News h₀ h₀.objs.size h' (led4 ws W news) →
      wpAny (model P0 w) B (execs (lawBody.drop 7) (lawEnv h₀.objs.size fa cd)) Qf Ef { s with heap := h', toks := k }) :
    wpAny (model P0 w) B (execs (lawBody.drop 6) (lawEnv h₀.objs.size fa cd)) Qf Ef { s with heap := h, toks := tk } := by
  conv in (List.drop 6 lawBody) => whnf
  have hs1 := sep_len hsep
  have hm1 := marks_len _ hmk
  have hw1 := words_sum hg
  refine wpAny_execs_cons ?_
  walk_at "lwR"
  refine comp_E (cl := []) (by with_unfolding_all rfl) (by decide) (by rfl) (by decide) ?_ (by intro _; rfl)
  walk_at "lwR"
  refine triples_ask (zs := ws) (fun z => z.x) hh (News.isList N (.head _)) (fun z hz => news_word N hz) (by omega) (by rfl) (by intro _; rfl) (by intro _; rfl) (by intro _; rfl) ?_ ?_
  · intro z hz C h m tk Q' E' hn a b c k
    exact comp_name hn a (k _ _ _ fun _ _ e => e) (by rfl) (by rfl) (by decide)
  intro D C ys h₂ tk hD hC hDC hgrow hys hd
  have F₂ := F.keeps hgrow
  have N₂ : News h₀ h₀.objs.size h₂ (led4 ws W news) := N.grown hgrow
  dsimp only
  walk_at "lwR"
  refine join_listW (items := ys.toArray) ⟨_, hd, rfl, _, rfl⟩ (by simpa using hys) (by omega) (by simp only [List.length_map] at hw1 ⊢; omega) ?_
  intro t' k'
  have hjl : (Txt.join sep (ws.map (·.x))).length ≤ 200 := by
    show (Builtin.Str.glued sep _).length ≤ _
    rw [size_glued, hs1, List.length_map]
    omega
  dsimp only
  walk_at "lwR"
  have h0 := Int.fmod_nonneg_of_pos (n.fdiv 8) (b := 3) (by decide)
  have h1 := Int.fmod_lt_of_pos (n.fdiv 8) (b := 3) (by decide)
  have N₃ := ‹News _ _ _ ((_, listOf _ _) :: _)›
  have hD := News.isList N₃ (.head _)
  have hme := encAt_mem h0 h1
  have hl6 := encs_len _ hme
  refine tail_any hD.typeIs slot_list_getitem.lookup (wpAny_getItem_list hD h0 (by omega) (encAt_eq _ _ _ h0 h1) ?_) (by with_unfolding_all rfl)
  generalize encAt ((n.fdiv 8).fmod 3) = enc at hme hl6 ⊢
  refine PyProof.Rows.add_str (fun t6 k6 => ?_) (by rw [sizeLine_eq]; omega)
  walk_at "lwR"
  refine PyProof.Rows.add_str (fun t7 k7 => ?_) (by rw [sizeLine_eq, Str.length_append]; omega)
  dsimp only
  walk_at "lwR"
  exact next _ _ _ _ hme ‹Fr _ _ _ _› (fun p hp => ‹News _ _ _ ((_, listOf _ _) :: _)› p (.tail _ hp))
end
theorem ve_exc : isSubtype (.type "ValueError") (.type "BaseException") = pure true := PySem.F.isExc_ValueError
section
variable {w : World} {A₀ : Around} {s s' : Shared} {Ef : Value → Shared → Prop} {Qf : Flow → Shared → Prop} {h₀ h : Heap} {outer : List Env} {L e fa : Addr} {cd : Value} {tk : Nat} {news : List (Addr × Obj)} {m : Str → Option Value} {b₀ : Stmt} {suite : List Stmt} {rest : List ExceptHandler} {pos np : Pos}
theorem caughtX (X : Tops w h₀) (K : Below A₀ h₀ outer h₀) (F : Fr h₀ L h m) (hsm : h.UpToSlots s'.heap) (R : RaisedN h₀ (lawEnv L fa cd :: outer) e (.type "ValueError") [] s'.heap)
    (hE : PassesOwnAt (model P0 w) ((A₀.deeper (lawEnv L fa cd)).mark (some (.ref e))) (A₀.deeper (lawEnv L fa cd)) (lawEnv L fa cd) Ef)
    (k : ∀ h', Fr h₀ L h' m → wpAny (model P0 w) ((A₀.deeper (lawEnv L fa cd)).mark (some (.ref e))) (execs (b₀ :: suite) (lawEnv L fa cd)) Qf Ef { s' with heap := h' }) :
    wpAny (model P0 w) (A₀.deeper (lawEnv L fa cd)) (noteFrame (.ref e) (lawEnv L fa cd))
      (fun _ s₂ => wpAny (model P0 w) (A₀.deeper (lawEnv L fa cd)) (setFlight (.ref e) none) (fun _ s₃ =>
        wpAny (model P0 w) (A₀.deeper (lawEnv L fa cd)) (handleBy (.ref e) (lawEnv L fa cd) (.ExceptHandler (some (.Name "ValueError" np)) none (b₀ :: suite) pos :: rest)) Qf Ef s₃) Ef s₂) Ef s' := by
  obtain ⟨mg, mb, XT⟩ := X.T
  obtain ⟨B, a0, hB, hl, hfl⟩ := R
  have hL : B.get? L = none := by
    obtain ⟨_, ⟨L', _, hf, hn', _⟩, _⟩ := hfl.2.2.1
    obtain rfl : L = L' := Option.some.inj hf
    exact hn'
  refine wpAny_looks_onW (Around.frames_deeper K.stack) rfl hfl fun h₄ hheld₄ hsm₄ => ?_
  refine wpAny_landsW hheld₄ fun h₅ hheld hsm₅' => ?_
  have hsm₅ := hsm₄.trans hsm₅'
  have hheld' := flyingW_base hB hheld
  have F₅ := F.of_stays hheld'.1 (hsm.trans hsm₅)
  obtain ⟨ob, hob, hobc⟩ := hheld'.there
  refine wpAny_handleBy_builtin (X := "ValueError") (T := "ValueError") (b := true) PySem.F.isExc_ValueError PySem.F.notTuple_ValueError (by rw [isSubtype_type]; kernel_rfl)
    (Calls.Name_function_global (by rfl) (by rfl) (Calls.loadGlobal_builtin (env := lawEnv L fa cd) (v := .type "ValueError") (XT.g.keeps F₅.keep) (mg_none_of X.K XT.g nsKV') (XT.b.keeps F₅.keep) ((XT.builtins "ValueError" (by decide)).trans B_VE') ⟨rfl, ⟨ob, hob, hobc⟩, ?_⟩) (by decide))
  refine lands_againW hheld fun h₆ hfl₆ hsm₆ => ?_
  have F₆ := F.of_stays (flyingW_base hB hfl₆).1 ((hsm.trans hsm₅).trans hsm₆)
  exact wpAny_passesOwnAt hE (k h₆ F₆)
set_option maxRecDepth 100000 in
set_option maxHeartbeats 4000000 in
theorem sec7 {S W : Addr} {n : Int} {t t1 t2 t5 : Tok} {sep mk tx : Str} {ws : List WT} {b : Bool} {w0 : Str} {wr : List Str} (X : Tops w h₀) (K : Below A₀ h₀ outer h₀) (hroom : (A₀.deeper (lawEnv h₀.objs.size fa cd)).depth < recursionLimit) (hh : (A₀.deeper (lawEnv h₀.objs.size fa cd)).handled = none)
    (hpo : ∀ e, PassesOwnAt (model P0 w) ((A₀.deeper (lawEnv h₀.objs.size fa cd)).mark (some (.ref e))) (A₀.deeper (lawEnv h₀.objs.size fa cd)) (lawEnv h₀.objs.size fa cd) Ef)
    (hsep : sep = ("_" : Str) ∨ sep = ("-" : Str)) (htx : tx.length ≤ 1000) (hw : tx.length ≠ 0 → Txt.split (idOf tx) sep = w0 :: wr) (hwl : wr.length ≤ 900) (hr1 : (reprText (Txt.lower w0)).length ≤ 100000) (hr2 : (reprText (idOf tx)).length ≤ 100000)
    (hfail : parseT tx sep = none → b = false)
    (F : Fr h₀ h₀.objs.size h (M6 S n t sep t1 mk t2 W b tx t5)) (N : News h₀ h₀.objs.size h news)
    (hQ : ∀ h' k m', Fr h₀ h₀.objs.size h' m' → Qf (.ret (.bool true)) { s with heap := h', toks := k })
    (next : ∀ r D us h' k, parseT tx sep = some r → OptsAre us r → Fr h₀ h₀.objs.size h' (up "told" (.ref D) (M6 S n t sep t1 mk t2 W b tx t5)) → News h₀ h₀.objs.size h' ((D, tupO us) :: news) →
      wpAny (model P0 w) (A₀.deeper (lawEnv h₀.objs.size fa cd)) (execs (lawBody.drop 8) (lawEnv h₀.objs.size fa cd)) Qf Ef { s with heap := h', toks := k }) :
    wpAny (model P0 w) (A₀.deeper (lawEnv h₀.objs.size fa cd)) (execs (lawBody.drop 7) (lawEnv h₀.objs.size fa cd)) Qf Ef { s with heap := h, toks := tk } := by
  have XK := X.K
  obtain ⟨mg, mb, XT⟩ := X.T
  conv in (List.drop 7 lawBody) => whnf
  have Kb : Below (A₀.deeper (lawEnv h₀.objs.size fa cd)) h₀ (lawEnv h₀.objs.size fa cd :: outer) h := pushX K F (by rfl) (by rfl)
  refine wpAny_execs_cons ?_
  refine wpAny_Try_except ?_
  refine wpAny_execs_cons ?_
  walk_at "lwR"
  refine nameX_K ‹Fr _ _ _ _› XK XT nsParse ?_ (by rfl) (by rfl) (by decide)
  refine callWith_K (XK.keeps (Fr.keep F)) (by kernel_rfl) ?_ (by rfl) (by rfl)
  walk_at "lwR"
  refine ⟨XK.keeps (Fr.keep F), ?_⟩
  refine parse_spec (s := ⟨h, _, _, _, _⟩) (X.keeps (Fr.keep F)) hroom hh htx (sep_len hsep) hw hwl hr1 hr2 ?_ ?_
  · intro r D us h' k hp hg hn hD ho
    have F₂ := F.keeps hg
    obtain ⟨oL, es, ep, hL, hLd, _⟩ := F.ns
    have N₂ : News h₀ h₀.objs.size h' ((D, tupO us) :: news) := by
      intro p hp
      rcases List.mem_cons.mp hp with rfl | hp
      · refine ⟨hD, fun q => ?_, ?_⟩
        · dsimp only at q; rw [q] at hn; rw [show h.get? h₀.objs.size = some oL from hL] at hn; cases hn
        · cases q : h₀.get? D with
          | none => rfl
          | some o => have := F.keep _ _ q; rw [show h.get? D = none from hn] at this; cases this
      · exact N.grown hg p hp
    dsimp only
    walk_at "lwR"
    exact next _ _ _ _ _ hp ho ‹Fr _ _ _ _› ‹News _ _ _ _›
  · intro hp sc m' g g' e k hsc Fc hx
    refine leave_newK (s' := ⟨g', _, _, _, _⟩) Kb hx Fc (News.nil) ?_ hsc
    intro h' hR hup
    dsimp only
    refine caughtX X K F hup hR (hpo e) fun h'' F' => ?_
    rw [hfail hp] at F'
    dsimp only
    refine wpAny_execs_cons ?_
    walk_at "lwR"
    refine wpAny_UnaryOp ?_
    walk_at "lwR"
    refine not_of ?_
    walk_at "lwR"
    exact hQ _ _ _ F'
end
def normW (z : WT) : Str := if z.kd == "s" then Txt.upper (Txt.item z.x 0) ++ Txt.lower (Txt.slice z.x (some 1) none) else Txt.upper z.x
def normL (z0 : WT) (zs : List WT) : List Str := Txt.lower z0.x :: zs.map normW
abbrev M7 (S : Addr) (n : Int) (t : Tok) (sep : Str) (t1 : Tok) (mk : Str) (t2 : Tok) (W : Addr) (b : Bool) (tx : Str) (t5 : Tok) (D : Addr) : Str → Option Value := up "told" (.ref D) (M6 S n t sep t1 mk t2 W b tx t5)
theorem shapes_s : ∀ p ∈ shapesL, (p.2 == "s") = true → p.1.length = 4 := by decide +kernel
theorem word_len_eq {z : WT} (h : z.good) : z.x.length = z.sh.length := by
  have b := h.2.len
  have c : z.x.length = z.x.cps.toList.length := by simp [Str.length]
  have d : z.sh.length = z.sh.cps.toList.length := by simp [Str.length]
  omega
section
variable {prog : Program} {w : World} {A : Around} {E : Value → Shared → Prop} {s : Shared} {x : Str} {t : Tok} {Q : Value → Shared → Prop} {value slice : Expr} {h₁ : Heap}
theorem slice_sn_G {i : Int} {ui : Tok} (hI : Grow h₁ s.heap) (hsz : x.length ≤ sizeLine) (h : ∀ h' t' k, Grow h₁ h' → Q (.str (Txt.slice x (some i) none) t') { s with heap := h', toks := k })
    (hs : subscripted slice false (.str x t) (.ref s.heap.objs.size) = operate [.ref s.heap.objs.size, .str x t] (getItem (.str x t) (.ref s.heap.objs.size)))
    (ht : ∀ r, letTemporaryGo value (.str x t) r = pure ()) :
    wpAny (model prog w) A (subscriptTail value slice (.str x t) (.ref s.heap.objs.size)) Q E { s with heap := s.heap.push { cls := .type "slice", data := .fields #[.int i ui, .none, .none] } } :=
  tail_of_ItemOn (SBH.sliceItem_sn (P := Grow h₁) (fun _ _ g b o e => Heap.get?_push_of_some _ (g b o e)) hI h hsz) hs ht
end
section
variable {w : World} {B : Around} {s : Shared} {Ef : Value → Shared → Prop} {Qf : Flow → Shared → Prop} {h₀ h : Heap} {S fa : Addr} {cd : Value} {tk : Nat} {news : List (Addr × Obj)} {m : Str → Option Value} {o1 o2 o3 : Obj}
theorem sub_mid (a b c d : Addr × Obj) (r : List (Addr × Obj)) : List.Sublist (a :: d :: r) (a :: b :: c :: d :: r) := List.Sublist.cons_cons _ (.cons _ (.cons _ (List.Sublist.refl _)))
/-- one of the law's three cells is stored -/
theorem store_led {pre cs cs' : List (Addr × Obj)} {ws : List WT} {W cd : Addr} {x cn : Str} {sc : Scope} {ca : Addr} {ccd : Value} {cl : List (Str × Addr)} {v : Value} {v₀ : Option Value} {o : Obj} {s : Shared} {L : Addr} {E : Value → Shared → Prop} {Q : Unit → Shared → Prop}
    (F : Fr h₀ L s.heap m) (N : News h₀ L s.heap (pre ++ led4 ws W cs)) (hc : cl.lookup x = some cd) (hm : (cd, o) ∈ cs) (hd : o.data = .cell v₀)
    (hpre : ∀ p ∈ pre, ∀ v, p.2.data ≠ .cell v) (hcs : ∀ p ∈ cs', p ∈ cs ∧ p.1 ≠ cd)
    (h : ∀ h' o', Fr h₀ L h' m → News h₀ L h' (pre ++ led4 ws W ((cd, o') :: cs')) → o'.data = .cell (some v) → Q () { s with heap := h' })
    (hk : sc.kind = .function) (hx : (envX cn sc L ca ccd cl).kindOf x = some .cell) :
    wpAny (model P0 w) B (storeName (envX cn sc L ca ccd cl) x v) Q E s := by
  have hm' : (cd, o) ∈ pre ++ led4 ws W cs := List.mem_append_right _ (in_led4 hm)
  refine store_cell (rest := pre ++ led4 ws W cs') F N hc hm' hd ?_ (fun h' o' F' N' d' => h h' o' F' ?_ d') hk hx
  · intro p hp
    rcases List.mem_append.mp hp with hp | hp
    · exact ⟨List.mem_append_left _ hp, ne_cell N (List.mem_append_left _ hp) hm' hd (hpre p hp)⟩
    · rcases List.mem_cons.mp hp with rfl | hp
      · have a : (W, lstO (ws.map WT.ref)) ∈ pre ++ led4 ws W cs := List.mem_append_right _ (.head _)
        exact ⟨a, ne_cell N a hm' hd (fun v q => by cases q)⟩
      · rcases List.mem_append.mp hp with hp | hp
        · have a : p ∈ pre ++ led4 ws W cs := List.mem_append_right _ (.tail _ (List.mem_append_left _ hp))
          refine ⟨a, ne_cell N a hm' hd ?_⟩
          obtain ⟨z, _, rfl⟩ := List.mem_map.mp hp
          intro v q; cases q
        · exact ⟨List.mem_append_right _ (in_led4 (hcs p hp).1), (hcs p hp).2⟩
  · intro p hp
    rcases List.mem_append.mp hp with hp | hp
    · exact N' p (.tail _ (List.mem_append_left _ hp))
    · rcases List.mem_cons.mp hp with rfl | hp
      · exact N' _ (.tail _ (List.mem_append_right _ (.head _)))
      · rcases List.mem_append.mp hp with hp | hp
        · exact N' p (.tail _ (List.mem_append_right _ (.tail _ (List.mem_append_left _ hp))))
        · rcases List.mem_cons.mp hp with rfl | hp
          · exact N' _ (.head _)
          · exact N' p (.tail _ (List.mem_append_right _ (in_led4 hp)))
theorem hcs2 {L : Nat} {o1 o2 o3 : Obj} : ∀ p ∈ [(L + 1 + 1 + 1, o3), (L + 1, o1)], p ∈ cells3 L o1 o2 o3 ∧ p.1 ≠ L + 1 + 1 := by
  intro p hp
  rcases List.mem_cons.mp hp with rfl | hp
  · exact ⟨.head _, fun q => absurd (show (L + 1 + 1 + 1 : Nat) = L + 1 + 1 from q) (by omega)⟩
  · rw [List.mem_singleton.mp hp]
    exact ⟨.tail _ (.tail _ (.head _)), fun q => absurd (show (L + 1 : Nat) = L + 1 + 1 from q) (by omega)⟩
theorem hcs3 {L : Nat} {o1 o2 o3 : Obj} : ∀ p ∈ [(L + 1 + 1, o2), (L + 1, o1)], p ∈ cells3 L o1 o2 o3 ∧ p.1 ≠ L + 1 + 1 + 1 := by
  intro p hp
  rcases List.mem_cons.mp hp with rfl | hp
  · exact ⟨.tail _ (.head _), fun q => absurd (show (L + 1 + 1 : Nat) = L + 1 + 1 + 1 from q) (by omega)⟩
  · rw [List.mem_singleton.mp hp]
    exact ⟨.tail _ (.tail _ (.head _)), fun q => absurd (show (L + 1 : Nat) = L + 1 + 1 + 1 from q) (by omega)⟩
theorem perm2 {L : Addr} {o1 o2 o3 : Obj} : ∀ p ∈ cells3 L o1 o2 o3, p ∈ (L + 1 + 1, o2) :: [(L + 1 + 1 + 1, o3), (L + 1, o1)] := fun p hp => by
  simp only [cells3, List.mem_cons, List.not_mem_nil, or_false] at hp ⊢
  rcases hp with h | h | h <;> simp [h]
theorem perm3 {L : Addr} {o1 o2 o3 : Obj} : ∀ p ∈ cells3 L o1 o2 o3, p ∈ (L + 1 + 1 + 1, o3) :: [(L + 1 + 1, o2), (L + 1, o1)] := fun p hp => by
  simp only [cells3, List.mem_cons, List.not_mem_nil, or_false] at hp ⊢
  rcases hp with h | h | h <;> simp [h]
theorem news_cells {L : Addr} {pre cs cs' : List (Addr × Obj)} {ws : List WT} {W : Addr} (N : News h₀ L h (pre ++ led4 ws W cs)) (hp : ∀ p ∈ cs', p ∈ cs) : News h₀ L h (pre ++ led4 ws W cs') := by
  intro p h
  rcases List.mem_append.mp h with h | h
  · exact N p (List.mem_append_left _ h)
  · rcases List.mem_cons.mp h with rfl | h
    · exact N _ (List.mem_append_right _ (.head _))
    · rcases List.mem_append.mp h with h | h
      · exact N p (List.mem_append_right _ (.tail _ (List.mem_append_left _ h)))
      · exact N p (List.mem_append_right _ (in_led4 (hp p h)))
set_option maxRecDepth 100000 in
set_option maxHeartbeats 4000000 in
theorem sec8 {n : Int} {t t1 t2 t5 : Tok} {sep mk tx : Str} {W D : Addr} (_X : Tops w h₀)
    (F : Fr h₀ h₀.objs.size h (M7 S n t sep t1 mk t2 W true tx t5 D))
    (N : News h₀ h₀.objs.size h news)
    (next : ∀ h' k, Fr h₀ h₀.objs.size h' (M7 S n t sep t1 mk t2 W true tx t5 D) → News h₀ h₀.objs.size h' news →
      wpAny (model P0 w) B (execs (lawBody.drop 9) (lawEnv h₀.objs.size fa cd)) Qf Ef { s with heap := h', toks := k }) :
    wpAny (model P0 w) B (execs (lawBody.drop 8) (lawEnv h₀.objs.size fa cd)) Qf Ef { s with heap := h, toks := tk } := by
  conv in (List.drop 8 lawBody) => whnf
  refine wpAny_execs_cons ?_
  walk_at "lwR"
  exact next _ _ F N
set_option maxRecDepth 100000 in
set_option maxHeartbeats 4000000 in
theorem sec9 {n : Int} {t t1 t2 t5 : Tok} {sep mk tx : Str} {W D : Addr} {z0 : WT} {zs : List WT} (X : Tops w h₀) (hh : B.handled = none) (h5 : zs.length ≤ 5) (hg : ∀ z ∈ z0 :: zs, z.good)
    (F : Fr h₀ h₀.objs.size h (M7 S n t sep t1 mk t2 W true tx t5 D)) {vo : List Value} (c2 : o2.data = .cell none)
    (N : News h₀ h₀.objs.size h ((D, tupO vo) :: led4 (z0 :: zs) W (cells3 h₀.objs.size o1 o2 o3)))
    (next : ∀ o2' h' k N1 us, o2'.data = .cell (some (.ref N1)) → StrsAre us (normL z0 zs) → Fr h₀ h₀.objs.size h' (M7 S n t sep t1 mk t2 W true tx t5 D) → News h₀ h₀.objs.size h' ((N1, listOf us.toArray 0) :: (D, tupO vo) :: led4 (z0 :: zs) W (cells3 h₀.objs.size o1 o2' o3)) →
      wpAny (model P0 w) B (execs (lawBody.drop 10) (lawEnv h₀.objs.size fa cd)) Qf Ef { s with heap := h', toks := k }) :
    wpAny (model P0 w) B (execs (lawBody.drop 9) (lawEnv h₀.objs.size fa cd)) Qf Ef { s with heap := h, toks := tk } := by
  conv in (List.drop 9 lawBody) => whnf
  have hl0 := word_len (hg z0 (.head _))
  refine wpAny_execs_cons ?_
  walk_at "lwR"
  refine item_litK (News.isList N (.tail _ (.head _))) (by decide) (by decide) (by rfl) ?_ (by with_unfolding_all rfl)
  walk_at "lwR"
  refine item_tupleT (word_tup (ws := z0 :: zs) (W := W) (news := cells3 h₀.objs.size o1 o2 o3) (fun p hp => N p (.tail _ hp)) (.head _)) (by decide) (by decide) (j := 0) (by rfl) (by rfl) ?_ (by with_unfolding_all rfl)
  walk_at "lwR"
  refine comp_E (cl := []) (by with_unfolding_all rfl) (by decide) (by rfl) (by decide) ?_ (by intro _; rfl)
  walk_at "lwR"
  have F₀ := ‹Fr _ _ _ _›
  have N₀ := ‹News _ _ _ ((_, { cls := .type "list", data := _ }) :: _)›
  have hW' : _ := News.isList N₀ (.tail _ (.tail _ (.head _)))
  refine kmk_slice (s := ⟨_, _, _, _, _⟩) F₀ N₀ hW' (.int 1 _) .none (fun D₁ h₁ F₁ N₁ _ => ?_) (by with_unfolding_all rfl) (by intro _; rfl) (by rw [sizeLine_eq]; simp; omega)
  have e1 : slicePick (List.map WT.ref (z0 :: zs)).toArray (some 1) none none = (zs.map WT.ref).toArray := by
    rw [kms_pick_eq]; simp [kms_pick, kms_lo, kms_hi]; exact List.take_of_length_le (by simp)
  rw [e1] at N₁
  refine triples_ask (zs := zs) normW hh (News.isList N₁ (.head _)) (fun z hz => news_word (ws := z0 :: zs) (W := W) (news := cells3 h₀.objs.size o1 o2 o3) (fun p hp => N₁ p (.tail _ (.tail _ (.tail _ hp)))) (.tail _ hz)) (by omega) (by rfl) (by intro _; rfl) (by intro _; rfl) (by intro _; rfl) ?_ ?_
  · intro z hz C h m tk Q' E' hn a b c k
    have hzl := word_len (hg z (.tail _ hz))
    refine IfExp_ ?_
    refine wpAny_isTrue_Compare1 (comp_name hn c ?_ (by rfl) (by rfl) (by decide)) (by with_unfolding_all rfl)
    walk_at "lwR"
    refine PyProof.Rows.eq_str ?_
    walk_at "lwR"
    by_cases hk : (z.kd == "s") = true
    · refine ifT hk ?_
      have hz4 : z.x.length = 4 := (word_len_eq (hg z (.tail _ hz))).trans (shapes_s _ (hg z (.tail _ hz)).1 hk)
      have e : normW z = Txt.upper (Txt.item z.x 0) ++ Txt.lower (Txt.slice z.x (some 1) none) := if_pos hk
      rw [e] at k
      walk_at "lwR"
      refine comp_name hn a ?_ (by rfl) (by rfl) (by decide)
      walk_at "lwR"
      refine comp_name hn a ?_ (by rfl) (by rfl) (by decide)
      walk_at "lwR"
      refine slice_sn_G (s := ⟨h, _, _, _, _⟩) (h₁ := h) (fun _ _ e => e) (by rw [sizeLine_eq]; omega) (fun h' t' k' g => ?_) (by with_unfolding_all rfl) (by intro _; rfl)
      dsimp only
      have hsl := PyProof.Txt.length_slice_le z.x (some 1) none
      walk_at "lwR"
      refine PyProof.Rows.add_str (fun t7 k7 => ?_) (by rw [sizeLine_eq]; omega)
      exact k _ _ _ g
    · refine ifF hk ?_
      have e : normW z = Txt.upper z.x := if_neg hk
      rw [e] at k
      walk_at "lwR"
      refine comp_name hn a ?_ (by rfl) (by rfl) (by decide)
      walk_at "lwR"
      exact k _ _ _ fun _ _ e => e
  · intro D' C ys h₂ tk hD hC hDC hgrow hys hd
    have F₂ := F₁.keeps hgrow
    have N₂ := N₁.grown hgrow
    have hD' : h₂.IsList D' ys.toArray := ⟨_, hd, rfl, _, rfl⟩
    have hyl := hys.length
    simp only [List.length_map] at hyl
    dsimp only
    refine add_lists F₂ N₂ (News.isList N₂ (.tail _ (.head _))) hD' (fun h₃ F₃ N₃ => ?_) (by rw [sizeLine_eq]; simp only [List.length_cons, List.length_nil]; omega)
    refine store_led (pre := [_, (D, tupO vo)]) (cs' := [(h₀.objs.size + 1 + 1 + 1, o3), (h₀.objs.size + 1, o1)]) (cd := h₀.objs.size + 1 + 1) F₃ (fun p hp => N₃ p (List.Sublist.subset (sub_mid _ _ _ _ _) hp)) (by rfl) (o := o2) (v₀ := none) (by simp [cells3]) c2 ?_ ?_ (fun h₄ o' F₄ N₄ d' => ?_) (by rfl) (by rfl)
    · intro p hp v q
      rcases List.mem_cons.mp hp with rfl | hp
      · cases q
      · rw [List.mem_singleton.mp hp] at q; cases q
    · exact hcs2
    · exact next o' h₄ _ _ _ d' (.cons _ _ hys) F₄ (news_cells N₄ perm2)
end
def sgn3 : List Str := ["t", "s", "v"]
def dueO (kk : Str) (nl : List Str) (c : Str) : Option Str := if Txt.contains kk c = true then some (nl.getD (1 + Txt.find kk c).toNat "") else none
def tailO (mk : Str) : List (Option Str) := if 1 < mk.length then [some (Txt.slice mk (some 1) none)] else []
def dueL (kk : Str) (nl : List Str) (mk : Str) : List (Option Str) := [nl[0]?] ++ sgn3.map (dueO kk nl) ++ tailO mk
theorem sign3 : ∀ {i c : Nat}, ("tsv" : Str).cps[i]? = some c → sgn3[i]? = some (⟨#[c]⟩ : Str)
  | 0, c, h => by have : c = 116 := by simpa using (show some 116 = some c from h).symm
                  subst this; decide +kernel
  | 1, c, h => by have : c = 115 := by simpa using (show some 115 = some c from h).symm
                  subst this; decide +kernel
  | 2, c, h => by have : c = 118 := by simpa using (show some 118 = some c from h).symm
                  subst this; decide +kernel
  | i + 3, c, h => by
    have hs : ("tsv" : Str).cps.size = 3 := by decide +kernel
    rw [Array.getElem?_eq_none (by omega)] at h
    cases h
theorem find_in : ∀ k ∈ goodL, ∀ c ∈ sgn3, Txt.contains k c = true → 0 ≤ Txt.find k c ∧ Txt.find k c < k.length := by decide +kernel
theorem goodL_len : ∀ k ∈ goodL, k.length ≤ 3 := by decide +kernel
theorem OptsAre.snoc {v : Value} {o : Option Str} (h : OptIs v o) : ∀ {vs : List Value} {os : List (Option Str)}, OptsAre vs os → OptsAre (vs ++ [v]) (os ++ [o])
  | _, _, .nil => .cons h .nil
  | _, _, .cons a r => .cons a (r.snoc h)
theorem StrsAre.at' : ∀ {vs : List Value} {ws : List Str}, StrsAre vs ws → ∀ {i : Nat}, i < ws.length → ∃ t, vs[i]? = some (.str (ws.getD i "") t)
  | _, _, .nil, i, h => absurd h (Nat.not_lt_zero _)
  | _, _, .cons x t _, 0, _ => ⟨t, rfl⟩
  | _, _, .cons x t r, i + 1, h => by simpa using StrsAre.at' r (i := i) (by simpa using h)
section
variable {prog : Program} {w : World} {A : Around} {E : Value → Shared → Prop} {s : Shared} {scope : Scope} {cl : List (Str × Addr)} {C c : Addr} {env : Env} {x : Str} {px : Pos} {v : Value} {Q : Value → Shared → Prop}
theorem comp_cell (hc : cl.lookup x = some c) (hv : s.heap.IsCell c (some v)) (h : Q v s)
    (hk : scope.kind = .function) (hx : (compEnvC scope cl C env).kindOf x = some .cell) (hd : (x == ("__debug__" : Str)) = false) :
    wpAny (model prog w) A (eval (.Name x px) (compEnvC scope cl C env)) Q E s :=
  wpAny_Name (wpAny_loadName_cell (by simpa [compEnvC, relabel] using hk) hx hc hv h) hd
end
section
variable {w : World} {B : Around} {s : Shared} {Ef : Value → Shared → Prop} {Qf : Flow → Shared → Prop} {h₀ h : Heap} {S fa : Addr} {cd : Value} {tk : Nat} {news : List (Addr × Obj)} {m : Str → Option Value} {o1 o2 o3 : Obj}
theorem due_end {W D N1 l1 l2 : Addr} {x0 : Addr × Obj} {ws : List WT} {us vs1 ws2 vo : List Value} {Q : Unit → Shared → Prop} (F : Fr h₀ h₀.objs.size s.heap m)
    (N : News h₀ h₀.objs.size s.heap ((l2, { cls := .type "list", data := .seq ws2.toArray }) :: (l1, { cls := .type "list", data := .seq vs1.toArray }) :: x0 :: (N1, listOf us.toArray 0) :: (D, tupO vo) :: led4 ws W (cells3 h₀.objs.size o1 o2 o3)))
    (hz : vs1.length + ws2.length ≤ 1000) (c3 : o3.data = .cell none)
    (next : ∀ o3' h' k D2, o3'.data = .cell (some (.ref D2)) → Fr h₀ h₀.objs.size h' m → News h₀ h₀.objs.size h' ((D2, listOf (vs1 ++ ws2).toArray 0) :: (N1, listOf us.toArray 0) :: (D, tupO vo) :: led4 ws W (cells3 h₀.objs.size o1 o2 o3')) → Q () { s with heap := h', toks := k }) :
    wpAny (model P0 w) B (binaryOp .Add (.ref l1) (.ref l2)) (fun v s₁ => wpAny (model P0 w) B (storeName (lawEnv h₀.objs.size fa cd) "due" v) Q Ef s₁) Ef s := by
  refine add_lists F N (News.isList N (.tail _ (.head _))) (News.isList N (.head _)) (fun h₃ F₃ N₃ => ?_) (by rw [sizeLine_eq]; omega)
  have N₅ : News h₀ h₀.objs.size h₃ ([(s.heap.objs.size, { cls := .type "list", data := .seq (vs1 ++ ws2).toArray }), (N1, listOf us.toArray 0), (D, tupO vo)] ++ led4 ws W (cells3 h₀.objs.size o1 o2 o3)) := by
    intro p hp
    rcases List.mem_cons.mp hp with rfl | hp
    · exact N₃ _ (.head _)
    · exact N₃ p (.tail _ (.tail _ (.tail _ (.tail _ hp))))
  refine store_led (cs' := [(h₀.objs.size + 1 + 1, o2), (h₀.objs.size + 1, o1)]) (cd := h₀.objs.size + 1 + 1 + 1) F₃ N₅ (by rfl) (o := o3) (v₀ := none) (.head _) c3 ?_ ?_ (fun h₄ o' F₄ N₄ d' => ?_) (by rfl) (by rfl)
  · intro p hp v q
    rcases List.mem_cons.mp hp with rfl | hp
    · cases q
    · rcases List.mem_cons.mp hp with rfl | hp
      · cases q
      · rw [List.mem_singleton.mp hp] at q; cases q
  · exact hcs3
  · exact next o' h₄ _ _ d' F₄ (news_cells N₄ perm3)
set_option maxRecDepth 100000 in
set_option maxHeartbeats 4000000 in
theorem sec10 {n : Int} {t t1 t2 t4 t5 : Tok} {sep mk tx kk : Str} {W D N1 : Addr} {z0 : WT} {zs : List WT} {us : List Value} {nl : List Str} {n0 : Str} (X : Tops w h₀) (hh : B.handled = none) (hmk : mk ∈ marksL) (hkk : kk ∈ goodL) (hnl : nl.length = kk.length)
    (F : Fr h₀ h₀.objs.size h (M7 S n t sep t1 mk t2 W true tx t5 D)) {vo : List Value} (c1 : o1.data = .cell (some (.str kk t4))) (c2 : o2.data = .cell (some (.ref N1))) (c3 : o3.data = .cell none) (hus : StrsAre us (n0 :: nl))
    (N : News h₀ h₀.objs.size h ((N1, listOf us.toArray 0) :: (D, tupO vo) :: led4 (z0 :: zs) W (cells3 h₀.objs.size o1 o2 o3)))
    (next : ∀ o3' h' k D2 vs, o3'.data = .cell (some (.ref D2)) → OptsAre vs (dueL kk (n0 :: nl) mk) → Fr h₀ h₀.objs.size h' (M7 S n t sep t1 mk t2 W true tx t5 D) →
      News h₀ h₀.objs.size h' ((D2, listOf vs.toArray 0) :: (N1, listOf us.toArray 0) :: (D, tupO vo) :: led4 (z0 :: zs) W (cells3 h₀.objs.size o1 o2 o3')) →
      wpAny (model P0 w) B (execs (lawBody.drop 11) (lawEnv h₀.objs.size fa cd)) Qf Ef { s with heap := h', toks := k }) :
    wpAny (model P0 w) B (execs (lawBody.drop 10) (lawEnv h₀.objs.size fa cd)) Qf Ef { s with heap := h, toks := tk } := by
  have XK := X.K
  obtain ⟨mg, mb, XT⟩ := X.T
  have hk3 := goodL_len _ hkk
  conv in (List.drop 10 lawBody) => whnf
  have hm1 := marks_len _ hmk
  cases hus with
  | cons _ u0 hus =>
  rename_i us
  refine wpAny_execs_cons ?_
  walk_at "lwR"
  refine nameX_C N (by rfl) (.tail _ (.tail _ (in_led4 (by simp [cells3])))) c2 ?_ (by rfl) (by rfl) (by decide)
  walk_at "lwR"
  refine comp_E (cl := [("normal", h₀.objs.size + 1 + 1), ("kinds", h₀.objs.size + 1)]) (by with_unfolding_all rfl) (by decide) (by rfl) (by decide) ?_ (by intro _; rfl)
  walk_at "lwR"
  have F₁ := ‹Fr _ _ _ _›
  have N₁ := ‹News _ _ _ ((_, { cls := .type "list", data := _ }) :: _)›
  refine ask_strN (fun _ i ys _ => OptsAre ys ((sgn3.take i).map (dueO kk (n0 :: nl)))) hh (by decide +kernel) (by decide +kernel) (fun _ _ _ => .nil) (fun _ _ _ _ _ _ x => x) ?_ ?_
  · rintro i v ys h tk C off E' hi ⟨c, u, hc, rfl⟩ hoC hoff _ hgrow ⟨mC, hn⟩ hR
    have hsg := sign3 hc
    have hmem := List.mem_of_getElem? hsg
    refine comp_assign2 hn (fun h' hn' hk' _ => ?_) (by rfl) (by rfl)
    refine wpAny_tests_nil ?_
    show wpAny _ _ (eval _ _) _ _ _
    have kup : ∀ p ∈ (_ : List (Addr × Obj)), h'.get? p.1 = some p.2 := fun p hp => by
      have a := (N₁ p hp).1
      exact hk' _ _ (fun q => hoff _ _ a (q ▸ hoC)) (hgrow _ _ a)
    have hkc : h'.IsCell (h₀.objs.size + 1) (some (.str kk t4)) := ⟨o1, kup (h₀.objs.size + 1, o1) (.tail _ (.tail _ (.tail _ (in_led4 (by simp [cells3]))))), c1⟩
    have hnc : h'.IsCell (h₀.objs.size + 1 + 1) (some (.ref N1)) := ⟨o2, kup (h₀.objs.size + 1 + 1, o2) (.tail _ (.tail _ (.tail _ (in_led4 (by simp [cells3]))))), c2⟩
    have hnl' : h'.IsList N1 (List.toArray (.str n0 u0 :: us)) := ⟨_, kup (N1, listOf (List.toArray (.str n0 u0 :: us)) 0) (.tail _ (.head _)), rfl, _, rfl⟩
    have step : ∀ (a : Heap) (b : Nat) (v : Value) k, OptIs v (dueO kk (n0 :: nl) ⟨#[c]⟩) → Turned ⟨a, s.gens, s.drawn, b, s.os⟩ C h (fun ys _ => OptsAre ys ((sgn3.take (i + 1)).map (dueO kk (n0 :: nl)))) (ys ++ [v]) { s with heap := h', toks := k } := fun a b v k ho => by
      refine ⟨h', k, rfl, hk', ⟨_, hn'⟩, ?_⟩
      rw [List.take_add_one, hsg, List.map_append]
      exact OptsAre.snoc ho hR
    refine IfExp_ ?_
    refine wpAny_isTrue_Compare1 (comp_name hn' (if_pos rfl) ?_ (by rfl) (by rfl) (by decide)) (by with_unfolding_all rfl)
    refine comp_cell (by rfl) hkc ?_ (by rfl) (by rfl) (by decide)
    refine SB.contains ?_
    walk_at "lwR"
    by_cases hct : Txt.contains kk ⟨#[c]⟩ = true
    · refine ifT hct ?_
      have hf := find_in _ hkk _ hmem hct
      walk_at "lwR"
      refine comp_cell (by rfl) hnc ?_ (by rfl) (by rfl) (by decide)
      walk_at "lwR"
      refine comp_cell (by rfl) hkc ?_ (by rfl) (by rfl) (by decide)
      refine GM.find ?_
      walk_at "lwR"
      refine comp_name hn' (if_pos rfl) ?_ (by rfl) (by rfl) (by decide)
      walk_at "lwR"
      refine SC.find ?_
      refine PyProof.Rows.add_int ?_
      obtain ⟨tv, hv⟩ := StrsAre.at' (StrsAre.cons n0 u0 hus) (i := (1 + Txt.find kk ⟨#[c]⟩).toNat) (by simp only [List.length_cons]; omega)
      refine item_listL hnl' (by omega) (by omega) hv ?_ (by with_unfolding_all rfl) (by intro _; rfl)
      refine step _ _ _ _ ?_
      rw [dueO, if_pos hct]
      exact .some _ _
    · refine ifF hct ?_
      walk_at "lwR"
      refine step _ _ _ _ ?_
      rw [dueO, if_neg hct]
      exact .none
  · intro D' C ys h₂ tk off hD hC hoC hDC hgrow hd hR
    have F₂ := F₁.keeps hgrow
    have N₂ := N₁.grown hgrow
    have hR' : OptsAre ys (sgn3.map (dueO kk (n0 :: nl))) := hR
    have hyl := hR'.len
    have hyl3 : (sgn3.map (dueO kk (n0 :: nl))).length = 3 := rfl
    have hD' : h₂.IsList D' ys.toArray := ⟨_, hd, rfl, _, rfl⟩
    dsimp only
    refine add_lists F₂ N₂ (News.isList N₂ (.head _)) hD' (fun h₃ F₃ N₃ => ?_) (by rw [sizeLine_eq]; simp only [List.length_cons, List.length_nil]; omega)
    clear F₂ F₁ F N₂ N₁
    walk_at "lwR"
    refine PyProof.Rows.gt_int ?_
    walk_at "lwR"
    have F₃' := F₃
    by_cases hm2 : 1 < mk.length
    · refine ifT (by simp only [decide_eq_true_eq]; omega) ?_
      walk_at "lwR"
      refine slice_strN_sn_len (s := ⟨h₃, _, _, _, _⟩) F₃ N₃ (fun h₄ t8 k8 F₄ N₄ _ => ?_) (by with_unfolding_all rfl) (by intro _; rfl) (by rw [sizeLine_eq]; omega)
      clear F₃ N₃ F₃'
      dsimp only
      walk_at "lwR"
      refine due_end ‹Fr _ _ _ _› ‹News _ _ _ _› (by simp only [List.cons_append, List.nil_append, List.length_cons, List.length_nil]; omega) c3 ?_
      intro o3' h' k D2 d' F' N'
      refine next o3' _ _ D2 _ d' ?_ F' N'
      rw [dueL, tailO, if_pos hm2]
      exact (OptsAre.cons (.some _ _) hR').app (.cons (.some _ _) .nil)
    · refine ifF (by simp only [decide_eq_true_eq]; omega) ?_
      walk_at "lwR"
      refine due_end ‹Fr _ _ _ _› ‹News _ _ _ _› (by simp only [List.cons_append, List.nil_append, List.length_cons, List.length_nil]; omega) c3 ?_
      intro o3' h' k D2 d' F' N'
      refine next o3' _ _ D2 _ d' ?_ F' N'
      rw [dueL, tailO, if_neg hm2]
      exact (OptsAre.cons (.some _ _) hR').app .nil
end
theorem nsMax {w : World} : nsIn (hd.heap_39 w.params) mainGlobals "max" = some none := by kernel_rfl
theorem nsRange {w : World} : nsIn (hd.heap_39 w.params) mainGlobals "range" = some none := by kernel_rfl
theorem nsList {w : World} : nsIn (hd.heap_39 w.params) mainGlobals "list" = some none := by kernel_rfl
theorem B_max : bootBuiltins "max" = some (.builtin "max") := by decide +kernel
theorem B_range : bootBuiltins "range" = some (.type "range") := by decide +kernel
theorem B_list : bootBuiltins "list" = some (.type "list") := by decide +kernel
def wholeOf (sep : Str) (nl : List Str) (mk : Str) : Str := Txt.join sep nl ++ (if 1 < mk.length then mk else "")
abbrev M8 (S : Addr) (n : Int) (t : Tok) (sep : Str) (t1 : Tok) (mk : Str) (t2 : Tok) (W : Addr) (b : Bool) (tx : Str) (t5 : Tok) (D : Addr) (wh : Str) (t6 : Tok) : Str → Option Value := up "whole" (.str wh t6) (M7 S n t sep t1 mk t2 W b tx t5 D)
theorem ints_snoc : ∀ {vs : List Value} {ns : List Int}, IntsAre vs ns → ∀ n t, IntsAre (vs ++ [.int n t]) (ns ++ [n]) := by
  intro vs ns h
  induction h with
  | nil => intro n t; exact .cons n t .nil
  | cons a u _ ih => intro n t; exact .cons a u (ih n t)
section
variable {w : World} {B : Around} {s : Shared} {Ef : Value → Shared → Prop} {Qf : Flow → Shared → Prop} {h₀ h : Heap} {S fa : Addr} {cd : Value} {tk : Nat} {news : List (Addr × Obj)} {m : Str → Option Value} {o1 o2 o3 : Obj}
set_option maxRecDepth 100000 in
set_option maxHeartbeats 4000000 in
theorem sec11 {n : Int} {t t1 t2 t5 : Tok} {sep mk tx : Str} {W D N1 : Addr} {ws : List WT} {us : List Value} {nl : List Str} {x0 x1 : Addr × Obj} (X : Tops w h₀) (hsep : sep = ("_" : Str) ∨ sep = ("-" : Str)) (hmk : mk ∈ marksL) (hnl : nl.length ≤ 6) (hnb : ∀ x ∈ nl, x.length ≤ 100)
    (F : Fr h₀ h₀.objs.size h (M7 S n t sep t1 mk t2 W true tx t5 D)) (c2 : o2.data = .cell (some (.ref N1))) (hus : StrsAre us nl)
    (N : News h₀ h₀.objs.size h (x0 :: (N1, listOf us.toArray 0) :: x1 :: led4 ws W (cells3 h₀.objs.size o1 o2 o3)))
    (next : ∀ h' k t6, Fr h₀ h₀.objs.size h' (M8 S n t sep t1 mk t2 W true tx t5 D (wholeOf sep nl mk) t6) →
      News h₀ h₀.objs.size h' (x0 :: (N1, listOf us.toArray 0) :: x1 :: led4 ws W (cells3 h₀.objs.size o1 o2 o3)) →
      wpAny (model P0 w) B (execs (lawBody.drop 12) (lawEnv h₀.objs.size fa cd)) Qf Ef { s with heap := h', toks := k }) :
    wpAny (model P0 w) B (execs (lawBody.drop 11) (lawEnv h₀.objs.size fa cd)) Qf Ef { s with heap := h, toks := tk } := by
  have XK := X.K
  obtain ⟨mg, mb, XT⟩ := X.T
  conv in (List.drop 11 lawBody) => whnf
  have hm1 := marks_len _ hmk
  have hs1 := sep_len hsep
  have hsum := sum_len hnb
  refine wpAny_execs_cons ?_
  walk_at "lwR"
  refine nameX_C N (by rfl) (.tail _ (.tail _ (.tail _ (in_led4 (by simp [cells3]))))) c2 ?_ (by rfl) (by rfl) (by decide)
  walk_at "lwR"
  refine join_listW (News.isList N (.tail _ (.head _))) (by simpa using hus) (by omega) (by omega) ?_
  intro t' k'
  have hjl : (Txt.join sep nl).length ≤ 1000 := by
    show (Builtin.Str.glued sep _).length ≤ _
    rw [size_glued, hs1]
    omega
  dsimp only
  walk_at "lwR"
  refine PyProof.Rows.gt_int ?_
  walk_at "lwR"
  by_cases hm2 : 1 < mk.length
  · refine ifT (by simp only [decide_eq_true_eq]; omega) ?_
    walk_at "lwR"
    refine PyProof.Rows.add_str (fun t6 k6 => ?_) (by rw [sizeLine_eq]; omega)
    dsimp only
    walk_at "lwR"
    have e : Txt.join sep nl ++ mk = wholeOf sep nl mk := by rw [wholeOf, if_pos hm2]
    have F' := ‹Fr _ _ _ _›
    rw [e] at F'
    exact next _ _ _ F' ‹News _ _ _ _›
  · refine ifF (by simp only [decide_eq_true_eq]; omega) ?_
    walk_at "lwR"
    refine PyProof.Rows.add_str (fun t6 k6 => ?_) (by rw [sizeLine_eq]; have : (Str.ofString "").length = 0 := rfl; omega)
    dsimp only
    walk_at "lwR"
    have e : Txt.join sep nl ++ "" = wholeOf sep nl mk := by rw [wholeOf, if_neg hm2]
    have F' := ‹Fr _ _ _ _›
    rw [e] at F'
    exact next _ _ _ F' ‹News _ _ _ _›
set_option maxRecDepth 100000 in
set_option maxHeartbeats 4000000 in
theorem sec12 {n : Int} {t t1 t2 t5 t6 : Tok} {sep mk tx wh : Str} {W D D2 : Addr} {ws : List WT} {vs : List Value} {os : List (Option Str)} {n0 : Str} {x0 x1 : Addr × Obj} (X : Tops w h₀) (hh : B.handled = none) (ho6 : os.length ≤ 6)
    (F : Fr h₀ h₀.objs.size h (M8 S n t sep t1 mk t2 W true tx t5 D wh t6)) (c3 : o3.data = .cell (some (.ref D2))) (hvs : OptsAre vs (some n0 :: os))
    (N : News h₀ h₀.objs.size h ((D2, listOf vs.toArray 0) :: x0 :: x1 :: led4 ws W (cells3 h₀.objs.size o1 o2 o3)))
    (next : ∀ (M : Nat) T h' k, 1 ≤ M → M ≤ (some n0 :: os).length → (∀ (j : Nat) x, (some n0 :: os)[j]? = some (some x) → j < M) → Fr h₀ h₀.objs.size h' (up "least" (.ref T) (M8 S n t sep t1 mk t2 W true tx t5 D wh t6)) →
      News h₀ h₀.objs.size h' ((T, tupO (vs.take M)) :: (D2, listOf vs.toArray 0) :: x0 :: x1 :: led4 ws W (cells3 h₀.objs.size o1 o2 o3)) →
      wpAny (model P0 w) B (execs (lawBody.drop 13) (lawEnv h₀.objs.size fa cd)) Qf Ef { s with heap := h', toks := k }) :
    wpAny (model P0 w) B (execs (lawBody.drop 12) (lawEnv h₀.objs.size fa cd)) Qf Ef { s with heap := h, toks := tk } := by
  have XK := X.K
  obtain ⟨mg, mb, XT⟩ := X.T
  conv in (List.drop 12 lawBody) => whnf
  have hvl := hvs.len
  simp only [List.length_cons] at hvl
  refine wpAny_execs_cons ?_
  walk_at "lwR"
  refine nameX_C N (by rfl) (.tail _ (.tail _ (.tail _ (in_led4 (by simp [cells3]))))) c3 ?_ (by rfl) (by rfl) (by decide)
  walk_at "lwR"
  refine nameX_B F XK XT nsMax B_max (by decide) ?_ (by rfl) (by rfl) (by decide)
  walk_at "lwR"
  refine comp_E (cl := [("due", h₀.objs.size + 1 + 1 + 1)]) (by with_unfolding_all rfl) (by decide) (by rfl) (by decide) ?_ (by intro _; rfl)
  walk_at "lwR"
  refine nameX_B F XK XT nsRange B_range (by decide) ?_ (by rfl) (by rfl) (by decide)
  walk_at "lwR"
  refine nameX_C N (by rfl) (.tail _ (.tail _ (.tail _ (in_led4 (by simp [cells3]))))) c3 ?_ (by rfl) (by rfl) (by decide)
  walk_at "lwR"
  have hDl := News.isList N (.head _)
  refine len_list (s := ⟨h, _, _, _, _⟩) hDl (by simp only [List.size_toArray]; omega) ?_
  walk_at "lwR"
  have esz : (vs.toArray.size : Int) = ((os.length + 1 : Nat) : Int) := by rw [List.size_toArray, hvl]
  rw [esz]
  refine range1_rows (s := ⟨h, _, _, _, _⟩) F N (fun h₁ k₁ t₁ u₁ v₁ hr F₁ N₁ _ => ?_)
  refine ask_rangeN (fun _ i ys _ => ∃ l : List Int, IntsAre ys l ∧ (∀ a ∈ l, ∃ k : Nat, k < i ∧ a = (k : Int) + 1) ∧ (∀ (k : Nat) x, k < i → (some n0 :: os)[k]? = some (some x) → ((k : Int) + 1) ∈ l)) hh hr (by omega)
    (fun _ _ _ => ⟨[], .nil, (fun _ h => (nomatch h)), fun k _ h => absurd h (Nat.not_lt_zero _)⟩) (fun _ _ _ _ _ _ x => x) ?_ ?_
  · rintro i v ys h tk C off E' hi ⟨tv, rfl⟩ hoC hoff _ hgrow ⟨mC, hn⟩ ⟨l, hl, hl1, hl2⟩
    refine comp_assign2 hn (fun h' hn' hk' _ => ?_) (by rfl) (by rfl)
    refine wpAny_tests_one ?_
    have kup : ∀ p ∈ (_ : List (Addr × Obj)), h'.get? p.1 = some p.2 := fun p hp => by
      have a := (N₁ p hp).1
      exact hk' _ _ (fun q => hoff _ _ a (q ▸ hoC)) (hgrow _ _ a)
    have hdc : h'.IsCell (h₀.objs.size + 1 + 1 + 1) (some (.ref D2)) := ⟨o3, kup (h₀.objs.size + 1 + 1 + 1, o3) (.tail _ (.tail _ (.tail _ (in_led4 (by simp [cells3]))))), c3⟩
    have hdl : h'.IsList D2 vs.toArray := ⟨_, kup (D2, listOf vs.toArray 0) (.head _), rfl, _, rfl⟩
    have hiv : i < vs.length := by omega
    obtain ⟨o, eo, ov⟩ := hvs.at (List.getElem?_eq_getElem hiv)
    refine wpAny_isTrue_Compare1 ?_ (by with_unfolding_all rfl)
    refine Subscript_ ?_
    refine comp_cell (by rfl) hdc ?_ (by rfl) (by rfl) (by decide)
    refine comp_name hn' (if_pos rfl) ?_ (by rfl) (by rfl) (by decide)
    refine item_listL hdl (by omega) (by omega) (x := vs[i]) (by simpa using hiv) ?_ (by with_unfolding_all rfl) (by intro _; rfl)
    walk_at "lwR"
    generalize vs[i] = vi at ov
    cases ov with
    | none =>
      refine isnot_none_none ?_
      walk_at "lwR"
      refine ⟨h', _, rfl, hk', ⟨_, hn'⟩, l, hl, fun a ha => ?_, fun k x hk e => ?_⟩
      · obtain ⟨k, h1, h2⟩ := hl1 a ha
        exact ⟨k, by omega, h2⟩
      · by_cases hki : k = i
        · subst hki; rw [eo] at e; cases e
        · exact hl2 k x (by omega) e
    | some x t =>
      refine isnot_str_none ?_
      walk_at "lwR"
      refine comp_name hn' (if_pos rfl) ?_ (by rfl) (by rfl) (by decide)
      walk_at "lwR"
      refine PyProof.Rows.add_int ?_
      refine ⟨h', _, rfl, hk', ⟨_, hn'⟩, l ++ [(i : Int) + 1], ints_snoc hl _ _, fun a ha => ?_, fun k x hk e => ?_⟩
      · rcases List.mem_append.mp ha with ha | ha
        · obtain ⟨k, h1, h2⟩ := hl1 a ha
          exact ⟨k, by omega, h2⟩
        · exact ⟨i, by omega, List.mem_singleton.mp ha⟩
      · by_cases hki : k = i
        · subst hki; exact List.mem_append_right _ (.head _)
        · exact List.mem_append_left _ (hl2 k x (by omega) e)
  · rintro D' C ys h₂ tk off hD hC hoC hDC hgrow hd ⟨l, hl, hl1, hl2⟩
    have F₂ := F₁.keeps hgrow
    have N₂ := N₁.grown hgrow
    have hlen : 0 < l.length := List.length_pos_of_mem (hl2 0 n0 (by omega) rfl)
    dsimp only
    walk_at "lwR"
    refine max_list_N hh F₂ N₂ (l := D') (vs := ys) ⟨_, hd, rfl, _, rfl⟩ hl hlen (fun h₃ M tM k₃ F₃ N₃ hM hmax => ?_)
    obtain ⟨kM, hkM, rfl⟩ := hl1 M hM
    clear F N F₁ N₁ F₂ N₂
    dsimp only
    walk_at "lwR"
    refine kmk_slice (s := ⟨h₃, _, _, _, _⟩) F₃ N₃ (News.isList N₃ (.head _)) .none (.int _ _) (fun D₄ h₄ F₄ N₄ _ => ?_) (by with_unfolding_all rfl) (by intro _; rfl) (by rw [sizeLine_eq]; simp only [List.size_toArray]; omega)
    have e5 : slicePick vs.toArray none (some ((kM : Int) + 1)) none = (vs.take (kM + 1)).toArray := slicePick_upto vs.toArray (kM + 1) (by simp only [List.size_toArray]; omega)
    rw [e5] at N₄
    clear F₃ N₃
    dsimp only
    walk_at "lwR"
    refine call_tuple_list (s := ⟨h₄, _, _, _, _⟩) (News.isList N₄ (.head _)) (fun h₅ g₅ => ?_) (by rw [sizeLine_eq]; simp only [List.size_toArray, List.length_take]; omega)
    have F₅ := (F₄.keeps g₅).push { cls := .type "tuple", data := .seq (vs.take (kM + 1)).toArray }
    have N₅ := (N₄.grown g₅).push (F₄.keeps g₅) { cls := .type "tuple", data := .seq (vs.take (kM + 1)).toArray }
    clear F₄ N₄ g₅
    dsimp only at F₅ N₅ ⊢
    walk_at "lwR"
    have N₆ := ‹News _ _ _ _›
    refine next (kM + 1) _ _ _ (by omega) (by simp only [List.length_cons]; omega) (fun j x e => ?_) ‹Fr _ _ _ _› (fun p hp => ?_)
    · have := hmax _ (hl2 j x (by have := (List.getElem?_eq_some_iff.mp e).1; simp only [List.length_cons] at this; omega) e)
      omega
    · rcases List.mem_cons.mp hp with rfl | hp
      · exact N₆ _ (.head _)
      · exact N₆ p (.tail _ (.tail _ hp))
end
def optD : Option Str → PyData
  | some x => .str x
  | none => .none
theorem opt_reads {h : Heap} : ∀ {vs : List Value} {os : List (Option Str)}, OptsAre vs os → ReadsAll h vs (os.map optD) []
  | _, _, .nil => .nil
  | _, _, .cons .none r => readsAll_cons_val Reads.none (opt_reads r)
  | _, _, .cons (.some x t) r => readsAll_cons_val (Reads.str x t) (opt_reads r)
abbrev OkL (os : List (Option Str)) : Prop := ∀ x, some x ∈ os → PyData.strOk x = true
theorem opt_lay : ∀ os : List (Option Str), OkL os → PyData.canLayAll0 (os.map optD) = true
  | [], _ => rfl
  | none :: r, h => by simp [PyData.canLayAll0, PyData.canLay0, opt_lay r (fun x hx => h x (.tail _ hx)), optD]
  | some x :: r, h => by simp [PyData.canLayAll0, PyData.canLay0, opt_lay r (fun x hx => h x (.tail _ hx)), optD, h x (.head _)]
theorem opt_depth : ∀ os : List (Option Str), PyData.depthAll (os.map optD) = 0
  | [] => rfl
  | none :: r => by simp [PyData.depthAll, PyData.depth, opt_depth r, optD]
  | some x :: r => by simp [PyData.depthAll, PyData.depth, opt_depth r, optD]
theorem opt_eqv : ∀ os : List (Option Str), PyData.eqvAll (os.map optD) (os.map optD) = true
  | [] => rfl
  | none :: r => by simp [PyData.eqvAll, PyData.eqv, opt_eqv r, optD]
  | some x :: r => by simp [PyData.eqvAll, PyData.eqv, opt_eqv r, optD]
theorem opt_shL (os : List (Option Str)) (h : OkL os) : SeqAt.shaped (.list (os.map optD)) = true := by simp [SeqAt.shaped, PyData.canLay0, PyData.depth, opt_lay os h, opt_depth]
theorem opt_shT (os : List (Option Str)) (h : OkL os) : SeqAt.shaped (.tuple (os.map optD)) = true := by simp [SeqAt.shaped, PyData.canLay0, PyData.depth, opt_lay os h, opt_depth]
theorem opts_take : ∀ {vs : List Value} {os : List (Option Str)}, OptsAre vs os → ∀ M, OptsAre (vs.take M) (os.take M)
  | _, _, .nil, M => by simpa using OptsAre.nil
  | _, _, .cons a r, 0 => .nil
  | _, _, .cons a r, M + 1 => .cons a (opts_take r M)
theorem getD_take {r : List (Option Str)} {M : Nat} (h : ∀ (j : Nat) x, r[j]? = some (some x) → j < M) (j : Nat) : (r.take M).getD j none = r.getD j none := by
  rw [List.getD_eq_getElem?_getD, List.getD_eq_getElem?_getD, List.getElem?_take]
  by_cases hj : j < M
  · rw [if_pos hj]
  · rw [if_neg hj]
    cases e : r[j]? with
    | none => rfl
    | some o => cases o with
      | none => rfl
      | some x => exact absurd (h j x e) hj
section
variable {prog : Program} {w : World} {A : Around} {E : Value → Shared → Prop} {s : Shared} {a b : Addr} {xs ys : List Value} {os : List (Option Str)} {Q : Value → Shared → Prop} {n k : Nat}
theorem ne_lists (ha : s.heap.get? a = some (listOf xs.toArray n)) (hb : s.heap.get? b = some (listOf ys.toArray k)) (hx : OptsAre xs os) (hy : OptsAre ys os) (hok : OkL os) (hu : A.units + 64 < cLine) (h : Q (.bool false) s) :
    wpAny (model prog w) A (compareOp .NotEq (.ref a) (.ref b)) Q E s :=
  ne_dataH (reads_list_at ha rfl rfl (opt_reads hx)) (reads_list_at hb rfl rfl (opt_reads hy)) (opt_shL os hok) (opt_shL os hok) hu (by rw [PyData.eqv, opt_eqv]; exact h)
theorem ne_tups (ha : s.heap.get? a = some (tupO xs)) (hb : s.heap.get? b = some (tupO ys)) (hx : OptsAre xs os) (hy : OptsAre ys os) (hok : OkL os) (hu : A.units + 64 < cLine) (h : Q (.bool false) s) :
    wpAny (model prog w) A (compareOp .NotEq (.ref a) (.ref b)) Q E s :=
  ne_dataH (reads_tuple_at ha rfl rfl (opt_reads hx)) (reads_tuple_at hb rfl rfl (opt_reads hy)) (opt_shT os hok) (opt_shT os hok) hu (by rw [PyData.eqv, opt_eqv]; exact h)
end
section
variable {w : World} {B : Around} {s : Shared} {Ef : Value → Shared → Prop} {Qf : Flow → Shared → Prop} {h₀ h : Heap} {S fa : Addr} {cd : Value} {tk : Nat} {news : List (Addr × Obj)} {m : Str → Option Value} {o1 o2 o3 : Obj}
set_option maxRecDepth 100000 in
set_option maxHeartbeats 4000000 in
theorem sec13 {n : Int} {t t1 t2 t5 t6 : Tok} {sep mk tx wh w0 : Str} {wr : List Str} {W D D2 T : Addr} {ws : List WT} {vs vo lv : List Value} {r : List (Option Str)} {x0 : Addr × Obj} (X : Tops w h₀) (hroom : B.depth < recursionLimit) (hh : B.handled = none) (hu : B.units + 64 < cLine)
    (hsep : sep = ("_" : Str) ∨ sep = ("-" : Str)) (htx : wh.length ≤ 1000) (hw : wh.length ≠ 0 → Txt.split (idOf wh) sep = w0 :: wr) (hwl : wr.length ≤ 900) (hr1 : (reprText (Txt.lower w0)).length ≤ 100000) (hr2 : (reprText (idOf wh)).length ≤ 100000)
    (hpw : parseT wh sep = some r) (hr6 : r.length ≤ 6) (hok : OkL r)
    (F : Fr h₀ h₀.objs.size h (up "least" (.ref T) (M8 S n t sep t1 mk t2 W true tx t5 D wh t6))) (c3 : o3.data = .cell (some (.ref D2))) (hvs : OptsAre vs r) (hvo : OptsAre vo r)
    (N : News h₀ h₀.objs.size h ((T, tupO lv) :: (D2, listOf vs.toArray 0) :: x0 :: (D, tupO vo) :: led4 ws W (cells3 h₀.objs.size o1 o2 o3)))
    (next : ∀ h' k, Fr h₀ h₀.objs.size h' (up "least" (.ref T) (M8 S n t sep t1 mk t2 W true tx t5 D wh t6)) →
      News h₀ h₀.objs.size h' ((T, tupO lv) :: (D2, listOf vs.toArray 0) :: x0 :: (D, tupO vo) :: led4 ws W (cells3 h₀.objs.size o1 o2 o3)) →
      wpAny (model P0 w) B (execs (lawBody.drop 14) (lawEnv h₀.objs.size fa cd)) Qf Ef { s with heap := h', toks := k }) :
    wpAny (model P0 w) B (execs (lawBody.drop 13) (lawEnv h₀.objs.size fa cd)) Qf Ef { s with heap := h, toks := tk } := by
  have XK := X.K
  obtain ⟨mg, mb, XT⟩ := X.T
  conv in (List.drop 13 lawBody) => whnf
  have hvo6 := hvo.len
  refine wpAny_execs_cons ?_
  walk_at "lwR"
  refine nameX_B F XK XT nsList B_list (by decide) ?_ (by rfl) (by rfl) (by decide)
  walk_at "lwR"
  refine list_copyKT (s := ⟨h, _, _, _, _⟩) F N (News.isTup N (.tail _ (.tail _ (.tail _ (.head _))))) (fun D₁ c h₁ F₁ N₁ _ => ?_) (by rw [sizeLine_eq]; simp only [List.size_toArray]; omega)
  clear F N
  dsimp only
  walk_at "lwR"
  refine nameX_C N₁ (by rfl) (.tail _ (.tail _ (.tail _ (.tail _ (.tail _ (in_led4 (by simp [cells3]))))))) c3 ?_ (by rfl) (by rfl) (by decide)
  refine ne_lists (s := ⟨h₁, _, _, _, _⟩) (News.get N₁ (.head _)) (News.get N₁ (.tail _ (.tail _ (.head _)))) hvo hvs hok hu ?_
  walk_at "lwR"
  refine nameX_K F₁ XK XT nsParse ?_ (by rfl) (by rfl) (by decide)
  refine callWith_K (XK.keeps (Fr.keep F₁)) (by kernel_rfl) ?_ (by rfl) (by rfl)
  walk_at "lwR"
  refine ⟨XK.keeps (Fr.keep F₁), ?_⟩
  refine parse_spec (s := ⟨h₁, _, _, _, _⟩) (X.keeps (Fr.keep F₁)) hroom hh htx (sep_len hsep) hw hwl hr1 hr2 ?_ (fun hp => by rw [hpw] at hp; cases hp)
  intro r' D' us h₂ k hp hg hn hD ho
  rw [hpw] at hp
  cases hp
  have F₂ := F₁.keeps hg
  have N₂ := N₁.grown hg
  clear F₁ N₁
  dsimp only
  walk_at "lwR"
  refine ne_tups (s := ⟨h₂, _, _, _, _⟩) hD (News.get N₂ (.tail _ (.tail _ (.tail _ (.tail _ (.head _)))))) ho hvo hok hu ?_
  walk_at "lwR"
  exact next _ _ F₂ fun p hp => N₂ p (.tail _ hp)
set_option maxRecDepth 100000 in
set_option maxHeartbeats 4000000 in
theorem sec14 {n : Int} {t t1 t2 t5 t6 : Tok} {sep mk tx wh : Str} {W D T : Addr} {M : Nat} {vs vo : List Value} {r : List (Option Str)} {x0 x1 : Addr × Obj} (X : Tops w h₀) (hroom : B.depth < recursionLimit) (hh : B.handled = none)
    (hsep : sep = ("_" : Str) ∨ sep = ("-" : Str)) (hr5 : r.length ≤ 5) (hr1 : 1 ≤ r.length) (hM1 : 1 ≤ M) (hMj : ∀ (j : Nat) x, r[j]? = some (some x) → j < M) (hlen : ∀ x, some x ∈ r → x.length ≤ 5000)
    (hid : identF sep (r.getD 0 none) (r.getD 1 none) (r.getD 2 none) (r.getD 3 none) (r.getD 4 none) = wh)
    (F : Fr h₀ h₀.objs.size h (up "least" (.ref T) (M8 S n t sep t1 mk t2 W true tx t5 D wh t6))) (hvs : OptsAre vs r) (hvo : OptsAre vo r)
    (N : News h₀ h₀.objs.size h ((T, tupO (vs.take M)) :: x0 :: x1 :: (D, tupO vo) :: news))
    (hQ : ∀ h' k m', Fr h₀ h₀.objs.size h' m' → Qf (.ret (.bool true)) { s with heap := h', toks := k }) :
    wpAny (model P0 w) B (execs (lawBody.drop 14) (lawEnv h₀.objs.size fa cd)) Qf Ef { s with heap := h, toks := tk } := by
  have XK := X.K
  obtain ⟨mg, mb, XT⟩ := X.T
  conv in (List.drop 14 lawBody) => whnf
  refine wpAny_execs_cons ?_
  walk_at "lwR"
  refine BoolOp_and ?_
  refine wpAny_Compare1 ?_ (by with_unfolding_all rfl)
  walk_at "lwR"
  refine nameX_K F XK XT nsIdent ?_ (by rfl) (by rfl) (by decide)
  refine callWith_K (XK.keeps (Fr.keep F)) (by kernel_rfl) ?_ (by rfl) (by rfl)
  walk_at "lwR"
  refine ⟨XK.keeps (Fr.keep F), ?_⟩
  refine ident_spec (s := ⟨h, _, _, _, _⟩) (X.keeps (Fr.keep F)) hroom hh (News.get N (.tail _ (.tail _ (.tail _ (.head _))))) hvo hr1 hr5 (sep_len hsep) hlen ?_
  intro h₁ t7 k hg
  rw [hid]
  have F₁ := F.keeps hg
  have N₁ := N.grown hg
  clear F N
  dsimp only
  walk_at "lwR"
  refine PyProof.Rows.eq_str ?_
  walk_at "lwR"
  refine ifT (by simp) ?_
  refine BoolOp_one ?_
  refine wpAny_Compare1 ?_ (by with_unfolding_all rfl)
  walk_at "lwR"
  refine nameX_K F₁ XK XT nsIdent ?_ (by rfl) (by rfl) (by decide)
  refine callWith_K (XK.keeps (Fr.keep F₁)) (by kernel_rfl) ?_ (by rfl) (by rfl)
  walk_at "lwR"
  refine ⟨XK.keeps (Fr.keep F₁), ?_⟩
  have htk : OptsAre (vs.take M) (r.take M) := opts_take hvs M
  have hsub : ∀ x, some x ∈ r.take M → x.length ≤ 5000 := fun x hx => hlen x (List.mem_of_mem_take hx)
  refine ident_spec (s := ⟨h₁, _, _, _, _⟩) (X.keeps (Fr.keep F₁)) hroom hh (News.get N₁ (.head _)) htk (by rw [List.length_take]; omega) (by rw [List.length_take]; omega) (sep_len hsep) hsub ?_
  intro h₂ t8 k₂ hg₂
  have hgD : ∀ j, (r.take M).getD j none = r.getD j none := getD_take hMj
  rw [hgD, hgD, hgD, hgD, hgD, hid]
  have F₂ := F₁.keeps hg₂
  dsimp only
  walk_at "lwR"
  refine PyProof.Rows.eq_str ?_
  walk_at "lwR"
  have e : (wh == wh) = true := by simp
  rw [e]
  exact hQ _ _ _ F₂
end
theorem str_eq {x y : Str} (h : x.cps.toList = y.cps.toList) : x = y := Str.ext' (Array.toList_inj.mp h)
theorem at_one {x : Str} {c i : Nat} : StrLaws.At x ⟨#[c]⟩ x.length i ↔ x.cps.toList[i]? = some c := by
  have e1 : (⟨#[c]⟩ : Str).length = 1 := rfl
  have e2 : x.length = x.cps.size := rfl
  unfold StrLaws.At Builtin.Str.subAt
  rw [e1, e2, beq_iff_eq]
  constructor
  · rintro ⟨h1, h2⟩
    have hi : i < x.cps.size := by omega
    have := congrArg (fun a : Array Nat => a[0]?) h2
    simp only [Array.getElem?_extract] at this
    have h3 : x.cps[i]? = some c := by
      simp [hi] at this
      rw [Array.getElem?_eq_getElem hi]
      exact congrArg some this.2
    simpa using h3
  · intro h
    have hi : i < x.cps.size := by have := (List.getElem?_eq_some_iff.mp h).1; simpa using this
    refine ⟨by omega, ?_⟩
    apply Array.ext
    · simp; omega
    · intro j h1 h2
      have : j = 0 := by simp at h2; omega
      subst this
      have h3 : x.cps[i]? = some c := by simpa using h
      rw [Array.getElem?_eq_getElem hi] at h3
      simpa using Option.some.inj h3
theorem sub_to {x : Str} {a b : List Nat} (h : x.cps.toList = a ++ b) : Builtin.Str.strSub x 0 a.length = ⟨a.toArray⟩ := by
  refine str_eq ?_
  show (x.cps.extract 0 a.length).toList = _
  simp [h]
theorem sub_from {x : Str} {a b : List Nat} (h : x.cps.toList = a ++ b) : Builtin.Str.strSub x a.length x.length = ⟨b.toArray⟩ := by
  refine str_eq ?_
  show (x.cps.extract a.length x.cps.size).toList = _
  have : x.cps.size = (a ++ b).length := by rw [← h]; simp
  simp [h, this]
theorem first_at {x : Str} {a b : List Nat} {c i : Nat} (h : x.cps.toList = a ++ c :: b) (ha : c ∉ a) (h1 : x.cps.toList[i]? = some c) (h2 : ∀ k, k < i → x.cps.toList[k]? ≠ some c) : i = a.length := by
  rw [h] at h1
  have h3 := h2 a.length
  rw [h] at h3
  have h4 : (a ++ c :: b)[a.length]? = some c := by simp
  have hle : i ≤ a.length := Nat.le_of_not_lt fun q => h3 q h4
  rcases Nat.lt_or_eq_of_le hle with q | q
  · rw [List.getElem?_append_left q] at h1
    exact absurd (List.mem_of_getElem? h1) ha
  · exact q
theorem occ_yes {x : Str} {a b : List Nat} {c limit : Nat} (hl : 1 ≤ limit) (h : x.cps.toList = a ++ c :: b) (ha : c ∉ a) : ∃ r, Builtin.Str.occurrences x ⟨#[c]⟩ 0 x.length limit = a.length :: r := by
  rcases StrLaws.occ_head x ⟨#[c]⟩ limit hl with ⟨_, hn⟩ | ⟨i, r, e, hi, hk⟩
  · exact absurd (at_one.mpr (by rw [h]; simp)) (hn a.length)
  · have := first_at h ha (at_one.mp hi) fun k hk' q => hk k hk' (at_one.mpr q)
    exact ⟨r, this ▸ e⟩
theorem part_yes {x : Str} {a b : List Nat} {c : Nat} (h : x.cps.toList = a ++ c :: b) (ha : c ∉ a) : Txt.partition x ⟨#[c]⟩ = (⟨a.toArray⟩, ⟨#[c]⟩, ⟨b.toArray⟩) := by
  obtain ⟨r, e⟩ := occ_yes (limit := 1) (Nat.le_refl _) h ha
  unfold Txt.partition
  rw [e]
  have h' : x.cps.toList = (a ++ [c]) ++ b := by rw [h]; simp
  have e1 := sub_to h
  have e2 := sub_from h'
  rw [List.length_append] at e2
  show (Builtin.Str.strSub x 0 a.length, _, Builtin.Str.strSub x (a.length + 1) x.length) = _
  rw [e1]
  exact congrArg (fun z => (_, _, z)) e2
theorem part_no {x : Str} {c : Nat} (h : c ∉ x.cps.toList) : Txt.partition x ⟨#[c]⟩ = (x, Str.empty, Str.empty) := by
  unfold Txt.partition
  rcases StrLaws.occ_head x ⟨#[c]⟩ 1 (Nat.le_refl _) with ⟨e, _⟩ | ⟨i, r, _, hi, _⟩
  · rw [e]
  · exact absurd (List.mem_of_getElem? (at_one.mp hi)) h
theorem hasS_one {x : Str} {c : Nat} : hasS x ⟨#[c]⟩ = decide (c ∈ x.cps.toList) := StrLaws.found_one x c
theorem splitMax_first {x : Str} {a b : List Nat} (h : x.cps.toList = a ++ 46 :: b) (ha : 46 ∉ a) : (Txt.splitMax x ⟨#[46]⟩ 1).getD 0 Str.empty = ⟨a.toArray⟩ := by
  have hlen : x.length = a.length + 1 + b.length := by
    show x.cps.size = _
    have : x.cps.size = x.cps.toList.length := by simp
    rw [this, h]; simp; omega
  obtain ⟨r, e⟩ := occ_yes (limit := 1) (Nat.le_refl _) h ha
  unfold Txt.splitMax
  have c1 : (decide (x.length < (⟨#[46]⟩ : Str).length) || decide (Builtin.Str.strKind x < Builtin.Str.strKind (⟨#[46]⟩ : Str))) = false := by
    have k1 : Builtin.Str.strKind (⟨#[46]⟩ : Str) = 1 := by decide +kernel
    have k2 : 1 ≤ Builtin.Str.strKind x := by
      unfold Builtin.Str.strKind
      split
      · exact Nat.le_refl _
      · split <;> decide
    have k3 : (⟨#[46]⟩ : Str).length = 1 := rfl
    rw [k1, k3, decide_eq_false (by omega), decide_eq_false (by omega)]
    rfl
  rw [if_neg (by rw [c1]; decide)]
  change (if (Builtin.Str.occurrences x ⟨#[46]⟩ 0 x.length 1).isEmpty = true then [x] else Builtin.Str.partsBetween x (Builtin.Str.occurrences x ⟨#[46]⟩ 0 x.length 1) 1).getD 0 Str.empty = _
  rw [e, if_neg (by simp), StrLaws.partsBetween_eq]
  exact sub_to h
theorem join_cps (c : Nat) : ∀ xs : List Str, (Txt.join ⟨#[c]⟩ xs).cps.toList = List.intercalate [c] (xs.map fun x => x.cps.toList) := by
  intro xs
  show (Builtin.Str.glued _ xs).cps.toList = _
  rw [StrLaws.glued_eq_join]
  induction xs with
  | nil => rfl
  | cons x r ih =>
    cases r with
    | nil => simp [Str.join, List.intercalate]
    | cons y r =>
      show ((x ++ ⟨#[c]⟩ ++ Str.join ⟨#[c]⟩ (y :: r)).cps).toList = _
      have : (x ++ ⟨#[c]⟩ ++ Str.join ⟨#[c]⟩ (y :: r)).cps = x.cps ++ #[c] ++ (Str.join ⟨#[c]⟩ (y :: r)).cps := rfl
      rw [this]
      simp only [Array.toList_append, ih]
      simp [List.intercalate, List.intersperse]
theorem inter_cons (c : Nat) (a b : List Nat) (r : List (List Nat)) : List.intercalate [c] (a :: b :: r) = a ++ c :: List.intercalate [c] (b :: r) := by
  simp [List.intercalate]
theorem inter_one (c : Nat) (a : List Nat) : List.intercalate [c] [a] = a := by simp [List.intercalate]
theorem first_cut {c : Nat} : ∀ {a b x y : List Nat}, c ∉ a → c ∉ b → a ++ c :: x = b ++ c :: y → a = b ∧ x = y
  | [], [], x, y, _, _, h => by simpa using h
  | [], d :: b, x, y, _, hb, h => by
    simp at h
    exact absurd (by rw [h.1]; exact .head _) hb
  | d :: a, [], x, y, ha, _, h => by
    simp at h
    exact absurd (by rw [← h.1]; exact .head _) ha
  | d :: a, e :: b, x, y, ha, hb, h => by
    simp only [List.cons_append, List.cons.injEq] at h
    obtain ⟨h1, h2⟩ := first_cut (fun q => ha (.tail _ q)) (fun q => hb (.tail _ q)) h.2
    exact ⟨by rw [h.1, h1], h2⟩
theorem inter_inj {c : Nat} : ∀ {as bs : List (List Nat)}, as ≠ [] → bs ≠ [] → (∀ a ∈ as, c ∉ a) → (∀ b ∈ bs, c ∉ b) → List.intercalate [c] as = List.intercalate [c] bs → as = bs
  | [], _, h, _, _, _, _ => absurd rfl h
  | _, [], _, h, _, _, _ => absurd rfl h
  | [a], [b], _, _, _, _, h => by rw [inter_one, inter_one] at h; rw [h]
  | [a], b :: b' :: r, _, _, ha, _, h => by
    rw [inter_one, inter_cons] at h
    exact absurd (h ▸ List.mem_append_right _ (.head _)) (ha a (.head _))
  | a :: a' :: r, [b], _, _, _, hb, h => by
    rw [inter_one, inter_cons] at h
    exact absurd (h ▸ List.mem_append_right _ (.head _)) (hb b (.head _))
  | a :: a' :: r, b :: b' :: r', _, _, ha, hb, h => by
    rw [inter_cons, inter_cons] at h
    obtain ⟨h1, h2⟩ := first_cut (ha a (.head _)) (hb b (.head _)) h
    have := inter_inj (by simp) (by simp) (fun x hx => ha x (.tail _ hx)) (fun x hx => hb x (.tail _ hx)) h2
    rw [h1, this]
theorem cps_inj : ∀ {xs ys : List Str}, xs.map (fun x => x.cps.toList) = ys.map (fun x => x.cps.toList) → xs = ys
  | [], [], _ => rfl
  | [], _ :: _, h => by simp at h
  | _ :: _, [], h => by simp at h
  | x :: xs, y :: ys, h => by
    simp only [List.map_cons, List.cons.injEq] at h
    rw [str_eq h.1, cps_inj h.2]
theorem split_join {c : Nat} {xs : List Str} (hne : xs ≠ []) (hf : ∀ x ∈ xs, c ∉ x.cps.toList) : Txt.split (Txt.join ⟨#[c]⟩ xs) ⟨#[c]⟩ = xs := by
  have h1 := congrArg (fun z : Str => z.cps.toList) (StrLaws.join_split (Txt.join ⟨#[c]⟩ xs) ⟨#[c]⟩)
  have h2 : (Str.join ⟨#[c]⟩ (Txt.split (Txt.join ⟨#[c]⟩ xs) ⟨#[c]⟩)) = Txt.join ⟨#[c]⟩ (Txt.split (Txt.join ⟨#[c]⟩ xs) ⟨#[c]⟩) := (StrLaws.glued_eq_join _ _).symm
  rw [h2, join_cps, join_cps] at h1
  have h3 := inter_inj (c := c) (by
      have := split_pos (Txt.join ⟨#[c]⟩ xs) ⟨#[c]⟩
      intro q
      rw [List.map_eq_nil_iff.mp q] at this
      simp at this) (by simpa using hne) (by
      intro a ha
      obtain ⟨x, hx, rfl⟩ := List.mem_map.mp ha
      exact StrLaws.split_free _ c x hx) (by
      intro a ha
      obtain ⟨x, hx, rfl⟩ := List.mem_map.mp ha
      exact hf x hx) h1
  exact cps_inj h3
/-- neither a separator nor a point nor a sign before a modifier -/
def Clean (x : Str) : Prop := ∀ c ∈ x.cps.toList, c ≠ 45 ∧ c ≠ 95 ∧ c ≠ 46 ∧ c ≠ 64 ∧ c < 128
theorem mem_join {c d : Nat} {xs : List Str} (h : d ∈ (Txt.join ⟨#[c]⟩ xs).cps.toList) : d = c ∨ ∃ x ∈ xs, d ∈ x.cps.toList := by
  rw [join_cps] at h
  induction xs with
  | nil => simp [List.intercalate] at h
  | cons x r ih =>
    cases r with
    | nil =>
      simp only [List.map_cons, List.map_nil, inter_one] at h
      exact .inr ⟨x, .head _, h⟩
    | cons y r =>
      simp only [List.map_cons, inter_cons] at h
      rcases List.mem_append.mp h with h | h
      · exact .inr ⟨x, .head _, h⟩
      · rcases List.mem_cons.mp h with h | h
        · exact .inl h
        · rcases ih h with h | ⟨z, hz, h⟩
          · exact .inl h
          · exact .inr ⟨z, .tail _ hz, h⟩
def modM (mk : Str) : Str := ⟨(mk.cps.toList.drop 1).toArray⟩
theorem enc_form : ∀ e ∈ encsL, e.cps.toList = [] ∨ (e.cps.toList.head? = some 46 ∧ 64 ∉ e.cps.toList) := by decide +kernel
theorem mk_form : ∀ k ∈ marksL, k.cps.toList = [] ∨ k.cps.toList.head? = some 64 := by decide +kernel
theorem head_form {l : List Nat} {c : Nat} (h : l.head? = some c) : l = c :: l.drop 1 := by
  cases l with
  | nil => cases h
  | cons a r => cases h; rfl
theorem text_cps (j e k : Str) : (j ++ e ++ k).cps.toList = j.cps.toList ++ e.cps.toList ++ k.cps.toList := by
  show (j.cps ++ e.cps ++ k.cps).toList = _
  simp
theorem text_parts {j enc mk : Str} (hj : ∀ c ∈ j.cps.toList, c ≠ 46 ∧ c ≠ 64) (he : enc ∈ encsL) (hm : mk ∈ marksL) : idOf (j ++ enc ++ mk) = j ∧ modOf (j ++ enc ++ mk) = modM mk := by
  have at1 : ("@" : Str) = ⟨#[64]⟩ := by decide +kernel
  have dot : ("." : Str) = ⟨#[46]⟩ := by decide +kernel
  have hj46 : 46 ∉ j.cps.toList := fun h => (hj _ h).1 rfl
  have hj64 : 64 ∉ j.cps.toList := fun h => (hj _ h).2 rfl
  have he64 : 64 ∉ enc.cps.toList := by
    rcases enc_form _ he with h | h
    · rw [h]; simp
    · exact h.2
  have hp : Txt.partition (j ++ enc ++ mk) "@" = (⟨(j.cps.toList ++ enc.cps.toList).toArray⟩, (Txt.partition (j ++ enc ++ mk) "@").2.1, modM mk) := by
    rw [at1]
    rcases mk_form _ hm with h | h
    · rw [part_no (by rw [text_cps, h]; simp [hj64, he64])]
      refine Prod.ext (str_eq ?_) (Prod.ext rfl (str_eq ?_))
      · rw [text_cps, h]; simp
      · simp [modM, h, Str.empty]
    · rw [part_yes (a := j.cps.toList ++ enc.cps.toList) (b := mk.cps.toList.drop 1) (by rw [text_cps, ← head_form h]) (by simp [hj64, he64])]
      rfl
  have e1 : (Txt.partition (j ++ enc ++ mk) "@").1 = ⟨(j.cps.toList ++ enc.cps.toList).toArray⟩ := by rw [hp]
  constructor
  · unfold idOf
    rw [e1, dot, hasS_one]
    rcases enc_form _ he with h | h
    · rw [if_neg (by simp [h, hj46])]
      exact str_eq (by simp [h])
    · have h' := head_form h.1
      rw [if_pos (by simp only [decide_eq_true_eq]; rw [h']; simp)]
      rw [splitMax_first (a := j.cps.toList) (b := enc.cps.toList.drop 1) (by simp only; rw [← h']) hj46]
  · unfold modOf
    rw [hp]
def letS : List Nat := [97, 98, 121, 122, 65, 66, 89, 90]
def digS : List Nat := [49, 57, 48, 53]
/-- a text of the signs that a shape asks, in small or great letters -/
inductive Like : List Nat → List Nat → Prop
  | nil : Like [] []
  | cons {c d : Nat} {cs ds : List Nat} : (if c = 76 then d ∈ letS else d ∈ digS) → Like cs ds → Like (c :: cs) (d :: ds)
theorem fillsC_like {c d : Nat} (h : fillsC c d) : if c = 76 then d ∈ letS else d ∈ digS := by
  unfold fillsC at h
  by_cases hc : c = 76
  · rw [if_pos hc] at h ⊢
    simp [letS] at h ⊢
    omega
  · rw [if_neg hc] at h ⊢
    exact h
theorem Fills.like : ∀ {cs ds : List Nat}, Fills cs ds → Like cs ds
  | _, _, .nil => .nil
  | _, _, .cons h r => .cons (fillsC_like h) r.like
theorem Like.len : ∀ {cs ds : List Nat}, Like cs ds → cs.length = ds.length
  | _, _, .nil => rfl
  | _, _, .cons _ r => congrArg (· + 1) r.len
theorem Like.map {f : Nat → Nat} (hl : ∀ d ∈ letS, f d ∈ letS) (hd : ∀ d ∈ digS, f d ∈ digS) : ∀ {cs ds : List Nat}, Like cs ds → Like cs (ds.map f)
  | _, _, .nil => .nil
  | _, _, .cons (c := c) h r => .cons (by
    by_cases hc : c = 76
    · rw [if_pos hc] at h ⊢; exact hl _ h
    · rw [if_neg hc] at h ⊢; exact hd _ h) (r.map hl hd)
theorem Like.sign : ∀ {cs ds : List Nat}, Like cs ds → ∀ d ∈ ds, d ∈ letS ++ digS
  | _, _, .nil, _, h => nomatch h
  | _, _, .cons (c := c) h r, d, hd => by
    rcases List.mem_cons.mp hd with rfl | hd
    · by_cases hc : c = 76
      · rw [if_pos hc] at h; exact List.mem_append_left _ h
      · rw [if_neg hc] at h; exact List.mem_append_right _ h
    · exact r.sign d hd
theorem sign_small : ∀ d ∈ letS ++ digS, d < 128 ∧ d ≠ 45 ∧ d ≠ 95 ∧ d ≠ 46 ∧ d ≠ 64 := by decide
theorem up_let : ∀ d ∈ letS, up1 d ∈ letS := by decide
theorem up_dig : ∀ d ∈ digS, up1 d ∈ digS := by decide
theorem lo_let : ∀ d ∈ letS, lo1 d ∈ letS := by decide
theorem lo_dig : ∀ d ∈ digS, lo1 d ∈ digS := by decide
theorem up_up : ∀ d ∈ letS ++ digS, up1 (up1 d) = up1 d := by decide
theorem lo_lo : ∀ d ∈ letS ++ digS, lo1 (lo1 d) = lo1 d := by decide
theorem up_digs : ∀ d ∈ digS, up1 d = d := by decide
theorem alpha_let : ∀ d ∈ letS, Unicode.isAlpha d = true ∧ Unicode.isDigit d = false := by decide +kernel
theorem alpha_dig : ∀ d ∈ digS, Unicode.isAlpha d = false ∧ Unicode.isDigit d = true := by decide +kernel
def shA (sh : List Nat) : Bool := !sh.isEmpty && sh.all (· == 76)
def shD (sh : List Nat) : Bool := !sh.isEmpty && sh.all (· != 76)
theorem like_all : ∀ {cs ds : List Nat}, Like cs ds → ds.all Unicode.isAlpha = cs.all (· == 76) ∧ ds.all Unicode.isDigit = cs.all (· != 76)
  | _, _, .nil => ⟨rfl, rfl⟩
  | _, _, .cons (c := c) h r => by
    obtain ⟨h1, h2⟩ := like_all r
    simp only [List.all_cons, h1, h2]
    by_cases hc : c = 76
    · rw [if_pos hc] at h
      obtain ⟨a, b⟩ := alpha_let _ h
      simp [a, b, hc]
    · rw [if_neg hc] at h
      obtain ⟨a, b⟩ := alpha_dig _ h
      simp [a, b, hc]
abbrev LikeS (sh x : Str) : Prop := Like sh.cps.toList x.cps.toList
theorem len_like {sh x : Str} (h : LikeS sh x) : x.length = sh.length := by
  have b := h.len
  have c : x.length = x.cps.toList.length := by simp [Str.length]
  have d : sh.length = sh.cps.toList.length := by simp [Str.length]
  omega
theorem alpha_like {sh x : Str} (h : LikeS sh x) : Txt.isalpha x = shA sh.cps.toList := by
  have h1 := (like_all h).1
  have hl := h.len
  unfold Txt.isalpha shA
  rw [← h1, ← Array.all_toList]
  congr 1
  have e : x.length = x.cps.toList.length := by simp [Str.length]
  rw [e, ← hl]
  cases sh.cps.toList <;> simp
theorem digit_like {sh x : Str} (h : LikeS sh x) : Txt.isdigit x = shD sh.cps.toList := by
  have h1 := (like_all h).2
  have hl := h.len
  unfold Txt.isdigit shD
  rw [← h1, ← Array.all_toList]
  congr 1
  have e : x.length = x.cps.toList.length := by simp [Str.length]
  rw [e, ← hl]
  cases sh.cps.toList <;> simp
theorem clean_like {sh x : Str} (h : LikeS sh x) : Clean x := fun c hc => by
  obtain ⟨a, b, c', d, e⟩ := sign_small _ (h.sign c hc)
  exact ⟨b, c', d, e, a⟩
theorem up_like {sh x : Str} (h : LikeS sh x) : Txt.upper x = ⟨x.cps.map up1⟩ := upper_ascii fun c hc => (clean_like h c hc).2.2.2.2
theorem lo_like {sh x : Str} (h : LikeS sh x) : Txt.lower x = ⟨x.cps.map lo1⟩ := lower_ascii fun c hc => (clean_like h c hc).2.2.2.2
theorem like_up {sh x : Str} (h : LikeS sh x) : LikeS sh (Txt.upper x) := by
  rw [up_like h]
  show Like _ (x.cps.map up1).toList
  rw [Array.toList_map]
  exact h.map up_let up_dig
theorem like_lo {sh x : Str} (h : LikeS sh x) : LikeS sh (Txt.lower x) := by
  rw [lo_like h]
  show Like _ (x.cps.map lo1).toList
  rw [Array.toList_map]
  exact h.map lo_let lo_dig
theorem upup {sh x : Str} (h : LikeS sh x) : Txt.upper (Txt.upper x) = Txt.upper x := by
  rw [up_like (like_up h), up_like h]
  refine str_eq ?_
  simp only [Array.toList_map, List.map_map]
  exact List.map_congr_left fun d hd => up_up d (h.sign d hd)
theorem lolo {sh x : Str} (h : LikeS sh x) : Txt.lower (Txt.lower x) = Txt.lower x := by
  rw [lo_like (like_lo h), lo_like h]
  refine str_eq ?_
  simp only [Array.toList_map, List.map_map]
  exact List.map_congr_left fun d hd => lo_lo d (h.sign d hd)
theorem updig : ∀ {cs ds : List Nat}, Like cs ds → cs.all (· != 76) = true → ds.map up1 = ds
  | _, _, .nil, _ => rfl
  | _, _, .cons (c := c) h r, e => by
    simp only [List.all_cons, Bool.and_eq_true, bne_iff_ne] at e
    rw [if_neg e.1] at h
    rw [List.map_cons, up_digs _ h, updig r e.2]
theorem title_of : ∀ d ∈ letS, Unicode.titleOf d = [up1 d] ∧ Unicode.isCased d = true ∧ Unicode.lowerOf d = [lo1 d] ∧ (d == 0x3A3) = false := by decide +kernel
theorem four_like {sh x : Str} (h : LikeS sh x) (hs : sh.cps.toList = [76, 76, 76, 76]) : ∃ a b c d, x = ⟨#[a, b, c, d]⟩ ∧ a ∈ letS ∧ b ∈ letS ∧ c ∈ letS ∧ d ∈ letS := by
  unfold LikeS at h
  rw [hs] at h
  cases hx : x.cps.toList with
  | nil => rw [hx] at h; cases h
  | cons a r =>
    rw [hx] at h
    cases h with
    | cons h1 h =>
      cases h with
      | cons h2 h =>
        cases h with
        | cons h3 h =>
          cases h with
          | cons h4 h =>
            cases h with
            | nil => exact ⟨_, _, _, _, str_eq hx, by simpa using h1, by simpa using h2, by simpa using h3, by simpa using h4⟩
theorem title4 {a b c d : Nat} (ha : a ∈ letS) (hb : b ∈ letS) (hc : c ∈ letS) (hd : d ∈ letS) : Txt.title ⟨#[a, b, c, d]⟩ = ⟨#[up1 a, lo1 b, lo1 c, lo1 d]⟩ := by
  obtain ⟨a1, a2, a3, a4⟩ := title_of a ha
  obtain ⟨b1, b2, b3, b4⟩ := title_of b hb
  obtain ⟨c1, c2, c3, c4⟩ := title_of c hc
  obtain ⟨d1, d2, d3, d4⟩ := title_of d hd
  refine str_eq ?_
  show (placed _ _).toList = _
  simp only [placed, Array.toList_flatten, Array.toList_map, Array.toList_mapIdx]
  rw [map_toList_mapIdx]
  simp [List.mapIdx_cons, a1, a2, b2, c2, Unicode.lowerAt, b3, c3, d3]
  simp_all
theorem item4 {a b c d : Nat} : Txt.item ⟨#[a, b, c, d]⟩ 0 = ⟨#[a]⟩ := by rfl
theorem slice4 {a b c d : Nat} : Txt.slice ⟨#[a, b, c, d]⟩ (some 1) none = ⟨#[b, c, d]⟩ := by
  show StrLaws.sliceText _ _ _ = _
  rw [StrLaws.sliceText_from (by simp)]
  exact str_eq (by simp)
theorem let128 : ∀ d ∈ letS, d < 128 := by decide
theorem norm4 {a b c d : Nat} (ha : a ∈ letS) (hb : b ∈ letS) (hc : c ∈ letS) (hd : d ∈ letS) :
    Txt.upper (Txt.item ⟨#[a, b, c, d]⟩ 0) ++ Txt.lower (Txt.slice ⟨#[a, b, c, d]⟩ (some 1) none) = ⟨#[up1 a, lo1 b, lo1 c, lo1 d]⟩ := by
  rw [item4, slice4, upper_ascii (by simpa using let128 a ha), lower_ascii (by
    intro e he
    simp at he
    rcases he with rfl | rfl | rfl
    · exact let128 _ hb
    · exact let128 _ hc
    · exact let128 _ hd)]
  refine str_eq ?_
  show ((#[a].map up1) ++ (#[b, c, d].map lo1)).toList = _
  simp
theorem shapes_s4 : ∀ p ∈ shapesL, (p.2 == "s") = true → p.1.cps.toList = [76, 76, 76, 76] := by decide +kernel
/-- a word in the letters of the answer -/
theorem norm_like {z : WT} (h : z.good) : LikeS z.sh (normW z) := by
  have hz := h.2.like
  unfold normW
  by_cases hk : (z.kd == "s") = true
  · rw [if_pos hk]
    have hs := shapes_s4 _ h.1 hk
    obtain ⟨a, b, c, d, e, ha, hb, hc, hd⟩ := four_like hz hs
    rw [e, norm4 ha hb hc hd]
    show Like _ [up1 a, lo1 b, lo1 c, lo1 d]
    rw [hs]
    exact .cons (by simpa using up_let a ha) (.cons (by simpa using lo_let b hb) (.cons (by simpa using lo_let c hc) (.cons (by simpa using lo_let d hd) .nil)))
  · rw [if_neg hk]
    exact like_up hz
theorem uplo : ∀ d ∈ letS, up1 (up1 d) = up1 d ∧ lo1 (lo1 d) = lo1 d := by decide
theorem title_norm {z : WT} (h : z.good) (hk : (z.kd == "s") = true) : Txt.title z.x = normW z ∧ Txt.title (normW z) = normW z := by
  have hz := h.2.like
  have hs := shapes_s4 _ h.1 hk
  obtain ⟨a, b, c, d, e, ha, hb, hc, hd⟩ := four_like hz hs
  have hn : normW z = ⟨#[up1 a, lo1 b, lo1 c, lo1 d]⟩ := by
    unfold normW
    rw [if_pos hk, e, norm4 ha hb hc hd]
  rw [hn, e]
  refine ⟨title4 ha hb hc hd, ?_⟩
  rw [title4 (up_let _ ha) (lo_let _ hb) (lo_let _ hc) (lo_let _ hd), (uplo a ha).1, (uplo b hb).2, (uplo c hc).2, (uplo d hd).2]
theorem upper_norm {z : WT} (h : z.good) (hk : ¬ (z.kd == "s") = true) : Txt.upper z.x = normW z ∧ Txt.upper (normW z) = normW z := by
  have hz := h.2.like
  have hn : normW z = Txt.upper z.x := by unfold normW; rw [if_neg hk]
  exact ⟨hn.symm, by rw [hn]; exact upup hz⟩
def kc (z : WT) : Nat := z.kd.cps.toList.headD 0
def goodCL : List (List Nat) := [[], [115], [116], [118], [115, 116], [115, 118], [116, 118], [115, 116, 118]]
def headL (l : List Nat) : Bool := l.head? == some 76
def headN (l : List Nat) : Bool := match l.head? with | some c => c != 76 | none => false
theorem shapes_k : ∀ p ∈ shapesL, p.2.cps.toList = [p.2.cps.toList.headD 0] ∧
    (decide (p.1.length = 4) && shA p.1.cps.toList) = (p.2.cps.toList.headD 0 == 115) ∧
    ((decide (p.1.length = 2) && shA p.1.cps.toList) || (decide (p.1.length = 3) && shD p.1.cps.toList)) = (p.2.cps.toList.headD 0 == 116) ∧
    ((decide (p.1.length = 4) && headN p.1.cps.toList) || (decide (5 ≤ p.1.length) && headL p.1.cps.toList)) = (p.2.cps.toList.headD 0 == 118) ∧
    ((p.2 == "s") = (p.2.cps.toList.headD 0 == 115)) ∧ ((p.1 != "") && (!Txt.contains p.1 "D")) = shA p.1.cps.toList := by decide +kernel
theorem item_head {x : Str} {d : Nat} {ds : List Nat} (h : x.cps.toList = d :: ds) : Txt.item x 0 = ⟨#[d]⟩ := by
  have e : x = (⟨(d :: ds).toArray⟩ : Str) ++ Str.empty := by
    rw [Str.append_empty]
    exact str_eq (by simp [h])
  rw [e]
  exact item_zero_left d ds _
theorem item_alpha {sh x : Str} (h : LikeS sh x) (hn : 1 ≤ sh.length) : Txt.isalpha (Txt.item x 0) = headL sh.cps.toList ∧ Txt.isdigit (Txt.item x 0) = headN sh.cps.toList := by
  have hn' : 1 ≤ sh.cps.toList.length := by simpa [Str.length] using hn
  unfold LikeS at h
  cases hs : sh.cps.toList with
  | nil => rw [hs] at hn'; simp at hn'
  | cons c cs =>
    rw [hs] at h
    cases hx : x.cps.toList with
    | nil => rw [hx] at h; cases h
    | cons d ds =>
      rw [hx] at h
      rw [item_head hx]
      cases h with
      | cons hd _ =>
        by_cases hc : c = 76
        · rw [if_pos hc] at hd
          obtain ⟨a, b⟩ := alpha_let _ hd
          constructor
          · show (true && (#[d] : Array Nat).all Unicode.isAlpha) = _
            simp [a, headL, hc]
          · show (true && (#[d] : Array Nat).all Unicode.isDigit) = _
            simp [b, headN, hc]
        · rw [if_neg hc] at hd
          obtain ⟨a, b⟩ := alpha_dig _ hd
          constructor
          · show (true && (#[d] : Array Nat).all Unicode.isAlpha) = _
            simp [a, headL, hc]
          · show (true && (#[d] : Array Nat).all Unicode.isDigit) = _
            simp [b, headN, hc]
section
variable {z : WT} {x : Str} {r : List Str}
theorem tS (h : z.good) (hx : LikeS z.sh x) : takeS (x :: r) = if kc z = 115 then (some (Txt.title x), r) else (none, x :: r) := by
  have e := (shapes_k _ h.1).2.1
  have hl := len_like hx
  have ha := alpha_like hx
  by_cases hk : kc z = 115
  · rw [if_pos hk]
    have : (z.kd.cps.toList.headD 0 == 115) = true := by simpa [kc] using hk
    rw [this, Bool.and_eq_true] at e
    exact takeS_yes (by rw [hl]; simpa using e.1) (by rw [ha]; exact e.2)
  · rw [if_neg hk]
    have : (z.kd.cps.toList.headD 0 == 115) = false := by simpa [kc] using hk
    rw [this] at e
    refine takeS_no fun q => ?_
    rw [hl, ha] at q
    dsimp only at e
    rw [q.2, decide_eq_true q.1] at e
    cases e
theorem tT (h : z.good) (hx : LikeS z.sh x) : takeT (x :: r) = if kc z = 116 then (some (Txt.upper x), r) else (none, x :: r) := by
  have e := (shapes_k _ h.1).2.2.1
  have hl := len_like hx
  have ha := alpha_like hx
  have hd := digit_like hx
  dsimp only at e
  by_cases hk : kc z = 116
  · rw [if_pos hk]
    have : (z.kd.cps.toList.headD 0 == 116) = true := by simpa [kc] using hk
    rw [this, Bool.or_eq_true, Bool.and_eq_true, Bool.and_eq_true] at e
    rcases e with e | e
    · exact takeT_two (by rw [hl]; simpa using e.1) (by rw [ha]; exact e.2)
    · rw [takeT_three (by rw [hl]; simpa using e.1) (by rw [hd]; exact e.2)]
      have hu : Txt.upper x = x := by
        rw [up_like hx]
        refine str_eq ?_
        show (x.cps.map up1).toList = _
        rw [Array.toList_map]
        exact updig hx (by have := e.2; unfold shD at this; rw [Bool.and_eq_true] at this; exact this.2)
      rw [hu]
  · rw [if_neg hk]
    have : (z.kd.cps.toList.headD 0 == 116) = false := by simpa [kc] using hk
    rw [this, Bool.or_eq_false_iff] at e
    refine takeT_no (fun q => ?_) (fun q => ?_)
    · rw [hl, ha] at q
      have := e.1
      rw [q.2, decide_eq_true q.1] at this
      cases this
    · rw [hl, hd] at q
      have := e.2
      rw [q.2, decide_eq_true q.1] at this
      cases this
theorem tV (h : z.good) (hx : LikeS z.sh x) : takeV (x :: r) = if kc z = 118 then (some (Txt.upper ((x :: r).getLast (by simp))), (x :: r).dropLast) else (none, x :: r) := by
  have e := (shapes_k _ h.1).2.2.2.1
  have hl := len_like hx
  dsimp only at e
  have hi : 1 ≤ z.sh.length → _ := item_alpha hx
  by_cases hk : kc z = 118
  · rw [if_pos hk]
    have : (z.kd.cps.toList.headD 0 == 118) = true := by simpa [kc] using hk
    rw [this, Bool.or_eq_true, Bool.and_eq_true, Bool.and_eq_true] at e
    refine takeV_yes ?_
    rcases e with e | e
    · have h4 : z.sh.length = 4 := by simpa using e.1
      exact .inl ⟨by rw [hl]; exact h4, by rw [(hi (by omega)).2]; exact e.2⟩
    · have h5 : 5 ≤ z.sh.length := by simpa using e.1
      exact .inr ⟨by rw [hl]; exact h5, by rw [(hi (by omega)).1]; exact e.2⟩
  · rw [if_neg hk]
    have : (z.kd.cps.toList.headD 0 == 118) = false := by simpa [kc] using hk
    rw [this, Bool.or_eq_false_iff] at e
    refine takeV_no fun q => ?_
    rcases q with q | q
    · rw [hl] at q
      rw [(hi (by omega)).2] at q
      have := e.1
      rw [q.2, decide_eq_true q.1] at this
      cases this
    · rw [hl] at q
      rw [(hi (by omega)).1] at q
      have := e.2
      rw [q.2, decide_eq_true q.1] at this
      cases this
end
theorem kinds_cps {zs : List WT} (hg : ∀ z ∈ zs, z.good) : kindsOf zs = ⟨(zs.map kc).toArray⟩ := by
  refine str_eq ?_
  show (Builtin.Str.glued "" (zs.map (·.kd))).cps.toList = _
  rw [StrLaws.glued_eq_join]
  induction zs with
  | nil => rfl
  | cons z r ih =>
    have hz : z.kd.cps.toList = [kc z] := (shapes_k _ (hg z (.head _)).1).1
    have ih' := ih fun y hy => hg y (.tail _ hy)
    cases r with
    | nil => simpa [Str.join] using hz
    | cons y r =>
      show ((z.kd ++ "" ++ Str.join "" (List.map (·.kd) (y :: r))).cps).toList = _
      have : (z.kd ++ "" ++ Str.join "" (List.map (·.kd) (y :: r))).cps = z.kd.cps ++ (Str.ofString "").cps ++ (Str.join "" (List.map (·.kd) (y :: r))).cps := rfl
      rw [this]
      simp only [Array.toList_append, ih', hz]
      have e0 : (Str.ofString "").cps.toList = [] := by decide +kernel
      rw [e0]
      simp
theorem good_iff {zs : List WT} (hg : ∀ z ∈ zs, z.good) : goodL.any (· == kindsOf zs) = decide (zs.map kc ∈ goodCL) := by
  rw [kinds_cps hg]
  have e : goodL = goodCL.map fun l => (⟨l.toArray⟩ : Str) := by decide +kernel
  rw [e, List.any_map]
  rw [Bool.eq_iff_iff]
  simp only [List.any_eq_true, Function.comp, beq_iff_eq, decide_eq_true_eq]
  constructor
  · rintro ⟨l, hl, q⟩
    have : l = zs.map kc := by simpa using congrArg (fun z : Str => z.cps.toList) q
    exact this ▸ hl
  · intro h
    exact ⟨_, h, rfl⟩
def dueC (l : List Nat) (nl : List Str) (c : Nat) : Option Str := if c ∈ l then some (nl.getD (1 + l.idxOf c) "") else none
theorem due_tab : ∀ l ∈ goodCL, ∀ p ∈ [(("t" : Str), 116), ("s", 115), ("v", 118)], Txt.contains ⟨l.toArray⟩ p.1 = decide (p.2 ∈ l) ∧ (p.2 ∈ l → Txt.find ⟨l.toArray⟩ p.1 = (l.idxOf p.2 : Int)) := by decide +kernel
theorem due_eq {l : List Nat} (hl : l ∈ goodCL) (nl : List Str) {c : Str} {k : Nat} (hp : (c, k) ∈ [(("t" : Str), 116), ("s", 115), ("v", 118)]) : dueO ⟨l.toArray⟩ nl c = dueC l nl k := by
  obtain ⟨h1, h2⟩ := due_tab l hl _ hp
  dsimp only at h1 h2
  unfold dueO dueC
  rw [h1]
  by_cases hk : k ∈ l
  · rw [if_pos (by simpa using hk), if_pos hk, h2 hk]
    congr 2
  · rw [if_neg (by simpa using hk), if_neg hk]
def base (n0 : Str) (zs : List WT) : List (Option Str) := sgn3.map (dueO (kindsOf zs) (n0 :: zs.map normW))
theorem base_eq {n0 : Str} {zs : List WT} (hg : ∀ z ∈ zs, z.good) (hl : zs.map kc ∈ goodCL) :
    base n0 zs = [dueC (zs.map kc) (n0 :: zs.map normW) 116, dueC (zs.map kc) (n0 :: zs.map normW) 115, dueC (zs.map kc) (n0 :: zs.map normW) 118] := by
  unfold base sgn3
  rw [kinds_cps hg]
  simp only [List.map_cons, List.map_nil]
  rw [due_eq hl _ (.head _), due_eq hl _ (.tail _ (.head _)), due_eq hl _ (.tail _ (.tail _ (.head _)))]
theorem ix1 : List.idxOf 116 [115, 116] = 1 := by decide
theorem ix2 : List.idxOf 116 [115, 116, 118] = 1 := by decide
theorem ix3 : List.idxOf 118 [115, 116, 118] = 2 := by decide
theorem ix4 : List.idxOf 118 [115, 118] = 1 := by decide
theorem ix5 : List.idxOf 118 [116, 118] = 1 := by decide
theorem parseL_eq {w0 n0 : Str} {sh0 : Str} {zs : List WT} (g : WT → Str) (hg : ∀ z ∈ zs, z.good) (hl : ∀ z ∈ zs, LikeS z.sh (g z)) (ht : ∀ z ∈ zs, kc z = 115 → Txt.title (g z) = normW z) (hu : ∀ z ∈ zs, kc z ≠ 115 → Txt.upper (g z) = normW z)
    (h0 : LikeS sh0 w0) (hn : Txt.lower w0 = n0) :
    parseL w0 (zs.map g) = if (shA sh0.cps.toList && decide (zs.map kc ∈ goodCL)) = true then some (some n0 :: base n0 zs) else none := by
  unfold parseL
  rw [alpha_like (like_lo h0), hn]
  by_cases hA : ¬ shA sh0.cps.toList = true
  · rw [if_neg hA, if_neg (by simp [hA])]
  have hA := Classical.not_not.mp hA
  rw [if_pos hA, hA, Bool.true_and]
  have good : ∀ {t s v : Option Str} {rem : List Str}, rem = [] → zs.map kc ∈ goodCL → base n0 zs = [t, s, v] → (if rem = [] then some [some n0, t, s, v] else none) = if decide (zs.map kc ∈ goodCL) = true then some (some n0 :: base n0 zs) else none := by
    intro t s v rem h1 h2 h3
    rw [if_pos h1, if_pos (by simpa using h2), h3]
  have bad : ∀ {t s v : Option Str} {rem : List Str}, rem ≠ [] → zs.map kc ∉ goodCL → (if rem = [] then some [some n0, t, s, v] else none) = if decide (zs.map kc ∈ goodCL) = true then some (some n0 :: base n0 zs) else none := by
    intro t s v rem h1 h2
    rw [if_neg h1, if_neg (by simpa using h2)]
  have b2 : zs.map kc ∈ goodCL → _ := base_eq (n0 := n0) hg
  cases zs with
  | nil => exact good rfl (by decide) (by rw [b2 (by decide)]; rfl)
  | cons z1 r1 =>
    have g1 := hg z1 (.head _)
    have l1 := hl z1 (.head _)
    have u1 := hu z1 (.head _)
    rw [List.map_cons, tS g1 l1]
    by_cases k1 : kc z1 = 115
    · rw [if_pos k1]
      dsimp only
      cases r1 with
      | nil => exact good rfl (by simp [k1, goodCL]) (by rw [b2 (by simp [k1, goodCL])]; simp [k1, dueC, ix1, ix2, ix3, ix4, ix5, ht z1 (.head _) k1, takeT, takeV])
      | cons z2 r2 =>
        have g2 := hg z2 (.tail _ (.head _))
        have l2 := hl z2 (.tail _ (.head _))
        have u2 := hu z2 (.tail _ (.head _))
        rw [List.map_cons, tT g2 l2]
        by_cases k2 : kc z2 = 116
        · rw [if_pos k2]
          dsimp only
          cases r2 with
          | nil => exact good rfl (by simp [k1, k2, goodCL]) (by rw [b2 (by simp [k1, k2, goodCL])]; simp [k1, k2, dueC, ix1, ix2, ix3, ix4, ix5, ht z1 (.head _) k1, u2 (by omega), takeV])
          | cons z3 r3 =>
            have g3 := hg z3 (.tail _ (.tail _ (.head _)))
            have l3 := hl z3 (.tail _ (.tail _ (.head _)))
            have u3 := hu z3 (.tail _ (.tail _ (.head _)))
            rw [List.map_cons, tV g3 l3]
            by_cases k3 : kc z3 = 118
            · rw [if_pos k3]
              dsimp only
              cases r3 with
              | nil => exact good rfl (by simp [k1, k2, k3, goodCL]) (by rw [b2 (by simp [k1, k2, k3, goodCL])]; simp [k1, k2, k3, dueC, ix1, ix2, ix3, ix4, ix5, ht z1 (.head _) k1, u2 (by omega), u3 (by omega)])
              | cons z4 r4 => exact bad (by simp) (by simp [k1, k2, k3, goodCL])
            · rw [if_neg k3]
              exact bad (by simp) (by simp [k1, k2, k3, goodCL])
        · rw [if_neg k2]
          dsimp only
          rw [tV g2 l2]
          by_cases k3 : kc z2 = 118
          · rw [if_pos k3]
            dsimp only
            cases r2 with
            | nil => exact good rfl (by simp [k1, k3, goodCL]) (by rw [b2 (by simp [k1, k3, goodCL])]; simp [k1, k3, dueC, ix1, ix2, ix3, ix4, ix5, ht z1 (.head _) k1, u2 (by omega)])
            | cons z4 r4 => exact bad (by simp) (by simp [k1, k3, goodCL])
          · rw [if_neg k3]
            exact bad (by simp) (by simp [k1, k2, k3, goodCL])
    · rw [if_neg k1]
      dsimp only
      rw [tT g1 l1]
      by_cases k2 : kc z1 = 116
      · rw [if_pos k2]
        dsimp only
        cases r1 with
        | nil => exact good rfl (by simp [k2, goodCL]) (by rw [b2 (by simp [k2, goodCL])]; simp [k2, dueC, ix1, ix2, ix3, ix4, ix5, u1 k1, takeV])
        | cons z2 r2 =>
          have g2 := hg z2 (.tail _ (.head _))
          have l2 := hl z2 (.tail _ (.head _))
          have u2 := hu z2 (.tail _ (.head _))
          rw [List.map_cons, tV g2 l2]
          by_cases k3 : kc z2 = 118
          · rw [if_pos k3]
            dsimp only
            cases r2 with
            | nil => exact good rfl (by simp [k2, k3, goodCL]) (by rw [b2 (by simp [k2, k3, goodCL])]; simp [k2, k3, dueC, ix1, ix2, ix3, ix4, ix5, u1 k1, u2 (by omega)])
            | cons z4 r4 => exact bad (by simp) (by simp [k2, k3, goodCL])
          · rw [if_neg k3]
            exact bad (by simp) (by simp [k2, k3, goodCL])
      · rw [if_neg k2]
        dsimp only
        rw [tV g1 l1]
        by_cases k3 : kc z1 = 118
        · rw [if_pos k3]
          dsimp only
          cases r1 with
          | nil => exact good rfl (by simp [k3, goodCL]) (by rw [b2 (by simp [k3, goodCL])]; simp [k3, dueC, ix1, ix2, ix3, ix4, ix5, u1 k1])
          | cons z4 r4 => exact bad (by simp) (by simp [k3, goodCL])
        · rw [if_neg k3]
          exact bad (by simp) (by simp [k1, k2, k3, goodCL])
theorem goodB_eq {z0 : WT} {zs : List WT} (h0 : z0.good) (hg : ∀ z ∈ zs, z.good) : goodB z0 zs = (shA z0.sh.cps.toList && decide (zs.map kc ∈ goodCL)) := by
  unfold goodB
  rw [good_iff hg, ← (shapes_k _ h0.1).2.2.2.2.2]
  simp only [Bool.and_assoc]
theorem tail_md : ∀ mk ∈ marksL, tailO mk = if (modM mk).length = 0 then [] else [some (modM mk)] := by decide +kernel
theorem sep_form {sep : Str} (h : sep = "_" ∨ sep = "-") : sep = ⟨#[95]⟩ ∨ sep = ⟨#[45]⟩ := by
  rcases h with rfl | rfl
  · left; decide +kernel
  · right; decide +kernel
theorem split_clean {sep : Str} (h : sep = "_" ∨ sep = "-") {xs : List Str} (hne : xs ≠ []) (hc : ∀ x ∈ xs, Clean x) : Txt.split (Txt.join sep xs) sep = xs := by
  rcases sep_form h with rfl | rfl
  · exact split_join hne fun x hx q => (hc x hx _ q).2.1 rfl
  · exact split_join hne fun x hx q => (hc x hx _ q).1 rfl
theorem join_clean {sep : Str} (h : sep = "_" ∨ sep = "-") {xs : List Str} (hc : ∀ x ∈ xs, Clean x) : ∀ c ∈ (Txt.join sep xs).cps.toList, (c ≠ 46 ∧ c ≠ 64) ∧ c < 128 := by
  intro c hm
  rcases sep_form h with rfl | rfl
  · rcases mem_join hm with rfl | ⟨x, hx, hm⟩
    · decide
    · have := hc x hx c hm; exact ⟨⟨this.2.2.1, this.2.2.2.1⟩, this.2.2.2.2⟩
  · rcases mem_join hm with rfl | ⟨x, hx, hm⟩
    · decide
    · have := hc x hx c hm; exact ⟨⟨this.2.2.1, this.2.2.2.1⟩, this.2.2.2.2⟩
/-- a joined text with an encoding and a mark is taken apart again -/
theorem parts_of {sep enc mk w0 : Str} {ws : List Str} (h : sep = "_" ∨ sep = "-") (hc : ∀ x ∈ w0 :: ws, Clean x) (he : enc ∈ encsL) (hm : mk ∈ marksL) :
    idOf (Txt.join sep (w0 :: ws) ++ enc ++ mk) = Txt.join sep (w0 :: ws) ∧ modOf (Txt.join sep (w0 :: ws) ++ enc ++ mk) = modM mk ∧ Txt.split (idOf (Txt.join sep (w0 :: ws) ++ enc ++ mk)) sep = w0 :: ws := by
  have := text_parts (fun c q => (join_clean h hc c q).1) he hm
  exact ⟨this.1, this.2, by rw [this.1]; exact split_clean h (by simp) hc⟩
theorem join_len_ge {sep w0 : Str} {ws : List Str} : w0.length ≤ (Txt.join sep (w0 :: ws)).length := by
  show _ ≤ (Builtin.Str.glued _ _).length
  rw [size_glued]
  simp only [List.map_cons, List.sum_cons]
  omega
theorem parse_of {sep enc mk w0 n0 sh0 : Str} {zs : List WT} (g : WT → Str) (h : sep = "_" ∨ sep = "-") (he : enc ∈ encsL) (hm : mk ∈ marksL) (hg : ∀ z ∈ zs, z.good) (hl : ∀ z ∈ zs, LikeS z.sh (g z)) (ht : ∀ z ∈ zs, kc z = 115 → Txt.title (g z) = normW z) (hu : ∀ z ∈ zs, kc z ≠ 115 → Txt.upper (g z) = normW z)
    (h0 : LikeS sh0 w0) (hn : Txt.lower w0 = n0) :
    parseT (Txt.join sep (w0 :: zs.map g) ++ enc ++ mk) sep = if (shA sh0.cps.toList && decide (zs.map kc ∈ goodCL)) = true then some (some n0 :: base n0 zs ++ tailO mk) else none := by
  have hc : ∀ x ∈ w0 :: zs.map g, Clean x := by
    intro x hx
    rcases List.mem_cons.mp hx with rfl | hx
    · exact clean_like h0
    · obtain ⟨z, hz, rfl⟩ := List.mem_map.mp hx
      exact clean_like (hl z hz)
  obtain ⟨p1, p2, p3⟩ := parts_of h hc he hm
  have pM : parseM w0 (zs.map g) (modM mk) = if (shA sh0.cps.toList && decide (zs.map kc ∈ goodCL)) = true then some (some n0 :: base n0 zs ++ tailO mk) else none := by
    unfold parseM
    rw [parseL_eq g hg hl ht hu h0 hn, tail_md _ hm]
    by_cases hb : (shA sh0.cps.toList && decide (zs.map kc ∈ goodCL)) = true
    · rw [if_pos hb, if_pos hb]
      by_cases h0 : (modM mk).length = 0
      · simp [h0]
      · simp [h0]
    · rw [if_neg hb, if_neg hb]; rfl
  unfold parseT
  rw [p3, p2]
  by_cases h00 : (Txt.join sep (w0 :: zs.map g) ++ enc ++ mk).length = 0
  · rw [if_pos h00]
    have hA : shA sh0.cps.toList = false := by
      have e1 : w0.length = 0 := by
        have := join_len_ge (sep := sep) (w0 := w0) (ws := zs.map g)
        rw [Str.length_append, Str.length_append] at h00
        omega
      have e2 := len_like h0
      have e3 : sh0.cps.toList.length = 0 := by
        have : sh0.length = sh0.cps.toList.length := by simp [Str.length]
        omega
      rw [List.length_eq_zero_iff.mp e3]; rfl
    rw [hA]; rfl
  · rw [if_neg h00]
    exact pM
section
variable {sep enc mk : Str} {z0 : WT} {zs : List WT}
theorem kc_s {z : WT} (h : z.good) : kc z = 115 ↔ (z.kd == "s") = true := by
  have := (shapes_k _ h.1).2.2.2.2.1
  dsimp only at this
  rw [this]; simp [kc]
theorem due_form (n0 : Str) : dueL (kindsOf zs) (n0 :: zs.map normW) mk = some n0 :: base n0 zs ++ tailO mk := rfl
theorem parse_text (h : sep = "_" ∨ sep = "-") (he : enc ∈ encsL) (hm : mk ∈ marksL) (h0 : z0.good) (hg : ∀ z ∈ zs, z.good) :
    parseT (textOf sep (z0 :: zs) enc mk) sep = if goodB z0 zs = true then some (dueL (kindsOf zs) (normL z0 zs) mk) else none := by
  rw [goodB_eq h0 hg]
  exact parse_of (fun z => z.x) h he hm hg (fun z hz => (hg z hz).2.like) (fun z hz k => (title_norm (hg z hz) ((kc_s (hg z hz)).mp k)).1) (fun z hz k => (upper_norm (hg z hz) (fun q => k ((kc_s (hg z hz)).mpr q))).1) h0.2.like rfl
def mk2 (mk : Str) : Str := if 1 < mk.length then mk else ""
theorem mk2_in : ∀ mk ∈ marksL, mk2 mk ∈ marksL ∧ tailO (mk2 mk) = tailO mk := by decide +kernel
theorem whole_form (nl : List Str) : wholeOf sep nl mk = Txt.join sep nl ++ "" ++ mk2 mk := by
  unfold wholeOf mk2
  have : (Str.ofString "") = Str.empty := by decide +kernel
  rw [this, Str.append_empty]
theorem parse_whole (h : sep = "_" ∨ sep = "-") (hm : mk ∈ marksL) (h0 : z0.good) (hg : ∀ z ∈ zs, z.good) :
    parseT (wholeOf sep (normL z0 zs) mk) sep = if goodB z0 zs = true then some (dueL (kindsOf zs) (normL z0 zs) mk) else none := by
  rw [goodB_eq h0 hg, whole_form]
  obtain ⟨m1, m2⟩ := mk2_in _ hm
  have := parse_of (enc := "") (n0 := Txt.lower z0.x) normW h (by decide +kernel) m1 hg (fun z hz => norm_like (hg z hz)) (fun z hz k => (title_norm (hg z hz) ((kc_s (hg z hz)).mp k)).2) (fun z hz k => (upper_norm (hg z hz) (fun q => k ((kc_s (hg z hz)).mpr q))).2) (like_lo h0.2.like) (lolo h0.2.like)
  rw [m2] at this
  exact this
end
theorem mk2_form : ∀ mk ∈ marksL, ((modM mk).length = 0 → mk2 mk = Str.empty) ∧ ((modM mk).length ≠ 0 → mk2 mk = "@" ++ modM mk) := by decide +kernel
theorem shapes_pos : ∀ p ∈ shapesL, p.2.cps.toList.headD 0 ≠ 120 → 1 ≤ p.1.length := by decide +kernel
theorem keep_some {x : Str} (h : x.length ≠ 0) : keepO (some x) = some x := by simp [keepO, h]
theorem ident_some {sep x : Str} {l t s v m : Option Str} (h : keepO m = some x) : identF sep l t s v m = Str.empty ++ Txt.join sep ([l, s, t, v].filterMap keepO) ++ "@" ++ x := by
  unfold identF; rw [h]
theorem ident_none {sep : Str} {l t s v m : Option Str} (h : keepO m = none) : identF sep l t s v m = Txt.join sep ([l, s, t, v].filterMap keepO) := by
  unfold identF; rw [h]
theorem norm_pos {z : WT} (h : z.good) (hk : kc z ≠ 120) : keepO (some (normW z)) = some (normW z) := by
  have h1 := shapes_pos _ h.1 hk
  have h2 := len_like (norm_like h)
  dsimp only at h1
  exact keep_some (by omega)
theorem keeps_all {n0 : Str} {zs : List WT} (hn : n0.length ≠ 0) (hg : ∀ z ∈ zs, z.good) (hl : zs.map kc ∈ goodCL) :
    ∃ t s v, base n0 zs = [t, s, v] ∧ [some n0, s, t, v].filterMap keepO = n0 :: zs.map normW := by
  refine ⟨_, _, _, base_eq hg hl, ?_⟩
  have k0 : keepO (some n0) = some n0 := keep_some hn
  have kn : keepO none = none := rfl
  cases zs with
  | nil => simp [dueC, k0, kn]
  | cons z1 r1 =>
    have p1 := fun q => norm_pos (hg z1 (.head _)) q
    cases r1 with
    | nil =>
      simp only [List.map_cons, List.map_nil, goodCL, List.mem_cons, List.cons.injEq, List.not_mem_nil, or_false, and_true, reduceCtorEq, and_false, false_or] at hl
      rcases hl with k1 | k1 | k1
      all_goals
        have p1 := p1 (by omega)
        simp [dueC, k0, kn, k1, p1]
    | cons z2 r2 =>
      have p2 := fun q => norm_pos (hg z2 (.tail _ (.head _))) q
      cases r2 with
      | nil =>
        simp only [List.map_cons, List.map_nil, goodCL, List.mem_cons, List.cons.injEq, List.not_mem_nil, or_false, and_true, reduceCtorEq, and_false, false_or] at hl
        rcases hl with ⟨k1, k2⟩ | ⟨k1, k2⟩ | ⟨k1, k2⟩
        all_goals
          have p1 := p1 (by omega)
          have p2 := p2 (by omega)
          simp [dueC, k0, kn, k1, k2, p1, p2, ix1, ix4, ix5]
      | cons z3 r3 =>
        cases r3 with
        | nil =>
          simp only [List.map_cons, List.map_nil, goodCL, List.mem_cons, List.cons.injEq, List.not_mem_nil, or_false, and_true, reduceCtorEq, and_false, false_or] at hl
          obtain ⟨k1, k2, k3⟩ := hl
          have p1 := p1 (by omega)
          have p2 := p2 (by omega)
          have p3 := norm_pos (hg z3 (.tail _ (.tail _ (.head _)))) (by omega)
          simp [dueC, k0, kn, k1, k2, k3, p1, p2, p3, ix2, ix3]
        | cons z4 r4 => simp [goodCL] at hl
theorem ident_whole {sep mk : Str} {z0 : WT} {zs : List WT} (hm : mk ∈ marksL) (h0 : z0.good) (hg : ∀ z ∈ zs, z.good) (hb : goodB z0 zs = true) {r : List (Option Str)} (hr : r = dueL (kindsOf zs) (normL z0 zs) mk) :
    identF sep (r.getD 0 none) (r.getD 1 none) (r.getD 2 none) (r.getD 3 none) (r.getD 4 none) = wholeOf sep (normL z0 zs) mk := by
  rw [goodB_eq h0 hg, Bool.and_eq_true, decide_eq_true_eq] at hb
  have hn : (Txt.lower z0.x).length ≠ 0 := by
    have h1 := len_like (like_lo h0.2.like)
    have h2 : z0.sh.length = z0.sh.cps.toList.length := by simp [Str.length]
    have h3 : z0.sh.cps.toList.length ≠ 0 := fun q => by
      have := hb.1
      rw [List.length_eq_zero_iff.mp q] at this
      cases this
    omega
  obtain ⟨t, s, v, e1, e2⟩ := keeps_all hn hg hb.2
  have er : r = some (Txt.lower z0.x) :: [t, s, v] ++ tailO mk := by
    rw [hr, normL, due_form, e1]
  rw [whole_form, er]
  obtain ⟨m1, m2⟩ := mk2_form _ hm
  have te := tail_md _ hm
  have em : (Str.ofString "") = Str.empty := by decide +kernel
  by_cases hz : (modM mk).length = 0
  · rw [te, if_pos hz, m1 hz, em, Str.append_empty, Str.append_empty]
    show identF sep (some (Txt.lower z0.x)) t s v none = _
    rw [ident_none rfl, e2]; rfl
  · rw [te, if_neg hz, m2 hz, em, Str.append_empty]
    show identF sep (some (Txt.lower z0.x)) t s v (some (modM mk)) = _
    rw [ident_some (keep_some hz), e2, Str.empty_append, Str.append_assoc]
    rfl
/-! lengths and signs -/
theorem norm_len {z : WT} (h : z.good) : (normW z).length ≤ 11 := by
  have h1 := len_like (norm_like h)
  have h2 : z.sh.length ≤ 11 := (shapes_kd _ h.1).2
  omega
theorem low_len {z : WT} (h : z.good) : (Txt.lower z.x).length ≤ 11 := by
  have h1 := len_like (like_lo h.2.like)
  have h2 : z.sh.length ≤ 11 := (shapes_kd _ h.1).2
  omega
theorem normL_len {z0 : WT} {zs : List WT} (h0 : z0.good) (hg : ∀ z ∈ zs, z.good) : ∀ x ∈ normL z0 zs, x.length ≤ 11 ∧ Clean x := by
  intro x hx
  rcases List.mem_cons.mp hx with rfl | hx
  · exact ⟨low_len h0, clean_like (like_lo h0.2.like)⟩
  · obtain ⟨z, hz, rfl⟩ := List.mem_map.mp hx
    exact ⟨norm_len (hg z hz), clean_like (norm_like (hg z hz))⟩
theorem join_small {sep : Str} (h : sep = "_" ∨ sep = "-") {xs : List Str} (hl : xs.length ≤ 6) (hx : ∀ x ∈ xs, x.length ≤ 11) : (Txt.join sep xs).length ≤ 80 := by
  have h1 := sum_len hx
  show (Builtin.Str.glued sep xs).length ≤ _
  rw [size_glued, sep_len h]
  omega
theorem repr_small {x : Str} (h : ∀ c ∈ x.cps.toList, c < 128) (hl : x.length ≤ 100) : (reprText x).length ≤ 100000 := by
  have := StrLaws.reprText_len x fun c hc => by have := h c hc; omega
  omega
theorem due_mem {z0 : WT} {zs : List WT} {mk : Str} (hm : mk ∈ marksL) (h0 : z0.good) (hg : ∀ z ∈ zs, z.good) : ∀ x, some x ∈ dueL (kindsOf zs) (normL z0 zs) mk → x.length ≤ 5000 ∧ PyData.strOk x = true := by
  have nlen : ∀ x ∈ normL z0 zs, x.length ≤ 5000 ∧ PyData.strOk x = true := fun x hx => by
    obtain ⟨a, b⟩ := normL_len h0 hg x hx
    refine ⟨by omega, ?_⟩
    unfold PyData.strOk
    rw [← Array.all_toList, List.all_eq_true]
    intro c hc
    have := (b c hc).2.2.2.2
    simp; omega
  have tl : ∀ mk ∈ marksL, ∀ o ∈ tailO mk, (o.all fun x => decide (x.length ≤ 5000) && PyData.strOk x) = true := by decide +kernel
  intro x hx
  unfold dueL at hx
  rcases List.mem_append.mp hx with hx | hx
  · rcases List.mem_append.mp hx with hx | hx
    · simp only [List.mem_singleton] at hx
      exact nlen x (List.mem_of_getElem? hx.symm)
    · obtain ⟨c, _, e⟩ := List.mem_map.mp hx
      unfold dueO at e
      by_cases hc : Txt.contains (kindsOf zs) c = true
      · rw [if_pos hc] at e
        have e := Option.some.inj e
        rw [List.getD_eq_getElem?_getD] at e
        cases q : (normL z0 zs)[(1 + Txt.find (kindsOf zs) c).toNat]? with
        | none => rw [q] at e; rw [← e]; decide +kernel
        | some y => rw [q] at e; rw [← e]; exact nlen y (List.mem_of_getElem? q)
      · rw [if_neg hc] at e; cases e
  · have := tl mk hm _ hx
    simpa using this
theorem goodL_of {z0 : WT} {zs : List WT} (hb : goodB z0 zs = true) : kindsOf zs ∈ goodL := by
  unfold goodB at hb
  simp only [Bool.and_eq_true] at hb
  obtain ⟨k, hk, e⟩ := List.any_eq_true.mp hb.2.2
  rw [beq_iff_eq] at e
  exact e ▸ hk
theorem kinds_len {zs : List WT} (hg : ∀ z ∈ zs, z.good) : (kindsOf zs).length = zs.length := by
  rw [kinds_cps hg]
  show (zs.map kc).toArray.size = _
  simp
theorem tail_len : ∀ mk ∈ marksL, (tailO mk).length ≤ 1 := by decide +kernel
section
variable {w : World} {A₀ : Around} {s : Shared} {Ef : Value → Shared → Prop} {Qf : Flow → Shared → Prop} {h₀ h : Heap} {outer : List Env} {S fa : Addr} {cd : Value} {vs : List Value} {ns : List Int} {tk : Nat} {o1 o2 o3 : Obj}
set_option maxRecDepth 100000 in
set_option maxHeartbeats 4000000 in
theorem law_walk (X : Tops w h₀) (K : Below A₀ h₀ outer h₀) (hroom : (A₀.deeper (lawEnv h₀.objs.size fa cd)).depth + 1 < recursionLimit) (hh : (A₀.deeper (lawEnv h₀.objs.size fa cd)).handled = none) (hu : (A₀.deeper (lawEnv h₀.objs.size fa cd)).units + 64 < cLine)
    (hpo : ∀ e, PassesOwnAt (model P0 w) ((A₀.deeper (lawEnv h₀.objs.size fa cd)).mark (some (.ref e))) (A₀.deeper (lawEnv h₀.objs.size fa cd)) (lawEnv h₀.objs.size fa cd) Ef)
    (hS : h₀.IsList S vs.toArray) (hI : IntsAre vs ns) (h63 : ns.length ≤ 63) (F : Fr h₀ h₀.objs.size h (M0 S)) (c1 : o1.data = .cell none) (c2 : o2.data = .cell none) (c3 : o3.data = .cell none)
    (N : News h₀ h₀.objs.size h (cells3 h₀.objs.size o1 o2 o3))
    (hQ : ∀ h' k m', Fr h₀ h₀.objs.size h' m' → Qf (.ret (.bool true)) { s with heap := h', toks := k }) :
    wpAny (model P0 w) (A₀.deeper (lawEnv h₀.objs.size fa cd)) (execs lawBody (lawEnv h₀.objs.size fa cd)) Qf Ef { s with heap := h, toks := tk } := by
  refine sec0 X hh hS hI h63 F N (fun n t h k F N => ?_)
  refine sec1 X hh F N (fun sep t1 h k hsep F N => ?_)
  refine sec2 X hh F N (fun mk t2 h k hmk F N => ?_)
  refine sec3 X hroom hh hS hI h63 F N (fun ws W h k hw1 hw6 hgood F N => ?_)
  cases ws with
  | nil => exact absurd hw1 (by decide)
  | cons z0 zs =>
  have h5 : zs.length ≤ 5 := by simp only [List.length_cons] at hw6; omega
  have hg0 : z0.good := hgood z0 (.head _)
  have hgz : ∀ z ∈ zs, z.good := fun z hz => hgood z (.tail _ hz)
  refine sec4 X hh h5 hgz F c1 c2 c3 N (fun o1' t4 h k c1' F N => ?_)
  refine sec5 X h5 hgood F c1' N (fun h k F N => ?_)
  refine sec6 X hh hw6 hgood hsep hmk F N (fun enc t5 h k henc F N => ?_)
  have hxl : ∀ x ∈ (z0 :: zs).map (fun z : WT => z.x), x.length ≤ 11 ∧ Clean x := fun x hx => by
    obtain ⟨z, hz, rfl⟩ := List.mem_map.mp hx
    exact ⟨word_len (hgood z hz), clean_like (hgood z hz).2.like⟩
  have hjs := join_small hsep (xs := (z0 :: zs).map (fun z : WT => z.x)) (by simpa using hw6) fun x hx => (hxl x hx).1
  have hel := encs_len _ henc
  have hml := marks_len _ hmk
  obtain ⟨q1, q2, q3⟩ := parts_of (enc := enc) (mk := mk) hsep (w0 := z0.x) (ws := zs.map (fun z : WT => z.x)) (fun x hx => (hxl x hx).2) henc hmk
  have hpt := parse_text (enc := enc) hsep henc hmk hg0 hgz
  have hroom' : (A₀.deeper (lawEnv h₀.objs.size fa cd)).depth < recursionLimit := by omega
  have s1 : (textOf sep (z0 :: zs) enc mk).length ≤ 1000 := by
    unfold textOf
    rw [Str.length_append, Str.length_append]
    have := hjs
    omega
  have s2 : (reprText (idOf (textOf sep (z0 :: zs) enc mk))).length ≤ 100000 := by
    have e : idOf (textOf sep (z0 :: zs) enc mk) = Txt.join sep ((z0 :: zs).map (fun z : WT => z.x)) := q1
    rw [e]
    exact repr_small (fun c hc => (join_clean hsep (fun x hx => (hxl x hx).2) c hc).2) (Nat.le_trans hjs (by decide))
  have s3 : Txt.split (idOf (textOf sep (z0 :: zs) enc mk)) sep = z0.x :: zs.map (fun z : WT => z.x) := q3
  have s4 : parseT (textOf sep (z0 :: zs) enc mk) sep = none → goodB z0 zs = false := fun hp => by
    rw [hpt] at hp
    by_cases hb : goodB z0 zs = true
    · rw [if_pos hb] at hp; cases hp
    · simpa using hb
  refine sec7 (tx := textOf sep (z0 :: zs) enc mk) (w0 := z0.x) (wr := zs.map (fun z : WT => z.x)) (ws := z0 :: zs) X K hroom' hh hpo hsep s1 (fun _ => s3) (by rw [List.length_map]; omega)
    (repr_small (fun c hc => (clean_like (like_lo hg0.2.like) c hc).2.2.2.2) (by have := low_len hg0; omega)) s2 s4 F N hQ (fun r D us h k hp ho F N => ?_)
  rw [hpt] at hp
  by_cases hb : goodB z0 zs = true
  case neg => rw [if_neg hb] at hp; cases hp
  rw [if_pos hb] at hp
  have hr := (Option.some.inj hp).symm
  rw [hb] at F
  have hkk := goodL_of hb
  have hkl := kinds_len hgz
  have hk3 := goodL_len _ hkk
  have hnl := normL_len hg0 hgz
  refine sec8 X F N (fun h k F N => ?_)
  refine sec9 X hh h5 hgood F c2 N (fun o2' h k N1 us2 c2' hus F N => ?_)
  refine sec10 X hh hmk hkk (by rw [List.length_map, hkl]) F c1' c2' c3 hus N (fun o3' h k D2 vs2 c3' hvs F N => ?_)
  refine sec11 X hsep hmk (by simp only [normL, List.length_cons, List.length_map]; omega) (fun x hx => by have := (hnl x hx).1; omega) F c2' hus N (fun h k t6 F N => ?_)
  have htl := tail_len _ hmk
  refine sec12 (n0 := Txt.lower z0.x) (os := base (Txt.lower z0.x) zs ++ tailO mk) X hh (by rw [List.length_append]; have : (base (Txt.lower z0.x) zs).length = 3 := rfl; omega) F c3' hvs N (fun M T h k hM1 hM2 hMj F N => ?_)
  have hrl : r.length ≤ 5 ∧ 1 ≤ r.length := by
    rw [hr]
    show (some (Txt.lower z0.x) :: base (Txt.lower z0.x) zs ++ tailO mk).length ≤ 5 ∧ _
    have : (base (Txt.lower z0.x) zs).length = 3 := rfl
    simp only [List.length_append, List.length_cons]
    constructor
    · omega
    · show 1 ≤ (some (Txt.lower z0.x) :: base (Txt.lower z0.x) zs ++ tailO mk).length
      simp only [List.length_append, List.length_cons]; omega
  have hdm := due_mem hmk hg0 hgz
  obtain ⟨m1, m2⟩ := mk2_in _ hmk
  have hwc : ∀ x ∈ normL z0 zs, Clean x := fun x hx => (hnl x hx).2
  have hws := join_small hsep (xs := normL z0 zs) (by simp only [normL, List.length_cons, List.length_map]; omega) fun x hx => (hnl x hx).1
  have hm2l := marks_len _ m1
  obtain ⟨p1, p2, p3⟩ := parts_of (enc := "") (mk := mk2 mk) hsep (w0 := Txt.lower z0.x) (ws := zs.map normW) hwc (by decide +kernel) m1
  have hpw := parse_whole hsep hmk hg0 hgz
  rw [if_pos hb, hp] at hpw
  refine sec13 (w0 := Txt.lower z0.x) (wr := zs.map normW) X hroom' hh hu hsep (by rw [whole_form, Str.length_append, Str.length_append]; have : (Str.ofString "").length = 0 := rfl; omega) (fun _ => by rw [whole_form]; exact p3) (by rw [List.length_map]; omega)
    (by rw [lolo hg0.2.like]; exact repr_small (fun c hc => (clean_like (like_lo hg0.2.like) c hc).2.2.2.2) (by have := low_len hg0; omega))
    (by rw [whole_form, show idOf (Txt.join sep (normL z0 zs) ++ "" ++ mk2 mk) = _ from p1]; exact repr_small (fun c hc => (join_clean hsep hwc c hc).2) (by exact Nat.le_trans hws (by decide)))
    hpw (by omega) (fun x hx => (hdm x (hr ▸ hx)).2) F c3' (by rw [hr]; exact hvs) ho N (fun h k F N => ?_)
  exact sec14 X hroom' hh hsep hrl.1 hrl.2 hM1 (by rw [hr]; exact hMj) (fun x hx => (hdm x (hr ▸ hx)).1) (ident_whole hmk hg0 hgz hb hr) F (by rw [hr]; exact hvs) ho N hQ
end
theorem fr_congr {h₀ h : Heap} {L : Addr} {m m' : Str → Option Value} (e : ∀ y, m y = m' y) (F : Fr h₀ L h m) : Fr h₀ L h m' := (funext e : m = m') ▸ F
end Mine
open Mine
set_option maxRecDepth 100000 in
set_option maxHeartbeats 8000000 in
theorem PySem.Challenge.cw_nk0003_01_holds : PySem.Challenge.rw_nk0003_01.Holds := by
  refine hd ?_
  w_strict (k_go0)
  all_goals (try k_fold)
  rename_i K0 hD h₁ tk F o3 o2 o1 l3 l2 l1 N0 X0
  have X : Tops _ _ := ⟨‹Frag.In _ _›, _, _, topRead_of ‹Top _ _ _ _ _ _›⟩
  have hL := ‹Heap.IsList _ _ _›
  have hI := ‹IntsAre _ _›
  refine law_walk (o1 := o1) (o2 := o2) (o3 := o3) X K0 ?_ ?_ ?_ ?_ hL hI ?_ (fr_congr ?_ F) ?_ ?_ ?_ N0 ?_
  · show callerA.depth + 1 + 1 < recursionLimit
    decide
  · rfl
  · first | units_room | exact Nat.le_of_ble_eq_true rfl
  · intro e
    passes_own
  · omega
  · intro y
    rfl
  · exact l1
  · exact l2
  · exact l3
  · intro h' k m' F'
    k_end
    wrow_close
