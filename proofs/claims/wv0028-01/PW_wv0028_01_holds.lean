import PyProof.Rows.All
import Wide.All
import OpenK.AllK
import Wide.FinOn
import KE.KTurnsGround
import KE.KMulAny
import KE.KLcPair
import KE.KLcTest
import KE.RegKSuper
import PyProof.InstStoreFacts
import KE.KRevIter
import PyProof.SumAny
import PyProof.Rows.SumGenA
import KE.KNest
import PyProof.RangeFor
import KE.KSortAsk
import KE.KSortTup
import KE.KTryDeep
import KE.KTryMore
import PyProof.Rows.StrFromFirst
import KE.KItem
import OpenK.KMake
import PyProof.ListNew
import KE.KPop
import KE.KStrOpen
import PyProof.Rows.ReprOcc
import Lean
import PySem.Challenge.RW_wv0028_01
open PySem PySem.W PyProof.Rows
set_option Elab.async false
set_option maxRecDepth 100000
set_option maxHeartbeats 8000000
set_option compiler.extract_closed false
set_option genSizeOf false
set_option genInjectivity false
set_option linter.unusedVariables false
namespace Mine
noncomputable abbrev prgQ : Program := PySem.Challenge.rw_wv0028_01.row.toRowW.prog
noncomputable def viewQ : Program := PySem.W.view prgQ [0, 2, 4, 5, 6, 7, 8, 9, 11, 12, 14, 15, 16, 17, 19, 20, 21, 22, 23, 24, 25, 26]
theorem saidQ : OpenLaw.wellSaid PySem.Challenge.rw_wv0028_01 = true := by first | exact (congrFun PySem.W.Fast.te9446332074065402090 _).trans (by kernel_rfl) | kernel_rfl
noncomputable abbrev xtQ (s : Shared) : Bool := xlAt viewQ [] s && recOk (RowW.records PySem.Challenge.rw_wv0028_01.row.toRowW) s
noncomputable def mkL {T G : World -> Prop} (h : ∀ w, G w -> T w) : {P : Prop // P -> ∀ w, T w} := ⟨∀ w, G w, fun k w => h w (k w)⟩
noncomputable def leftQ {α : Type} (Yf : Shared -> α) (Ya : World -> α) : {P : Prop // P -> LeftO PySem.Challenge.rw_wv0028_01.row.prog viewQ [Str.ofString "_Accumulator"] xtQ Yf Ya 4156} := by
  apply mkL
  · intro w h
    unfold openEnds fencedOpening topFrom
    try rw [PySem.W.Fast.te14082659384304107361, PySem.W.Fast.te10274390034422433532, PySem.W.Fast.te14289696077712309145, PySem.W.Fast.te14364793385576792824, PySem.W.Fast.te4187177175401517315, PySem.W.Fast.te1435165496053646825]
    exact h
theorem openQ {d : DefRec} {kwd : List (Str × Expr)} (H : Hook)
    (hl : (leftQ H.obs H.val).1)
    (hdef : defOf viewQ PySem.Challenge.rw_wv0028_01.row.name = some (d, kwd)) (hp : PySem.Challenge.rw_wv0028_01.row.prog.theDef PySem.Challenge.rw_wv0028_01.row.name = some (d.params, d.body, d.scope)) (hk : kwWritten? d.params.kwonlyargs d.params.kw_defaults = some kwd)
    (k1 : PySem.Challenge.rw_wv0028_01.row.wellSaid = true) (hw : PySem.Challenge.rw_wv0028_01.row.toRowW.promised)
    (hc : WalkO viewQ [Str.ofString "_Accumulator"] (XL viewQ []) H.says PySem.Challenge.rw_wv0028_01.row.toRowW d kwd fun f vs => PySem.call f vs) : PySem.Challenge.rw_wv0028_01.row.Holds :=
  holds_open (q := viewQ) (XP := XL viewQ []) (YP := H.says) ((leftQ _ _).2 hl) H.of H.keeps (fun s e => xl_of s (Bool.and_eq_true_iff.mp e).1) XL.keeps hdef hp hk (fun s e => recFacts_of (Bool.and_eq_true_iff.mp e).2) (by rfl) k1 (by decide +kernel) ⟨rfl, rfl, rfl, rfl, rfl, by decide +kernel⟩ hw hc
section
local macro_rules | `(tactic| o_head ($f $k $a $e $ts)) => `(tactic| (refine Mine.openQ ($f $k $a $e (147 :: 140 :: $ts)) ?hl (by rfl) (by rfl) (by rfl) (by first | assumption | decide +kernel) ?hw ?hc; (case hl => intro w; kernel_rfl)))
local macro_rules | `(tactic| o_law) => `(tactic| refine holds_law Mine.saidQ fun said => ?_)
open_top hd for PySem.Challenge.rw_wv0028_01
end
local macro_rules | `(tactic| omega) => `(tactic| first | exact Nat.le_of_ble_eq_true rfl | lia | omega +splitDisjunctions)
open _root_.List renaming mem_singleton -> Lms, mem_cons -> Lmc, mem_append -> Lma, mem_append_right -> Lar, mem_append_left -> Lal, length_map -> Llm, mem_cons_of_mem -> Lmk, mem_flatten -> Lmf, drop_succ_cons -> Lds, drop_zero -> Ldz, mem_map -> Lmm, cons_append -> Lca, map_append -> Lmp, size_toArray -> Lst, nil_append -> Lna, not_mem_nil -> Lnm, flatten_cons -> Lfc, map_cons -> Lpc, length_append -> Lla, length_cons -> Llc, mem_of_getElem? -> Lmg, getElem?_map -> Lgm, append_assoc -> Laa, append_nil -> Lan, map_map -> Lmq, length_take -> Llt
open _root_.Nat renaming ne_of_lt -> Nnl, lt_succ_self -> Nls, le_trans -> Nlt, lt_of_le_of_lt -> Nll, lt_trans -> Nltt, le_of_eq -> Nle
open _root_.PySem.Str renaming ofString -> Zs
open _root_.PySem.W renaming listOf -> Wl
open _root_.PySem.Challenge renaming rw_wv0028_01 -> RWQ
open _root_.PySem.Heap renaming lt_size -> Hls
theorem prime0 (w : World) (h : Heap) : (_root_.Mine.hd.heap_1 w.params).In h -> RWQ = RWQ := by
  k_fill
  intros; rfl
open PySem PySem.W PySem.Calls PyProof.Rows
variable {w : World} {j dp un : Nat} {A₀ : Around} {env : Env} {outer : List Env} {base h₀ : Heap} {L : Addr} {m : Str -> Option Value} {news : List (Addr × Obj)} {s : Shared} {R : Result -> Shared -> Prop} {Q : Value -> Shared -> Prop} {E : Value -> Shared -> Prop}
section
noncomputable abbrev AA (dp un : Nat) (env : Env) (outer : List Env) : Around := ⟨none, dp, some (env :: outer), some [], un⟩
inductive TopEx (h : Heap) : Prop
  | mk (p : Program) (loose : List Str) (mean : ExcName -> Option Value) (mg mb : Str -> Option Value) (t : Top p loose mean mg mb h) : TopEx h
structure Cx (w : World) (j dp un : Nat) (A₀ : Around) (env : Env) (outer : List Env) (base h₀ : Heap) (L : Addr) : Prop where
  X : (_root_.Mine.hd.heap_1 w.params).In h₀
  T : TopEx h₀
  B : Below A₀ base outer h₀
  f : env.frame = some L
  k : env.scope.kind = .function
  d : dp + j ≤ 340
  u : un + 3 * j ≤ 500
noncomputable def LeaveTo (h₀ : Heap) (L : Addr) (m : Str -> Option Value) (g : Heap) (R : Result -> Shared -> Prop) (Q' : Flow -> Shared -> Prop) : Prop := ∀ fl s', LeaveK h₀ L m g R (match fl with | .ret v => v | _ => .none) s' -> Q' fl s'
theorem LeaveTo.go {h₀ : Heap} {L : Addr} {m : Str -> Option Value} {g : Heap} {R : Result -> Shared -> Prop} {Q' : Flow -> Shared -> Prop} (h : LeaveTo h₀ L m g R Q') {fl : Flow} {s' : Shared} (k : LeaveK h₀ L m g R (match fl with | .ret v => v | _ => .none) s') : Q' fl s' := h _ _ k
noncomputable def LeaveToV (h₀ : Heap) (L : Addr) (m : Str -> Option Value) (g : Heap) (R : Result -> Shared -> Prop) (Q' : Value -> Shared -> Prop) : Prop := ∀ v s', LeaveK h₀ L m g R v s' -> Q' v s'
theorem LeaveToV.go {h₀ : Heap} {L : Addr} {m : Str -> Option Value} {g : Heap} {R : Result -> Shared -> Prop} {Q' : Value -> Shared -> Prop} (h : LeaveToV h₀ L m g R Q') {v : Value} {s' : Shared} (k : LeaveK h₀ L m g R v s') : Q' v s' := h _ _ k
noncomputable def AllLs (d : Nat) : List (Addr × Obj) -> Prop
  | [] => True
  | [p] => @LT.lt Nat _ p.1 d
  | p :: q :: r => @LT.lt Nat _ p.1 d ∧ AllLs d (q :: r)
noncomputable def IsLit : List (Addr × Obj) -> Prop
  | [] => True
  | _ :: r => IsLit r
theorem allLs_of {d : Addr} : ∀ {l : List (Addr × Obj)}, (∀ p ∈ l, p.1 < d) -> IsLit l -> AllLs d l
  | [], _, _ => trivial
  | [p], h, _ => h p (.head _)
  | p :: q :: r, h, i => ⟨h p (.head _), allLs_of (l := q :: r) (fun z hz => h z (.tail _ hz)) i⟩
theorem allNil {d : Addr} (_ : ∀ p ∈ ([] : List (Addr × Obj)), p.1 < d) : True := trivial
theorem el4 {a b c d : Sort _} {P : a -> b -> c -> d -> Prop} {G : Prop} (y : ∃ x1 x2 x3 x4, P x1 x2 x3 x4) (k : ∀ x1 x2 x3 x4, P x1 x2 x3 x4 -> G) : G := by
  obtain ⟨x1, x2, x3, x4, q⟩ := y
  exact k x1 x2 x3 x4 q
theorem el7 {a b c d e f g : Sort _} {P : a -> b -> c -> d -> e -> f -> g -> Prop} {G : Prop} (y : ∃ x1 x2 x3 x4 x5 x6 x7, P x1 x2 x3 x4 x5 x6 x7) (k : ∀ x1 x2 x3 x4 x5 x6 x7, P x1 x2 x3 x4 x5 x6 x7 -> G) : G := by
  obtain ⟨x1, x2, x3, x4, x5, x6, x7, q⟩ := y
  exact k x1 x2 x3 x4 x5 x6 x7 q
theorem hide {P : Prop} (h : ∀ G : Prop, (P -> G) -> G) : P := h P id
theorem inHead {α : Type} {a : α} {l : List α} : a ∈ a :: l := .head _
theorem inTail {α : Type} {a b : α} {l : List α} (h : a ∈ l) : a ∈ b :: l := .tail _ h
theorem inLeft {α : Type} {a : α} {x y : List α} (h : a ∈ x) : a ∈ x ++ y := Lal _ h
theorem inRight {α : Type} {a : α} {x y : List α} (h : a ∈ y) : a ∈ x ++ y := Lar _ h
theorem subRefl {α : Type} {l : List α} : ∀ p ∈ l, p ∈ l := fun _ h => h
theorem subNil {α : Type} {l : List α} : ∀ p ∈ ([] : List α), p ∈ l := fun _ h => nomatch h
theorem subCons {α : Type} {a : α} {x l : List α} (h : a ∈ l) (k : ∀ p ∈ x, p ∈ l) : ∀ p ∈ a :: x, p ∈ l := List.forall_mem_cons.mpr ⟨h, k⟩
theorem subApp {α : Type} {x y l : List α} (h : ∀ p ∈ x, p ∈ l) (k : ∀ p ∈ y, p ∈ l) : ∀ p ∈ x ++ y, p ∈ l := fun p hp => (Lma.mp hp).elim (h p) (k p)
theorem subSkip {α : Type} {a : α} {x l : List α} (h : ∀ p ∈ x, p ∈ l) : ∀ p ∈ x, p ∈ a :: l := fun p hp => .tail _ (h p hp)
theorem subLeft {α : Type} {x y l : List α} (h : ∀ p ∈ x, p ∈ l) : ∀ p ∈ x, p ∈ l ++ y := fun p hp => Lal _ (h p hp)
theorem subRight {α : Type} {x y l : List α} (h : ∀ p ∈ x, p ∈ l) : ∀ p ∈ x, p ∈ y ++ l := fun p hp => Lar _ (h p hp)
theorem faNil {α : Type} {P : α -> Prop} : ∀ p ∈ ([] : List α), P p := fun _ h => nomatch h
theorem faCons {α : Type} {P : α -> Prop} {a : α} {x : List α} (h : P a) (k : ∀ p ∈ x, P p) : ∀ p ∈ a :: x, P p := List.forall_mem_cons.mpr ⟨h, k⟩
theorem faApp {α : Type} {P : α -> Prop} {x y : List α} (h : ∀ p ∈ x, P p) (k : ∀ p ∈ y, P p) : ∀ p ∈ x ++ y, P p := fun p hp => (Lma.mp hp).elim (h p) (k p)
noncomputable def SelP (P r : Prop) : Prop := P -> r
theorem SelP.here {r p : Prop} : SelP (r ∧ p) r := And.left
theorem SelP.last {r : Prop} : SelP r r := id
theorem SelP.next {x p r : Prop} (k : SelP p r) : SelP (x ∧ p) r := fun h => k h.2
theorem sel0 {p0 r : Prop} : SelP (p0 ∧ r) p0 := fun h => h.1
theorem selL1 {p0 p1 : Prop} : SelP (p0 ∧ p1) p1 := fun h => h.2
theorem sel1 {p0 p1 r : Prop} : SelP (p0 ∧ p1 ∧ r) p1 := fun h => h.2.1
theorem selL2 {p0 p1 p2 : Prop} : SelP (p0 ∧ p1 ∧ p2) p2 := fun h => h.2.2
theorem sel2 {p0 p1 p2 r : Prop} : SelP (p0 ∧ p1 ∧ p2 ∧ r) p2 := fun h => h.2.2.1
theorem selL3 {p0 p1 p2 p3 : Prop} : SelP (p0 ∧ p1 ∧ p2 ∧ p3) p3 := fun h => h.2.2.2
theorem sel3 {p0 p1 p2 p3 r : Prop} : SelP (p0 ∧ p1 ∧ p2 ∧ p3 ∧ r) p3 := fun h => h.2.2.2.1
theorem selL4 {p0 p1 p2 p3 p4 : Prop} : SelP (p0 ∧ p1 ∧ p2 ∧ p3 ∧ p4) p4 := fun h => h.2.2.2.2
theorem sel4 {p0 p1 p2 p3 p4 r : Prop} : SelP (p0 ∧ p1 ∧ p2 ∧ p3 ∧ p4 ∧ r) p4 := fun h => h.2.2.2.2.1
theorem selL5 {p0 p1 p2 p3 p4 p5 : Prop} : SelP (p0 ∧ p1 ∧ p2 ∧ p3 ∧ p4 ∧ p5) p5 := fun h => h.2.2.2.2.2
theorem sel5 {p0 p1 p2 p3 p4 p5 r : Prop} : SelP (p0 ∧ p1 ∧ p2 ∧ p3 ∧ p4 ∧ p5 ∧ r) p5 := fun h => h.2.2.2.2.2.1
theorem selL6 {p0 p1 p2 p3 p4 p5 p6 : Prop} : SelP (p0 ∧ p1 ∧ p2 ∧ p3 ∧ p4 ∧ p5 ∧ p6) p6 := fun h => h.2.2.2.2.2.2
theorem sel6 {p0 p1 p2 p3 p4 p5 p6 r : Prop} : SelP (p0 ∧ p1 ∧ p2 ∧ p3 ∧ p4 ∧ p5 ∧ p6 ∧ r) p6 := fun h => h.2.2.2.2.2.2.1
theorem selL7 {p0 p1 p2 p3 p4 p5 p6 p7 : Prop} : SelP (p0 ∧ p1 ∧ p2 ∧ p3 ∧ p4 ∧ p5 ∧ p6 ∧ p7) p7 := fun h => h.2.2.2.2.2.2.2
theorem sel7 {p0 p1 p2 p3 p4 p5 p6 p7 r : Prop} : SelP (p0 ∧ p1 ∧ p2 ∧ p3 ∧ p4 ∧ p5 ∧ p6 ∧ p7 ∧ r) p7 := fun h => h.2.2.2.2.2.2.2.1
theorem selS {p0 p1 p2 p3 p4 p5 p6 p7 p r : Prop} (k : SelP p r) : SelP (p0 ∧ p1 ∧ p2 ∧ p3 ∧ p4 ∧ p5 ∧ p6 ∧ p7 ∧ p) r := fun h => k h.2.2.2.2.2.2.2.2
theorem ne_andL {a b x : Nat} {p : Prop} (h : x < b ∧ p) (k : SelP (x < b ∧ p) (a < b)) : a ≠ b := Nnl (k h)
theorem ne_andR {a b x : Nat} {p : Prop} (h : x < b ∧ p) (k : SelP (x < b ∧ p) (a < b)) : b ≠ a := Nat.ne_of_gt (k h)
theorem Cx.lt {w : World} {j dp un : Nat} {A₀ : Around} {env : Env} {outer : List Env} {base h₀ : Heap} {L : Addr} (cx : Cx w j dp un A₀ env outer base h₀ L) : dp < 1000 := Nll (Nlt (Nat.le_add_right _ _) cx.d) (by decide)
noncomputable abbrev tupOf (vs : List Value) : Obj := { cls := .type "tuple", data := .seq vs.toArray }
section
variable {w : World} {j dp un : Nat} {A₀ : Around} {s : Shared} {base h₀ : Heap} {outer : List Env} {L : Addr} {m : Str -> Option Value} {env : Env} {own : List (Addr × Obj)}
  {R : Result -> Shared -> Prop} {name qual : Str} {params : Arguments} {body : List Stmt} {scope : Scope} {cl : List (Str × Addr)} {dV kV doc pm cdv ct oc : Value} {fo : Obj} {an od : Option Addr} {osl : Array (Option Value)} {f : Addr} {args : Args} {binds : List (Str × Value)}
theorem enterP0 (cx : Cx w (j + 1) dp un A₀ env outer base h₀ L) (F : Fr h₀ L s.heap m) (O : News h₀ L s.heap own)
    (ho : (_root_.Mine.hd.heap_1 w.params).lookup f = some ⟨oc, od, .func (fnX name qual params body scope cl dV kV doc pm an cdv ct), osl⟩) (hcd : codeIn (_root_.Mine.hd.heap_1 w.params) cdv qual = true)
    (hbind : BindsTo s (fnX name qual params body scope cl dV kV doc pm an cdv ct) args binds) (hloc : ∀ y ∈ binds, scope.names.lookup y.1 = some .local)
    (h : ∀ g L' h₁, Fr h₀ L g m -> (∀ b o, s.heap.get? b = some o -> b ∉ own.map (·.1) -> g.get? b = some o) -> Fr g L' h₁ (fun y => binds.reverse.lookup y) -> News g L' h₁ own -> Cx w j (dp + 1) (un + 3) (AA dp un env outer) (envX qual scope L' f cdv cl) (env :: outer) base g L' -> (∀ p ∈ own, p.1 < L') ->
      wpAny (model RWQ.row.prog w) (AA (dp + 1) (un + 3) (envX qual scope L' f cdv cl) (env :: outer)) (execs body (envX qual scope L' f cdv cl))
        (fun fl s' => LeaveK h₀ L m g R (match fl with | .ret v => v | _ => .none) s')
        (fun e s' => wpAny (model RWQ.row.prog w) (AA (dp + 1) (un + 3) (envX qual scope L' f cdv cl) (env :: outer)) (leaving (envX qual scope L' f cdv cl) e) (fun _ s'' => R (.error e) s'') (fun e' s'' => R (.error e') s'') s')
        { s with heap := h₁, toks := s.toks + binds.length })
    (hcell : ∀ x ∈ scope.names, x.2 ≠ .cell) (hco : scope.isCoroutine = false) (hgen : scope.isGenerator = false) (hk : scope.kind = .function) :
    codeAny (model RWQ.row.prog w) (AA dp un env outer) (.call (.ref f) args) R s := by
  obtain ⟨X, ⟨p, loose, mean, mg, mb, T⟩, B, hf, hke, hd0, hu0⟩ := cx
  obtain ⟨FG, BG, st, lv⟩ := groundX (R := R) B F O (A := AA dp un env outer) rfl hf hke
  refine codeAny_call_def (fd := fnX name qual params body scope cl dV kV doc pm an cdv ct) (body := body) (binds := binds) (show dp < 1000 by omega) ((X.keeps F.keep) _ _ ho) rfl (T.nolimit.keeps F.keep) (codeRec_of (X.keeps F.keep) hcd) rfl hbind hcell hloc (fun h₁ hns hk₁ => ?_) hco hgen hk
  exact wpAny_mono (h _ s.heap.objs.size h₁ FG (fun b o e q => hideAll_get _ e q) ⟨hns, fun b o e => hk₁ b o (of_hideAll _ e), Nle (hideAll_size _ _)⟩
    (fun p hp => ⟨hk₁ _ _ (O p hp).1, Nnl (Hls (O p hp).1), hideAll_none _ (List.mem_map_of_mem hp)⟩) ⟨X.keeps st, ⟨p, loose, mean, mg, mb, T.keeps st⟩, BG, rfl, hk, (by omega), (by omega)⟩ (fun p hp => Hls (O p hp).1)) (fun fl s' hl => lv _ _ hl) fun _ _ y => y
theorem enterF0 (cx : Cx w (j + 1) dp un A₀ env outer base h₀ L) (F : Fr h₀ L s.heap m) (O : News h₀ L s.heap own)
    (ho : s.heap.get? f = some fo) (hfd : fo.data = .func (fnX name qual params body scope cl dV kV doc pm an cdv ct)) (hcd : s.heap.CodeRec cdv qual)
    (hbind : BindsTo s (fnX name qual params body scope cl dV kV doc pm an cdv ct) args binds) (hloc : ∀ y ∈ binds, scope.names.lookup y.1 = some .local)
    (h : ∀ g L' h₁, Fr h₀ L g m -> (∀ b o, s.heap.get? b = some o -> b ∉ own.map (·.1) -> g.get? b = some o) -> Fr g L' h₁ (fun y => binds.reverse.lookup y) -> News g L' h₁ own -> Cx w j (dp + 1) (un + 3) (AA dp un env outer) (envX qual scope L' f cdv cl) (env :: outer) base g L' -> (∀ p ∈ own, p.1 < L') ->
      wpAny (model RWQ.row.prog w) (AA (dp + 1) (un + 3) (envX qual scope L' f cdv cl) (env :: outer)) (execs body (envX qual scope L' f cdv cl))
        (fun fl s' => LeaveK h₀ L m g R (match fl with | .ret v => v | _ => .none) s')
        (fun e s' => wpAny (model RWQ.row.prog w) (AA (dp + 1) (un + 3) (envX qual scope L' f cdv cl) (env :: outer)) (leaving (envX qual scope L' f cdv cl) e) (fun _ s'' => R (.error e) s'') (fun e' s'' => R (.error e') s'') s')
        { s with heap := h₁, toks := s.toks + binds.length })
    (hcell : ∀ x ∈ scope.names, x.2 ≠ .cell) (hco : scope.isCoroutine = false) (hgen : scope.isGenerator = false) (hk : scope.kind = .function) :
    codeAny (model RWQ.row.prog w) (AA dp un env outer) (.call (.ref f) args) R s := by
  obtain ⟨X, ⟨p, loose, mean, mg, mb, T⟩, B, hf, hke, hd0, hu0⟩ := cx
  obtain ⟨FG, BG, st, lv⟩ := groundX (R := R) B F O (A := AA dp un env outer) rfl hf hke
  refine codeAny_call_def (fd := fnX name qual params body scope cl dV kV doc pm an cdv ct) (body := body) (binds := binds) (show dp < 1000 by omega) ho hfd (T.nolimit.keeps F.keep) hcd rfl hbind hcell hloc (fun h₁ hns hk₁ => ?_) hco hgen hk
  exact wpAny_mono (h _ s.heap.objs.size h₁ FG (fun b o e q => hideAll_get _ e q) ⟨hns, fun b o e => hk₁ b o (of_hideAll _ e), Nle (hideAll_size _ _)⟩
    (fun p hp => ⟨hk₁ _ _ (O p hp).1, Nnl (Hls (O p hp).1), hideAll_none _ (List.mem_map_of_mem hp)⟩) ⟨X.keeps st, ⟨p, loose, mean, mg, mb, T.keeps st⟩, BG, rfl, hk, (by omega), (by omega)⟩ (fun p hp => Hls (O p hp).1)) (fun fl s' hl => lv _ _ hl) fun _ _ y => y
theorem enterC0 (cx : Cx w (j + 1) dp un A₀ env outer base h₀ L) (F : Fr h₀ L s.heap m) (O : News h₀ L s.heap own)
    (ho : (_root_.Mine.hd.heap_1 w.params).lookup f = some ⟨oc, od, .func (fnX name qual params body scope [] dV kV doc pm an cdv ct), osl⟩) (hcd : codeIn (_root_.Mine.hd.heap_1 w.params) cdv qual = true)
    (hbind : BindsTo s (fnX name qual params body scope [] dV kV doc pm an cdv ct) args binds) (hkind : (binds.all fun y => scope.names.lookup y.1 == some .local || scope.names.lookup y.1 == some .cell) = true)
    (hnd : ((cellsFrom 0 scope.names []).map (·.1)).Nodup)
    (h : ∀ g L' h₁ tk cells, Fr h₀ L g m -> (∀ b o, s.heap.get? b = some o -> b ∉ own.map (·.1) -> g.get? b = some o) -> Fr g L' h₁ (bindL (envOfC qual scope L' f cdv).kindOf binds fun _ => none) -> News g L' h₁ (cells ++ own) ->
      CellsAre (bindC (envOfC qual scope L' f cdv).kindOf binds fun _ => none) (cellsFrom (L' + 1) scope.names []) cells -> Cx w j (dp + 1) (un + 3) (AA dp un env outer) (envOfC qual scope L' f cdv) (env :: outer) base g L' -> (∀ p ∈ own, p.1 < L') ->
      wpAny (model RWQ.row.prog w) (AA (dp + 1) (un + 3) (envOfC qual scope L' f cdv) (env :: outer)) (execs body (envOfC qual scope L' f cdv))
        (fun fl s' => LeaveK h₀ L m g R (match fl with | .ret v => v | _ => .none) s')
        (fun e s' => wpAny (model RWQ.row.prog w) (AA (dp + 1) (un + 3) (envOfC qual scope L' f cdv) (env :: outer)) (leaving (envOfC qual scope L' f cdv) e) (fun _ s'' => R (.error e) s'') (fun e' s'' => R (.error e') s'') s')
        { s with heap := h₁, toks := tk })
    (hco : scope.isCoroutine = false) (hgen : scope.isGenerator = false) (hk : scope.kind = .function) :
    codeAny (model RWQ.row.prog w) (AA dp un env outer) (.call (.ref f) args) R s := by
  obtain ⟨X, ⟨p, loose, mean, mg, mb, T⟩, B, hf, hke, hd0, hu0⟩ := cx
  obtain ⟨FG, BG, st, lv⟩ := groundX (R := R) B F O (A := AA dp un env outer) rfl hf hke
  refine codeAny_call_function (show dp < 1000 by omega) ((X.keeps F.keep) _ _ ho) rfl hco hgen rfl (codeRec_of (X.keeps F.keep) hcd) (hbind _ _ _ _ ?_)
  refine wpAny_newFunctionEnv_cells hk (kindsX hkind _) fun env' he s' x => ?_
  subst he
  refine ⟨(T.nolimit.keeps F.keep).keeps x.toInCall.keep, codeAny_func ?_⟩
  obtain ⟨h₁, tk, rfl, _⟩ := x.done
  have hk₁ := x.toInCall.keep
  obtain ⟨cells, NC, Y⟩ := Cl.news (h₀ := s.heap) (Nat.le_refl _) fun n c hm => ⟨x.cell n c (lookup_of_mem_nodup (cellsFrom_names scope.names 0 (s.heap.objs.size + 1) [] [] rfl ▸ hnd) hm), x.above n c hm⟩
  refine wpAny_mono (h _ s.heap.objs.size h₁ tk cells FG (fun b o e q => hideAll_get _ e q) ⟨x.toInCall.ns, fun b o e => hk₁ b o (of_hideAll _ e), Nle (hideAll_size _ _)⟩ (fun p hp => ?_) Y ⟨X.keeps st, ⟨p, loose, mean, mg, mb, T.keeps st⟩, BG, rfl, hk, (by omega), (by omega)⟩ (fun p hp => Hls (O p hp).1)) (fun fl s' hl => lv _ _ hl) fun _ _ y => y
  rcases Lma.mp hp with hp | hp
  · refine ⟨(NC p hp).1, (NC p hp).2.1, ?_⟩
    cases q : (hideAll s.heap (own.map (·.1))).get? p.1 with
    | none => rfl
    | some o => have := of_hideAll _ q; rw [(NC p hp).2.2] at this; cases this
  · exact ⟨hk₁ _ _ (O p hp).1, Nnl (Hls (O p hp).1), hideAll_none _ (List.mem_map_of_mem hp)⟩
theorem enterP (cx : Cx w (j + 1) dp un A₀ env outer base h₀ L) (F : Fr h₀ L s.heap m) (O : News h₀ L s.heap own)
    (ho : (_root_.Mine.hd.heap_1 w.params).lookup f = some ⟨oc, od, .func (fnX name qual params body scope cl dV kV doc pm an cdv ct), osl⟩) (hcd : codeIn (_root_.Mine.hd.heap_1 w.params) cdv qual = true)
    (hbind : BindsTo s (fnX name qual params body scope cl dV kV doc pm an cdv ct) args binds) (hloc : ∀ y ∈ binds, scope.names.lookup y.1 = some .local)
    (h : ∀ (dp' un' : Nat) (outer' : List Env) (A' : Around) (Q' : Flow -> Shared -> Prop) g L' h₁, Fr h₀ L g m -> (∀ b o, s.heap.get? b = some o -> b ∉ own.map (·.1) -> g.get? b = some o) -> Fr g L' h₁ (fun y => binds.reverse.lookup y) -> News g L' h₁ own -> Cx w j dp' un' A' (envX qual scope L' f cdv cl) outer' base g L' -> (∀ p ∈ own, p.1 < L') -> LeaveTo h₀ L m g R Q' ->
      wpAny (model RWQ.row.prog w) (AA dp' un' (envX qual scope L' f cdv cl) outer') (execs body (envX qual scope L' f cdv cl)) Q' (fun _ _ => False)
        { s with heap := h₁, toks := s.toks + binds.length })
    (hcell : ∀ x ∈ scope.names, x.2 ≠ .cell) (hco : scope.isCoroutine = false) (hgen : scope.isGenerator = false) (hk : scope.kind = .function) :
    codeAny (model RWQ.row.prog w) (AA dp un env outer) (.call (.ref f) args) R s :=
  enterP0 cx F O ho hcd hbind hloc (fun g L' h₁ FG hg F' N' cx' lt => wpAny_mono (h _ _ _ _ _ g L' h₁ FG hg F' N' cx' lt fun _ _ k => k) (fun _ _ k => k) fun _ _ x => x.elim) hcell hco hgen hk
theorem enterF (cx : Cx w (j + 1) dp un A₀ env outer base h₀ L) (F : Fr h₀ L s.heap m) (O : News h₀ L s.heap own)
    (ho : s.heap.get? f = some fo) (hfd : fo.data = .func (fnX name qual params body scope cl dV kV doc pm an cdv ct)) (hcd : s.heap.CodeRec cdv qual)
    (hbind : BindsTo s (fnX name qual params body scope cl dV kV doc pm an cdv ct) args binds) (hloc : ∀ y ∈ binds, scope.names.lookup y.1 = some .local)
    (h : ∀ (dp' un' : Nat) (outer' : List Env) (A' : Around) (Q' : Flow -> Shared -> Prop) g L' h₁, Fr h₀ L g m -> (∀ b o, s.heap.get? b = some o -> b ∉ own.map (·.1) -> g.get? b = some o) -> Fr g L' h₁ (fun y => binds.reverse.lookup y) -> News g L' h₁ own -> Cx w j dp' un' A' (envX qual scope L' f cdv cl) outer' base g L' -> (∀ p ∈ own, p.1 < L') -> LeaveTo h₀ L m g R Q' ->
      wpAny (model RWQ.row.prog w) (AA dp' un' (envX qual scope L' f cdv cl) outer') (execs body (envX qual scope L' f cdv cl)) Q' (fun _ _ => False)
        { s with heap := h₁, toks := s.toks + binds.length })
    (hcell : ∀ x ∈ scope.names, x.2 ≠ .cell) (hco : scope.isCoroutine = false) (hgen : scope.isGenerator = false) (hk : scope.kind = .function) :
    codeAny (model RWQ.row.prog w) (AA dp un env outer) (.call (.ref f) args) R s :=
  enterF0 cx F O ho hfd hcd hbind hloc (fun g L' h₁ FG hg F' N' cx' lt => wpAny_mono (h _ _ _ _ _ g L' h₁ FG hg F' N' cx' lt fun _ _ k => k) (fun _ _ k => k) fun _ _ x => x.elim) hcell hco hgen hk
theorem enterC (cx : Cx w (j + 1) dp un A₀ env outer base h₀ L) (F : Fr h₀ L s.heap m) (O : News h₀ L s.heap own)
    (ho : (_root_.Mine.hd.heap_1 w.params).lookup f = some ⟨oc, od, .func (fnX name qual params body scope [] dV kV doc pm an cdv ct), osl⟩) (hcd : codeIn (_root_.Mine.hd.heap_1 w.params) cdv qual = true)
    (hbind : BindsTo s (fnX name qual params body scope [] dV kV doc pm an cdv ct) args binds) (hkind : (binds.all fun y => scope.names.lookup y.1 == some .local || scope.names.lookup y.1 == some .cell) = true)
    (hnd : ((cellsFrom 0 scope.names []).map (·.1)).Nodup)
    (h : ∀ (dp' un' : Nat) (outer' : List Env) (A' : Around) (Q' : Flow -> Shared -> Prop) g L' h₁ tk cells, Fr h₀ L g m -> (∀ b o, s.heap.get? b = some o -> b ∉ own.map (·.1) -> g.get? b = some o) -> Fr g L' h₁ (bindL (envOfC qual scope L' f cdv).kindOf binds fun _ => none) -> News g L' h₁ (cells ++ own) ->
      CellsAre (bindC (envOfC qual scope L' f cdv).kindOf binds fun _ => none) (cellsFrom (L' + 1) scope.names []) cells -> Cx w j dp' un' A' (envOfC qual scope L' f cdv) outer' base g L' -> (∀ p ∈ own, p.1 < L') -> LeaveTo h₀ L m g R Q' ->
      wpAny (model RWQ.row.prog w) (AA dp' un' (envOfC qual scope L' f cdv) outer') (execs body (envOfC qual scope L' f cdv)) Q' (fun _ _ => False)
        { s with heap := h₁, toks := tk })
    (hco : scope.isCoroutine = false) (hgen : scope.isGenerator = false) (hk : scope.kind = .function) :
    codeAny (model RWQ.row.prog w) (AA dp un env outer) (.call (.ref f) args) R s :=
  enterC0 cx F O ho hcd hbind hkind hnd (fun g L' h₁ tk cells FG hg F' N' Y' cx' lt => wpAny_mono (h _ _ _ _ _ g L' h₁ tk cells FG hg F' N' Y' cx' lt fun _ _ k => k) (fun _ _ k => k) fun _ _ x => x.elim) hco hgen hk
theorem allLt_neS {d x : Nat} {st : List (Addr × Obj)} {p : Prop} (h : x < d ∧ p) (k : SelP (x < d ∧ p) (AllLt d st)) : ∀ q ∈ st, q.1 ≠ d := by
  have a := k h
  clear h k
  induction st with
  | nil => exact fun _ h => nomatch h
  | cons z r ih =>
    intro q hq
    rcases Lmc.mp hq with rfl | hq
    · exact Nnl a.1
    · exact ih a.2 q hq
theorem back {h g h' : Heap} {L' : Addr} {m' : Str -> Option Value} {news : List (Addr × Obj)} (N : News h₀ L h news) (hg : ∀ b o, h.get? b = some o -> b ∉ own.map (·.1) -> g.get? b = some o) (F' : Fr g L' h' m') (off : ∀ p ∈ news, p.1 ∉ own.map (·.1)) : News h₀ L h' news :=
  fun p hp => ⟨F'.keep _ _ (hg _ _ (N p hp).1 (off p hp)), (N p hp).2.1, (N p hp).2.2⟩
theorem back0 {h g h' : Heap} {L' : Addr} {m' : Str -> Option Value} {news : List (Addr × Obj)} (N : News h₀ L h news) (hg : ∀ b o, h.get? b = some o -> b ∉ (([] : List (Addr × Obj)).map (·.1)) -> g.get? b = some o) (F' : Fr g L' h' m') : News h₀ L h' news :=
  back N hg F' fun _ _ x => nomatch x
theorem news_app {h : Heap} {a b : List (Addr × Obj)} (N : News h₀ L h a) (N' : News h₀ L h b) : News h₀ L h (a ++ b) := fun p hp => (Lma.mp hp).elim (N p) (N' p)
end
theorem news_sub {h₀ h : Heap} {L : Addr} {l l' : List (Addr × Obj)} (N : News h₀ L h l) (s : ∀ p ∈ l', p ∈ l) : News h₀ L h l' := fun p hp => N p (s p hp)
theorem news_cons {h₀ h : Heap} {L : Addr} {l : List (Addr × Obj)} {q : Addr × Obj} (a : h.get? q.1 = some q.2 ∧ q.1 ≠ L ∧ h₀.get? q.1 = none) (N : News h₀ L h l) : News h₀ L h (q :: l) := fun p hp => by
  rcases Lmc.mp hp with rfl | hp
  · exact a
  · exact N p hp
end
section
@[irreducible] noncomputable def epo {α : Type} (n : Nonempty α) (P : α -> Prop) : α := @Classical.epsilon α n fun x => ¬ P x
theorem epo_all {α : Type} {n : Nonempty α} {P : α -> Prop} (h : P (epo n P)) (x : α) : P x := by
  unfold epo at h
  exact Classical.byContradiction fun hx => (Classical.epsilon_spec (p := fun x => ¬ P x) ⟨x, hx⟩) h
theorem neP {A B : Type} (a : Nonempty A) (b : Nonempty B) : Nonempty (A × B) := a.elim fun x => b.elim fun y => ⟨(x, y)⟩
theorem neW : Nonempty World := ⟨⟨fun _ _ => 0, { strHash := fun _ => 0, shareClass := fun _ => 0, mergeTok := fun _ => 0, idOf := fun _ => 0, idOfShared := fun _ _ => 0, followText := fun _ => true, idOfImm := fun _ => 0 }⟩⟩
theorem neNat : Nonempty Nat := ⟨0⟩
theorem neHeap : Nonempty Heap := ⟨{}⟩
theorem neShared : Nonempty Shared := ⟨{}⟩
theorem neAround : Nonempty Around := ⟨{}⟩
theorem neList {A : Type} : Nonempty (List A) := ⟨[]⟩
theorem neFun {A B : Type} (n : Nonempty B) : Nonempty (A -> B) := n.elim fun b => ⟨fun _ => b⟩
theorem neProp : Nonempty (Shared -> Prop) := ⟨fun _ => True⟩
theorem neM : Nonempty (Str -> Option Value) := ⟨fun _ => none⟩
noncomputable def u1 {A0 : Type} (P : A0 -> Prop) (t : A0) : Prop := P t
@[irreducible] noncomputable def tp1 {A0 : Type} (n : Nonempty (A0)) (P : A0 -> Prop) : A0 := epo n (u1 P)
theorem frz1 {A0 : Type} {P : A0 -> Prop} (n : Nonempty (A0)) (h : let a0 := (tp1 n P); P a0) : ∀ a0, P a0 :=
  fun a0 => epo_all (n := n) (P := u1 P) (by unfold tp1 at h; exact h) a0
noncomputable def u2 {A0 A1 : Type} (P : A0 -> A1 -> Prop) (t : A0 × A1) : Prop := u1 (P t.1) t.2
@[irreducible] noncomputable def tp2 {A0 A1 : Type} (n : Nonempty (A0 × A1)) (P : A0 -> A1 -> Prop) : A0 × A1 := epo n (u2 P)
theorem frz2 {A0 A1 : Type} {P : A0 -> A1 -> Prop} (n : Nonempty (A0 × A1)) (h : let a0 := (tp2 n P).1; let a1 := (tp2 n P).2; P a0 a1) : ∀ a0 a1, P a0 a1 :=
  fun a0 a1 => epo_all (n := n) (P := u2 P) (by unfold tp2 at h; exact h) (a0, a1)
noncomputable def u3 {A0 A1 A2 : Type} (P : A0 -> A1 -> A2 -> Prop) (t : A0 × A1 × A2) : Prop := u2 (P t.1) t.2
@[irreducible] noncomputable def tp3 {A0 A1 A2 : Type} (n : Nonempty (A0 × A1 × A2)) (P : A0 -> A1 -> A2 -> Prop) : A0 × A1 × A2 := epo n (u3 P)
theorem frz3 {A0 A1 A2 : Type} {P : A0 -> A1 -> A2 -> Prop} (n : Nonempty (A0 × A1 × A2)) (h : let a0 := (tp3 n P).1; let a1 := (tp3 n P).2.1; let a2 := (tp3 n P).2.2; P a0 a1 a2) : ∀ a0 a1 a2, P a0 a1 a2 :=
  fun a0 a1 a2 => epo_all (n := n) (P := u3 P) (by unfold tp3 at h; exact h) (a0, a1, a2)
noncomputable def u4 {A0 A1 A2 A3 : Type} (P : A0 -> A1 -> A2 -> A3 -> Prop) (t : A0 × A1 × A2 × A3) : Prop := u3 (P t.1) t.2
@[irreducible] noncomputable def tp4 {A0 A1 A2 A3 : Type} (n : Nonempty (A0 × A1 × A2 × A3)) (P : A0 -> A1 -> A2 -> A3 -> Prop) : A0 × A1 × A2 × A3 := epo n (u4 P)
theorem frz4 {A0 A1 A2 A3 : Type} {P : A0 -> A1 -> A2 -> A3 -> Prop} (n : Nonempty (A0 × A1 × A2 × A3)) (h : let a0 := (tp4 n P).1; let a1 := (tp4 n P).2.1; let a2 := (tp4 n P).2.2.1; let a3 := (tp4 n P).2.2.2; P a0 a1 a2 a3) : ∀ a0 a1 a2 a3, P a0 a1 a2 a3 :=
  fun a0 a1 a2 a3 => epo_all (n := n) (P := u4 P) (by unfold tp4 at h; exact h) (a0, a1, a2, a3)
noncomputable def u5 {A0 A1 A2 A3 A4 : Type} (P : A0 -> A1 -> A2 -> A3 -> A4 -> Prop) (t : A0 × A1 × A2 × A3 × A4) : Prop := u4 (P t.1) t.2
@[irreducible] noncomputable def tp5 {A0 A1 A2 A3 A4 : Type} (n : Nonempty (A0 × A1 × A2 × A3 × A4)) (P : A0 -> A1 -> A2 -> A3 -> A4 -> Prop) : A0 × A1 × A2 × A3 × A4 := epo n (u5 P)
theorem frz5 {A0 A1 A2 A3 A4 : Type} {P : A0 -> A1 -> A2 -> A3 -> A4 -> Prop} (n : Nonempty (A0 × A1 × A2 × A3 × A4)) (h : let a0 := (tp5 n P).1; let a1 := (tp5 n P).2.1; let a2 := (tp5 n P).2.2.1; let a3 := (tp5 n P).2.2.2.1; let a4 := (tp5 n P).2.2.2.2; P a0 a1 a2 a3 a4) : ∀ a0 a1 a2 a3 a4, P a0 a1 a2 a3 a4 :=
  fun a0 a1 a2 a3 a4 => epo_all (n := n) (P := u5 P) (by unfold tp5 at h; exact h) (a0, a1, a2, a3, a4)
noncomputable def u6 {A0 A1 A2 A3 A4 A5 : Type} (P : A0 -> A1 -> A2 -> A3 -> A4 -> A5 -> Prop) (t : A0 × A1 × A2 × A3 × A4 × A5) : Prop := u5 (P t.1) t.2
@[irreducible] noncomputable def tp6 {A0 A1 A2 A3 A4 A5 : Type} (n : Nonempty (A0 × A1 × A2 × A3 × A4 × A5)) (P : A0 -> A1 -> A2 -> A3 -> A4 -> A5 -> Prop) : A0 × A1 × A2 × A3 × A4 × A5 := epo n (u6 P)
theorem frz6 {A0 A1 A2 A3 A4 A5 : Type} {P : A0 -> A1 -> A2 -> A3 -> A4 -> A5 -> Prop} (n : Nonempty (A0 × A1 × A2 × A3 × A4 × A5)) (h : let a0 := (tp6 n P).1; let a1 := (tp6 n P).2.1; let a2 := (tp6 n P).2.2.1; let a3 := (tp6 n P).2.2.2.1; let a4 := (tp6 n P).2.2.2.2.1; let a5 := (tp6 n P).2.2.2.2.2; P a0 a1 a2 a3 a4 a5) : ∀ a0 a1 a2 a3 a4 a5, P a0 a1 a2 a3 a4 a5 :=
  fun a0 a1 a2 a3 a4 a5 => epo_all (n := n) (P := u6 P) (by unfold tp6 at h; exact h) (a0, a1, a2, a3, a4, a5)
noncomputable def u7 {A0 A1 A2 A3 A4 A5 A6 : Type} (P : A0 -> A1 -> A2 -> A3 -> A4 -> A5 -> A6 -> Prop) (t : A0 × A1 × A2 × A3 × A4 × A5 × A6) : Prop := u6 (P t.1) t.2
@[irreducible] noncomputable def tp7 {A0 A1 A2 A3 A4 A5 A6 : Type} (n : Nonempty (A0 × A1 × A2 × A3 × A4 × A5 × A6)) (P : A0 -> A1 -> A2 -> A3 -> A4 -> A5 -> A6 -> Prop) : A0 × A1 × A2 × A3 × A4 × A5 × A6 := epo n (u7 P)
theorem frz7 {A0 A1 A2 A3 A4 A5 A6 : Type} {P : A0 -> A1 -> A2 -> A3 -> A4 -> A5 -> A6 -> Prop} (n : Nonempty (A0 × A1 × A2 × A3 × A4 × A5 × A6)) (h : let a0 := (tp7 n P).1; let a1 := (tp7 n P).2.1; let a2 := (tp7 n P).2.2.1; let a3 := (tp7 n P).2.2.2.1; let a4 := (tp7 n P).2.2.2.2.1; let a5 := (tp7 n P).2.2.2.2.2.1; let a6 := (tp7 n P).2.2.2.2.2.2; P a0 a1 a2 a3 a4 a5 a6) : ∀ a0 a1 a2 a3 a4 a5 a6, P a0 a1 a2 a3 a4 a5 a6 :=
  fun a0 a1 a2 a3 a4 a5 a6 => epo_all (n := n) (P := u7 P) (by unfold tp7 at h; exact h) (a0, a1, a2, a3, a4, a5, a6)
noncomputable def u8 {A0 A1 A2 A3 A4 A5 A6 A7 : Type} (P : A0 -> A1 -> A2 -> A3 -> A4 -> A5 -> A6 -> A7 -> Prop) (t : A0 × A1 × A2 × A3 × A4 × A5 × A6 × A7) : Prop := u7 (P t.1) t.2
@[irreducible] noncomputable def tp8 {A0 A1 A2 A3 A4 A5 A6 A7 : Type} (n : Nonempty (A0 × A1 × A2 × A3 × A4 × A5 × A6 × A7)) (P : A0 -> A1 -> A2 -> A3 -> A4 -> A5 -> A6 -> A7 -> Prop) : A0 × A1 × A2 × A3 × A4 × A5 × A6 × A7 := epo n (u8 P)
theorem frz8 {A0 A1 A2 A3 A4 A5 A6 A7 : Type} {P : A0 -> A1 -> A2 -> A3 -> A4 -> A5 -> A6 -> A7 -> Prop} (n : Nonempty (A0 × A1 × A2 × A3 × A4 × A5 × A6 × A7)) (h : let a0 := (tp8 n P).1; let a1 := (tp8 n P).2.1; let a2 := (tp8 n P).2.2.1; let a3 := (tp8 n P).2.2.2.1; let a4 := (tp8 n P).2.2.2.2.1; let a5 := (tp8 n P).2.2.2.2.2.1; let a6 := (tp8 n P).2.2.2.2.2.2.1; let a7 := (tp8 n P).2.2.2.2.2.2.2; P a0 a1 a2 a3 a4 a5 a6 a7) : ∀ a0 a1 a2 a3 a4 a5 a6 a7, P a0 a1 a2 a3 a4 a5 a6 a7 :=
  fun a0 a1 a2 a3 a4 a5 a6 a7 => epo_all (n := n) (P := u8 P) (by unfold tp8 at h; exact h) (a0, a1, a2, a3, a4, a5, a6, a7)
noncomputable def u9 {A0 A1 A2 A3 A4 A5 A6 A7 A8 : Type} (P : A0 -> A1 -> A2 -> A3 -> A4 -> A5 -> A6 -> A7 -> A8 -> Prop) (t : A0 × A1 × A2 × A3 × A4 × A5 × A6 × A7 × A8) : Prop := u8 (P t.1) t.2
@[irreducible] noncomputable def tp9 {A0 A1 A2 A3 A4 A5 A6 A7 A8 : Type} (n : Nonempty (A0 × A1 × A2 × A3 × A4 × A5 × A6 × A7 × A8)) (P : A0 -> A1 -> A2 -> A3 -> A4 -> A5 -> A6 -> A7 -> A8 -> Prop) : A0 × A1 × A2 × A3 × A4 × A5 × A6 × A7 × A8 := epo n (u9 P)
theorem frz9 {A0 A1 A2 A3 A4 A5 A6 A7 A8 : Type} {P : A0 -> A1 -> A2 -> A3 -> A4 -> A5 -> A6 -> A7 -> A8 -> Prop} (n : Nonempty (A0 × A1 × A2 × A3 × A4 × A5 × A6 × A7 × A8)) (h : let a0 := (tp9 n P).1; let a1 := (tp9 n P).2.1; let a2 := (tp9 n P).2.2.1; let a3 := (tp9 n P).2.2.2.1; let a4 := (tp9 n P).2.2.2.2.1; let a5 := (tp9 n P).2.2.2.2.2.1; let a6 := (tp9 n P).2.2.2.2.2.2.1; let a7 := (tp9 n P).2.2.2.2.2.2.2.1; let a8 := (tp9 n P).2.2.2.2.2.2.2.2; P a0 a1 a2 a3 a4 a5 a6 a7 a8) : ∀ a0 a1 a2 a3 a4 a5 a6 a7 a8, P a0 a1 a2 a3 a4 a5 a6 a7 a8 :=
  fun a0 a1 a2 a3 a4 a5 a6 a7 a8 => epo_all (n := n) (P := u9 P) (by unfold tp9 at h; exact h) (a0, a1, a2, a3, a4, a5, a6, a7, a8)
noncomputable def u10 {A0 A1 A2 A3 A4 A5 A6 A7 A8 A9 : Type} (P : A0 -> A1 -> A2 -> A3 -> A4 -> A5 -> A6 -> A7 -> A8 -> A9 -> Prop) (t : A0 × A1 × A2 × A3 × A4 × A5 × A6 × A7 × A8 × A9) : Prop := u9 (P t.1) t.2
@[irreducible] noncomputable def tp10 {A0 A1 A2 A3 A4 A5 A6 A7 A8 A9 : Type} (n : Nonempty (A0 × A1 × A2 × A3 × A4 × A5 × A6 × A7 × A8 × A9)) (P : A0 -> A1 -> A2 -> A3 -> A4 -> A5 -> A6 -> A7 -> A8 -> A9 -> Prop) : A0 × A1 × A2 × A3 × A4 × A5 × A6 × A7 × A8 × A9 := epo n (u10 P)
theorem frz10 {A0 A1 A2 A3 A4 A5 A6 A7 A8 A9 : Type} {P : A0 -> A1 -> A2 -> A3 -> A4 -> A5 -> A6 -> A7 -> A8 -> A9 -> Prop} (n : Nonempty (A0 × A1 × A2 × A3 × A4 × A5 × A6 × A7 × A8 × A9)) (h : let a0 := (tp10 n P).1; let a1 := (tp10 n P).2.1; let a2 := (tp10 n P).2.2.1; let a3 := (tp10 n P).2.2.2.1; let a4 := (tp10 n P).2.2.2.2.1; let a5 := (tp10 n P).2.2.2.2.2.1; let a6 := (tp10 n P).2.2.2.2.2.2.1; let a7 := (tp10 n P).2.2.2.2.2.2.2.1; let a8 := (tp10 n P).2.2.2.2.2.2.2.2.1; let a9 := (tp10 n P).2.2.2.2.2.2.2.2.2; P a0 a1 a2 a3 a4 a5 a6 a7 a8 a9) : ∀ a0 a1 a2 a3 a4 a5 a6 a7 a8 a9, P a0 a1 a2 a3 a4 a5 a6 a7 a8 a9 :=
  fun a0 a1 a2 a3 a4 a5 a6 a7 a8 a9 => epo_all (n := n) (P := u10 P) (by unfold tp10 at h; exact h) (a0, a1, a2, a3, a4, a5, a6, a7, a8, a9)
noncomputable def u11 {A0 A1 A2 A3 A4 A5 A6 A7 A8 A9 A10 : Type} (P : A0 -> A1 -> A2 -> A3 -> A4 -> A5 -> A6 -> A7 -> A8 -> A9 -> A10 -> Prop) (t : A0 × A1 × A2 × A3 × A4 × A5 × A6 × A7 × A8 × A9 × A10) : Prop := u10 (P t.1) t.2
@[irreducible] noncomputable def tp11 {A0 A1 A2 A3 A4 A5 A6 A7 A8 A9 A10 : Type} (n : Nonempty (A0 × A1 × A2 × A3 × A4 × A5 × A6 × A7 × A8 × A9 × A10)) (P : A0 -> A1 -> A2 -> A3 -> A4 -> A5 -> A6 -> A7 -> A8 -> A9 -> A10 -> Prop) : A0 × A1 × A2 × A3 × A4 × A5 × A6 × A7 × A8 × A9 × A10 := epo n (u11 P)
theorem frz11 {A0 A1 A2 A3 A4 A5 A6 A7 A8 A9 A10 : Type} {P : A0 -> A1 -> A2 -> A3 -> A4 -> A5 -> A6 -> A7 -> A8 -> A9 -> A10 -> Prop} (n : Nonempty (A0 × A1 × A2 × A3 × A4 × A5 × A6 × A7 × A8 × A9 × A10)) (h : let a0 := (tp11 n P).1; let a1 := (tp11 n P).2.1; let a2 := (tp11 n P).2.2.1; let a3 := (tp11 n P).2.2.2.1; let a4 := (tp11 n P).2.2.2.2.1; let a5 := (tp11 n P).2.2.2.2.2.1; let a6 := (tp11 n P).2.2.2.2.2.2.1; let a7 := (tp11 n P).2.2.2.2.2.2.2.1; let a8 := (tp11 n P).2.2.2.2.2.2.2.2.1; let a9 := (tp11 n P).2.2.2.2.2.2.2.2.2.1; let a10 := (tp11 n P).2.2.2.2.2.2.2.2.2.2; P a0 a1 a2 a3 a4 a5 a6 a7 a8 a9 a10) : ∀ a0 a1 a2 a3 a4 a5 a6 a7 a8 a9 a10, P a0 a1 a2 a3 a4 a5 a6 a7 a8 a9 a10 :=
  fun a0 a1 a2 a3 a4 a5 a6 a7 a8 a9 a10 => epo_all (n := n) (P := u11 P) (by unfold tp11 at h; exact h) (a0, a1, a2, a3, a4, a5, a6, a7, a8, a9, a10)
noncomputable def u12 {A0 A1 A2 A3 A4 A5 A6 A7 A8 A9 A10 A11 : Type} (P : A0 -> A1 -> A2 -> A3 -> A4 -> A5 -> A6 -> A7 -> A8 -> A9 -> A10 -> A11 -> Prop) (t : A0 × A1 × A2 × A3 × A4 × A5 × A6 × A7 × A8 × A9 × A10 × A11) : Prop := u11 (P t.1) t.2
@[irreducible] noncomputable def tp12 {A0 A1 A2 A3 A4 A5 A6 A7 A8 A9 A10 A11 : Type} (n : Nonempty (A0 × A1 × A2 × A3 × A4 × A5 × A6 × A7 × A8 × A9 × A10 × A11)) (P : A0 -> A1 -> A2 -> A3 -> A4 -> A5 -> A6 -> A7 -> A8 -> A9 -> A10 -> A11 -> Prop) : A0 × A1 × A2 × A3 × A4 × A5 × A6 × A7 × A8 × A9 × A10 × A11 := epo n (u12 P)
theorem frz12 {A0 A1 A2 A3 A4 A5 A6 A7 A8 A9 A10 A11 : Type} {P : A0 -> A1 -> A2 -> A3 -> A4 -> A5 -> A6 -> A7 -> A8 -> A9 -> A10 -> A11 -> Prop} (n : Nonempty (A0 × A1 × A2 × A3 × A4 × A5 × A6 × A7 × A8 × A9 × A10 × A11)) (h : let a0 := (tp12 n P).1; let a1 := (tp12 n P).2.1; let a2 := (tp12 n P).2.2.1; let a3 := (tp12 n P).2.2.2.1; let a4 := (tp12 n P).2.2.2.2.1; let a5 := (tp12 n P).2.2.2.2.2.1; let a6 := (tp12 n P).2.2.2.2.2.2.1; let a7 := (tp12 n P).2.2.2.2.2.2.2.1; let a8 := (tp12 n P).2.2.2.2.2.2.2.2.1; let a9 := (tp12 n P).2.2.2.2.2.2.2.2.2.1; let a10 := (tp12 n P).2.2.2.2.2.2.2.2.2.2.1; let a11 := (tp12 n P).2.2.2.2.2.2.2.2.2.2.2; P a0 a1 a2 a3 a4 a5 a6 a7 a8 a9 a10 a11) : ∀ a0 a1 a2 a3 a4 a5 a6 a7 a8 a9 a10 a11, P a0 a1 a2 a3 a4 a5 a6 a7 a8 a9 a10 a11 :=
  fun a0 a1 a2 a3 a4 a5 a6 a7 a8 a9 a10 a11 => epo_all (n := n) (P := u12 P) (by unfold tp12 at h; exact h) (a0, a1, a2, a3, a4, a5, a6, a7, a8, a9, a10, a11)
noncomputable def u13 {A0 A1 A2 A3 A4 A5 A6 A7 A8 A9 A10 A11 A12 : Type} (P : A0 -> A1 -> A2 -> A3 -> A4 -> A5 -> A6 -> A7 -> A8 -> A9 -> A10 -> A11 -> A12 -> Prop) (t : A0 × A1 × A2 × A3 × A4 × A5 × A6 × A7 × A8 × A9 × A10 × A11 × A12) : Prop := u12 (P t.1) t.2
@[irreducible] noncomputable def tp13 {A0 A1 A2 A3 A4 A5 A6 A7 A8 A9 A10 A11 A12 : Type} (n : Nonempty (A0 × A1 × A2 × A3 × A4 × A5 × A6 × A7 × A8 × A9 × A10 × A11 × A12)) (P : A0 -> A1 -> A2 -> A3 -> A4 -> A5 -> A6 -> A7 -> A8 -> A9 -> A10 -> A11 -> A12 -> Prop) : A0 × A1 × A2 × A3 × A4 × A5 × A6 × A7 × A8 × A9 × A10 × A11 × A12 := epo n (u13 P)
theorem frz13 {A0 A1 A2 A3 A4 A5 A6 A7 A8 A9 A10 A11 A12 : Type} {P : A0 -> A1 -> A2 -> A3 -> A4 -> A5 -> A6 -> A7 -> A8 -> A9 -> A10 -> A11 -> A12 -> Prop} (n : Nonempty (A0 × A1 × A2 × A3 × A4 × A5 × A6 × A7 × A8 × A9 × A10 × A11 × A12)) (h : let a0 := (tp13 n P).1; let a1 := (tp13 n P).2.1; let a2 := (tp13 n P).2.2.1; let a3 := (tp13 n P).2.2.2.1; let a4 := (tp13 n P).2.2.2.2.1; let a5 := (tp13 n P).2.2.2.2.2.1; let a6 := (tp13 n P).2.2.2.2.2.2.1; let a7 := (tp13 n P).2.2.2.2.2.2.2.1; let a8 := (tp13 n P).2.2.2.2.2.2.2.2.1; let a9 := (tp13 n P).2.2.2.2.2.2.2.2.2.1; let a10 := (tp13 n P).2.2.2.2.2.2.2.2.2.2.1; let a11 := (tp13 n P).2.2.2.2.2.2.2.2.2.2.2.1; let a12 := (tp13 n P).2.2.2.2.2.2.2.2.2.2.2.2; P a0 a1 a2 a3 a4 a5 a6 a7 a8 a9 a10 a11 a12) : ∀ a0 a1 a2 a3 a4 a5 a6 a7 a8 a9 a10 a11 a12, P a0 a1 a2 a3 a4 a5 a6 a7 a8 a9 a10 a11 a12 :=
  fun a0 a1 a2 a3 a4 a5 a6 a7 a8 a9 a10 a11 a12 => epo_all (n := n) (P := u13 P) (by unfold tp13 at h; exact h) (a0, a1, a2, a3, a4, a5, a6, a7, a8, a9, a10, a11, a12)
noncomputable def u14 {A0 A1 A2 A3 A4 A5 A6 A7 A8 A9 A10 A11 A12 A13 : Type} (P : A0 -> A1 -> A2 -> A3 -> A4 -> A5 -> A6 -> A7 -> A8 -> A9 -> A10 -> A11 -> A12 -> A13 -> Prop) (t : A0 × A1 × A2 × A3 × A4 × A5 × A6 × A7 × A8 × A9 × A10 × A11 × A12 × A13) : Prop := u13 (P t.1) t.2
noncomputable def u15 {A0 A1 A2 A3 A4 A5 A6 A7 A8 A9 A10 A11 A12 A13 A14 : Type} (P : A0 -> A1 -> A2 -> A3 -> A4 -> A5 -> A6 -> A7 -> A8 -> A9 -> A10 -> A11 -> A12 -> A13 -> A14 -> Prop) (t : A0 × A1 × A2 × A3 × A4 × A5 × A6 × A7 × A8 × A9 × A10 × A11 × A12 × A13 × A14) : Prop := u14 (P t.1) t.2
@[irreducible] noncomputable def tp15 {A0 A1 A2 A3 A4 A5 A6 A7 A8 A9 A10 A11 A12 A13 A14 : Type} (n : Nonempty (A0 × A1 × A2 × A3 × A4 × A5 × A6 × A7 × A8 × A9 × A10 × A11 × A12 × A13 × A14)) (P : A0 -> A1 -> A2 -> A3 -> A4 -> A5 -> A6 -> A7 -> A8 -> A9 -> A10 -> A11 -> A12 -> A13 -> A14 -> Prop) : A0 × A1 × A2 × A3 × A4 × A5 × A6 × A7 × A8 × A9 × A10 × A11 × A12 × A13 × A14 := epo n (u15 P)
theorem frz15 {A0 A1 A2 A3 A4 A5 A6 A7 A8 A9 A10 A11 A12 A13 A14 : Type} {P : A0 -> A1 -> A2 -> A3 -> A4 -> A5 -> A6 -> A7 -> A8 -> A9 -> A10 -> A11 -> A12 -> A13 -> A14 -> Prop} (n : Nonempty (A0 × A1 × A2 × A3 × A4 × A5 × A6 × A7 × A8 × A9 × A10 × A11 × A12 × A13 × A14)) (h : let a0 := (tp15 n P).1; let a1 := (tp15 n P).2.1; let a2 := (tp15 n P).2.2.1; let a3 := (tp15 n P).2.2.2.1; let a4 := (tp15 n P).2.2.2.2.1; let a5 := (tp15 n P).2.2.2.2.2.1; let a6 := (tp15 n P).2.2.2.2.2.2.1; let a7 := (tp15 n P).2.2.2.2.2.2.2.1; let a8 := (tp15 n P).2.2.2.2.2.2.2.2.1; let a9 := (tp15 n P).2.2.2.2.2.2.2.2.2.1; let a10 := (tp15 n P).2.2.2.2.2.2.2.2.2.2.1; let a11 := (tp15 n P).2.2.2.2.2.2.2.2.2.2.2.1; let a12 := (tp15 n P).2.2.2.2.2.2.2.2.2.2.2.2.1; let a13 := (tp15 n P).2.2.2.2.2.2.2.2.2.2.2.2.2.1; let a14 := (tp15 n P).2.2.2.2.2.2.2.2.2.2.2.2.2.2; P a0 a1 a2 a3 a4 a5 a6 a7 a8 a9 a10 a11 a12 a13 a14) : ∀ a0 a1 a2 a3 a4 a5 a6 a7 a8 a9 a10 a11 a12 a13 a14, P a0 a1 a2 a3 a4 a5 a6 a7 a8 a9 a10 a11 a12 a13 a14 :=
  fun a0 a1 a2 a3 a4 a5 a6 a7 a8 a9 a10 a11 a12 a13 a14 => epo_all (n := n) (P := u15 P) (by unfold tp15 at h; exact h) (a0, a1, a2, a3, a4, a5, a6, a7, a8, a9, a10, a11, a12, a13, a14)
noncomputable def u16 {A0 A1 A2 A3 A4 A5 A6 A7 A8 A9 A10 A11 A12 A13 A14 A15 : Type} (P : A0 -> A1 -> A2 -> A3 -> A4 -> A5 -> A6 -> A7 -> A8 -> A9 -> A10 -> A11 -> A12 -> A13 -> A14 -> A15 -> Prop) (t : A0 × A1 × A2 × A3 × A4 × A5 × A6 × A7 × A8 × A9 × A10 × A11 × A12 × A13 × A14 × A15) : Prop := u15 (P t.1) t.2
@[irreducible] noncomputable def tp16 {A0 A1 A2 A3 A4 A5 A6 A7 A8 A9 A10 A11 A12 A13 A14 A15 : Type} (n : Nonempty (A0 × A1 × A2 × A3 × A4 × A5 × A6 × A7 × A8 × A9 × A10 × A11 × A12 × A13 × A14 × A15)) (P : A0 -> A1 -> A2 -> A3 -> A4 -> A5 -> A6 -> A7 -> A8 -> A9 -> A10 -> A11 -> A12 -> A13 -> A14 -> A15 -> Prop) : A0 × A1 × A2 × A3 × A4 × A5 × A6 × A7 × A8 × A9 × A10 × A11 × A12 × A13 × A14 × A15 := epo n (u16 P)
theorem frz16 {A0 A1 A2 A3 A4 A5 A6 A7 A8 A9 A10 A11 A12 A13 A14 A15 : Type} {P : A0 -> A1 -> A2 -> A3 -> A4 -> A5 -> A6 -> A7 -> A8 -> A9 -> A10 -> A11 -> A12 -> A13 -> A14 -> A15 -> Prop} (n : Nonempty (A0 × A1 × A2 × A3 × A4 × A5 × A6 × A7 × A8 × A9 × A10 × A11 × A12 × A13 × A14 × A15)) (h : let a0 := (tp16 n P).1; let a1 := (tp16 n P).2.1; let a2 := (tp16 n P).2.2.1; let a3 := (tp16 n P).2.2.2.1; let a4 := (tp16 n P).2.2.2.2.1; let a5 := (tp16 n P).2.2.2.2.2.1; let a6 := (tp16 n P).2.2.2.2.2.2.1; let a7 := (tp16 n P).2.2.2.2.2.2.2.1; let a8 := (tp16 n P).2.2.2.2.2.2.2.2.1; let a9 := (tp16 n P).2.2.2.2.2.2.2.2.2.1; let a10 := (tp16 n P).2.2.2.2.2.2.2.2.2.2.1; let a11 := (tp16 n P).2.2.2.2.2.2.2.2.2.2.2.1; let a12 := (tp16 n P).2.2.2.2.2.2.2.2.2.2.2.2.1; let a13 := (tp16 n P).2.2.2.2.2.2.2.2.2.2.2.2.2.1; let a14 := (tp16 n P).2.2.2.2.2.2.2.2.2.2.2.2.2.2.1; let a15 := (tp16 n P).2.2.2.2.2.2.2.2.2.2.2.2.2.2.2; P a0 a1 a2 a3 a4 a5 a6 a7 a8 a9 a10 a11 a12 a13 a14 a15) : ∀ a0 a1 a2 a3 a4 a5 a6 a7 a8 a9 a10 a11 a12 a13 a14 a15, P a0 a1 a2 a3 a4 a5 a6 a7 a8 a9 a10 a11 a12 a13 a14 a15 :=
  fun a0 a1 a2 a3 a4 a5 a6 a7 a8 a9 a10 a11 a12 a13 a14 a15 => epo_all (n := n) (P := u16 P) (by unfold tp16 at h; exact h) (a0, a1, a2, a3, a4, a5, a6, a7, a8, a9, a10, a11, a12, a13, a14, a15)
noncomputable def u17 {A0 A1 A2 A3 A4 A5 A6 A7 A8 A9 A10 A11 A12 A13 A14 A15 A16 : Type} (P : A0 -> A1 -> A2 -> A3 -> A4 -> A5 -> A6 -> A7 -> A8 -> A9 -> A10 -> A11 -> A12 -> A13 -> A14 -> A15 -> A16 -> Prop) (t : A0 × A1 × A2 × A3 × A4 × A5 × A6 × A7 × A8 × A9 × A10 × A11 × A12 × A13 × A14 × A15 × A16) : Prop := u16 (P t.1) t.2
@[irreducible] noncomputable def tp17 {A0 A1 A2 A3 A4 A5 A6 A7 A8 A9 A10 A11 A12 A13 A14 A15 A16 : Type} (n : Nonempty (A0 × A1 × A2 × A3 × A4 × A5 × A6 × A7 × A8 × A9 × A10 × A11 × A12 × A13 × A14 × A15 × A16)) (P : A0 -> A1 -> A2 -> A3 -> A4 -> A5 -> A6 -> A7 -> A8 -> A9 -> A10 -> A11 -> A12 -> A13 -> A14 -> A15 -> A16 -> Prop) : A0 × A1 × A2 × A3 × A4 × A5 × A6 × A7 × A8 × A9 × A10 × A11 × A12 × A13 × A14 × A15 × A16 := epo n (u17 P)
theorem frz17 {A0 A1 A2 A3 A4 A5 A6 A7 A8 A9 A10 A11 A12 A13 A14 A15 A16 : Type} {P : A0 -> A1 -> A2 -> A3 -> A4 -> A5 -> A6 -> A7 -> A8 -> A9 -> A10 -> A11 -> A12 -> A13 -> A14 -> A15 -> A16 -> Prop} (n : Nonempty (A0 × A1 × A2 × A3 × A4 × A5 × A6 × A7 × A8 × A9 × A10 × A11 × A12 × A13 × A14 × A15 × A16)) (h : let a0 := (tp17 n P).1; let a1 := (tp17 n P).2.1; let a2 := (tp17 n P).2.2.1; let a3 := (tp17 n P).2.2.2.1; let a4 := (tp17 n P).2.2.2.2.1; let a5 := (tp17 n P).2.2.2.2.2.1; let a6 := (tp17 n P).2.2.2.2.2.2.1; let a7 := (tp17 n P).2.2.2.2.2.2.2.1; let a8 := (tp17 n P).2.2.2.2.2.2.2.2.1; let a9 := (tp17 n P).2.2.2.2.2.2.2.2.2.1; let a10 := (tp17 n P).2.2.2.2.2.2.2.2.2.2.1; let a11 := (tp17 n P).2.2.2.2.2.2.2.2.2.2.2.1; let a12 := (tp17 n P).2.2.2.2.2.2.2.2.2.2.2.2.1; let a13 := (tp17 n P).2.2.2.2.2.2.2.2.2.2.2.2.2.1; let a14 := (tp17 n P).2.2.2.2.2.2.2.2.2.2.2.2.2.2.1; let a15 := (tp17 n P).2.2.2.2.2.2.2.2.2.2.2.2.2.2.2.1; let a16 := (tp17 n P).2.2.2.2.2.2.2.2.2.2.2.2.2.2.2.2; P a0 a1 a2 a3 a4 a5 a6 a7 a8 a9 a10 a11 a12 a13 a14 a15 a16) : ∀ a0 a1 a2 a3 a4 a5 a6 a7 a8 a9 a10 a11 a12 a13 a14 a15 a16, P a0 a1 a2 a3 a4 a5 a6 a7 a8 a9 a10 a11 a12 a13 a14 a15 a16 :=
  fun a0 a1 a2 a3 a4 a5 a6 a7 a8 a9 a10 a11 a12 a13 a14 a15 a16 => epo_all (n := n) (P := u17 P) (by unfold tp17 at h; exact h) (a0, a1, a2, a3, a4, a5, a6, a7, a8, a9, a10, a11, a12, a13, a14, a15, a16)
noncomputable def u18 {A0 A1 A2 A3 A4 A5 A6 A7 A8 A9 A10 A11 A12 A13 A14 A15 A16 A17 : Type} (P : A0 -> A1 -> A2 -> A3 -> A4 -> A5 -> A6 -> A7 -> A8 -> A9 -> A10 -> A11 -> A12 -> A13 -> A14 -> A15 -> A16 -> A17 -> Prop) (t : A0 × A1 × A2 × A3 × A4 × A5 × A6 × A7 × A8 × A9 × A10 × A11 × A12 × A13 × A14 × A15 × A16 × A17) : Prop := u17 (P t.1) t.2
@[irreducible] noncomputable def tp18 {A0 A1 A2 A3 A4 A5 A6 A7 A8 A9 A10 A11 A12 A13 A14 A15 A16 A17 : Type} (n : Nonempty (A0 × A1 × A2 × A3 × A4 × A5 × A6 × A7 × A8 × A9 × A10 × A11 × A12 × A13 × A14 × A15 × A16 × A17)) (P : A0 -> A1 -> A2 -> A3 -> A4 -> A5 -> A6 -> A7 -> A8 -> A9 -> A10 -> A11 -> A12 -> A13 -> A14 -> A15 -> A16 -> A17 -> Prop) : A0 × A1 × A2 × A3 × A4 × A5 × A6 × A7 × A8 × A9 × A10 × A11 × A12 × A13 × A14 × A15 × A16 × A17 := epo n (u18 P)
theorem frz18 {A0 A1 A2 A3 A4 A5 A6 A7 A8 A9 A10 A11 A12 A13 A14 A15 A16 A17 : Type} {P : A0 -> A1 -> A2 -> A3 -> A4 -> A5 -> A6 -> A7 -> A8 -> A9 -> A10 -> A11 -> A12 -> A13 -> A14 -> A15 -> A16 -> A17 -> Prop} (n : Nonempty (A0 × A1 × A2 × A3 × A4 × A5 × A6 × A7 × A8 × A9 × A10 × A11 × A12 × A13 × A14 × A15 × A16 × A17)) (h : let a0 := (tp18 n P).1; let a1 := (tp18 n P).2.1; let a2 := (tp18 n P).2.2.1; let a3 := (tp18 n P).2.2.2.1; let a4 := (tp18 n P).2.2.2.2.1; let a5 := (tp18 n P).2.2.2.2.2.1; let a6 := (tp18 n P).2.2.2.2.2.2.1; let a7 := (tp18 n P).2.2.2.2.2.2.2.1; let a8 := (tp18 n P).2.2.2.2.2.2.2.2.1; let a9 := (tp18 n P).2.2.2.2.2.2.2.2.2.1; let a10 := (tp18 n P).2.2.2.2.2.2.2.2.2.2.1; let a11 := (tp18 n P).2.2.2.2.2.2.2.2.2.2.2.1; let a12 := (tp18 n P).2.2.2.2.2.2.2.2.2.2.2.2.1; let a13 := (tp18 n P).2.2.2.2.2.2.2.2.2.2.2.2.2.1; let a14 := (tp18 n P).2.2.2.2.2.2.2.2.2.2.2.2.2.2.1; let a15 := (tp18 n P).2.2.2.2.2.2.2.2.2.2.2.2.2.2.2.1; let a16 := (tp18 n P).2.2.2.2.2.2.2.2.2.2.2.2.2.2.2.2.1; let a17 := (tp18 n P).2.2.2.2.2.2.2.2.2.2.2.2.2.2.2.2.2; P a0 a1 a2 a3 a4 a5 a6 a7 a8 a9 a10 a11 a12 a13 a14 a15 a16 a17) : ∀ a0 a1 a2 a3 a4 a5 a6 a7 a8 a9 a10 a11 a12 a13 a14 a15 a16 a17, P a0 a1 a2 a3 a4 a5 a6 a7 a8 a9 a10 a11 a12 a13 a14 a15 a16 a17 :=
  fun a0 a1 a2 a3 a4 a5 a6 a7 a8 a9 a10 a11 a12 a13 a14 a15 a16 a17 => epo_all (n := n) (P := u18 P) (by unfold tp18 at h; exact h) (a0, a1, a2, a3, a4, a5, a6, a7, a8, a9, a10, a11, a12, a13, a14, a15, a16, a17)
noncomputable def u19 {A0 A1 A2 A3 A4 A5 A6 A7 A8 A9 A10 A11 A12 A13 A14 A15 A16 A17 A18 : Type} (P : A0 -> A1 -> A2 -> A3 -> A4 -> A5 -> A6 -> A7 -> A8 -> A9 -> A10 -> A11 -> A12 -> A13 -> A14 -> A15 -> A16 -> A17 -> A18 -> Prop) (t : A0 × A1 × A2 × A3 × A4 × A5 × A6 × A7 × A8 × A9 × A10 × A11 × A12 × A13 × A14 × A15 × A16 × A17 × A18) : Prop := u18 (P t.1) t.2
@[irreducible] noncomputable def tp19 {A0 A1 A2 A3 A4 A5 A6 A7 A8 A9 A10 A11 A12 A13 A14 A15 A16 A17 A18 : Type} (n : Nonempty (A0 × A1 × A2 × A3 × A4 × A5 × A6 × A7 × A8 × A9 × A10 × A11 × A12 × A13 × A14 × A15 × A16 × A17 × A18)) (P : A0 -> A1 -> A2 -> A3 -> A4 -> A5 -> A6 -> A7 -> A8 -> A9 -> A10 -> A11 -> A12 -> A13 -> A14 -> A15 -> A16 -> A17 -> A18 -> Prop) : A0 × A1 × A2 × A3 × A4 × A5 × A6 × A7 × A8 × A9 × A10 × A11 × A12 × A13 × A14 × A15 × A16 × A17 × A18 := epo n (u19 P)
theorem frz19 {A0 A1 A2 A3 A4 A5 A6 A7 A8 A9 A10 A11 A12 A13 A14 A15 A16 A17 A18 : Type} {P : A0 -> A1 -> A2 -> A3 -> A4 -> A5 -> A6 -> A7 -> A8 -> A9 -> A10 -> A11 -> A12 -> A13 -> A14 -> A15 -> A16 -> A17 -> A18 -> Prop} (n : Nonempty (A0 × A1 × A2 × A3 × A4 × A5 × A6 × A7 × A8 × A9 × A10 × A11 × A12 × A13 × A14 × A15 × A16 × A17 × A18)) (h : let a0 := (tp19 n P).1; let a1 := (tp19 n P).2.1; let a2 := (tp19 n P).2.2.1; let a3 := (tp19 n P).2.2.2.1; let a4 := (tp19 n P).2.2.2.2.1; let a5 := (tp19 n P).2.2.2.2.2.1; let a6 := (tp19 n P).2.2.2.2.2.2.1; let a7 := (tp19 n P).2.2.2.2.2.2.2.1; let a8 := (tp19 n P).2.2.2.2.2.2.2.2.1; let a9 := (tp19 n P).2.2.2.2.2.2.2.2.2.1; let a10 := (tp19 n P).2.2.2.2.2.2.2.2.2.2.1; let a11 := (tp19 n P).2.2.2.2.2.2.2.2.2.2.2.1; let a12 := (tp19 n P).2.2.2.2.2.2.2.2.2.2.2.2.1; let a13 := (tp19 n P).2.2.2.2.2.2.2.2.2.2.2.2.2.1; let a14 := (tp19 n P).2.2.2.2.2.2.2.2.2.2.2.2.2.2.1; let a15 := (tp19 n P).2.2.2.2.2.2.2.2.2.2.2.2.2.2.2.1; let a16 := (tp19 n P).2.2.2.2.2.2.2.2.2.2.2.2.2.2.2.2.1; let a17 := (tp19 n P).2.2.2.2.2.2.2.2.2.2.2.2.2.2.2.2.2.1; let a18 := (tp19 n P).2.2.2.2.2.2.2.2.2.2.2.2.2.2.2.2.2.2; P a0 a1 a2 a3 a4 a5 a6 a7 a8 a9 a10 a11 a12 a13 a14 a15 a16 a17 a18) : ∀ a0 a1 a2 a3 a4 a5 a6 a7 a8 a9 a10 a11 a12 a13 a14 a15 a16 a17 a18, P a0 a1 a2 a3 a4 a5 a6 a7 a8 a9 a10 a11 a12 a13 a14 a15 a16 a17 a18 :=
  fun a0 a1 a2 a3 a4 a5 a6 a7 a8 a9 a10 a11 a12 a13 a14 a15 a16 a17 a18 => epo_all (n := n) (P := u19 P) (by unfold tp19 at h; exact h) (a0, a1, a2, a3, a4, a5, a6, a7, a8, a9, a10, a11, a12, a13, a14, a15, a16, a17, a18)
noncomputable def u20 {A0 A1 A2 A3 A4 A5 A6 A7 A8 A9 A10 A11 A12 A13 A14 A15 A16 A17 A18 A19 : Type} (P : A0 -> A1 -> A2 -> A3 -> A4 -> A5 -> A6 -> A7 -> A8 -> A9 -> A10 -> A11 -> A12 -> A13 -> A14 -> A15 -> A16 -> A17 -> A18 -> A19 -> Prop) (t : A0 × A1 × A2 × A3 × A4 × A5 × A6 × A7 × A8 × A9 × A10 × A11 × A12 × A13 × A14 × A15 × A16 × A17 × A18 × A19) : Prop := u19 (P t.1) t.2
@[irreducible] noncomputable def tp20 {A0 A1 A2 A3 A4 A5 A6 A7 A8 A9 A10 A11 A12 A13 A14 A15 A16 A17 A18 A19 : Type} (n : Nonempty (A0 × A1 × A2 × A3 × A4 × A5 × A6 × A7 × A8 × A9 × A10 × A11 × A12 × A13 × A14 × A15 × A16 × A17 × A18 × A19)) (P : A0 -> A1 -> A2 -> A3 -> A4 -> A5 -> A6 -> A7 -> A8 -> A9 -> A10 -> A11 -> A12 -> A13 -> A14 -> A15 -> A16 -> A17 -> A18 -> A19 -> Prop) : A0 × A1 × A2 × A3 × A4 × A5 × A6 × A7 × A8 × A9 × A10 × A11 × A12 × A13 × A14 × A15 × A16 × A17 × A18 × A19 := epo n (u20 P)
theorem frz20 {A0 A1 A2 A3 A4 A5 A6 A7 A8 A9 A10 A11 A12 A13 A14 A15 A16 A17 A18 A19 : Type} {P : A0 -> A1 -> A2 -> A3 -> A4 -> A5 -> A6 -> A7 -> A8 -> A9 -> A10 -> A11 -> A12 -> A13 -> A14 -> A15 -> A16 -> A17 -> A18 -> A19 -> Prop} (n : Nonempty (A0 × A1 × A2 × A3 × A4 × A5 × A6 × A7 × A8 × A9 × A10 × A11 × A12 × A13 × A14 × A15 × A16 × A17 × A18 × A19)) (h : let a0 := (tp20 n P).1; let a1 := (tp20 n P).2.1; let a2 := (tp20 n P).2.2.1; let a3 := (tp20 n P).2.2.2.1; let a4 := (tp20 n P).2.2.2.2.1; let a5 := (tp20 n P).2.2.2.2.2.1; let a6 := (tp20 n P).2.2.2.2.2.2.1; let a7 := (tp20 n P).2.2.2.2.2.2.2.1; let a8 := (tp20 n P).2.2.2.2.2.2.2.2.1; let a9 := (tp20 n P).2.2.2.2.2.2.2.2.2.1; let a10 := (tp20 n P).2.2.2.2.2.2.2.2.2.2.1; let a11 := (tp20 n P).2.2.2.2.2.2.2.2.2.2.2.1; let a12 := (tp20 n P).2.2.2.2.2.2.2.2.2.2.2.2.1; let a13 := (tp20 n P).2.2.2.2.2.2.2.2.2.2.2.2.2.1; let a14 := (tp20 n P).2.2.2.2.2.2.2.2.2.2.2.2.2.2.1; let a15 := (tp20 n P).2.2.2.2.2.2.2.2.2.2.2.2.2.2.2.1; let a16 := (tp20 n P).2.2.2.2.2.2.2.2.2.2.2.2.2.2.2.2.1; let a17 := (tp20 n P).2.2.2.2.2.2.2.2.2.2.2.2.2.2.2.2.2.1; let a18 := (tp20 n P).2.2.2.2.2.2.2.2.2.2.2.2.2.2.2.2.2.2.1; let a19 := (tp20 n P).2.2.2.2.2.2.2.2.2.2.2.2.2.2.2.2.2.2.2; P a0 a1 a2 a3 a4 a5 a6 a7 a8 a9 a10 a11 a12 a13 a14 a15 a16 a17 a18 a19) : ∀ a0 a1 a2 a3 a4 a5 a6 a7 a8 a9 a10 a11 a12 a13 a14 a15 a16 a17 a18 a19, P a0 a1 a2 a3 a4 a5 a6 a7 a8 a9 a10 a11 a12 a13 a14 a15 a16 a17 a18 a19 :=
  fun a0 a1 a2 a3 a4 a5 a6 a7 a8 a9 a10 a11 a12 a13 a14 a15 a16 a17 a18 a19 => epo_all (n := n) (P := u20 P) (by unfold tp20 at h; exact h) (a0, a1, a2, a3, a4, a5, a6, a7, a8, a9, a10, a11, a12, a13, a14, a15, a16, a17, a18, a19)
noncomputable def u21 {A0 A1 A2 A3 A4 A5 A6 A7 A8 A9 A10 A11 A12 A13 A14 A15 A16 A17 A18 A19 A20 : Type} (P : A0 -> A1 -> A2 -> A3 -> A4 -> A5 -> A6 -> A7 -> A8 -> A9 -> A10 -> A11 -> A12 -> A13 -> A14 -> A15 -> A16 -> A17 -> A18 -> A19 -> A20 -> Prop) (t : A0 × A1 × A2 × A3 × A4 × A5 × A6 × A7 × A8 × A9 × A10 × A11 × A12 × A13 × A14 × A15 × A16 × A17 × A18 × A19 × A20) : Prop := u20 (P t.1) t.2
@[irreducible] noncomputable def tp21 {A0 A1 A2 A3 A4 A5 A6 A7 A8 A9 A10 A11 A12 A13 A14 A15 A16 A17 A18 A19 A20 : Type} (n : Nonempty (A0 × A1 × A2 × A3 × A4 × A5 × A6 × A7 × A8 × A9 × A10 × A11 × A12 × A13 × A14 × A15 × A16 × A17 × A18 × A19 × A20)) (P : A0 -> A1 -> A2 -> A3 -> A4 -> A5 -> A6 -> A7 -> A8 -> A9 -> A10 -> A11 -> A12 -> A13 -> A14 -> A15 -> A16 -> A17 -> A18 -> A19 -> A20 -> Prop) : A0 × A1 × A2 × A3 × A4 × A5 × A6 × A7 × A8 × A9 × A10 × A11 × A12 × A13 × A14 × A15 × A16 × A17 × A18 × A19 × A20 := epo n (u21 P)
theorem frz21 {A0 A1 A2 A3 A4 A5 A6 A7 A8 A9 A10 A11 A12 A13 A14 A15 A16 A17 A18 A19 A20 : Type} {P : A0 -> A1 -> A2 -> A3 -> A4 -> A5 -> A6 -> A7 -> A8 -> A9 -> A10 -> A11 -> A12 -> A13 -> A14 -> A15 -> A16 -> A17 -> A18 -> A19 -> A20 -> Prop} (n : Nonempty (A0 × A1 × A2 × A3 × A4 × A5 × A6 × A7 × A8 × A9 × A10 × A11 × A12 × A13 × A14 × A15 × A16 × A17 × A18 × A19 × A20)) (h : let a0 := (tp21 n P).1; let a1 := (tp21 n P).2.1; let a2 := (tp21 n P).2.2.1; let a3 := (tp21 n P).2.2.2.1; let a4 := (tp21 n P).2.2.2.2.1; let a5 := (tp21 n P).2.2.2.2.2.1; let a6 := (tp21 n P).2.2.2.2.2.2.1; let a7 := (tp21 n P).2.2.2.2.2.2.2.1; let a8 := (tp21 n P).2.2.2.2.2.2.2.2.1; let a9 := (tp21 n P).2.2.2.2.2.2.2.2.2.1; let a10 := (tp21 n P).2.2.2.2.2.2.2.2.2.2.1; let a11 := (tp21 n P).2.2.2.2.2.2.2.2.2.2.2.1; let a12 := (tp21 n P).2.2.2.2.2.2.2.2.2.2.2.2.1; let a13 := (tp21 n P).2.2.2.2.2.2.2.2.2.2.2.2.2.1; let a14 := (tp21 n P).2.2.2.2.2.2.2.2.2.2.2.2.2.2.1; let a15 := (tp21 n P).2.2.2.2.2.2.2.2.2.2.2.2.2.2.2.1; let a16 := (tp21 n P).2.2.2.2.2.2.2.2.2.2.2.2.2.2.2.2.1; let a17 := (tp21 n P).2.2.2.2.2.2.2.2.2.2.2.2.2.2.2.2.2.1; let a18 := (tp21 n P).2.2.2.2.2.2.2.2.2.2.2.2.2.2.2.2.2.2.1; let a19 := (tp21 n P).2.2.2.2.2.2.2.2.2.2.2.2.2.2.2.2.2.2.2.1; let a20 := (tp21 n P).2.2.2.2.2.2.2.2.2.2.2.2.2.2.2.2.2.2.2.2; P a0 a1 a2 a3 a4 a5 a6 a7 a8 a9 a10 a11 a12 a13 a14 a15 a16 a17 a18 a19 a20) : ∀ a0 a1 a2 a3 a4 a5 a6 a7 a8 a9 a10 a11 a12 a13 a14 a15 a16 a17 a18 a19 a20, P a0 a1 a2 a3 a4 a5 a6 a7 a8 a9 a10 a11 a12 a13 a14 a15 a16 a17 a18 a19 a20 :=
  fun a0 a1 a2 a3 a4 a5 a6 a7 a8 a9 a10 a11 a12 a13 a14 a15 a16 a17 a18 a19 a20 => epo_all (n := n) (P := u21 P) (by unfold tp21 at h; exact h) (a0, a1, a2, a3, a4, a5, a6, a7, a8, a9, a10, a11, a12, a13, a14, a15, a16, a17, a18, a19, a20)
noncomputable def u22 {A0 A1 A2 A3 A4 A5 A6 A7 A8 A9 A10 A11 A12 A13 A14 A15 A16 A17 A18 A19 A20 A21 : Type} (P : A0 -> A1 -> A2 -> A3 -> A4 -> A5 -> A6 -> A7 -> A8 -> A9 -> A10 -> A11 -> A12 -> A13 -> A14 -> A15 -> A16 -> A17 -> A18 -> A19 -> A20 -> A21 -> Prop) (t : A0 × A1 × A2 × A3 × A4 × A5 × A6 × A7 × A8 × A9 × A10 × A11 × A12 × A13 × A14 × A15 × A16 × A17 × A18 × A19 × A20 × A21) : Prop := u21 (P t.1) t.2
@[irreducible] noncomputable def tp22 {A0 A1 A2 A3 A4 A5 A6 A7 A8 A9 A10 A11 A12 A13 A14 A15 A16 A17 A18 A19 A20 A21 : Type} (n : Nonempty (A0 × A1 × A2 × A3 × A4 × A5 × A6 × A7 × A8 × A9 × A10 × A11 × A12 × A13 × A14 × A15 × A16 × A17 × A18 × A19 × A20 × A21)) (P : A0 -> A1 -> A2 -> A3 -> A4 -> A5 -> A6 -> A7 -> A8 -> A9 -> A10 -> A11 -> A12 -> A13 -> A14 -> A15 -> A16 -> A17 -> A18 -> A19 -> A20 -> A21 -> Prop) : A0 × A1 × A2 × A3 × A4 × A5 × A6 × A7 × A8 × A9 × A10 × A11 × A12 × A13 × A14 × A15 × A16 × A17 × A18 × A19 × A20 × A21 := epo n (u22 P)
theorem frz22 {A0 A1 A2 A3 A4 A5 A6 A7 A8 A9 A10 A11 A12 A13 A14 A15 A16 A17 A18 A19 A20 A21 : Type} {P : A0 -> A1 -> A2 -> A3 -> A4 -> A5 -> A6 -> A7 -> A8 -> A9 -> A10 -> A11 -> A12 -> A13 -> A14 -> A15 -> A16 -> A17 -> A18 -> A19 -> A20 -> A21 -> Prop} (n : Nonempty (A0 × A1 × A2 × A3 × A4 × A5 × A6 × A7 × A8 × A9 × A10 × A11 × A12 × A13 × A14 × A15 × A16 × A17 × A18 × A19 × A20 × A21)) (h : let a0 := (tp22 n P).1; let a1 := (tp22 n P).2.1; let a2 := (tp22 n P).2.2.1; let a3 := (tp22 n P).2.2.2.1; let a4 := (tp22 n P).2.2.2.2.1; let a5 := (tp22 n P).2.2.2.2.2.1; let a6 := (tp22 n P).2.2.2.2.2.2.1; let a7 := (tp22 n P).2.2.2.2.2.2.2.1; let a8 := (tp22 n P).2.2.2.2.2.2.2.2.1; let a9 := (tp22 n P).2.2.2.2.2.2.2.2.2.1; let a10 := (tp22 n P).2.2.2.2.2.2.2.2.2.2.1; let a11 := (tp22 n P).2.2.2.2.2.2.2.2.2.2.2.1; let a12 := (tp22 n P).2.2.2.2.2.2.2.2.2.2.2.2.1; let a13 := (tp22 n P).2.2.2.2.2.2.2.2.2.2.2.2.2.1; let a14 := (tp22 n P).2.2.2.2.2.2.2.2.2.2.2.2.2.2.1; let a15 := (tp22 n P).2.2.2.2.2.2.2.2.2.2.2.2.2.2.2.1; let a16 := (tp22 n P).2.2.2.2.2.2.2.2.2.2.2.2.2.2.2.2.1; let a17 := (tp22 n P).2.2.2.2.2.2.2.2.2.2.2.2.2.2.2.2.2.1; let a18 := (tp22 n P).2.2.2.2.2.2.2.2.2.2.2.2.2.2.2.2.2.2.1; let a19 := (tp22 n P).2.2.2.2.2.2.2.2.2.2.2.2.2.2.2.2.2.2.2.1; let a20 := (tp22 n P).2.2.2.2.2.2.2.2.2.2.2.2.2.2.2.2.2.2.2.2.1; let a21 := (tp22 n P).2.2.2.2.2.2.2.2.2.2.2.2.2.2.2.2.2.2.2.2.2; P a0 a1 a2 a3 a4 a5 a6 a7 a8 a9 a10 a11 a12 a13 a14 a15 a16 a17 a18 a19 a20 a21) : ∀ a0 a1 a2 a3 a4 a5 a6 a7 a8 a9 a10 a11 a12 a13 a14 a15 a16 a17 a18 a19 a20 a21, P a0 a1 a2 a3 a4 a5 a6 a7 a8 a9 a10 a11 a12 a13 a14 a15 a16 a17 a18 a19 a20 a21 :=
  fun a0 a1 a2 a3 a4 a5 a6 a7 a8 a9 a10 a11 a12 a13 a14 a15 a16 a17 a18 a19 a20 a21 => epo_all (n := n) (P := u22 P) (by unfold tp22 at h; exact h) (a0, a1, a2, a3, a4, a5, a6, a7, a8, a9, a10, a11, a12, a13, a14, a15, a16, a17, a18, a19, a20, a21)
end
local macro_rules | `(tactic| walk_at "FZN") => `(tactic| first | (refine neP ?_ ?_ <;> walk_at "FZN") | exact neNat | exact neW | exact neHeap | exact neShared | exact neAround | exact neList | exact neM | exact neFun neProp | exact ⟨default⟩ | exact neFun ⟨default⟩ | exact ⟨by constructor <;> first | exact default | (constructor <;> exact default)⟩)
section
open PySem PySem.W PySem.Calls PyProof.Rows PySem.Spec
section
variable {prog : Program} {w : World} {A : Around} {E : Value -> Shared -> Prop} {s : Shared} {env : Env} {h₀ : Heap} {target : Expr} {body : List Stmt} {Q : Flow -> Shared -> Prop}
theorem unrPost_mono {L : Addr} {s₁ : Shared} {its : List (Addr × Obj)} {r r' : (Str -> Option Value) -> List (Addr × Obj) -> Prop} (hr : ∀ m n, r m n -> r' m n) (f : Flow) (s₂ : Shared)
    (h : UnrPostW h₀ L s₁ its r Q f s₂) : UnrPostW h₀ L s₁ its r' Q f s₂ := by
  cases f with
  | ret v => exact h
  | brk => exact h
  | next => obtain ⟨h', tk, m', n', e, F, N, o, x⟩ := h; exact ⟨h', tk, m', n', e, F, N, o, hr _ _ x⟩
  | cont => obtain ⟨h', tk, m', n', e, F, N, o, x⟩ := h; exact ⟨h', tk, m', n', e, F, N, o, hr _ _ x⟩
theorem allObj_mono : ∀ {ws : List (Addr × String)} {k k' : List (Addr × Obj) -> Prop}, (∀ its, k its -> k' its) -> AllObj ws k -> AllObj ws k'
  | [], _, _, h, x => h _ x
  | _ :: _, _, _, h, x => fun o ho => allObj_mono (fun its => h (_ :: its)) (x o ho)
theorem items_ind {ws : List (Addr × String)} {keep : List (Addr × Obj)} (J : List Itm -> (Str -> Option Value) -> List (Addr × Obj) -> Prop)
    (turn : ∀ a r m news, J (a :: r) m news -> ∀ v h tk, a.Is v h -> Fr h₀ env.locals h m -> AllObj ws (fun its => News h₀ env.locals h (its ++ news) ->
      wpAny (model prog w) A (assign target env v) (fun _ s₂ => wpAny (model prog w) A (execs body env) (UnrPostW h₀ env.locals { s with heap := h, toks := tk } its (fun m' n' => SubL keep n' ∧ J r m' n') Q) E s₂) E { s with heap := h, toks := tk }))
    (done : ∀ m news, J [] m news -> ∀ h tk, Fr h₀ env.locals h m -> News h₀ env.locals h news -> Q .next { s with heap := h, toks := tk }) :
    ∀ xs m news, J xs m news -> ItemsRest prog w A E h₀ env target body Q s ws keep xs m news
  | [], m, news, hJ => done m news hJ
  | a :: r, m, news, hJ => fun v h tk ha F => by
    refine allObj_mono (fun its k N => ?_) (turn a r m news hJ v h tk ha F)
    refine wpAny_mono (k N) (fun _ s₂ x => wpAny_mono x (fun f s₃ y => unrPost_mono (fun m' n' z => ⟨z.1, items_ind J turn done r m' n' z.2⟩) f s₃ y) fun _ _ e => e) fun _ _ e => e
theorem enum_base {elts : List Expr} {k : Nat} {pos : Pos} {l : Addr} {vs : List Value} {xs : List Itm} {m₀ : Str -> Option Value} {news : List (Addr × Obj)}
    (hh : A.handled = none) (F : Fr h₀ env.locals s.heap m₀) (N : News h₀ env.locals s.heap news) (hl₀ : h₀.IsList l vs.toArray) (hx : enumItems 0 vs = xs)
    (rest₀ : ∀ I : Addr, (∀ p ∈ news, p.1 < I) -> ItemsRest prog w A E h₀ env (.Tuple elts k pos) body Q s [(I + 1, "enumerate"), (I, "list_iterator")] [] xs m₀ news) :
    wpAny (model prog w) A (call (.type "enumerate") [.ref l]) (fun xv s₁ => wpAny (model prog w) A (pyIter xv) (fun it s₂ => TurnsAt prog w A h₀ env (.Tuple elts k pos) body Q E it s₂) E s₁) E s := by
  subst hx
  obtain ⟨ol, hol, hlc⟩ := id hl₀
  have hl : s.heap.IsList l vs.toArray := hl₀.at fun o e => F.keep _ _ e
  have hls : s.heap.get? l = some ol := F.keep _ _ hol
  have hlt : l < s.heap.objs.size := Hls hls
  have hLs : env.locals < s.heap.objs.size := F.ns.lt
  have hL0 : env.locals ≠ l := fun e => absurd (Hls hol) (Nat.not_lt.mpr (e ▸ F.above))
  refine call_enumerate_list hl fun h' hE hI hsz hk => ?_
  refine wpAny_pyIter_enum hE ?_
  refine ktg_core (tk0 := s.toks) (keep := []) (KTurns.ofWalksU (WalksT.enumerate hh (s.heap.objs.size + 1) s.heap.objs.size l (Nat.succ_ne_self _) (ktu_ne 1 hlt) (Nnl hlt) vs.toArray).toU) (by simp [enumItems_length]) ?_ ?_ ?_ ?_ ?_ ?_ ?_ ?_ (F.keeps hk) (N.grown hk) trivial (rest₀ _ fun p hp => Hls (N p hp).1)
  · rintro i v h ⟨T, vals, rfl, ⟨t, x, hx, rfl⟩, hT⟩
    refine ⟨_, enumItems_get vs 0 i (v := x) (by simpa using hx), T, t, rfl, ?_⟩
    show IsTup h T #[.int ((0 + i : Nat) : Int) t, x]
    rw [Nat.zero_add]
    exact hT
  · rintro i h ⟨⟨old, he⟩, ⟨oi, hoi, hic, _⟩, _⟩
    have he' : ∃ oe : Obj, h.get? (s.heap.objs.size + 1) = some oe ∧ oe.cls = .type "enumerate" := ⟨_, he, rfl⟩
    obtain ⟨oe, h1, h2⟩ := he'
    refine ⟨[(s.heap.objs.size + 1, oe), (s.heap.objs.size, oi)], ⟨⟨rfl, h2⟩, ⟨rfl, hic⟩, trivial⟩, fun p hp => ?_⟩
    rcases Lmc.mp hp with rfl | hp
    · exact h1
    · rw [Lms.mp hp]; exact hoi
  · intro b hb
    have hb' : b = s.heap.objs.size + 1 ∨ b = s.heap.objs.size := by simpa using hb
    rcases hb' with rfl | rfl
    · exact ⟨by simp, ktu_new F (Nat.le_add_right _ _)⟩
    · exact ⟨by simp, ktu_new F (Nat.le_refl _)⟩
  · intro b hb
    simpa using hb
  · intro b hb
    have hb' : b = s.heap.objs.size + 1 ∨ b = s.heap.objs.size ∨ b = l := by simpa using hb
    rcases hb' with rfl | rfl | rfl
    · exact .inl (by simp)
    · exact .inl (by simp)
    · exact .inr (.inr ⟨ol, hol⟩)
  · intro hI'
    have hb' : env.locals = s.heap.objs.size + 1 ∨ env.locals = s.heap.objs.size ∨ env.locals = l := by simpa using hI'
    rcases hb' with e | e | e
    · exact ktu_ne 1 hLs e
    · exact Nnl hLs e
    · exact hL0 e
  · intro p hp hI'
    have hb' : p.1 = s.heap.objs.size + 1 ∨ p.1 = s.heap.objs.size := by simpa using hI'
    have hlp := Hls (N p hp).1
    rcases hb' with e | e
    · exact ktu_ne 1 hlp e
    · exact Nnl hlp e
  · exact ⟨⟨.none, hE⟩, hI, hl.at fun o e => hk l o e⟩
noncomputable def textItems : Nat -> List Nat -> List Itm
  | _, [] => []
  | i, c :: r => Itm.pairF (fun t => .int (i : Int) t) (.str ⟨#[c]⟩) :: textItems (i + 1) r
theorem textItems_length : ∀ (cs : List Nat) (a : Nat), (textItems a cs).length = cs.length
  | [], _ => rfl
  | _ :: r, a => congrArg (· + 1) (textItems_length r (a + 1))
theorem textItems_get : ∀ (cs : List Nat) (a i : Nat) {c : Nat}, cs[i]? = some c -> (textItems a cs)[i]? = some (Itm.pairF (fun t => .int ((a + i : Nat) : Int) t) (.str ⟨#[c]⟩))
  | [], _, _, _, h => by simp at h
  | x :: r, a, 0, c, h => by
    have e : x = c := by simpa using h
    subst e
    rfl
  | x :: r, a, i + 1, c, h => by
    have := textItems_get r (a + 1) i (c := c) (by simpa using h)
    rw [show a + 1 + i = a + (i + 1) by omega] at this
    simpa [textItems] using this
theorem enum_text {elts : List Expr} {k : Nat} {pos : Pos} {x : Str} {t : Tok} {xs : List Itm} {m₀ : Str -> Option Value} {news : List (Addr × Obj)}
    (hh : A.handled = none) (F : Fr h₀ env.locals s.heap m₀) (N : News h₀ env.locals s.heap news) (ha : strIterType x = "str_ascii_iterator") (hx : textItems 0 x.cps.toList = xs)
    (rest₀ : ∀ I : Addr, (∀ p ∈ news, p.1 < I) -> ItemsRest prog w A E h₀ env (.Tuple elts k pos) body Q s [(I + 1, "enumerate"), (I, "str_ascii_iterator")] [] xs m₀ news) :
    wpAny (model prog w) A (call (.type "enumerate") [.str x t]) (fun xv s₁ => wpAny (model prog w) A (pyIter xv) (fun it s₂ => TurnsAt prog w A h₀ env (.Tuple elts k pos) body Q E it s₂) E s₁) E s := by
  subst hx
  have hn : x.cps.size = (textItems 0 x.cps.toList).length := by rw [textItems_length, Array.length_toList]
  have hx : ∀ (i : Nat) (c : Nat), x.cps[i]? = some c -> (textItems 0 x.cps.toList)[i]? = some (Itm.pairF (fun t => .int (i : Int) t) (.str ⟨#[c]⟩)) := fun i c e => by
    have := textItems_get x.cps.toList 0 i (c := c) (by simpa using e)
    rwa [Nat.zero_add] at this
  have hLs : env.locals < s.heap.objs.size := F.ns.lt
  refine call_enumerate_str fun h' hE hI hsz hk => ?_
  rw [ha] at hI
  refine wpAny_pyIter_enum hE ?_
  refine ktg_core (tk0 := s.toks) (keep := []) (KTurns.ofWalksU (WalksT.enumerateD (Draws.of_in1 (Draws.strAscii (A := A.in1.in1) hh s.heap.objs.size x t)) (s.heap.objs.size + 1) (Nat.succ_ne_self _) (by simp) (by simp)).toU) hn ?_ ?_ ?_ ?_ ?_ ?_ ?_ ?_ (F.keeps hk) (N.grown hk) trivial (rest₀ _ fun p hp => Hls (N p hp).1)
  · rintro i v h ⟨T, vals, rfl, ⟨t, y, ⟨c, u, hc, rfl⟩, rfl⟩, hT⟩
    exact ⟨_, hx i c hc, T, t, _, rfl, .str _ _, hT⟩
  · rintro i h ⟨⟨old, he⟩, ⟨oi, hoi, hic, _⟩⟩
    have he' : ∃ oe : Obj, h.get? (s.heap.objs.size + 1) = some oe ∧ oe.cls = .type "enumerate" := ⟨_, he, rfl⟩
    obtain ⟨oe, h1, h2⟩ := he'
    refine ⟨[(s.heap.objs.size + 1, oe), (s.heap.objs.size, oi)], ⟨⟨rfl, h2⟩, ⟨rfl, hic⟩, trivial⟩, fun p hp => ?_⟩
    rcases Lmc.mp hp with rfl | hp
    · exact h1
    · rw [Lms.mp hp]; exact hoi
  · intro b hb
    have hb' : b = s.heap.objs.size + 1 ∨ b = s.heap.objs.size := by simpa using hb
    rcases hb' with rfl | rfl
    · exact ⟨by simp, ktu_new F (Nat.le_add_right _ _)⟩
    · exact ⟨by simp, ktu_new F (Nat.le_refl _)⟩
  · intro b hb
    simpa using hb
  · intro b hb
    have hb' : b = s.heap.objs.size + 1 ∨ b = s.heap.objs.size := by simpa using hb
    exact .inl (by simpa using hb')
  · intro hI'
    have hb' : env.locals = s.heap.objs.size + 1 ∨ env.locals = s.heap.objs.size := by simpa using hI'
    rcases hb' with e | e
    · exact ktu_ne 1 hLs e
    · exact Nnl hLs e
  · intro p hp hI'
    have hb' : p.1 = s.heap.objs.size + 1 ∨ p.1 = s.heap.objs.size := by simpa using hI'
    have hlp := Hls (N p hp).1
    rcases hb' with e | e
    · exact ktu_ne 1 hlp e
    · exact Nnl hlp e
  · exact ⟨⟨.none, hE⟩, hI⟩
end
end
section
open PySem PySem.W PySem.Calls PyProof.Rows PyProof.V
inductive FlatAll : List Value -> List PyData -> Prop
  | nil : FlatAll [] []
  | cons {v d vs ds} : Flat v d -> FlatAll vs ds -> FlatAll (v :: vs) (d :: ds)
inductive TupsAre : List (Addr × Obj) -> List (List PyData) -> Prop
  | nil : TupsAre [] []
  | cons {a vs ds tl dss} : FlatAll vs ds -> TupsAre tl dss -> TupsAre ((a, tupOf vs) :: tl) (ds :: dss)
noncomputable abbrev refsOf (tl : List (Addr × Obj)) : List Value := tl.map fun p => Value.ref p.1
theorem TupsAre.append {tl tl' : List (Addr × Obj)} {ds ds' : List (List PyData)} (h : TupsAre tl ds) (h' : TupsAre tl' ds') : TupsAre (tl ++ tl') (ds ++ ds') := by
  induction h with
  | nil => exact h'
  | cons a _ ih => exact .cons a ih
theorem TupsAre.length {tl : List (Addr × Obj)} {ds : List (List PyData)} (h : TupsAre tl ds) : tl.length = ds.length := by
  induction h with
  | nil => rfl
  | cons _ _ ih => simp [ih]
theorem flat_str {v : Value} {x : Str} (h : Flat v (.str x)) : ∃ u, v = .str x u := by
  cases h default with
  | str _ u => exact ⟨u, rfl⟩
theorem flat_int {v : Value} {x : Int} (h : Flat v (.int x)) : ∃ u, v = .int x u := by
  cases h default with
  | int _ u => exact ⟨u, rfl⟩
theorem FlatAll.unc {vs : List Value} {d : PyData} {ds : List PyData} (h : FlatAll vs (d :: ds)) : ∃ v r, vs = v :: r ∧ Flat v d ∧ FlatAll r ds := by
  cases h with
  | cons a b => exact ⟨_, _, rfl, a, b⟩
theorem FlatAll.nilq {vs : List Value} (h : FlatAll vs []) : vs = [] := by cases h; rfl
theorem flat_s {vs : List Value} {x : Str} {ds : List PyData} (h : FlatAll vs (.str x :: ds)) : ∃ u r, vs = .str x u :: r ∧ FlatAll r ds := by
  obtain ⟨_, r, e, a, b⟩ := h.unc
  obtain ⟨u, e2⟩ := flat_str a
  exact ⟨u, r, e2 ▸ e, b⟩
theorem flat_i {vs : List Value} {x : Int} {ds : List PyData} (h : FlatAll vs (.int x :: ds)) : ∃ u r, vs = .int x u :: r ∧ FlatAll r ds := by
  obtain ⟨_, r, e, a, b⟩ := h.unc
  obtain ⟨u, e2⟩ := flat_int a
  exact ⟨u, r, e2 ▸ e, b⟩
theorem flat_ss {vs : List Value} {x y : Str} (h : FlatAll vs [.str x, .str y]) : ∃ t u, vs = [.str x t, .str y u] := by
  obtain ⟨t, _, e, h1⟩ := flat_s h
  obtain ⟨u, _, e1, h2⟩ := flat_s h1
  exact ⟨t, u, (h2.nilq ▸ e1) ▸ e⟩
theorem flat_isi {vs : List Value} {x z : Int} {y : Str} (h : FlatAll vs [.int x, .str y, .int z]) : ∃ t u v, vs = [.int x t, .str y u, .int z v] := by
  obtain ⟨t, _, e, h1⟩ := flat_i h
  obtain ⟨u, _, e1, h2⟩ := flat_s h1
  obtain ⟨v, _, e2, h3⟩ := flat_i h2
  exact ⟨t, u, v, ((h3.nilq ▸ e2) ▸ e1) ▸ e⟩
theorem flat_sii {vs : List Value} {y z : Int} {x : Str} (h : FlatAll vs [.str x, .int y, .int z]) : ∃ t u v, vs = [.str x t, .int y u, .int z v] := by
  obtain ⟨t, _, e, h1⟩ := flat_s h
  obtain ⟨u, _, e1, h2⟩ := flat_i h1
  obtain ⟨v, _, e2, h3⟩ := flat_i h2
  exact ⟨t, u, v, ((h3.nilq ▸ e2) ▸ e1) ▸ e⟩
theorem TupsAre.unc {tl : List (Addr × Obj)} {d : List PyData} {ds : List (List PyData)} (h : TupsAre tl (d :: ds)) : ∃ a vs r, tl = (a, tupOf vs) :: r ∧ FlatAll vs d ∧ TupsAre r ds := by
  cases h with
  | cons a b => exact ⟨_, _, _, rfl, a, b⟩
theorem TupsAre.getm {α : Type} {f : α -> List PyData} {tl : List (Addr × Obj)} {ps : List α} (h : TupsAre tl (ps.map f)) {i : Nat} (hi : i < ps.length) : ∃ a vs, tl[i]? = some (a, tupOf vs) ∧ FlatAll vs (f ps[i]) := by
  induction ps generalizing tl i with
  | nil => exact absurd hi (Nat.not_lt_zero _)
  | cons q ps ih =>
    obtain ⟨a, vs, r, rfl, f1, f2⟩ := h.unc
    cases i with
    | zero => exact ⟨a, vs, rfl, f1⟩
    | succ i => exact ih f2 (Nat.lt_of_succ_lt_succ hi)
theorem refs_at {tl : List (Addr × Obj)} {k : Nat} {x : Value} {r : List Value} (hr : x :: r = refsOf (tl.drop k)) {p : Addr × Obj} (e : tl[k]? = some p) : x = .ref p.1 ∧ r = refsOf (tl.drop (k + 1)) := by
  obtain ⟨hk, e⟩ := List.getElem?_eq_some_iff.mp e
  rw [List.drop_eq_getElem_cons hk, e] at hr
  exact List.cons.inj hr
theorem refs_lt {tl : List (Addr × Obj)} {k : Nat} {x : Value} {r : List Value} (hr : x :: r = refsOf (tl.drop k)) : k < tl.length :=
  Nat.lt_of_not_le fun h => by
    rw [List.drop_eq_nil_of_le h] at hr
    cases hr
theorem tups_next {α : Type} {f : α -> List PyData} {tl : List (Addr × Obj)} {ps : List α} (h : TupsAre tl (ps.map f)) {k : Nat} {x : Value} {r : List Value} (hr : x :: r = refsOf (tl.drop k)) : ∃ (hk : k < ps.length) (T : Addr) (vs : List Value), x = .ref T ∧ (T, tupOf vs) ∈ tl ∧ FlatAll vs (f ps[k]) ∧ r = refsOf (tl.drop (k + 1)) := by
  have hk : k < ps.length := Llm f ▸ h.length ▸ refs_lt hr
  obtain ⟨T, vs, e, g⟩ := h.getm hk
  exact ⟨hk, T, vs, (refs_at hr e).1, Lmg e, g, (refs_at hr e).2⟩
theorem TupsAre.cls {tl : List (Addr × Obj)} {ds : List (List PyData)} (h : TupsAre tl ds) : ∀ p ∈ tl, p.2.cls = .type "tuple" := by
  induction h with
  | nil => exact fun _ h => nomatch h
  | cons _ _ ih =>
    intro p hp
    rcases Lmc.mp hp with rfl | hp
    · rfl
    · exact ih p hp
theorem endW {h₀ h' : Heap} {L : Addr} {s₁ : Shared} {its all : List (Addr × Obj)} {r : (Str -> Option Value) -> List (Addr × Obj) -> Prop} {m' : Str -> Option Value} {tk : Nat} (F : Fr h₀ L h' m') (N : News h₀ L h' all) (news' : List (Addr × Obj))
    (hI : ∀ p ∈ its, p ∈ all) (sub : ∀ p ∈ news', p ∈ all) (off : ∀ p ∈ news', ∀ q ∈ its, p.2.cls ≠ q.2.cls) (x : r m' news') : UnrEndW h₀ L s₁ its r { s₁ with heap := h', toks := tk } :=
  ⟨h', tk, m', news', rfl, F, fun p hp => (Lma.mp hp).elim (fun q => N p (hI p q)) fun q => N p (sub p q), fun p hp q hq e => by
    have h1 := (N _ (sub p hp)).1
    have h2 := (N _ (hI q hq)).1
    rw [e] at h1
    exact off p hp q hq (congrArg Obj.cls (Option.some.inj (h1.symm.trans h2))), x⟩
theorem fmod_bd (a b : Int) (hb : 0 < b) : 0 ≤ a.fmod b ∧ a.fmod b < b := by
  rw [Int.fmod_eq_emod_of_nonneg _ (Int.le_of_lt hb)]
  exact ⟨Int.emod_nonneg _ (by omega), Int.emod_lt_of_pos _ hb⟩
theorem exT (x : Str) : ∃ xs, textItems 0 x.cps.toList = xs := ⟨_, rfl⟩
theorem mem_lt_of_allLt {d : Addr} : ∀ {l : List (Addr × Obj)}, AllLt d l -> ∀ p ∈ l, p.1 < d
  | [], _, _, h => nomatch h
  | _ :: _, x, p, h => by
    rcases Lmc.mp h with rfl | h
    · exact x.1
    · exact mem_lt_of_allLt x.2 p h
section
variable {prog : Program} {w : World} {A : Around} {E : Value -> Shared -> Prop} {s : Shared} {h₀ : Heap} {L : Addr} {m : Str -> Option Value} {news : List (Addr × Obj)} {l : Addr} {x : Int} {u : Tok} {Q : Value -> Shared -> Prop}
theorem flatten_rep {α : Type} (v : α) : ∀ n : Nat, (List.replicate n [v]).flatten = List.replicate n v
  | 0 => rfl
  | n + 1 => by rw [List.replicate_succ, Lfc, flatten_rep v n, List.replicate_succ]; rfl
theorem rep_list {v : Value} (Fm : Fr h₀ L s.heap m) (N : News h₀ L s.heap news) (hl : s.heap.IsList l #[v]) (hlo : 0 ≤ x) (hhi : x ≤ 200)
    (h : ∀ D h', Fr h₀ L h' m -> News h₀ L h' ((D, Wl (List.replicate x.toNat v).toArray 0) :: news) -> (∀ p ∈ news, p.1 < D) -> Q (.ref D) { s with heap := h' }) : wpAny (model prog w) A (binaryOp .Mult (.ref l) (.int x u)) Q E s :=
  KMa.mul Fm N (vs := [v]) hl (by omega) (by omega) (by simp; omega) (flatten_rep v _) h
end
end
section
noncomputable def NestTab (P : Addr) (line col : Nat) (qual : Str) (st : List (Addr × Obj)) : Prop :=
  st = [(P, tabObj #[])] ∨ ∃ c' oc vs t, st = [(P, tabObj #[rawInt line, rawInt col, .ref c']), (c', oc)] ∧ oc.data = .fields vs ∧ vs[1]? = some (.str qual t)
theorem NestTab.made {P c' : Addr} {line col : Nat} {qual : Str} {oc : Obj} {vs : Array Value} {t : Tok} (h : oc.data = .fields vs) (h' : vs[1]? = some (.str qual t)) :
    NestTab P line col qual [(P, tabObj #[rawInt line, rawInt col, .ref c']), (c', oc)] := .inr ⟨c', oc, vs, t, rfl, h, h'⟩
end
section
theorem updF_end {P : Addr} {o : Obj} : ∀ {pre : List (Addr × Obj)}, (∀ q ∈ pre, q.1 ≠ P) -> UpdF P o (pre ++ [(P, o)]) (fun o' => pre ++ [(P, o')])
  | [], _ => .head (fun _ h => nomatch h)
  | _ :: _, h => .tail (h _ (.head _)) (updF_end fun q hq => h q (.tail _ hq))
inductive Spl (st : List (Addr × Obj)) : List (Addr × Obj) -> List (Addr × Obj) -> Prop
  | nil : Spl st st []
  | cons {a l r} : Spl st l r -> Spl st (a :: l) (a :: r)
theorem Spl.eq {st l r : List (Addr × Obj)} (h : Spl st l r) : l = r ++ st := by
  induction h with
  | nil => rfl
  | cons _ ih => rw [ih]; rfl
theorem lt_andS {a b x : Nat} {p : Prop} (h : x < b ∧ p) (k : SelP (x < b ∧ p) (a + 1 < b)) : a < b := Nat.lt_of_succ_lt (k h)
theorem ne_pre {pre : List (Addr × Obj)} {c : Addr} (h : ∀ q ∈ pre, q.1 ≠ c) {a : Addr} {o : Obj} (hm : (a, o) ∈ pre) : a ≠ c := h _ hm
section
variable {prog : Program} {w : World} {A : Around} {E : Value -> Shared -> Prop} {s : Shared} {h₀ : Heap} {L a c P : Addr} {m mg mb : Str -> Option Value} {cn : Str} {cs : Scope} {ccd : Value} {cl : List (Str × Addr)} {p : Program} {loose : List Str} {mean : ExcName -> Option Value}
  {name qual : Str} {params : Arguments} {body : List Stmt} {bodyE : Expr} {scope : Scope} {clos : List (Str × Addr)} {pos : Pos} {firstLine : Nat}
theorem kla_any {Q : Value -> Shared -> Prop} {pre st : List (Addr × Obj)} (F : Fr h₀ L s.heap m) (N : News h₀ L s.heap (pre ++ st)) (T : Top p loose mean mg mb h₀) (C : CodeHd h₀ c P) (hcd : ccd = .ref c) (hst : NestTab P pos.line pos.col qual st) (hP : ∀ q ∈ pre, q.1 ≠ P) (hS : ∀ q ∈ pre, ∀ r ∈ st, q.1 ≠ r.1)
    (t0 : TriplesOk []) (n0 : codeAmong pos [] = none) (t1 : ∀ c', TriplesOk [rawInt pos.line, rawInt pos.col, .ref c']) (n1 : ∀ c', codeAmong pos [rawInt pos.line, rawInt pos.col, .ref c'] = some (.ref c'))
    (hcl : closureFor scope (envX cn cs L a ccd cl) = pure clos)
    (h : ∀ f c' oc vs t ctv h' tk, Fr h₀ L h' m -> News h₀ L h' ((f, kla_obj name qual params bodyE scope clos ((mg "__name__").getD .none) c' ctv) :: (pre ++ [(P, tabObj #[rawInt pos.line, rawInt pos.col, .ref c']), (c', oc)])) -> oc.data = .fields vs -> vs[1]? = some (.str qual t) ->
      (st.length = 2 -> [(P, tabObj #[rawInt pos.line, rawInt pos.col, .ref c']), (c', oc)] = st) -> (∀ q ∈ pre, q.1 < f) -> (∀ q ∈ pre, q.1 ≠ c') -> c' < f -> P ≠ f -> Q (.ref f) { s with heap := h', toks := tk }) :
    wpAny (model prog w) A (makeFunction name qual params (.expr bodyE) scope (envX cn cs L a ccd cl) [] [] [] pos firstLine) Q E s := by
  rcases hst with rfl | ⟨c', oc, vs, t, rfl, d1, d2⟩
  · refine kla_nest (ps := #[]) (g := fun o => pre ++ [(P, o)]) F N T C hcd (updF_end hP) t0 n0 hcl ?_
    intro f c' oc vs t ctv h' tk F' N' d1 d2 l1 l2
    refine h f c' oc vs t ctv h' tk F' (news_sub N' ?_) d1 d2 (fun e => absurd e (show ¬(1:Nat) = 2 by decide)) (fun q hq => Nltt (l1 q (Lal _ hq)) l2) (fun q hq => Nnl (l1 q (Lal _ hq))) l2 (Nnl (Nltt (l1 (P, tabObj #[]) (Lar _ (.head _))) l2))
    intro q hq
    rcases Lmc.mp hq with rfl | hq
    · exact .head _
    rcases Lma.mp hq with hq | hq
    · exact .tail _ (.tail _ (Lal _ hq))
    rcases Lmc.mp hq with rfl | hq
    · exact .tail _ (.tail _ (Lar _ (.head _)))
    · rw [Lms.mp hq]; exact .tail _ (.head _)
  · refine kla_hit (ps := #[rawInt pos.line, rawInt pos.col, .ref c']) F N T C hcd (Lar _ (.head _)) (t1 c') (n1 c') hcl ?_
    intro f ctv h' tk F' N' l1
    exact h f c' oc vs t ctv h' tk F' N' d1 d2 (fun _ => rfl) (fun q hq => l1 q (Lal _ hq)) (fun q hq => hS q hq (c', oc) (.tail _ (.head _))) (l1 (c', oc) (Lar _ (.tail _ (.head _)))) (Nnl (l1 (P, _) (Lar _ (.head _))))
theorem nest_any {Q : Value -> Shared -> Prop} {pre st : List (Addr × Obj)} (F : Fr h₀ L s.heap m) (N : News h₀ L s.heap (pre ++ st)) (T : Top p loose mean mg mb h₀) (C : CodeHd h₀ c P) (hcd : ccd = .ref c) (hst : NestTab P pos.line pos.col qual st) (hP : ∀ q ∈ pre, q.1 ≠ P) (hS : ∀ q ∈ pre, ∀ r ∈ st, q.1 ≠ r.1)
    (t0 : TriplesOk []) (n0 : codeAmong pos [] = none) (t1 : ∀ c', TriplesOk [rawInt pos.line, rawInt pos.col, .ref c']) (n1 : ∀ c', codeAmong pos [rawInt pos.line, rawInt pos.col, .ref c'] = some (.ref c'))
    (hcl : closureFor scope (envX cn cs L a ccd cl) = pure clos)
    (h : ∀ f c' oc vs t ctv doc h' tk, Fr h₀ L h' m -> News h₀ L h' ((f, fnMade name qual params body scope clos doc ((mg "__name__").getD .none) c' ctv) :: (pre ++ [(P, tabObj #[rawInt pos.line, rawInt pos.col, .ref c']), (c', oc)])) -> oc.data = .fields vs -> vs[1]? = some (.str qual t) ->
      (st.length = 2 -> [(P, tabObj #[rawInt pos.line, rawInt pos.col, .ref c']), (c', oc)] = st) -> (∀ q ∈ pre, q.1 < f) -> (∀ q ∈ pre, q.1 ≠ c') -> c' < f -> P ≠ f -> Q (.ref f) { s with heap := h', toks := tk }) :
    wpAny (model prog w) A (makeFunction name qual params (.stmts body) scope (envX cn cs L a ccd cl) [] [] [] pos firstLine) Q E s := by
  rcases hst with rfl | ⟨c', oc, vs, t, rfl, d1, d2⟩
  · refine nest_K (ps := #[]) (g := fun o => pre ++ [(P, o)]) F N T C hcd (updF_end hP) t0 n0 hcl ?_
    intro f c' oc vs t ctv doc h' tk F' N' d1 d2 l1 l2
    refine h f c' oc vs t ctv doc h' tk F' (news_sub N' ?_) d1 d2 (fun e => absurd e (show ¬(1:Nat) = 2 by decide)) (fun q hq => Nltt (l1 q (Lal _ hq)) l2) (fun q hq => Nnl (l1 q (Lal _ hq))) l2 (Nnl (Nltt (l1 (P, tabObj #[]) (Lar _ (.head _))) l2))
    intro q hq
    rcases Lmc.mp hq with rfl | hq
    · exact .head _
    rcases Lma.mp hq with hq | hq
    · exact .tail _ (.tail _ (Lal _ hq))
    rcases Lmc.mp hq with rfl | hq
    · exact .tail _ (.tail _ (Lar _ (.head _)))
    · rw [Lms.mp hq]; exact .tail _ (.head _)
  · refine nestHit_K (ps := #[rawInt pos.line, rawInt pos.col, .ref c']) F N T C hcd (Lar _ (.head _)) (t1 c') (n1 c') hcl ?_
    intro f ctv doc h' tk F' N' l1
    exact h f c' oc vs t ctv doc h' tk F' N' d1 d2 (fun _ => rfl) (fun q hq => l1 q (Lal _ hq)) (fun q hq => hS q hq (c', oc) (.tail _ (.head _))) (l1 (c', oc) (Lar _ (.tail _ (.head _)))) (Nnl (l1 (P, _) (Lar _ (.head _))))
theorem kla_anyL {Q : Value -> Shared -> Prop} {pre st ledger : List (Addr × Obj)} {L1 : Addr} (F : Fr h₀ L s.heap m) (N : News h₀ L s.heap ledger) (sp : Spl st ledger pre) (T : Top p loose mean mg mb h₀) (C : CodeHd h₀ c P) (hcd : ccd = .ref c) (hst : NestTab P pos.line pos.col qual st) (hL : ∀ q ∈ pre, L1 < q.1) (hl : ∀ r ∈ st, r.1 < L1)
    (t0 : TriplesOk []) (n0 : codeAmong pos [] = none) (t1 : ∀ c', TriplesOk [rawInt pos.line, rawInt pos.col, .ref c']) (n1 : ∀ c', codeAmong pos [rawInt pos.line, rawInt pos.col, .ref c'] = some (.ref c'))
    (hcl : closureFor scope (envX cn cs L a ccd cl) = pure clos)
    (h : ∀ f c' oc vs t ctv h' tk, Fr h₀ L h' m -> News h₀ L h' ((f, kla_obj name qual params bodyE scope clos ((mg "__name__").getD .none) c' ctv) :: (pre ++ [(P, tabObj #[rawInt pos.line, rawInt pos.col, .ref c']), (c', oc)])) -> oc.data = .fields vs -> vs[1]? = some (.str qual t) ->
      (st.length = 2 -> [(P, tabObj #[rawInt pos.line, rawInt pos.col, .ref c']), (c', oc)] = st) -> (∀ q ∈ pre, q.1 < f) -> (∀ q ∈ pre, q.1 ≠ c') -> c' < f -> P ≠ f -> (∀ q ∈ pre, q.1 ≠ P) -> Q (.ref f) { s with heap := h', toks := tk }) :
    wpAny (model prog w) A (makeFunction name qual params (.expr bodyE) scope (envX cn cs L a ccd cl) [] [] [] pos firstLine) Q E s := by
  have e := sp.eq
  subst e
  have hS : ∀ q ∈ pre, ∀ r ∈ st, q.1 ≠ r.1 := fun q hq r hr => Nat.ne_of_gt (Nltt (hl r hr) (hL q hq))
  have hP : ∀ q ∈ pre, q.1 ≠ P := fun q hq => by
    rcases hst with rfl | ⟨_, _, _, _, rfl, _⟩ <;> exact hS q hq (P, _) (.head _)
  exact kla_any F N T C hcd hst hP hS t0 n0 t1 n1 hcl fun f c' oc vs t ctv h' tk a1 a2 a3 a4 a5 a6 a7 a8 a9 => h f c' oc vs t ctv h' tk a1 a2 a3 a4 a5 a6 a7 a8 a9 hP
theorem nest_anyL {Q : Value -> Shared -> Prop} {pre st ledger : List (Addr × Obj)} {L1 : Addr} (F : Fr h₀ L s.heap m) (N : News h₀ L s.heap ledger) (sp : Spl st ledger pre) (T : Top p loose mean mg mb h₀) (C : CodeHd h₀ c P) (hcd : ccd = .ref c) (hst : NestTab P pos.line pos.col qual st) (hL : ∀ q ∈ pre, L1 < q.1) (hl : ∀ r ∈ st, r.1 < L1)
    (t0 : TriplesOk []) (n0 : codeAmong pos [] = none) (t1 : ∀ c', TriplesOk [rawInt pos.line, rawInt pos.col, .ref c']) (n1 : ∀ c', codeAmong pos [rawInt pos.line, rawInt pos.col, .ref c'] = some (.ref c'))
    (hcl : closureFor scope (envX cn cs L a ccd cl) = pure clos)
    (h : ∀ f c' oc vs t ctv doc h' tk, Fr h₀ L h' m -> News h₀ L h' ((f, fnMade name qual params body scope clos doc ((mg "__name__").getD .none) c' ctv) :: (pre ++ [(P, tabObj #[rawInt pos.line, rawInt pos.col, .ref c']), (c', oc)])) -> oc.data = .fields vs -> vs[1]? = some (.str qual t) ->
      (st.length = 2 -> [(P, tabObj #[rawInt pos.line, rawInt pos.col, .ref c']), (c', oc)] = st) -> (∀ q ∈ pre, q.1 < f) -> (∀ q ∈ pre, q.1 ≠ c') -> c' < f -> P ≠ f -> (∀ q ∈ pre, q.1 ≠ P) -> Q (.ref f) { s with heap := h', toks := tk }) :
    wpAny (model prog w) A (makeFunction name qual params (.stmts body) scope (envX cn cs L a ccd cl) [] [] [] pos firstLine) Q E s := by
  have e := sp.eq
  subst e
  have hS : ∀ q ∈ pre, ∀ r ∈ st, q.1 ≠ r.1 := fun q hq r hr => Nat.ne_of_gt (Nltt (hl r hr) (hL q hq))
  have hP : ∀ q ∈ pre, q.1 ≠ P := fun q hq => by
    rcases hst with rfl | ⟨_, _, _, _, rfl, _⟩ <;> exact hS q hq (P, _) (.head _)
  exact nest_any F N T C hcd hst hP hS t0 n0 t1 n1 hcl fun f c' oc vs t ctv doc h' tk a1 a2 a3 a4 a5 a6 a7 a8 a9 => h f c' oc vs t ctv doc h' tk a1 a2 a3 a4 a5 a6 a7 a8 a9 hP
theorem nest_anyM {Q : Value -> Shared -> Prop} {pre st ledger : List (Addr × Obj)} (F : Fr h₀ L s.heap m) (N : News h₀ L s.heap ledger) (sp : Spl st ledger pre) (T : Top p loose mean mg mb h₀) (C : CodeHd h₀ c P) (hcd : ccd = .ref c) (hst : NestTab P pos.line pos.col qual st) (hS : ∀ q ∈ pre, ∀ r ∈ st, q.1 ≠ r.1)
    (t0 : TriplesOk []) (n0 : codeAmong pos [] = none) (t1 : ∀ c', TriplesOk [rawInt pos.line, rawInt pos.col, .ref c']) (n1 : ∀ c', codeAmong pos [rawInt pos.line, rawInt pos.col, .ref c'] = some (.ref c'))
    (hcl : closureFor scope (envX cn cs L a ccd cl) = pure clos)
    (h : ∀ f c' oc vs t ctv doc h' tk, Fr h₀ L h' m -> News h₀ L h' ((f, fnMade name qual params body scope clos doc ((mg "__name__").getD .none) c' ctv) :: (pre ++ [(P, tabObj #[rawInt pos.line, rawInt pos.col, .ref c']), (c', oc)])) -> oc.data = .fields vs -> vs[1]? = some (.str qual t) ->
      (st.length = 2 -> [(P, tabObj #[rawInt pos.line, rawInt pos.col, .ref c']), (c', oc)] = st) -> (∀ q ∈ pre, q.1 < f) -> (∀ q ∈ pre, q.1 ≠ c') -> c' < f -> P ≠ f -> (∀ q ∈ pre, q.1 ≠ P) -> Q (.ref f) { s with heap := h', toks := tk }) :
    wpAny (model prog w) A (makeFunction name qual params (.stmts body) scope (envX cn cs L a ccd cl) [] [] [] pos firstLine) Q E s := by
  have e := sp.eq
  subst e
  have hP : ∀ q ∈ pre, q.1 ≠ P := fun q hq => by
    rcases hst with rfl | ⟨_, _, _, _, rfl, _⟩ <;> exact hS q hq (P, _) (.head _)
  exact nest_any F N T C hcd hst hP hS t0 n0 t1 n1 hcl fun f c' oc vs t ctv doc h' tk a1 a2 a3 a4 a5 a6 a7 a8 a9 => h f c' oc vs t ctv doc h' tk a1 a2 a3 a4 a5 a6 a7 a8 a9 hP
theorem hs_of {st : List (Addr × Obj)} {L1 x : Addr} (l : ∀ r ∈ st, r.1 < L1) (h : L1 < x) : ∀ r ∈ st, x ≠ r.1 := fun r hr => Nat.ne_of_gt (Nltt (l r hr) h)
theorem tab_ne {h : Heap} {D : Addr} {o : Obj} {line col : Nat} {st : List (Addr × Obj)} (N : News h₀ L h [(D, o)]) (O : News h₀ L h st) (hst : NestTab P line col qual st) (hD : D ≠ P) (ho : ∀ vs, o.data ≠ .fields vs) : ∀ r ∈ st, D ≠ r.1 := by
  rcases hst with rfl | ⟨c, oc, vs, t, rfl, d, _⟩
  · exact fun r hr => by rw [Lms.mp hr]; exact hD
  · refine faCons hD (faCons (fun e => ?_) faNil)
    have e1 := (N _ (.head _)).1
    have e2 := (O _ (.tail _ (.head _))).1
    rw [show ((D, o) : Addr × Obj).1 = D from rfl, e, e2] at e1
    exact ho vs ((congrArg Obj.data (Option.some.inj e1)).symm.trans d)
end
end
section
theorem nat_lor_high (X s : Nat) : X ||| (X / 2 ^ s * 2 ^ s) = X := by
  apply Nat.eq_of_testBit_eq
  intro i
  rw [Nat.testBit_or, Nat.testBit_mul_two_pow, Nat.testBit_div_two_pow]
  by_cases h : s ≤ i
  · simp [h, Nat.sub_add_cancel h]
  · simp [h]
theorem nat_land_high (X s : Nat) : X &&& (X / 2 ^ s * 2 ^ s) = X / 2 ^ s * 2 ^ s := by
  apply Nat.eq_of_testBit_eq
  intro i
  rw [Nat.testBit_and, Nat.testBit_mul_two_pow, Nat.testBit_div_two_pow]
  by_cases h : s ≤ i
  · simp [h, Nat.sub_add_cancel h]
  · simp [h]
theorem bitOr_nat (a b : Nat) : Builtin.bitOr (a : Int) (b : Int) = ((a ||| b : Nat) : Int) := by
  unfold Builtin.bitOr Builtin.bitAnd Builtin.bitNot
  have h1 : decide (0 ≤ -(a : Int) - 1) = false := by rw [decide_eq_false_iff_not]; omega
  have h2 : decide (0 ≤ -(b : Int) - 1) = false := by rw [decide_eq_false_iff_not]; omega
  rw [h1, h2]
  dsimp only
  have e1 : (-(-(a : Int) - 1) - 1).toNat = a := by omega
  have e2 : (-(-(b : Int) - 1) - 1).toNat = b := by omega
  rw [e1, e2]; omega
theorem bitAnd_nat (a b : Nat) : Builtin.bitAnd (a : Int) (b : Int) = ((a &&& b : Nat) : Int) := rfl
theorem xor_low (X s : Nat) : Builtin.bitXor (X : Int) (((X / 2 ^ s : Nat) : Int) * 2 ^ (Int.toNat (s : Int))) = ((X % 2 ^ s : Nat) : Int) := by
  rw [Int.toNat_natCast]
  have e : (((X / 2 ^ s : Nat) : Int) * 2 ^ s) = ((X / 2 ^ s * 2 ^ s : Nat) : Int) := by
    rw [Int.natCast_mul, Int.natCast_pow]; rfl
  rw [e]
  show Builtin.bitOr (X : Int) _ - Builtin.bitAnd (X : Int) _ = _
  rw [bitOr_nat, bitAnd_nat, nat_lor_high, nat_land_high]
  have := Nat.div_add_mod X (2 ^ s)
  rw [Nat.mul_comm] at this
  omega
theorem intBits_lt {X k : Nat} (h : X < 2 ^ k) : Builtin.Int.intBits (X : Int) ≤ k := by
  unfold Builtin.Int.intBits
  split
  · omega
  · rename_i h0
    have h0' : X ≠ 0 := fun e => h0 (by subst e; rfl)
    have := (Nat.log2_lt h0').2 h
    show X.log2 + 1 ≤ k
    omega
theorem shl_room {X k s : Nat} (h : X < 2 ^ k) (h2 : k + s ≤ 1000000) : (Builtin.Int.intBits (X : Int) : Int) + (s : Int) ≤ 2 ^ 27 := by
  have := intBits_lt h
  have e : (2 : Int) ^ 27 = 134217728 := by decide
  rw [e]; omega
theorem dig_low (X n lo mid i : Nat) (h : i < mid) (hl : lo ≤ i) : (X % 2 ^ (n * (mid - lo))) / 2 ^ (n * (i - lo)) % 2 ^ n = X / 2 ^ (n * (i - lo)) % 2 ^ n := by
  apply Nat.eq_of_testBit_eq
  intro k
  rw [Nat.testBit_mod_two_pow, Nat.testBit_mod_two_pow, Nat.testBit_div_two_pow, Nat.testBit_div_two_pow, Nat.testBit_mod_two_pow]
  by_cases hk : k < n
  · have : k + n * (i - lo) < n * (mid - lo) := by
      have : n * (i - lo) + n ≤ n * (mid - lo) := by
        have := Nat.mul_le_mul_left n (show i - lo + 1 ≤ mid - lo by omega)
        rwa [Nat.mul_add, Nat.mul_one] at this
      omega
    simp [this]
  · simp [hk]
theorem dig_high (X n lo mid i : Nat) (h : mid ≤ i) (hl : lo ≤ mid) : (X / 2 ^ (n * (mid - lo))) / 2 ^ (n * (i - mid)) % 2 ^ n = X / 2 ^ (n * (i - lo)) % 2 ^ n := by
  rw [Nat.div_div_eq_div_mul, ← Nat.pow_add, ← Nat.mul_add, show mid - lo + (i - mid) = i - lo by omega]
theorem div_room {X a b n : Nat} (h : X < 2 ^ (n * (a + b))) : X / 2 ^ (n * a) < 2 ^ (n * b) := by
  rw [Nat.div_lt_iff_lt_mul (Nat.two_pow_pos _), ← Nat.pow_add]
  rwa [Nat.mul_add, Nat.add_comm] at h
end
section
open PySem PySem.W PySem.Calls PyProof.Rows PySem.Spec PyProof.Rows.LCg
noncomputable def SeqAt (h : Heap) (l : Addr) (items : Array Value) : Prop := ∃ o n, h.get? l = some o ∧ o.data = .seq items n
theorem SeqAt.at {h h' : Heap} {l : Addr} {items : Array Value} (x : SeqAt h l items) (k : ∀ o, h.get? l = some o -> h'.get? l = some o) : SeqAt h' l items := let ⟨o, n, e, d⟩ := x; ⟨o, n, k o e, d⟩
theorem SeqAt.of_list {h : Heap} {l : Addr} {items : Array Value} (x : h.IsList l items) : SeqAt h l items := let ⟨o, e, _, n, d⟩ := x; ⟨o, n, e, d⟩
section
variable {prog : Program} {w : World} {A : Around} {E : Value -> Shared -> Prop} {s : Shared}
theorem next_seq_item {it l : Addr} {i : Nat} {items : Array Value} {x : Value} {Q : Option Value -> Shared -> Prop} (hit : s.heap.IsListIter it l i) (hl : SeqAt s.heap l items) (hx : items[i]? = some x)
    (hQ : ∀ h', h'.IsListIter it l (i + 1) -> Heap.SameBut it s.heap h' -> Q (some x) { s with heap := h' }) : wpAny (model prog w) A (pyNext (.ref it)) Q E s := by
  obtain ⟨ol, nl, hol, hdl⟩ := hl
  obtain ⟨oi, hoi, hci, hdi⟩ := id hit
  refine wpAny_bind (wpAny_attempt (wpAny_callSpecial?_slot (name := Zs "__next__") hit.typeIs slot_listiter_next (wpAny_call_entry slot_listiter_next hit.typeIs entry_listiter_next ?_ (args_listiter_next _))))
  refine wpAny_bind (m := field (.ref it) 0) (wpAny_field hoi hdi (x := .ref l) rfl ?_)
  show wpAny _ _ (if (Value.ref l == Value.none) = true then _ else _) _ _ s
  rw [if_neg (show ¬ ((Value.ref l == Value.none) = true) from Bool.false_ne_true)]
  refine wpAny_bind (m := field (.ref it) 1) (wpAny_field hoi hdi (x := .int i 0) rfl ?_)
  refine wpAny_bind (m := seqItems? (.ref l)) (wpAny_seqItems hol hdl ?_)
  simp only [Int.toNat_natCast, hx]
  refine wpAny_bind (wpAny_setField hoi hdi (by simp) (wpAny_pure ⟨x, rfl, wpAny_pure (hQ _ ⟨_, Heap.get?_update_self _ hoi (Obj.isFreed_of_fields (Obj.data_mapFields hdi _)), (Obj.cls_mapFields ..).trans hci, ?_⟩ (Heap.SameBut.update ..))⟩))
  rw [Obj.data_mapFields hdi]; simp [rawInt]
theorem next_seq_end {it l : Addr} {i : Nat} {items : Array Value} {Q : Option Value -> Shared -> Prop} (hh : A.handled = none) (hit : s.heap.IsListIter it l i) (hl : SeqAt s.heap l items) (hx : items[i]? = none)
    (hQ : ∀ h', Heap.ExtBut it s.heap h' -> Q none { s with heap := h' }) : wpAny (model prog w) A (pyNext (.ref it)) Q E s := by
  obtain ⟨ol, nl, hol, hdl⟩ := hl
  obtain ⟨oi, hoi, hci, hdi⟩ := id hit
  refine wpAny_bind (wpAny_attempt (wpAny_callSpecial?_slot (name := Zs "__next__") hit.typeIs slot_listiter_next (wpAny_call_entry slot_listiter_next hit.typeIs entry_listiter_next ?_ (args_listiter_next _))))
  refine wpAny_bind (m := field (.ref it) 0) (wpAny_field hoi hdi (x := .ref l) rfl ?_)
  show wpAny _ _ (if (Value.ref l == Value.none) = true then _ else _) _ _ s
  rw [if_neg (show ¬ ((Value.ref l == Value.none) = true) from Bool.false_ne_true)]
  refine wpAny_bind (m := field (.ref it) 1) (wpAny_field hoi hdi (x := .int i 0) rfl ?_)
  refine wpAny_bind (m := seqItems? (.ref l)) (wpAny_seqItems hol hdl ?_)
  simp only [Int.toNat_natCast, hx]
  refine wpAny_bind (wpAny_rule (wpAny_bind (wpAny_setField hoi hdi (by simp) ?_)))
  refine wpAny_bind (m := newExc (.type "StopIteration") []) ?_
  simp only [newExc, newTuple]
  refine wpAny_bind (wpAny_newObj_type ?_ (by size_fits))
  refine wpAny_bind (m := firstArgMember _ _) (wpAny_of_eq (a := Value.none) (by first | rfl | (simp only [firstArgMember]; rfl)) ?_)
  refine wpAny_newObj_type ?_ (by size_fits)
  simp only [raiseNew]
  refine wpAny_bind (wpAny_handled ?_)
  rw [show A.in1.handled = none from hh]
  refine wpAny_bind (wpAny_pure (wpAny_throw ?_))
  refine wpAny_bind (wpAny_isInstance (T := "StopIteration") (b := true) ⟨_, Heap.get?_push_size _ rfl, rfl⟩ isSubtype_stop ?_)
  exact wpAny_pure (hQ _ (((Heap.SameBut.update ..).extBut.push _).push _))
theorem walks_seq (hh : A.handled = none) (I ax : Addr) (hne : ax ≠ I) (items : Array Value) :
    Walks prog w A I [I, ax] [I] items.size (fun i v => items[i]? = some v) (fun i h => h.IsListIter I ax i ∧ SeqAt h ax items) where
  sub := fun b hb => by rw [Lms.mp hb]; exact .head _
  frame := fun _ _ _ st hk => ⟨st.1.at fun o e => hk I (.head _) o e, st.2.at fun o e => hk ax (.tail _ (.head _)) o e⟩
  item := fun i s Q E hi st hQ => next_seq_item st.1 st.2 (x := items[i]) (by simp [hi]) fun h' hit' hs' =>
    hQ _ h' s.toks (by simp [hi]) ⟨hit', st.2.at fun o e => hs'.extBut ax o hne e⟩ fun b o hb e => hs'.extBut b o (fun h => hb (by simp [h])) e
  done := fun s Q E st hQ => next_seq_end hh st.1 st.2 (by simp) fun h' he' => hQ h' s.toks fun b o hb e => he' b o (fun h => hb (by simp [h])) e
  self := fun _ _ _ _ st hQ => wpAny_pyIter_listiter st.1 hQ
end
inductive CE (h₀ : Heap) (L : Addr) (m : Str -> Option Value) (s₁ : Shared) (I : Addr) (oI : Obj) (C D : Addr) (oD : Obj) (S : List (Addr × Obj) -> Prop) (rest : Value -> List (Addr × Obj) -> Prop) (y : Value) (s₂ : Shared) : Prop
  | mk : ∀ h' tk news' oC mC, (s₂ = { s₁ with heap := h', toks := tk }) -> (NsObj oC mC) -> (Fr h₀ L h' m) -> (News h₀ L h' ((I, oI) :: (C, oC) :: (D, oD) :: news')) -> (Off3 I C D news') -> (S news') -> (rest y news') -> CE h₀ L m s₁ I oI C D oD S rest y s₂
noncomputable def CR (prog : Program) (w : World) (A : Around) (h₀ : Heap) (L : Addr) (m : Str -> Option Value) (env : Env) (target elt : Expr) (ifs : List Expr) (scope : Scope) (cl : List (Str × Addr)) (s : Shared) (S : List (Addr × Obj) -> Prop)
    (Fin : List Value -> List (Addr × Obj) -> Prop) : List Value -> List Value -> List (Addr × Obj) -> Prop
  | [], ys, news => Fin ys news
  | v :: r, ys, news => ∀ I oI C oC D mC h tk (E' : Value -> Shared -> Prop), NsObj oC mC -> Fr h₀ L h m -> News h₀ L h ((I, oI) :: (C, oC) :: (D, lst ys) :: news) -> Off3 I C D news -> ((@Ne Nat I C) ∧ (@Ne Nat I D) ∧ (@Ne Nat C D)) ->
      wpAny (model prog w) A (assign target (compEnvC scope cl C env) v) (fun _ s' =>
        wpAny (model prog w) A (forIn ifs true fun c r => if r = true then do let ok ← isTrue c (compEnvC scope cl C env) (eval c (compEnvC scope cl C env)); pure (ForInStep.yield ok) else pure (ForInStep.yield r)) (fun ok s'' =>
          if ok = true then wpAny (model prog w) A (eval elt (compEnvC scope cl C env)) (CE h₀ L m { s with heap := h, toks := tk } I oI C D (lst ys) S (fun y news' => CR prog w A h₀ L m env target elt ifs scope cl s S Fin r (ys ++ [y]) news')) E' s''
          else CE h₀ L m { s with heap := h, toks := tk } I oI C D (lst ys) S (fun _ news' => CR prog w A h₀ L m env target elt ifs scope cl s S Fin r ys news') Value.none s'') E' s') E' { s with heap := h, toks := tk }
inductive BlkI (h₀ : Heap) (L : Addr) (m : Str -> Option Value) (s₂ : Shared) (C D : Addr) (nn : Nat) (S : List (Addr × Obj) -> Prop) (St : Nat -> Heap -> Prop) (J : Nat -> List Value -> List (Addr × Obj) -> Prop) (I k : Nat) (s' : Shared) : Prop
  | mk : ∀ h' tk i ys m' news', s' = { s₂ with heap := h', toks := tk } -> i ≤ nn -> k = nn + 1 - i -> ys.length ≤ i -> St i h' -> Fr h₀ L h' m -> h'.Ns C m' -> News h₀ L h' ((D, lst ys) :: news') -> Off3 I C D news' -> S news' -> J i ys news' -> BlkI h₀ L m s₂ C D nn S St J I k s'
section
variable {prog : Program} {w : World} {A : Around} {E : Value -> Shared -> Prop} {R : Result -> Shared -> Prop} {s : Shared} {h₀ : Heap} {L : Addr} {m : Str -> Option Value} {env : Env}
theorem compLoop_any {elt target iter : Expr} {ifs : List Expr} {scope : Scope} {pos : Pos} {it acc : Value} {env : Env} (I : Nat -> Shared -> Prop)
    (turn : ∀ n s, I n s -> wpAny (model prog w) A (pyNext it) (fun r s₁ => match r with
      | none => R (.ok .next) s₁
      | some v => wpAny (model prog w) A (letOwnedTupleGo target it v) (fun _ s₀ => wpAny (model prog w) A (assign target env v) (fun _ s₂ =>
          wpAny (model prog w) A (forIn ifs true fun c r => if r = true then do let ok ← isTrue c env (eval c env); pure (ForInStep.yield ok) else pure (ForInStep.yield r)) (fun ok s₃ =>
            if ok = true then wpAny (model prog w) A (eval elt env) (fun x s₄ =>
              wpAny (model prog w) A (call (.builtin "list.append") [acc, x]) (fun _ s₅ => ∃ m, m < n ∧ I m s₅) (notedBy (model prog w) A env fun e s' => R (.error e) s') s₄) (notedBy (model prog w) A env fun e s' => R (.error e) s') s₃
            else ∃ m, m < n ∧ I m s₃) (notedBy (model prog w) A env fun e s' => R (.error e) s') s₂) (notedBy (model prog w) A env fun e s' => R (.error e) s') s₀) (notedBy (model prog w) A env fun e s' => R (.error e) s') s₁) (notedBy (model prog w) A env fun e s' => R (.error e) s') s)
    (n : Nat) (h : I n s) : codeAny (model prog w) A (.compLoop (.ListComp elt [⟨target, iter, ifs, 0⟩] scope pos) 0 it acc env) R s := by
  refine codeAny_loop rfl I (fun n s hI => ?_) n h
  show wpAny _ A ((compTurn (.ListComp elt [⟨target, iter, ifs, 0⟩] scope pos) 0 it acc env).onRaise (fun x => do noteFrame x env; theTreesLotGoes x)) _ _ s
  refine wpAny_noted ?_
  rw [compTurn_list]
  refine wpAny_bind (wpAny_standAt (wpAny_bind (wpAny_mono (turn n s hI) (fun r s₁ h₁ => ?_) fun _ _ h' => h')))
  cases r with
  | none => exact wpAny_pure h₁
  | some v =>
    refine wpAny_bind (wpAny_mono h₁ (fun _ s₀ h₀ => wpAny_bind (wpAny_mono h₀ (fun _ s₂ h₂ => wpAny_bind (wpAny_mono h₂ (fun ok s₃ h₃ => ?_) fun _ _ h' => h')) fun _ _ h' => h')) fun _ _ h' => h')
    cases ok with
    | false => exact wpAny_pure ⟨rfl, h₃⟩
    | true => exact wpAny_bind (wpAny_bind (wpAny_mono h₃ (fun x s₄ h₄ => wpAny_bind (wpAny_mono h₄ (fun _ s₅ h₅ => wpAny_pure (wpAny_pure ⟨rfl, h₅⟩)) fun _ _ h' => h')) fun _ _ h' => h'))
theorem own_blockJ {elt target iter : Expr} {ifs : List Expr} {scope : Scope} {cl : List (Str × Addr)} {pos : Pos} {s₂ : Shared} {I : Addr} {fp : List Addr} {nn : Nat} {P : Nat -> Value -> Prop} {S : List (Addr × Obj) -> Prop} {St : Nat -> Heap -> Prop} {news : List (Addr × Obj)} {J : Nat -> List Value -> List (Addr × Obj) -> Prop} {RR : Value -> Addr -> Result -> Shared -> Prop}
    (W : Walks prog w A I fp [I] nn P St) (hgo : ∀ i v (s : Shared) (Q : Unit -> Shared -> Prop) (E : Value -> Shared -> Prop), St i s.heap -> Q () s -> wpAny (model prog w) A (letOwnedTupleGo target (.ref I) v) Q E s)
    (hsz : nn ≤ sizeLine) (hIo : ∀ i h, St i h -> ∃ o, h.get? I = some o)
    (hSt : ∀ i h h' o nw, St i h -> h.get? I = some o -> h'.get? I = some o -> (∀ b o, h₀.get? b = some o -> h'.get? b = some o) -> News h₀ L h' nw -> S nw -> St i h')
    (hcell : ∀ y ∈ scope.names, y.2 ≠ .cell) (hkind : scope.kind = .function) (hst : St 0 s₂.heap) (hfp : ∀ b ∈ fp, b < s₂.heap.objs.size)
    (F : Fr h₀ L s₂.heap m) (N : News h₀ L s₂.heap news) (hIL : L ≠ I) (hI₀ : h₀.get? I = none) (off : ∀ p ∈ news, p.1 ≠ I)
    (hS : S news) (R : J 0 [] news) (turn : ∀ i v ys news, i < nn -> P i v -> J i ys news -> ∀ I oI C oC D mC h tk (E' : Value -> Shared -> Prop), NsObj oC mC -> Fr h₀ L h m -> News h₀ L h ((I, oI) :: (C, oC) :: (D, lst ys) :: news) -> Off3 I C D news -> ((@Ne Nat I C) ∧ (@Ne Nat I D) ∧ (@Ne Nat C D)) ->
      wpAny (model prog w) A (assign target (compEnvC scope cl C env) v) (fun _ s' =>
        wpAny (model prog w) A (forIn ifs true fun c r => if r = true then do let ok ← isTrue c (compEnvC scope cl C env) (eval c (compEnvC scope cl C env)); pure (ForInStep.yield ok) else pure (ForInStep.yield r)) (fun ok s'' =>
          if ok = true then wpAny (model prog w) A (eval elt (compEnvC scope cl C env)) (CE h₀ L m { s₂ with heap := h, toks := tk } I oI C D (lst ys) S (fun y news' => J (i + 1) (ys ++ [y]) news')) E' s''
          else CE h₀ L m { s₂ with heap := h, toks := tk } I oI C D (lst ys) S (fun _ news' => J (i + 1) ys news') Value.none s'') E' s') E' { s₂ with heap := h, toks := tk })
    (hRR : ∀ D C h tk m' ys news', Fr h₀ L h m -> News h₀ L h ((D, lst ys) :: news') -> (∀ p ∈ news', p.1 ≠ D) -> h.Ns C m' -> h₀.get? C = none -> h₀.get? D = none -> C ≠ L -> D ≠ L -> C ≠ D -> (∀ p ∈ news', p.1 ≠ C) -> J nn ys news' -> RR (.ref D) C (.ok .next) { s₂ with heap := h, toks := tk }) :
    wpAny (model prog w) A (newList []) (fun acc s₃ => wpAny (model prog w) A (newFunctionEnv scope env.globals cl [] env.qual none .none (some env)) (fun cenv s₄ =>
      codeAny (model prog w) A (.compStart (.ListComp elt [⟨target, iter, ifs, 0⟩] scope pos) 0 (.ref I) acc { cenv with scope := relabel scope env }) (RR acc cenv.locals) s₄) E s₃) E s₂ := by
  refine wpAny_newObj_type (wpAny_newFunctionEnv hcell (by intro y hy; simp at hy) (fun h₁ hns₁ hsb₁ => ?_) hkind)
  dsimp only at hns₁ hsb₁ ⊢
  obtain ⟨H, hH⟩ : ∃ H, H = s₂.heap.push { cls := .type "list", dict := none, data := .seq ([] : List Value).toArray } := ⟨_, rfl⟩
  rw [← hH] at hns₁ hsb₁ ⊢
  obtain ⟨D, hDd⟩ : ∃ D, D = s₂.heap.objs.size := ⟨_, rfl⟩
  obtain ⟨C, hCd⟩ : ∃ C, C = H.objs.size := ⟨_, rfl⟩
  rw [← hDd]; rw [← hCd] at hns₁ hsb₁ ⊢
  have hCs : C = D + 1 := by rw [hCd, hH, Heap.size_push, hDd]
  have hDC : D ≠ C := by rw [hCs]; exact Nnl (Nls _)
  have small : ∀ b, b < s₂.heap.objs.size -> b ≠ C ∧ b ≠ D := fun b hb => by rw [← hDd] at hb; rw [hCs]; exact ⟨Nnl (Nat.lt_succ_of_lt hb), Nnl hb⟩
  have big : ∀ a, D ≤ a -> h₀.get? a = none := fun a ha => by
    cases e : h₀.get? a with
    | none => rfl
    | some o' => exact absurd (Hls (F.keep a o' e)) (Nat.not_lt.mpr (hDd ▸ ha))
  have hD₀ := big D (Nat.le_refl _)
  have hC₀ := big C (by rw [hCs]; exact Nat.le_succ _)
  have hDf : D ∉ fp := fun hm => (small _ (hfp _ hm)).2 rfl
  have hCf : C ∉ fp := fun hm => (small _ (hfp _ hm)).1 rfl
  have hIs := small I (hfp I (W.sub I (Lms.mpr rfl)))
  have hLs := small L F.ns.lt
  have up : ∀ b o, s₂.heap.get? b = some o -> h₁.get? b = some o := fun b o e => hsb₁.extBut b o (small b (Hls e)).1 (Heap.get?_push_of_some _ (hH ▸ Heap.get?_push_of_some _ e))
  have hacc : h₁.get? D = some (lst []) := hsb₁.extBut _ _ hDC (Heap.get?_push_of_some _ (hH ▸ hDd ▸ Heap.get?_push_size _ rfl))
  have hst₁ : St 0 h₁ := W.frame _ _ _ hst fun b _ o e => up b o e
  have off₀ : Off3 I C D news := Off3.of fun p hp => ⟨off p hp, (small _ (Hls (N p hp).1)).1, (small _ (Hls (N p hp).1)).2⟩
  have loop : ∀ s₃ : Shared, s₃ = { s₂ with heap := h₁, toks := s₂.toks + ([] : List (Str × Value)).length } ->
      codeAny (model prog w) A (.compLoop (.ListComp elt [⟨target, iter, ifs, 0⟩] scope pos) 0 (.ref I) (.ref D) (compEnvC scope cl C env)) (RR (.ref D) C) s₃ := by
    rintro s₃ rfl
    refine compLoop_any
      (BlkI h₀ L m s₂ C D nn S St J I) ?_ (nn + 1)
      ⟨h₁, _, 0, [], _, news, rfl, Nat.zero_le _, rfl, Nat.le_refl _, hst₁, F.keeps up, hns₁, ?_, off₀, hS, R⟩
    · rintro k s' ⟨h', tk, i, ys, m', news', rfl, hi, rfl, hyl, hst', F', hn', N', off', hS', R'⟩
      have o3 := off'.mem
      by_cases hlt : i < nn
      · refine W.item i _ _ _ hlt hst' fun v h₂ tk₂ hPv hst₂ hk₂ => ?_
        refine hgo (i + 1) v _ _ _ hst₂ ?_
        refine hide fun G kG => ?_
        have hn₂ : h₂.Ns C m' := hn'.at' fun o e => hk₂ _ o (by simpa using Ne.symm hIs.1) e
        obtain ⟨oI, heI⟩ := hIo _ _ hst₂
        obtain ⟨oC, heC, hoC⟩ := ns_obj hn₂
        have F₂ : Fr h₀ L h₂ m := fr_but F' hk₂ hIL hI₀
        have N₂ : News h₀ L h₂ ((I, oI) :: (C, oC) :: (D, lst ys) :: news') := fun p hp => by
          refine faCons ⟨heI, Ne.symm hIL, hI₀⟩ (faCons ⟨heC, Ne.symm hLs.1, hC₀⟩ (news_but N' hk₂ (faCons (Ne.symm hIs.2) fun p hp => (o3 p hp).1))) p hp
        refine kG ?_
        refine wpAny_mono (turn i v ys news' hlt hPv R' I oI C oC D m' h₂ _ _ hoC F₂ N₂ off' ⟨hIs.1, hIs.2, Ne.symm hDC⟩) (fun _ s₃ q => wpAny_mono q (fun ok s₄ h₄ => ?_) fun _ _ e => e) fun _ _ e => e
        cases ok with
        | true =>
          simp only [if_true] at h₄ ⊢
          refine wpAny_mono h₄ (fun y s₅ h₅ => ?_) fun _ _ e => e
          refine hide fun G2 kG2 => ?_
          obtain ⟨h₄, tk₄, news₄, oC₄, mC₄, e₄, hoC₄, F₄, N₄, off₄, hS₄, R₄⟩ := h₅
          refine kG2 ?_
          rw [e₄]
          have zI := (N₄ (I, oI) (.head _)).1
          have zC := (N₄ (C, oC₄) (.tail _ (.head _))).1
          have zD := (N₄ (D, lst ys) (.tail _ (.tail _ (.head _)))).1
          have N₄' : News h₀ L h₄ news₄ := fun p hp => N₄ p (.tail _ (.tail _ (.tail _ hp)))
          have hst₄ : St (i + 1) h₄ := hSt _ _ _ _ _ hst₂ heI zI F₄.keep N₄' hS₄
          have o4 := off₄.mem
          refine append_at (s := { s₂ with heap := h₄, toks := tk₄ }) (hsz := by show ys.toArray.size ≤ sizeLine; rw [Lst]; exact Nlt (Nlt hyl hi) hsz) zD fun h₅ hs₅ hD₅ => ?_
          refine ⟨nn + 1 - (i + 1), by omega, h₅, tk₄, i + 1, ys ++ [y], _, news₄, rfl, hlt, rfl, by rw [Lla, List.length_singleton]; exact Nat.succ_le_succ hyl, W.frame _ _ _ hst₄ fun b hb o e => hs₅.extBut b o (fun q => hDf (q ▸ hb)) e, F₄.change hs₅ (Ne.symm hLs.2) hD₀,
            (hoC₄.ns zC).sameBut hs₅ (Ne.symm hDC), ?_, off₄, hS₄, R₄⟩
          exact faCons ⟨hD₅.trans (congrArg some (lst_snoc ys y)), Ne.symm hLs.2, hD₀⟩ (fun p hp => ⟨hs₅.extBut _ _ (o4 p hp).2.2 (N₄' p hp).1, (N₄' p hp).2⟩)
        | false =>
          simp only [Bool.false_eq_true, if_false] at h₄ ⊢
          obtain ⟨h₅, tk₄, news₄, oC₄, mC₄, rfl, hoC₄, F₄, N₄, off₄, hS₄, R₄⟩ := h₄
          have zI := (N₄ (I, oI) (.head _)).1
          have zC := (N₄ (C, oC₄) (.tail _ (.head _))).1
          have N₄' : News h₀ L h₅ ((D, lst ys) :: news₄) := fun p hp => N₄ p (.tail _ (.tail _ hp))
          exact ⟨nn + 1 - (i + 1), by omega, h₅, tk₄, i + 1, ys, _, news₄, rfl, hlt, rfl, Nat.le_succ_of_le hyl, hSt _ _ _ _ _ hst₂ heI zI F₄.keep (fun p hp => N₄' p (.tail _ hp)) hS₄, F₄, hoC₄.ns zC, N₄', off₄, hS₄, R₄⟩
      · obtain rfl : i = nn := Nat.le_antisymm hi (Nat.not_lt.mp hlt)
        refine W.done _ _ _ hst' fun h₂ tk₂ hk₂ => ?_
        exact hRR D C h₂ tk₂ _ ys news' (fr_but F' hk₂ hIL hI₀) (news_but N' hk₂ (faCons (Ne.symm hIs.2) fun p hp => (o3 p hp).1)) (fun p hp => (o3 p hp).2.2) (hn'.at' fun o e => hk₂ _ o (by simpa using Ne.symm hIs.1) e) hC₀ hD₀ (Ne.symm hLs.1) (Ne.symm hLs.2) (Ne.symm hDC) (fun p hp => (o3 p hp).2.1) R'
    · exact faCons ⟨hacc, Ne.symm hLs.2, hD₀⟩ (fun p hp => ⟨up _ _ (N p hp).1, (N p hp).2⟩)
  exact codeAny_compStart_list (loop _ rfl) (W.self 0 _ _ _ hst₁ (loop _ rfl))
theorem own_block {elt target iter : Expr} {ifs : List Expr} {scope : Scope} {cl : List (Str × Addr)} {pos : Pos} {s₂ : Shared} {I : Addr} {fp : List Addr} {xs : List Value} {St : Nat -> Heap -> Prop} {S : List (Addr × Obj) -> Prop} {news : List (Addr × Obj)}
    {Fin : List Value -> List (Addr × Obj) -> Prop} {RR : Value -> Addr -> Result -> Shared -> Prop}
    (W : Walks prog w A I fp [I] xs.length (fun i v => xs[i]? = some v) St) (hgo : ∀ i v (s : Shared) (Q : Unit -> Shared -> Prop) (E : Value -> Shared -> Prop), St i s.heap -> Q () s -> wpAny (model prog w) A (letOwnedTupleGo target (.ref I) v) Q E s)
    (hsz : xs.length ≤ sizeLine) (hIo : ∀ i h, St i h -> ∃ o, h.get? I = some o)
    (hSt : ∀ i h h' o nw, St i h -> h.get? I = some o -> h'.get? I = some o -> (∀ b o, h₀.get? b = some o -> h'.get? b = some o) -> News h₀ L h' nw -> S nw -> St i h')
    (hcell : ∀ y ∈ scope.names, y.2 ≠ .cell) (hkind : scope.kind = .function) (hst : St 0 s₂.heap) (hfp : ∀ b ∈ fp, b < s₂.heap.objs.size)
    (F : Fr h₀ L s₂.heap m) (N : News h₀ L s₂.heap news) (hIL : L ≠ I) (hI₀ : h₀.get? I = none) (off : ∀ p ∈ news, p.1 ≠ I) (hS : S news)
    (R : CR prog w A h₀ L m env target elt ifs scope cl s₂ S Fin xs [] news)
    (hRR : ∀ D C h tk m' ys news', Fr h₀ L h m -> News h₀ L h ((D, lst ys) :: news') -> (∀ p ∈ news', p.1 ≠ D) -> h.Ns C m' -> h₀.get? C = none -> h₀.get? D = none -> C ≠ L -> D ≠ L -> C ≠ D -> (∀ p ∈ news', p.1 ≠ C) -> Fin ys news' -> RR (.ref D) C (.ok .next) { s₂ with heap := h, toks := tk }) :
    wpAny (model prog w) A (newList []) (fun acc s₃ => wpAny (model prog w) A (newFunctionEnv scope env.globals cl [] env.qual none .none (some env)) (fun cenv s₄ =>
      codeAny (model prog w) A (.compStart (.ListComp elt [⟨target, iter, ifs, 0⟩] scope pos) 0 (.ref I) acc { cenv with scope := relabel scope env }) (RR acc cenv.locals) s₄) E s₃) E s₂ :=
  own_blockJ (S := S) (nn := xs.length) (P := fun i v => xs[i]? = some v) (J := fun i ys news => CR prog w A h₀ L m env target elt ifs scope cl s₂ S Fin (xs.drop i) ys news) W hgo hsz hIo hSt hcell hkind hst hfp F N hIL hI₀ off hS R
    (fun i v ys news hi hP hJ I oI C oC D mC h tk E' q1 q2 q3 q4 q5 => by
      have hd : xs.drop i = v :: xs.drop (i + 1) := by
        rw [List.drop_eq_getElem_cons hi]
        rw [List.getElem?_eq_getElem hi] at hP
        rw [Option.some.inj hP]
      rw [hd] at hJ
      exact hJ I oI C oC D mC h tk E' q1 q2 q3 q4 q5)
    (fun D C h tk m' ys news' a b c d e f g i j k hJ => hRR D C h tk m' ys news' a b c d e f g i j k (by rw [List.drop_length] at hJ; exact hJ))
noncomputable def SrcO (h₀ : Heap) (ax : Addr) (its : Array Value) (news : List (Addr × Obj)) : Prop := SeqAt h₀ ax its ∨ ∃ o n, (ax, o) ∈ news ∧ o.data = .seq its n
theorem SrcO.seq {h : Heap} {ax : Addr} {its : Array Value} {news : List (Addr × Obj)} (x : SrcO h₀ ax its news) (k : ∀ b o, h₀.get? b = some o -> h.get? b = some o) (N : News h₀ L h news) : SeqAt h ax its := by
  rcases x with ⟨o, n, e, r⟩ | ⟨o, n, hm, r⟩
  · exact ⟨o, n, k _ _ e, r⟩
  · exact ⟨o, n, (N _ hm).1, r⟩
inductive CompPost (prog : Program) (w : World) (A : Around) (E : Value -> Shared -> Prop) (h₀ : Heap) (L : Addr) (m : Str -> Option Value) (env : Env) (target elt : Expr) (ifs : List Expr) (scope : Scope) (cl : List (Str × Addr)) (Q : Value -> Shared -> Prop) (xv : Value) (s₁ : Shared) : Prop
  | mk : ∀ ax its news Fin, xv = .ref ax -> A.handled = none -> Fr h₀ L s₁.heap m -> News h₀ L s₁.heap news -> SrcO h₀ ax its.toArray news -> its.length ≤ sizeLine ->
      (∀ {Q' : Value -> Shared -> Prop}, Q' (.ref s₁.heap.objs.size) { s₁ with heap := s₁.heap.push { cls := .type "list_iterator", data := .fields #[.ref ax, .int 0 0] } } -> wpAny (model prog w) A (pyIter (.ref ax)) Q' E s₁) ->
      (∀ g, CR prog w A h₀ L m env target elt ifs scope cl { s₁ with heap := g } (SrcO h₀ ax its.toArray) Fin its [] news) ->
      (∀ ys news' D h tk, Fin ys news' -> Fr h₀ L h m -> News h₀ L h ((D, lst ys) :: news') -> (∀ p ∈ news', p.1 ≠ D) -> Q (.ref D) { s₁ with heap := h, toks := tk }) -> CompPost prog w A E h₀ L m env target elt ifs scope cl Q xv s₁
theorem own_comp {elt target iter : Expr} {ifs : List Expr} {scope : Scope} {cl : List (Str × Addr)} {pos : Pos} {Q : Value -> Shared -> Prop}
    (hclos : closureFor scope env = pure cl) (hcell : ∀ y ∈ scope.names, y.2 ≠ .cell) (hkind : scope.kind = .function)
    (hnames : ∀ y ∈ scope.names, y.2 = .local -> scope.names.lookup y.1 = some .local)
    (h : wpAny (model prog w) A (eval iter env) (CompPost prog w A E h₀ L m env target elt ifs scope cl Q) E s)
    (hs : ∀ x, foldedSetIterable iter env x = pure x) :
    wpAny (model prog w) A (eval (.ListComp elt [⟨target, iter, ifs, 0⟩] scope pos) env) Q E s := by
  rw [eval_ListComp]
  refine wpAny_comprehension_free (use := none) rfl hs hclos hkind hnames (wpAny_mono h (fun xv s₁ h₁ => ?_) fun _ _ e => e)
  refine hide fun GG kG => ?_
  obtain ⟨ax, its, news, Fin, rfl, hh, F, N, S, hsz, hit, R, hF⟩ := h₁
  refine kG ?_
  refine hit ?_
  have up : ∀ b o, s₁.heap.get? b = some o -> (s₁.heap.push { cls := .type "list_iterator", data := .fields #[.ref ax, .int 0 0] }).get? b = some o := fun b o e => Heap.get?_push_of_some _ e
  have hl := S.seq F.keep N
  have hlt : ax < s₁.heap.objs.size := by obtain ⟨_, _, e, _⟩ := hl; exact Hls e
  have W := walks_seq (prog := prog) (w := w) hh s₁.heap.objs.size ax (Nnl hlt) its.toArray
  rw [Lst] at W
  refine own_block (xs := its) (fp := [s₁.heap.objs.size, ax]) (St := fun i h => h.IsListIter s₁.heap.objs.size ax i ∧ SeqAt h ax its.toArray) (S := SrcO h₀ ax its.toArray) (Fin := Fin) (by simpa using W) (fun i v s Q E st q => letGo_listiter st.1 q) hsz (fun i h st => by obtain ⟨o, e, _⟩ := st.1; exact ⟨o, e⟩)
    (fun i h h' o nw st e e' k N S => ⟨by obtain ⟨o', q, r⟩ := st.1; rw [e] at q; cases q; exact ⟨o, e', r⟩, S.seq k N⟩) hcell hkind ⟨⟨_, Heap.get?_push_size _ rfl, rfl, rfl⟩, hl.at fun o e => up _ o e⟩ (fun b hb => ?_)
    (F.keeps up) (N.grown up) (Nnl F.ns.lt) (next_is_new F) (fun p hp => Nnl (Hls (N p hp).1)) S (R _) ?_
  · show b < (s₁.heap.push _).objs.size
    rw [Heap.size_push]
    exact faCons (P := fun b => b < s₁.heap.objs.size + 1) (Nls _) (faCons (Nat.lt_succ_of_lt hlt) faNil) b hb
  · intro D C h tk m' ys news' F' N' o1 hn hC₀ hD₀ hCL hDL hCD offC fin
    refine ⟨m', hn, fun h'' hs'' => hF ys news' D h'' tk fin (F'.change hs'' hCL hC₀) (fun p hp => ⟨hs''.extBut _ _ (faCons (P := fun p => p.1 ≠ C) (Ne.symm hCD) offC p hp) (N' p hp).1, (N' p hp).2⟩) o1⟩
noncomputable def updL : List Str -> List Value -> (Str -> Option Value) -> Str -> Option Value
  | x :: xs, v :: vs, m => updL xs vs (fun z => if z = x then some v else m z)
  | _, _, m => m
theorem asg_names {cenv : Env} (hp : (cenv.scope.kind == .class || (cenv.scope.kind == .module && cenv.locals != cenv.globals)) = false) (ns : List (Str × Pos)) : ∀ (vs : List Value) {s : Shared} {mC : Str -> Option Value} {Q : Unit -> Shared -> Prop},
    ns.length = vs.length -> (∀ n ∈ ns, cenv.kindOf n.1 = some .local) -> s.heap.Ns cenv.locals mC ->
    (∀ h' tk, h'.Ns cenv.locals (updL (ns.map (·.1)) vs mC) -> (∀ c o, c ≠ cenv.locals -> s.heap.get? c = some o -> h'.get? c = some o) -> Q () { s with heap := h', toks := tk }) ->
    wpAny (model prog w) A (assignInOrder (ns.map fun n => assign (.Name n.1 n.2) cenv) vs) Q E s := by
  induction ns with
  | nil =>
    intro vs s mC Q hl _ hn h
    cases vs with
    | cons _ _ => cases hl
    | nil =>
      rw [List.map_nil]
      exact assignInOrder_nil (h s.heap s.toks hn fun _ _ _ e => e)
  | cons n ns ih =>
    intro vs s mC Q hl hk hn h
    cases vs with
    | nil => cases hl
    | cons v vs =>
      rw [Lpc]
      refine assignInOrder_cons ?_
      refine wpAny_assign_Name (wpAny_storeName_local (hk n (.head _)) hn (fun h₂ hn₂ hs₂ => ?_) hp)
      refine ih vs (Nat.succ.inj hl) (fun n' hn' => hk n' (.tail _ hn')) hn₂ fun h' tk hn' k => ?_
      exact h h' tk hn' fun c o hc e => k c o hc (hs₂.extBut c o hc e)
theorem asg_block {elts : List Expr} {ns : List (Str × Pos)} {kk : Nat} {tp : Pos} {T : Addr} {vs : List Value} {scope : Scope} {cl : List (Str × Addr)} {I C D : Addr} {oI oC oD : Obj} {mC : Str -> Option Value} {news : List (Addr × Obj)} {Q : Unit -> Shared -> Prop}
    (hh : A.handled = none) (hE : elts = ns.map fun n => Expr.Name n.1 n.2) (hkind : scope.kind = .function) (hloc : ∀ n ∈ ns, scope.names.lookup n.1 = some .local) (hl : ns.length = vs.length)
    (F : Fr h₀ L s.heap m) (N : News h₀ L s.heap ((I, oI) :: (C, oC) :: (D, oD) :: news)) (hC : NsObj oC mC) (off : Off3 I C D news) (ne : (@Ne Nat I C) ∧ (@Ne Nat I D) ∧ (@Ne Nat C D)) (hT : (T, tupOf vs) ∈ news)
    (h : ∀ h' tk oC', NsObj oC' (updL (ns.map (·.1)) vs mC) -> Fr h₀ L h' m -> News h₀ L h' ((I, oI) :: (C, oC') :: (D, oD) :: news) -> Q () { s with heap := h', toks := tk }) :
    wpAny (model prog w) A (assign (.Tuple elts kk tp) (compEnvC scope cl C env) (.ref T)) Q E s := by
  subst hE
  have zC := N (C, oC) (.tail _ (.head _))
  have hn : s.heap.Ns C mC := hC.ns zC.1
  have zT := N (T, tupOf vs) (.tail _ (.tail _ (.tail _ hT)))
  have ht : s.heap.IsTuple T vs.toArray := ⟨_, zT.1, rfl, _, rfl⟩
  have e1 : ∀ l : List (Str × Pos), assignEach (l.map fun n => Expr.Name n.1 n.2) (compEnvC scope cl C env) = l.map fun n => (false, assign (.Name n.1 n.2) (compEnvC scope cl C env)) := fun l => by
    induction l with
    | nil => rfl
    | cons n l ih => simp only [Lpc, assignEach, ih]
  have e3 : ∀ l : List (Str × Pos), (l.map fun n => (false, assign (.Name n.1 n.2) (compEnvC scope cl C env))).map (·.2) = l.map fun n => assign (.Name n.1 n.2) (compEnvC scope cl C env) := fun l => by
    induction l with
    | nil => rfl
    | cons n l ih => simp only [Lpc, ih]
  have e2 : ∀ l : List (Str × Pos), (l.map fun n => (false, assign (.Name n.1 n.2) (compEnvC scope cl C env))).findIdx? (·.1) = none := fun l => by
    rw [List.findIdx?_eq_none_iff]
    intro x hx
    obtain ⟨n, _, rfl⟩ := Lmm.mp hx
    rfl
  refine wpAny_assign_Tuple hh ht (by rw [e1]; simpa using hl) (by rw [e1]; exact e2 _) fun h₁ he₁ => ?_
  rw [e1, e3]
  have hLlt := F.ns.lt
  have up : ∀ c o, s.heap.get? c = some o -> h₁.get? c = some o := fun c o e => he₁ c o (Nnl (Hls e)) e
  refine asg_names (s := { s with heap := h₁ }) (by simp [compEnvC, relabel, hkind]) ns vs hl (fun n hn => lookup_relabel_local (hloc n hn)) (hn.at' fun o e => up _ o e) fun h' tk hn' k => ?_
  obtain ⟨oC', e', hC'⟩ := ns_obj hn'
  have k' : ∀ c o, c ≠ C -> s.heap.get? c = some o -> h'.get? c = some o := fun c o hc e => k c o hc (up c o e)
  refine h h' tk oC' hC' (fr_but F (fun b o hb e => k' b o (by simpa using hb) e) (Ne.symm zC.2.1) zC.2.2) fun p hp => ?_
  rcases Lmc.mp hp with rfl | hp
  · exact ⟨k' _ _ ne.1 (N _ (.head _)).1, (N _ (.head _)).2⟩
  · rcases Lmc.mp hp with rfl | hp
    · exact ⟨e', zC.2⟩
    · have z := N p (.tail _ (.tail _ hp))
      refine ⟨k' _ _ ?_ z.1, z.2⟩
      rcases Lmc.mp hp with rfl | hp
      · exact Ne.symm ne.2.2
      · exact (off.mem p hp).2.1
theorem asg_one {x : Str} {px : Pos} {v : Value} {scope : Scope} {cl : List (Str × Addr)} {I C D : Addr} {oI oC oD : Obj} {mC : Str -> Option Value} {news : List (Addr × Obj)} {Q : Unit -> Shared -> Prop}
    (hkind : scope.kind = .function) (hloc : scope.names.lookup x = some .local)
    (F : Fr h₀ L s.heap m) (N : News h₀ L s.heap ((I, oI) :: (C, oC) :: (D, oD) :: news)) (hC : NsObj oC mC) (off : Off3 I C D news) (ne : (@Ne Nat I C) ∧ (@Ne Nat I D) ∧ (@Ne Nat C D))
    (h : ∀ h' tk oC', NsObj oC' (fun z => if z = x then some v else mC z) -> Fr h₀ L h' m -> News h₀ L h' ((I, oI) :: (C, oC') :: (D, oD) :: news) -> Q () { s with heap := h', toks := tk }) :
    wpAny (model prog w) A (assign (.Name x px) (compEnvC scope cl C env) v) Q E s := by
  have zC := N (C, oC) (.tail _ (.head _))
  have hn : s.heap.Ns C mC := hC.ns zC.1
  refine wpAny_assign_Name (wpAny_storeName_local (lookup_relabel_local hloc) hn (fun h' hn' hs => ?_) (by simp [compEnvC, relabel, hkind]))
  obtain ⟨oC', e', hC'⟩ := ns_obj hn'
  refine h h' _ oC' hC' (F.change hs zC.2.1 zC.2.2) fun p hp => ?_
  rcases Lmc.mp hp with rfl | hp
  · exact ⟨hs.extBut _ _ ne.1 (N _ (.head _)).1, (N _ (.head _)).2⟩
  · rcases Lmc.mp hp with rfl | hp
    · exact ⟨e', zC.2⟩
    · have z := N p (.tail _ (.tail _ hp))
      refine ⟨hs.extBut _ _ ?_ z.1, z.2⟩
      rcases Lmc.mp hp with rfl | hp
      · exact Ne.symm ne.2.2
      · exact (off.mem p hp).2.1
end
end
section
open PySem PySem.W PySem.Calls PyProof.Rows PySem.Spec
noncomputable abbrev accObj (d : Addr) (vs : List Value) (e : Nat) : Obj := ⟨.ref 178, some d, .seq vs.toArray e, #[]⟩
section
variable {prog : Program} {w : World} {A : Around} {E : Value -> Shared -> Prop} {s : Shared} {K : Frag} {x C d : Addr} {ox : Obj} {od : Option Obj} {h₀ : Heap} {L : Addr} {m : Str -> Option Value} {news rest : List (Addr × Obj)} {vs : List Value} {e : Nat}
theorem inst_acc {h : Heap} {o : Obj} (N : News h₀ L h news) (h1 : (x, accObj d vs e) ∈ news) (h2 : (d, o) ∈ news) : InstAt h x (accObj d vs e) 178 (some o) := ⟨(N _ h1).1, rfl, rfl, (N _ h2).1⟩
theorem method_blt {id : String} {name : Str} {pl : Sem Bool} {Q : Value × List Value -> Shared -> Prop} (X : K.In s.heap) (I : InstAt s.heap x ox C od) (hg : plainGet K C name = true)
    (hf : findIn K (.ref C) name = some (some (.builtin id))) (ht : typeOf (.builtin id) = pure (.type "method_descriptor")) (hs : shadowIn od name = some false) (h : Q (.builtin id, [.ref x]) s) :
    wpAny (model prog w) A (getMethod (.ref x) name pl) Q E s := by
  have hcan := PySem.F.canon_object_ga
  unfold getMethod specialOf
  refine wpAny_bind (wpAny_bind (I.type.here ((looks_findIn X (plainGet_of hg).1).here ?_)))
  dsimp only
  rw [hcan, if_neg (by decide)]
  refine wpAny_bind (wpAny_bind (I.type.here ((looks_findIn X (plainGet_of hg).2).here ?_)))
  refine wpAny_bind (wpAny_bind (I.type.here ((looks_findIn X hf).here (wpAny_bind (wpAny_of_eq ht ?_)))))
  rw [if_neg (by decide +kernel)]
  refine wpAny_bind (wpAny_loadPart I.at_ ?_)
  have hd := I.dict
  cases q : ox.dict with
  | none => exact wpAny_bind (wpAny_rule (wpAny_pure h))
  | some dx =>
    cases od with
    | none => rw [q] at hd; exact hd.elim
    | some o =>
      rw [q] at hd
      obtain ⟨r, a, b⟩ := Option.map_eq_some_iff.mp hs
      refine wpAny_bind (wpAny_bind (wpAny_loadPart hd ?_))
      rw [nsLook_of a]
      refine wpAny_pure ?_
      rw [b]
      exact wpAny_bind (wpAny_rule (wpAny_pure h))
theorem acc_check {M : Model} {id owner n : String} {args : List Value} {Q : Unit -> Shared -> Prop} (X : K.In s.heap) (I : InstAt s.heap x ox C od) (hm : mroIn K C (.type owner) = some true)
    (hsplit : splitId id = some (owner, n)) (hkind : (Manifest.find? owner).bind (·.attrs.lookup n) = some .slot ∨ (Manifest.find? owner).bind (·.attrs.lookup n) = some .method)
    (ha : argsOk id ⟨.ref x :: args, []⟩) (hQ : Q () s) : wpAny M A (checkBuiltinCall id ⟨.ref x :: args, []⟩) Q E s := by
  have hk : builtinKind id = (Manifest.find? owner).bind (·.attrs.lookup n) := by simp only [builtinKind, hsplit]
  rcases hkind with h | h <;>
  · simp only [checkBuiltinCall, hk, h, hsplit]
    refine wpAny_bind ?_
    unfold isInstance
    refine wpAny_bind (I.type.here ((looks_mroIn X hm).here ?_))
    simp only [Bool.not_true, Bool.false_eq_true, if_false]
    cases hsig : Manifest.signature? id with
    | none => exact wpAny_pure hQ
    | some sig =>
      have h2 : Bind.checkArgs id sig ⟨.ref x :: args, []⟩ = pure () := by unfold argsOk at ha; rw [hsig] at ha; exact ha
      show wpAny M A (Bind.checkArgs id sig ⟨.ref x :: args, []⟩) Q E s
      rw [h2]; exact wpAny_pure hQ
theorem acc_call {id owner n : String} {b : Builtin} {args : List Value} {Q : Value -> Shared -> Prop} (X : K.In s.heap) (I : InstAt s.heap x ox C od) (hm : mroIn K C (.type owner) = some true)
    (hsplit : splitId id = some (owner, n)) (hkind : (Manifest.find? owner).bind (·.attrs.lookup n) = some .slot ∨ (Manifest.find? owner).bind (·.attrs.lookup n) = some .method) (hp : plainId id = true) (hb : entryFor table id = some b)
    (ha : argsOk id ⟨.ref x :: args, []⟩) (hc : wpAny (model prog w) A.in1 (b ⟨.ref x :: args, []⟩) (fun fin s' => ∃ v, fin = .done (.ret v) ∧ Q v s') E s) :
    wpAny (model prog w) A (call (.builtin id) (.ref x :: args)) Q E s := by
  refine wpAny_call (codeAny_call_builtin hp hb (acc_check X I hm hsplit hkind ha (wpAny_mono hc (fun fin s' h' => ?_) fun _ _ h' => h')))
  obtain ⟨v, rfl, hv⟩ := h'; exact hv
theorem acc_set {h : Heap} {f : Array Value -> Array Value} {us : List Value} (F : Fr h₀ L h m) (N : News h₀ L h ((x, accObj d vs e) :: rest)) (off : ∀ p ∈ rest, p.1 ≠ x) (hf : f vs.toArray = us.toArray) :
    ∃ e', Fr h₀ L (h.update x (Obj.mapSeq f)) m ∧ News h₀ L (h.update x (Obj.mapSeq f)) ((x, accObj d us e') :: rest) := by
  obtain ⟨n', hn⟩ := Obj.data_mapSeq (o := accObj d vs e) (xs := vs.toArray) (n := e) rfl f
  have e1 : (Obj.mapSeq f (accObj d vs e)) = accObj d us n' := by
    rw [hf] at hn
    show (⟨_, _, _, _⟩ : Obj) = _
    simp only [Obj.mapSeq] at hn ⊢
    rw [hn]
  obtain ⟨F', N'⟩ := news_upd (pre := []) F N (fun _ q => nomatch q) off e1 rfl
  exact ⟨n', F', N'⟩
theorem acc_append {v : Value} {Q : Value -> Shared -> Prop} {o : Obj} (F : Fr h₀ L s.heap m) (X₀ : K.In h₀) (N : News h₀ L s.heap ((x, accObj d vs e) :: (d, o) :: rest)) (off : ∀ p ∈ (d, o) :: rest, p.1 ≠ x) (hm : mroIn K 178 (.type "list") = some true) (hsz : vs.length ≤ 10000)
    (h : ∀ h' e', Fr h₀ L h' m -> News h₀ L h' ((x, accObj d (vs ++ [v]) e') :: (d, o) :: rest) -> Q .none { s with heap := h' }) :
    wpAny (model prog w) A (call (.builtin "list.append") [.ref x, v]) Q E s := by
  have I := inst_acc N (.head _) (.tail _ (.head _))
  refine acc_call (X₀.keeps F.keep) I hm (n := "append") (by decide +kernel) (.inr (by decide +kernel)) PySem.F.slot_list_append.plain PySem.F.entry_list_append (PySem.F.args_list_append_2 _ _) ?_
  show wpAny _ _ (updateSeq x (·.push v) >>= fun _ => ret .none) _ _ s
  have hz : vs.toArray.size ≤ sizeLine := by rw [sizeLine_eq, Lst]; omega
  obtain ⟨e', F', N'⟩ := acc_set (f := (·.push v)) (us := vs ++ [v]) F N off (by simp)
  exact wpAny_bind (wpAny_updateSeq (N _ (.head _)).1 rfl (wpAny_pure ⟨_, rfl, h _ e' F' N'⟩) hz (by show (vs.toArray.push v).size ≤ _; rw [Array.size_push]; omega))
theorem acc_pop {v : Value} {us : List Value} {Q : Value -> Shared -> Prop} {o : Obj} (F : Fr h₀ L s.heap m) (X₀ : K.In h₀) (N : News h₀ L s.heap ((x, accObj d vs e) :: (d, o) :: rest)) (off : ∀ p ∈ (d, o) :: rest, p.1 ≠ x) (hm : mroIn K 178 (.type "list") = some true) (hv : vs = us ++ [v]) (hsz : vs.length ≤ 10000)
    (h : ∀ h' e', Fr h₀ L h' m -> News h₀ L h' ((x, accObj d us e') :: (d, o) :: rest) -> Q v { s with heap := h' }) :
    wpAny (model prog w) A (call (.builtin "list.pop") [.ref x]) Q E s := by
  have I := inst_acc N (.head _) (.tail _ (.head _))
  refine acc_call (X₀.keeps F.keep) I hm (n := "pop") (by decide +kernel) (.inr (by decide +kernel)) PySem.F.slot_list_pop.plain PySem.F.entry_list_pop (PySem.F.args_list_pop_1 _) ?_
  have hz : vs.toArray.size ≤ sizeLine := by rw [sizeLine_eq, Lst]; omega
  have hl : vs.length = us.length + 1 := by rw [hv]; simp
  have hi : (seqIndex? (-1) vs.toArray.size).bind (fun k => vs.toArray[k]?.map (k, ·)) = some (us.length, v) := by
    have h1 : seqIndex? (-1) vs.toArray.size = some us.length := by
      unfold seqIndex?
      simp only [Lst, hl]
      have e1 : (if (-1 : Int) < 0 then -1 + ((us.length + 1 : Nat) : Int) else -1) = (us.length : Int) := by rw [if_pos (by decide)]; omega
      rw [e1, if_pos (by simp; omega), Int.toNat_natCast]
    rw [h1, hv]; simp
  have he : vs.toArray.isEmpty = false := by rw [hv]; simp
  obtain ⟨e', F', N'⟩ := acc_set (f := (·.eraseIdxIfInBounds us.length)) (us := us) F N off (by
    rw [hv]
    simp only [Array.eraseIdxIfInBounds, Lst, Lla, List.length_singleton, Nls, dite_true, List.eraseIdx_toArray]
    rw [List.eraseIdx_append_of_length_le (Nat.le_refl _), Nat.sub_self]; simp)
  have zN := (N _ (.head _)).1
  unfold Builtin.«list.pop» selfAndSome noKeywords checkCount
  repeat (first | (with_reducible refine wpAny_listItems zN rfl ?_) | wp_step)
  rw [hi]
  exact wpAny_bind (m := updateSeq x _) (wpAny_updateSeq zN rfl (wpAny_pure ⟨_, rfl, h _ e' F' N'⟩) hz (by
    have : (vs.toArray.eraseIdxIfInBounds us.length).size ≤ vs.toArray.size := by
      unfold Array.eraseIdxIfInBounds
      split
      · rw [Array.size_eraseIdx]; omega
      · exact Nat.le_refl _
    show (vs.toArray.eraseIdxIfInBounds us.length).size ≤ _
    omega))
theorem acc_lenb {Q : Value -> Shared -> Prop} {o : Obj} (F : Fr h₀ L s.heap m) (X₀ : K.In h₀) (N : News h₀ L s.heap ((x, accObj d vs e) :: (d, o) :: rest)) (hm : mroIn K 178 (.type "list") = some true)
    (h : Q (.int (vs.length : Nat) s.toks) { s with toks := s.toks + 1 }) :
    wpAny (model prog w) A (call (.builtin "list.__len__") [.ref x]) Q E s := by
  have I := inst_acc N (.head _) (.tail _ (.head _))
  refine acc_call (X₀.keeps F.keep) I hm (n := "__len__") (by decide +kernel) (.inl (by decide +kernel)) PySem.F.slot_list_len.plain PySem.F.entry_list_len (PySem.F.args_list_len_1 _) ?_
  have zN := (N _ (.head _)).1
  unfold Builtin.«list.__len__» slotArgs seqSize
  repeat (first | (with_reducible refine wpAny_loadPart zN ?_) | wp_step)
  all_goals exact ⟨_, rfl, by rw [Lst]; exact h⟩
theorem acc_initb {Q : Value -> Shared -> Prop} {o : Obj} (F : Fr h₀ L s.heap m) (X₀ : K.In h₀) (N : News h₀ L s.heap ((x, accObj d [] e) :: (d, o) :: rest)) (off : ∀ p ∈ (d, o) :: rest, p.1 ≠ x) (hm : mroIn K 178 (.type "list") = some true)
    (h : ∀ h' e', Fr h₀ L h' m -> News h₀ L h' ((x, accObj d [] e') :: (d, o) :: rest) -> Q .none { s with heap := h' }) :
    wpAny (model prog w) A (call (.builtin "list.__init__") [.ref x]) Q E s := by
  have I := inst_acc N (.head _) (.tail _ (.head _))
  refine acc_call (X₀.keeps F.keep) I hm (n := "__init__") (by decide +kernel) (.inl (by decide +kernel)) PySem.F.slot_list_init.plain PySem.F.entry_list_init (PySem.F.args_list_init_1 _) ?_
  have zN := (N _ (.head _)).1
  obtain ⟨e', F', N'⟩ := acc_set (f := fun _ => #[]) (us := []) F N off rfl
  unfold Builtin.«list.__init__»
  repeat (first | (with_reducible refine wpAny_listItems zN rfl ?_) | wp_step)
  all_goals exact ⟨_, rfl, h _ e' F' N'⟩
theorem acc_iter {Q : Value -> Shared -> Prop} {o : Obj} (F : Fr h₀ L s.heap m) (X₀ : K.In h₀) (N : News h₀ L s.heap news) (h1 : (x, accObj d vs e) ∈ news) (h2 : (d, o) ∈ news) (hm : mroIn K 178 (.type "list") = some true) (hi : findIn K (.ref 178) "__iter__" = some (some (.builtin "list.__iter__")))
    (h : Q (.ref s.heap.objs.size) { s with heap := s.heap.push { cls := .type "list_iterator", data := .fields #[.ref x, .int 0 0] } }) :
    wpAny (model prog w) A (pyIter (.ref x)) Q E s := by
  have I := inst_acc N h1 h2
  have X := X₀.keeps F.keep
  unfold pyIter specialOf
  refine wpAny_bind (wpAny_bind (I.type.here ((looks_findIn X hi).here ?_)))
  show wpAny _ A (callSpecialIfBoundUnlessNone? (.ref x) "__iter__" _ >>= _) _ _ _
  have hb := slot_list_iter.bind (.ref x)
  simp only [callSpecialIfBoundUnlessNone?, bindSpecialIfBound?, specialOf]
  refine wpAny_bind (wpAny_holding (wpAny_bind (wpAny_bind (wpAny_bind (I.type.here ((looks_findIn X hi).here ?_))))))
  simp only [hb]
  refine wpAny_bind (wpAny_askSetting (wpAny_ite ?_))
  have fin : ∀ {β : Sem Value} {Q2 : Option Value -> Shared -> Prop}, Q2 (some (.ref s.heap.objs.size)) { s with heap := s.heap.push { cls := .type "list_iterator", data := .fields #[.ref x, .int 0 0] } } -> wpAny (model prog w) A (if (Value.builtin "list.__iter__" == Value.none) = true then (β >>= fun v => pure (some v)) else (call (.builtin "list.__iter__") [.ref x] >>= fun v => pure (some v))) Q2 E s := fun {β} {Q2} q => by
    rw [if_neg (show ¬ ((Value.builtin "list.__iter__" == Value.none) = true) from Bool.false_ne_true)]
    refine wpAny_bind (acc_call X I hm (n := "__iter__") (by decide +kernel) (.inl (by decide +kernel)) slot_list_iter.plain entry_list_iter (args_list_iter _) ?_)
    show wpAny _ _ (do ret (← newFields "list_iterator" [.ref x, rawInt 0])) _ _ s
    exact wpAny_bind (wpAny_newObj_type (wpAny_pure ⟨_, rfl, wpAny_pure q⟩))
  have last : wpAny (model prog w) A (specialOf (.ref s.heap.objs.size) "__next__") (fun r s' => r = some (.builtin "list_iterator.__next__") ∧ s' = { s with heap := s.heap.push { cls := .type "list_iterator", data := .fields #[.ref x, .int 0 0] } }) E { s with heap := s.heap.push { cls := .type "list_iterator", data := .fields #[.ref x, .int 0 0] } } :=
    wpAny_specialOf (T := "list_iterator") ⟨_, Heap.get?_push_size _ rfl, rfl⟩ slot_listiter_next.lookup ⟨rfl, rfl⟩
  split
  · exact wpAny_bind (wpAny_pure (wpAny_pure (fin (wpAny_bind (wpAny_mono last (fun r s' q => by obtain ⟨rfl, rfl⟩ := q; exact wpAny_pure h) fun _ _ z => z)))))
  · exact wpAny_tryCatch (wpAny_bind (wpAny_pure (wpAny_pure (fin (wpAny_bind (wpAny_mono last (fun r s' q => by obtain ⟨rfl, rfl⟩ := q; exact wpAny_pure h) fun _ _ z => z))))))
end
end
section
open PySem PySem.W PySem.Calls PyProof.Rows PySem.Spec
theorem slot_md_get : Slot "method_descriptor" "__get__" "method_descriptor.__get__" := .of (owner := "method_descriptor") (n := "__get__") (by rw [typeLookup_type, builtinLookup_eq_fast]; kernel_rfl) (by decide +kernel) (by decide +kernel) (by decide +kernel)
  (by first | exact .inl (by decide +kernel) | exact .inr (by decide +kernel)) (by rw [isSubtype_type]; kernel_rfl)
theorem slot_wd_get : Slot "wrapper_descriptor" "__get__" "wrapper_descriptor.__get__" := .of (owner := "wrapper_descriptor") (n := "__get__") (by rw [typeLookup_type, builtinLookup_eq_fast]; kernel_rfl) (by decide +kernel) (by decide +kernel) (by decide +kernel)
  (by first | exact .inl (by decide +kernel) | exact .inr (by decide +kernel)) (by rw [isSubtype_type]; kernel_rfl)
theorem entry_md_get : entryFor table "method_descriptor.__get__" = some Builtin.«method_descriptor.__get__» := entryFor_of_tree (by kernel_rfl)
theorem entry_wd_get : entryFor table "wrapper_descriptor.__get__" = some Builtin.«wrapper_descriptor.__get__» := entryFor_of_tree (by kernel_rfl)
theorem args_md_get (a b c : Value) : argsOk "method_descriptor.__get__" ⟨[a, b, c], []⟩ := by unfold argsOk; kernel_rfl
theorem args_wd_get (a b c : Value) : argsOk "wrapper_descriptor.__get__" ⟨[a, b, c], []⟩ := by unfold argsOk; kernel_rfl
section
variable {prog : Program} {w : World} {A : Around} {E : Value -> Shared -> Prop} {s : Shared} {K : Frag} {x C D : Addr} {ox : Obj} {od : Option Obj} {h₀ : Heap} {L : Addr} {m : Str -> Option Value} {news : List (Addr × Obj)}
theorem inst_list (X : K.In s.heap) (I : InstAt s.heap x ox C od) (hm : mroIn K C (.type "list") = some true) {Q : Bool -> Shared -> Prop} (h : Q true s) : wpAny (model prog w) A (isInstance (.ref x) (.type "list")) Q E s := by
  unfold isInstance
  exact wpAny_bind (I.type.here ((looks_mroIn X hm).here h))
theorem md_get_pop {Q : Fin -> Shared -> Prop} (X : K.In s.heap) (I : InstAt s.heap x ox C od) (hm : mroIn K C (.type "list") = some true)
    (h : Q (.done (.ret (.ref s.heap.objs.size))) { s with heap := s.heap.push { cls := .type "builtin_function_or_method", data := .fields #[.builtin "list.pop", .ref x] } }) :
    wpAny (model prog w) A (Builtin.«method_descriptor.__get__» ⟨[.builtin "list.pop", .ref x, .ref C], []⟩) Q E s := by
  have e : ".".intercalate ("list.pop".cutAt '.').dropLast = "list" := by decide +kernel
  unfold Builtin.«method_descriptor.__get__»
  repeat wp_step
  refine wpAny_loadPart I.at_ (wpAny_pure ?_)
  rw [I.cls, e]
  refine (looks_mroIn X hm).here (wpAny_pure (wpAny_bind (wpAny_newObj_type (wpAny_pure h))))
theorem wd_get_len {id : String} {Q : Fin -> Shared -> Prop} (hid : id = "list.__len__" ∨ id = "list.__init__") (X : K.In s.heap) (I : InstAt s.heap x ox C od) (hm : mroIn K C (.type "list") = some true)
    (h : Q (.done (.ret (.ref s.heap.objs.size))) { s with heap := s.heap.push { cls := .type "method-wrapper", data := .fields #[.builtin id, .ref x] } }) :
    wpAny (model prog w) A (Builtin.«wrapper_descriptor.__get__» ⟨[.builtin id, .ref x, .ref C], []⟩) Q E s := by
  have e : ".".intercalate (id.cutAt '.').dropLast = "list" := by rcases hid with rfl | rfl <;> decide +kernel
  unfold Builtin.«wrapper_descriptor.__get__»
  repeat wp_step
  refine wpAny_loadPart I.at_ (wpAny_pure ?_)
  rw [I.cls, e]
  refine (looks_mroIn X hm).here (wpAny_pure (wpAny_bind (wpAny_newObj_type (wpAny_pure h))))
noncomputable abbrev bndObj (kind id : String) (x : Addr) : Obj := { cls := .type kind, data := .fields #[.builtin id, .ref x] }
theorem super_ga {so : Addr} {name : Str} {id kind gid : String} {l₀ l : List Value} {tk : Tok} {gb : Builtin} {gs : Slot kind "__get__" gid} {bk : String} {Q : Fin -> Shared -> Prop}
    (hso : s.heap.get? so = some { cls := .type "super", dict := none, data := .fields #[.ref D, .ref x, .ref C], slots := #[] }) (hno : Looks (model prog w) s.heap (opaqueClassAbove (.ref C)) none)
    (hC : Looks (model prog w) s.heap (mroOf (.ref C)) l₀) (hl : (l₀.dropWhile (· != .ref D)).drop 1 = l) (X : K.In s.heap)
    (hf : alongIn K name l = some (some (.builtin id))) (hty : typeOf (.builtin id) = pure (.type kind)) (hxC : x ≠ C) (hn : (name == ("__class__" : Str)) = false) (ge : entryFor table gid = some gb) (ga : argsOk gid ⟨[.builtin id, .ref x, .ref C], []⟩)
    (hget : ∀ {A : Around} {E : Value -> Shared -> Prop} {Q : Fin -> Shared -> Prop}, Q (.done (.ret (.ref s.heap.objs.size))) { s with heap := s.heap.push (bndObj bk id x) } -> wpAny (model prog w) A (gb ⟨[.builtin id, .ref x, .ref C], []⟩) Q E s)
    (hq : Q (.done (.ret (.ref s.heap.objs.size))) { s with heap := s.heap.push (bndObj bk id x) }) :
    wpAny (model prog w) A (Builtin.«super.__getattribute__» ⟨[.ref so, .str name tk], []⟩) Q E s := by
  have hlk := gs.lookup
  have hne : (Value.ref x == Value.ref C) = false := by simp [hxC]
  have hdt : ({ cls := .type "super", dict := none, data := .fields #[.ref D, .ref x, .ref C], slots := #[] } : Obj).data = .fields #[.ref D, .ref x, .ref C] := rfl
  have f0 : (#[.ref D, .ref x, .ref C] : Array Value)[0]? = some (.ref D) := rfl
  have f1 : (#[.ref D, .ref x, .ref C] : Array Value)[1]? = some (.ref x) := rfl
  have f2 : (#[.ref D, .ref x, .ref C] : Array Value)[2]? = some (.ref C) := rfl
  have hno' := hno
  obtain ⟨hh, g, d, t, os⟩ := s
  unfold Builtin.«super.__getattribute__»
  repeat (first
    | (with_reducible refine wpAny_field hso hdt f0 ?_) | (with_reducible refine wpAny_field hso hdt f1 ?_) | (with_reducible refine wpAny_field hso hdt f2 ?_)
    | (with_reducible refine ks_wpAny_notOpaque hno ?_)
    | (with_reducible refine Looks.at hC ?_; rw [hl])
    | (refine ks_forIn_along X (fun _ _ => rfl) rfl ?_ hf)
    | (with_reducible refine wpAny_of_eq hty ?_)
    | (with_reducible refine wpAny_of_eq hlk ?_)
    | (with_reducible refine wpAny_call_entry gs hty ge ?_ ga; refine hget ?_)
    | (with_reducible refine ⟨_, rfl, ?_⟩)
    | (simp only [hn, hne, Bool.or_false, Bool.false_eq_true, if_false])
    | wp_step
    | dsimp only)
  refine codeAny_call_builtin gs.plain ge (gs.check _ _ _ _ _ _ _ _ hty ga (hget ?_))
  exact wpAny_bind (wpAny_pure (wpAny_pure (wpAny_pure hq)))
theorem super_method {so : Addr} {name : Str} {id kind gid : String} {l₀ l : List Value} {gb : Builtin} (gs : Slot kind "__get__" gid) {bk : String} {pl : Sem Bool} {Q : Value × List Value -> Shared -> Prop}
    (hso : s.heap.get? so = some { cls := .type "super", dict := none, data := .fields #[.ref D, .ref x, .ref C], slots := #[] }) (hno : Looks (model prog w) s.heap (opaqueClassAbove (.ref C)) none)
    (hC : Looks (model prog w) s.heap (mroOf (.ref C)) l₀) (hl : (l₀.dropWhile (· != .ref D)).drop 1 = l) (X : K.In s.heap)
    (hf : alongIn K name l = some (some (.builtin id))) (hty : typeOf (.builtin id) = pure (.type kind)) (hxC : x ≠ C) (hn : (name == ("__class__" : Str)) = false) (ge : entryFor table gid = some gb) (ga : argsOk gid ⟨[.builtin id, .ref x, .ref C], []⟩)
    (hget : ∀ {A : Around} {E : Value -> Shared -> Prop} {tk : Nat} {Q : Fin -> Shared -> Prop}, Q (.done (.ret (.ref s.heap.objs.size))) { s with heap := s.heap.push (bndObj bk id x), toks := tk } -> wpAny (model prog w) A (gb ⟨[.builtin id, .ref x, .ref C], []⟩) Q E { s with toks := tk })
    (hq : Q (.ref s.heap.objs.size, []) { s with heap := s.heap.push (bndObj bk id x), toks := s.toks + 1 }) :
    wpAny (model prog w) A (getMethod (.ref so) name pl) Q E s := by
  have hlk := PySem.F.ks_slot_super_ga.lookup
  have hcan := PySem.F.ks_canon_super_ga
  have hT : ∀ t' : Nat, ({ s with toks := t' } : Shared).TypeIs (.ref so) "super" := fun _ => ⟨_, hso, rfl⟩
  unfold getMethod
  refine wpAny_bind (wpAny_specialOf (hT s.toks) hlk ?_)
  show wpAny _ _ (if (Manifest.canonical "super.__getattribute__" != "object.__getattribute__") = true then _ else _) _ _ _
  rw [if_pos hcan]
  unfold getAttr getAttrBy
  refine wpAny_bind (wpAny_bind (wpAny_mkText (wpAny_holding (wpAny_bind (wpAny_typeOf (hT _) (wpAny_bind (wpAny_of_eq hlk ?_)))))))
  show wpAny _ _ (getAttrByItsOwn (.ref so) (.str name s.toks) (.type "super") (.builtin "super.__getattribute__") true false) _ _ _
  unfold getAttrByItsOwn hookBefore callGetattribute boundAndCalled
  refine wpAny_bind (wpAny_of_eq (show (if onTheHeap (.type "super") then typeLookup (.type "super") "__getattr__" else pure none) = pure none from rfl) ?_)
  refine wpAny_bind (wpAny_attempt (wpAny_holding ?_))
  show wpAny _ _ (bindSpecial (.builtin "super.__getattribute__") (.ref so) >>= _) _ _ _
  refine wpAny_bind (wpAny_of_eq (PySem.F.ks_slot_super_ga.bind _) ?_)
  refine wpAny_mono (Q := fun v s' => v = .ref s.heap.objs.size ∧ s' = { s with heap := s.heap.push (bndObj bk id x), toks := s.toks + 1 }) (E := fun _ _ => False)
    (wpAny_call_entry PySem.F.ks_slot_super_ga (hT _) PySem.F.ks_entry_super_ga (super_ga (gs := gs) (s := { s with toks := s.toks + 1 }) hso hno hC hl X hf hty hxC hn ge ga hget ⟨_, rfl, rfl, rfl⟩) (PySem.F.ks_gaArgs_super _ _)) (fun v s' hv => ?_) fun _ _ z => z.elim
  obtain ⟨rfl, rfl⟩ := hv
  exact wpAny_pure (wpAny_pure hq)
end
end
section
open PySem PySem.W PySem.Calls PyProof.Rows PySem.Spec
section
variable {prog : Program} {w : World} {A : Around} {E : Value -> Shared -> Prop} {s : Shared} {K : Frag} {x C D : Addr} {ox : Obj} {od : Option Obj} {h₀ : Heap} {L : Addr} {m : Str -> Option Value} {news : List (Addr × Obj)}
theorem bnd_call {q : Addr} {bk id : String} {pos : Pos} {Q : Value -> Shared -> Prop} (hq : s.heap.get? q = some (bndObj bk id x)) (hk : bk = "builtin_function_or_method" ∨ bk = "method-wrapper")
    (hc : wpAny (model prog w) A.in1 (checkBoundCall id ⟨[.ref x], []⟩) (fun _ s' => (Code.builtin id ⟨[.ref x], []⟩).quiet = true ∧ codeAny (model prog w) A (.builtin id ⟨[.ref x], []⟩) (fun r s'' => match r with | .ok (.ret v) => Q v s'' | .ok _ => False | .error e => E e s'') s') (fun e s' => E e s') s) :
    wpAny (model prog w) A (callWith pos (.ref q) [] [] []) Q E s := by
  have hc' : codeAny (model prog w) A (.call (.ref q) ⟨[], []⟩) (fun r s'' => match r with | .ok (.ret v) => Q v s'' | .ok _ => False | .error e => E e s'') s := by
    refine codeAny_of_tree ?_
    show wpAny _ A.in1 (callAny (.ref q) ⟨[], []⟩) _ _ _
    unfold callAny
    refine wpAny_bind (wpAny_load hq ?_)
    have e1 : (Value.type bk == Value.type "method" || Value.type bk == Value.type "builtin_function_or_method" || Value.type bk == Value.type "method-wrapper") = true := by rcases hk with rfl | rfl <;> decide
    have e2 : (Value.type bk != Value.type "method") = true := by rcases hk with rfl | rfl <;> decide
    show wpAny _ _ (if (Value.type bk == Value.type "method" || Value.type bk == Value.type "builtin_function_or_method" || Value.type bk == Value.type "method-wrapper") = true then _ else _) _ _ _
    rw [if_pos e1]
    show wpAny _ _ (if (Value.type bk != Value.type "method") = true then _ else _) _ _ _
    rw [if_pos e2]
    exact wpAny_bind (wpAny_mono hc (fun _ s' h => wpAny_pure h) fun _ _ h => h)
  unfold callWith
  have e2 : (Value.type bk != Value.type "method") = true := by rcases hk with rfl | rfl <;> decide
  have e3 : (Value.type bk == Value.type "builtin_function_or_method" || Value.type bk == Value.type "method-wrapper") = true := by rcases hk with rfl | rfl <;> decide
  have hkp : ∀ {Q' : Keeper -> Shared -> Prop}, Q' .machine s -> wpAny (model prog w) A (keeperOf (.ref q)) Q' E s := fun h => by
    unfold keeperOf
    refine wpAny_bind (wpAny_load hq ?_)
    show wpAny _ _ (if (Value.type bk != Value.type "method") = true then _ else _) _ _ _
    rw [if_pos e2]
    show wpAny _ _ (pure (if (Value.type bk == Value.type "builtin_function_or_method" || Value.type bk == Value.type "method-wrapper") = true then Keeper.machine else Keeper.caller)) _ _ _
    rw [if_pos e3]
    exact wpAny_pure h
  repeat (first | (with_reducible refine hkp ?_) | wp_step)
  refine codeAny_mono (show codeAny (model prog w) A (.call (.ref q) ⟨[], []⟩) _ s from hc') fun r s' h => ?_
  cases r with
  | error e => exact h
  | ok f => cases f with
    | ret v => exact wpAny_bind (wpAny_holding (wpAny_point (wpAny_pure h)))
    | _ => exact h.elim
theorem type_list_len : typeOf (.builtin "list.__len__") = pure (.type "wrapper_descriptor") := by show builtinType _ = _; rw [builtinType_eq_fast]; kernel_rfl
theorem type_list_init : typeOf (.builtin "list.__init__") = pure (.type "wrapper_descriptor") := by show builtinType _ = _; rw [builtinType_eq_fast]; kernel_rfl
theorem bnd_len {q d : Addr} {vs : List Value} {e : Nat} {pos : Pos} {Q : Value -> Shared -> Prop} (hq : s.heap.get? q = some (bndObj "method-wrapper" "list.__len__" x)) (hx : s.heap.get? x = some (accObj d vs e))
    (h : Q (.int (vs.length : Nat) s.toks) { s with toks := s.toks + 1 }) : wpAny (model prog w) A (callWith pos (.ref q) [] [] []) Q E s := by
  refine bnd_call hq (.inr rfl) ?_
  unfold checkBoundCall
  repeat wp_step
  refine ⟨plainId_quiet PySem.F.slot_list_len.plain _, codeAny_builtin PySem.F.entry_list_len ?_⟩
  unfold Builtin.«list.__len__» slotArgs seqSize
  repeat (first | (with_reducible refine wpAny_loadPart hx ?_) | wp_step)
  rw [Lst]; exact h
theorem bnd_init {q d : Addr} {e : Nat} {o : Obj} {pos : Pos} {Q : Value -> Shared -> Prop} (F : Fr h₀ L s.heap m) (N : News h₀ L s.heap [(x, accObj d [] e), (d, o)]) (hd : x ≠ d) (hq : s.heap.get? q = some (bndObj "method-wrapper" "list.__init__" x))
    (h : ∀ h' e', Fr h₀ L h' m -> News h₀ L h' [(x, accObj d [] e'), (d, o)] -> (∀ n2, News h₀ L s.heap n2 -> (∀ p ∈ n2, p.1 ≠ x) -> News h₀ L h' n2) -> Q .none { s with heap := h' }) : wpAny (model prog w) A (callWith pos (.ref q) [] [] []) Q E s := by
  have zN := (N _ (.head _)).1
  refine bnd_call hq (.inr rfl) ?_
  unfold checkBoundCall
  repeat wp_step
  obtain ⟨e', F', N'⟩ := acc_set (f := fun _ => #[]) (us := []) F N (by simpa using Ne.symm hd) rfl
  refine ⟨plainId_quiet PySem.F.slot_list_init.plain _, codeAny_builtin PySem.F.entry_list_init ?_⟩
  unfold Builtin.«list.__init__»
  repeat (first | (with_reducible refine wpAny_listItems zN rfl ?_) | wp_step)
  exact h _ e' F' N' fun n2 N2 off p hp => ⟨(Heap.get?_update_ne _ _ _ _ (off p hp)).trans (N2 p hp).1, (N2 p hp).2⟩
theorem bnd_pop {q d : Addr} {vs us : List Value} {v : Value} {e : Nat} {o : Obj} {pos : Pos} {Q : Value -> Shared -> Prop} (F : Fr h₀ L s.heap m) (X₀ : K.In h₀) (N : News h₀ L s.heap [(x, accObj d vs e), (d, o)]) (hd : x ≠ d) (hq : s.heap.get? q = some (bndObj "builtin_function_or_method" "list.pop" x))
    (hm : mroIn K 178 (.type "list") = some true) (hmm : mroIn K 178 (.type "module") = some false) {cd : ClassData} (hcd : clsIn K 178 = some cd) (hqn : cd.qualname = Zs "_Accumulator") (hty : typeIn K (.ref 178) = some (.type "type")) (hv : vs = us ++ [v]) (hsz : vs.length ≤ 10000)
    (h : ∀ h' e', Fr h₀ L h' m -> News h₀ L h' [(x, accObj d us e'), (d, o)] -> (∀ n2, News h₀ L s.heap n2 -> (∀ p ∈ n2, p.1 ≠ x) -> News h₀ L h' n2) -> Q v { s with heap := h' }) : wpAny (model prog w) A (callWith pos (.ref q) [] [] []) Q E s := by
  have zN := (N _ (.head _)).1
  have X := X₀.keeps F.keep
  have I := inst_acc N (.head _) (.tail _ (.head _))
  have off : ∀ p ∈ [(d, o)], p.1 ≠ x := by simpa using Ne.symm hd
  have hi : ∀ {A : Around} {E : Value -> Shared -> Prop} {Q' : Bool -> Shared -> Prop}, Q' false s -> wpAny (model prog w) A (isInstance (.ref x) (.type "module")) Q' E s := fun q => by
    unfold isInstance; exact wpAny_bind (I.type.here ((looks_mroIn X hmm).here q))
  refine bnd_call hq (.inl rfl) ?_
  unfold checkBoundCall
  obtain ⟨o178, ho178, hoc⟩ := Option.map_eq_some_iff.mp hty
  have hCl : ∀ {A : Around} {E : Value -> Shared -> Prop} {Q' : ClassData -> Shared -> Prop}, Q' cd s -> wpAny (model prog w) A (classData 178) Q' E s := fun q => (looks_clsIn X hcd).here q
  repeat (first | (with_reducible refine hi ?_) | (with_reducible refine hCl ?_) | wp_step)
  dsimp only
  refine wpAny_loadPart (X _ _ ho178) (wpAny_pure ?_)
  rw [hoc, if_pos (show (Value.type "type" == Value.type "type") = true by decide)]
  obtain ⟨e', F', N'⟩ := acc_set (f := (·.eraseIdxIfInBounds us.length)) (us := us) F N off (by
    rw [hv]
    simp only [Array.eraseIdxIfInBounds, Lst, Lla, List.length_singleton, Nls, dite_true, List.eraseIdx_toArray]
    rw [List.eraseIdx_append_of_length_le (Nat.le_refl _), Nat.sub_self]; simp)
  have hz : vs.toArray.size ≤ sizeLine := by rw [sizeLine_eq, Lst]; omega
  have hl : vs.length = us.length + 1 := by rw [hv]; simp
  have hix : (seqIndex? (-1) vs.toArray.size).bind (fun k => vs.toArray[k]?.map (k, ·)) = some (us.length, v) := by
    have h1 : seqIndex? (-1) vs.toArray.size = some us.length := by
      unfold seqIndex?
      simp only [Lst, hl]
      have e1 : (if (-1 : Int) < 0 then -1 + ((us.length + 1 : Nat) : Int) else -1) = (us.length : Int) := by rw [if_pos (by decide)]; omega
      rw [e1, if_pos (by simp; omega), Int.toNat_natCast]
    rw [h1, hv]; simp
  have he : vs.toArray.isEmpty = false := by rw [hv]; simp
  have hca : Bind.checkArgs "list.pop" { machinery := Manifest.Machinery.positional, full := toString (Zs "_Accumulator").toString ++ toString "." ++ toString (Bind.lastOf "list.pop"), short := "pop", receiver := Manifest.Receiver.self, params := [{ name := "index", kind := Manifest.ParamKind.posOnly, required := false }] } ⟨[.ref x], []⟩ = pure () := by kernel_rfl
  rw [hqn]
  refine wpAny_of_eq hca ?_
  refine ⟨plainId_quiet PySem.F.slot_list_pop.plain _, codeAny_builtin PySem.F.entry_list_pop ?_⟩
  unfold Builtin.«list.pop» selfAndSome noKeywords checkCount
  repeat (first | (with_reducible refine wpAny_listItems zN rfl ?_) | wp_step)
  rw [hix]
  exact wpAny_bind (m := updateSeq x _) (wpAny_updateSeq zN rfl (wpAny_pure (h _ e' F' N' fun n2 N2 off p hp => ⟨(Heap.get?_update_ne _ _ _ _ (off p hp)).trans (N2 p hp).1, (N2 p hp).2⟩)) hz (by
    have : (vs.toArray.eraseIdxIfInBounds us.length).size ≤ vs.toArray.size := by
      unfold Array.eraseIdxIfInBounds
      split
      · rw [Array.size_eraseIdx]; omega
      · exact Nat.le_refl _
    show (vs.toArray.eraseIdxIfInBounds us.length).size ≤ _
    omega))
end
section
variable {prog : Program} {w : World} {A : Around} {E : Value -> Shared -> Prop} {s : Shared} {K : Frag} {x so : Addr} {ox : Obj} {od : Option Obj} {h₀ : Heap} {L : Addr} {m : Str -> Option Value} {cd : ClassData} {name : Str} {pl : Sem Bool} {Q : Value × List Value -> Shared -> Prop}
theorem mro_looks (X : K.In s.heap) (hc : clsIn K 178 = some cd) (hm : cd.mro = [.ref 178, .type "list", .type "object"]) : Looks (model prog w) s.heap (mroOf (.ref 178)) [.ref 178, .type "list", .type "object"] :=
  fun A Q E s k q => wpAny_bind ((looks_clsIn X hc) A _ E s k (by rw [hm]; exact wpAny_pure q))
theorem super_wd {id : String} (hid : id = "list.__len__" ∨ id = "list.__init__") (hty : typeOf (.builtin id) = pure (.type "wrapper_descriptor")) (F : Fr h₀ L s.heap m) (X₀ : K.In h₀) (hso : s.heap.get? so = some (ks_superObj 178 x 178)) (I : InstAt s.heap x ox 178 od) (hno : nsIn K cStatics "thirdparty.any" = some none)
    (hc : clsIn K 178 = some cd) (hm : cd.mro = [.ref 178, .type "list", .type "object"]) (hmr : mroIn K 178 (.type "list") = some true) (hf : alongIn K name [.type "list", .type "object"] = some (some (.builtin id))) (hn : (name == ("__class__" : Str)) = false)
    (h : ∀ q h', Fr h₀ L h' m -> News h₀ L h' [(q, bndObj "method-wrapper" id x)] -> (∀ b o, s.heap.get? b = some o -> h'.get? b = some o ∧ b ≠ q) -> Q (.ref q, []) { s with heap := h', toks := s.toks + 1 }) : wpAny (model prog w) A (getMethod (.ref so) name pl) Q E s := by
  have X := X₀.keeps F.keep
  refine super_method slot_wd_get (bk := "method-wrapper") hso (looks_opaque X hno) (mro_looks X hc hm) rfl X hf hty (ks_ne X I hc) hn entry_wd_get (args_wd_get _ _ _) (fun {A E tk Q} q => wd_get_len (s := { s with toks := tk }) hid X I hmr q) ?_
  obtain ⟨F', N', l'⟩ := ks_newsPush (o := bndObj "method-wrapper" id x) F News.nil rfl (Heap.get?_push_at rfl rfl) (fun b o e => Heap.get?_push_of_some _ e)
  exact h _ _ F' N' fun b o e => ⟨Heap.get?_push_of_some _ e, Nnl (Hls e)⟩
theorem super_md (F : Fr h₀ L s.heap m) (X₀ : K.In h₀) (hso : s.heap.get? so = some (ks_superObj 178 x 178)) (I : InstAt s.heap x ox 178 od) (hno : nsIn K cStatics "thirdparty.any" = some none)
    (hc : clsIn K 178 = some cd) (hm : cd.mro = [.ref 178, .type "list", .type "object"]) (hmr : mroIn K 178 (.type "list") = some true) (hf : alongIn K "pop" [.type "list", .type "object"] = some (some (.builtin "list.pop")))
    (h : ∀ q h', Fr h₀ L h' m -> News h₀ L h' [(q, bndObj "builtin_function_or_method" "list.pop" x)] -> (∀ b o, s.heap.get? b = some o -> h'.get? b = some o ∧ b ≠ q) -> Q (.ref q, []) { s with heap := h', toks := s.toks + 1 }) : wpAny (model prog w) A (getMethod (.ref so) "pop" pl) Q E s := by
  have X := X₀.keeps F.keep
  refine super_method slot_md_get (bk := "builtin_function_or_method") hso (looks_opaque X hno) (mro_looks X hc hm) rfl X hf PySem.F.type_list_pop (ks_ne X I hc) (by decide) entry_md_get (args_md_get _ _ _) (fun {A E tk Q} q => md_get_pop (s := { s with toks := tk }) X I hmr q) ?_
  obtain ⟨F', N', l'⟩ := ks_newsPush (o := bndObj "builtin_function_or_method" "list.pop" x) F News.nil rfl (Heap.get?_push_at rfl rfl) (fun b o e => Heap.get?_push_of_some _ e)
  exact h _ _ F' N' fun b o e => ⟨Heap.get?_push_of_some _ e, Nnl (Hls e)⟩
end
section
variable {w : World} {j dp un : Nat} {A₀ : Around} {s : Shared} {base h₀ : Heap} {outer : List Env} {L : Addr} {m : Str -> Option Value} {env : Env} {own : List (Addr × Obj)}
  {R : Result -> Shared -> Prop} {name qual : Str} {params : Arguments} {body : List Stmt} {scope : Scope} {dV kV doc pm cdv ct oc : Value} {an od : Option Addr} {osl : Array (Option Value)} {f cc : Addr} {args : Args} {binds : List (Str × Value)}
theorem enterS0 (cx : Cx w (j + 1) dp un A₀ env outer base h₀ L) (F : Fr h₀ L s.heap m) (O : News h₀ L s.heap own)
    (ho : (_root_.Mine.hd.heap_1 w.params).lookup f = some ⟨oc, od, .func (ksFn name qual params body scope dV kV doc pm an cdv ct cc), osl⟩) (hcd : codeIn (_root_.Mine.hd.heap_1 w.params) cdv qual = true)
    (hbind : BindsTo s (ksFn name qual params body scope dV kV doc pm an cdv ct cc) args binds) (hloc : ∀ y ∈ binds, scope.names.lookup y.1 = some .local)
    (h : ∀ g L' h₁, Fr h₀ L g m -> (∀ b o, s.heap.get? b = some o -> b ∉ own.map (·.1) -> g.get? b = some o) -> Fr g L' h₁ (fun y => binds.reverse.lookup y) -> News g L' h₁ own -> Cx w j (dp + 1) (un + 3) (AA dp un env outer) (ksEnv qual scope L' f cdv cc) (env :: outer) base g L' -> (∀ p ∈ own, p.1 < L') ->
      _root_.PySem.wpAt (model RWQ.row.prog w) (AA (dp + 1) (un + 3) (ksEnv qual scope L' f cdv cc) (env :: outer)) (.func body (ksEnv qual scope L' f cdv cc)) (execs body (ksEnv qual scope L' f cdv cc))
        (fun fl s' => LeaveK h₀ L m g R (match fl with | .ret v => v | _ => .none) s')
        (fun e s' => wpAny (model RWQ.row.prog w) (AA (dp + 1) (un + 3) (ksEnv qual scope L' f cdv cc) (env :: outer)) (leaving (ksEnv qual scope L' f cdv cc) e) (fun _ s'' => R (.error e) s'') (fun e' s'' => R (.error e') s'') s')
        { s with heap := h₁, toks := s.toks + binds.length })
    (hcell : ∀ x ∈ scope.names, x.2 ≠ .cell) (hco : scope.isCoroutine = false) (hgen : scope.isGenerator = false) (hk : scope.kind = .function) :
    codeAny (model RWQ.row.prog w) (AA dp un env outer) (.call (.ref f) args) R s := by
  obtain ⟨X, ⟨p, loose, mean, mg, mb, T⟩, B, hf, hke, hd0, hu0⟩ := cx
  obtain ⟨FG, BG, st, lv⟩ := groundX (R := R) B F O (A := AA dp un env outer) rfl hf hke
  refine ks_codeAny_call_defAt (fd := ksFn name qual params body scope dV kV doc pm an cdv ct cc) (body := body) (binds := binds) (show dp < 1000 by omega) ((X.keeps F.keep) _ _ ho) rfl (T.nolimit.keeps F.keep) (codeRec_of (X.keeps F.keep) hcd) rfl hbind hcell hloc (fun h₁ hns hk₁ => ?_) hco hgen hk
  exact ks_wpAt_mono (h _ s.heap.objs.size h₁ FG (fun b o e q => hideAll_get _ e q) ⟨hns, fun b o e => hk₁ b o (of_hideAll _ e), Nle (hideAll_size _ _)⟩
    (fun p hp => ⟨hk₁ _ _ (O p hp).1, Nnl (Hls (O p hp).1), hideAll_none _ (List.mem_map_of_mem hp)⟩) ⟨X.keeps st, ⟨p, loose, mean, mg, mb, T.keeps st⟩, BG, rfl, hk, (by omega), (by omega)⟩ (fun p hp => Hls (O p hp).1)) (fun fl s' hl => lv _ _ hl) fun _ _ y => y
theorem enterS (cx : Cx w (j + 1) dp un A₀ env outer base h₀ L) (F : Fr h₀ L s.heap m) (O : News h₀ L s.heap own)
    (ho : (_root_.Mine.hd.heap_1 w.params).lookup f = some ⟨oc, od, .func (ksFn name qual params body scope dV kV doc pm an cdv ct cc), osl⟩) (hcd : codeIn (_root_.Mine.hd.heap_1 w.params) cdv qual = true)
    (hbind : BindsTo s (ksFn name qual params body scope dV kV doc pm an cdv ct cc) args binds) (hloc : ∀ y ∈ binds, scope.names.lookup y.1 = some .local)
    (h : ∀ (dp' un' : Nat) (outer' : List Env) (A' : Around) (Q' : Flow -> Shared -> Prop) g L' h₁, Fr h₀ L g m -> (∀ b o, s.heap.get? b = some o -> b ∉ own.map (·.1) -> g.get? b = some o) -> Fr g L' h₁ (fun y => binds.reverse.lookup y) -> News g L' h₁ own -> Cx w j dp' un' A' (ksEnv qual scope L' f cdv cc) outer' base g L' -> (∀ p ∈ own, p.1 < L') -> LeaveTo h₀ L m g R Q' ->
      _root_.PySem.wpAt (model RWQ.row.prog w) (AA dp' un' (ksEnv qual scope L' f cdv cc) outer') (.func body (ksEnv qual scope L' f cdv cc)) (execs body (ksEnv qual scope L' f cdv cc)) Q' (fun _ _ => False)
        { s with heap := h₁, toks := s.toks + binds.length })
    (hcell : ∀ x ∈ scope.names, x.2 ≠ .cell) (hco : scope.isCoroutine = false) (hgen : scope.isGenerator = false) (hk : scope.kind = .function) :
    codeAny (model RWQ.row.prog w) (AA dp un env outer) (.call (.ref f) args) R s :=
  enterS0 cx F O ho hcd hbind hloc (fun g L' h₁ FG hg F' N' cx' lt => ks_wpAt_mono (h _ _ _ _ _ g L' h₁ FG hg F' N' cx' lt fun _ _ k => k) (fun _ _ k => k) fun _ _ x => x.elim) hcell hco hgen hk
end
end
section
open PySem PySem.W PySem.Calls PyProof.Rows PySem.Spec
noncomputable def listGet (K : Frag) (C : Addr) : Bool := findIn K (.ref C) "__getattribute__" == some (some (.builtin "list.__getattribute__")) && findIn K (.ref C) "__getattr__" == some none
section
variable {prog : Program} {w : World} {A : Around} {E : Value -> Shared -> Prop} {s : Shared} {K : Frag} {x C d f : Addr} {ox : Obj} {od : Option Obj} {h₀ : Heap} {L : Addr} {m : Str -> Option Value} {name : Str}
theorem listGet_of (h : listGet K C = true) : findIn K (.ref C) "__getattribute__" = some (some (.builtin "list.__getattribute__")) ∧ findIn K (.ref C) "__getattr__" = some none := by
  obtain ⟨a, b⟩ := Bool.and_eq_true_iff.mp h
  exact ⟨beq_iff_eq.mp a, beq_iff_eq.mp b⟩
theorem acc_meth {v : Value} {T : String} {pl : Sem Bool} {Q : Value × List Value -> Shared -> Prop} (F : Fr h₀ L s.heap m) (X₀ : K.In h₀) (I : InstAt s.heap x ox C od) (hg : listGet K C = true)
    (hf : findIn K (.ref C) name = some (some v)) (ht : Looks (model prog w) s.heap (typeOf v) (.type T)) (hT : T = "function" ∨ T = "method_descriptor") (hs : shadowIn od name = some false) (h : Q (v, [.ref x]) s) :
    wpAny (model prog w) A (getMethod (.ref x) name pl) Q E s := by
  have X := X₀.keeps F.keep
  have hcan := canon_list_getattribute
  unfold getMethod specialOf
  refine wpAny_bind (wpAny_bind (I.type.here ((looks_findIn X (listGet_of hg).1).here ?_)))
  dsimp only
  rw [hcan, if_neg (by decide)]
  refine wpAny_bind (wpAny_bind (I.type.here ((looks_findIn X (listGet_of hg).2).here ?_)))
  refine wpAny_bind (wpAny_bind (I.type.here ((looks_findIn X hf).here (wpAny_bind (ht.here ?_)))))
  rw [if_neg (by rcases hT with rfl | rfl <;> decide +kernel)]
  refine wpAny_bind (wpAny_loadPart I.at_ ?_)
  have hd := I.dict
  cases q : ox.dict with
  | none => exact wpAny_bind (wpAny_rule (wpAny_pure h))
  | some dx =>
    cases od with
    | none => rw [q] at hd; exact hd.elim
    | some o =>
      rw [q] at hd
      obtain ⟨r, a, b⟩ := Option.map_eq_some_iff.mp hs
      refine wpAny_bind (wpAny_bind (wpAny_loadPart hd ?_))
      rw [nsLook_of a]
      refine wpAny_pure ?_
      rw [b]
      exact wpAny_bind (wpAny_rule (wpAny_pure h))
theorem listGet_mk (h1 : findIn K (.ref C) "__getattribute__" = some (some (.builtin "list.__getattribute__"))) (h2 : findIn K (.ref C) "__getattr__" = some none) : listGet K C = true := by
  unfold listGet; rw [h1, h2]; rfl
variable {es : List DictEntry} {n : Nat}
theorem shadow_dict (hl : getL name es = some none) : shadowIn (some (dictOf es n)) name = some false := by
  show (lookIn name (dictOf es n)).map _ = _; rw [lookIn_dict, hl]; rfl
theorem acc_methF {pl : Sem Bool} {Q : Value × List Value -> Shared -> Prop} (F : Fr h₀ L s.heap m) (X₀ : K.In h₀) (I : InstAt s.heap x ox C (some (dictOf es n))) (h1 : findIn K (.ref C) "__getattribute__" = some (some (.builtin "list.__getattribute__"))) (h2 : findIn K (.ref C) "__getattr__" = some none)
    (hf : findIn K (.ref C) name = some (some (.ref f))) (ht : isFn K (.ref f) = true) (hl : getL name es = some none) (h : Q (.ref f, [.ref x]) s) :
    wpAny (model prog w) A (getMethod (.ref x) name pl) Q E s := acc_meth F X₀ I (listGet_mk h1 h2) hf (looks_typeIn (X₀.keeps F.keep) (beq_iff_eq.mp ht)) (.inl rfl) (shadow_dict hl) h
theorem acc_methB {id : String} {pl : Sem Bool} {Q : Value × List Value -> Shared -> Prop} (F : Fr h₀ L s.heap m) (X₀ : K.In h₀) (I : InstAt s.heap x ox C (some (dictOf es n))) (h1 : findIn K (.ref C) "__getattribute__" = some (some (.builtin "list.__getattribute__"))) (h2 : findIn K (.ref C) "__getattr__" = some none)
    (hf : findIn K (.ref C) name = some (some (.builtin id))) (ht : typeOf (.builtin id) = pure (.type "method_descriptor")) (hl : getL name es = some none) (h : Q (.builtin id, [.ref x]) s) :
    wpAny (model prog w) A (getMethod (.ref x) name pl) Q E s := acc_meth F X₀ I (listGet_mk h1 h2) hf (Looks.of_pure ht) (.inr rfl) (shadow_dict hl) h
theorem entry_list_ga : entryFor table "list.__getattribute__" = some Builtin.«object.__getattribute__» :=
  entryFor_alias (id' := "object.__getattribute__") (by kernel_rfl) rfl (by decide +kernel) (by kernel_rfl)
theorem acc_attr {v : Value} {expr : Bool} {Q : Value -> Shared -> Prop} (F : Fr h₀ L s.heap m) (X₀ : K.In h₀) (I : InstAt s.heap x ox C od) (hg : listGet K C = true) (hm : mroIn K C (.type "list") = some true)
    (hf : findObj K C od name = some (.value v)) (hh : handedIn v = true) (h : Q v { s with toks := s.toks + 1 }) : wpAny (model prog w) A (getAttr (.ref x) name expr) Q E s := by
  have X := X₀.keeps F.keep
  obtain ⟨hp, g, dr, t, os⟩ := s
  have L0 := I.type (M := model prog w)
  have L1 := looks_find (M := model prog w) X I hf
  unfold getAttr getAttrBy
  refine wpAny_bind (wpAny_mkText (wpAny_holding (wpAny_bind (L0.at (wpAny_bind ((looks_findIn X (listGet_of hg).1).at ?_))))))
  show wpAny _ _ (getAttrByItsOwn (.ref x) (.str name t) (.ref C) (.builtin "list.__getattribute__") true expr) _ _ _
  unfold getAttrByItsOwn hookBefore callGetattribute boundAndCalled
  refine wpAny_bind ?_
  show wpAny _ _ (typeLookup (.ref C) "__getattr__") _ _ _
  refine (looks_findIn X (listGet_of hg).2).at ?_
  refine wpAny_bind (wpAny_attempt (wpAny_holding ?_))
  have e0 : (expr && onTheHeap (Value.builtin "list.__getattribute__")) = false := by cases expr <;> rfl
  rw [e0]
  show wpAny _ _ (bindSpecial (.builtin "list.__getattribute__") (.ref x) >>= _) _ _ _
  refine wpAny_bind (wpAny_of_eq (PySem.F.slot_list_getattribute.bind _) ?_)
  refine acc_call (s := ⟨hp, g, dr, t + 1, os⟩) X I hm (n := "__getattribute__") (by decide +kernel) (.inl (by decide +kernel)) PySem.F.slot_list_getattribute.plain entry_list_ga (PySem.F.args_list_getattribute_2 _ _) ?_
  unfold Builtin.«object.__getattribute__» slotArgs
  refine wpAny_bind (m := pure _) (wpAny_pure ?_)
  refine wpAny_bind (m := pure name) (wpAny_pure (wpAny_bind (L0.at (wpAny_bind (L1.at (wpAny_pure ⟨v, rfl, ?_⟩))))))
  show wpAny _ _ (handedOut v) _ _ _
  rw [handedOut_of hh]
  exact wpAny_pure h
theorem acc_own {v : Value} {expr : Bool} {attr : Option Value} {Q : Value -> Shared -> Prop} (F : Fr h₀ L s.heap m) (X₀ : K.In h₀) (I : InstAt s.heap x ox C (some (dictOf es n))) (h1 : findIn K (.ref C) "__getattribute__" = some (some (.builtin "list.__getattribute__"))) (h2 : findIn K (.ref C) "__getattr__" = some none) (hm : mroIn K C (.type "list") = some true)
    (hh : hasDictIn K C = true) (ha : findIn K (.ref C) name = some attr) (hn : noGet K attr = true) (hl : getL name es = some (some v)) (hv : handedIn v = true) (h : Q v { s with toks := s.toks + 1 }) :
    wpAny (model prog w) A (getAttr (.ref x) name expr) Q E s := acc_attr F X₀ I (listGet_mk h1 h2) hm (findObj_own hh ha hn hl) hv h
theorem accN {rw d : Addr} {vs : List Value} {e : Nat} {o : Obj} {news : List (Addr × Obj)} {h : Heap} (N : News h₀ L h news) (h1 : (rw, accObj d vs e) ∈ news) (h2 : (d, o) ∈ news) : News h₀ L h [(rw, accObj d vs e), (d, o)] := fun p hp => by
  rcases Lmc.mp hp with rfl | hp
  · exact N _ h1
  · rw [Lms.mp hp]; exact N _ h2
theorem upd_others {news : List (Addr × Obj)} {h : Heap} {x : Addr} {g : Obj -> Obj} (N : News h₀ L h news) (off : ∀ p ∈ news, p.1 ≠ x) : News h₀ L (h.update x g) news :=
  fun p hp => ⟨(Heap.get?_update_ne _ _ _ _ (off p hp)).trans (N p hp).1, (N p hp).2⟩
noncomputable def Others (h₀ : Heap) (L : Addr) (as : List Addr) (h h' : Heap) : Prop := ∀ n2, News h₀ L h n2 -> (∀ p ∈ n2, p.1 ∉ as) -> News h₀ L h' n2
variable {o : Obj} {vs us : List Value} {e : Nat}
theorem acc_append2 {v : Value} {Q : Value -> Shared -> Prop} (F : Fr h₀ L s.heap m) (X₀ : K.In h₀) (N : News h₀ L s.heap [(x, accObj d vs e), (d, o)]) (hd : x ≠ d) (hm : mroIn K 178 (.type "list") = some true) (hsz : vs.length ≤ 10000)
    (h : ∀ h' e', Fr h₀ L h' m -> News h₀ L h' [(x, accObj d (vs ++ [v]) e'), (d, o)] -> Others h₀ L [x] s.heap h' -> Q .none { s with heap := h' }) :
    wpAny (model prog w) A (call (.builtin "list.append") [.ref x, v]) Q E s := by
  have I := inst_acc N (.head _) (.tail _ (.head _))
  refine acc_call (X₀.keeps F.keep) I hm (n := "append") (by decide +kernel) (.inr (by decide +kernel)) PySem.F.slot_list_append.plain PySem.F.entry_list_append (PySem.F.args_list_append_2 _ _) ?_
  show wpAny _ _ (updateSeq x (·.push v) >>= fun _ => ret .none) _ _ s
  have hz : vs.toArray.size ≤ sizeLine := by rw [sizeLine_eq, Lst]; omega
  obtain ⟨e', F', N'⟩ := acc_set (f := (·.push v)) (us := vs ++ [v]) F N (by simpa using Ne.symm hd) (by simp)
  exact wpAny_bind (wpAny_updateSeq (N _ (.head _)).1 rfl (wpAny_pure ⟨_, rfl, h _ e' F' N' fun n2 N2 off => upd_others N2 fun p hp e => off p hp (e ▸ .head _)⟩) hz (by show (vs.toArray.push v).size ≤ _; rw [Array.size_push]; omega))
end
end
section
open PySem PySem.W PySem.Calls PyProof.Rows PySem.Spec
theorem acc_refuse (self : Value) : refuseLoop self "__setattr__" [.type "list", .type "object"] = pure () := by
  kernel_rfl
section
variable {prog : Program} {w : World} {A : Around} {E : Value -> Shared -> Prop} {R : Result -> Shared -> Prop} {s : Shared} {K : Frag} {x d : Addr} {h₀ : Heap} {L : Addr} {m : Str -> Option Value} {name : Str} {cd : ClassData} {es es' : List DictEntry} {n n' : Nat} {vs : List Value} {e : Nat} {v : Value}
theorem acc_setattr {Q : Unit -> Shared -> Prop} (F : Fr h₀ L s.heap m) (X₀ : K.In h₀) (N : News h₀ L s.heap [(x, accObj d vs e), (d, dictOf es n)]) (hd : x ≠ d)
    (hs : findIn K (.ref 178) "__setattr__" = some (some (.builtin "object.__setattr__"))) (hc : clsIn K 178 = some cd) (hm : cd.mro = [.ref 178, .type "list", .type "object"]) (hh : cd.hasDict = true) (ha : findIn K (.ref 178) name = some none) (hl : (getL name es).isSome = true)
    (he : (putL name (PyData.keyHash w.params name) (.str name (s.toks + 1)) v es, putN name es n) = (es', n')) (hz : es'.length ≤ 1000)
    (h : ∀ h', Fr h₀ L h' m -> News h₀ L h' [(x, accObj d vs e), (d, dictOf es' n')] -> Others h₀ L [d] s.heap h' -> Q () { s with heap := h', toks := s.toks + 2 }) :
    wpAny (model prog w) A (setAttr (.ref x) name v) Q E s := by
  have X := X₀.keeps F.keep
  have I := inst_acc N (.head _) (.tail _ (.head _))
  obtain ⟨e1, e2⟩ := Prod.mk.inj he
  refine set_plain X I hs ?_
  have SF := PySem.F.store_object
  have sub : Looks (model prog w) s.heap (isInstance (.ref x) (.type "object")) true := I.type.andThen (looks_mroIn X (by unfold mroIn; rw [hc, Option.bind_some, hm]; rfl))
  refine codeAny_call_builtin SF.slot.plain SF.entry (@check_slot (model prog w) _ _ { s with toks := s.toks + 1 } "object.__setattr__" "object" "__setattr__" (.ref x) [.str name s.toks, v] [] _ SF.kind SF.split sub (SF.args (.ref x) (.str name s.toks) v) ?_)
  have hmr : Looks (model prog w) s.heap (mroOf (.ref 178)) [.ref 178, .type "list", .type "object"] := fun A Q E s k q => wpAny_bind ((looks_clsIn X hc) A _ E s k (by rw [hm]; exact wpAny_pure q))
  rw [osa_eq, refuse_eq]
  refine wpAny_bind (wpAny_bind (I.type _ _ _ _ (fun _ _ e => e) (wpAny_bind (hmr _ _ _ _ (fun _ _ e => e) ?_))))
  rw [refuseLoop_ref, acc_refuse]
  refine wpAny_pure (wpAny_bind (I.type _ _ _ _ (fun _ _ e => e) (wpAny_bind (looks_findIn X ha _ _ _ _ (fun _ _ e => e) (wpAny_bind (m := pure none) (wpAny_pure ?_))))))
  obtain ⟨U1, U2⟩ := news_upd (pre := [(x, accObj d vs e)]) (f := Obj.putName name (PyData.keyHash w.params name) (.str name (s.toks + 1)) v) (o' := dictOf es' n') F N (by simpa using hd) (by simp) (by rw [putName_dict, e1, e2]) rfl
  have D := (N (d, dictOf es n) (.tail _ (.head _))).1
  have D' := (U2 (d, dictOf es' n') (.tail _ (.head _))).1
  refine wpAny_bind (wpAny_pure (wpAny_bind (wpAny_bind (wpAny_loadPart (N _ (.head _)).1 (wpAny_bind ((looks_clsIn X hc) _ _ _ _ (fun _ _ e => e) ?_))))))
  rw [hh]
  refine wpAny_pure (a := some d) (wpAny_bind (wpAny_pure (wpAny_bind ?_)))
  unfold nsSet
  refine wpAny_bind (wpAny_bind (wpAny_askSetting (wpAny_pure (wpAny_bind (wpAny_mkText (wpAny_bind (wpAny_loadPart D ?_)))))))
  have hl' : lookIn name (dictOf es n) = getL name es := lookIn_dict ..
  have c : (!es.toArray.any (·.key.isStr name) && es.toArray.any (·.refKey)) = false := by
    have hq : (lookIn name (dictOf es n)).isSome = true := by rw [hl']; exact hl
    unfold lookIn at hq
    simp only at hq
    rw [List.any_toArray, List.any_toArray]
    split at hq
    · rename_i en he
      rw [List.any_eq_true.mpr ⟨en, List.mem_of_find?_eq_some he, List.find?_some he⟩]; rfl
    · split at hq
      · cases hq
      · rename_i z; rw [Bool.not_eq_true] at z; rw [show es.any (·.refKey) = false from z, Bool.and_false]
  show wpAny _ _ (if aRefKeyMayBeTheName name es.toArray = true then _ else _) _ _ _
  rw [aRefKeyMayBeTheName_at, c, if_neg Bool.false_ne_true]
  refine wpAny_updatePart D ?_
  refine wpAny_bind (wpAny_lookBehind D' (pastItsLine_dict (by rw [Lst, sizeLine_eq]; omega)) ?_)
  exact wpAny_pure (h _ U1 U2 fun n2 N2 off => upd_others N2 fun p hp e => off p hp (e ▸ .head _))
end
end
section
open PySem PySem.W PySem.Calls PyProof.Rows PyProof.V PySem.Spec PyProof.Rows.LCg
section
variable {prog : Program} {w : World} {A : Around} {E : Value -> Shared -> Prop} {s : Shared} {env : Env} {h₀ : Heap} {target iter : Expr} {body : List Stmt} {Q : Flow -> Shared -> Prop}
inductive LoopOn (h₀ : Heap) (L I : Addr) (oI : Obj) (r : (Str -> Option Value) -> List (Addr × Obj) -> Shared -> Prop) (s : Shared) : Prop
  | mk : ∀ m news, Fr h₀ L s.heap m -> News h₀ L s.heap ((I, oI) :: news) -> (∀ p ∈ news, p.1 ≠ I) -> r m news s -> LoopOn h₀ L I oI r s
noncomputable def LoopEnd (h₀ : Heap) (L I : Addr) (oI : Obj) (r : (Str -> Option Value) -> List (Addr × Obj) -> Shared -> Prop) (Q : Flow -> Shared -> Prop) (f : Flow) (s : Shared) : Prop :=
  match f with
  | .next => LoopOn h₀ L I oI r s
  | .cont => LoopOn h₀ L I oI r s
  | .brk => Q .next s
  | .ret v => Q (.ret v) s
noncomputable def LoopTo (h₀ : Heap) (L I : Addr) (oI : Obj) (r : (Str -> Option Value) -> List (Addr × Obj) -> Shared -> Prop) (Q Qt : Flow -> Shared -> Prop) : Prop := ∀ f s, LoopEnd h₀ L I oI r Q f s -> Qt f s
theorem LoopTo.go {h₀ : Heap} {L I : Addr} {oI : Obj} {r : (Str -> Option Value) -> List (Addr × Obj) -> Shared -> Prop} {Q Qt : Flow -> Shared -> Prop} {f : Flow} {s : Shared} (h : LoopTo h₀ L I oI r Q Qt) (k : LoopEnd h₀ L I oI r Q f s) : Qt f s := h f s k
inductive LoopOnH (h₀ : Heap) (L I : Addr) (oI : Obj) (s₁ : Shared) (Src : Heap -> Prop) (r : (Str -> Option Value) -> List (Addr × Obj) -> Prop) (s : Shared) : Prop
  | mk : ∀ m news hp tk, s = { s₁ with heap := hp, toks := tk } -> Fr h₀ L hp m -> News h₀ L hp ((I, oI) :: news) -> (∀ p ∈ news, p.1 ≠ I) -> Src hp -> r m news -> LoopOnH h₀ L I oI s₁ Src r s
noncomputable def LoopEndH (h₀ : Heap) (L I : Addr) (oI : Obj) (s₁ : Shared) (Src : Heap -> Prop) (r : (Str -> Option Value) -> List (Addr × Obj) -> Prop) (Q : Flow -> Shared -> Prop) (f : Flow) (s : Shared) : Prop :=
  match f with
  | .next => LoopOnH h₀ L I oI s₁ Src r s
  | .cont => LoopOnH h₀ L I oI s₁ Src r s
  | .brk => Q .next s
  | .ret v => Q (.ret v) s
noncomputable def LoopToH (h₀ : Heap) (L I : Addr) (oI : Obj) (s₁ : Shared) (Src : Heap -> Prop) (r : (Str -> Option Value) -> List (Addr × Obj) -> Prop) (Q Qt : Flow -> Shared -> Prop) : Prop := ∀ f s, LoopEndH h₀ L I oI s₁ Src r Q f s -> Qt f s
theorem LoopToH.go {h₀ : Heap} {L I : Addr} {oI : Obj} {s₁ : Shared} {Src : Heap -> Prop} {r : (Str -> Option Value) -> List (Addr × Obj) -> Prop} {Q Qt : Flow -> Shared -> Prop} {f : Flow} {s : Shared} (h : LoopToH h₀ L I oI s₁ Src r Q Qt) (k : LoopEndH h₀ L I oI s₁ Src r Q f s) : Qt f s := h f s k
noncomputable def SameH (s₁ s : Shared) : Prop := s.gens = s₁.gens ∧ s.os = s₁.os ∧ s.drawn = s₁.drawn
theorem SameH.eq {s₁ s : Shared} (h : SameH s₁ s) : s = { s₁ with heap := s.heap, toks := s.toks } := by
  obtain ⟨a, b, c⟩ := h
  cases s
  cases s₁
  cases a
  cases b
  cases c
  rfl
theorem loopH {h₀ : Heap} {L I : Addr} {oI : Obj} {s₁ : Shared} {Src : Heap -> Prop} {J : (Str -> Option Value) -> List (Addr × Obj) -> Prop} {Q Qt : Flow -> Shared -> Prop} {r : (Str -> Option Value) -> List (Addr × Obj) -> Shared -> Prop}
    (hr : ∀ m n s, Src s.heap -> SameH s₁ s -> J m n -> r m n s) (k : LoopTo h₀ L I oI r Q Qt) : LoopToH h₀ L I oI s₁ Src J Q Qt := fun f s h => k f s (by
  cases f with
  | next => obtain ⟨m, n, hp, tk, rfl, F, N, off, S, j⟩ := h; exact ⟨m, n, F, N, off, hr _ _ _ S ⟨rfl, rfl, rfl⟩ j⟩
  | cont => obtain ⟨m, n, hp, tk, rfl, F, N, off, S, j⟩ := h; exact ⟨m, n, F, N, off, hr _ _ _ S ⟨rfl, rfl, rfl⟩ j⟩
  | brk => exact h
  | ret v => exact h)
theorem loop_core {I : Addr} {fp : List Addr} {n : Nat} {P : Nat -> Value -> Prop} {St : Nat -> Heap -> Prop} {Src : Heap -> Prop} {m : Str -> Option Value} {news : List (Addr × Obj)}
    (W : Walks prog w A I fp [I] n P St) (hgo : ∀ i v (s : Shared) (Q : Unit -> Shared -> Prop) (E : Value -> Shared -> Prop), St i s.heap -> Q () s -> wpAny (model prog w) A (letOwnedTupleGo target (.ref I) v) Q E s)
    (hIo : ∀ i h, St i h -> ∃ o, h.get? I = some o) (hSt : ∀ i h h' o, St i h -> h.get? I = some o -> h'.get? I = some o -> Src h' -> St i h')
    (J : Nat -> (Str -> Option Value) -> List (Addr × Obj) -> Shared -> Prop) (hJ : ∀ i m news s h tk, J i m news s -> J i m news { s with heap := h, toks := tk })
    (hst : St 0 s.heap) (F : Fr h₀ env.locals s.heap m) (N : News h₀ env.locals s.heap news) (hIL : env.locals ≠ I) (hI₀ : h₀.get? I = none) (off : ∀ p ∈ news, p.1 ≠ I) (h0 : J 0 m news s)
    (step : ∀ i v m₁ news₁ s₁ oI, i < n -> P i v -> J i m₁ news₁ s₁ -> St (i + 1) s₁.heap -> Fr h₀ env.locals s₁.heap m₁ -> News h₀ env.locals s₁.heap ((I, oI) :: news₁) -> (∀ p ∈ news₁, p.1 ≠ I) ->
      wpAny (model prog w) A (assign target env v) (fun _ s₂ => wpAny (model prog w) A (execs body env) (LoopEnd h₀ env.locals I oI (fun m n s => Src s.heap ∧ J (i + 1) m n s) Q) E s₂) E s₁)
    (done : ∀ m₁ news₁ s₁, J n m₁ news₁ s₁ -> Fr h₀ env.locals s₁.heap m₁ -> News h₀ env.locals s₁.heap news₁ -> Q .next s₁)
    (hE : PassesOwn (model prog w) A env E) :
    codeAny (model prog w) A (.forLoop target (.ref I) body [] env) (fun r s' => match r with | .ok f => Q f s' | .error e => cameBackBy (model prog w) A env E e s') s := by
  revert W hgo hIo hSt hJ hst F N hIL hI₀ off h0 step done hE
  revert prog w A E s env h₀ target body Q I fp n P St Src m news J
  apply frz19; case n => walk_at "FZN"
  intro prog w A E s env h₀ target body Q I fp n P St Src m news J
  clear_value prog w A E s env h₀ target body Q I fp n P St Src m news J
  intro W hgo hIo hSt hJ hst F N hIL hI₀ off h0 step done hE
  refine codeAny_forLoop_any
    (fun k s' => ∃ m' news' i, St i s'.heap ∧ Fr h₀ env.locals s'.heap m' ∧ News h₀ env.locals s'.heap news' ∧ (∀ p ∈ news', p.1 ≠ I) ∧ J i m' news' s' ∧ i ≤ n ∧ k = n + 1 - i) ?_ (n + 1)
    ⟨m, news, 0, hst, F, N, off, h0, Nat.zero_le _, rfl⟩
  rintro k s' ⟨m', news', i, hst', F', N', off', hJ', hi, rfl⟩
  by_cases hlt : i < n
  · refine W.item i _ _ _ hlt hst' fun v h₁ tk₁ hP hst₁ hk₁ => ?_
    refine hgo (i + 1) v _ _ _ hst₁ ?_
    obtain ⟨oI, heI⟩ := hIo _ _ hst₁
    have F₁ : Fr h₀ env.locals h₁ m' := fr_but F' hk₁ hIL hI₀
    have N₁ : News h₀ env.locals h₁ ((I, oI) :: news') := fun p hp => by
      rcases Lmc.mp hp with rfl | hp
      · exact ⟨heI, Ne.symm hIL, hI₀⟩
      · exact news_but N' hk₁ off' p hp
    refine wpAny_mono (wpAny_passesOwn hE (step i v m' news' { s' with heap := h₁, toks := tk₁ } oI hlt hP (hJ _ _ _ _ _ _ hJ') hst₁ F₁ N₁ off')) (fun _ s₂ h₂ => wpAny_mono (wpAny_passesOwn hE h₂) (fun f s₃ h₃ => ?_) fun _ _ e => e) fun _ _ e => e
    cases f with
    | ret v => exact h₃
    | brk => exact h₃
    | next =>
      obtain ⟨m₃, news₃, F₃, N₃, off₃, hs₃, hJ₃⟩ := h₃
      exact ⟨n + 1 - (i + 1), by omega, m₃, news₃, i + 1, hSt _ _ _ _ hst₁ heI (N₃ _ (.head _)).1 hs₃, F₃, fun p hp => N₃ p (.tail _ hp), off₃, hJ₃, hlt, rfl⟩
    | cont =>
      obtain ⟨m₃, news₃, F₃, N₃, off₃, hs₃, hJ₃⟩ := h₃
      exact ⟨n + 1 - (i + 1), by omega, m₃, news₃, i + 1, hSt _ _ _ _ hst₁ heI (N₃ _ (.head _)).1 hs₃, F₃, fun p hp => N₃ p (.tail _ hp), off₃, hJ₃, hlt, rfl⟩
  · obtain rfl : i = n := Nat.le_antisymm hi (Nat.not_lt.mp hlt)
    refine W.done _ _ _ hst' fun h₂ tk₂ hk₂ => ?_
    have F₂ : Fr h₀ env.locals h₂ m' := fr_but F' hk₂ hIL hI₀
    exact wpAny_execs_nil (done m' news' _ (hJ _ _ _ _ h₂ tk₂ hJ') F₂ (news_but N' hk₂ off'))
inductive SeqPost (prog : Program) (w : World) (A : Around) (E : Value -> Shared -> Prop) (h₀ : Heap) (env : Env) (target : Expr) (body : List Stmt) (Q : Flow -> Shared -> Prop) (xv : Value) (s₁ : Shared) : Prop
  | mk : ∀ (ax : Addr) (vs : List Value) (m : Str -> Option Value) (news : List (Addr × Obj)) (J : List Value -> (Str -> Option Value) -> List (Addr × Obj) -> Shared -> Prop), (xv = .ref ax) -> (A.handled = none) -> (Fr h₀ env.locals s₁.heap m) -> (News h₀ env.locals s₁.heap news) -> (SeqAt s₁.heap ax vs.toArray) -> ((∀ {Q' : Value -> Shared -> Prop}, Q' (.ref s₁.heap.objs.size) { s₁ with heap := s₁.heap.push { cls := .type "list_iterator", data := .fields #[.ref ax, .int 0 0] } } -> wpAny (model prog w) A (pyIter (.ref ax)) Q' E s₁)) -> ((∀ r m news s h tk, J r m news s -> J r m news { s with heap := h, toks := tk })) -> (J vs m news s₁) -> ((∀ I x r m₁ news₁ s₂ oI (Qt : Flow -> Shared -> Prop), J (x :: r) m₁ news₁ s₂ -> oI.cls = .type "list_iterator" -> Fr h₀ env.locals s₂.heap m₁ -> News h₀ env.locals s₂.heap ((I, oI) :: news₁) -> (∀ p ∈ news₁, p.1 ≠ I) -> SeqAt s₂.heap ax vs.toArray -> LoopTo h₀ env.locals I oI (fun m n s => SeqAt s.heap ax vs.toArray ∧ J r m n s) Q Qt -> wpAny (model prog w) A (assign target env x) (fun _ s₃ => wpAny (model prog w) A (execs body env) Qt E s₃) E s₂)) -> ((∀ m₁ news₁ s₂, J [] m₁ news₁ s₂ -> Fr h₀ env.locals s₂.heap m₁ -> News h₀ env.locals s₂.heap news₁ -> Q .next s₂)) -> SeqPost prog w A E h₀ env target body Q xv s₁
theorem For_seq {pos : Pos}
    (h : wpAny (model prog w) A (eval iter env) (SeqPost prog w A E h₀ env target body Q) E s)
    (hs : ∀ x, foldedSetIterable iter env x = pure x)
    (hE : PassesOwn (model prog w) A env E) :
    wpAny (model prog w) A (exec (.For target iter body [] pos) env) Q E s := by
  refine wpAny_For (wpAny_mono h (fun xv s₁ h₁ => ?_) fun _ _ e => e) hs
  obtain ⟨ax, vs, m, news, J, rfl, hh, F, N, hl, hit, hJ, h0, step, done⟩ := h₁
  refine hit ?_
  have up : ∀ b o, s₁.heap.get? b = some o -> (s₁.heap.push { cls := .type "list_iterator", data := .fields #[.ref ax, .int 0 0] }).get? b = some o := fun b o e => Heap.get?_push_of_some _ e
  have hlt : ax < s₁.heap.objs.size := by obtain ⟨_, _, e, _⟩ := hl; exact Hls e
  have W := walks_seq (prog := prog) (w := w) hh s₁.heap.objs.size ax (Nnl hlt) vs.toArray
  rw [Lst] at W
  refine loop_core (Src := fun h => SeqAt h ax vs.toArray) (St := fun i h => h.IsListIter s₁.heap.objs.size ax i ∧ SeqAt h ax vs.toArray) (P := fun i v => vs[i]? = some v) (by simpa using W) (fun i v s Q E st q => letGo_listiter st.1 q) (fun i h st => by obtain ⟨o, e, _⟩ := st.1; exact ⟨o, e⟩)
    (fun i h h' o st e e' S => ⟨by obtain ⟨o', q, r⟩ := st.1; rw [e] at q; cases q; exact ⟨o, e', r⟩, S⟩) (fun i => J (vs.drop i)) (fun i => hJ _) ⟨⟨_, Heap.get?_push_size _ rfl, rfl, rfl⟩, hl.at fun o e => up _ o e⟩
    (F.keeps up) (N.grown up) (Nnl F.ns.lt) (next_is_new F) (fun p hp => Nnl (Hls (N p hp).1)) (by rw [Ldz]; exact hJ _ _ _ _ _ _ h0) ?_ (fun m₁ news₁ s₂ j F N => done m₁ news₁ s₂ (by rw [List.drop_length] at j; exact j) F N) hE
  intro i v m₁ news₁ s₂ oI hi hP hJ' hst F' N' off'
  have hd : vs.drop i = v :: vs.drop (i + 1) := by
    rw [List.drop_eq_getElem_cons hi]
    rw [List.getElem?_eq_getElem hi] at hP
    rw [Option.some.inj hP]
  have hc : oI.cls = .type "list_iterator" := by
    obtain ⟨o', q, hc, _⟩ := hst.1
    have := (N' _ (.head _)).1
    rw [q] at this
    cases this
    exact hc
  rw [hd] at hJ'
  exact step _ v _ m₁ news₁ s₂ oI _ hJ' hc F' N' off' hst.2 (fun _ _ k => k)
theorem letGo_reviter {target : Expr} {I t : Addr} {i : Int} {v : Value} {Q' : Unit -> Shared -> Prop} {s' : Shared} (hit : s'.heap.IsRevIter I t i) (h : Q' () s') :
    wpAny (model prog w) A (letOwnedTupleGo target (.ref I) v) Q' E s' := by
  obtain ⟨o, ho, hc, hd⟩ := hit
  unfold letOwnedTupleGo
  cases target <;> first
    | exact wpAny_pure h
    | (cases v <;> first
        | exact wpAny_pure h
        | (refine wpAny_bind (wpAny_load ho ?_)
           rw [hc, hd]
           exact wpAny_pure h))
theorem letGo_rangeiter {target : Expr} {I : Addr} {a b c : Int} {v : Value} {Q' : Unit -> Shared -> Prop} {s' : Shared} (hit : IsRangeIter s'.heap I a b c) (h : Q' () s') :
    wpAny (model prog w) A (letOwnedTupleGo target (.ref I) v) Q' E s' := by
  have ho := hit
  unfold letOwnedTupleGo
  cases target <;> first
    | exact wpAny_pure h
    | (cases v <;> first
        | exact wpAny_pure h
        | (refine wpAny_bind (wpAny_load ho ?_)
           exact wpAny_pure h))
inductive RevPost (prog : Program) (w : World) (A : Around) (E : Value -> Shared -> Prop) (h₀ : Heap) (env : Env) (target : Expr) (body : List Stmt) (Q : Flow -> Shared -> Prop) (xv : Value) (s₁ : Shared) : Prop
  | mk : ∀ (I ax : Addr) (vs : List Value) (m : Str -> Option Value) (news : List (Addr × Obj)) (J : List Value -> (Str -> Option Value) -> List (Addr × Obj) -> Shared -> Prop), (xv = .ref I) -> (A.handled = none) -> (Fr h₀ env.locals s₁.heap m) -> (News h₀ env.locals s₁.heap ((I, revObj ax ((vs.length : Int) - 1)) :: news)) -> ((∀ p ∈ news, p.1 ≠ I)) -> (s₁.heap.IsList ax vs.toArray) -> ((∀ r m news s h tk, J r m news s -> J r m news { s with heap := h, toks := tk })) -> (J vs.reverse m news s₁) -> ((∀ I x r m₁ news₁ s₂ oI (Qt : Flow -> Shared -> Prop), J (x :: r) m₁ news₁ s₂ -> oI.cls = .type "list_reverseiterator" -> Fr h₀ env.locals s₂.heap m₁ -> News h₀ env.locals s₂.heap ((I, oI) :: news₁) -> (∀ p ∈ news₁, p.1 ≠ I) -> s₂.heap.IsList ax vs.toArray -> LoopTo h₀ env.locals I oI (fun m n s => s.heap.IsList ax vs.toArray ∧ J r m n s) Q Qt -> wpAny (model prog w) A (assign target env x) (fun _ s₃ => wpAny (model prog w) A (execs body env) Qt E s₃) E s₂)) -> ((∀ m₁ news₁ s₂, J [] m₁ news₁ s₂ -> Fr h₀ env.locals s₂.heap m₁ -> News h₀ env.locals s₂.heap news₁ -> Q .next s₂)) -> RevPost prog w A E h₀ env target body Q xv s₁
theorem For_rev {pos : Pos}
    (h : wpAny (model prog w) A (eval iter env) (RevPost prog w A E h₀ env target body Q) E s)
    (hs : ∀ x, foldedSetIterable iter env x = pure x)
    (hE : PassesOwn (model prog w) A env E) :
    wpAny (model prog w) A (exec (.For target iter body [] pos) env) Q E s := by
  refine wpAny_For (wpAny_mono h (fun xv s₁ h₁ => ?_) fun _ _ e => e) hs
  obtain ⟨I, ax, vs, m, news, J, rfl, hh, F, N, off, hl, hJ, h0, step, done⟩ := h₁
  have hI := N _ (.head _)
  have hne : ax ≠ I := fun e => by
    obtain ⟨o, ho, hc, _⟩ := hl
    rw [e, hI.1] at ho
    cases ho
    exact absurd (show Value.type "list_reverseiterator" = Value.type "list" from hc) (by decide)
  have hit : s₁.heap.IsRevIter I ax ((vs.length : Int) - 1) := ⟨_, hI.1, rfl, rfl⟩
  refine wpAny_pyIter_revIter hit ?_
  have W := Walks.listRev (prog := prog) (w := w) hh I ax hne vs.toArray
  rw [Lst] at W
  refine loop_core (Src := fun h => h.IsList ax vs.toArray) (St := fun i h => i ≤ vs.length ∧ h.IsRevIter I ax ((vs.length : Int) - 1 - (i : Int)) ∧ h.IsList ax vs.toArray) (P := fun i v => vs.toArray[vs.length - 1 - i]? = some v) W (fun i v s Q E st q => letGo_reviter st.2.1 q) (fun i h st => by obtain ⟨o, e, _⟩ := st.2.1; exact ⟨o, e⟩)
    (fun i h h' o st e e' S => ⟨st.1, by obtain ⟨o', q, r⟩ := st.2.1; rw [e] at q; cases q; exact ⟨o, e', r⟩, S⟩) (fun i => J (vs.reverse.drop i)) (fun i => hJ _) ⟨Nat.zero_le _, by simpa using hit, hl⟩
    F (fun p hp => N p (.tail _ hp)) (Ne.symm hI.2.1) hI.2.2 off (by rw [Ldz]; exact h0) ?_ (fun m₁ news₁ s₂ j F N => done m₁ news₁ s₂ (by rw [← List.length_reverse, List.drop_length] at j; exact j) F N) hE
  intro i v m₁ news₁ s₂ oI hi hP hJ' hst F' N' off'
  have hi' : i < vs.reverse.length := by rw [List.length_reverse]; exact hi
  have hd : vs.reverse.drop i = v :: vs.reverse.drop (i + 1) := by
    rw [List.drop_eq_getElem_cons hi']
    have : vs.reverse[i] = v := by
      have e : vs.reverse[i]? = vs[vs.length - 1 - i]? := List.getElem?_reverse hi
      rw [List.getElem?_eq_getElem hi'] at e
      have hP' : vs[vs.length - 1 - i]? = some v := by simpa using hP
      exact Option.some.inj (e.trans hP')
    rw [this]
  have hc : oI.cls = .type "list_reverseiterator" := by
    obtain ⟨o', q, hc, _⟩ := hst.2.1
    have := (N' _ (.head _)).1
    rw [q] at this
    cases this
    exact hc
  rw [hd] at hJ'
  exact step _ v _ m₁ news₁ s₂ oI _ hJ' hc F' N' off' hst.2.2 (fun _ _ k => k)
inductive SeqPostH (prog : Program) (w : World) (A : Around) (E : Value -> Shared -> Prop) (h₀ : Heap) (env : Env) (target : Expr) (body : List Stmt) (Q : Flow -> Shared -> Prop) (xv : Value) (s₁ : Shared) : Prop
  | mk : ∀ (ax : Addr) (vs : List Value) (m : Str -> Option Value) (news : List (Addr × Obj)) (J : List Value -> (Str -> Option Value) -> List (Addr × Obj) -> Prop), xv = .ref ax -> A.handled = none -> Fr h₀ env.locals s₁.heap m -> News h₀ env.locals s₁.heap news -> SeqAt s₁.heap ax vs.toArray -> (∀ {Q' : Value -> Shared -> Prop}, Q' (.ref s₁.heap.objs.size) { s₁ with heap := s₁.heap.push { cls := .type "list_iterator", data := .fields #[.ref ax, .int 0 0] } } -> wpAny (model prog w) A (pyIter (.ref ax)) Q' E s₁) -> J vs m news ->
      (∀ I x r m₁ news₁ hp tk oI (Qt : Flow -> Shared -> Prop), J (x :: r) m₁ news₁ -> oI.cls = .type "list_iterator" -> Fr h₀ env.locals hp m₁ -> News h₀ env.locals hp ((I, oI) :: news₁) -> (∀ p ∈ news₁, p.1 ≠ I) -> SeqAt hp ax vs.toArray -> LoopToH h₀ env.locals I oI s₁ (fun h => SeqAt h ax vs.toArray) (J r) Q Qt ->
        wpAny (model prog w) A (assign target env x) (fun _ s₃ => wpAny (model prog w) A (execs body env) Qt E s₃) E { s₁ with heap := hp, toks := tk }) ->
      (∀ m₁ news₁ hp tk, J [] m₁ news₁ -> Fr h₀ env.locals hp m₁ -> News h₀ env.locals hp news₁ -> Q .next { s₁ with heap := hp, toks := tk }) -> SeqPostH prog w A E h₀ env target body Q xv s₁
inductive RevPostH (prog : Program) (w : World) (A : Around) (E : Value -> Shared -> Prop) (h₀ : Heap) (env : Env) (target : Expr) (body : List Stmt) (Q : Flow -> Shared -> Prop) (xv : Value) (s₁ : Shared) : Prop
  | mk : ∀ (I0 ax : Addr) (vs : List Value) (m : Str -> Option Value) (news : List (Addr × Obj)) (J : List Value -> (Str -> Option Value) -> List (Addr × Obj) -> Prop), xv = .ref I0 -> A.handled = none -> Fr h₀ env.locals s₁.heap m -> News h₀ env.locals s₁.heap ((I0, revObj ax ((vs.length : Int) - 1)) :: news) -> (∀ p ∈ news, p.1 ≠ I0) -> s₁.heap.IsList ax vs.toArray -> J vs.reverse m news ->
      (∀ I x r m₁ news₁ hp tk oI (Qt : Flow -> Shared -> Prop), J (x :: r) m₁ news₁ -> oI.cls = .type "list_reverseiterator" -> Fr h₀ env.locals hp m₁ -> News h₀ env.locals hp ((I, oI) :: news₁) -> (∀ p ∈ news₁, p.1 ≠ I) -> hp.IsList ax vs.toArray -> LoopToH h₀ env.locals I oI s₁ (fun h => h.IsList ax vs.toArray) (J r) Q Qt ->
        wpAny (model prog w) A (assign target env x) (fun _ s₃ => wpAny (model prog w) A (execs body env) Qt E s₃) E { s₁ with heap := hp, toks := tk }) ->
      (∀ m₁ news₁ hp tk, J [] m₁ news₁ -> Fr h₀ env.locals hp m₁ -> News h₀ env.locals hp news₁ -> Q .next { s₁ with heap := hp, toks := tk }) -> RevPostH prog w A E h₀ env target body Q xv s₁
theorem For_seqH {pos : Pos} (h : wpAny (model prog w) A (eval iter env) (SeqPostH prog w A E h₀ env target body Q) E s)
    (hs : ∀ x, foldedSetIterable iter env x = pure x)
    (hE : PassesOwn (model prog w) A env E) :
    wpAny (model prog w) A (exec (.For target iter body [] pos) env) Q E s := by
  refine For_seq (h₀ := h₀) (wpAny_mono h (fun xv s₁ h₁ => ?_) fun _ _ e => e) hs hE
  obtain ⟨ax, vs, m, news, J, e, hh, F, N, hl, hit, h0, step, done⟩ := h₁
  refine ⟨ax, vs, m, news, fun r m n s => SameH s₁ s ∧ J r m n, e, hh, F, N, hl, hit, fun r m news s h tk j => j, ⟨⟨rfl, rfl, rfl⟩, h0⟩, fun I x r m₁ news₁ s₂ oI Qt j hc F N off S k => ?_, fun m₁ news₁ s₂ j F N => ?_⟩
  · have e := j.1.eq
    have z := step I x r m₁ news₁ s₂.heap s₂.toks oI Qt j.2 hc F N off S (loopH (fun m n s S a b => ⟨S, a, b⟩) k)
    rwa [← e] at z
  · have z := done m₁ news₁ s₂.heap s₂.toks j.2 F N
    rwa [← j.1.eq] at z
theorem For_revH {pos : Pos} (h : wpAny (model prog w) A (eval iter env) (RevPostH prog w A E h₀ env target body Q) E s)
    (hs : ∀ x, foldedSetIterable iter env x = pure x)
    (hE : PassesOwn (model prog w) A env E) :
    wpAny (model prog w) A (exec (.For target iter body [] pos) env) Q E s := by
  refine For_rev (h₀ := h₀) (wpAny_mono h (fun xv s₁ h₁ => ?_) fun _ _ e => e) hs hE
  obtain ⟨I0, ax, vs, m, news, J, e, hh, F, N, off, hl, h0, step, done⟩ := h₁
  refine ⟨I0, ax, vs, m, news, fun r m n s => SameH s₁ s ∧ J r m n, e, hh, F, N, off, hl, fun r m news s h tk j => j, ⟨⟨rfl, rfl, rfl⟩, h0⟩, fun I x r m₁ news₁ s₂ oI Qt j hc F N off S k => ?_, fun m₁ news₁ s₂ j F N => ?_⟩
  · have e := j.1.eq
    have z := step I x r m₁ news₁ s₂.heap s₂.toks oI Qt j.2 hc F N off S (loopH (Src := fun h => h.IsList ax vs.toArray) (fun m n s S a b => ⟨S, a, b⟩) k)
    rwa [← e] at z
  · have z := done m₁ news₁ s₂.heap s₂.toks j.2 F N
    rwa [← j.1.eq] at z
end
end
section
theorem nmG_local {prog : Program} {w : World} {A : Around} {E : Value -> Shared -> Prop} {s : Shared} {scope : Scope} {cl : List (Str × Addr)} {C bi : Addr} {code : Value} {env : Env} {g : Heap} {m : Str -> Option Value} {x : Str} {pos : Pos} {v : Value} {Q : Value -> Shared -> Prop} (F : Fr g C s.heap m) (hv : m x = some v) (h : Q v s)
    (hk : scope.kind = .function) (hl : (genEnv scope cl C code bi env).kindOf x = some .local) (hd : (x == ("__debug__" : Str)) = false) :
    wpAny (model prog w) A (eval (.Name x pos) (genEnv scope cl C code bi env)) Q E s := wpAny_Name (wpAny_loadName_local hk hl F.ns hv h) hd
theorem nmG_built {prog : Program} {w : World} {A : Around} {E : Value -> Shared -> Prop} {s : Shared} {K : Frag} {scope : Scope} {cl : List (Str × Addr)} {C : Addr} {code : Value} {env : Env} {g : Heap} {m mg mb : Str -> Option Value} {p : Program} {loose : List Str} {mean : ExcName -> Option Value} {x : Str} {pos : Pos} {v : Value} {Q : Value -> Shared -> Prop} (F : Fr g C s.heap m) (X : K.In g) (T : Top p loose mean mg mb g)
    (e : nsIn K mainGlobals x = some none) (hv : bootBuiltins x = some v) (hn : x ≠ "__name__") (h : Q v s) (hg : env.globals = mainGlobals)
    (hk : scope.kind = .function) (hx : (genEnv scope cl C code builtinsNs env).kindOf x = some .globalImplicit) (hd : (x == ("__debug__" : Str)) = false) :
    wpAny (model prog w) A (eval (.Name x pos) (genEnv scope cl C code builtinsNs env)) Q E s :=
  Name_function_global hk hx (loadGlobal_builtin (env := genEnv scope cl C code builtinsNs env) (show s.heap.Ns env.globals mg from hg ▸ (T.keeps F.keep).g) (mg_none_of X T.g e) (T.keeps F.keep).b ((T.builtins x hn).trans hv) h) hd
theorem nmG_glob {prog : Program} {w : World} {A : Around} {E : Value -> Shared -> Prop} {s : Shared} {K : Frag} {scope : Scope} {cl : List (Str × Addr)} {C : Addr} {code : Value} {env : Env} {g : Heap} {m mg mb : Str -> Option Value} {p : Program} {loose : List Str} {mean : ExcName -> Option Value} {x : Str} {pos : Pos} {v : Value} {Q : Value -> Shared -> Prop} (F : Fr g C s.heap m) (X : K.In g) (T : Top p loose mean mg mb g)
    (e : nsIn K mainGlobals x = some (some v)) (h : Q v s) (hg : env.globals = mainGlobals)
    (hk : scope.kind = .function) (hx : (genEnv scope cl C code builtinsNs env).kindOf x = some .globalImplicit) (hd : (x == ("__debug__" : Str)) = false) :
    wpAny (model prog w) A (eval (.Name x pos) (genEnv scope cl C code builtinsNs env)) Q E s :=
  Name_function_global hk hx (loadGlobal_global (env := genEnv scope cl C code builtinsNs env) (show s.heap.Ns env.globals mg from hg ▸ (T.keeps F.keep).g) (mg_of X T.g e) h) hd
end
section
open PySem PySem.W PySem.Calls PyProof.Rows PyProof.V PySem.Spec PyProof.Rows.LCg
section
variable {prog : Program} {w : World} {A : Around} {E : Value -> Shared -> Prop} {s : Shared} {env : Env} {h₀ : Heap} {target iter : Expr} {body : List Stmt} {Q : Flow -> Shared -> Prop}
inductive RangePost (prog : Program) (w : World) (A : Around) (E : Value -> Shared -> Prop) (h₀ : Heap) (env : Env) (target : Expr) (body : List Stmt) (Q : Flow -> Shared -> Prop) (xv : Value) (s₁ : Shared) : Prop
  | mk : ∀ (a : Addr) (n : Nat) (t u v : Tok) (m : Str -> Option Value) (news : List (Addr × Obj)) (J : Nat -> (Str -> Option Value) -> List (Addr × Obj) -> Shared -> Prop), (xv = .ref a) -> (A.handled = none) -> (n ≤ 100000) -> (Fr h₀ env.locals s₁.heap m) -> (News h₀ env.locals s₁.heap news) -> (IsRange s₁.heap a 0 (n : Int) 1 t u v) -> ((∀ r m news s h tk, J r m news s -> J r m news { s with heap := h, toks := tk })) -> (J 0 m news s₁) -> ((∀ I i x t m₁ news₁ s₂ oI (Qt : Flow -> Shared -> Prop), i < n -> x = .int (i : Int) t -> J i m₁ news₁ s₂ -> oI.cls = .type "range_iterator" -> Fr h₀ env.locals s₂.heap m₁ -> News h₀ env.locals s₂.heap ((I, oI) :: news₁) -> (∀ p ∈ news₁, p.1 ≠ I) -> LoopTo h₀ env.locals I oI (fun m n s => J (i + 1) m n s) Q Qt -> wpAny (model prog w) A (assign target env x) (fun _ s₃ => wpAny (model prog w) A (execs body env) Qt E s₃) E s₂)) -> ((∀ m₁ news₁ s₂, J n m₁ news₁ s₂ -> Fr h₀ env.locals s₂.heap m₁ -> News h₀ env.locals s₂.heap news₁ -> Q .next s₂)) -> RangePost prog w A E h₀ env target body Q xv s₁
theorem For_range {pos : Pos}
    (h : wpAny (model prog w) A (eval iter env) (RangePost prog w A E h₀ env target body Q) E s)
    (hs : ∀ x, foldedSetIterable iter env x = pure x)
    (hE : PassesOwn (model prog w) A env E) :
    wpAny (model prog w) A (exec (.For target iter body [] pos) env) Q E s := by
  refine wpAny_For (wpAny_mono h (fun xv s₁ h₁ => ?_) fun _ _ e => e) hs
  obtain ⟨a, n, t, u, v, m, news, J, rfl, hh, hn, F, N, hr, hJ, h0, step, done⟩ := h₁
  have hz : Builtin.Range.rangeSize 0 (n : Int) 1 = (n : Int) := by unfold Builtin.Range.rangeSize; simp; omega
  have hsm : Builtin.Range.small 0 (n : Int) 1 = true := small_one (by decide) (by decide) (by omega) (by omega)
  refine wpAny_pyIter_range hr hsm ?_
  rw [hz]
  have up : ∀ b o, s₁.heap.get? b = some o -> (s₁.heap.push { cls := .type "range_iterator", data := .fields #[rawInt 0, rawInt (n : Int), rawInt 1] }).get? b = some o := fun b o e => Heap.get?_push_of_some _ e
  have W := Walks.range (prog := prog) (w := w) hh s₁.heap.objs.size 0 1 n
  refine loop_core (Src := fun _ => True) (St := fun i h => IsRangeIter h s₁.heap.objs.size (0 + (i : Nat) * 1) ((n : Int) - (i : Nat)) 1) (P := fun i v => ∃ t, v = .int (0 + (i : Nat) * 1) t) W (fun i v s Q E st q => letGo_rangeiter st q) (fun i h st => ⟨_, st⟩)
    (fun i h h' o st e e' _ => by rw [st] at e; cases e; exact e') J hJ (by
      show Heap.get? _ _ = some _
      rw [Heap.get?_push_size _ rfl]; simp)
    (F.keeps up) (N.grown up) (Nnl F.ns.lt) (next_is_new F) (fun p hp => Nnl (Hls (N p hp).1)) (hJ _ _ _ _ _ _ h0) ?_ done hE
  rintro i x m₁ news₁ s₂ oI hi ⟨t, rfl⟩ hJ' hst F' N' off'
  have hc : oI.cls = .type "range_iterator" := by
    have := (N' _ (.head _)).1
    rw [hst] at this
    cases this
    rfl
  refine wpAny_mono (step _ i _ t m₁ news₁ s₂ oI _ hi (by simp) hJ' hc F' N' off' (fun _ _ k => k)) (fun _ s₃ h₃ => wpAny_mono h₃ (fun f s₄ h₄ => ?_) fun _ _ e => e) fun _ _ e => e
  cases f with
  | next => obtain ⟨m, n, a, b, c, d⟩ := h₄; exact ⟨m, n, a, b, c, trivial, d⟩
  | cont => obtain ⟨m, n, a, b, c, d⟩ := h₄; exact ⟨m, n, a, b, c, trivial, d⟩
  | brk => exact h₄
  | ret v => exact h₄
inductive RangePostH (prog : Program) (w : World) (A : Around) (E : Value -> Shared -> Prop) (h₀ : Heap) (env : Env) (target : Expr) (body : List Stmt) (Q : Flow -> Shared -> Prop) (xv : Value) (s₁ : Shared) : Prop
  | mk : ∀ (a : Addr) (n : Nat) (t u v : Tok) (m : Str -> Option Value) (news : List (Addr × Obj)) (J : Nat -> (Str -> Option Value) -> List (Addr × Obj) -> Prop), xv = .ref a -> A.handled = none -> n ≤ 100000 -> Fr h₀ env.locals s₁.heap m -> News h₀ env.locals s₁.heap news -> IsRange s₁.heap a 0 (n : Int) 1 t u v -> J 0 m news ->
      (∀ I i x t m₁ news₁ hp tk oI (Qt : Flow -> Shared -> Prop), i < n -> x = .int (i : Int) t -> J i m₁ news₁ -> oI.cls = .type "range_iterator" -> Fr h₀ env.locals hp m₁ -> News h₀ env.locals hp ((I, oI) :: news₁) -> (∀ p ∈ news₁, p.1 ≠ I) -> LoopToH h₀ env.locals I oI s₁ (fun _ => True) (J (i + 1)) Q Qt ->
        wpAny (model prog w) A (assign target env x) (fun _ s₃ => wpAny (model prog w) A (execs body env) Qt E s₃) E { s₁ with heap := hp, toks := tk }) ->
      (∀ m₁ news₁ hp tk, J n m₁ news₁ -> Fr h₀ env.locals hp m₁ -> News h₀ env.locals hp news₁ -> Q .next { s₁ with heap := hp, toks := tk }) -> RangePostH prog w A E h₀ env target body Q xv s₁
theorem For_rangeH {pos : Pos} (h : wpAny (model prog w) A (eval iter env) (RangePostH prog w A E h₀ env target body Q) E s)
    (hs : ∀ x, foldedSetIterable iter env x = pure x)
    (hE : PassesOwn (model prog w) A env E) :
    wpAny (model prog w) A (exec (.For target iter body [] pos) env) Q E s := by
  refine For_range (h₀ := h₀) (wpAny_mono h (fun xv s₁ h₁ => ?_) fun _ _ e => e) hs hE
  obtain ⟨a, n, t, u, v, m, news, J, e, hh, hn, F, N, hr, h0, step, done⟩ := h₁
  refine ⟨a, n, t, u, v, m, news, fun i m n s => SameH s₁ s ∧ J i m n, e, hh, hn, F, N, hr, fun r m news s h tk j => j, ⟨⟨rfl, rfl, rfl⟩, h0⟩, fun I i x t m₁ news₁ s₂ oI Qt hi hx j hc F N off k => ?_, fun m₁ news₁ s₂ j F N => ?_⟩
  · have e := j.1.eq
    have z := step I i x t m₁ news₁ s₂.heap s₂.toks oI Qt hi hx j.2 hc F N off (loopH (fun m n s S a b => ⟨a, b⟩) k)
    rwa [← e] at z
  · have z := done m₁ news₁ s₂.heap s₂.toks j.2 F N
    rwa [← j.1.eq] at z
end
end
section
/- the plain law of Moore and Hodgson; no program in sight -/
set_option autoImplicit false
noncomputable def ins (p : Nat) : List Nat -> List Nat
  | [] => [p]
  | x :: l => if p ≤ x then p :: x :: l else x :: ins p l
noncomputable def Rising : List Nat -> Prop
  | [] => True
  | x :: l => (∀ y ∈ l, x ≤ y) ∧ Rising l
theorem mem_ins {p y : Nat} : ∀ {l : List Nat}, y ∈ ins p l ↔ y = p ∨ y ∈ l
  | [] => by simp [ins]
  | x :: l => by
    unfold ins
    split
    · simp
    · rw [Lmc, mem_ins (l := l), Lmc]
      constructor
      · rintro (h | h | h)
        · exact .inr (.inl h)
        · exact .inl h
        · exact .inr (.inr h)
      · rintro (h | h | h)
        · exact .inr (.inl h)
        · exact .inl h
        · exact .inr (.inr h)
theorem Rising.ins {p : Nat} : ∀ {l : List Nat}, Rising l -> Rising (ins p l)
  | [], _ => ⟨(fun _ h => nomatch h), trivial⟩
  | x :: l, h => by
    unfold Mine.ins
    split
    · rename_i hp
      refine ⟨fun y hy => ?_, h⟩
      rcases Lmc.mp hy with rfl | hy
      · exact hp
      · exact Nlt hp (h.1 y hy)
    · rename_i hp
      refine ⟨fun y hy => ?_, h.2.ins⟩
      rcases mem_ins.mp hy with rfl | hy
      · omega
      · exact h.1 y hy
theorem length_ins (p : Nat) : ∀ l : List Nat, (ins p l).length = l.length + 1
  | [] => rfl
  | x :: l => by
    unfold ins
    split
    · rfl
    · rw [Llc, length_ins p l, Llc]
theorem sum_ins (p : Nat) : ∀ l : List Nat, (ins p l).sum = l.sum + p
  | [] => by simp [ins]
  | x :: l => by
    unfold ins
    split
    · simp; omega
    · rw [List.sum_cons, sum_ins p l, List.sum_cons]; omega
noncomputable def sm (c : Nat) (l : List Nat) : Nat := (l.take c).sum
theorem sm_zero (l : List Nat) : sm 0 l = 0 := by simp [sm]
theorem sm_cons (c x : Nat) (l : List Nat) : sm (c + 1) (x :: l) = x + sm c l := by simp [sm]
theorem sm_all {c : Nat} {l : List Nat} (h : l.length ≤ c) : sm c l = l.sum := by simp [sm, List.take_of_length_le h]
theorem sm_le_succ (c : Nat) : ∀ l : List Nat, sm c l ≤ sm (c + 1) l := by
  induction c with
  | zero => intro l; rw [sm_zero]; exact Nat.zero_le _
  | succ c ih =>
    intro l
    cases l with
    | nil => simp [sm]
    | cons x l => rw [sm_cons, sm_cons]; exact Nat.add_le_add_left (ih l) x
theorem sm_le_sum (c : Nat) (l : List Nat) : sm c l ≤ l.sum := by
  induction l generalizing c with
  | nil => simp [sm]
  | cons x l ih =>
    cases c with
    | zero => rw [sm_zero]; exact Nat.zero_le _
    | succ c => rw [sm_cons, List.sum_cons]; exact Nat.add_le_add_left (ih c) x
theorem sm_ins_le_p {p : Nat} : ∀ {l : List Nat}, Rising l -> ∀ c, sm (c + 1) (ins p l) ≤ sm c l + p
  | [], _, c => by simp [sm, ins]
  | x :: l, h, c => by
    unfold ins
    split
    · rw [sm_cons]; omega
    · rename_i hp
      rw [sm_cons]
      cases c with
      | zero => rw [sm_zero, sm_zero]; omega
      | succ c =>
        have := sm_ins_le_p (p := p) h.2 c
        rw [sm_cons]; omega
theorem sm_ins_le {p : Nat} : ∀ {l : List Nat}, Rising l -> ∀ c, c ≤ l.length -> sm c (ins p l) ≤ sm c l
  | [], _, c, hc => by
    have : c = 0 := by simpa using hc
    rw [this, sm_zero, sm_zero]; exact Nat.le_refl _
  | x :: l, h, c, hc => by
    cases c with
    | zero => rw [sm_zero, sm_zero]; exact Nat.le_refl _
    | succ c =>
      unfold ins
      split
      · rename_i hp
        rw [sm_cons, sm_cons]
        have : sm c (x :: l) ≤ x + sm c l - 0 := by
          cases c with
          | zero => rw [sm_zero]; exact Nat.zero_le _
          | succ c => rw [sm_cons]; have := sm_le_succ c l; omega
        cases c with
        | zero => rw [sm_zero, sm_zero]; omega
        | succ c =>
          rw [sm_cons]
          have hcl : c < l.length := Nat.lt_of_succ_le (by simpa using hc)
          have e : sm (c + 1) l = sm c l + l[c] := by
            unfold sm
            rw [List.take_succ_eq_append_getElem hcl, List.sum_append]; simp
          have := h.1 l[c] (List.getElem_mem hcl)
          omega
      · rw [sm_cons, sm_cons]
        have := sm_ins_le (p := p) h.2 c (by simpa using hc)
        omega
theorem sm_ins_or {p : Nat} : ∀ {l : List Nat}, Rising l -> ∀ c, c < l.length -> sm (c + 1) (ins p l) = sm (c + 1) l ∨ sm (c + 1) (ins p l) = sm c l + p
  | [], _, _, h => nomatch h
  | x :: l, h, c, hc => by
    unfold ins
    split
    · right; rw [sm_cons]; omega
    · rw [sm_cons]
      cases c with
      | zero => left; rw [sm_zero, sm_cons, sm_zero]
      | succ c =>
        rcases sm_ins_or (p := p) h.2 c (by simpa using hc) with e | e
        · left; rw [e, sm_cons]
        · right; rw [e, sm_cons]; omega
theorem sm_dropLast (c : Nat) (l : List Nat) (h : c < l.length) : sm c l.dropLast = sm c l := by
  unfold sm
  rw [List.dropLast_eq_take, List.take_take, Nat.min_eq_left (by omega)]
noncomputable def Sel : List (Nat × Nat) -> Nat -> Nat -> Prop
  | [], t, c => t = 0 ∧ c = 0
  | (b, p) :: l, t, c => Sel l t c ∨ ∃ t' c', Sel l t' c' ∧ t = t' + p ∧ c = c' + 1 ∧ t' + p ≤ b
noncomputable def stay : List (Nat × Nat) -> List Nat
  | [] => []
  | (b, p) :: l => if (stay l).sum + p ≤ b then ins p (stay l) else (ins p (stay l)).dropLast
noncomputable def Bounds : List (Nat × Nat) -> Prop
  | [] => True
  | (b, _) :: l => (∀ q ∈ l, q.1 ≤ b) ∧ Bounds l
theorem Rising.dropLast : ∀ {l : List Nat}, Rising l -> Rising l.dropLast
  | [], _ => trivial
  | [_], _ => trivial
  | x :: y :: l, h => by
    rw [List.dropLast_cons_cons]
    exact ⟨fun z hz => h.1 z ((List.dropLast_sublist _).subset hz), h.2.dropLast⟩
theorem stay_rising : ∀ l, Rising (stay l)
  | [] => trivial
  | (b, p) :: l => by
    unfold stay
    split
    · exact (stay_rising l).ins
    · exact (stay_rising l).ins.dropLast
theorem last_ge {p : Nat} : ∀ {l : List Nat}, Rising l -> (ins p l).dropLast.sum ≤ l.sum
  | [], _ => by simp [ins]
  | x :: l, h => by
    have h1 := sum_ins p (x :: l)
    have h2 := sm_ins_le (p := p) h (x :: l).length (Nat.le_refl _)
    rw [sm_all (Nat.le_refl _)] at h2
    have h3 : sm (x :: l).length (ins p (x :: l)) = (ins p (x :: l)).dropLast.sum := by
      unfold sm
      rw [List.dropLast_eq_take, length_ins]; rfl
    omega
theorem stay_sum : ∀ l, Bounds l -> ∀ b, (∀ q ∈ l, q.1 ≤ b) -> (stay l).sum ≤ b
  | [], _, b, _ => Nat.zero_le b
  | (b₀, p) :: l, h, b, hb => by
    have h0 : b₀ ≤ b := hb (b₀, p) (.head _)
    unfold stay
    split
    · rename_i hs; rw [sum_ins]; omega
    · exact Nlt (last_ge (stay_rising l)) (stay_sum l h.2 b fun q hq => hb q (.tail _ hq))
theorem sel_iff : ∀ l, Bounds l -> (∀ t c, Sel l t c -> c ≤ (stay l).length ∧ sm c (stay l) ≤ t) ∧ ∀ c, c ≤ (stay l).length -> Sel l (sm c (stay l)) c
  | [], _ => by
    refine ⟨?_, ?_⟩
    · rintro t c ⟨rfl, rfl⟩; exact ⟨Nat.le_refl _, Nat.le_refl _⟩
    · intro c hc
      have : c = 0 := by simpa [stay] using hc
      subst this
      exact ⟨rfl, rfl⟩
  | (b, p) :: l, h => by
    obtain ⟨ih1, ih2⟩ := sel_iff l h.2
    have hr := stay_rising l
    have hs := stay_sum l h.2 b h.1
    have hlen := length_ins p (stay l)
    -- what a choice tells
    have low : ∀ t c, Sel ((b, p) :: l) t c -> c ≤ (stay l).length + 1 ∧ sm c (ins p (stay l)) ≤ t := by
      rintro t c (h1 | ⟨t', c', h1, rfl, rfl, h2⟩)
      · obtain ⟨a1, a2⟩ := ih1 t c h1
        exact ⟨by omega, Nlt (sm_ins_le hr c a1) a2⟩
      · obtain ⟨a1, a2⟩ := ih1 t' c' h1
        have := sm_ins_le_p (p := p) hr c'
        exact ⟨by omega, by omega⟩
    -- what is told by a choice
    have up : ∀ c, c ≤ (stay l).length -> sm c (ins p (stay l)) ≤ b -> Sel ((b, p) :: l) (sm c (ins p (stay l))) c := by
      intro c hc hb
      cases c with
      | zero => rw [sm_zero]; have := ih2 0 (Nat.zero_le _); rw [sm_zero] at this; exact .inl this
      | succ c =>
        rcases sm_ins_or (p := p) hr c (by omega) with e | e
        · rw [e]; exact .inl (ih2 _ hc)
        · rw [e] at hb ⊢
          exact .inr ⟨_, c, ih2 c (by omega), rfl, rfl, hb⟩
    unfold stay
    split
    · rename_i hfit
      refine ⟨fun t c hc => ?_, fun c hc => ?_⟩
      · obtain ⟨a1, a2⟩ := low t c hc
        exact ⟨by omega, a2⟩
      · rcases Nat.lt_or_ge (stay l).length c with h1 | h1
        · have hcc : c = (stay l).length + 1 := by omega
          have e1 : sm c (ins p (stay l)) = sm (stay l).length (stay l) + p := by
            rw [sm_all (by omega), sm_all (Nat.le_refl _), sum_ins]
          rw [e1, hcc]
          exact .inr ⟨_, _, ih2 _ (Nat.le_refl _), rfl, rfl, by rw [sm_all (Nat.le_refl _)]; exact hfit⟩
        · exact up c h1 (Nlt (sm_le_sum _ _) (by rw [sum_ins]; exact hfit))
    · rename_i hfit
      have hdl : (ins p (stay l)).dropLast.length = (stay l).length := by rw [List.length_dropLast, hlen]; rfl
      refine ⟨fun t c hc => ?_, fun c hc => ?_⟩
      · obtain ⟨a1, a2⟩ := low t c hc
        have hcl : c ≤ (stay l).length := by
          rcases hc with h1 | ⟨t', c', h1, rfl, rfl, h2⟩
          · exact (ih1 t c h1).1
          · rcases Nat.lt_or_ge c' (stay l).length with h3 | h3
            · exact h3
            · have h4 := (ih1 t' c' h1).2
              rw [sm_all h3] at h4
              omega
        rw [hdl, sm_dropLast c _ (by omega)]
        exact ⟨hcl, a2⟩
      · rw [hdl] at hc
        rw [sm_dropLast c _ (by omega)]
        refine up c hc ?_
        have e1 := sm_dropLast c (ins p (stay l)) (by omega)
        have e2 := sm_le_sum c (ins p (stay l)).dropLast
        have e3 := last_ge (p := p) hr
        omega
end
section
set_option autoImplicit false
noncomputable def leastQ : Nat -> List Nat -> Nat -> List Nat
  | _, [], _ => []
  | i, x :: r, c => if x / 2 ^ c % 2 = 1 then i :: leastQ (i + 1) r (c + 1) else leastQ (i + 1) r c
theorem sm_lt : ∀ {l : List Nat}, (∀ x ∈ l, 1 ≤ x) -> ∀ c, c < l.length -> sm c l < sm (c + 1) l
  | [], _, _, h => nomatch h
  | x :: l, h, c, hc => by
    have hx := h x (.head _)
    cases c with
    | zero => rw [sm_zero, sm_cons, sm_zero]; omega
    | succ c =>
      rw [sm_cons, sm_cons]
      have := sm_lt (fun y hy => h y (.tail _ hy)) c (Nat.lt_of_succ_lt_succ hc)
      omega
theorem stay_pos : ∀ l : List (Nat × Nat), (∀ q ∈ l, 1 ≤ q.2) -> ∀ x ∈ stay l, 1 ≤ x
  | [], _, _, h => nomatch h
  | (b, p) :: l, h, x, hx => by
    have ih := stay_pos l fun q hq => h q (.tail _ hq)
    have hp : 1 ≤ p := h (b, p) (.head _)
    have key : ∀ y ∈ ins p (stay l), 1 ≤ y := fun y hy => (mem_ins.mp hy).elim (fun e => e ▸ hp) (ih y)
    unfold stay at hx
    split at hx
    · exact key x hx
    · exact key x ((List.dropLast_sublist _).subset hx)
theorem least_eq {l : List (Nat × Nat)} (hB : Bounds l) (hpos : ∀ q ∈ l, 1 ≤ q.2) {masks : List Nat} (hm : ∀ t c, t < masks.length -> (masks.getD t 0 / 2 ^ c % 2 = 1 ↔ Sel l t c)) (hT : ∀ t c, Sel l t c -> t < masks.length) :
    ∀ (k i c : Nat), masks.length - i = k -> i ≤ masks.length -> c ≤ (stay l).length + 1 -> (c ≤ (stay l).length -> i ≤ sm c (stay l)) ->
      leastQ i (masks.drop i) c = (List.range' c ((stay l).length + 1 - c)).map fun j => sm j (stay l) := by
  obtain ⟨s1, s2⟩ := sel_iff l hB
  intro k
  induction k with
  | zero =>
    intro i c hk hi hc hlow
    have e : i = masks.length := by omega
    rw [e, List.drop_length, leastQ]
    rcases Nat.lt_or_ge (stay l).length c with h | h
    · rw [show (stay l).length + 1 - c = 0 by omega]; rfl
    · exact absurd (hT _ _ (s2 c h)) (by have := hlow h; omega)
  | succ k ih =>
    intro i c hk hi hc hlow
    have hi2 : i < masks.length := by omega
    rw [List.drop_eq_getElem_cons hi2, leastQ]
    have hg : masks.getD i 0 = masks[i] := by rw [List.getD_eq_getElem?_getD, List.getElem?_eq_getElem hi2]; rfl
    have hmi := hm i c hi2
    rw [hg] at hmi
    by_cases hb : masks[i] / 2 ^ c % 2 = 1
    · rw [if_pos hb]
      obtain ⟨a1, a2⟩ := s1 i c (hmi.mp hb)
      have e : sm c (stay l) = i := Nat.le_antisymm a2 (hlow a1)
      rw [ih (i + 1) (c + 1) (by omega) (by omega) (by omega) (fun h => by
        have := sm_lt (stay_pos l hpos) c (by omega)
        omega)]
      rw [show (stay l).length + 1 - c = ((stay l).length + 1 - (c + 1)) + 1 by omega, List.range'_succ, Lpc, e]
    · rw [if_neg hb]
      refine ih (i + 1) c (by omega) (by omega) hc (fun h => ?_)
      have h1 := hlow h
      rcases Nat.lt_or_ge i (sm c (stay l)) with h2 | h2
      · exact h2
      · exact absurd (hmi.mpr (by
          have := s2 c h
          rwa [show sm c (stay l) = i by omega] at this)) hb
theorem least_all {l : List (Nat × Nat)} (hB : Bounds l) (hpos : ∀ q ∈ l, 1 ≤ q.2) {masks : List Nat} (hm : ∀ t c, t < masks.length -> (masks.getD t 0 / 2 ^ c % 2 = 1 ↔ Sel l t c)) (hT : ∀ t c, Sel l t c -> t < masks.length) :
    leastQ 0 masks 0 = (List.range ((stay l).length + 1)).map fun j => sm j (stay l) := by
  have := least_eq hB hpos hm hT masks.length 0 0 (by omega) (Nat.zero_le _) (Nat.zero_le _) (fun _ => Nat.zero_le _)
  rw [Ldz, Nat.sub_zero, ← List.range_eq_range'] at this
  exact this
/-! the row -/
structure Piece where
  b : Nat
  x : Nat
  p : Nat
noncomputable def tot (row : List Piece) : Nat := (row.map (·.p)).sum
noncomputable def srt (row : List Piece) : List Nat := row.foldr (fun q l => ins q.p l) []
theorem srt_rising : ∀ row, Rising (srt row)
  | [] => trivial
  | q :: row => (srt_rising row).ins
theorem ins_comm (a b : Nat) : ∀ l : List Nat, ins a (ins b l) = ins b (ins a l)
  | [] => by
    unfold ins ins
    by_cases h1 : a ≤ b <;> by_cases h2 : b ≤ a
    · have : a = b := by omega
      subst this; simp
    · simp [h1, h2]
    · simp [h1, h2]
    · omega
  | x :: l => by
    by_cases ha : a ≤ x <;> by_cases hb : b ≤ x
    · by_cases hab : a ≤ b
      · by_cases hba : b ≤ a
        · have : a = b := by omega
          subst this; rfl
        · simp [ins, ha, hb, hab, hba]
      · have hba : b ≤ a := by omega
        simp [ins, ha, hb, hab, hba]
    · have hab : a ≤ b := by omega
      have hba : ¬ b ≤ a := by omega
      simp [ins, ha, hb, hba]
    · have hab : ¬ a ≤ b := by omega
      simp [ins, ha, hb, hab]
    · simp [ins, ha, hb, ins_comm a b l]
theorem srt_mid (z : Piece) (B : List Piece) : ∀ A, srt (A ++ z :: B) = ins z.p (srt (A ++ B))
  | [] => rfl
  | a :: A => by
    show ins a.p (srt (A ++ z :: B)) = ins z.p (ins a.p (srt (A ++ B)))
    rw [srt_mid z B A, ins_comm]
theorem ins_top {z : Nat} : ∀ {l : List Nat}, Rising l -> (∀ y ∈ l, y ≤ z) -> ins z l = l ++ [z]
  | [], _, _ => rfl
  | x :: l, h, hz => by
    unfold ins
    have ih := ins_top h.2 fun y hy => hz y (.tail _ hy)
    split
    · rename_i hx
      have hxz : x = z := Nat.le_antisymm (hz x (.head _)) hx
      have hall : ∀ y ∈ l, y = z := fun y hy => Nat.le_antisymm (hz y (.tail _ hy)) (hxz ▸ h.1 y hy)
      subst hxz
      rw [Lca]
      congr 1
      have e : l = List.replicate l.length x := List.eq_replicate_iff.mpr ⟨rfl, hall⟩
      rw [e, ← List.replicate_succ, ← List.replicate_succ']
    · rw [ih]; rfl
theorem mem_srt {y : Nat} : ∀ {row : List Piece}, y ∈ srt row -> ∃ q ∈ row, q.p = y
  | [], h => nomatch h
  | q :: row, h => by
    rcases mem_ins.mp (show y ∈ ins q.p (srt row) from h) with rfl | h
    · exact ⟨q, .head _, rfl⟩
    · obtain ⟨r, h1, h2⟩ := mem_srt h
      exact ⟨r, .tail _ h1, h2⟩
theorem srt_sum : ∀ row, (srt row).sum = tot row
  | [] => rfl
  | q :: row => by
    show (ins q.p (srt row)).sum = _
    rw [sum_ins, srt_sum row]; simp [tot]; omega
theorem srt_length : ∀ row, (srt row).length = row.length
  | [] => rfl
  | q :: row => by
    show (ins q.p (srt row)).length = _
    rw [length_ins, srt_length row]; rfl
theorem tot_append (A B : List Piece) : tot (A ++ B) = tot A + tot B := by simp [tot]
noncomputable def InTime (row : List Piece) : Prop := ∀ A z B, row = A ++ z :: B -> tot A + z.p ≤ z.b
noncomputable def Turn (row : List Piece) (q : Piece) (row' : List Piece) : Prop :=
  (tot row + q.p ≤ q.b ∧ row' = row ++ [q]) ∨ (¬ tot row + q.p ≤ q.b ∧ ∃ A z B, row ++ [q] = A ++ z :: B ∧ (∀ a ∈ A ++ B, a.p ≤ z.p) ∧ row' = A ++ B)
theorem turn_stay {row row' : List Piece} {q : Piece} {l : List (Nat × Nat)} (h : srt row = stay l) (t : Turn row q row') : srt row' = stay ((q.b, q.p) :: l) := by
  have e0 : srt (row ++ [q]) = ins q.p (srt row) := by rw [srt_mid q [] row, Lan]
  have hs : (stay l).sum = tot row := by rw [← h, srt_sum]
  unfold stay
  rcases t with ⟨h1, rfl⟩ | ⟨h1, A, z, B, h2, h3, rfl⟩
  · rw [if_pos (by omega), e0, h]
  · rw [if_neg (by omega), ← h, ← e0, h2, srt_mid, ins_top (srt_rising _) (fun y hy => by
      obtain ⟨r, hr, rfl⟩ := mem_srt hy
      exact h3 r hr), List.dropLast_concat]
theorem turn_time {row row' : List Piece} {q : Piece} {l : List (Nat × Nat)} (h : srt row = stay l) (hB : Bounds ((q.b, q.p) :: l)) (hT : InTime row) (t : Turn row q row') : InTime row' := by
  have hs : tot row ≤ q.b := by
    have := stay_sum l hB.2 q.b hB.1
    rwa [← h, srt_sum] at this
  have snoc : ∀ (X : List Piece) (y : Piece) (Y : List Piece), row ++ [q] = X ++ y :: Y -> (Y = [] ∧ X = row ∧ y = q) ∨ ∃ Y', Y = Y' ++ [q] ∧ row = X ++ y :: Y' := by
    intro X y Y e
    rcases List.eq_nil_or_concat Y with rfl | ⟨Y', w, hY⟩
    · left
      have := List.append_inj' e rfl
      exact ⟨rfl, this.1.symm, by simpa using this.2.symm⟩
    · right
      have hY' : Y = Y' ++ [w] := by simpa using hY
      subst hY'
      have e' : row ++ [q] = (X ++ y :: Y') ++ [w] := by rw [e]; simp
      have := List.append_inj' e' rfl
      refine ⟨Y', ?_, this.1⟩
      have hw : q = w := by simpa using this.2
      rw [hw]
  rcases t with ⟨h1, rfl⟩ | ⟨h1, A, z, B, h2, h3, rfl⟩
  · intro X y Y e
    rcases snoc X y Y e with ⟨rfl, rfl, rfl⟩ | ⟨Y', rfl, e'⟩
    · exact h1
    · exact hT X y Y' e'
  · rcases snoc A z B h2 with ⟨rfl, rfl, rfl⟩ | ⟨B', rfl, e'⟩
    · rw [Lan]; exact hT
    · intro X y Y e
      have hzt : tot (A ++ B') + z.p = tot row := by rw [e', tot_append, tot_append]; simp [tot]; omega
      have hqz : q.p ≤ z.p := h3 q (by simp)
      rcases List.append_eq_append_iff.mp (show A ++ (B' ++ [q]) = X ++ y :: Y from e) with ⟨C, hX, hC⟩ | ⟨C, hA, hC⟩
      · -- X = A ++ C, B' ++ [q] = C ++ y :: Y
        rcases List.eq_nil_or_concat Y with rfl | ⟨Y', w, hY⟩
        · have := List.append_inj' hC rfl
          have hy : y = q := by simpa using this.2.symm
          have hc : B' = C := this.1
          subst hy; subst hX; subst hc
          omega
        · have hY' : Y = Y' ++ [w] := by simpa using hY
          subst hY'
          have e2 : B' ++ [q] = (C ++ y :: Y') ++ [w] := by rw [hC]; simp
          have e3 := (List.append_inj' e2 rfl).1
          have := hT (A ++ z :: C) y Y' (by rw [e', e3]; simp)
          subst hX
          rw [tot_append] at this ⊢
          simp [tot] at this ⊢
          omega
      · -- A = X ++ C, y :: Y = C ++ (B' ++ [q])
        cases C with
        | nil =>
          rw [Lan] at hA
          subst hA
          rw [Lna] at hC
          cases B' with
          | nil =>
            have hy : y = q := by simpa using congrArg List.head? hC
            subst hy
            have : tot A + z.p = tot row := by rw [← hzt]; simp
            omega
          | cons w W =>
            have hy : y = w := by simpa using congrArg List.head? hC
            subst hy
            have := hT (A ++ [z]) y W (by rw [e']; simp)
            rw [tot_append] at this
            simp [tot] at this ⊢
            omega
        | cons w W =>
          have hy : y = w := by simpa using congrArg List.head? hC
          subst hy
          exact hT X y (W ++ z :: B') (by rw [e', hA]; simp)
end
section
set_option autoImplicit false
theorem sel_count : ∀ (l : List (Nat × Nat)) {t c : Nat}, Sel l t c -> c ≤ l.length
  | [], _, _, h => by rw [h.2]; exact Nat.zero_le _
  | (b, p) :: l, t, c, h => by
    rcases h with h | ⟨t', c', h, _, rfl, _⟩
    · exact Nat.le_succ_of_le (sel_count l h)
    · exact Nat.succ_le_succ (sel_count l h)
theorem num_step {w : Nat} {l : List (Nat × Nat)} {b p N : Nat} (hw : 7 ≤ w) (hl : l.length ≤ 5) (hN : ∀ t c, c < w -> (N.testBit (w * t + c) = true ↔ Sel l t c)) :
    ∀ t c, c < w -> ((N ||| (N * 2 ^ (w * p + 1)) % 2 ^ (w * (b + 1))).testBit (w * t + c) = true ↔ Sel ((b, p) :: l) t c) := by
  intro t c hc
  rw [Nat.testBit_or, Nat.testBit_mod_two_pow, Nat.testBit_mul_two_pow, Bool.or_eq_true, Bool.and_eq_true, Bool.and_eq_true, decide_eq_true_iff, decide_eq_true_iff, hN t c hc]
  refine or_congr Iff.rfl ?_
  constructor
  · rintro ⟨h1, h2, h3⟩
    have htb : t ≤ b := by
      rcases Nat.lt_or_ge b t with h | h
      · have := Nat.mul_le_mul_left w (show b + 1 ≤ t from h); omega
      · exact h
    cases c with
    | zero =>
      exfalso
      have htp : p + 1 ≤ t := by
        rcases Nat.lt_or_ge p t with h | h
        · exact h
        · have := Nat.mul_le_mul_left w h; omega
      have e : w * t + 0 - (w * p + 1) = w * (t - p - 1) + (w - 1) := by
        have e1 : w * t = w * (t - p - 1) + w * p + w := by
          rw [← Nat.mul_add, ← Nat.mul_succ]; congr 1; omega
        omega
      rw [e, hN _ _ (by omega)] at h3
      have := sel_count l h3
      omega
    | succ c =>
      have htp : p ≤ t := by
        rcases Nat.lt_or_ge t p with h | h
        · have := Nat.mul_le_mul_left w (show t + 1 ≤ p from h)
          rw [Nat.mul_add, Nat.mul_one] at this; omega
        · exact h
      have e : w * t + (c + 1) - (w * p + 1) = w * (t - p) + c := by
        have e1 : w * t = w * (t - p) + w * p := by
          rw [← Nat.mul_add]; congr 1; omega
        omega
      rw [e, hN _ _ (by omega)] at h3
      exact ⟨t - p, c, h3, by omega, rfl, by omega⟩
  · rintro ⟨t', c', h, rfl, rfl, hb⟩
    have h1 := Nat.mul_le_mul_left w (show t' + p + 1 ≤ b + 1 by omega)
    rw [Nat.mul_add w (t' + p), Nat.mul_one] at h1
    have e : w * (t' + p) = w * t' + w * p := Nat.mul_add ..
    refine ⟨by omega, by omega, ?_⟩
    rw [show w * (t' + p) + (c' + 1) - (w * p + 1) = w * t' + c' by omega, hN _ _ (by omega)]
    exact h
theorem num_zero {w : Nat} : ∀ t c, c < w -> ((1 : Nat).testBit (w * t + c) = true ↔ Sel [] t c) := by
  intro t c hc
  rw [Nat.testBit_one_eq_true_iff_self_eq_zero]
  constructor
  · intro h
    refine ⟨?_, by omega⟩
    rcases Nat.eq_zero_or_pos t with h0 | h0
    · exact h0
    · have := Nat.mul_le_mul_left w h0; omega
  · rintro ⟨rfl, rfl⟩; rfl
theorem field_bit {w N t c : Nat} (hc : c < w) : N / 2 ^ (w * t) % 2 ^ w / 2 ^ c % 2 = 1 ↔ N.testBit (w * t + c) = true := by
  have e : (N / 2 ^ (w * t) % 2 ^ w).testBit c = N.testBit (w * t + c) := by
    rw [Nat.testBit_mod_two_pow, Nat.testBit_div_two_pow, Nat.add_comm c]; simp [hc]
  rw [← e, Nat.testBit_eq_decide_div_mod_eq, decide_eq_true_iff]
end
section
set_option autoImplicit false
noncomputable def chs : List (Nat × Nat) -> List (Nat × Nat)
  | [] => [(0, 0)]
  | (b, p) :: l => chs l ++ ((chs l).filter fun q => decide (q.1 + p ≤ b)).map fun q => (q.1 + p, q.2 + 1)
theorem mem_chs : ∀ (l : List (Nat × Nat)) (t c : Nat), (t, c) ∈ chs l ↔ Sel l t c
  | [], t, c => by simp [chs, Sel]
  | (b, p) :: l, t, c => by
    rw [chs, Lma, mem_chs l]
    refine or_congr Iff.rfl ?_
    rw [Lmm]
    constructor
    · rintro ⟨⟨t', c'⟩, h, e⟩
      obtain ⟨h1, h2⟩ := List.mem_filter.mp h
      cases e
      exact ⟨t', c', (mem_chs l t' c').mp h1, rfl, rfl, of_decide_eq_true h2⟩
    · rintro ⟨t', c', h, rfl, rfl, hb⟩
      exact ⟨(t', c'), List.mem_filter.mpr ⟨(mem_chs l t' c').mpr h, decide_eq_true hb⟩, rfl⟩
noncomputable def maskF (ms : List Nat) (q : Nat × Nat) : List Nat := ms.set q.1 (ms.getD q.1 0 ||| 2 ^ q.2)
theorem maskF_length (ms : List Nat) (q : Nat × Nat) : (maskF ms q).length = ms.length := List.length_set ..
theorem masks_length : ∀ (qs : List (Nat × Nat)) (ms : List Nat), (qs.foldl maskF ms).length = ms.length
  | [], _ => rfl
  | q :: qs, ms => by rw [List.foldl_cons, masks_length qs, maskF_length]
theorem mask_bit : ∀ (qs : List (Nat × Nat)) (ms : List Nat), (∀ q ∈ qs, q.1 < ms.length) -> ∀ t c, ((qs.foldl maskF ms).getD t 0).testBit c = true ↔ (ms.getD t 0).testBit c = true ∨ (t, c) ∈ qs
  | [], ms, _, t, c => by simp
  | q :: qs, ms, h, t, c => by
    have hq := h q (.head _)
    rw [List.foldl_cons, mask_bit qs _ (fun r hr => by rw [maskF_length]; exact h r (.tail _ hr)), Lmc]
    have e : ((maskF ms q).getD t 0).testBit c = true ↔ (ms.getD t 0).testBit c = true ∨ (t, c) = q := by
      unfold maskF
      rw [List.getD_eq_getElem?_getD, List.getElem?_set]
      by_cases ht : q.1 = t
      · subst ht
        rw [if_pos rfl, if_pos hq]
        simp only [Option.getD_some]
        rw [Nat.testBit_or, Nat.testBit_two_pow, Bool.or_eq_true, decide_eq_true_iff]
        refine or_congr Iff.rfl ⟨fun h => ?_, fun h => ?_⟩
        · rw [← h]
        · rw [← h]
      · rw [if_neg ht, ← List.getD_eq_getElem?_getD]
        exact ⟨.inl, fun h => h.elim id fun h => absurd (congrArg Prod.fst h).symm ht⟩
    rw [e]
    constructor
    · rintro ((h | h) | h)
      · exact .inl h
      · exact .inr (.inl h)
      · exact .inr (.inr h)
    · rintro (h | h | h)
      · exact .inl (.inl h)
      · exact .inl (.inr h)
      · exact .inr h
theorem fields_eq {w N M : Nat} {l : List (Nat × Nat)} (hw : 7 ≤ w) (hl : l.length ≤ 6) (hN : ∀ t c, c < w -> (N.testBit (w * t + c) = true ↔ Sel l t c)) (hM : ∀ q ∈ chs l, q.1 ≤ M) :
    (List.range (M + 1)).map (fun t => N / 2 ^ (w * t) % 2 ^ w) = (chs l).foldl maskF (List.replicate (M + 1) 0) := by
  apply List.ext_getElem?
  intro t
  have hlen : ((chs l).foldl maskF (List.replicate (M + 1) 0)).length = M + 1 := by rw [masks_length, List.length_replicate]
  by_cases ht : t < M + 1
  · rw [List.getElem?_eq_getElem (by simpa using ht), List.getElem?_eq_getElem (by omega)]
    simp only [List.getElem_map, List.getElem_range]
    congr 1
    apply Nat.eq_of_testBit_eq
    intro c
    have hb := mask_bit (chs l) (List.replicate (M + 1) 0) (fun q hq => by rw [List.length_replicate]; have := hM q hq; omega) t c
    rw [List.getD_eq_getElem?_getD, List.getElem?_eq_getElem (by omega), Option.getD_some] at hb
    have hz : (((List.replicate (M + 1) 0).getD t 0).testBit c = true) ↔ False := by
      rw [List.getD_eq_getElem?_getD, List.getElem?_replicate, if_pos ht]; simp
    rw [hz, false_or, mem_chs] at hb
    rw [Nat.testBit_mod_two_pow, Nat.testBit_div_two_pow, Nat.add_comm c]
    by_cases hc : c < w
    · rw [decide_eq_true hc, Bool.true_and]
      exact Bool.eq_iff_iff.mpr ((hN t c hc).trans hb.symm)
    · rw [decide_eq_false hc, Bool.false_and]
      symm
      rw [Bool.eq_false_iff]
      intro h
      have := sel_count l (hb.mp h)
      omega
  · rw [List.getElem?_eq_none (by simpa using ht), List.getElem?_eq_none (by omega)]
theorem fields_log {w N M : Nat} {l : List (Nat × Nat)} (hw : 7 ≤ w) (hN : ∀ t c, c < w -> (N.testBit (w * t + c) = true ↔ Sel l t c)) (hM : ∀ q ∈ chs l, q.1 ≤ M) (hM2 : ∃ c, (M, c) ∈ chs l) (hl : l.length ≤ 6) :
    2 ^ (w * M) ≤ N ∧ N < 2 ^ (w * (M + 1)) := by
  constructor
  · obtain ⟨c, hc⟩ := hM2
    have h1 := (mem_chs l M c).mp hc
    have h2 := sel_count l h1
    have h3 := (hN M c (by omega)).mpr h1
    have h4 := Nat.ge_two_pow_of_testBit h3
    exact Nlt (Nat.pow_le_pow_right (by decide) (Nat.le_add_right _ _)) h4
  · refine Nat.lt_pow_two_of_testBit _ fun i hi => ?_
    rw [Bool.eq_false_iff]
    intro h
    have hwp : 0 < w := by omega
    have e := Nat.div_add_mod i w
    have hm := Nat.mod_lt i hwp
    rw [← e] at h
    have h1 := (hN _ _ hm).mp h
    have h2 := hM _ ((mem_chs l _ _).mpr h1)
    have h3 := Nat.mul_le_mul_left w (show i / w + 1 ≤ M + 1 by omega)
    rw [Nat.mul_add w (i / w), Nat.mul_one] at h3
    omega
end
section
noncomputable def evalB {α : Type} (n : Nat) (lt : Nat -> Nat -> Bool) : KasT α -> Option α
  | .ret a => some a
  | .ask i j k => if (decide (i < n) && decide (j < n) && decide (i ≠ j)) = true then evalB n lt (k (lt i j)) else none
theorem evalB_congr {α : Type} {n : Nat} {lt lt' : Nat -> Nat -> Bool} (h : ∀ i j, i < n -> j < n -> i ≠ j -> lt i j = lt' i j) : ∀ t : KasT α, evalB n lt t = evalB n lt' t
  | .ret _ => rfl
  | .ask i j k => by
    unfold evalB
    split
    · rename_i hc
      simp only [Bool.and_eq_true, decide_eq_true_eq] at hc
      rw [h i j hc.1.1 hc.1.2 hc.2]
      exact evalB_congr h _
    · rfl
theorem kas_pure {α : Type} {cmp : Nat -> Nat -> (Bool -> Shared -> Prop) -> Shared -> Prop} {n : Nat} {lt : Nat -> Nat -> Bool} {I : Shared -> Prop} {Q : α -> Shared -> Prop}
    (hc : ∀ i j (C : Bool -> Shared -> Prop) s, i < n -> j < n -> i ≠ j -> I s -> (∀ s', I s' -> C (lt i j) s') -> cmp i j C s) : ∀ (t : KasT α) (a : α), evalB n lt t = some a -> ∀ s, I s -> (∀ s', I s' -> Q a s') -> t.kasWp cmp Q s
  | .ret b, a, h, s, hI, hQ => by
    obtain rfl := Option.some.inj h
    exact hQ s hI
  | .ask i j k, a, h, s, hI, hQ => by
    unfold evalB at h
    split at h
    · rename_i hb
      simp only [Bool.and_eq_true, decide_eq_true_eq] at hb
      exact hc i j _ s hb.1.1 hb.1.2 hb.2 hI fun s' hI' => kas_pure hc (k (lt i j)) a h s' hI' hQ
    · cases h
noncomputable def insAll (x : Nat) : List Nat -> List (List Nat)
  | [] => [[x]]
  | y :: r => (x :: y :: r) :: (insAll x r).map (y :: ·)
noncomputable def perms : List Nat -> List (List Nat)
  | [] => [[]]
  | x :: r => (perms r).flatMap (insAll x)
theorem mem_insAll (x : Nat) : ∀ (a b : List Nat), a ++ x :: b ∈ insAll x (a ++ b)
  | [], [] => by simp [insAll]
  | [], y :: b => by simp [insAll]
  | y :: a, b => by
    show y :: (a ++ x :: b) ∈ insAll x (y :: (a ++ b))
    unfold insAll
    exact Lmk _ (Lmm.mpr ⟨_, mem_insAll x a b, rfl⟩)
theorem mem_perms : ∀ (l r : List Nat), r.Perm l -> r ∈ perms l
  | [], r, h => by rw [h.eq_nil]; exact Lms.mpr rfl
  | x :: l, r, h => by
    obtain ⟨a, b, rfl⟩ := List.append_of_mem (h.mem_iff.mpr (List.mem_cons_self ..))
    have h2 : (a ++ b).Perm l := List.Perm.cons_inv ((List.perm_middle.symm).trans h)
    exact List.mem_flatMap.mpr ⟨_, mem_perms l _ h2, mem_insAll x a b⟩
theorem perm_of_sub : ∀ {r l : List Nat}, r.Nodup -> (∀ x ∈ r, x ∈ l) -> l.length ≤ r.length -> r.Perm l
  | [], l, _, _, hl => by
    have : l = [] := List.length_eq_zero_iff.mp (Nat.le_zero.mp hl)
    rw [this]
  | x :: r, l, hn, hs, hl => by
    obtain ⟨a, b, rfl⟩ := List.append_of_mem (hs x (List.mem_cons_self ..))
    have hx := List.nodup_cons.mp hn
    refine (List.Perm.cons x (perm_of_sub hx.2 (l := a ++ b) (fun y hy => ?_) ?_)).trans List.perm_middle.symm
    · have h1 := hs y (Lmk _ hy)
      have h2 : y ≠ x := fun e => hx.1 (e ▸ hy)
      simp only [Lma, Lmc] at h1 ⊢
      rcases h1 with h | h | h
      · exact .inl h
      · exact absurd h h2
      · exact .inr h
    · simp only [Lla, Llc] at hl ⊢
      omega
noncomputable def okP (n : Nat) (r : List Nat) : Bool :=
  match evalB n (fun i j => Nat.blt (r.getD i 0) (r.getD j 0)) (kas_sort n) with
  | some p => p.toList.all (fun i => Nat.blt i n) && (p.toList.map (fun i => r.getD i 0) == List.range n)
  | none => false
theorem ok2 : (perms (List.range 2)).all (okP 2) = true := by decide +kernel
theorem ok3 : (perms (List.range 3)).all (okP 3) = true := by decide +kernel
theorem ok4 : (perms (List.range 4)).all (okP 4) = true := by decide +kernel
theorem ok5 : (perms (List.range 5)).all (okP 5) = true := by decide +kernel
theorem ok6 : (perms (List.range 6)).all (okP 6) = true := by decide +kernel
theorem ok_n {n : Nat} (h2 : 2 ≤ n) (h6 : n ≤ 6) {r : List Nat} (hr : r.Perm (List.range n)) : okP n r = true := by
  have hm := mem_perms _ _ hr
  have : n = 2 ∨ n = 3 ∨ n = 4 ∨ n = 5 ∨ n = 6 := by omega
  rcases this with rfl | rfl | rfl | rfl | rfl
  · exact List.all_eq_true.mp ok2 _ hm
  · exact List.all_eq_true.mp ok3 _ hm
  · exact List.all_eq_true.mp ok4 _ hm
  · exact List.all_eq_true.mp ok5 _ hm
  · exact List.all_eq_true.mp ok6 _ hm
noncomputable def plt (q z : Piece) : Bool := decide (q.b < z.b) || (decide (q.b = z.b) && decide (q.x < z.x))
noncomputable def pAt (ps : List Piece) (i : Nat) : Piece := ps.getD i ⟨0, 0, 0⟩
noncomputable def rankP (ps : List Piece) (i : Nat) : Nat := ((List.range ps.length).filter fun j => plt (pAt ps j) (pAt ps i)).length
theorem plt_trans {a b c : Piece} (h : plt a b = true) (h' : plt b c = true) : plt a c = true := by
  simp only [plt, Bool.or_eq_true, Bool.and_eq_true, decide_eq_true_eq] at h h' ⊢
  omega
theorem plt_irrefl (a : Piece) : plt a a = false := by simp [plt]
theorem filter_lt {p q : Nat -> Bool} : ∀ {l : List Nat} {x : Nat}, (∀ y ∈ l, p y = true -> q y = true) -> x ∈ l -> p x = false -> q x = true -> (l.filter p).length < (l.filter q).length
  | y :: l, x, hs, hx, hp, hq => by
    have le : (l.filter p).length ≤ (l.filter q).length := by
      have : ∀ l : List Nat, (∀ y ∈ l, p y = true -> q y = true) -> (l.filter p).length ≤ (l.filter q).length := by
        intro l
        induction l with
        | nil => intro _; exact Nat.le_refl _
        | cons z l ih =>
          intro h
          have ih := ih fun y hy => h y (Lmk _ hy)
          have hz := h z (List.mem_cons_self ..)
          rw [List.filter_cons, List.filter_cons]
          cases e : p z <;> cases e' : q z <;> simp
          · exact ih
          · omega
          · rw [hz e] at e'; cases e'
          · exact ih
      exact this l fun y hy => hs y (Lmk _ hy)
    rcases Lmc.mp hx with rfl | hx
    · rw [List.filter_cons_of_neg (by rw [hp]; decide), List.filter_cons_of_pos hq, Llc]
      omega
    · have ih := filter_lt (fun y hy => hs y (Lmk _ hy)) hx hp hq
      have hy := hs y (List.mem_cons_self ..)
      rw [List.filter_cons, List.filter_cons]
      cases e : p y <;> cases e' : q y <;> simp
      · exact ih
      · omega
      · rw [hy e] at e'; cases e'
      · exact ih
theorem rank_lt {ps : List Piece} {i j : Nat} (hi : i < ps.length) (h : plt (pAt ps i) (pAt ps j) = true) : rankP ps i < rankP ps j :=
  filter_lt (fun _ _ hy => plt_trans hy h) (List.mem_range.mpr hi) (plt_irrefl _) h
theorem pAt_x {ps : List Piece} (hx : (ps.map (·.x)).Nodup) {i j : Nat} (hi : i < ps.length) (hj : j < ps.length) (hij : i ≠ j) : (pAt ps i).x ≠ (pAt ps j).x := by
  intro e
  have h1 : (ps.map (·.x))[i]'(by simpa using hi) = (ps.map (·.x))[j]'(by simpa using hj) := by
    simpa [pAt, List.getD_eq_getElem?_getD, List.getElem?_eq_getElem hi, List.getElem?_eq_getElem hj] using e
  have hp := List.pairwise_iff_getElem.mp hx
  rcases Nat.lt_or_gt_of_ne hij with h | h
  · exact hp i j _ _ h h1
  · exact hp j i _ _ h h1.symm
theorem plt_total {ps : List Piece} (hx : (ps.map (·.x)).Nodup) {i j : Nat} (hi : i < ps.length) (hj : j < ps.length) (hij : i ≠ j) : plt (pAt ps i) (pAt ps j) = true ∨ plt (pAt ps j) (pAt ps i) = true := by
  have := pAt_x hx hi hj hij
  simp only [plt, Bool.or_eq_true, Bool.and_eq_true, decide_eq_true_eq]
  omega
theorem rank_iff {ps : List Piece} (hx : (ps.map (·.x)).Nodup) {i j : Nat} (hi : i < ps.length) (hj : j < ps.length) : rankP ps i < rankP ps j ↔ plt (pAt ps i) (pAt ps j) = true := by
  refine ⟨fun h => ?_, rank_lt hi⟩
  by_cases e : i = j
  · subst e; omega
  · rcases plt_total hx hi hj e with h1 | h1
    · exact h1
    · have := rank_lt hj h1
      omega
theorem rank_ne {ps : List Piece} (hx : (ps.map (·.x)).Nodup) {i j : Nat} (hi : i < ps.length) (hj : j < ps.length) (hij : i ≠ j) : rankP ps i ≠ rankP ps j := by
  rcases plt_total hx hi hj hij with h1 | h1
  · have := rank_lt hi h1; omega
  · have := rank_lt hj h1; omega
theorem rank_bd {ps : List Piece} {i : Nat} (hi : i < ps.length) : rankP ps i < ps.length := by
  have h := filter_lt (p := fun j => plt (pAt ps j) (pAt ps i)) (q := fun _ => true) (l := List.range ps.length) (fun _ _ _ => rfl) (List.mem_range.mpr hi) (plt_irrefl _) rfl
  refine Nat.lt_of_lt_of_le h (Nlt (List.length_filter_le _ _) ?_)
  simp
theorem ranks_perm {ps : List Piece} (hx : (ps.map (·.x)).Nodup) : ((List.range ps.length).map (rankP ps)).Perm (List.range ps.length) := by
  refine perm_of_sub ?_ (fun x hx' => ?_) (by simp)
  · rw [List.Nodup, List.pairwise_map]
    exact (List.nodup_range (n := ps.length)).imp_of_mem fun ha hb hab => rank_ne hx (List.mem_range.mp ha) (List.mem_range.mp hb) hab
  · obtain ⟨i, hi, rfl⟩ := Lmm.mp hx'
    exact List.mem_range.mpr (rank_bd (List.mem_range.mp hi))
theorem map_pAt (ps : List Piece) : (List.range ps.length).map (pAt ps) = ps := by
  apply List.ext_getElem?
  intro i
  by_cases h : i < ps.length
  · simp [h, pAt]
  · simp [h]
theorem sort_ok {ps : List Piece} (hx : (ps.map (·.x)).Nodup) (h2 : 2 ≤ ps.length) (h6 : ps.length ≤ 6) : ∃ p : Array Nat, evalB ps.length (fun i j => plt (pAt ps i) (pAt ps j)) (kas_sort ps.length) = some p ∧ (∀ i ∈ p.toList, i < ps.length) ∧
    (p.toList.map (pAt ps)).Perm ps ∧ (p.toList.map (pAt ps)).Pairwise (fun q z => plt q z = true) := by
  have hr := ok_n h2 h6 (ranks_perm hx)
  unfold okP at hr
  have e : evalB ps.length (fun i j => Nat.blt (((List.range ps.length).map (rankP ps)).getD i 0) (((List.range ps.length).map (rankP ps)).getD j 0)) (kas_sort ps.length) = evalB ps.length (fun i j => plt (pAt ps i) (pAt ps j)) (kas_sort ps.length) := by
    refine evalB_congr (fun i j hi hj _ => ?_) _
    have ei : ((List.range ps.length).map (rankP ps)).getD i 0 = rankP ps i := by simp [List.getD_eq_getElem?_getD, hi]
    have ej : ((List.range ps.length).map (rankP ps)).getD j 0 = rankP ps j := by simp [List.getD_eq_getElem?_getD, hj]
    rw [ei, ej]
    have := rank_iff hx hi hj
    cases hb : plt (pAt ps i) (pAt ps j) with
    | true => rw [hb] at this; simpa using this.mpr rfl
    | false =>
      rw [hb] at this
      have h3 : ¬ rankP ps i < rankP ps j := fun h => by cases this.mp h
      cases hq : Nat.blt (rankP ps i) (rankP ps j) with
      | false => rfl
      | true => exact absurd (Nat.le_of_ble_eq_true hq) h3
  rw [e] at hr
  cases hp : evalB ps.length (fun i j => plt (pAt ps i) (pAt ps j)) (kas_sort ps.length) with
  | none => rw [hp] at hr; cases hr
  | some p =>
    rw [hp] at hr
    dsimp only at hr
    rw [Bool.and_eq_true, beq_iff_eq, List.all_eq_true] at hr
    obtain ⟨hlt, hmap⟩ := hr
    have hlt : ∀ i ∈ p.toList, i < ps.length := fun i hi => by simpa using hlt i hi
    have hmap' : p.toList.map (rankP ps) = List.range ps.length := by
      rw [← hmap]
      refine List.map_congr_left fun i hi => ?_
      simp [List.getD_eq_getElem?_getD, hlt i hi]
    have hnd : p.toList.Nodup := by
      have := hmap' ▸ (List.nodup_range (n := ps.length))
      rw [List.Nodup, List.pairwise_map] at this
      exact this.imp fun h e => h (congrArg _ e)
    have hlen : p.toList.length = ps.length := by have := congrArg List.length hmap'; simpa using this
    have hperm : p.toList.Perm (List.range ps.length) := perm_of_sub hnd (fun x hx' => List.mem_range.mpr (hlt x hx')) (by rw [hlen]; simp)
    refine ⟨p, rfl, hlt, ?_, ?_⟩
    · have := hperm.map (pAt ps)
      rw [map_pAt] at this
      exact this
    · rw [List.pairwise_map]
      have h3 : (p.toList.map (rankP ps)).Pairwise (· < ·) := by rw [hmap']; exact List.pairwise_lt_range
      rw [List.pairwise_map] at h3
      exact h3.imp_of_mem fun ha hb hab => (rank_iff hx (hlt _ ha) (hlt _ hb)).mp hab
end
section
open PySem PySem.W PySem.Calls PyProof.Rows PySem.Spec
noncomputable def pcD (q : Piece) : List PyData := [.int q.b, .str ⟨#[q.x]⟩, .int q.p]
theorem TupsAre.at3 {tl : List (Addr × Obj)} {ps : List Piece} (h : TupsAre tl (ps.map pcD)) : ∀ i, i < ps.length -> ∃ a t u v, tl[i]? = some (a, tupOf [.int (pAt ps i).b t, .str ⟨#[(pAt ps i).x]⟩ u, .int (pAt ps i).p v]) := fun i hi => by
  obtain ⟨a, vs, e, f⟩ := h.getm hi
  obtain ⟨t, u, v, e2⟩ := flat_isi f
  rw [show pAt ps i = ps[i] by rw [pAt, List.getD_eq_getElem?_getD, List.getElem?_eq_getElem hi]; rfl]
  exact ⟨a, t, u, v, e2 ▸ e⟩
section
variable {prog : Program} {w : World} {A : Around} {E : Value -> Shared -> Prop} {s : Shared} {h₀ : Heap} {L : Addr} {m : Str -> Option Value} {news : List (Addr × Obj)}
theorem lt_pieces {x y : Addr} {q z : Piece} {t u v t' u' v' : Tok} {C : Bool -> Shared -> Prop} (hx : s.heap.get? x = some (tupOf [.int q.b t, .str ⟨#[q.x]⟩ u, .int q.p v])) (hy : s.heap.get? y = some (tupOf [.int z.b t', .str ⟨#[z.x]⟩ u', .int z.p v'])) (hne : q.x ≠ z.x)
    (h : C (plt q z) s) : wpAny (model prog w) A (keyLt' (tuples' true) (.ref x) (.ref y)) C E s := by
  refine kat_lt hx rfl hy rfl ?_
  simp only [List.zip_cons_cons, List.zip_nil_right]
  refine kat_cons (wpAny_eqBool_int ?_)
  by_cases hb : q.b = z.b
  · have e : ((q.b : Int) == (z.b : Int)) = true := by rw [hb]; exact beq_self_eq_true _
    rw [e]
    refine kat_yes (kat_cons (wpAny_eqBool_str ?_))
    have e2 : decide ((⟨#[q.x]⟩ : Str) = ⟨#[z.x]⟩) = false := by
      rw [decide_eq_false_iff_not]
      intro h'
      injection h' with h'
      have := congrArg Array.toList h'
      simp at this
      exact hne this
    rw [e2]
    refine kat_no (kat_one _ _ (lt_str ?_))
    show C (decide ((⟨#[q.x]⟩ : Str).cps.toList < (⟨#[z.x]⟩ : Str).cps.toList)) s
    have e3 : decide ((⟨#[q.x]⟩ : Str).cps.toList < (⟨#[z.x]⟩ : Str).cps.toList) = plt q z := by
      have key : ([q.x] < [z.x]) ↔ q.x < z.x := by
        rw [List.cons_lt_cons_iff]
        simp
      have e4 : decide ([q.x] < [z.x]) = decide (q.x < z.x) := decide_eq_decide.mpr key
      refine Eq.trans (show _ = decide ([q.x] < [z.x]) from rfl) (e4.trans ?_)
      simp [plt, hb]
    rw [e3]
    exact h
  · have e : ((q.b : Int) == (z.b : Int)) = false := by simp; omega
    rw [e]
    refine kat_no ?_
    refine oneLt_int ?_
    have e3 : decide ((q.b : Int) < (z.b : Int)) = plt q z := by simp [plt, hb]
    rw [e3]
    exact h
theorem tups_pick {tl : List (Addr × Obj)} {ps : List Piece} (h : TupsAre tl (ps.map pcD)) : ∀ l : List Nat, (∀ i ∈ l, i < ps.length) -> ∃ tl', refsOf tl' = l.map (fun i => (refsOf tl).getD i Value.none) ∧ TupsAre tl' ((l.map (pAt ps)).map pcD) ∧ ∀ p ∈ tl', p ∈ tl
  | [], _ => ⟨[], rfl, .nil, fun _ h => nomatch h⟩
  | i :: l, hl => by
    obtain ⟨tl', e1, e2, e3⟩ := tups_pick h l fun j hj => hl j (Lmk _ hj)
    obtain ⟨a, t, u, v, e⟩ := h.at3 i (hl i (List.mem_cons_self ..))
    refine ⟨(a, tupOf [.int (pAt ps i).b t, .str ⟨#[(pAt ps i).x]⟩ u, .int (pAt ps i).p v]) :: tl', ?_, ?_, ?_⟩
    · rw [Lpc, ← e1, refsOf, Lpc]
      congr 1
      rw [List.getD_eq_getElem?_getD, refsOf, Lgm, e]; rfl
    · exact .cons (.cons (fun _ => .int _ _) (.cons (fun _ => .str _ _) (.cons (fun _ => .int _ _) .nil))) e2
    · intro p hp
      rcases Lmc.mp hp with rfl | hp
      · exact Lmg e
      · exact e3 p hp
theorem tups_kat {h : Heap} : ∀ {tl : List (Addr × Obj)} {ps : List Piece}, TupsAre tl (ps.map pcD) -> (∀ p ∈ tl, h.get? p.1 = some p.2) -> ∃ fs : List Value, fs.length = ps.length ∧ KatTups h (refsOf tl) fs ∧ ∀ v ∈ fs, ∃ i t, v = .int i t
  | tl, [], htl, _ => by cases htl; exact ⟨[], rfl, KatTups.nil, fun _ h => nomatch h⟩
  | tl, q :: ps, htl, hh => by
    obtain ⟨a, vs, r, rfl, f, h2⟩ := htl.unc
    obtain ⟨t, r1, rfl, f1⟩ := flat_i f
    obtain ⟨fs, e1, e2, e3⟩ := tups_kat h2 fun p hp => hh p (.tail _ hp)
    exact ⟨.int q.b t :: fs, congrArg Nat.succ e1, KatTups.cons (hh _ (.head _)) rfl rfl rfl e2, List.forall_mem_cons.mpr ⟨⟨_, _, rfl⟩, e3⟩⟩
theorem sort_few {a : Addr} {vs : List Value} {n : Nat} {P : PySem.Fin -> Shared -> Prop} (ho : s.heap.get? a = some (seqObj "list" vs.toArray n)) (h2 : vs.length < 2)
    (h : ∀ h' e, h'.get? a = some (seqObj "list" vs.toArray e) -> (∀ b o, b ≠ a -> s.heap.get? b = some o -> h'.get? b = some o) -> P (.done (.ret .none)) { s with heap := h' }) :
    wpAny (model prog w) A (Builtin.«list.sort» ⟨[.ref a], []⟩) P E s := by
  have ha : a < s.heap.objs.size := Hls ho
  rw [list_sort_plain]
  refine wpAny_bind (listItems_at ho rfl ?_)
  refine wpAny_bind (listUpdate_at ho rfl ?_ (by rw [Lst, sizeLine_eq]; omega) (Nat.zero_le _))
  obtain ⟨e1, ho1⟩ : ∃ e1, (s.heap.update a (Obj.mapSeq fun _ => (#[] : Array Value))).get? a = some (seqObj "list" #[] e1) := ⟨_, get?_update_seq ho fun _ => #[]⟩
  refine wpAny_bind (seqEpoch_at ho1 rfl ?_)
  refine wpAny_bind (wpAny_newTuple ?_ (by show vs.length ≤ _; rw [sizeLine_eq]; omega))
  refine wpAny_bind (wpAny_newList ?_ (Nat.zero_le _))
  refine wpAny_holding ?_
  show wpAny (model prog w) A _ P E { s with heap := ((s.heap.update a (Obj.mapSeq fun _ => (#[] : Array Value))).push (seqObj "tuple" vs.toArray 0)).push (seqObj "list" #[] 0) }
  obtain ⟨H, hH⟩ : ∃ H, H = ((s.heap.update a (Obj.mapSeq fun _ => (#[] : Array Value))).push (seqObj "tuple" vs.toArray 0)).push (seqObj "list" #[] 0) := ⟨_, rfl⟩
  rw [← hH]
  have hoH : H.get? a = some (seqObj "list" #[] e1) := by rw [hH]; exact Heap.get?_push_of_some _ (Heap.get?_push_of_some _ ho1)
  have s1 := Heap.SameBut.update s.heap a (Obj.mapSeq fun _ => (#[] : Array Value))
  have kH : ∀ b o, b ≠ a -> s.heap.get? b = some o -> H.get? b = some o := fun b o hb e => by
    rw [hH]; exact Heap.get?_push_of_some _ (Heap.get?_push_of_some _ ((s1.2 b hb).trans e))
  dsimp only
  have hn2 : vs.toArray.size < 2 := by rw [Lst]; exact h2
  rw [if_pos hn2, if_pos hn2]
  refine wpAny_bind (wpAny_pure ?_)
  rw [StateT.run_pure]
  refine wpAny_bind (wpAny_pure ?_)
  dsimp only
  refine wpAny_bind (seqEpoch_at hoH rfl ?_)
  have hout : (arrOf (SortSt.mk' general' (vs.toArray.zip vs.toArray) #[] 7 none)).map (·.2) = vs.toArray := by
    show (vs.toArray.zip vs.toArray).map (·.2) = vs.toArray
    apply Array.toList_inj.mp
    have : ∀ l : List Value, (l.zip l).map (fun x => x.2) = l := fun l => by
      induction l with
      | nil => rfl
      | cons x l ih => rw [List.zip_cons_cons, Lpc, ih]
    simpa using this vs
  rw [hout]
  obtain ⟨c2, hc2⟩ : ∃ c2, (H.update a (Obj.mapSeq fun _ => vs.toArray)).get? a = some (seqObj "list" vs.toArray c2) := ⟨_, get?_update_seq hoH fun _ => vs.toArray⟩
  have s2 := Heap.SameBut.update H a (Obj.mapSeq fun _ => vs.toArray)
  refine wpAny_bind (listUpdate_at hoH rfl ?_ (Nat.zero_le _) (by rw [Lst, sizeLine_eq]; omega))
  simp only [bne_self_eq_false, Bool.false_eq_true, if_false]
  exact wpAny_pure (h _ c2 hc2 fun b o hb e => (s2.2 b hb).trans (kH b o hb e))
theorem sorted_few {l : Addr} {vs : List Value} {Q : Value -> Shared -> Prop} (F : Fr h₀ L s.heap m) (N : News h₀ L s.heap news) (hl : s.heap.IsList l vs.toArray) (h2 : vs.length < 2)
    (h : ∀ D e1 h', Fr h₀ L h' m -> News h₀ L h' ((D, listOf vs.toArray e1) :: news) -> (∀ q ∈ news, q.1 < D) -> Q (.ref D) { s with heap := h' }) :
    wpAny (model prog w) A (call (.builtin "sorted") [.ref l]) Q E s := by
  refine Calls.call_function_entry kind_sorted plain_sorted entry_sorted (args_sorted1 _) ?_
  unfold Builtin.«sorted»
  refine wpAny_bind (m := checkCount "sorted" 1 1 _) (wpAny_pure ?_)
  refine wpAny_bind (collect_list hl ?_ (by rw [sizeLine_eq]; omega))
  refine wpAny_bind (wpAny_newList ?_ (by rw [sizeLine_eq]; omega))
  obtain ⟨G, hG⟩ : ∃ G, G = (s.heap.push (seqObj "list" #[] 0)).update s.heap.objs.size (Obj.mapSeq (· ++ vs.toArray)) := ⟨_, rfl⟩
  have hsz : G.objs.size = s.heap.objs.size + 1 := by rw [hG, Heap.size_update, size_push']
  have up : ∀ b o, s.heap.get? b = some o -> (G.push (seqObj "list" vs.toArray 0)).get? b = some o := fun b o q => by
    have hlt : b < s.heap.objs.size := Hls q
    rw [Heap.get?_push_ne _ _ _ (by rw [hsz]; exact Nnl (Nat.lt_succ_of_lt hlt)), hG, Heap.get?_update_ne _ _ _ _ (Nnl hlt), Heap.get?_push_ne _ _ _ (Nnl hlt)]
    exact q
  have hoL : (G.push (seqObj "list" vs.toArray 0)).get? (s.heap.objs.size + 1) = some (seqObj "list" vs.toArray 0) := by
    rw [← hsz]; exact Heap.get?_push_size _ rfl
  have hL : L < s.heap.objs.size := F.ns.lt
  show wpAny _ _ _ _ _ { s with heap := ((s.heap.push (seqObj "list" #[] 0)).update s.heap.objs.size (Obj.mapSeq (· ++ vs.toArray))).push (seqObj "list" vs.toArray 0) }
  rw [← hG, hsz]
  have ltD : ∀ q ∈ news, q.1 < s.heap.objs.size + 1 := fun q hq => Nat.lt_succ_of_lt (Hls (N q hq).1)
  have nD : h₀.get? (s.heap.objs.size + 1) = none := Heap.get?_none_of_le (Nlt F.above (Nat.le_succ_of_le (Nat.le_of_lt hL)))
  refine wpAny_bind (wpAny_holding (wpAny_call_entry slot_list_sort ⟨_, hoL, rfl⟩ entry_list_sort (sort_few (s := { s with heap := G.push (seqObj "list" vs.toArray 0) }) hoL h2 fun h' e hD k => ⟨_, rfl, ?_⟩) (args_list_sort _)))
  have LD : L ≠ s.heap.objs.size + 1 := Nnl (Nat.lt_succ_of_lt hL)
  have kk : ∀ b o, s.heap.get? b = some o -> h'.get? b = some o := fun b o q => k b o (Nnl (Nat.lt_succ_of_lt (Hls q))) (up b o q)
  refine wpAny_pure ⟨_, rfl, h _ e h' ⟨F.ns.at' fun o q => kk _ o q, fun b o q => kk b o (F.keep b o q), F.above⟩ (fun p hp => ?_) ltD⟩
  rcases Lmc.mp hp with rfl | hp
  · exact ⟨hD, Ne.symm LD, nD⟩
  · exact ⟨kk _ _ (N p hp).1, (N p hp).2⟩
theorem pw_short {α : Type} {R : α -> α -> Prop} {l : List α} (h : l.length < 2) : l.Pairwise R := by
  cases l with
  | nil => exact List.Pairwise.nil
  | cons a l => cases l with
    | nil => exact List.pairwise_singleton _ _
    | cons b l => exact absurd h (Nat.not_lt.mpr (Nat.succ_le_succ (Nat.succ_le_succ (Nat.zero_le _))))
theorem c_sorted (F : Fr h₀ L s.heap m) (N : News h₀ L s.heap news) {l : Addr} {tl : List (Addr × Obj)} {ps : List Piece} {Q : Value -> Shared -> Prop} (hl : s.heap.IsList l (refsOf tl).toArray) (htl : TupsAre tl (ps.map pcD)) (hsub : ∀ p ∈ tl, p ∈ news)
    (hx : (ps.map (·.x)).Nodup) (h6 : ps.length ≤ 6)
    (hQ : ∀ D e h' tl' (ps' : List Piece), Fr h₀ L h' m -> News h₀ L h' ((D, Wl (refsOf tl').toArray e) :: news) -> (∀ q ∈ news, q.1 < D) -> TupsAre tl' (ps'.map pcD) -> (∀ p ∈ tl', p ∈ tl) -> ps'.Perm ps -> ps'.Pairwise (fun q z => plt q z = true) -> Q (.ref D) { s with heap := h' }) :
    wpAny (model prog w) A (call (.builtin "sorted") [.ref l]) Q E s := by
  have hlen : tl.length = ps.length := by rw [htl.length]; simp
  by_cases h2 : ps.length < 2
  · refine sorted_few F N hl (by simp [hlen]; omega) fun D e1 h' F' N' lt => ?_
    exact hQ D e1 h' tl ps F' N' lt htl (fun _ h => h) (List.Perm.refl _) (pw_short h2)
  · obtain ⟨p, hp, hlt, hperm, hpw⟩ := sort_ok hx (by omega) h6
    refine kat_sorted F N hl (by simp [hlen]; omega) (by simp [hlen]; omega) fun D e1 h' F' N' lt => ?_
    have hget : ∀ i, i < ps.length -> ∃ a t u v, (refsOf tl).getD i Value.none = .ref a ∧ h'.get? a = some (tupOf [.int (pAt ps i).b t, .str ⟨#[(pAt ps i).x]⟩ u, .int (pAt ps i).p v]) := fun i hi => by
      obtain ⟨a, t, u, v, e⟩ := htl.at3 i hi
      refine ⟨a, t, u, v, ?_, (N' _ (.tail _ (hsub _ (Lmg e)))).1⟩
      rw [List.getD_eq_getElem?_getD, refsOf, Lgm, e]; rfl
    obtain ⟨fs, f1, f2, f3⟩ := tups_kat (h := h') htl fun p hp => (N' _ (.tail _ (hsub p hp))).1
    refine kat_kind (fs := fs) (T := .type "int") f2 (by omega) (fun v hv => ?_) rfl ?_
    · obtain ⟨i, t, rfl⟩ := f3 v hv
      exact Looks.of_pure rfl
    have hl2 : (refsOf tl).length = ps.length := by simp [hlen]
    rw [hl2]
    refine kas_pure (I := fun s' => s' = { s with heap := h' }) (n := ps.length) (lt := fun i j => plt (pAt ps i) (pAt ps j)) ?_ _ _ hp _ rfl ?_
    · rintro i j C s' hi hj hij rfl hC
      obtain ⟨a, t, u, v, ea, oa⟩ := hget i hi
      obtain ⟨b, t', u', v', eb, ob⟩ := hget j hj
      unfold kas_ask
      rw [ea, eb]
      exact lt_pieces oa ob (pAt_x hx hi hj hij) (hC _ rfl)
    · rintro s' rfl
      obtain ⟨tl', e1, e2, e3⟩ := tups_pick htl p.toList hlt
      rw [← e1]
      exact KasFin.intro F' N' (.head fun q hq => Nnl (lt q hq)) fun h'' c F'' N'' => hQ D c h'' tl' _ F'' N'' lt e2 e3 hperm hpw
end
end
section
open PySem PySem.W PySem.Calls PyProof.Rows PySem.Spec
theorem turn_up {g h : Heap} {L L' : Addr} {m : Str -> Option Value} {oL : Obj} {sl : Array (Option Value)} (hg : g.get? L = some oL) (F : Fr (hideAll g [L]) L' h m) (hL : h.get? L = some { oL with slots := sl }) :
    ∃ G, KtsTurn [L] g G ∧ Fr G L' h m := by
  obtain ⟨T, S⟩ := kts_turn_at (fs := [L]) (g := g) (h := h) (fun b hb => by rw [Lms.mp hb]; exact ⟨_, hg⟩) (fun b o e nb => F.keep b o (hideAll_get _ e nb)) (fun b o e hb => by
    rw [Lms.mp hb] at e ⊢
    rw [hg] at e
    cases e
    exact ⟨sl, hL⟩)
  exact ⟨_, T, F.ns, S, by rw [T.size]; exact Nlt (Nle (hideAll_size _ _).symm) F.above⟩
theorem turn_down {g G h : Heap} {L L' : Addr} {m : Str -> Option Value} {oL : Obj} (T : KtsTurn [L] g G) (hg : g.get? L = some oL) (F : Fr G L' h m) : Fr (hideAll g [L]) L' h m ∧ ∃ sl, h.get? L = some { oL with slots := sl } := by
  refine ⟨⟨F.ns, fun b o e => ?_, Nlt (Nle ((hideAll_size _ _).trans T.size.symm)) F.above⟩, ?_⟩
  · have hb : b ∉ [L] := fun hm => by rw [hideAll_none _ hm] at e; cases e
    exact F.keep b o (T.other b o (of_hideAll _ e) hb)
  · obtain ⟨sl, hs⟩ := T.up hg
    exact ⟨sl, F.keep _ _ hs⟩
theorem news_up {g G h : Heap} {L L' : Addr} {l : List (Addr × Obj)} (T : KtsTurn [L] g G) (N : News (hideAll g [L]) L' h l) (hl : ∀ p ∈ l, p.1 ≠ L) : News G L' h l := fun p hp => by
  refine ⟨(N p hp).1, (N p hp).2.1, T.none_ _ ?_⟩
  cases q : g.get? p.1 with
  | none => rfl
  | some o =>
    have := (N p hp).2.2
    rw [hideAll_get _ q (fun hm => hl p hp (Lms.mp hm))] at this
    cases this
theorem news_down {g G h : Heap} {L L' : Addr} {l : List (Addr × Obj)} (T : KtsTurn [L] g G) (N : News G L' h l) : News (hideAll g [L]) L' h l := fun p hp => by
  refine ⟨(N p hp).1, (N p hp).2.1, ?_⟩
  cases q : (hideAll g [L]).get? p.1 with
  | none => rfl
  | some o =>
    have hb : p.1 ∉ [L] := fun hm => by rw [hideAll_none _ hm] at q; cases q
    have := (N p hp).2.2
    rw [T.other _ _ (of_hideAll _ q) hb] at this
    cases this
section
variable {w : World} {j dp un : Nat} {A₀ : Around} {s : Shared} {base h₀ : Heap} {L : Addr} {m : Str -> Option Value} {env : Env} {own : List (Addr × Obj)}
  {R : Result -> Shared -> Prop} {name qual : Str} {params : Arguments} {body : List Stmt} {scope : Scope} {cl : List (Str × Addr)} {dV kV doc pm cdv ct oc : Value} {an od : Option Addr} {osl : Array (Option Value)} {f : Addr} {args : Args} {binds : List (Str × Value)}
theorem below_turn {g G : Heap} {A : Around} (B : Below A base [env] g) (hf : env.frame = some L) (T : KtsTurn [L] g G) : Below A base [env] G := by
  have hfr : [env].filterMap (·.frame) = [L] := by simp [hf]
  exact ⟨B.stack, fun b o e => T.other b o (B.stays b o e) (fun hm => by
    rw [← hfr] at hm
    rw [(B.frames.mem hm).1] at e
    cases e), B.frames.of_keeps fun b o e _ => by
    obtain ⟨sl, hs⟩ := T.up e
    exact ⟨_, hs, rfl⟩⟩
theorem enterT0 (cx : Cx w (j + 1) dp un A₀ env [] base h₀ L) (F : Fr h₀ L s.heap m) (O : News h₀ L s.heap own)
    (ho : (_root_.Mine.hd.heap_1 w.params).lookup f = some ⟨oc, od, .func (fnX name qual params body scope cl dV kV doc pm an cdv ct), osl⟩) (hcd : codeIn (_root_.Mine.hd.heap_1 w.params) cdv qual = true)
    (hbind : BindsTo s (fnX name qual params body scope cl dV kV doc pm an cdv ct) args binds) (hloc : ∀ y ∈ binds, scope.names.lookup y.1 = some .local)
    (h : ∀ g L' h₁, Fr h₀ L g m -> (∀ b o, s.heap.get? b = some o -> b ∉ own.map (·.1) -> g.get? b = some o) -> Fr g L' h₁ (fun y => binds.reverse.lookup y) -> News g L' h₁ own -> Cx w j (dp + 1) (un + 3) (AA dp un env []) (envX qual scope L' f cdv cl) [env] base g L' -> (∀ p ∈ own, p.1 < L') ->
      wpAny (model RWQ.row.prog w) (AA (dp + 1) (un + 3) (envX qual scope L' f cdv cl) [env]) (execs body (envX qual scope L' f cdv cl))
        (fun fl s' => LeaveS0 [L] h₀ L m g R (match fl with | .ret v => v | _ => .none) s')
        (fun e s' => wpAny (model RWQ.row.prog w) (AA (dp + 1) (un + 3) (envX qual scope L' f cdv cl) [env]) (leaving (envX qual scope L' f cdv cl) e) (fun _ s'' => R (.error e) s'') (fun e' s'' => R (.error e') s'') s')
        { s with heap := h₁, toks := s.toks + binds.length })
    (hcell : ∀ x ∈ scope.names, x.2 ≠ .cell) (hco : scope.isCoroutine = false) (hgen : scope.isGenerator = false) (hk : scope.kind = .function) :
    codeAny (model RWQ.row.prog w) (AA dp un env []) (.call (.ref f) args) R s := by
  obtain ⟨X, ⟨p, loose, mean, mg, mb, T⟩, B, hf, hke, hd0, hu0⟩ := cx
  obtain ⟨FG, BG, st, lv⟩ := groundX (R := R) B F O (A := AA dp un env []) rfl hf hke
  refine codeAny_call_def (fd := fnX name qual params body scope cl dV kV doc pm an cdv ct) (body := body) (binds := binds) (show dp < 1000 by omega) ((X.keeps F.keep) _ _ ho) rfl (T.nolimit.keeps F.keep) (codeRec_of (X.keeps F.keep) hcd) rfl hbind hcell hloc (fun h₁ hns hk₁ => ?_) hco hgen hk
  refine wpAny_mono (h _ s.heap.objs.size h₁ FG (fun b o e q => hideAll_get _ e q) ⟨hns, fun b o e => hk₁ b o (of_hideAll _ e), Nle (hideAll_size _ _)⟩
    (fun p hp => ⟨hk₁ _ _ (O p hp).1, Nnl (Hls (O p hp).1), hideAll_none _ (List.mem_map_of_mem hp)⟩) ⟨X.keeps st, ⟨p, loose, mean, mg, mb, T.keeps st⟩, BG, rfl, hk, (by omega), (by omega)⟩ (fun p hp => Hls (O p hp).1)) (fun fl s' hl => ?_) fun _ _ y => y
  obtain ⟨g', L', m', news', T', F', N', k⟩ := hl
  have nL₀ : h₀.get? L = none := kts_self F
  obtain ⟨oL, es, ep, hLg, hLd, hLk, hLf⟩ := FG.ns
  obtain ⟨sl, hs⟩ := T'.up hLg
  refine k ⟨⟨{ oL with slots := sl }, es, ep, F'.keep _ _ hs, hLd, hLk, hLf⟩, fun b o e => F'.keep b o (T'.other b o (FG.keep b o e) (fun q => by
    rw [Lms.mp q, nL₀] at e
    cases e)), F.above⟩ fun p hp => ⟨(N' p hp).1, fun q => ?_, ?_⟩
  · have := (N' p hp).2.2; rw [q, hs] at this; cases this
  · cases q : h₀.get? p.1 with
    | none => rfl
    | some o =>
      obtain ⟨sl', hs'⟩ := T'.up (FG.keep _ _ q)
      have := (N' p hp).2.2
      rw [hs'] at this
      cases this
noncomputable def LeaveToS (fs : List Addr) (h₀ : Heap) (L : Addr) (m : Str -> Option Value) (g : Heap) (R : Result -> Shared -> Prop) (Q' : Flow -> Shared -> Prop) : Prop := ∀ fl s', LeaveS0 fs h₀ L m g R (match fl with | .ret v => v | _ => .none) s' -> Q' fl s'
theorem LeaveToS.go {fs : List Addr} {h₀ : Heap} {L : Addr} {m : Str -> Option Value} {g : Heap} {R : Result -> Shared -> Prop} {Q' : Flow -> Shared -> Prop} (h : LeaveToS fs h₀ L m g R Q') {fl : Flow} {s' : Shared} (k : LeaveS0 fs h₀ L m g R (match fl with | .ret v => v | _ => .none) s') : Q' fl s' := h _ _ k
theorem enterT (cx : Cx w (j + 1) dp un A₀ env [] base h₀ L) (F : Fr h₀ L s.heap m) (O : News h₀ L s.heap own)
    (ho : (_root_.Mine.hd.heap_1 w.params).lookup f = some ⟨oc, od, .func (fnX name qual params body scope cl dV kV doc pm an cdv ct), osl⟩) (hcd : codeIn (_root_.Mine.hd.heap_1 w.params) cdv qual = true)
    (hbind : BindsTo s (fnX name qual params body scope cl dV kV doc pm an cdv ct) args binds) (hloc : ∀ y ∈ binds, scope.names.lookup y.1 = some .local)
    (h : ∀ (Q' : Flow -> Shared -> Prop) g L' h₁, Fr h₀ L g m -> (∀ b o, s.heap.get? b = some o -> b ∉ own.map (·.1) -> g.get? b = some o) -> Fr g L' h₁ (fun y => binds.reverse.lookup y) -> News g L' h₁ own -> Cx w j (dp + 1) (un + 3) (AA dp un env []) (envX qual scope L' f cdv cl) [env] base g L' -> (∀ p ∈ own, p.1 < L') -> LeaveToS [L] h₀ L m g R Q' ->
      wpAny (model RWQ.row.prog w) (AA (dp + 1) (un + 3) (envX qual scope L' f cdv cl) [env]) (execs body (envX qual scope L' f cdv cl)) Q' (fun _ _ => False)
        { s with heap := h₁, toks := s.toks + binds.length })
    (hcell : ∀ x ∈ scope.names, x.2 ≠ .cell) (hco : scope.isCoroutine = false) (hgen : scope.isGenerator = false) (hk : scope.kind = .function) :
    codeAny (model RWQ.row.prog w) (AA dp un env []) (.call (.ref f) args) R s :=
  enterT0 cx F O ho hcd hbind hloc (fun g L' h₁ FG hg F' N' cx' lt => wpAny_mono (h _ g L' h₁ FG hg F' N' cx' lt fun _ _ k => k) (fun _ _ k => k) fun _ _ x => x.elim) hcell hco hgen hk
end
end
section
open PySem PySem.W PySem.Calls PyProof.Rows Builtin Builtin.ObjectAttr Builtin.Getset_descriptor
noncomputable def makesL (K : Frag) (C : Addr) : Bool := match K.lookup C with
  | some ⟨_, _, .cls cd, sl⟩ => !cd.abstract && !cd.hasDel && (sl.toList[4]?).join == some (.builtin "list.__new__") && !cd.mro.isEmpty && cd.mro.contains (.ref C) && cd.mro.contains (.type "list") &&
      specialIn K (.ref C) "__call__" == some (some (.builtin "type.__call__")) && instIn K (.ref C) (.type "type") == some true
  | _ => false
structure MakesL (M : Model) (h : Heap) (C : Addr) : Prop where
  obj : ∃ oc od cd sl, h.get? C = some ⟨oc, od, .cls cd, sl⟩ ∧ cd.abstract = false ∧ cd.hasDel = false ∧ cd.mro.isEmpty = false
  made : Looks M h (Bind.madeBy (.ref C)) (some "list.__new__")
  base : Looks M h (Bind.staticBase (.ref C)) (.ref C)
  self : Looks M h (isSubtype (.ref C) (.ref C)) true
  lst : Looks M h (isSubtype (.ref C) (.type "list")) true
  call : Looks M h (specialOf (.ref C) "__call__") (some (.builtin "type.__call__"))
  typ : Looks M h (isInstance (.ref C) (.type "type")) true
theorem makesL_of {K : Frag} {M : Model} {h : Heap} (X : K.In h) {C : Addr} (e : makesL K C = true) : MakesL M h C := by
  unfold makesL at e
  split at e
  · rename_i oc od cd sl ho
    simp only [Bool.and_eq_true, Bool.not_eq_true', beq_iff_eq] at e
    obtain ⟨⟨⟨⟨⟨⟨⟨e1, e2⟩, e3⟩, e4⟩, e5⟩, e6⟩, e7⟩, e8⟩ := e
    have hc : clsIn K C = some cd := by unfold clsIn; rw [ho]
    have hm : Looks M h (mroOf (.ref C)) cd.mro := (looks_clsIn X hc).andThen .now
    obtain ⟨c, l, hl⟩ : ∃ c l, cd.mro = c :: l := by cases q : cd.mro with | nil => rw [q] at e4; cases e4 | cons c l => exact ⟨c, l, rfl⟩
    have made : Looks M h (Bind.madeBy (.ref C)) (some "list.__new__") := by
      intro A Q E s k q
      unfold Bind.madeBy
      refine wpAny_bind (hm A _ E s k ?_)
      rw [hl, List.forIn_cons]
      refine wpAny_bind (wpAny_bind (wpAny_bind (wpAny_bind (wpAny_loadPart (k _ _ (X _ _ ho)) (wpAny_pure ?_)))))
      dsimp only
      rw [← Array.getElem?_toList, e3]
      exact wpAny_pure (wpAny_pure (wpAny_pure q))
    refine ⟨⟨oc, od, cd, sl, X _ _ ho, e1, e2, e4⟩, made, ?_, looks_mroIn X ?_, looks_mroIn X ?_, looks_specialIn X e7, looks_instIn X e8⟩
    · intro A Q E s k q
      unfold Bind.staticBase
      refine wpAny_bind (hm A _ E s k ?_)
      rw [hl, List.forIn_cons]
      exact wpAny_bind (wpAny_bind (wpAny_bind (made A _ E s k (wpAny_pure (wpAny_pure (wpAny_pure q))))))
    · unfold mroIn; rw [hc, Option.bind_some, if_neg (by rw [e4]; decide), e5]
    · unfold mroIn; rw [hc, Option.bind_some, if_neg (by rw [e4]; decide), e6]
  · cases e
noncomputable abbrev lstObj (C d : Addr) : Obj := { cls := .ref C, dict := some d, data := .seq #[] }
theorem ln_row : Manifest.signature? "list.__new__" = some ⟨.any, "list", "list", .cls, [⟨"args", .varPos, false⟩, ⟨"kwargs", .varKw, false⟩]⟩ := by kernel_rfl
theorem ln_kind : builtinKind "list.__new__" = some .builtinFn := by decide +kernel
theorem ln_split : splitId "list.__new__" = some ("list", "__new__") := by decide +kernel
section
variable {prog : Program} {w : World} {A : Around} {K : Frag} {C : Addr} {R : Result -> Shared -> Prop} {h : Heap} {g : Array GenState} {d : Drawn} {t : Nat} {os : OsState}
theorem new_L {a : Value} (Y : MakesL (model prog w) h C)
    (hq : R (.ok (.ret (.ref (h.objs.size + 1)))) ⟨(h.push emptyDict).push (lstObj C h.objs.size), g, d, t, os⟩) :
    codeAny (model prog w) A (.call (.builtin "list.__new__") ⟨[.ref C, a], []⟩) R ⟨h, g, d, t, os⟩ := by
  revert Y hq
  revert prog w A C R h g d t os a
  apply frz11; case n => walk_at "FZN"
  intro prog w A C R h g d t os a
  clear_value prog w A C R h g d t os a
  intro Y hq
  obtain ⟨⟨oc, od, cd, sl, hC, e1, e2, e4⟩, made, base, self, top, call, typ⟩ := Y
  refine codeAny_of_tree ?_
  show wpAny _ A.in1 (do checkBuiltinCall "list.__new__" ⟨[.ref C, a], []⟩; again (.builtin "list.__new__" ⟨[.ref C, a], []⟩)) _ _ _
  refine wpAny_bind ?_
  simp only [checkBuiltinCall, ln_kind, ln_split, ln_row]
  have args : Bind.checkArgs "list.__new__" ⟨.any, "list", "list", .cls, [⟨"args", .varPos, false⟩, ⟨"kwargs", .varKw, false⟩]⟩ ⟨[.ref C, a], []⟩ = pure () := by kernel_rfl
  rw [args]
  simp only [beq_self_eq_true, if_true]
  repeat (first | simp only [bne_self_eq_false, Bool.false_eq_true, if_false, Bool.not_true] | lk)
  refine ⟨plainId_quiet PySem.F.plain_list_new _, codeAny_builtin_stack PySem.F.entry_list_new rfl fun p st => ?_⟩
  rw [Around.under_plainId PySem.F.plain_list_new _]
  simp only [owner_list_new]
  repeat (first | simp only [bne_self_eq_false, Bool.false_eq_true, if_false, Bool.not_true] | lk)
  refine wpAny_load (Heap.get?_push_of_some _ (Heap.get?_push_of_some _ hC)) (wpAny_pure ?_)
  rw [e2]
  refine wpAny_pure ?_
  refine wpAny_pure ?_
  show R _ _
  rw [Heap.size_push]
  exact hq
theorem make_coreL {a : Value} {init : Value} (Y : MakesL (model prog w) h C) (hi : Looks (model prog w) h (typeLookup (.ref C) "__init__") (some init))
    (hb : ∀ self, Looks (model prog w) h (bindSpecial init self) (init, [self]))
    (hq : codeAny (model prog w) (A.under (.builtin "type.__call__" ⟨[.ref C, a], []⟩)) (.call init ⟨[.ref (h.objs.size + 1), a], []⟩) (InitBack (h.objs.size + 1) R) ⟨(h.push emptyDict).push (lstObj C h.objs.size), g, d, t, os⟩) :
    codeAny (model prog w) A (.call (.ref C) ⟨[a], []⟩) R ⟨h, g, d, t, os⟩ := by
  have Y' := Y
  obtain ⟨⟨oc, od, cd, sl, hC, e1, e2, e4⟩, made, base, self, top, call, typ⟩ := Y
  refine codeAny_of_tree ?_
  show wpAny _ _ (callAny (.ref C) _) _ _ _
  refine nd_load hC ?_
  show wpAny _ _ (callAny.viaDunder (.ref C) _) _ _ _
  unfold callAny.viaDunder
  refine wpAny_bind (call.at ?_)
  dsimp only
  rw [tc_bind]
  refine wpAny_bind (wpAny_pure (wpAny_bind (wpAny_pure ?_)))
  refine wpAny_pure (a := Fin.again (.call (.builtin "type.__call__") ⟨[.ref C, a], []⟩)) (And.intro rfl ?_)
  refine codeAny_call_builtin_at (Code.quiet_builtin _ (by decide +kernel)) entry_typeCall (check_slot tc_kind tc_split typ (tc_args _ _ _) ?_)
  unfold Builtin.«type.__call__»
  have hm : Looks (model prog w) h (mroOf (.ref C)) cd.mro := ((Looks.ld (part := none) hC).andThen .now).andThen .now
  repeat (first | simp only [e4, Bool.false_eq_true, if_false] | with_reducible refine wpAny_call ?_ | lk)
  refine new_L Y' ?_
  have k : ∀ b o, h.get? b = some o -> ((h.push emptyDict).push (lstObj C h.objs.size)).get? b = some o := fun b o e => Heap.get?_push_of_some _ (Heap.get?_push_of_some _ e)
  have hx : ((h.push emptyDict).push (lstObj C h.objs.size)).get? (h.objs.size + 1) = some (lstObj C h.objs.size) := by heap_get
  have t1 : Looks (model prog w) ((h.push emptyDict).push (lstObj C h.objs.size)) (typeOf (.ref (h.objs.size + 1))) (.ref C) := (Looks.ld hx).andThen .now
  have s1 := self.keeps k
  have i1 := hi.keeps k
  have b1 := (hb (.ref (h.objs.size + 1))).keeps k
  unfold isInstance callSpecial? specialOf
  repeat (first | with_reducible refine wpAny_call ?_ | lk)
  refine codeAny_mono hq fun r s' z => ?_
  rcases r with e | (v | _ | _ | _) <;> first | exact z | exact z.elim | skip
  obtain ⟨rfl, z⟩ := z
  exact wpAny_pure (wpAny_pure z)
end
section
variable {prog : Program} {w : World} {A : Around} {K : Frag} {C x : Addr} {s : Shared} {h₀ : Heap} {L : Addr} {m : Str -> Option Value} {news : List (Addr × Obj)} {R : Result -> Shared -> Prop}
theorem make_L {a : Value} {fI : Addr} (F : Fr h₀ L s.heap m) (N : News h₀ L s.heap news) (X : K.In s.heap) (hm : makesL K C = true)
    (hi : findIn K (.ref C) "__init__" = some (some (.ref fI))) (hf : typeIn K (.ref fI) = some (.type "function"))
    (h : ∀ x dx h', Fr h₀ L h' m -> News h₀ L h' ((x, lstObj C dx) :: (dx, emptyDict) :: news) -> (∀ p ∈ news, p.1 < dx) -> dx < x ->
      codeAny (model prog w) (A.under (.builtin "type.__call__" ⟨[.ref C, a], []⟩)) (.call (.ref fI) ⟨[.ref x, a], []⟩) (InitBack x R) { s with heap := h' }) :
    codeAny (model prog w) A (.call (.ref C) ⟨[a], []⟩) R s := by
  obtain ⟨hh, g, d, t, os⟩ := s
  refine make_coreL (makesL_of X hm) (looks_findIn X hi) (fun self => bind_fn X self hf) (h _ hh.objs.size _ ((F.push _).push _) ?_ (fun p hp => Hls (N p hp).1) (Nls _))
  have := (N.push F emptyDict).push (F.push _) (lstObj C hh.objs.size)
  rwa [Heap.size_push] at this
theorem under_AA (dp un : Nat) (env : Env) (outer : List Env) (C : Addr) (vals : List Value) : (AA dp un env outer).under (.builtin "type.__call__" ⟨.ref C :: vals, []⟩) = AA (dp + 1) (un + 1) env outer := rfl
end
end
section
open PySem PySem.W PySem.Calls PyProof.Rows Builtin Builtin.ObjectAttr
section
variable {prog : Program} {w : World} {A : Around} {E : Value -> Shared -> Prop} {s : Shared} {K : Frag} {x C L f : Addr} {ox : Obj} {name : Str} {h₀ : Heap} {m : Str -> Option Value} {es : List DictEntry} {n : Nat} {pl : Sem Bool} {Q : Value × List Value -> Shared -> Prop} {v g : Value}
theorem findObj_inst {od : Obj} {a : Value} (hh : hasDictIn K C = true) (ha : findIn K (.ref C) name = some (some a)) (hg : specialIn K a "__get__" = some (some g)) (ht : takesIn K a = some false) (hl : lookIn name od = some (some v)) :
    findObj K C (some od) name = some (.value v) := by
  obtain ⟨cd, hc, hd⟩ := any_some hh
  unfold findObj
  rw [hc, Option.bind_some, ha, Option.bind_some]
  have ho : W.ownOf cd (some od) name = some (some v) := by unfold W.ownOf; rw [if_pos hd]; exact hl
  simp [hg, ht, ho]
theorem meth_inst (F : Fr h₀ L s.heap m) (X₀ : K.In h₀) (I : InstAt s.heap x ox C (some (dictOf es n))) (hg : plainGet K C name = true) (hh : hasDictIn K C = true) (hf : findIn K (.ref C) name = some (some (.ref f))) (ht : typeIn K (.ref f) = some (.type "function"))
    (hgf : specialIn K (.ref f) "__get__" = some (some g)) (hts : takesIn K (.ref f) = some false) (hl : getL name es = some (some v)) (hv : handedIn v = true) (h : Q (v, []) { s with toks := s.toks + 1 }) :
    wpAny (model prog w) A (getMethod (.ref x) name pl) Q E s := by
  have X := X₀.keeps F.keep
  have hcan := PySem.F.canon_object_ga
  have hlk : lookIn name (dictOf es n) = some (some v) := by rw [lookIn_dict, hl]
  have u : wpAny (model prog w) A (do return (← getAttr (.ref x) name, ([] : List Value))) Q E s :=
    wpAny_bind (wpAny_mono (get_value X I (plainGet_of hg).1 (findObj_inst hh hf hgf hts hlk) hv h) (fun _ _ z => wpAny_pure z) fun _ _ z => z)
  unfold getMethod specialOf
  refine wpAny_bind (wpAny_bind (I.type.here ((looks_findIn X (plainGet_of hg).1).here ?_)))
  dsimp only
  rw [hcan, if_neg (by decide)]
  refine wpAny_bind (wpAny_bind (I.type.here ((looks_findIn X (plainGet_of hg).2).here ?_)))
  refine wpAny_bind (wpAny_bind (I.type.here ((looks_findIn X hf).here (wpAny_bind ((looks_typeIn X ht).here ?_)))))
  rw [if_neg (by decide +kernel)]
  refine wpAny_bind (wpAny_loadPart I.at_ ?_)
  have hd := I.dict
  cases e : ox.dict with
  | none => rw [e] at hd; exact hd.elim
  | some dx =>
    rw [e] at hd
    refine wpAny_bind (wpAny_bind (wpAny_loadPart hd ?_))
    rw [nsLook_of hlk]
    refine wpAny_pure ?_
    exact u
theorem attr_inst {Q : Value -> Shared -> Prop} {expr : Bool} (F : Fr h₀ L s.heap m) (X₀ : K.In h₀) (I : InstAt s.heap x ox C (some (dictOf es n))) (hg : plainGet K C name = true) (hh : hasDictIn K C = true) (hf : findIn K (.ref C) name = some (some (.ref f)))
    (hgf : specialIn K (.ref f) "__get__" = some (some g)) (hts : takesIn K (.ref f) = some false) (hl : getL name es = some (some v)) (hv : handedIn v = true) (h : Q v { s with toks := s.toks + 1 }) :
    wpAny (model prog w) A (getAttr (.ref x) name expr) Q E s :=
  get_value (X₀.keeps F.keep) I (plainGet_of hg).1 (findObj_inst hh hf hgf hts (by rw [lookIn_dict, hl])) hv h
end
end
section
open PySem PySem.W PySem.Calls PyProof.Rows PyProof.V PySem.Spec PyProof.Rows.LCg
section
variable {prog : Program} {w : World} {A : Around} {E : Value -> Shared -> Prop} {R : Result -> Shared -> Prop} {s : Shared} {h₀ : Heap} {L : Addr} {m : Str -> Option Value} {env : Env}
theorem range_n (n : Nat) : Builtin.Range.rangeSize 0 (n : Int) 1 = (n : Int) := by unfold Builtin.Range.rangeSize; simp; omega
theorem small_n {n : Nat} (hn : n ≤ 100000) : Builtin.Range.small 0 (n : Int) 1 = true := small_one (by decide) (by decide) (by omega) (by omega)
theorem size_n {n : Nat} (hn : n ≤ 100000) : n ≤ sizeLine := by rw [sizeLine_eq]; omega
theorem comp_range {elt target iter : Expr} {ifs : List Expr} {scope : Scope} {cl : List (Str × Addr)} {pos : Pos} {Q : Value -> Shared -> Prop}
    (hclos : closureFor scope env = pure cl) (hcell : ∀ y ∈ scope.names, y.2 ≠ .cell) (hkind : scope.kind = .function)
    (hnames : ∀ y ∈ scope.names, y.2 = .local -> scope.names.lookup y.1 = some .local)
    (h : wpAny (model prog w) A (eval iter env) (fun xv s₁ => ∃ (a : Addr) (n : Nat) (t u v : Tok) (news : List (Addr × Obj)) (J : Nat -> List Value -> List (Addr × Obj) -> Prop), xv = .ref a ∧ A.handled = none ∧ n ≤ 100000 ∧ Fr h₀ L s₁.heap m ∧ News h₀ L s₁.heap news ∧ IsRange s₁.heap a 0 (n : Int) 1 t u v ∧ J 0 [] news ∧
      (∀ i x t ys news g, i < n -> x = .int (i : Int) t -> J i ys news -> ∀ I oI C oC D mC h tk (E' : Value -> Shared -> Prop), NsObj oC mC -> Fr h₀ L h m -> News h₀ L h ((I, oI) :: (C, oC) :: (D, lst ys) :: news) -> Off3 I C D news -> ((@Ne Nat I C) ∧ (@Ne Nat I D) ∧ (@Ne Nat C D)) ->
        wpAny (model prog w) A (assign target (compEnvC scope cl C env) x) (fun _ s' =>
          wpAny (model prog w) A (forIn ifs true fun c r => if r = true then do let ok ← isTrue c (compEnvC scope cl C env) (eval c (compEnvC scope cl C env)); pure (ForInStep.yield ok) else pure (ForInStep.yield r)) (fun ok s'' =>
            if ok = true then wpAny (model prog w) A (eval elt (compEnvC scope cl C env)) (CE h₀ L m { s₁ with heap := g, toks := tk } I oI C D (lst ys) (fun _ => True) (fun y news' => J (i + 1) (ys ++ [y]) news')) E' s''
            else CE h₀ L m { s₁ with heap := g, toks := tk } I oI C D (lst ys) (fun _ => True) (fun _ news' => J (i + 1) ys news') Value.none s'') E' s') E' { s₁ with heap := h, toks := tk }) ∧
      (∀ ys news' D h tk, J n ys news' -> Fr h₀ L h m -> News h₀ L h ((D, lst ys) :: news') -> (∀ p ∈ news', p.1 ≠ D) -> Q (.ref D) { s₁ with heap := h, toks := tk })) E s)
    (hs : ∀ x, foldedSetIterable iter env x = pure x) :
    wpAny (model prog w) A (eval (.ListComp elt [⟨target, iter, ifs, 0⟩] scope pos) env) Q E s := by
  rw [eval_ListComp]
  refine wpAny_comprehension_free (use := none) rfl hs hclos hkind hnames (wpAny_mono h (fun xv s₁ h₁ => ?_) fun _ _ e => e)
  refine el7 h₁ fun a n t u v news J zz => ?_
  rw [zz.1]
  have F := zz.2.2.2.1
  have N := zz.2.2.2.2.1
  refine wpAny_pyIter_range zz.2.2.2.2.2.1 (small_n zz.2.2.1) ?_
  rw [range_n]
  have up : ∀ b o, s₁.heap.get? b = some o -> (s₁.heap.push { cls := .type "range_iterator", data := .fields #[rawInt 0, rawInt (n : Int), rawInt 1] }).get? b = some o := fun b o e => Heap.get?_push_of_some _ e
  have W := Walks.range (prog := prog) (w := w) zz.2.1 s₁.heap.objs.size 0 1 n
  refine own_blockJ (nn := n) (fp := _) (P := fun i v => ∃ t, v = .int (0 + (i : Nat) * 1) t) (S := fun _ => True) (St := fun i h => IsRangeIter h s₁.heap.objs.size (0 + (i : Nat) * 1) ((n : Int) - (i : Nat)) 1) (J := J) W (fun i v s Q E st q => letGo_rangeiter st q) (size_n zz.2.2.1) (fun i h st => ⟨_, st⟩)
    (fun i h h' o nw st e e' _ _ _ => by rw [st] at e; cases e; exact e') hcell hkind (by
      show Heap.get? _ _ = some _
      rw [Heap.get?_push_size _ rfl]; simp) (fun b hb => ?_)
    (F.keeps up) (N.grown up) (Nnl F.ns.lt) (next_is_new F) (fun p hp => Nnl (Hls (N p hp).1)) trivial zz.2.2.2.2.2.2.1 (fun i v ys news hi hP hJ => ?_) ?_
  · show b < (s₁.heap.push _).objs.size
    rw [Heap.size_push]
    simp only [Lms] at hb
    subst hb
    exact Nls _
  · obtain ⟨t, rfl⟩ := hP
    exact fun I oI C oC D mC h tk E' => zz.2.2.2.2.2.2.2.1 i _ t ys news h hi (by simp) hJ I oI C oC D mC h tk E'
  · intro D C h tk m' ys news' F' N' o1 hn hC₀ hD₀ hCL hDL hCD offC fin
    refine ⟨m', hn, fun h'' hs'' => zz.2.2.2.2.2.2.2.2 ys news' D h'' tk fin (F'.change hs'' hCL hC₀) (fun p hp => ⟨hs''.extBut _ _ (faCons (P := fun p => p.1 ≠ C) (Ne.symm hCD) offC p hp) (N' p hp).1, (N' p hp).2⟩) o1⟩
end
end
local macro_rules | `(tactic| k_lt $h:ident) => `(tactic| first | ((have hNil' := allNil $h); clear hNil' $h) | ((replace $h := allLs_of $h True.intro); (dsimp only [AllLs] at $h:ident)) | ((replace $h := allLt_of $h); (simp only [AllLt, and_true] at $h:ident)))
local macro_rules | `(tactic| tm_item_of_res) => `(tactic| ((with_reducible show wpAny _ _ (eval (Expr.Name _ _) (envX _ _ _ _ _ _)) _ _ _); (rename News _ _ _ _ => lN'); (refine' nameX_F lN' ?c ?m ?d ?_ ?a ?b (by decide) (by decide)); (case b => with_unfolding_all rfl); (case a => with_unfolding_all rfl); (case c => with_unfolding_all rfl); (case m => k_mem); (case d => w_by_seal)))
local macro_rules | `(tactic| tm_eq_kind) => `(tactic| ((with_reducible refine lshift_int ?a ?b ?_); (case a => w_by_seal); (case b => w_by_seal)))
local macro_rules | `(tactic| w_head) => `(tactic| ((with_reducible show wpAny _ _ (eval (Expr.Name _ _) _) _ _ _); (refine' nameX_L ?nF ?nv ?_ ?na ?nb); (case na => with_unfolding_all rfl); (case nb => with_unfolding_all rfl); (case nF => k_asm); (case nv => ((try dsimp only); (repeat (refine (if_neg (by decide)).trans ?_)); (first | exact if_pos rfl | w_by_seal)))))
local macro_rules | `(tactic| walk_at "GN") => `(tactic| ((with_reducible show wpAny _ _ (eval (Expr.Name _ _) (genEnv _ _ _ _ _ _)) _ _ _); (rename Fr _ _ _ _ => gF'); (rename Frag.In _ _ => gX'); (rename Top _ _ _ _ _ _ => gT'); first
  | (with_unfolding_all refine nmG_local gF' (by assumption) ?_ rfl rfl (by decide))
  | (with_unfolding_all refine nmG_built gF' gX' gT' (by k_is) (by boot_by_name) (by decide) ?_ rfl rfl rfl (by decide))
  | (with_unfolding_all refine nmG_glob gF' gX' gT' (by k_is) ?_ rfl rfl rfl (by decide))))
local macro_rules | `(tactic| walk_at "S2") => `(tactic| (k_here; (rename Fr _ _ _ _ => lF'); (with_unfolding_all refine' For_turns lF' ?_; k_whole)))
local macro_rules | `(tactic| walk_at "S3") => `(tactic| (k_here; (rename Fr _ _ _ _ => lF'); (with_unfolding_all refine' For_turns lF' ?_; k_whole)))
local macro_rules | `(tactic| walk_at "S4") => `(tactic| (k_here; (rename Fr _ _ _ _ => lF'); (rename News _ _ _ _ => lN'); (with_unfolding_all refine enum_base rfl lF' lN' (by assumption) rfl ?_); intro i' l1; (try k_lt l1)))
local macro_rules | `(tactic| walk_at "S5") => `(tactic| (k_here; (with_reducible show wpAny _ _ (call (Value.type _) [Value.str _ _]) (fun xv s₁ => wpAny _ _ (pyIter xv) (fun it s₂ => TurnsAt _ _ _ _ _ _ _ _ _ it s₂) _ s₁) _ _); (rename Fr _ _ _ _ => lF'); (rename News _ _ _ _ => lN'); (obtain ⟨xsE, hxE⟩ := exT (Zs "abcdef")); (with_unfolding_all refine enum_text rfl lF' lN' (by decide +kernel) hxE ?_); intro i' l1; (try k_lt l1)))
local macro_rules | `(tactic| walk_at "S6") => `(tactic| (k_here; (with_reducible show wpAny _ _ (call (Value.builtin _) [Value.ref _, _]) _ _ _); k_dflt (refine' append_K ?k1 ?k2 ?k3 ?_ ?z; (case k1 => k_asm); (case k2 => k_asm); (case k3 => k_upd); (case z => assumption); k_whole); intro h' F' N'; (try k_sweep)))
local macro_rules | `(tactic| walk_at "S7") => `(tactic| (k_here; k_dflt (refine' ld ?k1 ?k2 ?_; (case k1 => k_asm); (case k2 => assumption); k_whole)))
set_option hygiene false
local macro_rules | `(tactic| w_by_seal) => `(tactic| with_reducible assumption)
local macro_rules | `(tactic| k_room) => `(tactic| ((try simp only [depth_mark, depth_under_make, depth_under_kw, depth_in1, depth_deeper, depth_caller]); show _ < 1000; first | omega | (dsimp only [Around.deeper]; omega)))
local macro_rules | `(tactic| k_mem) => `(tactic| with_reducible assumption)
local macro_rules | `(tactic| k_steps) => `(tactic| repeat' (first | (k_unfold; (try dsimp only)) | (k_end; kc_close) | (walk1; (try dsimp only)) | end_err | (dsimp only; walk1) | (leave1; (try dsimp only)) | fail "no step"))
local macro_rules | `(tactic| w_end) => `(tactic| first | exact sel0 | exact sel1 | exact selL1 | exact sel2 | exact selL2 | exact sel3 | exact selL3 | exact sel4 | exact selL4 | exact sel5 | exact selL5 | exact sel6 | exact selL6 | exact sel7 | exact selL7 | (refine selS ?_; w_end))
local macro_rules | `(tactic| k_ne) => `(tactic| (refine neN ?_; (try dsimp only); first | w_by_seal | with_reducible exact Ne.symm (by assumption) | exact Nnl (by w_by_seal) | exact Nat.ne_of_gt (by w_by_seal) | (apply ne_andL; w_by_seal; with_reducible w_end) | (apply ne_andR; w_by_seal; with_reducible w_end) | omega))
local macro_rules | `(tactic| f_congr_eq) => `(tactic| first | with_reducible exact inHead | w_by_seal | ((with_reducible refine inTail ?_); f_congr_eq) | ((with_reducible refine inLeft ?_); f_congr_eq) | ((with_reducible refine inRight ?_); f_congr_eq) | exact inHead)
local macro_rules | `(tactic| row_end) => `(tactic| first | with_reducible exact subRefl | w_by_seal | with_reducible exact subNil | ((with_reducible apply subCons); f_congr_eq; row_end) | ((with_reducible apply subApp); row_end; row_end) | ((with_reducible refine subSkip ?_); row_end) | ((with_reducible refine subLeft ?_); row_end) | ((with_reducible refine subRight ?_); row_end))
local macro_rules | `(tactic| walk_at "SUB") => `(tactic| ((try dsimp only [Lfc, List.flatten_nil, Lca, Lna]); row_end))
local macro_rules | `(tactic| walk_at "SI") => `(tactic| first | f_congr_eq | simp)
local macro_rules | `(tactic| k_all) => `(tactic| first | assumption | (apply allLt_neS; w_by_seal; with_reducible w_end))
local macro_rules | `(tactic| walk_at "MEM") => `(tactic| (repeat (first | exact List.Mem.head _ | apply List.Mem.tail)))
local macro_rules | `(tactic| k_inst) => `(tactic| exact inst_acc (by k_asm) (by k_mem) (by k_mem))
local macro_rules | `(tactic| end_err) => `(tactic| ((first | (with_reducible show (_ : Flow -> Shared -> Prop) (Flow.ret _) _) | (with_reducible show (_ : Flow -> Shared -> Prop) Flow.next _)); (first | (with_reducible refine LeaveTo.go (by assumption) ?_) | (with_reducible refine LoopTo.go (by assumption) ?_) | (with_reducible refine LoopToH.go (by assumption) ?_)); (try dsimp only)))
local macro_rules | `(tactic| w_once) => `(tactic| first | (k_unfold; (try dsimp only)) | tm_item_of_res | tm_eq_kind | (walk1; (try dsimp only)) | w_head | end_err | (dsimp only; walk1))
local macro_rules | `(tactic| ktu_offL) => `(tactic| (refine neN ?_; (try dsimp only); first | (apply ne_pre; w_by_seal; f_congr_eq) | (apply Ne.symm; apply ne_pre; w_by_seal; f_congr_eq)))
local macro_rules | `(tactic| tupd_look) => `(tactic| first | (k_unfold; (try dsimp only)) | tm_item_of_res | tm_eq_kind | walk1 | w_head | end_err | (dsimp only; walk1))
local macro_rules | `(tactic| item_end_look) => `(tactic| first | (k_unfold; (try dsimp only)) | tm_item_of_res | walk_at "GN" | tm_eq_kind | walk1 | end_err | (dsimp only; walk1))
set_option hygiene true
section
theorem rs_C6 : True := by
  w_top off
  trivial
noncomputable def stAt (n : Nat) : Stmt := RWQ.prog.main.body.getD n (.Pass default)
noncomputable def fnBody : Stmt -> List Stmt
  | .FunctionDef _ _ b _ _ _ _ _ _ _ => b
  | _ => []
noncomputable def fnParams : Stmt -> Arguments
  | .FunctionDef _ a _ _ _ _ _ _ _ _ => a
  | _ => default
noncomputable def fnScope : Stmt -> Scope
  | .FunctionDef _ _ _ _ _ _ s _ _ _ => s
  | _ => default
noncomputable def i2dInner : Stmt := (fnBody (stAt 7)).getD 1 (.Pass default)
structure InnerOk (fx : List (Addr × Obj)) (f ad : Addr) (n : Nat) (cA cI cN c' : Addr) (qual : Str) (P : Arguments) (B : List Stmt) (S : Scope) (dc pm ct : Value) : Prop where
  fn : (f, fnMade (Zs "inner") qual P B S [(Zs "n", cN), (Zs "inner", cI), (Zs "a_digits", cA)] dc pm c' ct) ∈ fx
  a : ∃ o, (cA, o) ∈ fx ∧ o.data = .cell (some (.ref ad))
  i : ∃ o, (cI, o) ∈ fx ∧ o.data = .cell (some (.ref f))
  n : ∃ o t, (cN, o) ∈ fx ∧ o.data = .cell (some (.int (n : Int) t))
  c : ∃ o cs t, (c', o) ∈ fx ∧ o.data = .fields cs ∧ cs[1]? = some (.str qual t)
section
theorem c_inner {f ad cA cI cN c' : Addr} {n : Nat} {qual : Str} {P : Arguments} {B : List Stmt} {S : Scope} {dc pm ct : Value} {fx : List (Addr × Obj)} (hP : P = fnParams i2dInner) (hB : B = fnBody i2dInner) (hS : S = fnScope i2dInner)
    (ok : InnerOk fx f ad n cA cI cN c' qual P B S dc pm ct) (hoff : ∀ p ∈ fx, p.1 ≠ ad) (hn : 1 ≤ n ∧ n ≤ 400) :
    ∀ (d : Nat) {j dp un : Nat} {A₀ : Around} {env : Env} {outer : List Env} {base h₀ : Heap} {L : Addr} {m : Str -> Option Value} {s : Shared} {Q : Value -> Shared -> Prop} {E : Value -> Shared -> Prop}
    (cx : Cx w (j + d + 1) dp un A₀ env outer base h₀ L) (F : Fr h₀ L s.heap m) (X lo hi : Nat) (tx tl th : Tok) (vs : List Value) (ds : List Int) (e : Nat) (N : News h₀ L s.heap ((ad, Wl vs.toArray e) :: fx)) (hi1 : IntsAre vs ds)
    (h1 : lo < hi) (h2 : hi ≤ ds.length) (h3 : hi - lo ≤ 2 ^ d) (hlen : ds.length ≤ 200) (hX : X < 2 ^ (n * (hi - lo)))
    (hQ : ∀ h' tk vs' ds' e', IntsAre vs' ds' -> ds'.length = ds.length -> (∀ i, i < ds.length -> ds'.getD i 0 = if lo ≤ i ∧ i < hi then (((X / 2 ^ (n * (i - lo))) % 2 ^ n : Nat) : Int) else ds.getD i 0) -> Fr h₀ L h' m -> News h₀ L h' ((ad, Wl vs'.toArray e') :: fx) -> Q .none { s with heap := h', toks := tk }),
    wpAny (model RWQ.row.prog w) (AA dp un env outer) (call (.ref f) [.int (X : Int) tx, .int (lo : Int) tl, .int (hi : Int) th] []) Q E s := by
  have hP' : P = _ := hP
  conv at hP' => rhs; whnf
  have hB' : B = _ := hB
  conv at hB' => rhs; whnf
  have hS' : S = _ := hS
  conv at hS' => rhs; whnf
  clear hP hB hS
  subst hP' hB' hS'
  revert hn; revert hoff; revert ok
  revert fx; revert ct; revert pm; revert dc; revert qual; revert n; revert c'; revert cN; revert cI; revert cA; revert ad; revert f; revert w
  apply frz13; case n => walk_at "FZN"
  intro w f ad cA cI cN c' n qual dc pm ct fx
  clear_value w f ad cA cI cN c' n qual dc pm ct fx
  intro ok hoff hn
  intro d
  induction d using Nat.strongRecOn with
  | ind d ih =>
    intro j dp un A₀ env outer base h₀ L m s Q E cx F X lo hi tx tl th vs ds e N hi1 h1 h2 h3 hlen hX hQ
    obtain ⟨oA, hA1, hA2⟩ := ok.a
    obtain ⟨oI, hI1, hI2⟩ := ok.i
    obtain ⟨oN, tN, hN1, hN2⟩ := ok.n
    obtain ⟨oC, cs, tC, hC1, hC2, hC3⟩ := ok.c
    have hfn := ok.fn
    revert hC3; revert hC2; revert hC1; revert hN2; revert hN1; revert hI2; revert hI1; revert hA2; revert hA1; revert hQ; revert hX; revert hlen; revert h3; revert h2; revert h1; revert hi1; revert N; revert F; revert cx; revert ih
    revert tC; revert cs; revert oC; revert tN; revert oN; revert oI; revert oA; revert e; revert ds; revert vs; revert th; revert tl; revert tx; revert hi; revert lo; revert X; revert E; revert Q; revert s; revert m; revert L; revert h₀; revert base; revert outer; revert env; revert A₀; revert un; revert dp; revert j; revert d
    apply frz22; case n => walk_at "FZN"
    intro d j dp un A₀ env outer base h₀ L m s Q E X lo hi tx tl th vs ds
    clear_value d j dp un A₀ env outer base h₀ L m s Q E X lo hi tx tl th vs ds
    apply frz8; case n => walk_at "FZN"
    intro e oA oI oN tN oC cs tC
    clear_value e oA oI oN tN oC cs tC
    intro ih cx F N hi1 h1 h2 h3 hlen hX hQ hA1 hA2 hI1 hI2 hN1 hN2 hC1 hC2 hC3
    refine wpAny_call ?_
    refine' enterF cx F N (N _ (Lmk _ hfn)).1 rfl (codeRec_news N (Lmk _ hC1) hC2 hC3) (binds := [(Zs "x", .int (X : Int) tx), (Zs "L", .int (lo : Int) tl), (Zs "R", .int (hi : Int) th)]) (BindsTo.of_eq rfl) (locs rfl) ?_ (by decide) rfl rfl rfl
    apply frz8; case n => walk_at "FZN"
    intro dp' un' outer' A' Q' g L1 h1
    clear_value dp' un' outer' A' Q' g L1 h1
    intro FG hg F1 N1 cx1 l1 LT1
    have X1 := cx1.X
    have B1 := cx1.B
    have hf1 := cx1.f
    have hke1 := cx1.k
    have hdp1 := cx1.d
    have hun1 := cx1.u
    obtain ⟨p1, loose1, mean1, mg1, mb1, T1⟩ := cx1.T
    revert T1
    revert mb1; revert mg1; revert mean1; revert loose1; revert p1
    apply frz5; case n => walk_at "FZN"
    intro p1 loose1 mean1 mg1 mb1
    clear_value p1 loose1 mean1 mg1 mb1
    intro T1
    have N2 : News g L1 h1 ((ad, Wl vs.toArray e) :: (cA, oA) :: (cI, oI) :: (cN, oN) :: fx) := news_sub N1 (fun p hp => by
      simp only [Lmc] at hp ⊢
      rcases hp with rfl | rfl | rfl | rfl | hp
      · exact .inl rfl
      · exact .inr hA1
      · exact .inr hI1
      · exact .inr hN1
      · exact .inr hp)
    (((try dsimp only); (try k_fold)))
    iterate 11 (all_goals (tupd_look))
    · have hlo : lo + 1 = hi := by omega
      iterate 5 ((tupd_look))
      refine ksa_set (by assumption) N1 (.head ?_) hi1 (by omega) (by omega) (by omega) ?_
      · exact fun p hp => hoff p hp
      intro h2 F2 N3 hv hl _
      clear N1 F1
      (repeat ((fail_if_success (with_reducible show LeaveK _ _ _ _ _ _ _)); tupd_look))
      refine leaveK_ (by assumption) (by assumption) ?_
      intro kF kN
      show Q .none _
      rw [Int.toNat_natCast] at hv kN
      refine hQ _ _ (vs.set lo (.int (X : Int) tx)) (ds.set lo (X : Int)) e hv (List.length_set ..) (fun i hiL => ?_) kF kN
      have hX' : X < 2 ^ n := by
        have e1 : hi - lo = 1 := by omega
        rw [e1, Nat.mul_one] at hX; exact hX
      rw [List.getD_eq_getElem?_getD, List.getD_eq_getElem?_getD, List.getElem?_set]
      by_cases hil : lo = i
      · subst hil
        rw [if_pos rfl, if_pos (by omega), if_pos ⟨Nat.le_refl _, by omega⟩, Nat.sub_self, Nat.mul_zero, Nat.pow_zero, Nat.div_one, Nat.mod_eq_of_lt hX']; rfl
      · rw [if_neg hil, if_neg (fun c => hil (by omega))]
    · have hlo : ¬ (lo + 1 = hi) := by omega
      obtain ⟨d', rfl⟩ : ∃ d', d = d' + 1 := ⟨d - 1, by
        rcases Nat.eq_zero_or_pos d with rfl | hd
        · rw [Nat.pow_zero] at h3; omega
        · omega⟩
      obtain ⟨mid, hmid⟩ : ∃ mid, mid = (lo + hi) / 2 := ⟨_, rfl⟩
      have hm2 : ((lo : Int) + hi).fdiv (2 ^ Int.toNat 1) = (mid : Int) := by
        show Int.fdiv _ 2 = _
        rw [Int.fdiv_eq_ediv_of_nonneg _ (by decide)]; omega
      have hs2 : ((mid : Int) - lo) * n = (((mid - lo) * n : Nat) : Int) := by
        rw [Int.natCast_mul, Int.natCast_sub (by omega)]
      obtain ⟨sh, hsh⟩ : ∃ sh, sh = (mid - lo) * n := ⟨_, rfl⟩
      rw [← hsh] at hs2
      have hu2 : ((X : Int)).fdiv (2 ^ (Int.toNat (sh : Int))) = ((X / 2 ^ sh : Nat) : Int) := by
        rw [Int.fdiv_eq_ediv_of_nonneg _ (Int.pow_nonneg (by decide)), Int.toNat_natCast]; exact_mod_cast rfl
      have hsz : (Builtin.Int.intBits ((X / 2 ^ sh : Nat) : Int) : Int) + (sh : Int) ≤ 2 ^ 27 := by
        have e1 : n * (hi - lo) ≤ 400 * 200 := Nat.mul_le_mul (by omega) (by omega)
        have e2 : (mid - lo) * n ≤ 200 * 400 := Nat.mul_le_mul (by omega) (by omega)
        exact shl_room (Nll (Nat.div_le_self _ _) hX) (by omega)
      have h0sh : 0 ≤ (sh : Int) := by omega
      revert h0sh; revert hsz; revert hu2; revert hsh; revert hs2; revert hm2; revert hmid
      revert sh; revert mid
      apply frz2; case n => walk_at "FZN"
      intro mid sh
      clear_value mid sh
      intro hmid hm2 hs2 hsh hu2 hsz h0sh
      iterate 10 (tupd_look)
      rw [hm2]
      iterate 10 (tupd_look)
      rw [hs2]
      iterate 7 (tupd_look)
      rw [hu2]
      iterate 10 (tupd_look)
      rw [xor_low]
      iterate 5 (tupd_look)
      rename News _ _ _ _ => N3
      refine callWith_F (FnAt.of N3 (Lmk _ (Lmk _ (Lmk _ (Lmk _ hfn))))) ?_
      iterate 7 (tupd_look)
      refine ⟨FnAt.of N3 (Lmk _ (Lmk _ (Lmk _ (Lmk _ hfn)))), ?_⟩
      rename Fr _ _ _ _ => F3
      rename_i j1 j2 j3 j4
      revert N3; revert F3
      revert j4; revert j3; revert j2; revert j1
      apply frz4; case n => walk_at "FZN"
      intro j1 j2 j3 j4
      clear_value j1 j2 j3 j4
      intro F3 N3
      refine ih d' (Nls _) cx1 F3 (X % 2 ^ sh) lo mid _ _ _ vs ds e (news_sub N3 ?_) hi1 (by omega) (by omega) ?_ hlen ?_ ?_
      · intro p hp
        rcases Lmc.mp hp with rfl | hp
        · exact .head _
        · exact Lmk _ (Lmk _ (Lmk _ (Lmk _ hp)))
      · rw [Nat.pow_succ] at h3; omega
      · rw [hsh, Nat.mul_comm]; exact Nat.mod_lt _ (Nat.two_pow_pos _)
      apply frz5; case n => walk_at "FZN"
      intro h4 tk4 vs4 ds4 e4
      clear_value h4 tk4 vs4 ds4 e4
      intro hi4 hl4 hv4 F4 N4
      have N5 : News g L1 h4 ((ad, Wl vs4.toArray e4) :: (cA, oA) :: (cI, oI) :: (cN, oN) :: fx) := news_sub N4 (fun p hp => by
        simp only [Lmc] at hp ⊢
        rcases hp with rfl | rfl | rfl | rfl | hp
        · exact .inl rfl
        · exact .inr hA1
        · exact .inr hI1
        · exact .inr hN1
        · exact .inr hp)
      clear N4 N3 F3
      iterate 4 (tupd_look)
      rename News _ _ _ _ => N5
      refine callWith_F (FnAt.of N5 (Lmk _ (Lmk _ (Lmk _ (Lmk _ hfn))))) ?_
      iterate 7 (tupd_look)
      refine ⟨FnAt.of N5 (Lmk _ (Lmk _ (Lmk _ (Lmk _ hfn)))), ?_⟩
      refine ih d' (Nls _) cx1 F4 (X / 2 ^ sh) mid hi _ _ _ vs4 ds4 e4 (news_sub N5 ?_) hi4 (by omega) (by omega) ?_ (by omega) ?_ ?_
      · intro p hp
        rcases Lmc.mp hp with rfl | hp
        · exact .head _
        · exact Lmk _ (Lmk _ (Lmk _ (Lmk _ hp)))
      · rw [Nat.pow_succ] at h3; omega
      · rw [hsh, Nat.mul_comm]
        refine div_room ?_
        rw [show mid - lo + (hi - mid) = hi - lo by omega]; exact hX
      apply frz5; case n => walk_at "FZN"
      intro h6 tk6 vs6 ds6 e6
      clear_value h6 tk6 vs6 ds6 e6
      intro hi6 hl6 hv6 F6 N6
      clear N5 F4
      (repeat ((fail_if_success (with_reducible show LeaveK _ _ _ _ _ _ _)); tupd_look))
      refine leaveK_ (by assumption) (by assumption) ?_
      intro kF kN
      show Q .none _
      refine hQ _ _ vs6 ds6 e6 hi6 (by omega) (fun i hiL => ?_) kF kN
      rw [hv6 i (by omega), hv4 i hiL]
      by_cases c1 : lo ≤ i ∧ i < hi
      · rw [if_pos c1]
        by_cases c2 : mid ≤ i
        · rw [if_pos ⟨c2, c1.2⟩, hsh, Nat.mul_comm, dig_high X n lo mid i c2 (by omega)]
        · rw [if_neg (fun c => c2 c.1), if_pos ⟨c1.1, by omega⟩, hsh, Nat.mul_comm (mid - lo) n, dig_low X n lo mid i (by omega) c1.1]
      · rw [if_neg c1, if_neg (fun c => c1 ⟨by omega, c.2⟩), if_neg (fun c => c1 ⟨c.1, by omega⟩)]
end
end
section
theorem rs_D1 : True := by
  w_top off
  trivial
section
noncomputable abbrev rowDict (w : World) (fi : Int) (tf tk0 : Tok) : Obj := dictOf [{ hash := PyData.keyHash w.params (Zs "_initial_size"), key := .str (Zs "_initial_size") tk0, val := .int fi tf }] 1
noncomputable abbrev rowAt (w : World) (rw d : Addr) (vs : List Value) (e : Nat) (fi : Int) (tf tk0 : Tok) : List (Addr × Obj) := [(rw, accObj d vs e), (d, rowDict w fi tf tk0)]
theorem off_own {g h h' : Heap} {L1 : Addr} {own n2 : List (Addr × Obj)} {m' : Str -> Option Value} (N : News h₀ L h n2) (hg : ∀ b o, h.get? b = some o -> b ∉ own.map (·.1) -> g.get? b = some o) (off : ∀ p ∈ n2, p.1 ∉ own.map (·.1)) (F' : Fr g L1 h' m') : News h₀ L h' n2 :=
  back N hg F' off
theorem new_ne {g h h' : Heap} {L1 : Addr} {own n2 n3 : List (Addr × Obj)} (N : News h₀ L h n2) (hg : ∀ b o, h.get? b = some o -> b ∉ own.map (·.1) -> g.get? b = some o) (off : ∀ p ∈ n2, p.1 ∉ own.map (·.1)) (N3 : News g L1 h' n3) : ∀ p ∈ n2, ∀ q ∈ n3, p.1 ≠ q.1 := fun p hp q hq e => by
  have h1 := hg _ _ (N p hp).1 (off p hp)
  rw [e, (N3 q hq).2.2] at h1; cases h1
theorem c_push (cx : Cx w (j + 1) dp un A₀ env outer base h₀ L) (F : Fr h₀ L s.heap m) {rw d : Addr} {vs : List Value} {e : Nat} {fi : Int} {tf tk0 : Tok} (O : News h₀ L s.heap (rowAt w rw d vs e fi tf tk0)) (hd : rw ≠ d) (hsz : vs.length ≤ 10000) (x y : Str) (tx ty : Tok)
    (hQ : ∀ T h' tk e', Fr h₀ L h' m -> News h₀ L h' ((T, tupOf [.str x tx, .str y ty]) :: rowAt w rw d (vs ++ [.ref T]) e' fi tf tk0) -> T ≠ rw ∧ T ≠ d -> Others h₀ L [rw, d] s.heap h' -> (∀ n2, News h₀ L s.heap n2 -> (∀ p ∈ n2, p.1 ∉ [rw, d]) -> ∀ p ∈ n2, p.1 ≠ T) -> Q .none { s with heap := h', toks := tk }) :
    wpAny (model RWQ.row.prog w) (AA dp un env outer) (call (.ref 122) [.ref rw, .str x tx, .str y ty] []) Q E s := by
  ((refine wpAny_call ?_; (rename Fr _ _ _ _ => eF); (rename Cx _ _ _ _ _ _ _ _ _ _ => eC); (refine' enterP eC eF (by assumption) ?k6 ?k7 ?k9 ?kB ?_ ?c5 ?c2 ?c3 ?c4); (case k6 => k_is); (case k7 => k_is); (case k9 => first | exact BindsTo.of_eq rfl | exact binds_K (by k_in) rfl (by k_is) rfl rfl rfl); (case c5 => decide); (case kB => exact locs rfl); (case c2 => exact rfl); (case c3 => exact rfl); (case c4 => exact rfl)))
  intro dp' un' outer' A' Q' g L1 h1
  intro FG hg F1 N1 cx1 l1 LT1
  have X1 := cx1.X
  have B1 := cx1.B
  have hf1 := cx1.f
  have hke1 := cx1.k
  have hdp1 := cx1.d
  have hun1 := cx1.u
  obtain ⟨p1, loose1, mean1, mg1, mb1, T1⟩ := cx1.T
  (try k_lt l1)
  (((try dsimp only); (try k_fold)))
  (repeat ((fail_if_success (with_reducible show wpAny _ _ (getMethod _ _ _) _ _ _)); w_once))
  ((refine acc_methB (by k_asm) (by k_asm) (inst_acc (by k_asm) (by walk_at "MEM") (by walk_at "MEM")) (by k_is) (by k_is) (by k_is) (by first | exact PySem.F.type_list_append) (by k_get) ?_))
  (repeat ((fail_if_success (with_reducible show wpAny _ _ (call _ _ _) _ _ _)); w_once))
  rename News _ _ _ _ => N2
  rename Fr _ _ _ _ => F2
  rename (@LT.lt Nat _ rw _ ∧ @LT.lt Nat _ d _) => l2
  refine acc_append2 F2 X1 (accN N2 (by walk_at "MEM") (by walk_at "MEM")) hd (by k_is) hsz ?_
  intro h3 e3 F3 N3 o3
  have N4 := news_app (o3 _ (news_sub (l' := [_]) N2 (fun p hp => by rw [Lms.mp hp]; exact .head _)) (by intro p hp hq; rw [Lms.mp hp] at hq; exact (Nnl l2.1).symm (Lms.mp hq))) N3
  have q3 := fun n2 (N : News h₀ L s.heap n2) off => new_ne N hg off N2
  clear N2 F2 N3
  (repeat ((fail_if_success (with_reducible show LeaveK _ _ _ _ _ _ _)); w_once))
  refine leaveK_ (by assumption) N4 ?_
  intro kF kN
  show Q .none _
  refine' hQ _ _ _ _ kF ?n1 ?n2 ?n3 ?n4
  case n1 => exact kN
  case n2 => exact ⟨(Nnl l2.1).symm, (Nnl l2.2).symm⟩
  case n3 => exact fun n2 N off => off_own N hg off F3
  case n4 => exact fun n2 N off p hp => q3 n2 N off p hp _ (.head _)
theorem c_pc (cx : Cx w (j + 1) dp un A₀ env outer base h₀ L) (F : Fr h₀ L s.heap m) {rw d : Addr} {vs : List Value} {e : Nat} {fi : Int} {tf tk0 : Tok} (O : News h₀ L s.heap (rowAt w rw d vs e fi tf tk0)) (hd : rw ≠ d)
    (hQ : ∀ h' tk t, Fr h₀ L h' m -> News h₀ L h' (rowAt w rw d vs e fi tf tk0) -> Others h₀ L [rw, d] s.heap h' -> Q (.int (vs.length : Nat) t) { s with heap := h', toks := tk }) :
    wpAny (model RWQ.row.prog w) (AA dp un env outer) (call (.ref 175) [.ref rw] []) Q E s := by
  ((refine wpAny_call ?_; (rename Fr _ _ _ _ => eF); (rename Cx _ _ _ _ _ _ _ _ _ _ => eC); (refine' enterS eC eF (by assumption) ?k6 ?k7 ?k9 ?kB ?_ ?c5 ?c2 ?c3 ?c4); (case k6 => k_is); (case k7 => k_is); (case k9 => exact BindsTo.of_eq rfl); (case c5 => decide); (case kB => exact locs rfl); (case c2 => exact rfl); (case c3 => exact rfl); (case c4 => exact rfl)))
  intro dp' un' outer' A' Q' g L1 h1
  intro FG hg F1 N1 cx1 l1 LT1
  have X1 := cx1.X
  have B1 := cx1.B
  have hf1 := cx1.f
  have hke1 := cx1.k
  have hdp1 := cx1.d
  have hun1 := cx1.u
  obtain ⟨p1, loose1, mean1, mg1, mb1, T1⟩ := cx1.T
  (try k_lt l1)
  (((try dsimp only); (try k_fold)))
  (repeat ((fail_if_success (with_reducible show wpAny _ _ (getMethod _ _ _) _ _ _)); w_once))
  rename News _ _ _ _ => N2
  rename Fr _ _ _ _ => F2
  refine super_wd (.inl rfl) type_list_len F2 X1 (N2 _ (.head _)).1 (inst_acc N2 (by walk_at "MEM") (by walk_at "MEM")) (by k_is) (by k_is) rfl (by k_is) (by kernel_rfl) (by decide) ?_
  intro q h3 F3 N3 k3
  have N4 := N2.grown fun b o e => (k3 b o e).1
  (repeat ((fail_if_success (with_reducible show wpAny _ _ (callWith _ _ _ _ _) _ _ _)); w_once))
  refine bnd_len (N3 _ (.head _)).1 (N4 _ (.tail _ (.head _))).1 ?_
  clear N2 F2
  (repeat ((fail_if_success (with_reducible show LeaveK _ _ _ _ _ _ _)); w_once))
  refine leaveK_ F3 (news_sub N4 (fun p hp => .tail _ hp)) ?_
  intro kF kN
  exact hQ _ _ _ kF kN (fun n2 N off => off_own N hg off F3)
theorem c_pop (cx : Cx w (j + 2) dp un A₀ env outer base h₀ L) (F : Fr h₀ L s.heap m) {rw d : Addr} {us : List Value} {v : Value} {e : Nat} {fi : Int} {tf tk0 : Tok} (O : News h₀ L s.heap (rowAt w rw d (us ++ [v]) e fi tf tk0)) (hd : rw ≠ d) (hsz : us.length ≤ 1000)
    (hQ : ∀ h' tk e', Fr h₀ L h' m -> News h₀ L h' (rowAt w rw d us e' fi tf tk0) -> Others h₀ L [rw, d] s.heap h' -> Q v { s with heap := h', toks := tk }) :
    wpAny (model RWQ.row.prog w) (AA dp un env outer) (call (.ref 138) [.ref rw] []) Q E s := by
  ((refine wpAny_call ?_; (rename Fr _ _ _ _ => eF); (rename Cx _ _ _ _ _ _ _ _ _ _ => eC); (refine' enterS eC eF (by assumption) ?k6 ?k7 ?k9 ?kB ?_ ?c5 ?c2 ?c3 ?c4); (case k6 => k_is); (case k7 => k_is); (case k9 => exact BindsTo.of_eq rfl); (case c5 => decide); (case kB => exact locs rfl); (case c2 => exact rfl); (case c3 => exact rfl); (case c4 => exact rfl)))
  intro dp' un' outer' A' Q' g L1 h1
  intro FG hg F1 N1 cx1 l1 LT1
  have X1 := cx1.X
  have B1 := cx1.B
  have hf1 := cx1.f
  have hke1 := cx1.k
  have hdp1 := cx1.d
  have hun1 := cx1.u
  obtain ⟨p1, loose1, mean1, mg1, mb1, T1⟩ := cx1.T
  (try k_lt l1)
  (((try dsimp only); (try k_fold)))
  (repeat ((fail_if_success (with_reducible show wpAny _ _ (getMethod _ _ _) _ _ _)); w_once))
  ((refine acc_methF (by k_asm) (by k_asm) (inst_acc (by k_asm) (by walk_at "MEM") (by walk_at "MEM")) (by k_is) (by k_is) (by k_is) (by k_is) (by k_get) ?_))
  (repeat ((fail_if_success (with_reducible show wpAny _ _ (call _ _ _) _ _ _)); w_once))
  refine c_pc (by assumption) (by assumption) (by assumption) hd ?_
  intro h3 tk3 t3 F3 N3 o3
  clear F1 N1
  have hl : (((us ++ [v]).length : Nat) : Int) ≠ 0 := by simp; omega
  repeat ((fail_if_success (refine ks_wpAt_execs_cons ?_)); w_once)
  refine ks_wpAt_execs_cons ?_
  refine ks_wpAt_Return_some ?_
  refine ks_wpAt_MethodCall ?_
  (repeat ((fail_if_success (with_reducible show wpAny _ _ (getMethod _ _ _) _ _ _)); w_once))
  rename News _ _ _ _ => N4
  rename Fr _ _ _ _ => F4
  unfold rowAt at N4
  refine super_md F4 X1 (N4 _ (.head _)).1 (inst_acc N4 (by walk_at "MEM") (by walk_at "MEM")) (by k_is) (by k_is) rfl (by k_is) (by kernel_rfl) ?_
  intro q h5 F5 N5 k5
  have N6 := N4.grown fun b o e => (k5 b o e).1
  (repeat ((fail_if_success (with_reducible show wpAny _ _ (callWith _ _ _ _ _) _ _ _)); w_once))
  refine bnd_pop F5 X1 (accN N6 (by walk_at "MEM") (by walk_at "MEM")) hd (N5 _ (.head _)).1 (by k_is) (by k_is) (by k_is) rfl (by k_is) rfl (by simp; omega) ?_
  intro h7 e7 F7 N7 o7
  clear N4 F4 F5 F3
  (repeat ((fail_if_success (with_reducible show LeaveK _ _ _ _ _ _ _)); w_once))
  refine leaveK_ F7 N7 ?_
  intro kF kN
  exact hQ _ _ _ kF kN (fun n2 N off => off_own N hg off F7)
theorem c_init (cx : Cx w (j + 1) dp un A₀ env outer base h₀ L) (F : Fr h₀ L s.heap m) {rw d : Addr} {e : Nat} {fi : Int} {tf : Tok} (O : News h₀ L s.heap [(rw, accObj d [] e), (d, dictOf [] 0)]) (hd : rw ≠ d)
    (hQ : ∀ h' tk e' tf tk0, Fr h₀ L h' m -> News h₀ L h' (rowAt w rw d [] e' fi tf tk0) -> Others h₀ L [rw, d] s.heap h' -> Q .none { s with heap := h', toks := tk }) :
    wpAny (model RWQ.row.prog w) (AA dp un env outer) (call (.ref 115) [.ref rw, .int fi tf] []) Q E s := by
  have X := cx.X.keeps F.keep
  refine wpAny_call ?_
  refine' enterS cx F O ?k6 ?k7 ?k9 ?kB ?_ ?c5 ?c2 ?c3 ?c4
  case k6 => k_is
  case k7 => k_is
  case k9 => exact binds_K X rfl (by k_is) rfl rfl rfl
  case c5 => decide
  case kB => exact locs rfl
  case c2 => exact rfl
  case c3 => exact rfl
  case c4 => exact rfl
  intro dp' un' outer' A' Q'
  intro g L1 h1 FG hg F1 N1 cx1 l1 LT1
  have X1 := cx1.X
  have B1 := cx1.B
  have hf1 := cx1.f
  have hke1 := cx1.k
  have hdp1 := cx1.d
  have hun1 := cx1.u
  obtain ⟨p1, loose1, mean1, mg1, mb1, T1⟩ := cx1.T
  (try k_lt l1)
  (((try dsimp only); (try k_fold)))
  iterate 5 (w_once)
  refine acc_setattr F1 X1 N1 hd (by k_is) (by k_is) rfl rfl (by k_is) rfl rfl (by show 1 ≤ 1000; decide) ?_
  intro h3 F3 N3 o3
  clear F1 N1
  refine ks_wpAt_execs_cons ?_
  refine ks_wpAt_Expr_any ?_
  refine ks_wpAt_MethodCall ?_
  (repeat ((fail_if_success (with_reducible show wpAny _ _ (getMethod _ _ _) _ _ _)); w_once))
  rename News _ _ _ _ => N4
  rename Fr _ _ _ _ => F4
  refine super_wd (.inr rfl) type_list_init F4 X1 (N4 _ (.head _)).1 (inst_acc N4 (by walk_at "MEM") (by walk_at "MEM")) (by k_is) (by k_is) rfl (by k_is) (by kernel_rfl) (by decide) ?_
  intro q h5 F5 N5 k5
  have N6 := N4.grown fun b o e => (k5 b o e).1
  (repeat ((fail_if_success (with_reducible show wpAny _ _ (callWith _ _ _ _ _) _ _ _)); w_once))
  refine bnd_init F5 (accN N6 (by walk_at "MEM") (by walk_at "MEM")) hd (N5 _ (.head _)).1 ?_
  intro h7 e7 F7 N7 o7
  clear N4 F4 F5 F3
  (repeat ((fail_if_success (with_reducible show LeaveK _ _ _ _ _ _ _)); w_once))
  refine leaveK_ F7 N7 ?_
  intro kF kN
  exact hQ _ _ _ _ _ kF kN (fun n2 N off => off_own N hg off F7)
end
end
section
open PySem PySem.W PySem.Calls PyProof.Rows PyProof.V PySem.Spec PyProof.Rows.LCg
section
variable {prog : Program} {w : World} {A : Around} {E : Value -> Shared -> Prop} {s : Shared} {h₀ : Heap} {L : Addr} {m : Str -> Option Value} {news : List (Addr × Obj)}
theorem led_append {D : Addr} {vs : List Value} {e : Nat} {v : Value} {Q : Value -> Shared -> Prop} (F : Fr h₀ L s.heap m) (N : News h₀ L s.heap news) (hm : (D, Wl vs.toArray e) ∈ news) (hsz : vs.length ≤ 10000)
    (h : ∀ h', Fr h₀ L h' m -> Others h₀ L [D] s.heap h' -> News h₀ L h' [(D, Wl (vs ++ [v]).toArray (e + 1))] -> Q .none { s with heap := h' }) :
    wpAny (model prog w) A (call (.builtin "list.append") [.ref D, v]) Q E s := by
  have hD := N _ hm
  refine append_at hD.1 (fun h' hs' hD' => ?_) (by rw [sizeLine_eq, Lst]; omega)
  refine h h' (F.change hs' hD.2.1 hD.2.2) (fun n2 N2 off p hp => ⟨hs'.extBut _ _ (fun e => off p hp (by rw [e]; exact .head _)) (N2 p hp).1, (N2 p hp).2⟩) fun p hp => ?_
  rw [Lms.mp hp]
  exact ⟨by rw [hD']; simp, hD.2⟩
end
end
section
open PySem PySem.W PySem.Calls PyProof.Rows PySem.Spec
section
variable {prog : Program} {w : World} {A : Around} {E : Value -> Shared -> Prop} {s : Shared}
theorem walksU_seq (hh : A.handled = none) (I ax : Addr) (hne : ax ≠ I) (items : Array Value) (Ts : Nat -> Addr) (vals : Nat -> Array Value) (hit : ∀ j, j < items.size -> items[j]? = some (.ref (Ts j))) (hTI : ∀ j, j < items.size -> Ts j ≠ I) :
    WalksU prog w A I (I :: ax :: (List.range items.size).map Ts) [I] items.size (fun j v => j < items.size ∧ v = vals j)
      (fun j h => h.IsListIter I ax j ∧ SeqAt h ax items ∧ ∀ k, k < items.size -> h.IsTuple (Ts k) (vals k))
      (fun j T h => (j < items.size ∧ T = Ts j) ∧ h.IsListIter I ax (j + 1) ∧ SeqAt h ax items ∧ ∀ k, k < items.size -> h.IsTuple (Ts k) (vals k)) where
  sub := fun b hb => by rw [Lms.mp hb]; exact .head _
  frame := fun _ _ _ st hk => ⟨st.1.at fun o e => hk I (.head _) o e, st.2.1.at fun o e => hk ax (.tail _ (.head _)) o e,
    fun k hk' => (st.2.2 k hk').at fun o e => hk (Ts k) (.tail _ (.tail _ (Lmm.mpr ⟨k, List.mem_range.mpr hk', rfl⟩))) o e⟩
  item := fun i s Q E hi st hQ => next_seq_item st.1 st.2.1 (x := .ref (Ts i)) (hit i hi) fun h' hit' hs' => by
    have tup : ∀ k, k < items.size -> h'.IsTuple (Ts k) (vals k) := fun k hk' => (st.2.2 k hk').extBut hs'.extBut (hTI k hk')
    exact hQ (Ts i) (vals i) h' s.toks ⟨hi, rfl⟩ (tup i hi) ⟨⟨hi, rfl⟩, hit', st.2.1.at fun o e => hs'.extBut ax o hne e, tup⟩ fun b o hb e => hs'.extBut b o (fun h => hb (by simp [h])) e
  go := fun _ _ _ _ _ s Q _ hm hQ => wpAny_letOwnedTupleGo_listiter hm.2.1 (hQ s.heap hm.2 fun _ _ _ e => e)
  apart := fun j T _ hm hmem => by
    rcases Lmc.mp hmem with e | e
    · exact hTI j hm.1.1 (hm.1.2 ▸ e)
    · cases e
  done := fun s Q E st hQ => next_seq_end hh st.1 st.2.1 (by simp) fun h' he' => hQ h' s.toks fun b o hb e => he' b o (fun h => hb (by simp [h])) e
  self := fun _ _ _ _ st hQ => wpAny_pyIter_listiter st.1 hQ
theorem walksS_shift {I : Addr} {fp wr : List Addr} {G : Array GenState -> Array GenState -> Prop} {n : Nat} {P : Nat -> Value -> Prop} {St : Nat -> Shared -> Prop} (W : WalksS prog w A I fp wr G n P St) :
    WalksS prog w A I fp wr G (n + 1) (fun i v => ∃ k, i = k + 1 ∧ P k v) (fun i s => ∃ k, i = k + 1 ∧ St k s) where
  sub := W.sub
  grefl := W.grefl
  gtrans := W.gtrans
  frame := fun i s h' tk ⟨k, e, st⟩ ht hk => ⟨k, e, W.frame k s h' tk st ht hk⟩
  item := fun i s Q E hi ⟨k, e, st⟩ hQ => by
    subst e
    exact W.item k s Q E (by omega) st fun v s' hP st' hm => hQ v s' ⟨k, rfl, hP⟩ ⟨k + 1, rfl, st'⟩ hm
  done := fun s Q E ⟨k, e, st⟩ hQ => by
    obtain rfl : n = k := by omega
    exact W.done s Q E st hQ
  self := fun i s Q E ⟨k, e, st⟩ hQ => W.self k s Q E st hQ
theorem preSum_shift (c : Int) (val : Nat -> Int) : ∀ n, preSum (fun i => match i with | 0 => c | k + 1 => val k) (n + 1) = c + preSum val n
  | 0 => by simp [preSum]
  | n + 1 => by
    have ih := preSum_shift c val n
    rw [preSum, ih, preSum]
    show c + preSum val n + val n = _
    omega
theorem call_sum_start {x : Value} {c : Int} {tc : Tok} {Q : Value -> Shared -> Prop} (hc : 0 ≤ c ∧ c < 1000000)
    (h : wpAny (model prog w) A.in1 (pyIter x) (fun it s₂ => ∃ I fp wr G n P St val, it = .ref I ∧ WalksS prog w A.in1 I fp wr G n P St ∧ St 0 s₂ ∧ (∀ b ∈ fp, b < s₂.heap.objs.size) ∧
      (∀ i v, P i v -> ∃ t, v = .int (val i) t) ∧
      ∀ s' t', Moved wr G s₂ s' -> Q (.int (c + preSum val n) t') s') E s) :
    wpAny (model prog w) A (call (.builtin "sum") [x, .int c tc]) Q E s := by
  revert hc h
  revert prog w A E s x c tc Q
  apply frz9; case n => walk_at "FZN"
  intro prog w A E s x c tc Q
  clear_value prog w A E s x c tc Q
  intro hc h
  refine call_function_tree PySem.F.kind_sum PySem.F.plain_sum PySem.F.entry_sum (by unfold argsOk; kernel_rfl) ?_
  unfold Builtin.«sum»
  simp only [Llc, List.length_nil]
  rw [if_neg (by decide)]
  refine wpAny_bind (wpAny_of_eq (show Builtin.Builtins.bindParams "sum" ["start"] 0 ⟨[.int c tc], []⟩ = pure [some (.int c tc)] from rfl) ?_)
  refine wpAny_bind (wpAny_mono h (fun it s₂ h₂ => ?_) fun _ _ e => e)
  obtain ⟨I, fp, wr, G, n, P, St, val, rfl, W, hst, hfp, hval, hQ⟩ := h₂
  dsimp only
  split
  case isFalse hf =>
    exact absurd (show (decide (-(2 ^ 63) ≤ c) && decide (c < 2 ^ 63)) = true by
      rw [Bool.and_eq_true, decide_eq_true_eq, decide_eq_true_eq]; omega) hf
  refine wpAny_bind (wpAny_rule (wpAny_bind (wpAny_mkInt (wpAny_bind (wpAny_pure ?_)))))
  simp only [List.forIn_cons, List.forIn_nil]
  refine wpAny_bind (wpAny_bind (wpAny_bind (wpAny_isInstance (T := "int") (b := false) (typeIs_int _ _ _) PySem.sub_int_str ?_)))
  simp only [Bool.false_eq_true, if_false]
  refine wpAny_pure (wpAny_bind (wpAny_bind (wpAny_isInstance (T := "int") (b := false) (typeIs_int _ _ _) PySem.sub_int_bytes ?_)))
  simp only [Bool.false_eq_true, if_false]
  refine wpAny_pure (wpAny_bind (wpAny_bind (wpAny_isInstance (T := "int") (b := false) (typeIs_int _ _ _) PySem.sub_int_bytearray ?_)))
  simp only [Bool.false_eq_true, if_false]
  refine wpAny_pure (wpAny_pure ?_)
  refine wpAny_bind (wpAny_newObj_type ?_)
  have hSf : s₂.heap.objs.size ∉ fp := fun hm => Nat.lt_irrefl _ (hfp _ hm)
  have hpre : ∀ t : Tok, (Value.int c t) = .int (preSum (fun i => match i with | 0 => c | k + 1 => val k) 1) t := fun t => by
    have := preSum_shift c val 0
    rw [this]; simp [preSum]
  refine wpAny_pure ⟨plainId_quiet PySem.F.plain_sum_loop _, codeAny_sum_loopAnyS (walksS_shift W) (fun i => match i with | 0 => c | k + 1 => val k) (fun i v ⟨k, e, hP⟩ => by subst e; exact hval k v hP) s₂.heap.objs.size hSf n 1 _ s₂.toks 0 0 (.inl rfl) (by omega) (by omega)
    ⟨0, rfl, W.frame 0 s₂ _ _ hst (Nat.le_succ _) fun b _ o e => Heap.get?_push_of_some _ e⟩ (by rw [← hpre]; exact Heap.get?_push_size _ rfl) fun s' t' hm => ?_⟩
  rw [preSum_shift]
  exact hQ s' t' (hm.drop_new (Nat.le_succ _))
theorem sum_start_rows {h₀ : Heap} {L K a : Addr} {m : Str -> Option Value} {n : Nat} {F : Nat -> Value -> Prop} {c : Int} {tc : Tok} {Q : Value -> Shared -> Prop} (Fh : Fr h₀ L s.heap m) (G : AllBare s.gens) (X : Gen prog w A K a n F s) (hLK : L ≤ K) (hc : 0 ≤ c ∧ c < 1000000) (val : Nat -> Int) (hval : ∀ j v, F j v -> ∃ t, v = .int (val j) t)
    (hQ : ∀ s' t', Fr h₀ L s'.heap m -> AllBare s'.gens -> s'.os = s.os -> s'.drawn = s.drawn -> (∀ b o, b ≤ K -> s.heap.get? b = some o -> s'.heap.get? b = some o) -> Q (.int (c + preSum val n) t') s') : wpAny (model prog w) A (call (.builtin "sum") [.ref a, .int c tc]) Q E s := by
  obtain ⟨fp, wr, g, St, W, hst, _, _, hfp, hwr⟩ := X
  have W := W.in4_1
  exact call_sum_start hc (W.self 0 _ _ _ hst ⟨a, _, _, _, _, _, _, val, rfl, W, hst, hfp, hval, fun s' t' hm => hQ s' t' (Fh.moved hm fun b hb => Nll hLK (hwr b hb)) (G.movedS hm) hm.os hm.drawn fun b o hb e => hm.heap b o (fun hmem => Nat.lt_irrefl _ (Nat.lt_of_lt_of_le (hwr b hmem) hb)) e⟩)
end
end
section
open PySem PySem.W PySem.Calls PyProof.Rows PySem.Spec
noncomputable abbrev pieceD (p : Str × Str) : List PyData := [.str p.1, .str p.2]
noncomputable def TabOk (op : Obj) : Prop := ∃ ps, op = tabObj ps ∧ TriplesOk ps.toList
theorem tups_get {tl : List (Addr × Obj)} {pcs : List (Str × Str)} (h : TupsAre tl (pcs.map pieceD)) : ∀ j, j < pcs.length -> ∃ a p tx ty, tl[j]? = some (a, tupOf [.str p.1 tx, .str p.2 ty]) ∧ pcs[j]? = some p := fun j hj => by
  obtain ⟨a, vs, e, f⟩ := h.getm hj
  obtain ⟨t, u, e2⟩ := flat_ss f
  exact ⟨a, _, t, u, e2 ▸ e, List.getElem?_eq_getElem hj⟩
theorem TupsAre.tup {tl : List (Addr × Obj)} {ds : List (List PyData)} (h : TupsAre tl ds) : ∀ p ∈ tl, ∃ vs, p.2 = tupOf vs := by
  induction h with
  | nil => exact fun _ h => nomatch h
  | cons _ _ ih =>
    intro p hp
    rcases Lmc.mp hp with rfl | hp
    · exact ⟨_, rfl⟩
    · exact ih p hp
theorem ex9 {a b c d e f g h i : Sort _} {P : a -> b -> c -> d -> e -> f -> g -> h -> i -> Prop} (x1 : a) (x2 : b) (x3 : c) (x4 : d) (x5 : e) (x6 : f) (x7 : g) (x8 : h) (x9 : i) (k : P x1 x2 x3 x4 x5 x6 x7 x8 x9) : ∃ x1 x2 x3 x4 x5 x6 x7 x8 x9, P x1 x2 x3 x4 x5 x6 x7 x8 x9 := ⟨x1, x2, x3, x4, x5, x6, x7, x8, x9, k⟩
theorem el9 {a b c d e f g h i : Sort _} {P : a -> b -> c -> d -> e -> f -> g -> h -> i -> Prop} {G : Prop} (y : ∃ x1 x2 x3 x4 x5 x6 x7 x8 x9, P x1 x2 x3 x4 x5 x6 x7 x8 x9) (k : ∀ x1 x2 x3 x4 x5 x6 x7 x8 x9, P x1 x2 x3 x4 x5 x6 x7 x8 x9 -> G) : G := by
  obtain ⟨x1, x2, x3, x4, x5, x6, x7, x8, x9, q⟩ := y
  exact k x1 x2 x3 x4 x5 x6 x7 x8 x9 q
theorem codeHd_at {g h : Heap} {c P : Addr} (x : CodeHd g c P) (k : ∀ o, g.get? c = some o -> h.get? c = some o) : CodeHd h c P := by
  refine el9 x fun x1 x2 x3 x4 x5 x6 x7 x8 x9 q => ?_
  exact ex9 x1 x2 x3 x4 x5 x6 x7 x8 x9 ⟨k _ q.1, q.2⟩
theorem triples_of {h : Heap} {c P : Addr} {ps : Array Value} (x : h.IsCode c P ps) : TriplesOk ps.toList := by
  refine el9 x fun _ _ _ _ _ _ _ _ _ q => ?_
  obtain ⟨_, q⟩ := q
  exact q.2.2.2.2.2.2.2.2.2.1
theorem news_last {g H h2 : Heap} {L P : Addr} {A B : List (Addr × Obj)} {op op' : Obj} (N : News g L H (A ++ (B ++ [(P, op)]))) (hA : ∀ q ∈ A, q.2 ≠ op) (hB : ∀ q ∈ B, q.2 ≠ op) (hop : h2.get? P = some op') (up : ∀ b o, b ≠ P -> H.get? b = some o -> h2.get? b = some o) : News g L h2 (A ++ (B ++ [(P, op')])) :=
  have hP := N (P, op) (inRight (inRight (.head _)))
  have k : ∀ q : Addr × Obj, q.2 ≠ op -> H.get? q.1 = some q.2 ∧ q.1 ≠ L ∧ g.get? q.1 = none -> h2.get? q.1 = some q.2 ∧ q.1 ≠ L ∧ g.get? q.1 = none := fun q hq e => ⟨up _ _ (fun z => hq (Option.some.inj (e.1.symm.trans (z ▸ hP.1)))) e.1, e.2⟩
  faApp (fun q hq => k q (hA q hq) (N q (inLeft hq))) (faApp (fun q hq => k q (hB q hq) (N q (inRight (inLeft hq)))) (faCons ⟨hop, hP.2⟩ faNil))
theorem passing_all (n : Nat) : passing (fun _ => true) n 0 = List.range n := by simp [passing]
section
variable {prog : Program} {w : World} {A : Around} {E : Value -> Shared -> Prop} {s : Shared} {K : Frag} {g : Heap} {L rw d P c : Addr} {m mg mb : Str -> Option Value} {tl : List (Addr × Obj)} {pcs : List (Str × Str)} {e : Nat} {fi : Int} {tf tk0 : Tok} {op : Obj}
  {p : Program} {loose : List Str} {mean : ExcName -> Option Value}
theorem genexprCodeT {env : Env} {c P : Addr} {ps : Array Value} {pos : Pos} {qualname : Str} {scope : Scope} {Q : Value -> Shared -> Prop} (hc : env.code = .ref c) (hcd : CodeHd s.heap c P) (hP : s.heap.get? P = some (tabObj ps)) (htr : TriplesOk ps.toList)
    (hQ : ∀ code h' tk ps', Heap.ExtBut P s.heap h' -> h'.IsCode c P ps' -> h'.get? P = some (tabObj ps') -> Q code { s with heap := h', toks := tk }) : wpAny (model prog w) A (genexprCode env pos qualname scope) Q E s := by
  cases hnf : codeAmong pos ps.toList with
  | some cv => exact wpAny_genexprCode_hit hc (hcd.code hP htr) hnf (hQ cv s.heap s.toks ps (Heap.ExtBut.refl _ _) (hcd.code hP htr) hP)
  | none => exact wpAny_genexprCodeX hc (hcd.code hP htr) (hcd.tab hP) hnf fun c' h' tk hx _ _ hI _ hT _ => hQ _ h' tk _ hx hI hT.2
theorem gen_row {env : Env} {elt : Expr} {x xa xb : Str} {px pa pb pt : Pos} {kt : Nat} {scope : Scope} {cl : List (Str × Addr)} {pos : Pos} {Fp : Nat -> Value -> Prop} {Q : Value -> Shared -> Prop}
    (F : Fr g L s.heap m) (N : News g L s.heap (rowAt w rw d (refsOf tl) e fi tf tk0 ++ (tl ++ [(P, op)]))) (htl : TupsAre tl (pcs.map pieceD)) (X : K.In g) (T : Top p loose mean mg mb g) (hcd : CodeHd g c P) (htab : TabOk op) (G : AllBare s.gens)
    (hm : mroIn K 178 (.type "list") = some true) (hi : findIn K (.ref 178) "__iter__" = some (some (.builtin "list.__iter__")))
    (hL : env.locals = L) (hgl : env.globals = mainGlobals) (hcode : env.code = .ref c) (hkx : env.scope.kind = .function) (hx : env.kindOf x = some .local) (hxd : (x == ("__debug__" : Str)) = false) (hmx : m x = some (.ref rw)) (hsz : pcs.length ≤ 10000)
    (hh : A.handled = none) (hco : scope.isCoroutine = false) (hclos : closureFor scope env = pure cl) (hcell : ∀ y ∈ scope.names, y.2 ≠ .cell) (h0 : scope.names.lookup (".0" : Str) = some NameKind.local)
    (hxa : scope.names.lookup xa = some .local) (hxb : scope.names.lookup xb = some .local) (hab : xa ≠ xb) (hkind : scope.kind = .function) (hroom : A.depth < recursionLimit)
    (helt : ∀ (C : Addr) (code : Value) (A' : Around) E' i (p : Str × Str) tx ty (t : Shared) m₂, A'.handled = none -> A'.depth ≤ A.depth + 1 -> A'.units ≤ A.units + 8 -> pcs[i]? = some p -> Fr g C t.heap m₂ -> m₂ xa = some (.str p.1 tx) -> m₂ xb = some (.str p.2 ty) ->
      wpAny (model prog w) A' (eval elt (genEnv scope cl C code builtinsNs env)) (fun y s₃ => Fp i y ∧ Keeps t s₃) E' t)
    (h : ∀ a s₅ op' Kb, L ≤ Kb -> Fr g L s₅.heap m -> News g L s₅.heap (rowAt w rw d (refsOf tl) e fi tf tk0 ++ (tl ++ [(P, op')])) -> TabOk op' -> (∀ q ∈ rowAt w rw d (refsOf tl) e fi tf tk0 ++ (tl ++ [(P, op')]), q.1 ≤ Kb) -> AllBare s₅.gens -> s₅.os = s.os -> s₅.drawn = s.drawn ->
      Gen prog w A Kb a pcs.length (fun j y => j < pcs.length ∧ Fp j y) s₅ -> Q (.ref a) s₅)
    (hs : ∀ y, genFold (.Name x px) env y = pure y) :
    wpAny (model prog w) A (eval (.GeneratorExp elt [⟨.Tuple [.Name xa pa, .Name xb pb] kt pt, .Name x px, [], 0⟩] scope pos) env) Q E s := by
  revert F N htl X T hcd htab G hm hi hL hgl hcode hkx hx hxd hmx hsz hh hco hclos hcell h0 hxa hxb hab hkind hroom helt h hs
  revert prog w A E s K g L rw d P c m mg mb tl pcs e fi tf tk0 op p loose mean env elt x xa xb px pa pb pt kt scope cl pos Fp Q
  apply frz22; case n => walk_at "FZN"
  intro prog w A E s K g L rw d P c m mg mb tl pcs e fi tf tk0 op
  clear_value prog w A E s K g L rw d P c m mg mb tl pcs e fi tf tk0 op
  apply frz18; case n => walk_at "FZN"
  intro p loose mean env elt x xa xb px pa pb pt kt scope cl pos Fp Q
  clear_value p loose mean env elt x xa xb px pa pb pt kt scope cl pos Fp Q
  intro F N htl X T hcd htab G hm hi hL hgl hcode hkx hx hxd hmx hsz hh hco hclos hcell h0 hxa hxb hab hkind hroom helt h hs
  subst hL
  refine wpAny_GeneratorExp_walksQTD hh hco hclos hcell h0 hxa hxb hab hkind hroom (wpAny_Name (wpAny_loadName_local hkx hx F.ns hmx ?_) hxd) hs
  have hrw : (rw, accObj d (refsOf tl) e) ∈ rowAt w rw d (refsOf tl) e fi tf tk0 ++ (tl ++ [(P, op)]) := .head _
  have hP : (P, op) ∈ rowAt w rw d (refsOf tl) e fi tf tk0 ++ (tl ++ [(P, op)]) := inRight (inRight (.head _))
  refine acc_iter F X N hrw (.tail _ (.head _)) hm hi ?_
  have hlim : ∀ {h : Heap}, (∀ b o, g.get? b = some o -> h.get? b = some o) -> h.NoLimit := fun k => T.nolimit.keeps k
  have up1 : ∀ b o, s.heap.get? b = some o -> (s.heap.push { cls := .type "list_iterator", data := .fields #[.ref rw, .int 0 0] }).get? b = some o := fun b o e => Heap.get?_push_of_some _ e
  obtain ⟨I, hI⟩ : ∃ I, I = s.heap.objs.size := ⟨_, rfl⟩
  obtain ⟨H1, hH1⟩ : ∃ H1, H1 = s.heap.push { cls := .type "list_iterator", data := .fields #[.ref rw, .int 0 0] } := ⟨_, rfl⟩
  rw [← hI, ← hH1]
  rw [← hH1] at up1
  revert up1; revert hH1; revert hI; revert H1; revert I
  apply frz2; case n => walk_at "FZN"
  intro I H1
  clear_value I H1
  intro hI hH1 up1
  have F1 : Fr g env.locals H1 m := F.keeps up1
  have N1 : News g env.locals H1 (rowAt w rw d (refsOf tl) e fi tf tk0 ++ (tl ++ [(P, op)])) := N.grown up1
  refine ⟨hlim F1.keep, ?_⟩
  obtain ⟨ps, hop0, htr⟩ := htab
  have hps : op.data = .fields ps := by rw [hop0]
  have hcd1 : CodeHd H1 c P := codeHd_at hcd fun o q => F1.keep _ _ q
  refine genexprCodeT hcode hcd1 (hop0 ▸ (N1 _ hP).1) htr ?_
  intro code h2 tk2 ps2 hx2 hc2 ht2
  have hop' := ht2
  have htab' : TabOk (tabObj ps2) := ⟨_, rfl, triples_of hc2⟩
  generalize tabObj ps2 = op' at ht2 hop' htab'
  revert htab'; revert hop'; revert ht2; revert hc2; revert hx2; revert op'; revert ps2; revert tk2; revert h2; revert code
  apply frz5; case n => walk_at "FZN"
  intro code h2 tk2 ps2 op'
  clear_value code h2 tk2 ps2 op'
  intro hx2 hc2 ht2 hop' htab'
  have gP : g.get? P = none := (N _ hP).2.2
  have LP : P ≠ env.locals := (N _ hP).2.1
  have kg2 : ∀ b o, g.get? b = some o -> h2.get? b = some o := fun b o e => hx2 b o (fun q => by rw [q, gP] at e; cases e) (F1.keep b o e)
  have F2 : Fr g env.locals h2 m := ⟨F1.ns.at' fun o e => hx2 _ o (Ne.symm LP) e, kg2, F1.above⟩
  obtain ⟨bm, ob, M⟩ := bmod_of_top T
  have M2 := M.keeps kg2
  refine wpAny_builtinsFor (by rw [hgl]; exact M2.ns) M2.name M2.ne M2.obj M2.cls M2.dict M2.data ?_
  have hlen : tl.length = pcs.length := by rw [htl.length]; simp
  have hI1 : H1.get? I = some { cls := .type "list_iterator", data := .fields #[.ref rw, .int 0 0] } := by rw [hH1, hI]; exact Heap.get?_push_size _ rfl
  have hIne : ∀ b o, s.heap.get? b = some o -> b ≠ I := fun b o e => by rw [hI]; exact Nnl (Hls e)
  have hPI : P ≠ I := hIne _ _ (N _ hP).1
  have hI2 : h2.get? I = some { cls := .type "list_iterator", data := .fields #[.ref rw, .int 0 0] } := hx2 _ _ (Ne.symm hPI) hI1
  have hsz1 : H1.objs.size = I + 1 := by rw [hH1, Heap.size_push, hI]
  have hsz2 : I < h2.objs.size := Hls hI2
  -- the tuples' addresses are not the table's
  have N2 : News g env.locals h2 (rowAt w rw d (refsOf tl) e fi tf tk0 ++ (tl ++ [(P, op')])) := news_last N1 (by
    refine faCons ?_ (faCons ?_ faNil) <;> (intro eo; rw [← eo] at hps; cases hps)) (fun q z eo => by
    obtain ⟨vs, hv⟩ := htl.tup q z
    rw [hv] at eo
    rw [← eo] at hps; cases hps) hop' (fun b o q e => hx2 b o q e)
  have hat : SeqAt h2 rw (refsOf tl).toArray := ⟨_, _, (N2 (rw, accObj d (refsOf tl) e) (.head _)).1, rfl⟩
  have hrwI : rw ≠ I := hIne _ _ (N _ hrw).1
  have hsa : (refsOf tl).toArray.size = pcs.length := by simp [hlen]
  have W : ∀ A' : Around, A'.handled = none -> WalksU prog w A' I (I :: rw :: (List.range (refsOf tl).toArray.size).map fun j => (tl.getD j (0, default)).1) [I] (refsOf tl).toArray.size _ _ _ := fun A' hA =>
    walksU_seq (prog := prog) (w := w) hA I rw hrwI (refsOf tl).toArray (fun j => (tl.getD j (0, default)).1) (fun j => match (tl.getD j (0, default)).2.data with | .seq xs _ => xs | _ => #[])
      (fun j hj => by
        rw [hsa, ← hlen] at hj
        simp [List.getElem?_eq_getElem hj, List.getD_eq_getElem?_getD])
      (fun j hj => by
        rw [hsa, ← hlen] at hj
        refine hIne _ _ (N (tl[j]) ?_).1 |> fun z => by simpa [List.getD_eq_getElem?_getD, List.getElem?_eq_getElem hj] using z
        simp)
  have hmemT : ∀ q ∈ tl, q ∈ rowAt w rw d (refsOf tl) e fi tf tk0 ++ (tl ++ [(P, op')]) := fun q hq => inRight (inLeft hq)
  have hval : ∀ j, j < (refsOf tl).toArray.size -> ∃ (p : Str × Str) (tx ty : Tok), pcs[j]? = some p ∧ (match (tl.getD j (0, default)).2.data with | .seq xs _ => xs | _ => #[]) = #[.str p.1 tx, .str p.2 ty] ∧ h2.IsTuple (tl.getD j (0, default)).1 #[.str p.1 tx, .str p.2 ty] := fun j hj => by
    rw [hsa] at hj
    obtain ⟨a, p, tx, ty, e1, e2⟩ := tups_get htl j hj
    have e3 : tl.getD j (0, default) = (a, tupOf [.str p.1 tx, .str p.2 ty]) := by rw [List.getD_eq_getElem?_getD, e1]; rfl
    refine ⟨p, tx, ty, e2, by rw [e3], ?_⟩
    rw [e3]
    exact ⟨_, (N2 _ (hmemT _ (Lmg e1))).1, rfl, _, rfl⟩
  refine ex9 I _ [I] _ _ _ _ (fun _ => true) Fp ⟨rfl, W, fun i vals hv => ?_, ⟨⟨_, hI2, rfl, rfl⟩, hat, fun j hj => ?_⟩, fun b hb => ?_, hlim kg2, ?_, fun href hk => ⟨fun A' E' i va vb t m₂ _ _ _ _ _ _ _ _ => wpAny_tests_nil ⟨rfl, _, _, rfl, fun _ _ e => e⟩, fun A' E' i va vb t m₂ hA hD hU hv _ hn hma hmb hkp => ?_⟩, fun a h5 tk gs hgb hag hs5 hk5 WS hat5 => ?_⟩
  · obtain ⟨p, tx, ty, _, e2, _⟩ := hval i hv.1
    exact ⟨_, _, hv.2.trans e2⟩
  · obtain ⟨p, tx, ty, _, e2, e3⟩ := hval j hj
    dsimp only
    rw [e2]; exact e3
  · show b < h2.objs.size
    rcases Lmc.mp hb with rfl | hb
    · exact hsz2
    · rcases Lmc.mp hb with er | hb
      · rw [er]; exact Hls (N2 (rw, accObj d (refsOf tl) e) (.head _)).1
      · obtain ⟨j, hj, rfl⟩ := Lmm.mp hb
        obtain ⟨p, tx, ty, _, _, o, e3, _⟩ := hval j (List.mem_range.mp hj)
        exact Hls e3
  · intro hc
    have e1 := Lms.mp hc
    obtain ⟨mc, hns, _⟩ := T.nolimit
    have l0 : cStatics < g.objs.size := hns.lt
    exact Nat.lt_irrefl _ (Nat.lt_of_lt_of_le (Nltt (Nat.lt_of_lt_of_le l0 F.above) F.ns.lt) (Nle (hI.symm.trans e1.symm)))
  · obtain ⟨p, tx, ty, e1, e2, _⟩ := hval i hv.1
    have e4 := hv.2.trans e2
    injection e4 with e5
    injection e5 with e6 e7
    injection e7 with e7 _
    subst e6 e7
    refine helt h2.objs.size code A' E' i p tx ty t m₂ hA hD hU e1 ⟨hn, fun b o q => ?_, ?_⟩ hma hmb
    · have q2 := kg2 b o q
      refine hkp b (List.mem_range.mpr (Hls q2)) (fun z => ?_) o (hk b o q2)
      rw [Lms.mp z] at q
      exact Nat.lt_irrefl _ (Nat.lt_of_lt_of_le (Nltt (Nat.lt_of_lt_of_le (Hls q) F.above) F.ns.lt) (Nle hI.symm))
    · exact Nlt F.above (Nat.le_of_lt F2.ns.lt)
  · rw [passing_all, List.length_range] at WS
    rw [hsa] at hat5
    have hLt : env.locals < s.heap.objs.size := F.ns.lt
    rw [← hI] at hLt
    have hI0 : @LT.lt Nat _ 0 I := Nll (Nat.zero_le _) hLt
    refine h a _ op' (I - 1) (Nat.le_sub_one_of_lt hLt) (F2.keeps hk5) (N2.grown hk5) htab' (fun q hq => ?_) (G.push hgb) rfl rfl ⟨a :: h2.objs.size :: List.range h2.objs.size, h2.objs.size :: [I], s.gens.size, _, ?_, hat5, fun i s' st => st.1.typeIs, List.mem_cons_self, ?_, ?_⟩
    · have : q.1 < I := by
        rw [hI]
        exact faApp (P := fun q => q.1 < s.heap.objs.size) (fun q hq => Hls (N q (inLeft hq)).1) (faApp (fun q hq => Hls (N q (inRight (inLeft hq))).1) (faCons (Hls (N _ hP).1) faNil)) q hq
      exact Nat.le_sub_one_of_lt this
    · have e0 : ∀ (j : Nat) (y : Value), (∃ i, (List.range (refsOf tl).toArray.size)[j]? = some i ∧ Fp i y) ↔ (j < pcs.length ∧ Fp j y) := fun j y => by
        rw [hsa]
        constructor
        · rintro ⟨i, e, f⟩
          obtain ⟨h1, h2⟩ := List.getElem?_eq_some_iff.mp e
          rw [List.getElem_range] at h2
          subst h2
          exact ⟨by simpa using h1, f⟩
        · rintro ⟨h1, f⟩
          exact ⟨j, by simp [h1], f⟩
      have e1 : (fun (j : Nat) (y : Value) => ∃ i, (List.range (refsOf tl).toArray.size)[j]? = some i ∧ Fp i y) = fun j y => j < pcs.length ∧ Fp j y := funext fun j => funext fun y => propext (e0 j y)
      rw [e1, hsa] at WS
      exact WS
    · intro b hb
      show b < h5.objs.size
      rw [hs5]
      rcases Lmc.mp hb with rfl | hb
      · exact Nls _
      · rcases Lmc.mp hb with rfl | hb
        · exact Nat.lt_succ_of_lt hag
        · exact Nat.lt_succ_of_lt (Nltt (List.mem_range.mp hb) hag)
    · intro b hb
      rcases Lmc.mp hb with rfl | hb
      · exact Nll (Nat.sub_le _ _) hsz2
      · rw [Lms.mp hb]; exact Nat.sub_lt hI0 Nat.one_pos
end
end
section
open PySem PySem.W PySem.Calls PyProof.Rows PyProof.V PySem.Spec PyProof.Rows.LCg
section
variable {prog : Program} {w : World} {A : Around} {E : Value -> Shared -> Prop} {s : Shared} {h₀ : Heap} {L : Addr} {m : Str -> Option Value} {env : Env}
theorem CE_mono {s₁ : Shared} {I C D : Addr} {oI oD : Obj} {S : List (Addr × Obj) -> Prop} {r r' : Value -> List (Addr × Obj) -> Prop} {y : Value} {s₂ : Shared} (hr : ∀ n, r y n -> r' y n) (h : CE h₀ L m s₁ I oI C D oD S r y s₂) : CE h₀ L m s₁ I oI C D oD S r' y s₂ := by
  obtain ⟨h', tk, n', oC, mC, a, b, c, d, e, f, g⟩ := h
  exact ⟨h', tk, n', oC, mC, a, b, c, d, e, f, hr _ g⟩
theorem CR_ind {elt target : Expr} {ifs : List Expr} {scope : Scope} {cl : List (Str × Addr)} {S : List (Addr × Obj) -> Prop} {Fin : List Value -> List (Addr × Obj) -> Prop} (J : List Value -> List Value -> List (Addr × Obj) -> Prop)
    (turn : ∀ v r ys news, J (v :: r) ys news -> ∀ I oI C oC D mC h tk (E' : Value -> Shared -> Prop), NsObj oC mC -> Fr h₀ L h m -> News h₀ L h ((I, oI) :: (C, oC) :: (D, lst ys) :: news) -> Off3 I C D news -> ((@Ne Nat I C) ∧ (@Ne Nat I D) ∧ (@Ne Nat C D)) ->
      wpAny (model prog w) A (assign target (compEnvC scope cl C env) v) (fun _ s' =>
        wpAny (model prog w) A (forIn ifs true fun c r => if r = true then do let ok ← isTrue c (compEnvC scope cl C env) (eval c (compEnvC scope cl C env)); pure (ForInStep.yield ok) else pure (ForInStep.yield r)) (fun ok s'' =>
          if ok = true then wpAny (model prog w) A (eval elt (compEnvC scope cl C env)) (CE h₀ L m { s with heap := h, toks := tk } I oI C D (lst ys) S (fun y news' => J r (ys ++ [y]) news')) E' s''
          else CE h₀ L m { s with heap := h, toks := tk } I oI C D (lst ys) S (fun _ news' => J r ys news') Value.none s'') E' s') E' { s with heap := h, toks := tk })
    (done : ∀ ys news, J [] ys news -> Fin ys news) : ∀ its ys news, J its ys news -> CR prog w A h₀ L m env target elt ifs scope cl s S Fin its ys news
  | [], ys, news, h => done ys news h
  | v :: r, ys, news, h => fun I oI C oC D mC hh tk E' hC F N off ne => by
    refine wpAny_mono (turn v r ys news h I oI C oC D mC hh tk E' hC F N off ne) (fun _ s' q => wpAny_mono q (fun ok s'' q2 => ?_) fun _ _ e => e) fun _ _ e => e
    cases ok with
    | true =>
      simp only [if_true] at q2 ⊢
      exact wpAny_mono q2 (fun y s₃ q3 => CE_mono (fun n j => CR_ind J turn done r _ n j) q3) fun _ _ e => e
    | false =>
      simp only [Bool.false_eq_true, if_false] at q2 ⊢
      exact CE_mono (fun n j => CR_ind J turn done r _ n j) q2
theorem own_compF {elt target iter : Expr} {ifs : List Expr} {scope : Scope} {cl : List (Str × Addr)} {pos : Pos} {Q : Value -> Shared -> Prop} (_F : Fr h₀ L s.heap m)
    (hclos : closureFor scope env = pure cl) (hcell : ∀ y ∈ scope.names, y.2 ≠ .cell) (hkind : scope.kind = .function)
    (hnames : ∀ y ∈ scope.names, y.2 = .local -> scope.names.lookup y.1 = some .local)
    (h : wpAny (model prog w) A (eval iter env) (CompPost prog w A E h₀ L m env target elt ifs scope cl Q) E s)
    (hs : ∀ x, foldedSetIterable iter env x = pure x) :
    wpAny (model prog w) A (eval (.ListComp elt [⟨target, iter, ifs, 0⟩] scope pos) env) Q E s := own_comp hclos hcell hkind hnames h hs
theorem upd2a {a b : Str} {v w : Value} {mm : Str -> Option Value} (h : a ≠ b) : updL [a, b] [v, w] mm a = some v := by
  show (if a = b then some w else if a = a then some v else mm a) = _
  rw [if_neg h, if_pos rfl]
theorem upd2b {a b : Str} {v w : Value} {mm : Str -> Option Value} : updL [a, b] [v, w] mm b = some w := by
  show (if b = b then some w else if b = a then some v else mm b) = _
  rw [if_pos rfl]
theorem upd3a {a b c : Str} {u v w : Value} {mm : Str -> Option Value} (h : a ≠ b) (h' : a ≠ c) : updL [a, b, c] [u, v, w] mm a = some u := by
  show (if a = c then some w else if a = b then some v else if a = a then some u else mm a) = _
  rw [if_neg h', if_neg h, if_pos rfl]
theorem upd3b {a b c : Str} {u v w : Value} {mm : Str -> Option Value} (h : b ≠ c) : updL [a, b, c] [u, v, w] mm b = some v := by
  show (if b = c then some w else if b = b then some v else if b = a then some u else mm b) = _
  rw [if_neg h, if_pos rfl]
theorem upd3c {a b c : Str} {u v w : Value} {mm : Str -> Option Value} : updL [a, b, c] [u, v, w] mm c = some w := by
  show (if c = c then some w else if c = b then some v else if c = a then some u else mm c) = _
  rw [if_pos rfl]
theorem ce_end {s₁ : Shared} {I C D : Addr} {oI oC oD : Obj} {mC : Str -> Option Value} {S : List (Addr × Obj) -> Prop} {r : Value -> List (Addr × Obj) -> Prop} {y : Value} {h' : Heap} {tk : Nat} (news' : List (Addr × Obj)) (hC : LCg.NsObj oC mC) (F : Fr h₀ L h' m) (N : News h₀ L h' ((I, oI) :: (C, oC) :: (D, oD) :: news')) (off : LCg.Off3 I C D news') (hS : S news') (hr : r y news') :
    CE h₀ L m s₁ I oI C D oD S r y { s₁ with heap := h', toks := tk } := ⟨h', tk, news', oC, mC, rfl, hC, F, N, off, hS, hr⟩
theorem off3_new {I C D D' : Addr} {o : Obj} {A B : List (Addr × Obj)} (off : LCg.Off3 I C D (A ++ B)) (h1 : D' ≠ I) (h2 : D' ≠ C) (h3 : D' ≠ D) : LCg.Off3 I C D ((A ++ [(D', o)]) ++ B) := LCg.Off3.of fun p hp => by
  simp only [Lma, Lms] at hp
  rcases hp with (hp | rfl) | hp
  · exact off.mem p (Lal _ hp)
  · exact ⟨h1, h2, h3⟩
  · exact off.mem p (Lar _ hp)
theorem add_lists {l b : Addr} {vs ws : List Value} {n n2 : Nat} {news : List (Addr × Obj)} {Q : Value -> Shared -> Prop} (F : Fr h₀ L s.heap m) (N : News h₀ L s.heap news) (hl : (l, Wl vs.toArray n) ∈ news) (hb : (b, Wl ws.toArray n2) ∈ news) (hsz : vs.length + ws.length ≤ 10000)
    (h : ∀ D h', Fr h₀ L h' m -> News h₀ L h' ((D, Wl (vs ++ ws).toArray 0) :: news) -> (∀ p ∈ news, p.1 < D) -> Q (.ref D) { s with heap := h' }) : wpAny (model prog w) A (binaryOp .Add (.ref l) (.ref b)) Q E s := by
  have up : ∀ q o, s.heap.get? q = some o -> (s.heap.push (Wl (vs.toArray ++ ws.toArray) 0)).get? q = some o := fun q o e => Heap.get?_push_of_some _ e
  refine P.add_list (N _ hl).1 (N _ hb).1 ?_ (by rw [Lst, Lst, sizeLine_eq]; omega)
  refine h _ _ (F.keeps up) ?_ (fun p hp => Hls (N p hp).1)
  have hn := news_pushed F N up (Heap.get?_push_size _ rfl) rfl
  rw [show (vs ++ ws).toArray = vs.toArray ++ ws.toArray by simp]
  exact hn
theorem led_set {D : Addr} {vs : List Value} {e k : Nat} {t : Tok} {v : Value} {news : List (Addr × Obj)} {Q : Unit -> Shared -> Prop} (F : Fr h₀ L s.heap m) (N : News h₀ L s.heap news) (hm : (D, Wl vs.toArray e) ∈ news) (hk : k < vs.length) (hsz : vs.length ≤ 10000)
    (h : ∀ h' e', Fr h₀ L h' m -> Others h₀ L [D] s.heap h' -> News h₀ L h' [(D, Wl (vs.set k v).toArray e')] -> Q () { s with heap := h' }) : wpAny (model prog w) A (setItem (.ref D) (.int (k : Int) t) v) Q E s := by
  have hD := N _ hm
  refine ki_setAt hD.1 (by omega) (by omega) (by rw [Lst]; omega) ?_
  have hs' := Heap.SameBut.update s.heap D (Obj.mapSeq (·.setIfInBounds (k : Int).toNat v))
  obtain ⟨e', he'⟩ : ∃ e', (s.heap.update D (Obj.mapSeq (·.setIfInBounds (k : Int).toNat v))).get? D = some (seqObj "list" (vs.toArray.setIfInBounds (k : Int).toNat v) e') := ⟨_, get?_update_seq hD.1 (·.setIfInBounds (k : Int).toNat v)⟩
  have e9 : (vs.set k v).toArray = vs.toArray.setIfInBounds (k : Int).toNat v := by simp
  refine h _ e' (F.change hs' hD.2.1 hD.2.2) (fun n2 N2 off p hp => ⟨hs'.extBut _ _ (fun e => off p hp (by rw [e]; exact .head _)) (N2 p hp).1, (N2 p hp).2⟩) fun p hp => ?_
  rw [Lms.mp hp, e9]
  exact ⟨he', hD.2⟩
inductive TupsConsE (tl : List (Addr × Obj)) (d : List PyData) (ds : List (List PyData)) (v : Value) (r : List Value) : Prop
  | mk : ∀ T vs tl', (tl = (T, tupOf vs) :: tl') -> (v = .ref T) -> (r = refsOf tl') -> (FlatAll vs d) -> (TupsAre tl' ds) -> TupsConsE tl d ds v r
theorem tups_cons {tl : List (Addr × Obj)} {d : List PyData} {ds : List (List PyData)} {v : Value} {r : List Value} (h : TupsAre tl (d :: ds)) (hr : v :: r = refsOf tl) : TupsConsE tl d ds v r := by
  obtain ⟨T, vs, tl', rfl, a, b⟩ := h.unc
  exact ⟨T, vs, tl', rfl, (List.cons.inj hr).1, (List.cons.inj hr).2, a, b⟩
inductive Flat2E (vs : List Value) (a b : PyData) : Prop
  | mk : ∀ v w, (vs = [v, w]) -> (Flat v a) -> (Flat w b) -> Flat2E vs a b
theorem flat2 {vs : List Value} {a b : PyData} (h : FlatAll vs [a, b]) : Flat2E vs a b := by
  obtain ⟨v, _, rfl, a1, h1⟩ := h.unc
  obtain ⟨w, _, rfl, b1, h2⟩ := h1.unc
  exact ⟨v, w, by rw [h2.nilq], a1, b1⟩
inductive Flat3E (vs : List Value) (a b c : PyData) : Prop
  | mk : ∀ u v w, (vs = [u, v, w]) -> (Flat u a) -> (Flat v b) -> (Flat w c) -> Flat3E vs a b c
theorem flat3 {vs : List Value} {a b c : PyData} (h : FlatAll vs [a, b, c]) : Flat3E vs a b c := by
  obtain ⟨u, _, rfl, a1, h1⟩ := h.unc
  obtain ⟨v, w, e, b1, c1⟩ := flat2 h1
  exact ⟨u, v, w, by rw [e], a1, b1, c1⟩
inductive DropPieceE (tl : List (Addr × Obj)) (ps : List Piece) (k : Nat) (x : Value) (r : List Value) : Prop
  | mk : ∀ q T t u v, (k < tl.length) -> (ps.take (k + 1) = ps.take k ++ [q]) -> (q ∈ ps) -> (x = .ref T) -> ((T, tupOf [.int q.b t, .str ⟨#[q.x]⟩ u, .int q.p v]) ∈ tl) -> (r = refsOf (tl.drop (k + 1))) -> DropPieceE tl ps k x r
theorem drop_piece {tl : List (Addr × Obj)} {ps : List Piece} (h : TupsAre tl (ps.map pcD)) {k : Nat} {x : Value} {r : List Value} (hr : x :: r = refsOf (tl.drop k)) : DropPieceE tl ps k x r := by
  obtain ⟨hk, T, vs, e1, e2, f, e3⟩ := tups_next h hr
  obtain ⟨t, u, v, e⟩ := flat_isi f
  exact ⟨ps[k], T, t, u, v, refs_lt hr, (List.take_append_getElem hk).symm, List.getElem_mem hk, e1, e ▸ e2, e3⟩
end
end
section
open PySem PySem.W PySem.Calls PyProof.Rows PyProof.V PySem.Spec PyProof.Rows.LCg
theorem FlatAll.len {vs : List Value} {ds : List PyData} (h : FlatAll vs ds) : vs.length = ds.length := by
  induction h with
  | nil => rfl
  | cons _ _ ih => simp [ih]
inductive JG {α β : Type} (src : List (Addr × Obj)) (enc : α -> List PyData) (f : α -> Option β) (rel : List Value -> List β -> List (Addr × Obj) -> Prop) (cs : List α) (R : List (Addr × Obj)) (r ys : List Value) (news : List (Addr × Obj)) : Prop
  | mk : ∀ (cr : List (Addr × Obj)) (rem : List α) (out : List β) (yl : List (Addr × Obj)), (r = refsOf cr) -> (TupsAre cr (rem.map enc)) -> ((∀ z ∈ cr, z ∈ src)) -> ((∀ x ∈ rem, x ∈ cs)) -> (rel ys out yl) -> (out ++ rem.filterMap f = cs.filterMap f) -> ((∀ y ∈ yl, ∀ z ∈ R, y.1 ≠ z.1)) -> (news = yl ++ R) -> JG src enc f rel cs R r ys news
inductive CT {β : Type} (rel : List Value -> List β -> List (Addr × Obj) -> Prop) (R : List (Addr × Obj)) (ys : List Value) (out : List β) (o : β) (y : Value) (news : List (Addr × Obj)) : Prop
  | mk : ∀ yl', (rel (ys ++ [y]) (out ++ [o]) yl') -> ((∀ y ∈ yl', ∀ z ∈ R, y.1 ≠ z.1)) -> (news = yl' ++ R) -> CT rel R ys out o y news
section
variable {prog : Program} {w : World} {A : Around} {E : Value -> Shared -> Prop} {s : Shared} {h₀ : Heap} {L : Addr} {m : Str -> Option Value} {env : Env}
inductive JNext {α β : Type} (src : List (Addr × Obj)) (enc : α -> List PyData) (f : α -> Option β) (rel : List Value -> List β -> List (Addr × Obj) -> Prop) (cs : List α) (R : List (Addr × Obj)) (v : Value) (r ys : List Value) (nw : List (Addr × Obj)) : Prop
  | mk : ∀ x T vs out yl, v = .ref T -> x ∈ cs -> (T, tupOf vs) ∈ src -> FlatAll vs (enc x) -> rel ys out yl -> (∀ y ∈ yl, ∀ z ∈ R, y.1 ≠ z.1) -> nw = yl ++ R -> (∀ y n', (∃ o, f x = some o ∧ CT rel R ys out o y n') -> JG src enc f rel cs R r (ys ++ [y]) n') -> (∀ n', f x = none ∧ n' = yl ++ R -> JG src enc f rel cs R r ys n') -> JNext src enc f rel cs R v r ys nw
theorem JG.next {α β : Type} {src : List (Addr × Obj)} {enc : α -> List PyData} {f : α -> Option β} {rel : List Value -> List β -> List (Addr × Obj) -> Prop} {cs : List α} {R : List (Addr × Obj)} {v : Value} {r ys : List Value} {nw : List (Addr × Obj)} (h : JG src enc f rel cs R (v :: r) ys nw) : JNext src enc f rel cs R v r ys nw := by
  obtain ⟨cr, rem, out, yl, hr, hcr, hsb, hrm, hrel, hout, hfr, hn⟩ := h
  cases rem with
  | nil => cases hcr; cases hr
  | cons x rem =>
    obtain ⟨T, vs, cr', ec, ev, er, hf, hcr'⟩ := tups_cons hcr hr
    rw [ec] at hsb
    refine ⟨x, T, vs, out, yl, ev, hrm _ (.head _), hsb _ (.head _), hf, hrel, hfr, hn, fun y n' k => ?_, fun n' k => ⟨cr', rem, out, yl, er, hcr', fun z hz => hsb z (.tail _ hz), fun z hz => hrm z (.tail _ hz), hrel, ?_, hfr, k.2⟩⟩
    · obtain ⟨o, ho, yl', h1, h2, h3⟩ := k
      refine ⟨cr', rem, out ++ [o], yl', er, hcr', fun z hz => hsb z (.tail _ hz), fun z hz => hrm z (.tail _ hz), h1, ?_, h2, h3⟩
      rw [← hout, List.filterMap_cons, ho, Laa]; rfl
    · rw [← hout, List.filterMap_cons, k.1]
theorem JG.fin {α β : Type} {src : List (Addr × Obj)} {enc : α -> List PyData} {f : α -> Option β} {rel : List Value -> List β -> List (Addr × Obj) -> Prop} {cs : List α} {R : List (Addr × Obj)} {ys : List Value} {nw : List (Addr × Obj)} (h : JG src enc f rel cs R [] ys nw) : ∃ yl, rel ys (cs.filterMap f) yl ∧ (∀ y ∈ yl, ∀ z ∈ R, y.1 ≠ z.1) ∧ nw = yl ++ R := by
  obtain ⟨cr, rem, out, yl, hr, hcr, hsb, hrm, hrel, hout, hfr, hn⟩ := h
  cases rem with
  | cons _ _ =>
    obtain ⟨_, _, _, e, _, _⟩ := hcr.unc
    rw [e] at hr; cases hr
  | nil =>
    rw [List.filterMap_nil, Lan] at hout
    exact ⟨yl, hout ▸ hrel, hfr, hn⟩
theorem gen_half {M : Model} {X : Sem Bool} {Y : Sem Value} {I C D : Addr} {oI oD : Obj} {S : List (Addr × Obj) -> Prop} {s₁ t : Shared} {r1 r1' r2 r2' : Value -> List (Addr × Obj) -> Prop} {E' : Value -> Shared -> Prop} (h1 : ∀ y n', r1 y n' -> r1' y n') (h2 : ∀ y n', r2 y n' -> r2' y n')
    (q : wpAny M A X (fun ok s'' => if ok = true then wpAny M A Y (CE h₀ L m s₁ I oI C D oD S r1) E' s'' else CE h₀ L m s₁ I oI C D oD S r2 Value.none s'') E' t) :
    wpAny M A X (fun ok s'' => if ok = true then wpAny M A Y (CE h₀ L m s₁ I oI C D oD S r1') E' s'' else CE h₀ L m s₁ I oI C D oD S r2' Value.none s'') E' t := by
  refine wpAny_mono q (fun ok s3 q => ?_) fun _ _ e => e
  cases ok with
  | true => exact wpAny_mono (Q := CE h₀ L m s₁ I oI C D oD S r1) q (fun y s4 q4 => CE_mono (h1 y) q4) fun _ _ e => e
  | false => exact CE_mono (r := r2) (h2 _) q
theorem comp_gen {α β : Type} {elt iter : Expr} {elts : List Expr} {kk : Nat} {tp : Pos} {ifs : List Expr} {scope : Scope} {cl : List (Str × Addr)} {pos : Pos} {Q : Value -> Shared -> Prop} {ns : List (Str × Pos)}
    {D0 : Addr} {oD0 : Obj} {n0 : Nat} {src R : List (Addr × Obj)} (enc : α -> List PyData) (f : α -> Option β) (rel : List Value -> List β -> List (Addr × Obj) -> Prop) (cs : List α)
    (F : Fr h₀ L s.heap m) (N : News h₀ L s.heap R) (hD : (D0, oD0) ∈ R) (hDd : oD0.data = .seq (refsOf src).toArray n0) (hsrc : TupsAre src (cs.map enc)) (hsub : ∀ p ∈ src, p ∈ R) (hsz : src.length ≤ 10000)
    (hh : A.handled = none) (hclos : closureFor scope env = pure cl) (hcell : ∀ y ∈ scope.names, y.2 ≠ .cell) (hkind : scope.kind = .function)
    (hnames : ∀ y ∈ scope.names, y.2 = .local -> scope.names.lookup y.1 = some .local)
    (hE : elts = ns.map fun n => Expr.Name n.1 n.2) (hloc : ∀ n ∈ ns, scope.names.lookup n.1 = some .local) (hnv : ∀ x ∈ cs, (enc x).length = ns.length)
    (hit : ∀ {Q' : Value -> Shared -> Prop}, Q' (.ref D0) s -> wpAny (model prog w) A (eval iter env) Q' E s)
    (hpy : ∀ {Q' : Value -> Shared -> Prop}, Q' (.ref s.heap.objs.size) { s with heap := s.heap.push { cls := .type "list_iterator", data := .fields #[.ref D0, .int 0 0] } } -> wpAny (model prog w) A (pyIter (.ref D0)) Q' E s)
    (r0 : rel [] [] [])
    (turn : ∀ x ∈ cs, ∀ T vs, (T, tupOf vs) ∈ src -> FlatAll vs (enc x) -> ∀ ys out yl, rel ys out yl -> (∀ y ∈ yl, ∀ z ∈ R, y.1 ≠ z.1) -> ∀ s₁ : Shared, s₁.gens = s.gens -> s₁.os = s.os -> s₁.drawn = s.drawn -> ∀ I oI C oC D mC h tk (E' : Value -> Shared -> Prop), NsObj oC (updL (ns.map (·.1)) vs mC) -> Fr h₀ L h m -> News h₀ L h ((I, oI) :: (C, oC) :: (D, lst ys) :: (yl ++ R)) -> Off3 I C D (yl ++ R) -> ((@Ne Nat I C) ∧ (@Ne Nat I D) ∧ (@Ne Nat C D)) ->
      wpAny (model prog w) A (forIn ifs true fun c r => if r = true then do let ok ← isTrue c (compEnvC scope cl C env) (eval c (compEnvC scope cl C env)); pure (ForInStep.yield ok) else pure (ForInStep.yield r)) (fun ok s'' =>
          if ok = true then wpAny (model prog w) A (eval elt (compEnvC scope cl C env)) (CE h₀ L m s₁ I oI C D (lst ys) (SrcO h₀ D0 (refsOf src).toArray) (fun y news' => ∃ o, f x = some o ∧ CT rel R ys out o y news')) E' s''
          else CE h₀ L m s₁ I oI C D (lst ys) (SrcO h₀ D0 (refsOf src).toArray) (fun _ news' => f x = none ∧ news' = yl ++ R) Value.none s'') E' { s₁ with heap := h, toks := tk })
    (fin : ∀ ys yl D h tk, rel ys (cs.filterMap f) yl -> (∀ y ∈ yl, ∀ z ∈ R, y.1 ≠ z.1) -> Fr h₀ L h m -> News h₀ L h ((D, lst ys) :: (yl ++ R)) -> (∀ p ∈ yl ++ R, p.1 ≠ D) -> Q (.ref D) { s with heap := h, toks := tk })
    (hs : ∀ x, foldedSetIterable iter env x = pure x) :
    wpAny (model prog w) A (eval (.ListComp elt [⟨.Tuple elts kk tp, iter, ifs, 0⟩] scope pos) env) Q E s := by
  have hls : src.length = cs.length := by rw [hsrc.length]; simp
  refine own_compF F hclos hcell hkind hnames (hit ⟨D0, refsOf src, R, fun ys nw => ∃ yl, rel ys (cs.filterMap f) yl ∧ (∀ y ∈ yl, ∀ z ∈ R, y.1 ≠ z.1) ∧ nw = yl ++ R, rfl, hh, F, N, .inr ⟨_, _, hD, hDd⟩, by rw [refsOf, Llm, sizeLine_eq]; omega, hpy, fun gg => ?_, ?_⟩) hs
  · refine CR_ind (JG src enc f rel cs R) ?_ ?_ _ _ _ ⟨src, cs, [], [], rfl, hsrc, fun _ h => h, fun _ h => h, r0, rfl, (fun _ h => nomatch h), rfl⟩
    · intro v r ys nw hJ I oI C oC D mC h tk E' hC F1 N1 off ne
      refine hide fun GG kG => ?_
      obtain ⟨x, T, vs, out, yl, rfl, hx, hT, hf, hrel, hfr, rfl, k1, k2⟩ := hJ.next
      refine kG ?_
      have hvl : ns.length = vs.length := (hnv x hx).symm.trans hf.len.symm
      refine asg_block hh hE hkind hloc hvl F1 N1 hC off ne (Lar _ (hsub _ hT)) ?_
      intro h2 tk2 oC2 hC2 F2 N2
      exact gen_half k1 (fun _ => k2) (turn x hx T vs hT hf ys out yl hrel hfr { s with heap := h, toks := tk } rfl rfl rfl I oI C oC2 D mC h2 tk2 E' hC2 F2 N2 off ne)
    · exact fun _ _ h => h.fin
  · rintro ys nw D h tk ⟨yl, h1, h2, rfl⟩ F1 N1 off
    exact fin ys yl D h tk h1 h2 F1 N1 off
noncomputable def relT {β : Type} (enc : β -> List PyData) (ys : List Value) (out : List β) (yl : List (Addr × Obj)) : Prop := ys = refsOf yl ∧ TupsAre yl (out.map enc)
noncomputable def relF {β : Type} (enc : β -> PyData) (ys : List Value) (out : List β) (yl : List (Addr × Obj)) : Prop := FlatAll ys (out.map enc) ∧ yl = []
theorem FlatAll.app {vs vs' : List Value} {ds ds' : List PyData} (h : FlatAll vs ds) (h' : FlatAll vs' ds') : FlatAll (vs ++ vs') (ds ++ ds') := by
  induction h with
  | nil => exact h'
  | cons a _ ih => exact .cons a ih
theorem relT_next {β : Type} {enc : β -> List PyData} {ys : List Value} {out : List β} {yl : List (Addr × Obj)} {o : β} {T : Addr} {vs : List Value} (h : relT enc ys out yl) (hf : FlatAll vs (enc o)) : relT enc (ys ++ [.ref T]) (out ++ [o]) (yl ++ [(T, tupOf vs)]) := by
  obtain ⟨rfl, h2⟩ := h
  refine ⟨by simp [refsOf], ?_⟩
  rw [Lmp]
  exact h2.append (.cons hf .nil)
theorem relF_next {β : Type} {enc : β -> PyData} {ys : List Value} {out : List β} {yl : List (Addr × Obj)} {o : β} {v : Value} (h : relF enc ys out yl) (hf : Flat v (enc o)) : relF enc (ys ++ [v]) (out ++ [o]) yl := by
  obtain ⟨h1, h2⟩ := h
  refine ⟨?_, h2⟩
  rw [Lmp]
  exact h1.app (.cons hf .nil)
end
end
section
open PySem PySem.W PySem.Calls PyProof.Rows PyProof.V PySem.Spec PyProof.Rows.LCg
theorem FlatAll.reads {vs : List Value} {ds : List PyData} (h : FlatAll vs ds) (hp : Heap) : ReadsAll hp vs ds [] := by
  induction h with
  | nil => exact .nil
  | cons a _ ih => exact .cons (a hp) ih
theorem TupsAre.reads {hp : Heap} {tl : List (Addr × Obj)} {dss : List (List PyData)} (h : TupsAre tl dss) (hh : ∀ p ∈ tl, hp.get? p.1 = some p.2) : ∃ as, ReadsAll hp (refsOf tl) (dss.map .tuple) as := by
  induction h with
  | nil => exact ⟨_, .nil⟩
  | cons a _ ih =>
    obtain ⟨as, h1⟩ := ih fun p hp => hh p (.tail _ hp)
    exact ⟨_, .cons (reads_tuple_at (hh _ (.head _)) rfl rfl (by simpa using a.reads hp)) h1⟩
theorem canLayAll_of : ∀ {xs : List PyData}, (∀ x ∈ xs, x.canLay0 = true) -> PyData.canLayAll0 xs = true
  | [], _ => rfl
  | x :: xs, h => by
    rw [PyData.canLayAll0, h x (.head _), canLayAll_of fun y hy => h y (.tail _ hy)]; rfl
theorem depthAll_of {n : Nat} : ∀ {xs : List PyData}, (∀ x ∈ xs, x.depth ≤ n) -> PyData.depthAll xs ≤ n
  | [], _ => by simp [PyData.depthAll]
  | x :: xs, h => by
    have h1 := h x (.head _)
    have h2 := depthAll_of fun y hy => h y (.tail _ hy)
    simp only [PyData.depthAll]
    omega
theorem eqvAll_of : ∀ {xs : List PyData}, (∀ x ∈ xs, PyData.eqv x x = true) -> PyData.eqvAll xs xs = true
  | [], _ => by simp [PyData.eqvAll]
  | x :: xs, h => by
    simp only [PyData.eqvAll, h x (.head _), eqvAll_of fun y hy => h y (.tail _ hy), Bool.and_self]
noncomputable def ItemOk (x : PyData) : Prop := x.canLay0 = true ∧ x.depth ≤ 2 ∧ PyData.eqv x x = true
theorem itemOk_int (i : Int) : ItemOk (.int i) := ⟨rfl, by simp [PyData.depth], by simp [PyData.eqv]⟩
theorem itemOk_str (x : Str) (h : PyData.strOk x = true) : ItemOk (.str x) := ⟨h, by simp [PyData.depth], by simp [PyData.eqv]⟩
theorem itemOk_tup {xs : List PyData} (h : ∀ x ∈ xs, x.canLay0 = true ∧ x.depth ≤ 1 ∧ PyData.eqv x x = true) : ItemOk (.tuple xs) := by
  refine ⟨?_, ?_, ?_⟩
  · rw [PyData.canLay0]; exact canLayAll_of fun x hx => (h x hx).1
  · simp only [PyData.depth]
    have := depthAll_of (n := 1) fun x hx => (h x hx).2.1
    omega
  · simp only [PyData.eqv]; exact eqvAll_of fun x hx => (h x hx).2.2
section
variable {prog : Program} {w : World} {A : Around} {E : Value -> Shared -> Prop} {s : Shared}
theorem ne_same {a b : Addr} {xs : List PyData} {as bs : List Addr} {Q : Value -> Shared -> Prop} (ra : Reads s.heap (.ref a) (.list xs) as) (rb : Reads s.heap (.ref b) (.list xs) bs) (ok : ∀ x ∈ xs, ItemOk x) (hu : A.units + 64 < cLine)
    (h : Q (.bool false) s) : wpAny (model prog w) A (compareOp .NotEq (.ref a) (.ref b)) Q E s := by
  have hs : SeqAt.shaped (.list xs) = true := by
    unfold SeqAt.shaped
    have h1 : (PyData.list xs).canLay0 = true := by rw [PyData.canLay0]; exact canLayAll_of fun x hx => (ok x hx).1
    have h2 : (PyData.list xs).depth ≤ 64 := by
      simp only [PyData.depth]
      have := depthAll_of (n := 2) fun x hx => (ok x hx).2.1
      omega
    rw [h1, decide_eq_true h2]; rfl
  refine ne_dataH ra rb hs hs hu ?_
  have h3 : PyData.eqv (.list xs) (.list xs) = true := by simp only [PyData.eqv]; exact eqvAll_of fun x hx => (ok x hx).2.2
  rw [h3]
  exact h
theorem srcO_app {h₀ : Heap} {ax : Addr} {its : Array Value} {yl R : List (Addr × Obj)} (h : ∃ o n, (ax, o) ∈ R ∧ o.data = .seq its n) : SrcO h₀ ax its (yl ++ R) :=
  let ⟨o, n, h1, h2⟩ := h
  .inr ⟨o, n, Lar _ h1, h2⟩
theorem ce_newT {α β : Type} {h₀ h' : Heap} {L I C D Dn D0 : Addr} {m : Str -> Option Value} {oI oC : Obj} {mC : Str -> Option Value} {s₁ : Shared} {ys vs' : List Value} {yl R : List (Addr × Obj)} {out : List β} {x : α} {o : β} {f : α -> Option β} {enc : β -> List PyData} {its : Array Value} {tk : Nat}
    (hC : LCg.NsObj oC mC) (F : Fr h₀ L h' m) (N : News h₀ L h' ((Dn, tupOf vs') :: (I, oI) :: (C, oC) :: (D, LCg.lst ys) :: (yl ++ R))) (lt : ∀ p ∈ (I, oI) :: (C, oC) :: (D, LCg.lst ys) :: (yl ++ R), p.1 < Dn) (off : LCg.Off3 I C D (yl ++ R))
    (hrel : relT enc ys out yl) (hf : FlatAll vs' (enc o)) (ho : f x = some o) (hfr : ∀ y ∈ yl, ∀ z ∈ R, y.1 ≠ z.1) (hS : ∃ o n, (D0, o) ∈ R ∧ o.data = .seq its n) :
    CE h₀ L m s₁ I oI C D (LCg.lst ys) (SrcO h₀ D0 its) (fun y news' => ∃ o, f x = some o ∧ CT (relT enc) R ys out o y news') (.ref Dn) { s₁ with heap := h', toks := tk } := by
  refine ce_end ((yl ++ [(Dn, tupOf vs')]) ++ R) hC F (news_sub N (fun p hp => ?_)) (off3_new off (Ne.symm (Nnl (lt (I, oI) (.head _)))) (Ne.symm (Nnl (lt (C, oC) (.tail _ (.head _))))) (Ne.symm (Nnl (lt (D, LCg.lst ys) (.tail _ (.tail _ (.head _))))))) (srcO_app hS)
    ⟨o, ho, _, relT_next hrel hf, fun y hy z hz => ?_, rfl⟩
  · simp only [Lmc, Lma, Lnm, or_false] at hp ⊢
    rcases hp with h | h | h | (h | h) | h <;> simp [h]
  · rcases Lma.mp hy with hy | hy
    · exact hfr y hy z hz
    · rw [Lms.mp hy]
      exact Ne.symm (Nnl (lt z (.tail _ (.tail _ (.tail _ (Lar _ hz))))))
theorem ce_flat {α β : Type} {h₀ h' : Heap} {L I C D D0 : Addr} {m : Str -> Option Value} {oI oC : Obj} {mC : Str -> Option Value} {s₁ : Shared} {ys : List Value} {v : Value} {yl R : List (Addr × Obj)} {out : List β} {x : α} {o : β} {f : α -> Option β} {enc : β -> PyData} {its : Array Value} {tk : Nat}
    (hC : LCg.NsObj oC mC) (F : Fr h₀ L h' m) (N : News h₀ L h' ((I, oI) :: (C, oC) :: (D, LCg.lst ys) :: (yl ++ R))) (off : LCg.Off3 I C D (yl ++ R))
    (hrel : relF enc ys out yl) (hf : Flat v (enc o)) (ho : f x = some o) (hfr : ∀ y ∈ yl, ∀ z ∈ R, y.1 ≠ z.1) (hS : ∃ o n, (D0, o) ∈ R ∧ o.data = .seq its n) :
    CE h₀ L m s₁ I oI C D (LCg.lst ys) (SrcO h₀ D0 its) (fun y news' => ∃ o, f x = some o ∧ CT (relF enc) R ys out o y news') v { s₁ with heap := h', toks := tk } :=
  ce_end (yl ++ R) hC F N off (srcO_app hS) ⟨o, ho, yl, relF_next hrel hf, hfr, rfl⟩
theorem ce_skip {α β : Type} {h₀ h' : Heap} {L I C D D0 : Addr} {m : Str -> Option Value} {oI oC : Obj} {mC : Str -> Option Value} {s₁ : Shared} {ys : List Value} {v : Value} {yl R : List (Addr × Obj)} {x : α} {f : α -> Option β} {its : Array Value} {tk : Nat}
    (hC : LCg.NsObj oC mC) (F : Fr h₀ L h' m) (N : News h₀ L h' ((I, oI) :: (C, oC) :: (D, LCg.lst ys) :: (yl ++ R))) (off : LCg.Off3 I C D (yl ++ R)) (ho : f x = none) (hS : ∃ o n, (D0, o) ∈ R ∧ o.data = .seq its n) :
    CE h₀ L m s₁ I oI C D (LCg.lst ys) (SrcO h₀ D0 its) (fun _ news' => f x = none ∧ news' = yl ++ R) v { s₁ with heap := h', toks := tk } :=
  ce_end (yl ++ R) hC F N off (srcO_app hS) ⟨ho, rfl⟩
end
end
section
open PySem PySem.W PySem.Calls PyProof.Rows PyProof.V PySem.Spec PyProof.Rows.LCg
section
variable {M : Model} {A : Around} {E : Value -> Shared -> Prop} {s : Shared} {h₀ : Heap} {L : Addr} {m : Str -> Option Value} {news : List (Addr × Obj)}
theorem led_cell {env : Env} {name : Str} {c : Addr} {o : Obj} {v₀ : Option Value} {v : Value} {Q : Unit -> Shared -> Prop} (hk : env.scope.kind = .function) (hl : env.kindOf name = some .cell) (hc : env.cells.lookup name = some c)
    (F : Fr h₀ L s.heap m) (N : News h₀ L s.heap news) (hm : (c, o) ∈ news) (hd : o.data = .cell v₀)
    (h : ∀ h' o', Fr h₀ L h' m -> Others h₀ L [c] s.heap h' -> News h₀ L h' [(c, o')] -> o'.data = .cell (some v) -> Q () { s with heap := h' }) : wpAny M A (storeName env name v) Q E s := by
  have hD := N _ hm
  refine wpAny_storeName_cell hk hl hc ⟨o, hD.1, hd⟩ fun h' hi hs' => ?_
  obtain ⟨o', ho', hd'⟩ := hi
  refine h h' o' (F.change hs' hD.2.1 hD.2.2) (fun n2 N2 off p hp => ⟨hs'.extBut _ _ (fun e => off p hp (by rw [e]; exact .head _)) (N2 p hp).1, (N2 p hp).2⟩) (fun p hp => ?_) hd'
  rw [Lms.mp hp]
  exact ⟨ho', hD.2⟩
end
end
section
open PySem PySem.W PySem.Calls PyProof.Rows PyProof.V PySem.Spec PyProof.Rows.LCg
noncomputable def SrcT (ax : Addr) (its : List Value) (news : List (Addr × Obj)) : Prop := (ax, tupOf its) ∈ news
section
variable {prog : Program} {w : World} {A : Around} {E : Value -> Shared -> Prop} {s : Shared} {h₀ : Heap} {L : Addr} {m : Str -> Option Value} {env : Env}
theorem own_compT {elt target iter : Expr} {ifs : List Expr} {scope : Scope} {cl : List (Str × Addr)} {pos : Pos} {Q : Value -> Shared -> Prop}
    (hclos : closureFor scope env = pure cl) (hcell : ∀ y ∈ scope.names, y.2 ≠ .cell) (hkind : scope.kind = .function)
    (hnames : ∀ y ∈ scope.names, y.2 = .local -> scope.names.lookup y.1 = some .local)
    (h : wpAny (model prog w) A (eval iter env) (fun xv s₁ => ∃ ax its news Fin, xv = .ref ax ∧ A.handled = none ∧ Fr h₀ L s₁.heap m ∧ News h₀ L s₁.heap news ∧ SrcT ax its news ∧ its.length ≤ sizeLine ∧
      (∀ g, CR prog w A h₀ L m env target elt ifs scope cl { s₁ with heap := g } (SrcT ax its) Fin its [] news) ∧
      (∀ ys news' D h tk, Fin ys news' -> Fr h₀ L h m -> News h₀ L h ((D, lst ys) :: news') -> (∀ p ∈ news', p.1 ≠ D) -> Q (.ref D) { s₁ with heap := h, toks := tk })) E s)
    (hs : ∀ x, foldedSetIterable iter env x = pure x) :
    wpAny (model prog w) A (eval (.ListComp elt [⟨target, iter, ifs, 0⟩] scope pos) env) Q E s := by
  rw [eval_ListComp]
  refine wpAny_comprehension_free (use := none) rfl hs hclos hkind hnames (wpAny_mono h (fun xv s₁ h₁ => ?_) fun _ _ e => e)
  refine el4 h₁ fun ax its news Fin zz => ?_
  rw [zz.1]
  have F := zz.2.2.1
  have N := zz.2.2.2.1
  have S := zz.2.2.2.2.1
  have tup : ∀ {g : Heap} {nw : List (Addr × Obj)}, News h₀ L g nw -> SrcT ax its nw -> g.IsTuple ax its.toArray := fun N S => ⟨_, (N _ S).1, rfl, _, rfl⟩
  refine wpAny_pyIter_tuple (tup N S) ?_
  have up : ∀ b o, s₁.heap.get? b = some o -> (s₁.heap.push { cls := .type "tuple_iterator", data := .fields #[.ref ax, .int 0 0] }).get? b = some o := fun b o e => Heap.get?_push_of_some _ e
  have hlt : ax < s₁.heap.objs.size := Hls (N _ S).1
  have W := Walks.tuple (prog := prog) (w := w) zz.2.1 s₁.heap.objs.size ax (Nnl hlt) its.toArray
  rw [Lst] at W
  refine own_block (xs := its) (fp := [s₁.heap.objs.size, ax]) (St := fun i h => h.IsTupleIter s₁.heap.objs.size ax i ∧ h.IsTuple ax its.toArray) (S := SrcT ax its) (Fin := Fin) (by simpa using W) (fun i v s Q E st q => letGo_tupleiter st.1 q) zz.2.2.2.2.2.1 (fun i h st => by obtain ⟨o, e, _⟩ := st.1; exact ⟨o, e⟩)
    (fun i h h' o nw st e e' k N S => ⟨by obtain ⟨o', q, r⟩ := st.1; rw [e] at q; cases q; exact ⟨o, e', r⟩, tup N S⟩) hcell hkind ⟨⟨_, Heap.get?_push_size _ rfl, rfl, rfl⟩, (tup N S).at fun o e => up _ o e⟩ (fun b hb => ?_)
    (F.keeps up) (N.grown up) (Nnl F.ns.lt) (next_is_new F) (fun p hp => Nnl (Hls (N p hp).1)) S (zz.2.2.2.2.2.2.1 _) ?_
  · show b < (s₁.heap.push _).objs.size
    rw [Heap.size_push]
    exact faCons (P := fun b => b < s₁.heap.objs.size + 1) (Nls _) (faCons (Nat.lt_succ_of_lt hlt) faNil) b hb
  · intro D C h tk m' ys news' F' N' o1 hn hC₀ hD₀ hCL hDL hCD offC fin
    refine ⟨m', hn, fun h'' hs'' => zz.2.2.2.2.2.2.2 ys news' D h'' tk fin (F'.change hs'' hCL hC₀) (fun p hp => ⟨hs''.extBut _ _ (faCons (P := fun p => p.1 ≠ C) (Ne.symm hCD) offC p hp) (N' p hp).1, (N' p hp).2⟩) o1⟩
end
end
section
open PySem PySem.W PySem.Calls PyProof.Rows PyProof.V PySem.Spec PyProof.Rows.LCg
section
variable {prog : Program} {w : World} {A : Around} {E : Value -> Shared -> Prop} {s : Shared} {h₀ : Heap} {L : Addr} {m : Str -> Option Value} {env : Env}
theorem comp_genN {α β : Type} {elt iter : Expr} {ifs : List Expr} {scope : Scope} {cl : List (Str × Addr)} {pos : Pos} {Q : Value -> Shared -> Prop} {x0 : Str} {px : Pos}
    {D0 : Addr} {oD0 : Obj} {n0 : Nat} {src R : List (Addr × Obj)} (enc : α -> List PyData) (f : α -> Option β) (rel : List Value -> List β -> List (Addr × Obj) -> Prop) (cs : List α)
    (F : Fr h₀ L s.heap m) (N : News h₀ L s.heap R) (hD : (D0, oD0) ∈ R) (hDd : oD0.data = .seq (refsOf src).toArray n0) (hsrc : TupsAre src (cs.map enc)) (hsub : ∀ p ∈ src, p ∈ R) (hsz : src.length ≤ 10000)
    (hh : A.handled = none) (hclos : closureFor scope env = pure cl) (hcell : ∀ y ∈ scope.names, y.2 ≠ .cell) (hkind : scope.kind = .function)
    (hnames : ∀ y ∈ scope.names, y.2 = .local -> scope.names.lookup y.1 = some .local)
    (hloc : scope.names.lookup x0 = some .local)
    (hit : ∀ {Q' : Value -> Shared -> Prop}, Q' (.ref D0) s -> wpAny (model prog w) A (eval iter env) Q' E s)
    (hpy : ∀ {Q' : Value -> Shared -> Prop}, Q' (.ref s.heap.objs.size) { s with heap := s.heap.push { cls := .type "list_iterator", data := .fields #[.ref D0, .int 0 0] } } -> wpAny (model prog w) A (pyIter (.ref D0)) Q' E s)
    (r0 : rel [] [] [])
    (turn : ∀ x ∈ cs, ∀ T vs, (T, tupOf vs) ∈ src -> FlatAll vs (enc x) -> ∀ ys out yl, rel ys out yl -> (∀ y ∈ yl, ∀ z ∈ R, y.1 ≠ z.1) -> ∀ s₁ : Shared, s₁.gens = s.gens -> s₁.os = s.os -> s₁.drawn = s.drawn -> ∀ I oI C oC D (mC : Str -> Option Value) h tk (E' : Value -> Shared -> Prop), NsObj oC (fun z => if z = x0 then some (.ref T) else mC z) -> Fr h₀ L h m -> News h₀ L h ((I, oI) :: (C, oC) :: (D, lst ys) :: (yl ++ R)) -> Off3 I C D (yl ++ R) -> ((@Ne Nat I C) ∧ (@Ne Nat I D) ∧ (@Ne Nat C D)) ->
      wpAny (model prog w) A (forIn ifs true fun c r => if r = true then do let ok ← isTrue c (compEnvC scope cl C env) (eval c (compEnvC scope cl C env)); pure (ForInStep.yield ok) else pure (ForInStep.yield r)) (fun ok s'' =>
          if ok = true then wpAny (model prog w) A (eval elt (compEnvC scope cl C env)) (CE h₀ L m s₁ I oI C D (lst ys) (SrcO h₀ D0 (refsOf src).toArray) (fun y news' => ∃ o, f x = some o ∧ CT rel R ys out o y news')) E' s''
          else CE h₀ L m s₁ I oI C D (lst ys) (SrcO h₀ D0 (refsOf src).toArray) (fun _ news' => f x = none ∧ news' = yl ++ R) Value.none s'') E' { s₁ with heap := h, toks := tk })
    (fin : ∀ ys yl D h tk, rel ys (cs.filterMap f) yl -> (∀ y ∈ yl, ∀ z ∈ R, y.1 ≠ z.1) -> Fr h₀ L h m -> News h₀ L h ((D, lst ys) :: (yl ++ R)) -> (∀ p ∈ yl ++ R, p.1 ≠ D) -> Q (.ref D) { s with heap := h, toks := tk })
    (hs : ∀ x, foldedSetIterable iter env x = pure x) :
    wpAny (model prog w) A (eval (.ListComp elt [⟨.Name x0 px, iter, ifs, 0⟩] scope pos) env) Q E s := by
  have hls : src.length = cs.length := by rw [hsrc.length]; simp
  refine own_compF F hclos hcell hkind hnames (hit ⟨D0, refsOf src, R, fun ys nw => ∃ yl, rel ys (cs.filterMap f) yl ∧ (∀ y ∈ yl, ∀ z ∈ R, y.1 ≠ z.1) ∧ nw = yl ++ R, rfl, hh, F, N, .inr ⟨_, _, hD, hDd⟩, by rw [refsOf, Llm, sizeLine_eq]; omega, hpy, fun gg => ?_, ?_⟩) hs
  · refine CR_ind (JG src enc f rel cs R) ?_ ?_ _ _ _ ⟨src, cs, [], [], rfl, hsrc, fun _ h => h, fun _ h => h, r0, rfl, (fun _ h => nomatch h), rfl⟩
    · intro v r ys nw hJ I oI C oC D mC h tk E' hC F1 N1 off ne
      refine hide fun GG kG => ?_
      obtain ⟨x, T, vs, out, yl, rfl, hx, hT, hf, hrel, hfr, rfl, k1, k2⟩ := hJ.next
      refine kG ?_
      refine asg_one hkind hloc F1 N1 hC off ne ?_
      intro h2 tk2 oC2 hC2 F2 N2
      exact gen_half k1 (fun _ => k2) (turn x hx T vs hT hf ys out yl hrel hfr { s with heap := h, toks := tk } rfl rfl rfl I oI C oC2 D mC h2 tk2 E' hC2 F2 N2 off ne)
    · exact fun _ _ h => h.fin
  · rintro ys nw D h tk ⟨yl, h1, h2, rfl⟩ F1 N1 off
    exact fin ys yl D h tk h1 h2 F1 N1 off
end
end
section
open PySem PySem.W PySem.Calls PyProof.Rows PyProof.V PySem.Spec PyProof.Rows.LCg
section
variable {prog : Program} {w : World} {A : Around} {E : Value -> Shared -> Prop} {R : Result -> Shared -> Prop} {s : Shared} {h₀ : Heap} {L : Addr} {m : Str -> Option Value} {env : Env}
theorem own_compA {elt target iter : Expr} {ifs : List Expr} {scope : Scope} {cl : List (Str × Addr)} {pos spos : Pos} {y : Str} {py : Pos} {Q : Flow -> Shared -> Prop}
    (hsw : swapsWith (.ListComp elt [⟨target, iter, ifs, 0⟩] scope pos) (some (.Name y py)) spos.line env = pure true) (hy : env.kindOf y = some .local) (hp : (env.scope.kind == .class || (env.scope.kind == .module && env.locals != env.globals)) = false) (hL : env.locals = L)
    (hclos : closureFor scope env = pure cl) (hcell : ∀ y ∈ scope.names, y.2 ≠ .cell) (hkind : scope.kind = .function)
    (hnames : ∀ y ∈ scope.names, y.2 = .local -> scope.names.lookup y.1 = some .local)
    (h : wpAny (model prog w) A (eval iter env) (fun xv s₁ => ∃ ax its news Fin, xv = .ref ax ∧ A.handled = none ∧ Fr h₀ L s₁.heap m ∧ News h₀ L s₁.heap news ∧ SrcO h₀ ax its.toArray news ∧ its.length ≤ sizeLine ∧
      (∀ {Q' : Value -> Shared -> Prop}, Q' (.ref s₁.heap.objs.size) { s₁ with heap := s₁.heap.push { cls := .type "list_iterator", data := .fields #[.ref ax, .int 0 0] } } -> wpAny (model prog w) A (pyIter (.ref ax)) Q' E s₁) ∧
      (∀ g, CR prog w A h₀ L m env target elt ifs scope cl { s₁ with heap := g } (SrcO h₀ ax its.toArray) Fin its [] news) ∧
      (∀ ys news' D h tk, Fin ys news' -> Fr h₀ L h (fun z => if z = y then some (.ref D) else m z) -> News h₀ L h ((D, lst ys) :: news') -> (∀ p ∈ news', p.1 ≠ D) -> Q .next { s₁ with heap := h, toks := tk })) E s)
    (hs : ∀ x, foldedSetIterable iter env x = pure x) :
    wpAny (model prog w) A (exec (.Assign [.Name y py] (.ListComp elt [⟨target, iter, ifs, 0⟩] scope pos) spos) env) Q E s := by
  subst hL
  rw [exec_Assign_Name_used _ _ _ _ hsw]
  refine wpAny_bind (wpAny_standAt (wpAny_bind ?_))
  show wpAny _ A (do let _ ← comprehension (.ListComp elt [⟨target, iter, ifs, 0⟩] scope pos) scope env _ (newList []) false (eval iter env) (some (assign (.Name y py) env))) _ _ s
  refine wpAny_bind (wpAny_mono (wpAny_comprehension_free (use := some (assign (.Name y py) env)) (Q := fun _ s' => Q .next s') rfl hs hclos hkind hnames
    (wpAny_mono h (fun xv s₁ h₁ => ?_) fun _ _ e => e)) (fun _ s' hq => wpAny_pure (wpAny_pure hq)) fun _ _ e => e)
  refine el4 h₁ fun ax its news Fin zz => ?_
  rw [zz.1]
  have F := zz.2.2.1
  have N := zz.2.2.2.1
  have S := zz.2.2.2.2.1
  refine zz.2.2.2.2.2.2.1 ?_
  have up : ∀ b o, s₁.heap.get? b = some o -> (s₁.heap.push { cls := .type "list_iterator", data := .fields #[.ref ax, .int 0 0] }).get? b = some o := fun b o e => Heap.get?_push_of_some _ e
  have hl := S.seq F.keep N
  have hlt : ax < s₁.heap.objs.size := by obtain ⟨_, _, e, _⟩ := hl; exact Hls e
  have W := walks_seq (prog := prog) (w := w) zz.2.1 s₁.heap.objs.size ax (Nnl hlt) its.toArray
  rw [Lst] at W
  refine own_block (xs := its) (fp := [s₁.heap.objs.size, ax]) (St := fun i h => h.IsListIter s₁.heap.objs.size ax i ∧ SeqAt h ax its.toArray) (S := SrcO h₀ ax its.toArray) (Fin := Fin) (by simpa using W) (fun i v s Q E st q => letGo_listiter st.1 q) zz.2.2.2.2.2.1 (fun i h st => by obtain ⟨o, e, _⟩ := st.1; exact ⟨o, e⟩)
    (fun i h h' o nw st e e' k N S => ⟨by obtain ⟨o', q, r⟩ := st.1; rw [e] at q; cases q; exact ⟨o, e', r⟩, S.seq k N⟩) hcell hkind ⟨⟨_, Heap.get?_push_size _ rfl, rfl, rfl⟩, hl.at fun o e => up _ o e⟩ (fun b hb => ?_)
    (F.keeps up) (N.grown up) (Nnl F.ns.lt) (next_is_new F) (fun p hp => Nnl (Hls (N p hp).1)) S (zz.2.2.2.2.2.2.2.1 _) ?_
  · show b < (s₁.heap.push _).objs.size
    rw [Heap.size_push]
    exact faCons (P := fun b => b < s₁.heap.objs.size + 1) (Nls _) (faCons (Nat.lt_succ_of_lt hlt) faNil) b hb
  · intro D C h tk m' ys news' F' N' o1 hn hC₀ hD₀ hCL hDL hCD offC fin
    show wpAny _ A (assign (.Name y py) env (.ref D)) _ _ _
    refine wpAny_assign_Name (wpAny_storeName_local hy F'.ns (fun h₂ hn₂ hs₂ => ?_) hp)
    refine ⟨m', hn.sameBut hs₂ hCL, fun h₃ hs₃ => ?_⟩
    have F2 : Fr h₀ env.locals h₂ (fun z => if z = y then some (.ref D) else m z) := ⟨hn₂, fun b o e => hs₂.extBut b o (fun e' => by
      rw [e'] at e
      exact absurd (Hls e) (Nat.not_lt.mpr F'.above)) (F'.keep b o e), F'.above⟩
    refine zz.2.2.2.2.2.2.2.2 ys news' D h₃ _ fin (F2.change hs₃ hCL hC₀) (fun p hp => ?_) o1
    exact ⟨hs₃.extBut _ _ (faCons (P := fun p => p.1 ≠ C) (Ne.symm hCD) offC p hp) (hs₂.extBut _ _ (N' p hp).2.1 (N' p hp).1), (N' p hp).2⟩
theorem comp_genA {α β : Type} {elt iter : Expr} {elts : List Expr} {kk : Nat} {tp : Pos} {ifs : List Expr} {scope : Scope} {cl : List (Str × Addr)} {pos spos : Pos} {y0 : Str} {py0 : Pos} {Q : Flow -> Shared -> Prop} {ns : List (Str × Pos)}
    {D0 : Addr} {oD0 : Obj} {n0 : Nat} {src R : List (Addr × Obj)} (enc : α -> List PyData) (f : α -> Option β) (rel : List Value -> List β -> List (Addr × Obj) -> Prop) (cs : List α)
    (F : Fr h₀ L s.heap m) (N : News h₀ L s.heap R) (hD : (D0, oD0) ∈ R) (hDd : oD0.data = .seq (refsOf src).toArray n0) (hsrc : TupsAre src (cs.map enc)) (hsub : ∀ p ∈ src, p ∈ R) (hsz : src.length ≤ 10000)
    (hsw : swapsWith (.ListComp elt [⟨.Tuple elts kk tp, iter, ifs, 0⟩] scope pos) (some (.Name y0 py0)) spos.line env = pure true) (hy0 : env.kindOf y0 = some .local) (hp0 : (env.scope.kind == .class || (env.scope.kind == .module && env.locals != env.globals)) = false) (hL0 : env.locals = L)
    (hh : A.handled = none) (hclos : closureFor scope env = pure cl) (hcell : ∀ y ∈ scope.names, y.2 ≠ .cell) (hkind : scope.kind = .function)
    (hnames : ∀ y ∈ scope.names, y.2 = .local -> scope.names.lookup y.1 = some .local)
    (hE : elts = ns.map fun n => Expr.Name n.1 n.2) (hloc : ∀ n ∈ ns, scope.names.lookup n.1 = some .local) (hnv : ∀ x ∈ cs, (enc x).length = ns.length)
    (hit : ∀ {Q' : Value -> Shared -> Prop}, Q' (.ref D0) s -> wpAny (model prog w) A (eval iter env) Q' E s)
    (hpy : ∀ {Q' : Value -> Shared -> Prop}, Q' (.ref s.heap.objs.size) { s with heap := s.heap.push { cls := .type "list_iterator", data := .fields #[.ref D0, .int 0 0] } } -> wpAny (model prog w) A (pyIter (.ref D0)) Q' E s)
    (r0 : rel [] [] [])
    (turn : ∀ x ∈ cs, ∀ T vs, (T, tupOf vs) ∈ src -> FlatAll vs (enc x) -> ∀ ys out yl, rel ys out yl -> (∀ y ∈ yl, ∀ z ∈ R, y.1 ≠ z.1) -> ∀ s₁ : Shared, s₁.gens = s.gens -> s₁.os = s.os -> s₁.drawn = s.drawn -> ∀ I oI C oC D mC h tk (E' : Value -> Shared -> Prop), NsObj oC (updL (ns.map (·.1)) vs mC) -> Fr h₀ L h m -> News h₀ L h ((I, oI) :: (C, oC) :: (D, lst ys) :: (yl ++ R)) -> Off3 I C D (yl ++ R) -> ((@Ne Nat I C) ∧ (@Ne Nat I D) ∧ (@Ne Nat C D)) ->
      wpAny (model prog w) A (forIn ifs true fun c r => if r = true then do let ok ← isTrue c (compEnvC scope cl C env) (eval c (compEnvC scope cl C env)); pure (ForInStep.yield ok) else pure (ForInStep.yield r)) (fun ok s'' =>
          if ok = true then wpAny (model prog w) A (eval elt (compEnvC scope cl C env)) (CE h₀ L m s₁ I oI C D (lst ys) (SrcO h₀ D0 (refsOf src).toArray) (fun y news' => ∃ o, f x = some o ∧ CT rel R ys out o y news')) E' s''
          else CE h₀ L m s₁ I oI C D (lst ys) (SrcO h₀ D0 (refsOf src).toArray) (fun _ news' => f x = none ∧ news' = yl ++ R) Value.none s'') E' { s₁ with heap := h, toks := tk })
    (fin : ∀ ys yl D h tk, rel ys (cs.filterMap f) yl -> (∀ y ∈ yl, ∀ z ∈ R, y.1 ≠ z.1) -> Fr h₀ L h (fun z => if z = y0 then some (.ref D) else m z) -> News h₀ L h ((D, lst ys) :: (yl ++ R)) -> (∀ p ∈ yl ++ R, p.1 ≠ D) -> Q .next { s with heap := h, toks := tk })
    (hs : ∀ x, foldedSetIterable iter env x = pure x) :
    wpAny (model prog w) A (exec (.Assign [.Name y0 py0] (.ListComp elt [⟨.Tuple elts kk tp, iter, ifs, 0⟩] scope pos) spos) env) Q E s := by
  have hls : src.length = cs.length := by rw [hsrc.length]; simp
  refine own_compA hsw hy0 hp0 hL0 hclos hcell hkind hnames (hit ⟨D0, refsOf src, R, fun ys nw => ∃ yl, rel ys (cs.filterMap f) yl ∧ (∀ y ∈ yl, ∀ z ∈ R, y.1 ≠ z.1) ∧ nw = yl ++ R, rfl, hh, F, N, .inr ⟨_, _, hD, hDd⟩, by rw [refsOf, Llm, sizeLine_eq]; omega, hpy, fun gg => ?_, ?_⟩) hs
  · refine CR_ind (JG src enc f rel cs R) ?_ ?_ _ _ _ ⟨src, cs, [], [], rfl, hsrc, fun _ h => h, fun _ h => h, r0, rfl, (fun _ h => nomatch h), rfl⟩
    · intro v r ys nw hJ I oI C oC D mC h tk E' hC F1 N1 off ne
      refine hide fun GG kG => ?_
      obtain ⟨x, T, vs, out, yl, rfl, hx, hT, hf, hrel, hfr, rfl, k1, k2⟩ := hJ.next
      refine kG ?_
      have hvl : ns.length = vs.length := (hnv x hx).symm.trans hf.len.symm
      refine asg_block hh hE hkind hloc hvl F1 N1 hC off ne (Lar _ (hsub _ hT)) ?_
      intro h2 tk2 oC2 hC2 F2 N2
      exact gen_half k1 (fun _ => k2) (turn x hx T vs hT hf ys out yl hrel hfr { s with heap := h, toks := tk } rfl rfl rfl I oI C oC2 D mC h2 tk2 E' hC2 F2 N2 off ne)
    · exact fun _ _ h => h.fin
  · rintro ys nw D h tk ⟨yl, h1, h2, rfl⟩ F1 N1 off
    exact fin ys yl D h tk h1 h2 F1 N1 off
end
end
section
theorem rs_C5 : True := by
  w_top off
  trivial
local macro_rules | `(tactic| k_ne) => `(tactic| ktu_offL)
local macro_rules | `(tactic| walk_at "binaryOp Mult ref int") => `(tactic| (k_here; (with_reducible show wpAny _ _ (binaryOp Operator.Mult (Value.ref _) (Value.int _ _)) _ _ _); (rename Fr _ _ _ _ => lF'); (rename News _ _ _ _ => lN'); (refine rep_list lF' lN' (by is_list) (by w_by_seal) (by w_by_seal) ?_); intro D' h' F' N' l1; (try k_lt l1)))
section
theorem pull2 {a b c d : Addr × Obj} {l : List (Addr × Obj)} {h₀ h : Heap} {L : Addr} (N : News h₀ L h (a :: b :: c :: d :: l)) : News h₀ L h (c :: a :: b :: l) := news_sub N fun p hp => by
  simp only [Lmc] at hp ⊢
  rcases hp with h | h | h | h <;> simp [h]
theorem pull1 {a c d : Addr × Obj} {l : List (Addr × Obj)} {h₀ h : Heap} {L : Addr} (N : News h₀ L h (a :: c :: d :: l)) : News h₀ L h (c :: a :: l) := news_sub N fun p hp => by
  simp only [Lmc] at hp ⊢
  rcases hp with h | h | h <;> simp [h]
theorem news3 {p q r : Addr × Obj} {l : List (Addr × Obj)} {h₀ h : Heap} {L : Addr} (N : News h₀ L h l) (h1 : p ∈ l) (h2 : q ∈ l) (h3 : r ∈ l) : News h₀ L h [p, q, r] := fun x hx => by
  simp only [Lmc, Lnm, or_false] at hx
  rcases hx with rfl | rfl | rfl
  · exact N _ h1
  · exact N _ h2
  · exact N _ h3
noncomputable def Held (p : Prop) : Prop := p
noncomputable def digs (X n k : Nat) : List Int := (List.range k).map fun i => ((X / 2 ^ (n * i) % 2 ^ n : Nat) : Int)
theorem digs_of {ds : List Int} {X n k : Nat} (h1 : ds.length = k) (h2 : ∀ i, i < k -> ds.getD i 0 = ((X / 2 ^ (n * i) % 2 ^ n : Nat) : Int)) : ds = digs X n k := by
  apply List.ext_getElem?
  intro i
  unfold digs
  by_cases hi : i < k
  · have := h2 i hi
    rw [List.getD_eq_getElem?_getD, List.getElem?_eq_getElem (by omega)] at this
    rw [List.getElem?_eq_getElem (by omega), List.getElem?_eq_getElem (by simpa using hi)]
    simp only [List.getElem_map, List.getElem_range]
    exact congrArg some this
  · rw [List.getElem?_eq_none (by omega), List.getElem?_eq_none (by simpa using hi)]
noncomputable abbrev qI2d : Str := Zs "_int2digits.<locals>.inner"
noncomputable def numDigs (X n : Nat) : Nat := (Builtin.Int.intBits (X : Int) + n - 1) / n
theorem numDigs_lt {X n : Nat} (hn : 1 ≤ n) : X < 2 ^ (n * numDigs X n) := by
  have h1 : X < 2 ^ (Builtin.Int.intBits (X : Int)) := by
    unfold Builtin.Int.intBits
    split
    · rename_i h0
      have : X = 0 := by
        rcases Nat.eq_zero_or_pos X with h | h
        · exact h
        · exfalso; have h0' : (X == 0) = true := by first | exact h0 | simpa using h0
          simp at h0'; omega
      rw [this]; exact Nat.two_pow_pos _
    · exact Nat.lt_log2_self
  refine Nat.lt_of_lt_of_le h1 (Nat.pow_le_pow_right (by decide) ?_)
  unfold numDigs
  have := Nat.div_add_mod (Builtin.Int.intBits (X : Int) + n - 1) n
  have h2 := Nat.mod_lt (Builtin.Int.intBits (X : Int) + n - 1) (show 0 < n by omega)
  omega
theorem numDigs_pos {X n : Nat} (hn : 1 ≤ n) (hX : X ≠ 0) : 1 ≤ numDigs X n := by
  rcases Nat.eq_zero_or_pos (numDigs X n) with h | h
  · have := numDigs_lt (X := X) hn
    rw [h] at this; simp at this; omega
  · exact h
theorem numDigs_zero {n : Nat} (hn : 1 ≤ n) : numDigs 0 n = 0 := by
  unfold numDigs
  show (0 + n - 1) / n = 0
  exact Nat.div_eq_of_lt (by omega)
theorem numDigs_int {X n : Nat} (hn : 1 ≤ n) : ((Builtin.Int.intBits (X : Int) : Int) + (n : Int) - 1).fdiv (n : Int) = (numDigs X n : Int) := by
  rw [Int.fdiv_eq_ediv_of_nonneg _ (by omega)]
  unfold numDigs
  rw [Int.natCast_ediv]
  congr 1
  omega
theorem ints_rep (t : Tok) : ∀ k : Nat, IntsAre (List.replicate k (.int 0 t)) (List.replicate k 0)
  | 0 => .nil
  | k + 1 => .cons _ _ (ints_rep t k)
theorem is_of {l : Addr} {vs : List Value} {e : Nat} {h h₀ : Heap} {L : Addr} {news : List (Addr × Obj)} (N : News h₀ L h news) (hm : (l, Wl vs.toArray e) ∈ news) : h.IsList l vs.toArray := ⟨_, (N _ hm).1, rfl, _, rfl⟩
theorem c_i2d (cx : Cx w (j + 9) dp un A₀ env outer base h₀ L) (F : Fr h₀ L s.heap m) (X n : Nat) (ta tn : Tok) (hn0 : 4 ≤ n ∧ n < 400) (hlen1 : numDigs X n ≤ 128)
    {st : List (Addr × Obj)} (O : News h₀ L s.heap st) (hst : NestTab 79 84 4 qI2d st)
    (hQ : ∀ D h' tk vs e st', IntsAre vs (digs X n (numDigs X n)) -> NestTab 79 84 4 qI2d st' -> Fr h₀ L h' m -> News h₀ L h' ((D, Wl vs.toArray e) :: st') -> Others h₀ L (st.map (·.1)) s.heap h' -> (∀ n2, News h₀ L s.heap n2 -> (∀ q ∈ n2, q.1 ∉ st.map (·.1)) -> ∀ q ∈ n2, ∀ r ∈ (D, Wl vs.toArray e) :: st', q.1 ≠ r.1) -> Q (.ref D) { s with heap := h', toks := tk }) :
    wpAny (model RWQ.row.prog w) (AA dp un env outer) (call (.ref 84) [.int (X : Int) ta, .int (n : Int) tn] []) Q E s := by
  revert cx F hn0 hlen1 O hst hQ
  revert w j dp un A₀ env outer base h₀ L m s Q E X n ta tn st
  apply frz19; case n => walk_at "FZN"
  intro w j dp un A₀ env outer base h₀ L m s Q E X n ta tn st
  clear_value w j dp un A₀ env outer base h₀ L m s Q E X n ta tn st
  intro cx F hn0 hlen1 O hst hQ
  have hlen0 : 0 ≤ ((Builtin.Int.intBits (X : Int) : Int) + (n : Int) - 1).fdiv (n : Int) := by rw [numDigs_int (by omega)]; omega
  have hlen2 : ((Builtin.Int.intBits (X : Int) : Int) + (n : Int) - 1).fdiv (n : Int) ≤ 200 := by rw [numDigs_int (by omega)]; omega
  have ha : (0 : Int) ≤ (X : Int) := by omega
  have hn' : 4 ≤ (n : Int) ∧ (n : Int) < 400 := by omega
  have hkeep : Held ((4 ≤ n ∧ n < 400) ∧ numDigs X n ≤ 128) := ⟨hn0, hlen1⟩
  clear hn0 hlen1
  ((refine wpAny_call ?_; (rename Fr _ _ _ _ => eF); (rename Cx _ _ _ _ _ _ _ _ _ _ => eC); (refine' enterC eC eF (by assumption) ?k6 ?k7 ?k9 ?kB ?kD ?_ ?c2 ?c3 ?c4); (case k6 => k_is); (case k7 => k_is); (case k9 => first | exact BindsTo.of_eq rfl | exact binds_K (by k_in) rfl (by k_is) rfl rfl rfl); (case kB => exact rfl); (case kD => decide +kernel); (case c2 => exact rfl); (case c3 => exact rfl); (case c4 => exact rfl)))
  apply frz10; case n => walk_at "FZN"
  intro dp' un' outer' A' Q' g L1 h1 tk1 cells1
  clear_value dp' un' outer' A' Q' g L1 h1 tk1 cells1
  intro FG hg F1 N1 Y1 cx1 l1 LT1
  have X1 := cx1.X
  have B1 := cx1.B
  have hf1 := cx1.f
  have hke1 := cx1.k
  have hdp1 := cx1.d
  have hun1 := cx1.u
  obtain ⟨p1, loose1, mean1, mg1, mb1, T1⟩ := cx1.T
  k_cells Y1
  (try simp only [Lca, Lna] at N1)
  (((try dsimp only); (try k_fold)))
  have hst1 : ∀ q ∈ st, q.1 ≠ L1 + 1 := fun q hq => Nnl (Nltt (l1 q hq) (Nls _))
  have hst2 : ∀ q ∈ st, q.1 ≠ L1 + 1 + 1 := fun q hq => Nnl (Nltt (l1 q hq) (Nltt (Nls _) (Nls _)))
  have hcd : CodeHd g 83 79 := codeHd_of_K X1 (by kernel_rfl)
  repeat ((fail_if_success (with_reducible show wpAny _ _ (exec (Stmt.FunctionDef _ _ _ _ _ _ _ _ _ _) _) _ _ _)); w_once)
  refine' nestDef_K ?d0 ?k0 ?a0 ?_
  case d0 => exact rfl
  case k0 => exact rfl
  case a0 => exact rfl
  rename News _ _ _ _ => N5
  rename Fr _ _ _ _ => F5
  (try dsimp only at N5)
  refine' nest_anyL (L1 := L1) F5 N5 (by repeat (first | exact Spl.nil | apply Spl.cons)) T1 hcd rfl hst ?hL l1 ?t0 ?n0 ?t1 ?n1 ?cl ?_
  case t0 => kn_triples
  case n0 => kn_among
  case t1 => intro c'; kn_triples
  case n1 => intro c'; kn_hit
  case cl => exact rfl
  case hL => repeat (first | exact faNil | (refine faCons ?_ ?_; (first | exact Nls _ | (refine' lt_andS ?pa ?pb; (case pa => with_reducible assumption); (case pb => with_reducible w_end)) | (refine ltN ?_; (try dsimp only); omega))))
  intro f c' oc vs0 t ctv dc7 h7 tk7 F7 N7 hoc hvs hkeep2 hf hc hcf hPf hpP
  simp only [Lca, Lna] at N7
  k_lt hf
  clear N5 F5
  k_steps
  · obtain ⟨hn0, hlen1⟩ := hkeep
    obtain ⟨k, hk⟩ : ∃ k, k = numDigs X n := ⟨_, rfl⟩
    have hki : ((Builtin.Int.intBits (X : Int) : Int) + (n : Int) - 1).fdiv (n : Int) = (k : Int) := by rw [numDigs_int (by omega), hk]
    have hkX := numDigs_lt (X := X) (n := n) (by omega)
    have hk0 : 1 ≤ k := by rw [hk]; exact numDigs_pos (by omega) (fun e => absurd (congrArg (fun t : Nat => (t : Int)) e) (by assumption))
    rw [← hk] at hlen1 hkX hQ
    clear hk
    rename News _ _ _ _ => N9
    rename Fr _ _ _ _ => F9
    rw [hki, Int.toNat_natCast] at N9
    refine len_ints_fit (ns := List.replicate k 0) (is_of N9 (by walk_at "MEM")) (ints_rep _ _) (by rw [List.length_replicate]; omega) ?_
    rw [List.length_replicate]
    iterate 3 (w_once)
    refine c_inner (n := n) (A₀ := _) rfl rfl rfl ⟨by walk_at "MEM", ⟨_, by walk_at "MEM", by assumption⟩, ⟨_, by walk_at "MEM", by assumption⟩, ⟨_, _, by walk_at "MEM", Eq.trans (by assumption) rfl⟩, ⟨_, _, _, by walk_at "MEM", by assumption, by assumption⟩⟩ ?ho (by omega) 7 cx1 F9 X 0 k _ _ _ _ (List.replicate k 0) 0 (pull1 N9) (ints_rep _ _) (by omega) (by rw [List.length_replicate]; omega) (by show _ ≤ 128; omega) (by rw [List.length_replicate]; omega) (by rw [Nat.sub_zero]; exact hkX) ?_
    case ho => (repeat (first | exact faNil | (refine faCons ?_ ?_; first | k_ne | (refine Ne.symm (hc _ ?_); (f_congr_eq)) | (refine Ne.symm (hpP _ ?_); (f_congr_eq)))))
    intro h5 tk5 vs5 ds5 e5 hi5 hl5 hv5 F5 N5
    clear N9 F9
    (repeat ((fail_if_success (with_reducible show LeaveK _ _ _ _ _ _ _)); w_once))
    refine leaveK_ F5 N5 ?_
    intro kF kN
    rw [List.length_replicate] at hl5
    have hds := digs_of (X := X) (n := n) hl5 (fun i hi => by rw [hv5 i (by rw [List.length_replicate]; exact hi), if_pos ⟨Nat.zero_le _, hi⟩, Nat.sub_zero])
    exact hQ _ _ _ _ _ _ (hds ▸ hi5) (NestTab.made hoc hvs) kF (news3 kN (by walk_at "MEM") (by walk_at "MEM") (by walk_at "MEM")) (fun n2 N2 off => off_own N2 hg off F5) (fun n2 N2 off q hq r hr => new_ne N2 hg off (news3 N5 (by walk_at "MEM") (by walk_at "MEM") (by walk_at "MEM")) q hq r hr)
  · obtain ⟨hn0, hlen1⟩ := hkeep
    have hk1 : numDigs X n = 0 := by
      have hx : (X : Int) = 0 := by assumption
      have : X = 0 := by omega
      rw [this, numDigs_zero (by omega)]
    have hki : ((Builtin.Int.intBits (X : Int) : Int) + (n : Int) - 1).fdiv (n : Int) = ((0 : Nat) : Int) := by rw [numDigs_int (by omega), hk1]
    rename News _ _ _ _ => N9
    rename Fr _ _ _ _ => F9
    rw [hki, Int.toNat_natCast] at N9
    rw [hk1] at hQ
    refine leaveK_ F9 N9 ?_
    intro kF kN
    exact hQ _ _ _ [] _ _ .nil (NestTab.made hoc hvs) kF (news3 kN (by walk_at "MEM") (by walk_at "MEM") (by walk_at "MEM")) (fun n2 N2 off => off_own N2 hg off F9) (fun n2 N2 off q hq r hr => new_ne N2 hg off (news3 N9 (by walk_at "MEM") (by walk_at "MEM") (by walk_at "MEM")) q hq r hr)
end
end
section
theorem rs_C7 : True := by
  w_top off
  trivial
noncomputable def d2iInner : Stmt := (fnBody (stAt 8)).getD 0 (.Pass default)
noncomputable def valN (n : Nat) : List Nat -> Nat
  | [] => 0
  | d :: l => d + 2 ^ n * valN n l
theorem valN_append (n : Nat) : ∀ a b : List Nat, valN n (a ++ b) = valN n a + 2 ^ (n * a.length) * valN n b
  | [], b => by simp [valN]
  | d :: a, b => by
    rw [Lca, valN, valN, valN_append n a b, Llc, Nat.mul_add, ← Nat.mul_assoc, ← Nat.pow_add, Nat.mul_add, Nat.mul_one, Nat.add_comm (n * a.length) n, Nat.add_assoc]
theorem valN_lt (n : Nat) : ∀ l : List Nat, (∀ d ∈ l, d < 2 ^ n) -> valN n l < 2 ^ (n * l.length)
  | [], _ => by simp [valN]
  | d :: l, h => by
    have h1 := h d (.head _)
    have h2 := valN_lt n l fun x hx => h x (.tail _ hx)
    rw [valN, Llc, Nat.mul_add, Nat.mul_one, Nat.pow_add]
    have : 2 ^ n * valN n l + 2 ^ n ≤ 2 ^ n * 2 ^ (n * l.length) := by rw [← Nat.mul_succ]; exact Nat.mul_le_mul_left _ h2
    rw [Nat.mul_comm (2 ^ (n * l.length))]; omega
noncomputable def seg (ds : List Nat) (lo hi : Nat) : List Nat := (ds.drop lo).take (hi - lo)
theorem seg_one {ds : List Nat} {lo : Nat} (h : lo < ds.length) (n : Nat) : valN n (seg ds lo (lo + 1)) = ds.getD lo 0 := by
  unfold seg
  rw [show lo + 1 - lo = 1 by omega, List.drop_eq_getElem_cons h, List.take_succ_cons, List.take_zero]
  simp [valN, List.getD_eq_getElem?_getD, List.getElem?_eq_getElem h]
theorem seg_split {ds : List Nat} {lo mid hi : Nat} (h1 : lo ≤ mid) (h2 : mid ≤ hi) (h3 : hi ≤ ds.length) (n : Nat) : valN n (seg ds mid hi) * 2 ^ ((mid - lo) * n) + valN n (seg ds lo mid) = valN n (seg ds lo hi) := by
  have e : seg ds lo hi = seg ds lo mid ++ seg ds mid hi := by
    unfold seg
    rw [show hi - lo = (mid - lo) + (hi - mid) by omega, List.take_add, List.drop_drop, show lo + (mid - lo) = mid by omega]
  rw [e, valN_append]
  have : (seg ds lo mid).length = mid - lo := by unfold seg; rw [Llt, List.length_drop]; omega
  rw [this, Nat.mul_comm n, Nat.mul_comm (2 ^ _)]; omega
theorem seg_lt {ds : List Nat} {lo hi n : Nat} (h : ∀ d ∈ ds, d < 2 ^ n) (h3 : hi ≤ ds.length) : valN n (seg ds lo hi) < 2 ^ (n * (hi - lo)) := by
  have := valN_lt n (seg ds lo hi) fun d hd => h d (List.mem_of_mem_drop (List.mem_of_mem_take hd))
  refine Nat.lt_of_lt_of_le this (Nat.pow_le_pow_right (by decide) (Nat.mul_le_mul_left _ ?_))
  unfold seg; rw [Llt]; exact Nat.min_le_left _ _
structure InnerD (fx : List (Addr × Obj)) (f ad : Addr) (vs : List Value) (e : Nat) (n : Nat) (cA cI cN c' : Addr) (qual : Str) (P : Arguments) (B : List Stmt) (S : Scope) (dc pm ct : Value) : Prop where
  fn : (f, fnMade (Zs "inner") qual P B S [(Zs "n", cN), (Zs "inner", cI), (Zs "digits", cA)] dc pm c' ct) ∈ fx
  d : (ad, Wl vs.toArray e) ∈ fx
  a : ∃ o, (cA, o) ∈ fx ∧ o.data = .cell (some (.ref ad))
  i : ∃ o, (cI, o) ∈ fx ∧ o.data = .cell (some (.ref f))
  n : ∃ o t, (cN, o) ∈ fx ∧ o.data = .cell (some (.int (n : Int) t))
  c : ∃ o cs t, (c', o) ∈ fx ∧ o.data = .fields cs ∧ cs[1]? = some (.str qual t)
section
theorem c_innerD {f ad cA cI cN c' : Addr} {n : Nat} {vs : List Value} {ds : List Nat} {e : Nat} {qual : Str} {P : Arguments} {B : List Stmt} {S : Scope} {dc pm ct : Value} {fx : List (Addr × Obj)} (hP : P = fnParams d2iInner) (hB : B = fnBody d2iInner) (hS : S = fnScope d2iInner)
    (ok : InnerD fx f ad vs e n cA cI cN c' qual P B S dc pm ct) (hn : 1 ≤ n ∧ n ≤ 400) (hvs : IntsAre vs (ds.map (Int.ofNat ·))) (hds : ∀ d ∈ ds, d < 2 ^ n) (hlen : ds.length ≤ 200) :
    ∀ (d : Nat) {j dp un : Nat} {A₀ : Around} {env : Env} {outer : List Env} {base h₀ : Heap} {L : Addr} {m : Str -> Option Value} {s : Shared} {Q : Value -> Shared -> Prop} {E : Value -> Shared -> Prop}
    (cx : Cx w (j + d + 1) dp un A₀ env outer base h₀ L) (F : Fr h₀ L s.heap m) (lo hi : Nat) (tl th : Tok) (N : News h₀ L s.heap fx)
    (h1 : lo < hi) (h2 : hi ≤ ds.length) (h3 : hi - lo ≤ 2 ^ d)
    (hQ : ∀ h' tk t, Fr h₀ L h' m -> News h₀ L h' fx -> Q (.int ((valN n (seg ds lo hi) : Nat) : Int) t) { s with heap := h', toks := tk }),
    wpAny (model RWQ.row.prog w) (AA dp un env outer) (call (.ref f) [.int (lo : Int) tl, .int (hi : Int) th] []) Q E s := by
  have hP' : P = _ := hP
  conv at hP' => rhs; whnf
  have hB' : B = _ := hB
  conv at hB' => rhs; whnf
  have hS' : S = _ := hS
  conv at hS' => rhs; whnf
  clear hP hB hS
  subst hP' hB' hS'
  revert hlen; revert hds; revert hvs; revert hn; revert ok
  revert fx; revert ct; revert pm; revert dc; revert qual; revert e; revert ds; revert vs; revert n; revert c'; revert cN; revert cI; revert cA; revert ad; revert f; revert w
  apply frz16; case n => walk_at "FZN"
  intro w f ad cA cI cN c' n vs ds e qual dc pm ct fx
  clear_value w f ad cA cI cN c' n vs ds e qual dc pm ct fx
  intro ok hn hvs hds hlen
  intro d
  induction d using Nat.strongRecOn with
  | ind d ih =>
    intro j dp un A₀ env outer base h₀ L m s Q E cx F lo hi tl th N h1 h2 h3 hQ
    obtain ⟨oA, hA1, hA2⟩ := ok.a
    obtain ⟨oI, hI1, hI2⟩ := ok.i
    obtain ⟨oN, tN, hN1, hN2⟩ := ok.n
    obtain ⟨oC, cs, tC, hC1, hC2, hC3⟩ := ok.c
    have hfn := ok.fn
    have hfd := ok.d
    revert hC3; revert hC2; revert hC1; revert hN2; revert hN1; revert hI2; revert hI1; revert hA2; revert hA1; revert hQ; revert h3; revert h2; revert h1; revert N; revert F; revert cx; revert ih
    revert tC; revert cs; revert oC; revert tN; revert oN; revert oI; revert oA; revert th; revert tl; revert hi; revert lo; revert E; revert Q; revert s; revert m; revert L; revert h₀; revert base; revert outer; revert env; revert A₀; revert un; revert dp; revert j; revert d
    apply frz22; case n => walk_at "FZN"
    intro d j dp un A₀ env outer base h₀ L m s Q E lo hi tl th oA oI oN tN
    clear_value d j dp un A₀ env outer base h₀ L m s Q E lo hi tl th oA oI oN tN
    apply frz3; case n => walk_at "FZN"
    intro oC cs tC
    clear_value oC cs tC
    intro ih cx F N h1 h2 h3 hQ hA1 hA2 hI1 hI2 hN1 hN2 hC1 hC2 hC3
    refine wpAny_call ?_
    refine' enterF cx F N (N _ hfn).1 rfl (codeRec_news N hC1 hC2 hC3) (binds := [(Zs "L", .int (lo : Int) tl), (Zs "R", .int (hi : Int) th)]) (BindsTo.of_eq rfl) (locs rfl) ?_ (by decide) rfl rfl rfl
    apply frz8; case n => walk_at "FZN"
    intro dp' un' outer' A' Q' g L1 h1
    clear_value dp' un' outer' A' Q' g L1 h1
    intro FG hg F1 N1 cx1 l1 LT1
    have X1 := cx1.X
    have B1 := cx1.B
    have hf1 := cx1.f
    have hke1 := cx1.k
    have hdp1 := cx1.d
    have hun1 := cx1.u
    obtain ⟨p1, loose1, mean1, mg1, mb1, T1⟩ := cx1.T
    revert T1
    revert mb1; revert mg1; revert mean1; revert loose1; revert p1
    apply frz5; case n => walk_at "FZN"
    intro p1 loose1 mean1 mg1 mb1
    clear_value p1 loose1 mean1 mg1 mb1
    intro T1
    have N2 : News g L1 h1 ((ad, Wl vs.toArray e) :: (cA, oA) :: (cI, oI) :: (cN, oN) :: fx) := news_sub N1 (by
      refine faCons ?_ (faCons ?_ (faCons ?_ (faCons ?_ ?_)))
      · exact hfd
      · exact hA1
      · exact hI1
      · exact hN1
      · intro p hp
        exact hp)
    clear N1 l1
    (((try dsimp only); (try k_fold)))
    iterate 11 (all_goals (tupd_look))
    · have hlo : lo + 1 = hi := by omega
      iterate 5 ((tupd_look))
      rename News _ _ _ _ => N8
      refine ksa_sub N8 (.head _) hvs (by omega) (by rw [Llm]; omega) (by omega) ?_
      intro t
      (repeat ((fail_if_success (with_reducible show LeaveK _ _ _ _ _ _ _)); tupd_look))
      rename News _ _ _ _ => N9
      rename Fr _ _ _ _ => F9
      refine leaveK_ F9 (news_sub N9 fun p hp => Lmk _ (Lmk _ (Lmk _ (Lmk _ hp)))) ?_
      intro kF kN
      show Q (.int _ _) _
      have e1 : (ds.map (Int.ofNat ·)).getD (Int.toNat (lo : Int)) 0 = ((valN n (seg ds lo hi) : Nat) : Int) := by
        rw [← hlo, seg_one (by omega), Int.toNat_natCast, List.getD_eq_getElem?_getD, Lgm, List.getD_eq_getElem?_getD, List.getElem?_eq_getElem (by omega)]
        rfl
      rw [e1]
      exact hQ _ _ _ kF kN
    · have hlo : ¬ (lo + 1 = hi) := by omega
      obtain ⟨d', rfl⟩ : ∃ d', d = d' + 1 := ⟨d - 1, by
        rcases Nat.eq_zero_or_pos d with rfl | hd
        · rw [Nat.pow_zero] at h3; omega
        · omega⟩
      obtain ⟨mid, hmid⟩ : ∃ mid, mid = (lo + hi) / 2 := ⟨_, rfl⟩
      have hm2 : ((lo : Int) + hi).fdiv (2 ^ Int.toNat 1) = (mid : Int) := by
        show Int.fdiv _ 2 = _
        rw [Int.fdiv_eq_ediv_of_nonneg _ (by decide)]; omega
      have hs2 : ((mid : Int) - lo) * n = (((mid - lo) * n : Nat) : Int) := by
        rw [Int.natCast_mul, Int.natCast_sub (by omega)]
      obtain ⟨sh, hsh⟩ : ∃ sh, sh = (mid - lo) * n := ⟨_, rfl⟩
      rw [← hsh] at hs2
      have hsz : (Builtin.Int.intBits ((valN n (seg ds mid hi) : Nat) : Int) : Int) + (sh : Int) ≤ 2 ^ 27 := by
        have e1 : n * (hi - mid) ≤ 400 * 200 := Nat.mul_le_mul (by omega) (by omega)
        have e2 : (mid - lo) * n ≤ 200 * 400 := Nat.mul_le_mul (by omega) (by omega)
        exact shl_room (seg_lt hds h2) (by omega)
      have h0sh : 0 ≤ (sh : Int) := by omega
      revert h0sh; revert hsz; revert hsh; revert hs2; revert hm2; revert hmid
      revert sh; revert mid
      apply frz2; case n => walk_at "FZN"
      intro mid sh
      clear_value mid sh
      intro hmid hm2 hs2 hsh hsz h0sh
      iterate 10 (tupd_look)
      rw [hm2]
      iterate 10 (tupd_look)
      rw [hs2]
      iterate 7 (tupd_look)
      have pk : ∀ p ∈ fx, p ∈ ((ad, Wl vs.toArray e) :: (cA, oA) :: (cI, oI) :: (cN, oN) :: fx) := fun p hp => Lmk _ (Lmk _ (Lmk _ (Lmk _ hp)))
      rename News _ _ _ _ => N3
      rename_i j1 j2 F2
      revert N3; revert F2
      revert j2; revert j1
      apply frz2; case n => walk_at "FZN"
      intro j1 j2
      clear_value j1 j2
      intro F2 N3
      refine callWith_F (FnAt.of N3 (pk _ hfn)) ?_
      iterate 5 (tupd_look)
      refine ⟨FnAt.of (by assumption) (pk _ hfn), ?_⟩
      rename Fr _ _ _ _ => F3
      refine ih d' (Nls _) cx1 F3 mid hi _ _ (news_sub (by assumption) pk) (by omega) h2 ?_ ?_
      · rw [Nat.pow_succ] at h3; omega
      apply frz3; case n => walk_at "FZN"
      intro h4 tk4 t4
      clear_value h4 tk4 t4
      intro F4 N4
      have N5 : News g L1 h4 ((ad, Wl vs.toArray e) :: (cA, oA) :: (cI, oI) :: (cN, oN) :: fx) := news_sub N4 (by
        refine faCons ?_ (faCons ?_ (faCons ?_ (faCons ?_ ?_)))
        · exact hfd
        · exact hA1
        · exact hI1
        · exact hN1
        · intro p hp
          exact hp)
      clear N4 N3 F3
      iterate 4 (tupd_look)
      rename News _ _ _ _ => N5
      refine callWith_F (FnAt.of N5 (pk _ hfn)) ?_
      iterate 5 (tupd_look)
      refine ⟨FnAt.of (by assumption) (pk _ hfn), ?_⟩
      refine ih d' (Nls _) cx1 F4 lo mid _ _ (news_sub (by assumption) pk) (by omega) (by omega) ?_ ?_
      · rw [Nat.pow_succ] at h3; omega
      apply frz3; case n => walk_at "FZN"
      intro h6 tk6 t6
      clear_value h6 tk6 t6
      intro F6 N6
      clear N5 F4
      (repeat ((fail_if_success (with_reducible show LeaveK _ _ _ _ _ _ _)); tupd_look))
      refine leaveK_ F6 N6 ?_
      intro kF kN
      have e2 : ((valN n (seg ds mid hi) : Nat) : Int) * 2 ^ (Int.toNat (sh : Int)) + ((valN n (seg ds lo mid) : Nat) : Int) = ((valN n (seg ds lo hi) : Nat) : Int) := by
        rw [Int.toNat_natCast, ← seg_split (ds := ds) (lo := lo) (mid := mid) (hi := hi) (by omega) (by omega) h2 n, ← hsh]
        rw [Int.natCast_add, Int.natCast_mul, Int.natCast_pow]; rfl
      show Q (.int _ _) _
      rw [e2]
      exact hQ _ _ _ kF kN
end
end
section
theorem rs_C8 : True := by
  w_top off
  trivial
local macro_rules | `(tactic| k_ne) => `(tactic| ktu_offL)
section
theorem news2 {p q : Addr × Obj} {l : List (Addr × Obj)} {h₀ h : Heap} {L : Addr} (N : News h₀ L h l) (h1 : p ∈ l) (h2 : q ∈ l) : News h₀ L h [p, q] := fun x hx => by
  simp only [Lmc, Lnm, or_false] at hx
  rcases hx with rfl | rfl
  · exact N _ h1
  · exact N _ h2
theorem off_keep {g h h' h₀ : Heap} {L L1 : Addr} {D : Addr} {o : Obj} {st : List (Addr × Obj)} {m' : Str -> Option Value} (hD : h.get? D = some o) (hg : ∀ b o', h.get? b = some o' -> b ∉ (((D, o) :: st).map (·.1)) -> g.get? b = some o') (F' : Fr g L1 h' m') (hD' : h'.get? D = some o) : Others h₀ L (st.map (·.1)) h h' := fun n2 N2 off p hp => by
  by_cases e : p.1 = D
  · have := (N2 p hp).1
    rw [e, hD] at this
    exact ⟨by rw [e, hD', Option.some.inj this], (N2 p hp).2⟩
  · exact off_own (n2 := [p]) (own := (D, o) :: st) (fun q hq => by rw [Lms.mp hq]; exact N2 p hp) hg (fun q hq => by
      rw [Lms.mp hq, Lpc, Lmc]
      exact fun hh => hh.elim e (off p hp)) F' p (Lms.mpr rfl)
noncomputable abbrev qD2i : Str := Zs "_digits2int.<locals>.inner"
theorem c_d2i (cx : Cx w (j + 9) dp un A₀ env outer base h₀ L) (F : Fr h₀ L s.heap m) {D : Addr} {vs : List Value} {ds : List Nat} {e : Nat} {n : Nat} (tn : Tok) (N : News h₀ L s.heap [(D, Wl vs.toArray e)]) (hvs : IntsAre vs (ds.map (Int.ofNat ·))) (hD : D ≠ 86) (hds : ∀ d ∈ ds, d < 2 ^ n) (hn0 : 4 ≤ n ∧ n < 400) (hlen1 : ds.length ≤ 128)
    {st : List (Addr × Obj)} (O : News h₀ L s.heap st) (hst : NestTab 86 99 4 qD2i st)
    (hQ : ∀ h' tk t st', NestTab 86 99 4 qD2i st' -> Fr h₀ L h' m -> News h₀ L h' st' -> Others h₀ L (st.map (·.1)) s.heap h' -> Q (.int ((valN n ds : Nat) : Int) t) { s with heap := h', toks := tk }) :
    wpAny (model RWQ.row.prog w) (AA dp un env outer) (call (.ref 91) [.ref D, .int (n : Int) tn] []) Q E s := by
  revert cx F N hvs hD hds hn0 hlen1 O hst hQ
  revert w j dp un A₀ env outer base h₀ L m s Q E D vs ds e n tn st
  apply frz21; case n => walk_at "FZN"
  intro w j dp un A₀ env outer base h₀ L m s Q E D vs ds e n tn st
  clear_value w j dp un A₀ env outer base h₀ L m s Q E D vs ds e n tn st
  intro cx F N hvs hD hds hn0 hlen1 O hst hQ
  have hn1 : (n : Int) ≠ 0 := by omega
  have hl : (ds.map (Int.ofNat ·)).length = ds.length := Llm ..
  obtain ⟨dsi, hdsi⟩ : ∃ dsi, dsi = ds.map (Int.ofNat ·) := ⟨_, rfl⟩
  rw [← hdsi] at hl
  have hvs' : IntsAre vs dsi := hdsi ▸ hvs
  have hD0 := (N _ (.head _)).1
  have hDS := tab_ne N O hst hD (fun vs e => nomatch e)
  have NN : News h₀ L s.heap ((D, Wl vs.toArray e) :: st) := news_cons (N _ (.head _)) O
  clear N O
  ((refine wpAny_call ?_; (rename Fr _ _ _ _ => eF); (rename Cx _ _ _ _ _ _ _ _ _ _ => eC); (refine' enterC eC eF (by assumption) ?k6 ?k7 ?k9 ?kB ?kD ?_ ?c2 ?c3 ?c4); (case k6 => k_is); (case k7 => k_is); (case k9 => first | exact BindsTo.of_eq rfl | exact binds_K (by k_in) rfl (by k_is) rfl rfl rfl); (case kB => exact rfl); (case kD => decide +kernel); (case c2 => exact rfl); (case c3 => exact rfl); (case c4 => exact rfl)))
  apply frz10; case n => walk_at "FZN"
  intro dp' un' outer' A' Q' g L1 h1 tk1 cells1
  clear_value dp' un' outer' A' Q' g L1 h1 tk1 cells1
  intro FG hg F1 N1 Y1 cx1 l1 LT1
  have X1 := cx1.X
  have B1 := cx1.B
  have hf1 := cx1.f
  have hke1 := cx1.k
  have hdp1 := cx1.d
  have hun1 := cx1.u
  obtain ⟨p1, loose1, mean1, mg1, mb1, T1⟩ := cx1.T
  have l2 : ∀ r ∈ st, r.1 < L1 := fun r hr => l1 r (.tail _ hr)
  have hst1 : ∀ q ∈ st, q.1 ≠ L1 + 1 := fun q hq => Nnl (Nltt (l2 q hq) (Nls _))
  have hst2 : ∀ q ∈ st, q.1 ≠ L1 + 1 + 1 := fun q hq => Nnl (Nltt (l2 q hq) (Nltt (Nls _) (Nls _)))
  have hst3 : ∀ q ∈ st, q.1 ≠ L1 + 1 + 1 + 1 := fun q hq => Nnl (Nltt (l2 q hq) (Nltt (Nls _) (Nltt (Nls _) (Nls _))))
  k_cells Y1
  (try simp only [Lca, Lna] at N1)
  k_lt l1
  (((try dsimp only); (try k_fold)))
  have hcd : CodeHd g 90 86 := codeHd_of_K X1 (by kernel_rfl)
  repeat ((fail_if_success (with_reducible show wpAny _ _ (exec (Stmt.FunctionDef _ _ _ _ _ _ _ _ _ _) _) _ _ _)); w_once)
  refine' nestDef_K ?d0 ?k0 ?a0 ?_
  case d0 => exact rfl
  case k0 => exact rfl
  case a0 => exact rfl
  rename News _ _ _ _ => N5
  rename Fr _ _ _ _ => F5
  (try dsimp only at N5)
  refine' nest_anyM F5 N5 (by repeat (first | exact Spl.nil | apply Spl.cons)) T1 hcd rfl hst ?hS ?t0 ?n0 ?t1 ?n1 ?cl ?_
  case t0 => kn_triples
  case n0 => kn_among
  case t1 => intro c'; kn_triples
  case n1 => intro c'; kn_hit
  case cl => exact rfl
  case hS => repeat (first | exact faNil | (refine faCons ?_ ?_; (first | exact hDS | (refine hs_of l2 (ltN ?_); (try dsimp only); omega))))
  intro f c' oc vs0 t ctv dc7 h7 tk7 F7 N7 hoc hvt hkeep2 hf hc hcf hPf hpP
  simp only [Lca, Lna] at N7
  k_lt hf
  clear N5 F5
  repeat ((fail_if_success (with_reducible show wpAny _ _ (truthy _) _ _ _)); w_once)
  iterate 2 (w_once)
  · (repeat ((fail_if_success (with_reducible show wpAny _ _ (call _ _ _) _ _ _)); w_once))
    rename News _ _ _ _ => N9
    rename Fr _ _ _ _ => F9
    have hpos : 0 < dsi.length := by first | assumption | omega
    refine len_ints_fit (is_of N9 (by walk_at "MEM")) hvs' (by omega) ?_
    rw [hl]
    iterate 1 (w_once)
    refine ⟨FnAt.of N9 (by walk_at "MEM"), ?_⟩
    refine c_innerD (n := n) (A₀ := _) rfl rfl rfl ⟨by walk_at "MEM", by walk_at "MEM", ⟨_, by walk_at "MEM", Eq.trans (by assumption) rfl⟩, ⟨_, by walk_at "MEM", by assumption⟩, ⟨_, _, by walk_at "MEM", Eq.trans (by assumption) rfl⟩, ⟨_, _, _, by walk_at "MEM", by assumption, by assumption⟩⟩ (by omega) hvs hds (by omega) 7 cx1 F9 0 ds.length _ _ N9 (by omega) (Nat.le_refl _) (by show _ ≤ 128; omega) ?_
    intro h5 tk5 t5 F5 N5
    clear N9 F9
    (repeat ((fail_if_success (with_reducible show LeaveK _ _ _ _ _ _ _)); w_once))
    refine leaveK_ F5 N5 ?_
    intro kF kN
    have e1 : seg ds 0 ds.length = ds := by unfold seg; rw [Nat.sub_zero, Ldz, List.take_length]
    show Q (.int _ _) _
    rw [e1]
    exact hQ _ _ _ _ (NestTab.made hoc hvt) kF (news2 kN (by walk_at "MEM") (by walk_at "MEM")) (off_keep hD0 hg F5 (kN _ (by walk_at "MEM")).1)
  · (repeat ((fail_if_success (with_reducible show LeaveK _ _ _ _ _ _ _)); w_once))
    have hz : ds = [] := by
      have : ¬ 0 < dsi.length := by first | assumption | omega
      exact List.length_eq_zero_iff.mp (by omega)
    rename News _ _ _ _ => N9
    rename Fr _ _ _ _ => F9
    refine leaveK_ F9 N9 ?_
    intro kF kN
    rw [hz] at hQ
    exact hQ _ _ _ _ (NestTab.made hoc hvt) kF (news2 kN (by walk_at "MEM") (by walk_at "MEM")) (off_keep hD0 hg F9 (kN _ (by walk_at "MEM")).1)
end
end
section
theorem rs_C1 : True := by
  w_top off
  trivial
local macro_rules | `(tactic| walk_at "call builtin:divmod") => `(tactic| (k_here; (rename Fr _ _ _ _ => lF'); (rename News _ _ _ _ => lN'); refine divmod_N lF' lN' (by assumption) ?_ (Or.inl (PyProof.noPylong_of_log2 (by assumption))); intro h' F' N'))
section
theorem c_div2n1n (cx : Cx w (j + 1) dp un A₀ env outer base h₀ L) (F : Fr h₀ L s.heap m) (N : News h₀ L s.heap news) (a b n : Int) (ta tb tn : Tok)
    (hs : (PySem.Builtin.Int.intBits a : Int) - n ≤ 4000) (hb : b ≠ 0) (hb2 : b.natAbs.log2 < 9000)
    (h : ∀ x h' tk t1 t2, Fr h₀ L h' m -> News h₀ L h' ((x, tupOf [.int (a.fdiv b) t1, .int (a.fmod b) t2]) :: news) -> Q (.ref x) { s with heap := h', toks := tk }) :
    wpAny (model RWQ.row.prog w) (AA dp un env outer) (call (.ref 70) [.int a ta, .int b tb, .int n tn] []) Q E s := by
  ((refine wpAny_call ?_; (rename Fr _ _ _ _ => eF); (rename Cx _ _ _ _ _ _ _ _ _ _ => eC); (refine' enterP eC eF News.nil ?k6 ?k7 ?k9 ?kB ?_ ?c5 ?c2 ?c3 ?c4); (case k6 => k_is); (case k7 => k_is); (case k9 => first | exact BindsTo.of_eq rfl | exact binds_K (by k_in) rfl (by k_is) rfl rfl rfl); (case c5 => decide); (case kB => exact locs rfl); (case c2 => exact rfl); (case c3 => exact rfl); (case c4 => exact rfl)))
  intro dp' un' outer' A' Q' g L1 h1
  intro FG hg F1 N1 cx1 l1 LT1
  have X1 := cx1.X
  have B1 := cx1.B
  have hf1 := cx1.f
  have hke1 := cx1.k
  have hdp1 := cx1.d
  have hun1 := cx1.u
  obtain ⟨p1, loose1, mean1, mg1, mb1, T1⟩ := cx1.T
  (((try dsimp only); (try k_fold)))
  k_steps
  refine leaveK_ (by assumption) (by assumption) ?_
  intro kF kN
  show Q _ _
  refine' h _ _ _ _ _ ?n1 ?n2
  case n2 => exact news_app (a := [_]) (by assumption) (back0 N hg (by assumption))
  case n1 => assumption
end
end
section
theorem rs_C9 : True := by
  w_top off
  trivial
section
noncomputable def DmpTab (st : List (Addr × Obj)) : Prop := ∃ s1 s2, st = s1 ++ s2 ∧ NestTab 79 84 4 qI2d s1 ∧ NestTab 86 99 4 qD2i s2
theorem news_ne {h₀ h : Heap} {L : Addr} {l : List (Addr × Obj)} (N : News h₀ L h l) {p q : Addr × Obj} (hp : p ∈ l) (hq : q ∈ l) (hne : p.2 ≠ q.2) : p.1 ≠ q.1 := fun e => by
  have h1 := (N p hp).1
  have h2 := (N q hq).1
  rw [e, h2] at h1
  exact hne (Option.some.inj h1).symm
theorem NestTab.obj {P : Addr} {line col : Nat} {qual : Str} {st : List (Addr × Obj)} (h : NestTab P line col qual st) : ∀ p ∈ st, (∃ vs, p.2.data = .fields vs ∧ (∀ t, vs[1]? = some (.str qual t) -> p.2.data = .fields vs) ∧ ((p.1 = P ∧ ∃ ps, p.2 = tabObj ps ∧ (ps = #[] ∨ ∃ c, ps = #[rawInt line, rawInt col, c])) ∨ ∃ t, vs[1]? = some (.str qual t))) := by
  rcases h with rfl | ⟨c', oc, vs, t, rfl, h1, h2⟩
  · intro p hp
    rw [Lms.mp hp]
    exact ⟨_, rfl, fun _ _ => rfl, .inl ⟨rfl, _, rfl, .inl rfl⟩⟩
  · intro p hp
    rcases Lmc.mp hp with rfl | hp
    · exact ⟨_, rfl, fun _ _ => rfl, .inl ⟨rfl, _, rfl, .inr ⟨_, rfl⟩⟩⟩
    · rw [Lms.mp hp]
      exact ⟨vs, h1, fun _ _ => h1, .inr ⟨t, h2⟩⟩
theorem nest_apart {h₀ h : Heap} {L P P' : Addr} {l1 c1 l2 c2 : Nat} {q q' : Str} {st st' : List (Addr × Obj)} (hP : P ≠ P') (hq : q ≠ q') (T : NestTab P l1 c1 q st) (T' : NestTab P' l2 c2 q' st') (N : News h₀ L h st) (N' : News h₀ L h st') :
    ∀ p ∈ st, ∀ p' ∈ st', p.1 ≠ p'.1 := fun p hp p' hp' e => by
  have e1 := (N p hp).1
  have e2 := (N' p' hp').1
  rw [e, e2] at e1
  have eo : p'.2 = p.2 := Option.some.inj e1
  obtain ⟨vs, h1, _, h2⟩ := T.obj p hp
  obtain ⟨us, k1, _, k2⟩ := T'.obj p' hp'
  have ev : us = vs := by rw [eo, h1] at k1; cases k1; rfl
  subst ev
  rcases h2 with ⟨a1, ps, a2, a3⟩ | ⟨t, a⟩
  · rcases k2 with ⟨b1, _⟩ | ⟨t', b⟩
    · exact hP (a1.symm.trans (e.trans b1))
    · rw [a2] at h1
      have : us = ps := by cases h1; rfl
      subst this
      rcases a3 with rfl | ⟨c, rfl⟩
      · cases b
      · cases b
  · rcases k2 with ⟨b1, ps, b2, b3⟩ | ⟨t', b⟩
    · rw [b2] at k1
      have : us = ps := by cases k1; rfl
      subst this
      rcases b3 with rfl | ⟨c, rfl⟩
      · cases a
      · cases a
    · rw [a] at b
      cases b
      exact hq rfl
end
end
section
theorem rs_C10 : True := by
  w_top off
  trivial
theorem nest_cls {P : Addr} {l c : Nat} {q : Str} {st : List (Addr × Obj)} (T : NestTab P l c q st) : ∀ p ∈ st, ∃ vs, p.2.data = .fields vs := fun p hp => by
  obtain ⟨vs, h, _⟩ := T.obj p hp
  exact ⟨vs, h⟩
theorem seq_off {h₀ h : Heap} {L D : Addr} {st : List (Addr × Obj)} {its : Array Value} {e : Nat} {o : Obj} (hD : h.get? D = some o) (ho : o.data = .seq its e) (T : ∀ p ∈ st, ∃ vs, p.2.data = .fields vs) (N : News h₀ L h st) : ∀ p ∈ st, p.1 ≠ D := fun p hp e' => by
  have h1 := (N p hp).1
  rw [e', hD] at h1
  obtain ⟨vs, hv⟩ := T p hp
  rw [← Option.some.inj h1, ho] at hv
  cases hv
inductive JDmp (a b n : Nat) (vs : List Value) (D Dq : Addr) (e : Nat) (bt : Tok) (sT : List (Addr × Obj)) (r : List Value) (m : Str -> Option Value) (news : List (Addr × Obj)) : Prop
  | mk : ∀ k ql vq eq tr nt, (r = (vs.take k).reverse) -> (k ≤ numDigs a n) -> (IntsAre vq (ql.reverse.map (Int.ofNat ·))) -> (ql.length + k = numDigs a n) -> (valN n ql = a / 2 ^ (n * k) / b) -> ((∀ d ∈ ql, d < 2 ^ n)) -> (m (Zs "b") = some (.int (b : Int) bt)) -> (m (Zs "n") = some (.int (n : Int) nt)) -> (m (Zs "r") = some (.int ((a / 2 ^ (n * k) % b : Nat) : Int) tr)) -> (m (Zs "q_digits") = some (.ref Dq)) -> (news = (Dq, Wl vq.toArray eq) :: (D, Wl vs.toArray e) :: sT) -> ((∀ p ∈ sT, p.1 ≠ Dq)) -> (D ≠ Dq) -> JDmp a b n vs D Dq e bt sT r m news
theorem step_item {vs : List Value} {a n K k : Nat} {x : Value} {r : List Value} (h : IntsAre vs (digs a n K)) (hk : k < K) (hr : x :: r = (vs.take (k + 1)).reverse) : (∃ t, x = .int ((a / 2 ^ (n * k) % 2 ^ n : Nat) : Int) t) ∧ r = (vs.take k).reverse := by
  have hl : vs.length = K := by rw [h.length]; unfold digs; simp
  rw [List.take_succ_eq_append_getElem (by omega), List.reverse_append] at hr
  injection hr with h1 h2
  refine ⟨?_, h2⟩
  rw [h1]
  obtain ⟨t, ht⟩ := h.int_at k vs[k] (List.getElem?_eq_getElem (by omega))
  refine ⟨t, ht.trans ?_⟩
  unfold digs
  rw [List.getD_eq_getElem?_getD, Lgm, List.getElem?_range hk]
  rfl
theorem intBits_nat_lt {b n : Nat} (h : Builtin.Int.intBits (b : Int) = n) : b < 2 ^ n := by
  unfold Builtin.Int.intBits at h
  split at h
  · rename_i h0
    have : b = 0 := by simpa using h0
    rw [this]; exact Nat.two_pow_pos _
  · rw [← h]; exact Nat.lt_log2_self
theorem dmp_room {A b n d : Nat} (hb : 0 < b) (h : b < 2 ^ n) (hd : d < 2 ^ n) : A % b * 2 ^ n + d < 2 ^ (n + n) := by
  have h1 := Nat.mod_lt A hb
  have h2 : (A % b + 1) * 2 ^ n ≤ 2 ^ n * 2 ^ n := Nat.mul_le_mul_right _ (by omega)
  rw [Nat.add_mul, Nat.one_mul] at h2
  rw [Nat.pow_add]; omega
theorem dmp_log {b n : Nat} (hb : 0 < b) (h : b < 2 ^ n) (hn : n < 9000) : (b : Int).natAbs.log2 < 9000 := by
  rw [Int.natAbs_natCast]
  have := (Nat.log2_lt (by omega)).2 h
  omega
theorem dmp_step {A b n d : Nat} (hb : 0 < b) (hd : d < 2 ^ n) : (A * 2 ^ n + d) / b = A / b * 2 ^ n + (A % b * 2 ^ n + d) / b ∧ (A * 2 ^ n + d) % b = (A % b * 2 ^ n + d) % b ∧ (A % b * 2 ^ n + d) / b < 2 ^ n := by
  have e : A * 2 ^ n + d = (A % b * 2 ^ n + d) + b * (A / b * 2 ^ n) := by
    have := Nat.div_add_mod A b
    calc A * 2 ^ n + d = (b * (A / b) + A % b) * 2 ^ n + d := by rw [this]
      _ = _ := by rw [Nat.add_mul, Nat.mul_assoc]; omega
  refine ⟨?_, ?_, ?_⟩
  · rw [e, Nat.add_mul_div_left _ _ hb, Nat.add_comm]
  · rw [e, Nat.add_mul_mod_self_left]
  · rw [Nat.div_lt_iff_lt_mul hb]
    have h1 := Nat.mod_lt A hb
    have h2 : (A % b + 1) * 2 ^ n ≤ b * 2 ^ n := Nat.mul_le_mul_right _ (by omega)
    rw [Nat.add_mul, Nat.one_mul] at h2
    rw [Nat.mul_comm (2 ^ n)]; omega
theorem dmp_top {a n k : Nat} : a / 2 ^ (n * k) = a / 2 ^ (n * (k + 1)) * 2 ^ n + a / 2 ^ (n * k) % 2 ^ n := by
  rw [Nat.mul_add, Nat.mul_one, Nat.pow_add, ← Nat.div_div_eq_div_mul]
  have := Nat.div_add_mod (a / 2 ^ (n * k)) (2 ^ n)
  rw [Nat.mul_comm (2 ^ n)] at this
  exact this.symm
theorem ints_len {vs : List Value} {ds : List Int} (h : IntsAre vs ds) : vs.length = ds.length := h.length
section
theorem c_dmp (cx : Cx w (j + 10) dp un A₀ env outer base h₀ L) (F : Fr h₀ L s.heap m) (a b n : Nat) (ta tb : Tok) (hb : 0 < b) (hn : Builtin.Int.intBits (b : Int) = n) (hn0 : 4 ≤ n ∧ n < 400) (hlen : numDigs a n ≤ 128)
    {st : List (Addr × Obj)} (O : News h₀ L s.heap st) (hst : DmpTab st)
    (hQ : ∀ x h' tk st' t1 t2, DmpTab st' -> Fr h₀ L h' m -> News h₀ L h' ((x, tupOf [.int ((a / b : Nat) : Int) t1, .int ((a % b : Nat) : Int) t2]) :: st') -> Others h₀ L (st.map (·.1)) s.heap h' -> (∀ n2, News h₀ L s.heap n2 -> (∀ q ∈ n2, q.1 ∉ st.map (·.1)) -> ∀ q ∈ n2, ∀ r ∈ st', q.1 ≠ r.1) -> Q (.ref x) { s with heap := h', toks := tk }) :
    wpAny (model RWQ.row.prog w) (AA dp un env outer) (call (.ref 98) [.int (a : Int) ta, .int (b : Int) tb] []) Q E s := by
  obtain ⟨s1, s2, rfl, hs1, hs2⟩ := hst
  revert hQ; revert hs2; revert hs1; revert O; revert hlen; revert hn0; revert hn; revert hb; revert F; revert cx
  revert s2; revert s1; revert tb; revert ta; revert n; revert b; revert a; revert E; revert Q; revert s; revert m; revert L; revert h₀; revert base; revert outer; revert env; revert A₀; revert un; revert dp; revert j; revert w
  apply frz21; case n => walk_at "FZN"
  intro w j dp un A₀ env outer base h₀ L m s Q E a b n ta tb s1 s2
  clear_value w j dp un A₀ env outer base h₀ L m s Q E a b n ta tb s1 s2
  intro cx F hb hn hn0 hlen O hs1 hs2 hQ
  ((refine wpAny_call ?_; (rename Fr _ _ _ _ => eF); (rename Cx _ _ _ _ _ _ _ _ _ _ => eC); (refine' enterP eC eF (by assumption) ?k6 ?k7 ?k9 ?kB ?_ ?c5 ?c2 ?c3 ?c4); (case k6 => k_is); (case k7 => k_is); (case k9 => first | exact BindsTo.of_eq rfl | exact binds_K (by k_in) rfl (by k_is) rfl rfl rfl); (case c5 => decide); (case kB => exact locs rfl); (case c2 => exact rfl); (case c3 => exact rfl); (case c4 => exact rfl)))
  apply frz8; case n => walk_at "FZN"
  intro dp' un' outer' A' Q' g L1 h1
  clear_value dp' un' outer' A' Q' g L1 h1
  intro FG hg F1 N1 cx1 l1 LT1
  have X1 := cx1.X
  have B1 := cx1.B
  have hf1 := cx1.f
  have hke1 := cx1.k
  have hdp1 := cx1.d
  have hun1 := cx1.u
  obtain ⟨p1, loose1, mean1, mg1, mb1, T1⟩ := cx1.T
  (try k_lt l1)
  (((try dsimp only); (try k_fold)))
  have ap := nest_apart (by decide) (by decide) hs1 hs2 (fun p hp => N1 p (Lal _ hp)) (fun p hp => N1 p (Lar _ hp))
  (repeat ((fail_if_success (with_reducible show wpAny _ _ (call _ _ _) _ _ _)); w_once))
  iterate 2 (w_once)
  (repeat ((fail_if_success (with_reducible show wpAny _ _ (call _ _ _) _ _ _)); w_once))
  rename Fr _ _ _ _ => F2
  rename News _ _ _ _ => N2
  have O1 : News g L1 _ s1 := fun p hp => N2 p (Lal _ hp)
  have O2 : News g L1 _ s2 := fun p hp => N2 p (Lar _ hp)
  rw [hn]
  rename_i h2
  revert O2; revert O1; revert N2; revert F2; revert T1
  revert tk; revert h2; revert mb1; revert mg1; revert mean1; revert loose1; revert p1
  apply frz7; case n => walk_at "FZN"
  intro p1 loose1 mean1 mg1 mb1 h2 tk
  clear_value p1 loose1 mean1 mg1 mb1 h2 tk
  intro T1 F2 N2 O1 O2
  refine c_i2d cx1 F2 a n _ _ hn0 hlen O1 hs1 ?_
  apply frz6; case n => walk_at "FZN"
  intro D h3 tk3 vs e s1'
  clear_value D h3 tk3 vs e s1'
  intro hvs hs1' F3 N3 o3 u9
  have O3 : News g L1 h3 s1' := fun p hp => N3 p (.tail _ hp)
  have O4 : News g L1 h3 s2 := o3 s2 O2 (fun p hp hm => by
    obtain ⟨q, hq, e⟩ := Lmm.mp hm
    exact ap q hq p hp e)
  have offD1 := seq_off (N3 _ (.head _)).1 rfl (nest_cls hs1') O3
  have offD2 := seq_off (N3 _ (.head _)).1 rfl (nest_cls hs2) O4
  have N4 : News g L1 h3 ((D, Wl vs.toArray e) :: (s1' ++ s2)) := news_cons (N3 _ (.head _)) (news_app O3 O4)
  have hcl : ∀ p ∈ s1' ++ s2, ∃ vs, p.2.data = .fields vs := fun p hp => (Lma.mp hp).elim (nest_cls hs1' p) (nest_cls hs2 p)
  obtain ⟨sT, hT⟩ : ∃ sT, sT = s1' ++ s2 := ⟨_, rfl⟩
  have offD : ∀ p ∈ sT, p.1 ≠ D := fun p hp => by
    rw [hT] at hp
    exact (Lma.mp hp).elim (offD1 p) (offD2 p)
  rw [← hT] at N4 hcl
  clear N3 F2 N2 O1 O2 O3 O4 ap u9 offD1 offD2
  revert offD; revert hcl; revert N4; revert hT
  revert sT
  apply frz1; case n => walk_at "FZN"
  intro sT
  clear_value sT
  intro hT N4 hcl offD
  (repeat ((fail_if_success (with_reducible show wpAny _ _ (exec (Stmt.For _ _ _ _ _) _) _ _ _)); w_once))
  refine For_revH (h₀ := g) ?_ (fun _ => rfl) (by passes_own)
  (repeat ((fail_if_success (with_reducible show wpAny _ _ (call _ _ _) _ _ _)); w_once))
  rename Fr _ _ _ _ => F6
  rename_i _ tkA _ tkB Dq _ lq h5 _
  rename News _ _ _ _ => N6
  revert N6; revert F6; revert lq
  revert tk; revert h5; revert Dq; revert tkB; revert tkA
  apply frz5; case n => walk_at "FZN"
  intro tkA tkB Dq h5 tk
  clear_value tkA tkB Dq h5 tk
  intro lq F6 N6
  refine krv_reversed F6 N6 (is_of N6 (by walk_at "MEM")) ?_
  apply frz2; case n => walk_at "FZN"
  intro I h6
  clear_value I h6
  intro F7 N7 lI
  have hlv : vs.length = numDigs a n := by rw [ints_len hvs]; unfold digs; rw [Llm, List.length_range]
  have hX := numDigs_lt (X := a) (n := n) (by omega)
  refine ⟨I, D, vs, _, _, fun r m nw => JDmp a b n vs D Dq e tb sT r m nw, rfl, rfl, F7, N7, fun p hp => Nnl (lI p hp), is_of N7 (by walk_at "MEM"), ?init, ?step, ?done⟩
  case init =>
    refine ⟨numDigs a n, [], [], 0, ?tr, ?nt, by rw [← hlv, List.take_length], Nat.le_refl _, .nil, Nat.zero_add _, ?i1, fun d hd => (nomatch hd), rfl, ?i2, ?i3, rfl, rfl, ?i4, Nnl lq.1⟩
    case i1 => rw [Nat.div_eq_of_lt hX, Nat.zero_div]; rfl
    case i2 => rw [← hn]; rfl
    case i3 => rw [Nat.div_eq_of_lt hX, Nat.zero_mod]; rfl
    case i4 => exact seq_off (N7 _ (.tail _ (.head _))).1 rfl hcl fun p hp => N7 p (.tail _ (.tail _ (.tail _ hp)))
  case step =>
    clear N7 F7 N6 F6
    rintro I x r m₁ news₁ hp2 tk2 oI Qt ⟨k, ql, vq, eq, tr, nt, hr, hk, hvq, hlen', hval, hlt, hmb, hmn, hmr, hmq, rfl, hoff, hDq⟩ hc F8 N8 off8 hl8 LQ
    cases k with
    | zero => rw [List.take_zero] at hr; cases hr
    | succ k =>
      obtain ⟨⟨tx, hx1⟩, hx2⟩ := step_item hvs (by omega) hr
      subst hx1 hx2
      revert LQ; revert hl8; revert off8; revert N8; revert F8; revert hc; revert hDq; revert hoff; revert hmq; revert hmr; revert hmn; revert hmb; revert hlt; revert hval; revert hlen'; revert hvq; revert hk; revert hr
      revert tx; revert nt; revert tr; revert eq; revert vq; revert ql; revert k; revert Qt; revert oI; revert tk2; revert hp2; revert m₁; revert I
      apply frz13; case n => walk_at "FZN"
      intro I m₁ hp2 tk2 oI Qt k ql vq eq tr nt tx
      clear_value I m₁ hp2 tk2 oI Qt k ql vq eq tr nt tx
      intro hr hk hvq hlen' hval hlt hmb hmn hmr hmq hoff hDq hc F8 N8 off8 hl8 LQ
      have hb2 := intBits_nat_lt hn
      have h0n : 0 ≤ (n : Int) := by omega
      have hsh : (Builtin.Int.intBits ((a / 2 ^ (n * (k + 1)) % b : Nat) : Int) : Int) + (n : Int) ≤ 2 ^ 27 := shl_room (Nltt (Nat.mod_lt _ hb) hb2) (by omega)
      (repeat ((fail_if_success (with_reducible show wpAny _ _ (call _ _ _) _ _ _)); w_once))
      rename Fr _ _ _ _ => F9
      rename News _ _ _ _ => N9
      obtain ⟨A, hA⟩ : ∃ A, A = a / 2 ^ (n * (k + 1)) := ⟨_, rfl⟩
      obtain ⟨d, hd⟩ : ∃ d, d = a / 2 ^ (n * k) % 2 ^ n := ⟨_, rfl⟩
      rw [← hA, ← hd]
      have hx : ((A % b : Nat) : Int) * 2 ^ Int.toNat (n : Int) + (d : Int) = ((A % b * 2 ^ n + d : Nat) : Int) := by
        rw [Int.toNat_natCast, Int.natCast_add, Int.natCast_mul, Int.natCast_pow]; rfl
      rw [hx]
      have hd2 : d < 2 ^ n := by rw [hd]; exact Nat.mod_lt _ (Nat.two_pow_pos _)
      rename_i h9
      revert hd2; revert hx; revert hd; revert hA; revert N9; revert F9
      revert d; revert A; revert tk; revert h9
      apply frz4; case n => walk_at "FZN"
      intro h9 tk A d
      clear_value h9 tk A d
      intro F9 N9 hA hd hx hd2
      have hX2 := dmp_room hb hb2 hd2 (A := A)
      refine c_div2n1n cx1 F9 N9 _ _ _ _ _ _ ?_ (by omega) (dmp_log hb hb2 (by omega)) ?_
      · have := intBits_lt hX2
        omega
      apply frz5; case n => walk_at "FZN"
      intro x h10 tk10 t1 t2
      clear_value x h10 tk10 t1 t2
      intro F10 N10
      rw [← Int.ofNat_fdiv, ← Int.ofNat_fmod] at N10
      clear F9 N9
      have hsz : (ql.reverse.map (Int.ofNat ·)).length ≤ 200 := by rw [Llm, List.length_reverse]; omega
      (repeat ((fail_if_success (with_reducible show wpAny _ _ (call _ _ _) _ _ _)); w_once))
      rename Fr _ _ _ _ => F9
      rename News _ _ _ _ => N9
      rename_i h10
      revert N9; revert F9
      revert tk; revert h10
      apply frz2; case n => walk_at "FZN"
      intro h10 tk
      clear_value h10 tk
      intro F9 N9
      refine led_append F9 N9 (by walk_at "MEM") (by rw [ints_len hvq]; omega) ?_
      apply frz1; case n => walk_at "FZN"
      intro h11
      clear_value h11
      intro F11 o11 N11
      have hIq : I ≠ Dq := fun e => off8 _ (.head _) e.symm
      have N12 : News g L1 h11 ((I, oI) :: (Dq, Wl (vq ++ [Value.int (((A % b * 2 ^ n + d) / b : Nat) : Int) t1]).toArray (eq + 1)) :: (D, Wl vs.toArray e) :: sT) := by
        have q1 := o11 ((I, oI) :: (D, Wl vs.toArray e) :: sT) (news_sub N9 fun p hp => by
          simp only [Lmc] at hp ⊢
          rcases hp with h | h | h <;> simp [h]) (fun p hp hm => by
            rw [Lms] at hm
            rcases Lmc.mp hp with rfl | hp
            · exact hIq hm
            · rcases Lmc.mp hp with rfl | hp
              · exact hDq hm
              · exact hoff p hp hm)
        exact news_cons (q1 _ (.head _)) (news_cons (N11 _ (.head _)) fun p hp => q1 p (.tail _ hp))
      clear F9 N9 o11 N11
      w_once
      obtain ⟨z1, z2, z3⟩ := dmp_step (A := A) hb hd2
      have etop := dmp_top (a := a) (n := n) (k := k)
      rw [← hA, ← hd] at etop
      have hD' : News g L1 h11 ((Dq, Wl (vq ++ [Value.int (((A % b * 2 ^ n + d) / b : Nat) : Int) t1]).toArray (eq + 1)) :: (D, Wl vs.toArray e) :: sT) := fun p hp => N12 p (.tail _ hp)
      refine LQ.go ⟨_, _, _, _, rfl, F11, N12, ?_, is_of N12 (by walk_at "MEM"), k, (A % b * 2 ^ n + d) / b :: ql, _, _, t2, nt, rfl, by omega, ?_, ?_, ?_, ?_, ?_, ?_, ?_, ?_, rfl, hoff, hDq⟩
      · intro p hp
        rcases Lmc.mp hp with rfl | hp
        · exact hIq.symm
        · exact off8 p (.tail _ hp)
      · rw [List.reverse_cons, Lmp]
        exact hvq.append (.cons _ _ .nil)
      · rw [Llc]; omega
      · rw [valN, hval, etop, z1, ← hA, Nat.mul_comm (2 ^ n) (A / b), Nat.add_comm]
      · intro x hx
        rcases Lmc.mp hx with rfl | hx
        · exact z3
        · exact hlt x hx
      · exact (if_neg (by decide)).trans ((if_neg (by decide)).trans ((if_neg (by decide)).trans hmb))
      · exact (if_neg (by decide)).trans ((if_neg (by decide)).trans ((if_neg (by decide)).trans hmn))
      · rw [etop, z2]; exact if_pos rfl
      · exact (if_neg (by decide)).trans ((if_neg (by decide)).trans ((if_neg (by decide)).trans hmq))
  case done =>
    rintro m₁ news₁ hp2 tk2 ⟨k, ql, vq, eq, tr, nt, hr, hk, hvq, hlen', hval, hlt, hmb, hmn, hmr, hmq, rfl, hoff, hDq⟩ F8 N8
    have hk0 : k = 0 := by
      have := congrArg List.length hr
      rw [List.length_reverse, Llt, List.length_nil, hlv] at this
      omega
    subst hk0
    revert hmr; revert hval; revert hlen'; revert hk; revert hr; revert N8; revert F8; revert hDq; revert hoff; revert hmq; revert hmn; revert hmb; revert hlt; revert hvq
    revert nt; revert tr; revert eq; revert vq; revert ql; revert tk2; revert hp2; revert m₁
    apply frz8; case n => walk_at "FZN"
    intro m₁ hp2 tk2 ql vq eq tr nt
    clear_value m₁ hp2 tk2 ql vq eq tr nt
    intro hvq hlt hmb hmn hmq hoff hDq F8 N8 hr hk hlen' hval hmr
    rw [Nat.mul_zero, Nat.pow_zero, Nat.div_one] at hval hmr
    (try dsimp only)
    (repeat ((fail_if_success (with_reducible show wpAny _ _ (call _ _ _) _ _ _)); w_once))
    refine kl_reverse F8 N8 (l := vq.reverse) (by walk_at "SI") (.head fun p hp => ?_) (by rw [List.toList_toArray, sizeLine_eq, ints_len hvq, Llm, List.length_reverse]; omega) ?_
    · rcases Lmc.mp hp with rfl | hp
      · exact hDq
      · exact hoff p hp
    apply frz1; case n => walk_at "FZN"
    intro h12
    clear_value h12
    intro F12 N12
    clear F8 N8
    have hvr : IntsAre vq.reverse (ql.map (Int.ofNat ·)) := by
      have := hvq.reverse
      rwa [List.map_reverse, List.reverse_reverse] at this
    (try dsimp only)
    (repeat ((fail_if_success (with_reducible show wpAny _ _ (call _ _ _) _ _ _)); w_once))
    rename Fr _ _ _ _ => F13
    rename News _ _ _ _ => N13
    have NT : News g L1 _ sT := fun p hp => N13 p (.tail _ (.tail _ hp))
    have T1 : News g L1 _ s1' := fun p hp => NT p (by rw [hT]; exact Lal _ hp)
    have T2 : News g L1 _ s2 := fun p hp => NT p (by rw [hT]; exact Lar _ hp)
    have ap2 := nest_apart (by decide) (by decide) hs1' hs2 T1 T2
    have hq86 : Dq ≠ 86 := fun e => by
      rcases hs2 with rfl | ⟨c', oc, vs, t, rfl, h1, h2⟩
      · exact hoff (86, _) (by rw [hT]; exact Lar _ (.head _)) e.symm
      · exact hoff (86, _) (by rw [hT]; exact Lar _ (.head _)) e.symm
    refine c_d2i cx1 F13 _ (fun p hp => by rw [Lms.mp hp]; exact N13 _ (.head _)) hvr hq86 hlt hn0 (by omega) T2 hs2 ?_
    apply frz4; case n => walk_at "FZN"
    intro h14 tk14 t14 s2'
    clear_value h14 tk14 t14 s2'
    intro hs2' F14 N14 o14
    have T1' : News g L1 h14 s1' := o14 s1' T1 (fun p hp hm => by
      obtain ⟨q, hq, e⟩ := Lmm.mp hm
      exact ap2 p hp q hq e.symm)
    have N15 : News g L1 h14 (s1' ++ s2') := news_app T1' N14
    clear N13 F13 N14 NT T1 T2 T1' o14
    (repeat ((fail_if_success (with_reducible show LeaveK _ _ _ _ _ _ _)); w_once))
    rename Fr _ _ _ _ => F16
    rename News _ _ _ _ => N16
    refine leaveK_ F16 N16 ?_
    intro kF kN
    have hq : valN n ql = a / b := hval
    rw [hq] at kN
    exact hQ _ _ _ _ _ _ ⟨s1', s2', rfl, hs1', hs2'⟩ kF kN (fun n2 N2 off => off_own N2 hg off F16) (fun n2 N2 off q hq r hr => new_ne N2 hg off N16 q hq r (.tail _ hr))
end
end
section
theorem rs_E1 : True := by
  w_top off
  trivial
section
noncomputable def totLen (pcs : List (Str × Str)) : Nat := (pcs.map fun p => p.1.length + p.2.length).sum
theorem preSum_eq (f : Nat -> Int) (n : Nat) : preSum f n = ((List.range n).map f).sum := by
  induction n with
  | zero => rfl
  | succ n ih => rw [preSum, ih, List.range_succ, Lmp, List.sum_append]; simp
theorem cast_sum {α : Type} (f : α -> Nat) (l : List α) : (l.map fun p => ((f p : Nat) : Int)).sum = ((l.map f).sum : Nat) := by
  induction l with
  | nil => rfl
  | cons p r ih => simp only [Lpc, List.sum_cons, ih, Int.natCast_add]
theorem preSum_tot (pcs : List (Str × Str)) : preSum (fun j => (((pcs.getD j default).1.length + (pcs.getD j default).2.length : Nat) : Int)) pcs.length = (totLen pcs : Nat) := by
  rw [preSum_eq]
  have e : (List.range pcs.length).map (fun j => (((pcs.getD j default).1.length + (pcs.getD j default).2.length : Nat) : Int)) = pcs.map fun p => ((p.1.length + p.2.length : Nat) : Int) := by
    apply List.ext_getElem
    · simp
    · intro i h1 h2
      simp at h1 h2
      simp [List.getD_eq_getElem?_getD, List.getElem?_eq_getElem h2]
  rw [e]
  exact cast_sum _ _
theorem gen_toks {prog : Program} {A : Around} {K a : Addr} {n : Nat} {F : Nat -> Value -> Prop} {tk : Nat} (h : Gen prog w A K a n F s) (ht : s.toks ≤ tk) : Gen prog w A K a n F { s with toks := tk } := by
  obtain ⟨fp, wr, g, St, W, hst, h1, h2, h3, h4⟩ := h
  exact ⟨fp, wr, g, St, W, W.frame 0 s s.heap tk hst ht fun _ _ _ e => e, h1, h2, h3, h4⟩
noncomputable abbrev rowFull (w : World) (rw d : Addr) (tl : List (Addr × Obj)) (e : Nat) (fi : Int) (tf tk0 : Tok) (P : Addr) (op : Obj) : List (Addr × Obj) := rowAt w rw d (refsOf tl) e fi tf tk0 ++ (tl ++ [(P, op)])
theorem c_len (cx : Cx w (j + 1) dp un A₀ env outer base h₀ L) (F : Fr h₀ L s.heap m) {rw d : Addr} {tl : List (Addr × Obj)} {pcs : List (Str × Str)} {e : Nat} {fi : Int} {tf tk0 : Tok} {op : Obj} (O : News h₀ L s.heap (rowFull w rw d tl e fi tf tk0 140 op)) (htl : TupsAre tl (pcs.map pieceD)) (htab : TabOk op) (G : AllBare s.gens)
    (hfi : 0 ≤ fi ∧ fi < 1000000) (hsz : pcs.length ≤ 100) (hpc : ∀ p ∈ pcs, p.1.length ≤ 1000 ∧ p.2.length ≤ 1000)
    (hQ : ∀ s' t op', Fr h₀ L s'.heap m -> News h₀ L s'.heap (rowFull w rw d tl e fi tf tk0 140 op') -> TabOk op' -> AllBare s'.gens -> s'.os = s.os -> s'.drawn = s.drawn -> Others h₀ L ((rowFull w rw d tl e fi tf tk0 140 op).map (·.1)) s.heap s'.heap -> Q (.int (fi + (totLen pcs : Nat)) t) s') :
    wpAny (model RWQ.row.prog w) (AA dp un env outer) (call (.ref 145) [.ref rw] []) Q E s := by
  ((refine wpAny_call ?_; (rename Fr _ _ _ _ => eF); (rename Cx _ _ _ _ _ _ _ _ _ _ => eC); (refine' enterP eC eF (by assumption) ?k6 ?k7 ?k9 ?kB ?_ ?c5 ?c2 ?c3 ?c4); (case k6 => k_is); (case k7 => k_is); (case k9 => first | exact BindsTo.of_eq rfl | exact binds_K (by k_in) rfl (by k_is) rfl rfl rfl); (case c5 => decide); (case kB => exact locs rfl); (case c2 => exact rfl); (case c3 => exact rfl); (case c4 => exact rfl)))
  intro dp' un' outer' A' Q' g L1 h1
  intro FG hg F1 N1 cx1 l1 LT1
  have X1 := cx1.X
  have B1 := cx1.B
  have hf1 := cx1.f
  have hke1 := cx1.k
  have hdp1 := cx1.d
  have hun1 := cx1.u
  obtain ⟨p1, loose1, mean1, mg1, mb1, T1⟩ := cx1.T
  (try k_lt l1)
  (((try dsimp only); (try k_fold)))
  iterate 6 (item_end_look)
  refine gen_row (Fp := fun i y => ∃ t, y = .int (((pcs.getD i default).1.length + (pcs.getD i default).2.length : Nat) : Int) t) F1 N1 htl X1 T1 (codeHd_of_K X1 (by kernel_rfl)) htab G (by k_is) (by k_is) rfl rfl rfl rfl rfl (by decide) rfl (by omega) rfl rfl rfl (by decide) rfl rfl rfl (by decide) rfl cx1.lt ?_ ?_ (fun _ => rfl)
  · intro C code A' E' i p tx ty t m₂ hA hD hU hp Ft hma hmb
    have hp' := hpc p (Lmg hp)
    clear F1 N1
    have h1 : ¬ (p.1.length : Int) ≥ 2 ^ 63 := by omega
    have h2 : ¬ (p.2.length : Int) ≥ 2 ^ 63 := by omega
    iterate 16 (item_end_look)
    refine ⟨?_, _, _, rfl, fun _ _ e => e⟩
    rw [List.getD_eq_getElem?_getD, hp]
    simp only [Option.getD_some, Int.natCast_add]
    exact ⟨_, rfl⟩
  · intro a s5 op' Kb hLK F5 N5 htab5 hKb G5 hos hdr hgen
    clear F1 N1
    iterate 3 (item_end_look)
    ((refine acc_own (by k_asm) (by k_asm) (inst_acc (by k_asm) (by walk_at "MEM") (by walk_at "MEM")) (by k_is) (by k_is) (by k_is) (by k_is) (by k_is) (by k_is) (by k_get) (by k_handed) ?_))
    item_end_look
    refine sum_start_rows (s := { s5 with toks := s5.toks + 1 }) F5 G5 (gen_toks hgen (by simp)) hLK hfi (fun j => (((pcs.getD j default).1.length + (pcs.getD j default).2.length : Nat) : Int)) (fun j v hv => hv.2) ?_
    intro s6 t6 F6 G6 hos6 hdr6 hk6
    rw [preSum_tot]
    have N6 : News g L1 s6.heap (rowFull w rw d tl e fi tf tk0 140 op') := fun q hq => ⟨hk6 _ _ (hKb q hq) (N5 q hq).1, (N5 q hq).2⟩
    clear N5 F5
    (repeat ((fail_if_success (with_reducible show LeaveK _ _ _ _ _ _ _)); item_end_look))
    refine leaveK_ F6 N6 ?_
    intro kF kN
    exact hQ _ _ _ kF kN htab5 G6 (hos6.trans hos) (hdr6.trans hdr) (fun n2 N off => off_own N hg off F6)
end
end
section
theorem rs_E2 : True := by
  w_top off
  trivial
section
noncomputable def rowText (pcs : List (Str × Str)) : Str := Txt.join (Zs "") (pcs.map fun p => Txt.join (Zs "") [p.1, p.2])
theorem text_list (pcs : List (Str × Str)) : (List.range pcs.length).map (fun j => Txt.join (Zs "") [(pcs.getD j default).1, (pcs.getD j default).2]) = pcs.map fun p => Txt.join (Zs "") [p.1, p.2] := by
  apply List.ext_getElem
  · simp
  · intro i h1 h2
    simp at h1 h2
    simp [List.getD_eq_getElem?_getD, List.getElem?_eq_getElem h2]
theorem text_eq (pcs : List (Str × Str)) : Txt.join (Zs "") ((List.range pcs.length).map (fun j => Txt.join (Zs "") [(pcs.getD j default).1, (pcs.getD j default).2])) = rowText pcs := by
  rw [text_list]; rfl
theorem text_ok {pcs : List (Str × Str)} (hsz : pcs.length ≤ 100) (hpc : ∀ p ∈ pcs, p.1.length ≤ 1000 ∧ p.2.length ≤ 1000) : JoinOk (Zs "") ((List.range pcs.length).map (fun j => Txt.join (Zs "") [(pcs.getD j default).1, (pcs.getD j default).2])) = true := by
  rw [text_list]
  refine joinOk_of ?_
  have h1 : ((pcs.map fun p => Txt.join (Zs "") [p.1, p.2]).map (·.length)).sum ≤ pcs.length * 2000 := by
    clear hsz
    induction pcs with
    | nil => simp
    | cons p r ih =>
      have hp := hpc p (.head _)
      have h2 := StrLaws.join_length_le (Zs "") [p.1, p.2]
      have h3 := ih fun q hq => hpc q (.tail _ hq)
      have h4 : (Zs "").length = 0 := rfl
      rw [h4] at h2
      simp only [Lpc, List.map_nil, List.sum_cons, List.sum_nil, Llc] at h2 h3 ⊢
      have h5 : (Txt.join (Zs "") [p.1, p.2]).length ≤ 2000 := by
        refine Nlt h2 ?_
        omega
      omega
  have h4 : (Zs "").length = 0 := rfl
  rw [h4]
  omega
theorem c_str (cx : Cx w (j + 1) dp un A₀ env outer base h₀ L) (F : Fr h₀ L s.heap m) {rw d : Addr} {tl : List (Addr × Obj)} {pcs : List (Str × Str)} {e : Nat} {fi : Int} {tf tk0 : Tok} {op : Obj} (O : News h₀ L s.heap (rowFull w rw d tl e fi tf tk0 147 op)) (htl : TupsAre tl (pcs.map pieceD)) (htab : TabOk op) (G : AllBare s.gens)
    (hsz : pcs.length ≤ 100) (hpc : ∀ p ∈ pcs, p.1.length ≤ 1000 ∧ p.2.length ≤ 1000)
    (hQ : ∀ s' t op', Fr h₀ L s'.heap m -> News h₀ L s'.heap (rowFull w rw d tl e fi tf tk0 147 op') -> TabOk op' -> AllBare s'.gens -> s'.os = s.os -> Others h₀ L ((rowFull w rw d tl e fi tf tk0 147 op).map (·.1)) s.heap s'.heap -> Q (.str (rowText pcs) t) s') :
    wpAny (model RWQ.row.prog w) (AA dp un env outer) (call (.ref 152) [.ref rw] []) Q E s := by
  ((refine wpAny_call ?_; (rename Fr _ _ _ _ => eF); (rename Cx _ _ _ _ _ _ _ _ _ _ => eC); (refine' enterP eC eF (by assumption) ?k6 ?k7 ?k9 ?kB ?_ ?c5 ?c2 ?c3 ?c4); (case k6 => k_is); (case k7 => k_is); (case k9 => first | exact BindsTo.of_eq rfl | exact binds_K (by k_in) rfl (by k_is) rfl rfl rfl); (case c5 => decide); (case kB => exact locs rfl); (case c2 => exact rfl); (case c3 => exact rfl); (case c4 => exact rfl)))
  intro dp' un' outer' A' Q' g L1 h1
  intro FG hg F1 N1 cx1 l1 LT1
  have X1 := cx1.X
  have B1 := cx1.B
  have hf1 := cx1.f
  have hke1 := cx1.k
  have hdp1 := cx1.d
  have hun1 := cx1.u
  obtain ⟨p1, loose1, mean1, mg1, mb1, T1⟩ := cx1.T
  (try k_lt l1)
  (((try dsimp only); (try k_fold)))
  iterate 7 (item_end_look)
  refine gen_row (Fp := fun i y => ∃ t, y = .str (Txt.join (Zs "") [(pcs.getD i default).1, (pcs.getD i default).2]) t) F1 N1 htl X1 T1 (codeHd_of_K X1 (by kernel_rfl)) htab G (by k_is) (by k_is) rfl rfl rfl rfl rfl (by decide) rfl (by omega) rfl rfl rfl (by decide) rfl rfl rfl (by decide) rfl cx1.lt ?_ ?_ (fun _ => rfl)
  · intro C code A' E' i p tx ty t m₂ hA hD hU hp Ft hma hmb
    have hp' := hpc p (Lmg hp)
    clear F1 N1
    have Nt : News g C t.heap [] := News.nil
    iterate 11 (item_end_look)
    refine wpAny_newObj_type ?_ (by show (2 : Nat) ≤ sizeLine; rw [sizeLine_eq]; decide)
    have up : ∀ b o, t.heap.get? b = some o -> (t.heap.push { cls := .type "tuple", data := .seq [Value.str p.1 tx, Value.str p.2 ty].toArray }).get? b = some o := fun b o e => Heap.get?_push_of_some _ e
    have hT : IsTup (t.heap.push { cls := .type "tuple", data := .seq [Value.str p.1 tx, Value.str p.2 ty].toArray }) t.heap.objs.size #[.str p.1 tx, .str p.2 ty] := ⟨_, Heap.get?_push_size _ rfl, rfl, _, rfl⟩
    iterate 1 (item_end_look)
    have hz : ([p.1, p.2].map (·.length)).sum + [p.1, p.2].length * (Zs "").length ≤ 16777216 := by
      have h4 : (Zs "").length = 0 := rfl
      rw [h4]
      simp only [Lpc, List.map_nil, List.sum_cons, List.sum_nil, Llc]
      omega
    refine join_tuple (items := #[.str p.1 tx, .str p.2 ty]) (ys := [p.1, p.2]) hT (.cons _ _ (.cons _ _ .nil)) hz ?_
    intro t' k
    refine ⟨?_, _, _, rfl, up⟩
    rw [List.getD_eq_getElem?_getD, hp]
    exact ⟨_, rfl⟩
  · intro a s5 op' Kb hLK F5 N5 htab5 hKb G5 hos hdr hgen
    clear F1 N1
    item_end_look
    refine join_rowsK F5 G5 hgen hLK (fun j => Txt.join (Zs "") [(pcs.getD j default).1, (pcs.getD j default).2]) (fun j v hv => hv.2) ?_ ?_ (by rw [sizeLine_eq]; omega)
    · exact text_ok hsz hpc
    intro s6 t6 F6 G6 hos6 hk6
    rw [text_eq]
    have N6 : News g L1 s6.heap (rowFull w rw d tl e fi tf tk0 147 op') := fun q hq => ⟨hk6 _ _ (hKb q hq) (N5 q hq).1, (N5 q hq).2⟩
    clear N5 F5
    (repeat ((fail_if_success (with_reducible show LeaveK _ _ _ _ _ _ _)); item_end_look))
    refine leaveK_ F6 N6 ?_
    intro kF kN
    exact hQ _ _ _ kF kN htab5 G6 (hos6.trans hos) (fun n2 N off => off_own N hg off F6)
end
end
section
theorem rs_R0 : True := by
  w_top off
  trivial
noncomputable def lamOf : Stmt -> Expr
  | .Assign _ v _ => v
  | _ => default
noncomputable def ruleLam : Expr := lamOf ((fnBody (stAt 22)).getD 4 (.Pass default))
noncomputable def lamP : Expr -> Arguments
  | .Lambda a _ _ _ => a
  | _ => default
noncomputable def lamB : Expr -> Expr
  | .Lambda _ b _ _ => b
  | _ => default
noncomputable def lamS : Expr -> Scope
  | .Lambda _ _ s _ => s
  | _ => default
noncomputable abbrev en (w : World) (n : String) (t : Tok) (v : Value) : DictEntry := ⟨PyData.keyHash w.params (Zs n), .str (Zs n) t, v⟩
structure RuleP where
  (a d l1 l2 f c cS cO aO dO l3 l4 : Addr)
  (oc oS oO : Obj)
  (pm ct : Value)
  (t1 t2 t3 t4 t5 t6 t7 t8 t9 t10 tv : Tok)
  ags : List Value
  e : Nat
noncomputable abbrev qLam : Str := Zs "_law_rule.<locals>.<lambda>"
noncomputable abbrev ownObjs (w : World) (p : RuleP) : List (Addr × Obj) :=
  [(p.aO, instObj 59 p.dO), (p.dO, dictOf [en w "useragents" p.t7 (.ref p.l4), en w "rulelines" p.t8 (.ref p.l3), en w "delay" p.t9 .none, en w "req_rate" p.t10 .none] 4), (p.l4, Wl p.ags.toArray p.e)]
noncomputable abbrev ruleObjs (w : World) (p : RuleP) (v : Str) : List (Addr × Obj) :=
  (p.a, instObj 59 p.d) :: (p.d, dictOf [en w "useragents" p.t1 (.ref p.l1), en w "rulelines" p.t2 (.ref p.l2), en w "delay" p.t3 .none, en w "req_rate" p.t4 .none, en w "applies_to" p.t5 (.ref p.f), en w "allowance" p.t6 (.str v p.tv)] 6) ::
    (p.f, kla_obj (Zs "<lambda>") qLam (lamP ruleLam) (lamB ruleLam) (lamS ruleLam) [(Zs "size", p.cS), (Zs "own", p.cO)] p.pm p.c p.ct) :: (p.c, p.oc) :: (p.cS, p.oS) :: (p.cO, p.oO) :: ownObjs w p
noncomputable def inS (s x : Str) : Bool := !(Builtin.Str.occurrences s x 0 s.length 1).isEmpty
noncomputable def agsOf (x : Str) (ags : List Value) : Prop := ∃ t, (inS (Zs "ace") x = true ∧ ∃ t', ags = [.str (Zs "*") t', .str (Txt.upper x) t]) ∨ (inS (Zs "ace") x = false ∧ ags = [.str (Txt.upper x) t])
structure RuleOk (p : RuleP) (x : Str) (n : Int) : Prop where
  s : ∃ t, p.oS.data = .cell (some (.int n t))
  o : p.oO.data = .cell (some (.ref p.aO))
  c : ∃ cs t, p.oc.data = .fields cs ∧ cs[1]? = some (.str qLam t)
  g : agsOf x p.ags
section
theorem inS_t {x : Str} (h : (Builtin.Str.occurrences (Zs "ace") x 0 (Zs "ace").length 1).isEmpty = false) : inS (Zs "ace") x = true := by unfold inS; rw [h]; rfl
theorem inS_f {x : Str} (h : (Builtin.Str.occurrences (Zs "ace") x 0 (Zs "ace").length 1).isEmpty = true) : inS (Zs "ace") x = false := by unfold inS; rw [h]; rfl
theorem rule_end {g h9 : Heap} {L1 : Addr} {m9 : Str -> Option Value} {st ledger : List (Addr × Obj)} {x v : Str} {n : Int} {R : Result -> Shared -> Prop} {sh : Shared} {tk : Nat} {arr : Array Value} (hg : ∀ b o, s.heap.get? b = some o -> b ∉ st.map (·.1) -> g.get? b = some o)
    (F9 : Fr g L1 h9 m9) (N9 : News g L1 h9 ledger) (p : RuleP)
    (hsh : sh = { s with heap := h9, toks := tk })
    (m1 : (p.a, instObj 59 p.d) ∈ ledger) (m2 : (p.d, dictOf [en w "useragents" p.t1 (.ref p.l1), en w "rulelines" p.t2 (.ref p.l2), en w "delay" p.t3 .none, en w "req_rate" p.t4 .none, en w "applies_to" p.t5 (.ref p.f), en w "allowance" p.t6 (.str v p.tv)] 6) ∈ ledger)
    (m3 : (p.f, kla_obj (Zs "<lambda>") qLam (lamP ruleLam) (lamB ruleLam) (lamS ruleLam) [(Zs "size", p.cS), (Zs "own", p.cO)] p.pm p.c p.ct) ∈ ledger) (m4 : (p.c, p.oc) ∈ ledger) (m5 : (p.cS, p.oS) ∈ ledger) (m6 : (p.cO, p.oO) ∈ ledger)
    (ho : p.oO.data = .cell (some (.ref p.aO))) (hs : ∃ t, p.oS.data = .cell (some (.int n t))) (hc : ∃ cs t, p.oc.data = .fields cs ∧ cs[1]? = some (.str qLam t))
    (m7 : (p.aO, instObj 59 p.dO) ∈ ledger) (m8 : (p.dO, dictOf [en w "useragents" p.t7 (.ref p.l4), en w "rulelines" p.t8 (.ref p.l3), en w "delay" p.t9 .none, en w "req_rate" p.t10 .none] 4) ∈ ledger) (m9' : (p.l4, Wl arr p.e) ∈ ledger)
    (hags : p.ags = arr.toList) (hag : agsOf x arr.toList) (htab : ∃ st', NestTab 249 214 22 qLam st' ∧ (st'.length = 2 ∧ (st.length = 2 -> st' = st)) ∧ ∀ q ∈ st', q ∈ ledger)
    (hQ : ∀ (p : RuleP) h' tk st', RuleOk p x n -> NestTab 249 214 22 qLam st' -> (st'.length = 2 ∧ (st.length = 2 -> st' = st)) -> Fr h₀ L h' m -> News h₀ L h' (ruleObjs w p v ++ st') -> Others h₀ L (st.map (·.1)) s.heap h' -> (∀ n2, News h₀ L s.heap n2 -> (∀ q ∈ n2, q.1 ∉ st.map (·.1)) -> ∀ q ∈ n2, ∀ r ∈ ruleObjs w p v ++ st', q.1 ≠ r.1) -> Q (.ref p.a) { s with heap := h', toks := tk })
    (hR : ∀ s', Q (.ref p.a) s' -> R (.ok (.ret (.ref p.a))) s') : LeaveK h₀ L m g R (.ref p.a) sh := by
  subst hsh
  obtain ⟨st', hst', hkp, hsub⟩ := htab
  have harr : arr = p.ags.toArray := by rw [hags]
  rw [← hags] at hag
  subst harr
  have sub1 : ∀ q ∈ ruleObjs w p v, q ∈ ledger := by
    intro q hq
    simp only [ruleObjs, ownObjs, Lmc, Lnm, or_false] at hq
    rcases hq with rfl | rfl | rfl | rfl | rfl | rfl | rfl | rfl | rfl <;> assumption
  refine leaveK_ F9 N9 ?_
  intro kF kN
  exact hR _ (hQ p _ _ st' ⟨hs, ho, hc, hag⟩ hst' hkp kF (news_app (news_sub kN sub1) (news_sub kN hsub)) (fun n2 N2 off => off_own N2 hg off F9) (fun n2 N2 off q hq r hr => new_ne N2 hg off (news_app (news_sub N9 sub1) (news_sub N9 hsub)) q hq r hr))
end
end
section
theorem rs_R3 : True := by
  w_top off
  trivial
noncomputable def Keeps (h₀ : Heap) (L : Addr) (h h' : Heap) : Prop := ∀ n2, News h₀ L h n2 -> News h₀ L h' n2
theorem keeps_own {g h h' h₀ : Heap} {L L1 : Addr} {own : List (Addr × Obj)} {m' : Str -> Option Value} (N : News h₀ L h own) (hg : ∀ b o', h.get? b = some o' -> b ∉ own.map (·.1) -> g.get? b = some o') (F' : Fr g L1 h' m') (N' : News g L1 h' own) : Keeps h₀ L h h' := fun n2 N2 p hp => by
  by_cases e : p.1 ∈ own.map (·.1)
  · obtain ⟨q, hq, e'⟩ := Lmm.mp e
    have h1 := (N q hq).1
    have h2 := (N2 p hp).1
    rw [e', h2] at h1
    have h3 := (N' q hq).1
    rw [e', ← Option.some.inj h1] at h3
    exact ⟨h3, (N2 p hp).2⟩
  · exact off_own (n2 := [p]) (own := own) (fun q hq => by rw [Lms.mp hq]; exact N2 p hp) hg (fun q hq => by rw [Lms.mp hq]; exact e) F' p (Lms.mpr rfl)
noncomputable def headOf (y : Str) : Str := (Txt.split y (Zs "/")).getD 0 default
theorem star_eq {x : Str} (h : (x != Zs "*") = false) : x = Zs "*" := by simpa using h
theorem hd_of {l : List Str} {y y0 : Str} (h : l = Txt.split y (Zs "/")) (h0 : l[Int.toNat 0]? = some y0) : headOf y = y0 := by
  unfold headOf
  rw [← h, List.getD_eq_getElem?_getD, show (0 : Nat) = Int.toNat 0 from rfl, h0]; rfl
theorem inS_true {s x : Str} (h : (Builtin.Str.occurrences s x 0 s.length 1).isEmpty = false) : inS s x = true := by unfold inS; rw [h]; rfl
theorem inS_false {s x : Str} (h : (Builtin.Str.occurrences s x 0 s.length 1).isEmpty = true) : inS s x = false := by unfold inS; rw [h]; rfl
theorem sp_len {l : List Str} {y y0 : Str} (h : ∀ a, a ∈ l -> a.length ≤ y.length) (h0 : l[Int.toNat 0]? = some y0) (hy : y.length ≤ 200) : y0.length ≤ 200 := Nlt (h _ (Lmg h0)) hy
section
theorem c_applies_s (cx : Cx w (j + 1) dp un A₀ env outer base h₀ L) (F : Fr h₀ L s.heap m) (p : RuleP) (N : News h₀ L s.heap (ownObjs w p)) (x y : Str) (ty : Tok) (hy : y.length ≤ 200) (hx : x.length ≤ 10) (hag : agsOf x p.ags) (hux : Txt.upper x ≠ Zs "*") (hlu : (Txt.upper x).length ≤ 30)
    (hQ : ∀ h' tk, Fr h₀ L h' m -> Keeps h₀ L s.heap h' -> Q (.bool (inS (Txt.lower (headOf y)) (Txt.lower (Txt.upper x)))) { s with heap := h', toks := tk }) :
    wpAny (model RWQ.row.prog w) (AA dp un env outer) (call (.ref 49) [.ref p.aO, .str y ty] []) Q E s := by
  obtain ⟨a, d, l1, l2, f, c, cS, cO, aO, dO, l3, l4, oc, oS, oO, pm, ct, t1, t2, t3, t4, t5, t6, t7, t8, t9, t10, tv, ags, e⟩ := p
  have N0 := N
  obtain ⟨t, ⟨hin, t', rfl⟩ | ⟨hin, rfl⟩⟩ := hag
  · dsimp only [ownObjs] at N N0 ⊢
    clear N0
    revert hin; revert hQ; revert hlu; revert hux; revert hx; revert hy; revert N; revert F; revert cx
    revert e; revert l3; revert t10; revert t9; revert t8; revert t7; revert l4; revert dO; revert aO; revert t'; revert t; revert ty; revert y; revert x; revert E; revert Q; revert s; revert m; revert L; revert h₀; revert base; revert outer; revert env; revert A₀; revert un; revert dp; revert j; revert w
    apply frz22; case n => walk_at "FZN"
    intro w j dp un A₀ env outer base h₀ L m s Q E x y ty t t' aO dO l4
    clear_value w j dp un A₀ env outer base h₀ L m s Q E x y ty t t' aO dO l4
    apply frz6; case n => walk_at "FZN"
    intro t7 t8 t9 t10 l3 e
    clear_value t7 t8 t9 t10 l3 e
    intro cx F N hy hx hux hlu hQ hin
    have N0 := N
    ((refine wpAny_call ?_; (rename Fr _ _ _ _ => eF); (rename Cx _ _ _ _ _ _ _ _ _ _ => eC); (refine' enterP eC eF (by assumption) ?k6 ?k7 ?k9 ?kB ?_ ?c5 ?c2 ?c3 ?c4); (case k6 => k_is); (case k7 => k_is); (case k9 => first | exact BindsTo.of_eq rfl | exact binds_K (by k_in) rfl (by k_is) rfl rfl rfl); (case c5 => decide); (case kB => exact locs rfl); (case c2 => exact rfl); (case c3 => exact rfl); (case c4 => exact rfl)))
    apply frz8; case n => walk_at "FZN"
    intro dp' un' outer' A' Q' g L1 h1
    clear_value dp' un' outer' A' Q' g L1 h1
    intro FG hg F1 N1 cx1 l1 LT1
    have X1 := cx1.X
    have B1 := cx1.B
    have hf1 := cx1.f
    have hke1 := cx1.k
    have hdp1 := cx1.d
    have hun1 := cx1.u
    obtain ⟨p1, loose1, mean1, mg1, mb1, T1⟩ := cx1.T
    (try k_lt l1)
    (((try dsimp only); (try k_fold)))
    k_steps
    have hy0 := sp_len (by assumption) (by assumption) hy
    have hy1 := hd_of (by assumption) (by assumption)
    k_steps
    all_goals (first
      | exact absurd (star_eq (by assumption)) hux
      | (rename News _ _ _ _ => N9
         rename Fr _ _ _ _ => F9
         rw [hy1] at hQ
         first
         | rw [inS_true (by assumption)] at hQ
         | rw [inS_false (by assumption)] at hQ
         refine leaveK_ F9 N9 ?_
         intro kF kN
         exact hQ _ _ kF (keeps_own N0 hg F9 (by
           refine faCons ?_ (faCons ?_ (faCons ?_ faNil))
           · exact N9 _ (by walk_at "MEM")
           · exact N9 _ (by walk_at "MEM")
           · exact N9 _ (by walk_at "MEM")))))
  · dsimp only [ownObjs] at N N0 ⊢
    clear N0
    revert hin; revert hQ; revert hlu; revert hux; revert hx; revert hy; revert N; revert F; revert cx
    revert e; revert l3; revert t10; revert t9; revert t8; revert t7; revert l4; revert dO; revert aO; revert t; revert ty; revert y; revert x; revert E; revert Q; revert s; revert m; revert L; revert h₀; revert base; revert outer; revert env; revert A₀; revert un; revert dp; revert j; revert w
    apply frz22; case n => walk_at "FZN"
    intro w j dp un A₀ env outer base h₀ L m s Q E x y ty t aO dO l4 t7
    clear_value w j dp un A₀ env outer base h₀ L m s Q E x y ty t aO dO l4 t7
    apply frz5; case n => walk_at "FZN"
    intro t8 t9 t10 l3 e
    clear_value t8 t9 t10 l3 e
    intro cx F N hy hx hux hlu hQ hin
    have N0 := N
    ((refine wpAny_call ?_; (rename Fr _ _ _ _ => eF); (rename Cx _ _ _ _ _ _ _ _ _ _ => eC); (refine' enterP eC eF (by assumption) ?k6 ?k7 ?k9 ?kB ?_ ?c5 ?c2 ?c3 ?c4); (case k6 => k_is); (case k7 => k_is); (case k9 => first | exact BindsTo.of_eq rfl | exact binds_K (by k_in) rfl (by k_is) rfl rfl rfl); (case c5 => decide); (case kB => exact locs rfl); (case c2 => exact rfl); (case c3 => exact rfl); (case c4 => exact rfl)))
    apply frz8; case n => walk_at "FZN"
    intro dp' un' outer' A' Q' g L1 h1
    clear_value dp' un' outer' A' Q' g L1 h1
    intro FG hg F1 N1 cx1 l1 LT1
    have X1 := cx1.X
    have B1 := cx1.B
    have hf1 := cx1.f
    have hke1 := cx1.k
    have hdp1 := cx1.d
    have hun1 := cx1.u
    obtain ⟨p1, loose1, mean1, mg1, mb1, T1⟩ := cx1.T
    (try k_lt l1)
    (((try dsimp only); (try k_fold)))
    k_steps
    have hy0 := sp_len (by assumption) (by assumption) hy
    have hy1 := hd_of (by assumption) (by assumption)
    k_steps
    all_goals (first
      | exact absurd (star_eq (by assumption)) hux
      | (rename News _ _ _ _ => N9
         rename Fr _ _ _ _ => F9
         rw [hy1] at hQ
         first
         | rw [inS_true (by assumption)] at hQ
         | rw [inS_false (by assumption)] at hQ
         refine leaveK_ F9 N9 ?_
         intro kF kN
         exact hQ _ _ kF (keeps_own N0 hg F9 (by
           refine faCons ?_ (faCons ?_ (faCons ?_ faNil))
           · exact N9 _ (by walk_at "MEM")
           · exact N9 _ (by walk_at "MEM")
           · exact N9 _ (by walk_at "MEM")))))
theorem c_applies_n (cx : Cx w (j + 1) dp un A₀ env outer base h₀ L) (F : Fr h₀ L s.heap m) (p : RuleP) (N : News h₀ L s.heap (ownObjs w p)) (x : Str) (hx : x.length ≤ 10) (hag : agsOf x p.ags) (hux : Txt.upper x ≠ Zs "*") (hlu : (Txt.upper x).length ≤ 30)
    (hQ : ∀ h' tk, Fr h₀ L h' m -> Keeps h₀ L s.heap h' -> Q (.bool (inS (Zs "ace") x)) { s with heap := h', toks := tk }) :
    wpAny (model RWQ.row.prog w) (AA dp un env outer) (call (.ref 49) [.ref p.aO, .none] []) Q E s := by
  obtain ⟨a, d, l1, l2, f, c, cS, cO, aO, dO, l3, l4, oc, oS, oO, pm, ct, t1, t2, t3, t4, t5, t6, t7, t8, t9, t10, tv, ags, e⟩ := p
  have N0 := N
  have hux' : (Txt.upper x == Zs "*") = false := by simpa using hux
  have hux2 : (Zs "*" == Txt.upper x) = false := by simpa using fun e => hux e.symm
  obtain ⟨t, ⟨hin, t', rfl⟩ | ⟨hin, rfl⟩⟩ := hag
  · dsimp only [ownObjs] at N N0 ⊢
    rw [hin] at hQ
    ((refine wpAny_call ?_; (rename Fr _ _ _ _ => eF); (rename Cx _ _ _ _ _ _ _ _ _ _ => eC); (refine' enterP eC eF (by assumption) ?k6 ?k7 ?k9 ?kB ?_ ?c5 ?c2 ?c3 ?c4); (case k6 => k_is); (case k7 => k_is); (case k9 => first | exact BindsTo.of_eq rfl | exact binds_K (by k_in) rfl (by k_is) rfl rfl rfl); (case c5 => decide); (case kB => exact locs rfl); (case c2 => exact rfl); (case c3 => exact rfl); (case c4 => exact rfl)))
    intro dp' un' outer' A' Q' g L1 h1
    intro FG hg F1 N1 cx1 l1 LT1
    have X1 := cx1.X
    have B1 := cx1.B
    have hf1 := cx1.f
    have hke1 := cx1.k
    have hdp1 := cx1.d
    have hun1 := cx1.u
    obtain ⟨p1, loose1, mean1, mg1, mb1, T1⟩ := cx1.T
    (try k_lt l1)
    (((try dsimp only); (try k_fold)))
    k_steps
    rename News _ _ _ _ => N9
    rename Fr _ _ _ _ => F9
    show LeaveK _ _ _ _ _ _ _
    refine leaveK_ F9 N9 ?_
    intro kF kN
    have hany : ([Zs "*", Txt.upper x].any fun x => x == Zs "*") = true := by simp
    show Q (.bool _) _
    rw [hany]
    exact hQ _ _ kF (keeps_own N0 hg F9 (by
           refine faCons ?_ (faCons ?_ (faCons ?_ faNil))
           · exact N9 _ (by walk_at "MEM")
           · exact N9 _ (by walk_at "MEM")
           · exact N9 _ (by walk_at "MEM")))
  · dsimp only [ownObjs] at N N0 ⊢
    rw [hin] at hQ
    ((refine wpAny_call ?_; (rename Fr _ _ _ _ => eF); (rename Cx _ _ _ _ _ _ _ _ _ _ => eC); (refine' enterP eC eF (by assumption) ?k6 ?k7 ?k9 ?kB ?_ ?c5 ?c2 ?c3 ?c4); (case k6 => k_is); (case k7 => k_is); (case k9 => first | exact BindsTo.of_eq rfl | exact binds_K (by k_in) rfl (by k_is) rfl rfl rfl); (case c5 => decide); (case kB => exact locs rfl); (case c2 => exact rfl); (case c3 => exact rfl); (case c4 => exact rfl)))
    intro dp' un' outer' A' Q' g L1 h1
    intro FG hg F1 N1 cx1 l1 LT1
    have X1 := cx1.X
    have B1 := cx1.B
    have hf1 := cx1.f
    have hke1 := cx1.k
    have hdp1 := cx1.d
    have hun1 := cx1.u
    obtain ⟨p1, loose1, mean1, mg1, mb1, T1⟩ := cx1.T
    (try k_lt l1)
    (((try dsimp only); (try k_fold)))
    k_steps
    rename News _ _ _ _ => N9
    rename Fr _ _ _ _ => F9
    show LeaveK _ _ _ _ _ _ _
    refine leaveK_ F9 N9 ?_
    intro kF kN
    have hany : ([Txt.upper x].any fun x => x == Zs "*") = false := by simpa using hux
    show Q (.bool _) _
    rw [hany]
    exact hQ _ _ kF (keeps_own N0 hg F9 (by
           refine faCons ?_ (faCons ?_ (faCons ?_ faNil))
           · exact N9 _ (by walk_at "MEM")
           · exact N9 _ (by walk_at "MEM")
           · exact N9 _ (by walk_at "MEM")))
end
end
section
theorem strKind_pos (s : Str) : 1 ≤ Builtin.Str.strKind s := by
  unfold Builtin.Str.strKind
  split
  · omega
  · split <;> omega
theorem headOf_eq {y : Str} {A B : List Nat} (h : y.cps.toList = A ++ 47 :: B) (hA : 47 ∉ A) : headOf y = ⟨A.toArray⟩ := by
  have hy : y.length = A.length + 1 + B.length := by
    show y.cps.size = _
    rw [← Array.length_toList, h]; simp; omega
  have e1 : Zs "/" = ⟨#[47]⟩ := by decide
  unfold headOf Txt.split
  rw [e1]
  have c1 : (decide (y.length < PySem.Str.length ⟨#[47]⟩) || decide (Builtin.Str.strKind y < Builtin.Str.strKind ⟨#[47]⟩)) = false := by
    have k1 : Builtin.Str.strKind ⟨#[47]⟩ = 1 := by decide +kernel
    have k2 := strKind_pos y
    rw [k1]
    have : PySem.Str.length ⟨#[47]⟩ = 1 := rfl
    rw [this]
    simp; omega
  rw [c1, if_neg (by decide)]
  rcases StrLaws.occ_head y ⟨#[47]⟩ (y.length + 1) (by omega) with ⟨_, hn⟩ | ⟨i, r, h0, h1, h2⟩
  · exfalso
    refine hn A.length ((StrLaws.subAt_one y 47 _).mpr ?_)
    rw [h]; simp
  · rw [h0, if_neg (show ¬ ((i :: r).isEmpty = true) from Bool.false_ne_true)]
    have hi : i = A.length := by
      have hi1 := (StrLaws.subAt_one y 47 i).mp h1
      rw [h] at hi1
      rcases Nat.lt_trichotomy i A.length with hl | hl | hl
      · rw [List.getElem?_append_left hl] at hi1
        exact absurd (Lmg hi1) hA
      · exact hl
      · exfalso
        refine h2 A.length hl ((StrLaws.subAt_one y 47 _).mpr ?_)
        rw [h]; simp
    subst hi
    unfold Builtin.Str.partsBetween
    simp only [Lpc, Lca, List.zip_cons_cons, List.getD_cons_zero]
    unfold Builtin.Str.strSub
    congr 1
    apply Array.toList_inj.mp
    rw [Array.toList_extract, h]
    simp [List.extract]
end
section
noncomputable def loC (c : Nat) : Nat := if 65 ≤ c ∧ c ≤ 90 then c + 32 else c
noncomputable def upC (c : Nat) : Nat := if 97 ≤ c ∧ c ≤ 122 then c - 32 else c
theorem lowerOf_ascii : ∀ c, c < 128 -> Unicode.lowerOf c = [loC c] := by decide +kernel
theorem upperOf_ascii : ∀ c, c < 128 -> Unicode.upperOf c = [upC c] := by decide +kernel
theorem flat_single (g : Nat -> Nat) : ∀ l : List Nat, ((l.map fun c => [g c])).flatten = l.map g
  | [] => rfl
  | c :: l => by rw [Lpc, Lfc, flat_single g l, Lpc]; rfl
theorem placed_list {x : Str} {f : Nat -> Nat -> List Nat} {g : Nat -> Nat} (h : ∀ i c, x.cps[i]? = some c -> f i c = [g c]) : (placed x f).toList = x.cps.toList.map g := by
  unfold placed
  have e : (x.cps.mapIdx fun i c => (f i c).toArray) = x.cps.map fun c => #[g c] := by
    apply Array.ext
    · simp
    · intro i h1 h2
      rw [Array.getElem_mapIdx, Array.getElem_map]
      rw [h i _ (Array.getElem?_eq_getElem (by simpa using h1))]
  rw [e, Array.toList_flatten, Array.toList_map, Lmq]
  exact flat_single g _
theorem lower_list {x : Str} (h : ∀ c ∈ x.cps.toList, c < 128) : (Txt.lower x).cps.toList = x.cps.toList.map loC := by
  refine placed_list fun i c e => ?_
  have hm : c < 128 := h c (Lmg (by rw [Array.getElem?_toList]; exact e))
  unfold Unicode.lowerAt
  rw [e]
  have hs : (c == 0x3A3) = false := by rw [beq_eq_false_iff_ne]; omega
  simp only [hs, Bool.false_and, Bool.false_eq_true, if_false]
  exact lowerOf_ascii c hm
theorem upper_list {x : Str} (h : ∀ c ∈ x.cps.toList, c < 128) : (Txt.upper x).cps.toList = x.cps.toList.map upC :=
  placed_list fun i c e => upperOf_ascii c (h c (Lmg (by rw [Array.getElem?_toList]; exact e)))
end
section
theorem rs_C3 : True := by
  w_top off
  trivial
theorem at3 {l : List Str} {z : List Str} {y a b d e f : Str} (h : l = z) (hz : z = [a, b, d, e, f]) (h0 : l[Int.toNat 3]? = some y) : y = e := by
  subst h hz
  exact (Option.some.inj h0).symm
theorem news_skip2 {h₀ h : Heap} {L : Addr} {a b : Addr × Obj} {l : List (Addr × Obj)} (N : News h₀ L h (a :: b :: l)) : News h₀ L h (a :: l) := news_sub N fun p hp => by
  rcases Lmc.mp hp with rfl | hp
  · exact .head _
  · exact .tail _ (.tail _ hp)
noncomputable def Refused (x : Str) : Prop := Txt.find x (Zs "(") < 0 ∨ (Txt.find x (Zs "(") = 4 ∧ (Txt.find3 x (Zs ")") (4 + 1) < 0 ∨
  ∃ r, Txt.find3 x (Zs ")") (4 + 1) = r ∧ 8 < r ∧ r < x.length ∧ ((Txt.item x (4 + 1) != Txt.item x (r - 1)) = true ∨ ((Txt.item x (4 + 1) != Txt.item x (r - 1)) = false ∧ (Txt.split (Txt.slice x (some (4 + 1)) (some r)) (Txt.item x (4 + 1))).length ≠ 5))))
section
theorem len5 : ∀ {l : List Str}, l.length = 5 -> ∃ a b d e f, l = [a, b, d, e, f]
  | [_, _, _, _, _], _ => ⟨_, _, _, _, _, rfl⟩
theorem refused_len {l : List (Str × Tok)} {z : List Str} (h : l.map (fun x => x.1) = z) (h5 : ((l.length : Nat) : Int) ≠ 5) : z.length ≠ 5 := fun e => h5 (congrArg (fun k : Nat => (k : Int)) (show l.length = 5 by rw [← h, Llm] at e; exact e))
theorem c_parse_all (cx : Cx w (j + 1) dp un A₀ env outer base h₀ L) (F : Fr h₀ L s.heap m) (pe : Addr) (c : Value) (u : Tok) (N : News h₀ L s.heap ((pe, tupOf [c, .int 21 u]) :: news)) (x : Str) (t : Tok) (hx : x.length < 100)
    (hF : (Txt.slice x none (some 3) != Zs "229") = false -> Txt.find x (Zs "(") < 0 ∨ (Txt.find x (Zs "(") = 4 ∧ (Txt.find3 x (Zs ")") (4 + 1) < 0 ∨ (8 < Txt.find3 x (Zs ")") (4 + 1) ∧ Txt.find3 x (Zs ")") (4 + 1) < x.length))))
    (hI : ∀ r a b d e f, (Txt.slice x none (some 3) != Zs "229") = false -> Txt.find x (Zs "(") = 4 -> Txt.find3 x (Zs ")") (4 + 1) = r -> 8 < r -> r < x.length -> (Txt.item x (4 + 1) != Txt.item x (r - 1)) = false -> Txt.split (Txt.slice x (some (4 + 1)) (some r)) (Txt.item x (4 + 1)) = [a, b, d, e, f] -> e.length ≤ 20 ∧ ∃ p, PySem.intText? e = some p)
    (hQ : ∀ r a b d e f p, (Txt.slice x none (some 3) != Zs "229") = false -> Txt.find x (Zs "(") = 4 -> Txt.find3 x (Zs ")") (4 + 1) = r -> 8 < r -> r < x.length -> (Txt.item x (4 + 1) != Txt.item x (r - 1)) = false -> Txt.split (Txt.slice x (some (4 + 1)) (some r)) (Txt.item x (4 + 1)) = [a, b, d, e, f] -> PySem.intText? e = some p -> ∀ h' tk T tt, Fr h₀ L h' m -> News h₀ L h' ((T, tupOf [c, .int p tt]) :: (pe, tupOf [c, .int 21 u]) :: news) -> (∀ q ∈ ((pe, tupOf [c, .int 21 u]) :: news), q.1 < T) -> Q (.ref T) { s with heap := h', toks := tk })
    (hE1 : (Txt.slice x none (some 3) != Zs "229") = true -> ∀ g h' tk e t', Fr h₀ L g m -> RaisedS base g (env :: outer) e (.ref 205) t' [.str x t] ((pe, tupOf [c, .int 21 u]) :: news) h' -> g.UpToSlots h' -> E (.ref e) { s with heap := h', toks := tk }) (hE2 : (Txt.slice x none (some 3) != Zs "229") = false -> Refused x -> ∀ g h' tk e t', Fr h₀ L g m -> RaisedS base g (env :: outer) e (.ref 217) t' [.str x t] ((pe, tupOf [c, .int 21 u]) :: news) h' -> g.UpToSlots h' -> E (.ref e) { s with heap := h', toks := tk }) :
    wpAny (model RWQ.row.prog w) (AA dp un env outer) (call (.ref 226) [.str x t, .ref pe] []) Q E s := by
  revert cx F N hx hF hI hQ hE1 hE2
  revert w j dp un A₀ env outer base h₀ L m news s Q E pe c u x t
  apply frz20; case n => walk_at "FZN"
  intro w j dp un A₀ env outer base h₀ L m news s Q E pe c u x t
  clear_value w j dp un A₀ env outer base h₀ L m news s Q E pe c u x t
  intro cx F N hx hF hI hQ hE1 hE2
  ((refine wpAny_call ?_; (rename Fr _ _ _ _ => eF); (rename Cx _ _ _ _ _ _ _ _ _ _ => eC); (refine' enterP0 eC eF (by assumption) ?k6 ?k7 ?k9 ?kB ?_ ?c5 ?c2 ?c3 ?c4); (case k6 => k_is); (case k7 => k_is); (case k9 => first | exact BindsTo.of_eq rfl | exact binds_K (by k_in) rfl (by k_is) rfl rfl rfl); (case c5 => decide); (case kB => exact locs rfl); (case c2 => exact rfl); (case c3 => exact rfl); (case c4 => exact rfl)))
  apply frz3; case n => walk_at "FZN"
  intro g L1 h1
  clear_value g L1 h1
  intro FG hg F1 N1 cx1 l1
  have X1 := cx1.X
  have B1 := cx1.B
  have hf1 := cx1.f
  have hke1 := cx1.k
  have hdp1 := cx1.d
  have hun1 := cx1.u
  obtain ⟨p1, loose1, mean1, mg1, mb1, T1⟩ := cx1.T
  (try k_lt l1)
  (((try dsimp only); (try k_fold)))
  k_steps
  · rename Heap.MadeExcOf _ _ _ _ _ => hmx
    rename News _ _ _ _ => N9
    rename Fr _ _ _ _ => F9
    refine leave_raiseS (news := (pe, tupOf [c, .int 21 u]) :: news) (A := AA dp un env outer) B1 hmx F9 N9 ?_
    intro h9 t9 R9 RK9 U9
    exact hE1 (by assumption) _ _ _ _ _ FG R9 U9
  · rename Heap.MadeExcOf _ _ _ _ _ => hmx
    rename News _ _ _ _ => N9
    rename Fr _ _ _ _ => F9
    refine leave_raiseS (news := (pe, tupOf [c, .int 21 u]) :: news) (A := AA dp un env outer) B1 hmx F9 N9 ?_
    intro h9 t9 R9 RK9 U9
    exact hE2 (by assumption) (.inl (by assumption)) _ _ _ _ _ FG R9 U9
  · rename Heap.MadeExcOf _ _ _ _ _ => hmx
    rename News _ _ _ _ => N9
    rename Fr _ _ _ _ => F9
    have h4 := ((hF (by assumption)).resolve_left (by assumption)).1
    refine leave_raiseS (news := (pe, tupOf [c, .int 21 u]) :: news) (A := AA dp un env outer) B1 hmx F9 N9 ?_
    intro h9 t9 R9 RK9 U9
    exact hE2 (by assumption) (.inr ⟨h4, .inl (h4 ▸ (by assumption : Txt.find3 x (Zs ")") (Txt.find x (Zs "(") + 1) < 0))⟩) _ _ _ _ _ FG R9 U9
  have hs : (Txt.slice x none (some 3) != Zs "229") = false := by assumption
  obtain ⟨hl, h3⟩ := (hF hs).resolve_left (by assumption)
  obtain ⟨hr1, hr2⟩ := h3.resolve_left (hl ▸ (by assumption : ¬ Txt.find3 x (Zs ")") (Txt.find x (Zs "(") + 1) < 0))
  obtain ⟨r, hr⟩ : ∃ r, Txt.find3 x (Zs ")") (4 + 1) = r := ⟨_, rfl⟩
  rw [hr] at hr1 hr2
  clear hF h3
  rename Fr _ _ _ _ => F9
  simp only [hl, hr] at F9 ⊢
  k_steps
  · rename Heap.MadeExcOf _ _ _ _ _ => hmx
    rename News _ _ _ _ => N9
    rename Fr _ _ _ _ => F9
    refine leave_raiseS (news := (pe, tupOf [c, .int 21 u]) :: news) (A := AA dp un env outer) B1 hmx F9 (news_sub N9 (fun p hp => by first | exact hp | exact .tail _ hp)) ?_
    intro h9 t9 R9 RK9 U9
    exact hE2 hs (.inr ⟨hl, .inr ⟨r, hr, hr1, hr2, .inl (by assumption)⟩⟩) _ _ _ _ _ FG R9 U9
  · rename Heap.MadeExcOf _ _ _ _ _ => hmx
    rename News _ _ _ _ => N9
    rename Fr _ _ _ _ => F9
    rename List.map _ _ = Txt.split _ _ => h5
    refine leave_raiseS (news := (pe, tupOf [c, .int 21 u]) :: news) (A := AA dp un env outer) B1 hmx F9 (news_sub N9 (fun p hp => by first | exact hp | exact .tail _ hp)) ?_
    intro h9 t9 R9 RK9 U9
    exact hE2 hs (.inr ⟨hl, .inr ⟨r, hr, hr1, hr2, .inr ⟨by assumption, refused_len h5 (by assumption)⟩⟩⟩) _ _ _ _ _ FG R9 U9
  · rename_i hy
    rename List.map _ _ = Txt.split _ _ => h5
    rename ((List.length _ : Nat) : Int) = 5 => h6
    obtain ⟨a, b, d, e, f, hsp⟩ := len5 (l := Txt.split (Txt.slice x (some (4 + 1)) (some r)) (Txt.item x (4 + 1))) (by rw [← h5, Llm]; omega)
    obtain rfl := at3 h5 hsp hy
    have he : (Txt.item x (4 + 1) != Txt.item x (r - 1)) = false := by assumption
    obtain ⟨hpl, p, hp⟩ := hI r a b d _ f hs hl hr hr1 hr2 he hsp
    refine KIN.call_text hp (by omega) ?_
    k_steps
    rename News _ _ _ _ => N9
    rename Fr _ _ _ _ => F9
    rename (@LT.lt Nat _ _ _ ∧ _) => l9
    refine leaveK_ F9 N9 ?_
    intro kF kN
    exact hQ r a b d _ f p hs hl hr hr1 hr2 he hsp hp _ _ _ _ kF (news_skip2 kN) (fun q hq => mem_lt_of_allLt (l := (pe, _) :: news) l9.2 q hq)
theorem not_refused {x : Str} {r : Int} (hl : Txt.find x (Zs "(") = 4) (hr : Txt.find3 x (Zs ")") (4 + 1) = r) (hr1 : 8 < r) (he : (Txt.item x (4 + 1) != Txt.item x (r - 1)) = false) (h5 : (Txt.split (Txt.slice x (some (4 + 1)) (some r)) (Txt.item x (4 + 1))).length = 5) : ¬ Refused x := by
  rintro (h | ⟨_, h | ⟨r', h1, h2, h3, h | ⟨_, h⟩⟩⟩)
  · rw [hl] at h; exact absurd h (by decide)
  · rw [hr] at h; omega
  · rw [hr] at h1; subst h1; rw [he] at h; cases h
  · rw [hr] at h1; subst h1; exact h h5
theorem fourth {a b c d e a' b' c' d' e' : Str} {l : List Str} (h : l = [a, b, c, d, e]) (h' : l = [a', b', c', d', e']) : d = d' := by
  have e := congrArg (fun l : List Str => l[3]?) (h.symm.trans h')
  exact Option.some.inj e
theorem c_parse_ok (cx : Cx w (j + 1) dp un A₀ env outer base h₀ L) (F : Fr h₀ L s.heap m) (pe : Addr) (c : Value) (u : Tok) (N : News h₀ L s.heap ((pe, tupOf [c, .int 21 u]) :: news)) (x : Str) (t : Tok) (hx : x.length < 100) (r p : Int) (a b d e f : Str)
    (hl : Txt.find x (Zs "(") = 4) (hs : (Txt.slice x none (some 3) != Zs "229") = false)
    (hr : Txt.find3 x (Zs ")") (4 + 1) = r) (hr1 : 8 < r) (hr2 : r < x.length) (he : (Txt.item x (4 + 1) != Txt.item x (r - 1)) = false)
    (hsp : Txt.split (Txt.slice x (some (4 + 1)) (some r)) (Txt.item x (4 + 1)) = [a, b, d, e, f]) (hp : PySem.intText? e = some p) (hpl : e.length ≤ 20)
    (hQ : ∀ h' tk T tt, Fr h₀ L h' m -> News h₀ L h' ((T, tupOf [c, .int p tt]) :: (pe, tupOf [c, .int 21 u]) :: news) -> (∀ q ∈ ((pe, tupOf [c, .int 21 u]) :: news), q.1 < T) -> Q (.ref T) { s with heap := h', toks := tk }) :
    wpAny (model RWQ.row.prog w) (AA dp un env outer) (call (.ref 226) [.str x t, .ref pe] []) Q E s :=
  c_parse_all cx F pe c u N x t hx (fun _ => .inr ⟨hl, .inr (hr.symm ▸ ⟨hr1, hr2⟩)⟩)
    (fun r' a' b' d' e' f' _ _ h1 _ _ _ h2 => fourth (hr.symm.trans h1 ▸ hsp) h2 ▸ ⟨hpl, p, hp⟩)
    (fun r' a' b' d' e' f' p' _ _ h1 _ _ _ h2 h3 => Option.some.inj (hp.symm.trans ((fourth (hr.symm.trans h1 ▸ hsp) h2).symm ▸ h3)) ▸ hQ)
    (fun h => by rw [hs] at h; cases h) (fun _ h => absurd h (not_refused hl hr hr1 he (by rw [hsp]; rfl)))
theorem c_parse_reply (cx : Cx w (j + 1) dp un A₀ env outer base h₀ L) (F : Fr h₀ L s.heap m) (pe : Addr) (c : Value) (u : Tok) (N : News h₀ L s.heap ((pe, tupOf [c, .int 21 u]) :: news)) (x : Str) (t : Tok) (hx : x.length < 100) (hs : (Txt.slice x none (some 3) != Zs "229") = true)
    (hE : ∀ g h' tk e t', Fr h₀ L g m -> RaisedS base g (env :: outer) e (.ref 205) t' [.str x t] ((pe, tupOf [c, .int 21 u]) :: news) h' -> g.UpToSlots h' -> E (.ref e) { s with heap := h', toks := tk }) :
    wpAny (model RWQ.row.prog w) (AA dp un env outer) (call (.ref 226) [.str x t, .ref pe] []) Q E s :=
  c_parse_all cx F pe c u N x t hx (fun h => by rw [hs] at h; cases h) (fun _ _ _ _ _ _ h => by rw [hs] at h; cases h) (fun _ _ _ _ _ _ _ h => by rw [hs] at h; cases h) (fun _ => hE) (fun h => by rw [hs] at h; cases h)
theorem c_parse_proto (cx : Cx w (j + 1) dp un A₀ env outer base h₀ L) (F : Fr h₀ L s.heap m) (pe : Addr) (c : Value) (u : Tok) (N : News h₀ L s.heap ((pe, tupOf [c, .int 21 u]) :: news)) (x : Str) (t : Tok) (hx : x.length < 100) (hs : (Txt.slice x none (some 3) != Zs "229") = false) (hR : Refused x)
    (hE : ∀ g h' tk e t', Fr h₀ L g m -> RaisedS base g (env :: outer) e (.ref 217) t' [.str x t] ((pe, tupOf [c, .int 21 u]) :: news) h' -> g.UpToSlots h' -> E (.ref e) { s with heap := h', toks := tk }) :
    wpAny (model RWQ.row.prog w) (AA dp un env outer) (call (.ref 226) [.str x t, .ref pe] []) Q E s := by
  refine c_parse_all cx F pe c u N x t hx (fun _ => ?_) (fun r a b d e f _ h1 h2 h3 h4 h5 h6 => absurd hR (not_refused h1 h2 h3 h5 (by rw [h6]; rfl))) (fun r a b d e f p _ h1 h2 h3 h4 h5 h6 _ => absurd hR (not_refused h1 h2 h3 h5 (by rw [h6]; rfl))) (fun h => by rw [hs] at h; cases h) (fun _ _ => hE)
  rcases hR with h | ⟨h, h3 | ⟨r, h1, h2, h4, _⟩⟩
  · exact .inl h
  · exact .inr ⟨h, .inl h3⟩
  · exact .inr ⟨h, .inr (h1.symm ▸ ⟨h2, h4⟩)⟩
end
end
section
theorem rs_C4 : True := by
  w_top off
  trivial
section
@[irreducible] noncomputable def replyS (k p : Int) : Str :=
  let mark := Txt.item (Zs "|!-/") (k.fmod 4)
  let port := Zs (toString p)
  let reply := Zs "229 (" ++ Txt.mul mark 3 ++ port ++ mark
  if k = 8 then
    if p.fmod 5 = 0 then Zs "229 2" ++ port ++ Zs "2)"
    else if p.fmod 5 = 1 then reply ++ Zs "]"
    else if p.fmod 5 = 2 then reply ++ Zs "x)"
    else if p.fmod 5 = 3 then reply ++ mark ++ Zs ")"
    else Zs "229 (" ++ Txt.mul mark 2 ++ port ++ mark ++ Zs ")"
  else if k = 9 then Zs "2" ++ reply ++ Zs ")"
  else reply ++ Zs ")"
theorem q_str {Q : Value -> Shared -> Prop} {X Y : Str} {t : Tok} {st : Shared} (e : X = Y) (h : Q (.str Y t) st) : Q (.str X t) st := e ▸ h
theorem c_reply (cx : Cx w (j + 1) dp un A₀ env outer base h₀ L) (F : Fr h₀ L s.heap m) (N : News h₀ L s.heap news) (k p : Int) (tk tp : Tok) (hk : 0 ≤ k ∧ k < 10) (hp : 0 ≤ p ∧ p < 128)
    (hQ : ∀ h' tk t, Fr h₀ L h' m -> News h₀ L h' news -> Q (.str (replyS k p) t) { s with heap := h', toks := tk }) :
    wpAny (model RWQ.row.prog w) (AA dp un env outer) (call (.ref 240) [.int k tk, .int p tp] []) Q E s := by
  revert cx F N hk hp hQ
  revert w j dp un A₀ env outer base h₀ L m news s Q E k p tk tp
  apply frz19; case n => walk_at "FZN"
  intro w j dp un A₀ env outer base h₀ L m news s Q E k p tk tp
  clear_value w j dp un A₀ env outer base h₀ L m news s Q E k p tk tp
  intro cx F N hk hp hQ
  ((refine wpAny_call ?_; (rename Fr _ _ _ _ => eF); (rename Cx _ _ _ _ _ _ _ _ _ _ => eC); (refine' enterP eC eF News.nil ?k6 ?k7 ?k9 ?kB ?_ ?c5 ?c2 ?c3 ?c4); (case k6 => k_is); (case k7 => k_is); (case k9 => first | exact BindsTo.of_eq rfl | exact binds_K (by k_in) rfl (by k_is) rfl rfl rfl); (case c5 => decide); (case kB => exact locs rfl); (case c2 => exact rfl); (case c3 => exact rfl); (case c4 => exact rfl)))
  apply frz8; case n => walk_at "FZN"
  intro dp' un' outer' A' Q' g L1 h1
  clear_value dp' un' outer' A' Q' g L1 h1
  intro FG hg F1 N1 cx1 l1 LT1
  have X1 := cx1.X
  have B1 := cx1.B
  have hf1 := cx1.f
  have hke1 := cx1.k
  have hdp1 := cx1.d
  have hun1 := cx1.u
  obtain ⟨p1, loose1, mean1, mg1, mb1, T1⟩ := cx1.T
  (((try dsimp only); (try k_fold)))
  k_steps
  all_goals (refine leaveK_ (by assumption) (by assumption) ?_; intro kF kN; show Q _ _; refine q_str ?_ (hQ _ _ _ kF (back0 N hg (by assumption))); unfold replyS; dsimp only; (repeat' split) <;> first | (exfalso; omega) | with_reducible rfl)
end
end
section
noncomputable def occT (c : Nat) : List Nat -> Nat -> Nat -> List Nat
  | [], _, _ => []
  | a :: r, i, n => match n with
    | 0 => []
    | m + 1 => if Nat.beq a c = true then i :: occT c r (i + 1) m else occT c r (i + 1) (m + 1)
theorem occT_zero (c : Nat) (l : List Nat) (i : Nat) : occT c l i 0 = [] := by cases l <;> rfl
theorem drop_none {x : Str} {i : Nat} (h : x.length ≤ i) : x.cps.toList.drop i = [] := List.drop_eq_nil_of_le h
theorem occ_go (x : Str) (c n : Nat) (k : Nat) : ∀ (lo : Nat) (a : Array Nat) (f : Nat), lo + k = x.length + 1 -> f ≤ lo ->
    (forIn (List.range' lo k) (a, f) (StrLaws.occBody x ⟨#[c]⟩ x.length n)).run.fst.toList = a.toList ++ occT c (x.cps.toList.drop lo) lo (n - a.size) := by
  induction k with
  | zero =>
    intro lo a f h _
    have h' : x.length ≤ lo := Nat.le_of_lt (Nat.lt_of_lt_of_eq (Nls x.length) h.symm)
    rw [drop_none h']
    exact (Lan _).symm
  | succ k ih =>
    intro lo a f h hf
    have ih := fun a f => ih (lo + 1) a f ((Nat.succ_add_eq_add_succ lo k).trans h)
    rw [List.range'_succ, List.forIn_cons, StrLaws.occBody]
    have hs := StrLaws.subAt_one x c lo
    by_cases hl : lo < x.length
    · have hl' : lo < x.cps.toList.length := hl
      rw [List.drop_eq_getElem_cons hl']
      rw [List.getElem?_eq_getElem hl', Option.some.injEq] at hs
      by_cases hn : a.size < n
      · obtain ⟨m, hm⟩ := Nat.exists_eq_succ_of_ne_zero (Nat.sub_ne_zero_of_lt hn)
        rw [hm, occT]
        by_cases hc : x.cps.toList[lo] = c
        · have hb := hs.mpr hc
          rw [if_pos ⟨⟨⟨hn, hf⟩, hb.1⟩, hb.2⟩, if_pos (hc.symm ▸ Nat.beq_refl c)]
          refine (ih (a.push lo) (lo + 1) (Nat.le_refl _)).trans ?_
          rw [Array.toList_push, Array.size_push, Nat.sub_add_eq, hm, Laa]
          rfl
        · rw [if_neg (fun q => hc (hs.mp ⟨q.1.2, q.2⟩)), if_neg (fun q => hc (Nat.eq_of_beq_eq_true q))]
          exact (ih a f (Nat.le_succ_of_le hf)).trans (by rw [hm])
      · rw [if_neg (fun q => hn q.1.1.1), Nat.sub_eq_zero_of_le (Nat.le_of_not_lt hn), occT_zero]
        exact (ih a f (Nat.le_succ_of_le hf)).trans (by rw [Nat.sub_eq_zero_of_le (Nat.le_of_not_lt hn), occT_zero])
    · rw [if_neg (fun q => hl q.1.2), drop_none (Nat.le_of_not_lt hl)]
      exact (ih a f (Nat.le_succ_of_le hf)).trans (by rw [drop_none (Nat.le_succ_of_le (Nat.le_of_not_lt hl))]; rfl)
theorem occ_quick (x : Str) (c lo n : Nat) (h : lo ≤ x.length) : Builtin.Str.occurrences x ⟨#[c]⟩ lo x.length n = occT c (x.cps.toList.drop lo) lo n := by
  rw [StrLaws.occ_eq]
  exact occ_go x c n _ lo #[] lo (Nat.add_sub_cancel' (Nat.le_succ_of_le h)) (Nat.le_refl _)
noncomputable def eqL : List Nat -> List Nat -> Bool
  | [], m => m.isEmpty
  | a :: l, m => match m with
    | b :: m => Nat.beq a b && eqL l m
    | [] => false
theorem eqL_eq : ∀ {l m : List Nat}, eqL l m = true -> l = m := by
  intro l
  induction l with
  | nil => intro m h; cases m with
    | nil => rfl
    | cons _ _ => cases h
  | cons a l ih => intro m h; cases m with
    | nil => cases h
    | cons b m => rw [Nat.eq_of_beq_eq_true (Bool.and_eq_true_iff.mp h).1, ih (Bool.and_eq_true_iff.mp h).2]
theorem eqS : ∀ {x y : Str}, eqL x.cps.toList y.cps.toList = true -> x = y
  | ⟨⟨_⟩⟩, ⟨⟨_⟩⟩, h => congrArg (fun l : List Nat => (⟨⟨l⟩⟩ : Str)) (eqL_eq h)
noncomputable def findF (x : Str) (c lo : Nat) : Int := match occT c (x.cps.toList.drop lo) lo 1 with | k :: _ => (k : Int) | [] => -1
theorem find_q (x : Str) (c : Nat) : Txt.find x ⟨#[c]⟩ = findF x c 0 := by
  unfold Txt.find
  rw [occ_quick x c 0 1 (Nat.zero_le _)]
  rfl
theorem find3_q (x : Str) (c : Nat) (h : 5 ≤ x.length) : Txt.find3 x ⟨#[c]⟩ (4 + 1) = findF x c 5 := by
  unfold Txt.find3
  rw [show fromIndex x.length (4 + 1) = 5 from rfl, occ_quick x c 5 1 h]
  rfl
noncomputable def chr (x : Str) (i : Int) : Nat := (Txt.charAt x i).getD 0
noncomputable def splitF (x : Str) (c : Nat) : List Str :=
  if (occT c x.cps.toList 0 (x.length + 1)).isEmpty = true then [x] else Builtin.Str.partsBetween x (occT c x.cps.toList 0 (x.length + 1)) 1
theorem split_q (x : Str) (c : Nat) (hc : Nat.ble c 255 = true) (hx : Nat.ble 1 x.length = true) : Txt.split x ⟨#[c]⟩ = splitF x c := by
  have k1 : Builtin.Str.strKind ⟨#[c]⟩ = 1 := if_pos (by simp [Nat.lt_succ_of_le (Nat.le_of_ble_eq_true hc)])
  unfold Txt.split
  rw [k1, occ_quick x c 0 _ (Nat.zero_le _), decide_eq_false (Nat.not_lt.mpr (strKind_pos x)), show decide (x.length < (⟨#[c]⟩ : Str).length) = false from decide_eq_false (Nat.not_lt.mpr (Nat.le_of_ble_eq_true hx))]
  rfl
theorem par1 : Zs "(" = ⟨#[40]⟩ := by decide +kernel
theorem par2 : Zs ")" = ⟨#[41]⟩ := by decide +kernel
inductive Good (x e : Str) : Prop
  | mk (r : Int) (a b d f : Str) (h1 : x.length < 100) (h2 : Txt.find x (Zs "(") = 4) (h3 : (Txt.slice x none (some 3) != Zs "229") = false) (h4 : Txt.find3 x (Zs ")") (4 + 1) = r) (h5 : 8 < r) (h6 : r < x.length)
    (h7 : (Txt.item x (4 + 1) != Txt.item x (r - 1)) = false) (h8 : Txt.split (Txt.slice x (some (4 + 1)) (some r)) (Txt.item x (4 + 1)) = [a, b, d, e, f])
noncomputable def okR (x e : Str) (r : Int) : Bool :=
  Nat.ble x.length 99 && decide (findF x 40 0 = 4) && !(Txt.slice x none (some 3) != Zs "229") && decide (findF x 41 5 = r) && decide (8 < r) && decide (r < x.length) &&
  Nat.beq (chr x 5) (chr x (r - 1)) && Nat.ble (chr x 5) 255 && Nat.ble 1 (Txt.slice x (some 5) (some r)).length && Nat.beq (splitF (Txt.slice x (some 5) (some r)) (chr x 5)).length 5 && eqL ((splitF (Txt.slice x (some 5) (some r)) (chr x 5)).getD 3 e).cps.toList e.cps.toList
theorem five {r : Int} {n : Nat} (h : 8 < r) (h' : r < n) : 5 ≤ n := by omega
theorem good_R {x e : Str} {r : Int} (h : okR x e r = true) : Good x e := by
  unfold okR at h
  simp only [Bool.and_eq_true, decide_eq_true_eq, Bool.not_eq_true'] at h
  have q := h.1.1
  obtain ⟨a, b, d, e', f, hs⟩ := len5 (Nat.eq_of_beq_eq_true h.1.2)
  have he := eqS h.2
  rw [hs] at he
  have h5 := q.1.1.1.1.2
  have h6 := q.1.1.1.2
  exact ⟨r, a, b, d, f, Nat.lt_succ_of_le (Nat.le_of_ble_eq_true q.1.1.1.1.1.1.1.1), par1 ▸ (find_q x 40).trans q.1.1.1.1.1.1.1.2, q.1.1.1.1.1.1.2, par2 ▸ (find3_q x 41 (five h5 h6)).trans q.1.1.1.1.1.2, h5, h6,
    (congrArg (fun c => (Txt.item x (4 + 1) != (⟨#[c]⟩ : Str))) (Nat.eq_of_beq_eq_true q.1.1.2).symm).trans (bne_self_eq_false _), (split_q _ (chr x 5) q.1.2 q.2).trans (he ▸ hs)⟩
noncomputable def rOf (p : Nat) : Int := if p < 10 then 10 else if p < 100 then 11 else 12
noncomputable def okK (k p : Nat) : Bool := okR (replyS (k : Nat) (p : Nat)) (Zs (toString ((p : Nat) : Int))) (rOf p)
theorem okK0 : ∀ p < 128, okK 0 p = true := by decide +kernel
theorem okK1 : ∀ p < 128, okK 1 p = true := by decide +kernel
theorem okK2 : ∀ p < 128, okK 2 p = true := by decide +kernel
theorem okK3 : ∀ p < 128, okK 3 p = true := by decide +kernel
theorem mark4 : ∀ k < 8, Txt.item (Zs "|!-/") (Int.fmod ((k : Nat) : Int) 4) = Txt.item (Zs "|!-/") (Int.fmod ((k % 4 : Nat) : Int) 4) := by decide +kernel
theorem reply4 (k : Nat) (p : Int) (hk : k < 8) : replyS (k : Nat) p = replyS ((k % 4 : Nat) : Int) p := by
  unfold replyS
  rw [mark4 k hk, if_neg (by omega), if_neg (by omega), if_neg (by omega), if_neg (by omega)]
theorem okK4 : ∀ k < 4, ∀ p < 128, okK k p = true
  | 0, _ => okK0
  | 1, _ => okK1
  | 2, _ => okK2
  | 3, _ => okK3
  | _ + 4, h => absurd h (Nat.not_lt.mpr (Nat.le_add_left _ _))
theorem reply_good (k p : Nat) (hk : k < 8) (hp : p < 128) : Good (replyS (k : Nat) (p : Nat)) (Zs (toString ((p : Nat) : Int))) :=
  reply4 k p hk ▸ good_R (okK4 (k % 4) (Nat.mod_lt _ (by decide)) p hp)
noncomputable def noR (x : Str) (r : Int) : Bool :=
  decide (findF x 40 0 < 0) || (decide (findF x 40 0 = 4) && Nat.ble 5 x.length && decide (findF x 41 5 = r) && (decide (r < 0) || (decide (8 < r) && decide (r < x.length) && (!Nat.beq (chr x 5) (chr x (r - 1)) || (Nat.ble (chr x 5) 255 && Nat.ble 1 (Txt.slice x (some 5) (some r)).length && !Nat.beq (splitF (Txt.slice x (some 5) (some r)) (chr x 5)).length 5)))))
theorem no_all : ∀ p < 128, noR (replyS 8 ((p : Nat) : Int)) (findF (replyS 8 ((p : Nat) : Int)) 41 5) = true := by decide +kernel
theorem item_ne {x : Str} {i j : Int} (h : Nat.beq (chr x i) (chr x j) = false) : (Txt.item x i != Txt.item x j) = true :=
  bne_iff_ne.mpr fun e => Nat.ne_of_beq_eq_false h (congrArg (fun s : Str => s.cps.toList.headD 0) e)
theorem refused_R {x : Str} {r : Int} (h : noR x r = true) : Refused x := by
  unfold noR at h
  simp only [Bool.and_eq_true, Bool.or_eq_true, decide_eq_true_eq, Bool.not_eq_true'] at h
  have f1 : Txt.find x (Zs "(") = findF x 40 0 := par1 ▸ find_q x 40
  rcases h with h | ⟨⟨⟨h1, hl⟩, hr⟩, h⟩
  · exact .inl (f1 ▸ h)
  · have f3 : Txt.find3 x (Zs ")") (4 + 1) = r := (par2 ▸ find3_q x 41 (Nat.le_of_ble_eq_true hl)).trans hr
    refine .inr ⟨f1.trans h1, ?_⟩
    rcases h with h | ⟨⟨h2, h3⟩, h4⟩
    · exact .inl (f3 ▸ h)
    · refine .inr ⟨r, f3, h2, h3, ?_⟩
      rcases h4 with h4 | ⟨⟨hc, hn⟩, h4⟩
      · exact .inl (item_ne h4)
      · cases hb : (Txt.item x (4 + 1) != Txt.item x (r - 1)) with
        | true => exact .inl rfl
        | false =>
          refine .inr ⟨rfl, ?_⟩
          rw [show Txt.split (Txt.slice x (some (4 + 1)) (some r)) (Txt.item x (4 + 1)) = _ from split_q _ (chr x 5) hc hn]
          exact Nat.ne_of_beq_eq_false h4
theorem reply_refused (p : Nat) (hp : p < 128) : Refused (replyS 8 (p : Nat)) := refused_R (no_all p hp)
theorem reply_other (p : Nat) (hp : p < 128) : (Txt.slice (replyS 9 (p : Nat)) none (some 3) != Zs "229") = true :=
  (show ∀ p < 128, (Txt.slice (replyS 9 ((p : Nat) : Int)) none (some 3) != Zs "229") = true by decide +kernel) p hp
theorem num_short (p : Nat) (hp : p < 128) : (Zs (toString ((p : Nat) : Int))).length ≤ 3 :=
  (show ∀ p < 128, (Zs (toString ((p : Nat) : Int))).length ≤ 3 by decide +kernel) p hp
theorem short8 : ∀ p < 128, (replyS 8 ((p : Nat) : Int)).length ≤ 14 := by decide +kernel
theorem short9 : ∀ p < 128, (replyS 9 ((p : Nat) : Int)).length ≤ 14 := by decide +kernel
theorem no_slice (p : Nat) (hp : p < 128) : (Txt.slice (replyS 8 (p : Nat)) none (some 3) != Zs "229") = false :=
  (show ∀ p < 128, (Txt.slice (replyS 8 ((p : Nat) : Int)) none (some 3) != Zs "229") = false by decide +kernel) p hp
end
section
theorem rs_U1 : True := by
  w_top off
  trivial
local macro_rules | `(tactic| end_err) => `(tactic| ((first | (with_reducible show (_ : Flow -> Shared -> Prop) (Flow.ret _) _) | (with_reducible show (_ : Flow -> Shared -> Prop) Flow.next _)); (first | (with_reducible refine LeaveToS.go (by assumption) ?_) | (with_reducible refine LoopToH.go (by assumption) ?_)); (try dsimp only)))
noncomputable abbrev Drw := Nat × Nat × Nat
noncomputable def drD (q : Drw) : List PyData := [.str ⟨#[q.1]⟩, .int q.2.1, .int q.2.2]
noncomputable def pieceOf (q : Drw) : Piece := ⟨q.2.2 / 9 + 3, q.1, q.2.2 % 9 + 1⟩
noncomputable def toldOf (l : List Drw) : List Piece := (l.filter fun q => decide (q.2.1 < 8)).map pieceOf
noncomputable def refStr (q : Drw) : Str := ⟨#[q.1, 48 + q.2.1]⟩
noncomputable def refOf (l : List Drw) : List Str := (l.filter fun q => decide (7 < q.2.1)).map refStr
inductive JTd (oL : Obj) (L D DT DR : Addr) (ds : List Drw) (dl : List (Addr × Obj)) (e : Nat) (r : List Value) (m : Str -> Option Value) (news : List (Addr × Obj)) : Prop
  | mk : ∀ (k : Nat) (sl : Array (Option Value)) (tl st : List (Addr × Obj)) (rv : List Value) (e1 e2 : Nat), (DmpTab st) -> (r = refsOf (dl.drop k)) -> (k ≤ dl.length) -> (m (Zs "told") = some (.ref DT)) -> (m (Zs "refused") = some (.ref DR)) -> (TupsAre tl ((toldOf (ds.take k)).map pcD)) -> (FlatAll rv ((refOf (ds.take k)).map .str)) -> (news = (L, { oL with slots := sl }) :: (DT, Wl (refsOf tl).toArray e1) :: (DR, Wl rv.toArray e2) :: (tl ++ (D, Wl (refsOf dl).toArray e) :: (dl ++ st))) -> JTd oL L D DT DR ds dl e r m news
inductive DropStepE (dl : List (Addr × Obj)) (ds : List Drw) (k : Nat) (x : Value) (r : List Value) : Prop
  | mk : ∀ q T t1 t2 t3, (k < dl.length) -> (ds.take (k + 1) = ds.take k ++ [q]) -> (q ∈ ds) -> (x = .ref T) -> ((T, tupOf [.str ⟨#[q.1]⟩ t1, .int q.2.1 t2, .int q.2.2 t3]) ∈ dl) -> (r = refsOf (dl.drop (k + 1))) -> DropStepE dl ds k x r
theorem drop_step {dl : List (Addr × Obj)} {ds : List Drw} (h : TupsAre dl (ds.map drD)) {k : Nat} {x : Value} {r : List Value} (hr : x :: r = refsOf (dl.drop k)) : DropStepE dl ds k x r := by
  obtain ⟨hk, T, vs, e1, e2, f, e3⟩ := tups_next h hr
  obtain ⟨t, u, v, e⟩ := flat_sii f
  exact ⟨ds[k], T, t, u, v, refs_lt hr, (List.take_append_getElem hk).symm, List.getElem_mem hk, e1, e ▸ e2, e3⟩
theorem not_frame {g h : Heap} {L L1 : Addr} {o : Obj} {l : List (Addr × Obj)} (N : News g L1 h ((L, o) :: l)) (hd : ∀ vs n, o.data ≠ .seq vs n) {p : Addr × Obj} (hp : p ∈ l) {vs : Array Value} {n : Nat} (hs : p.2.data = .seq vs n) : p.1 ≠ L := fun e => by
  have h1 := (N _ (.head _)).1
  have h2 := (N _ (.tail _ hp)).1
  rw [e] at h2
  rw [h1] at h2
  have e5 : o = p.2 := Option.some.inj h2
  rw [← e5] at hs
  exact hd _ _ hs
theorem dmp_fields {st : List (Addr × Obj)} (h : DmpTab st) : ∀ p ∈ st, ∃ vs, p.2.data = .fields vs := by
  obtain ⟨s1, s2, rfl, h1, h2⟩ := h
  intro p hp
  rcases Lma.mp hp with hp | hp
  · obtain ⟨vs, e, _⟩ := h1.obj p hp; exact ⟨vs, e⟩
  · obtain ⟨vs, e, _⟩ := h2.obj p hp; exact ⟨vs, e⟩
theorem seqs_off {g h : Heap} {L1 : Addr} {st rest : List (Addr × Obj)} (hst : DmpTab st) (N : News g L1 h st) (N' : News g L1 h rest) (hs : ∀ p ∈ rest, ∃ vs n, p.2.data = .seq vs n) : ∀ p ∈ rest, p.1 ∉ st.map (·.1) := fun p hp hm => by
  obtain ⟨z, hz, e⟩ := Lmm.mp hm
  obtain ⟨vs, n, h1⟩ := hs p hp
  obtain ⟨us, h2⟩ := dmp_fields hst z hz
  have q1 := (N z hz).1
  have q2 := (N' p hp).1
  rw [e, q2] at q1
  rw [← Option.some.inj q1, h1] at h2
  cases h2
theorem letter_strOk (x : Nat) (hx : x ≤ 102) : PyData.strOk ⟨#[x]⟩ = true := by
  simp [PyData.strOk]; omega
theorem digs_small : ∀ p < 128, numDigs p 4 ≤ 128 := by decide +kernel
theorem flat_len {vs : List Value} {ds : List PyData} (h : FlatAll vs ds) : vs.length = ds.length := by
  induction h with
  | nil => rfl
  | cons _ _ ih => simp [ih]
theorem flat_app {vs vs' : List Value} {ds ds' : List PyData} (h : FlatAll vs ds) (h' : FlatAll vs' ds') : FlatAll (vs ++ vs') (ds ++ ds') := by
  induction h with
  | nil => exact h'
  | cons a _ ih => exact .cons a ih
theorem bits_small : ∀ p < 128, (Builtin.Int.intBits ((p : Nat) : Int) : Int) - 4 ≤ 4000 := by decide +kernel
theorem fdiv9 (p : Nat) : ((p : Nat) : Int).fdiv 9 = ((p / 9 : Nat) : Int) := by rw [Int.fdiv_eq_ediv_of_nonneg _ (by decide)]; rfl
theorem fmod9 (p : Nat) : ((p : Nat) : Int).fmod 9 = ((p % 9 : Nat) : Int) := by rw [Int.fmod_eq_emod_of_nonneg _ (by decide)]; rfl
theorem eq_strint {prog : Program} {A : Around} {E : Value -> Shared -> Prop} {s : Shared} {w : World} {T T' : Addr} {a : Str} {i : Int} {t u t' u' : Tok} {Q : Value -> Shared -> Prop} (hok : PyData.strOk a = true) (h1 : s.heap.get? T = some (tupOf [.str a t, .int i u])) (h2 : s.heap.get? T' = some (tupOf [.str a t', .int i u'])) (hu : A.units + 64 < cLine)
    (h : Q (.bool true) s) : wpAny (model prog w) A (compareOp .Eq (.ref T) (.ref T')) Q E s := by
  refine eq_dataH (reads_tuple_at h1 rfl rfl (ReadsAll.cons (Reads.str _ _) (ReadsAll.cons (Reads.int _ _) ReadsAll.nil))) (reads_tuple_at h2 rfl rfl (ReadsAll.cons (Reads.str _ _) (ReadsAll.cons (Reads.int _ _) ReadsAll.nil))) (by simp [hok, SeqAt.shaped, PyData.canLay0, PyData.canLayAll0, PyData.depth, PyData.depthAll]) (by simp [hok, SeqAt.shaped, PyData.canLay0, PyData.canLayAll0, PyData.depth, PyData.depthAll]) hu ?_
  simpa [PyData.eqv, PyData.eqvAll] using h
theorem eq_intint {prog : Program} {A : Around} {E : Value -> Shared -> Prop} {s : Shared} {w : World} {T T' : Addr} {a i : Int} {t u t' u' : Tok} {Q : Value -> Shared -> Prop} (h1 : s.heap.get? T = some (tupOf [.int a t, .int i u])) (h2 : s.heap.get? T' = some (tupOf [.int a t', .int i u'])) (hu : A.units + 64 < cLine)
    (h : Q (.bool true) s) : wpAny (model prog w) A (compareOp .Eq (.ref T) (.ref T')) Q E s := by
  refine eq_dataH (reads_tuple_at h1 rfl rfl (ReadsAll.cons (Reads.int _ _) (ReadsAll.cons (Reads.int _ _) ReadsAll.nil))) (reads_tuple_at h2 rfl rfl (ReadsAll.cons (Reads.int _ _) (ReadsAll.cons (Reads.int _ _) ReadsAll.nil))) (by simp [SeqAt.shaped, PyData.canLay0, PyData.canLayAll0, PyData.depth, PyData.depthAll]) (by simp [SeqAt.shaped, PyData.canLay0, PyData.canLayAll0, PyData.depth, PyData.depthAll]) hu ?_
  simpa [PyData.eqv, PyData.eqvAll] using h
theorem k_dicts {g : Heap} {L : Addr} {oL : Obj} {es : Array DictEntry} {ep : Nat} {env : Env} (h : g.get? L = some oL) (hd : oL.data = .dict es ep) (hf : env.frame = some L) : KtsDicts ([env].filterMap (·.frame)) g := fun b hb => by
  have : b = L := by simpa [hf] using hb
  rw [this]; exact ⟨oL, es, ep, h, hd⟩
theorem off_list {g h : Heap} {L1 DT : Addr} {vs : Array Value} {e : Nat} {l : List (Addr × Obj)} (N : News g L1 h ((DT, Wl vs e) :: l)) (hl : ∀ p ∈ l, ∀ vs e, p.2 ≠ Wl vs e) : ∀ p ∈ l, p.1 ∉ [DT] := fun p hp hm =>
  news_ne N (.tail _ hp) (.head _) (hl p hp vs e) (Lms.mp hm)
theorem not_list_tups {tl : List (Addr × Obj)} {ds : List (List PyData)} (h : TupsAre tl ds) : ∀ p ∈ tl, ∀ vs e, p.2 ≠ Wl vs e := fun p hp vs e q => by
  have h1 := h.cls p hp
  rw [q] at h1
  exact absurd (show Value.type "list" = Value.type "tuple" from h1) (by decide)
theorem not_list_tab {st : List (Addr × Obj)} (h : DmpTab st) : ∀ p ∈ st, ∀ vs e, p.2 ≠ Wl vs e := fun p hp vs e q => by
  obtain ⟨us, h1⟩ := dmp_fields h p hp
  rw [q] at h1
  cases h1
theorem told_end {g G h' : Heap} {s : Shared} {L L1 I D DT DR : Addr} {oL oI : Obj} {ds : List Drw} {dl tl' st' : List (Addr × Obj)} {rv' : List Value} {e e1' e2' k tk' : Nat} {m' : Str -> Option Value} {Q : Flow -> Shared -> Prop}
    (TG : KtsTurn [L] g G) (hLg : g.get? L = some oL) (hL1 : L ≠ L1) (F : Fr G L1 h' m') (N : News G L1 h' ((I, oI) :: (DT, Wl (refsOf tl').toArray e1') :: (DR, Wl rv'.toArray e2') :: (tl' ++ (D, Wl (refsOf dl).toArray e) :: (dl ++ st'))))
    (offL : L ≠ I) (off : ∀ p ∈ (DT, Wl (refsOf tl').toArray e1') :: (DR, Wl rv'.toArray e2') :: (tl' ++ (D, Wl (refsOf dl).toArray e) :: (dl ++ st')), p.1 ≠ I) (hst' : DmpTab st') (hk : k < dl.length)
    (hm1 : m' (Zs "told") = some (.ref DT)) (hm2 : m' (Zs "refused") = some (.ref DR)) (htl' : TupsAre tl' ((toldOf (ds.take (k + 1))).map pcD)) (hrv' : FlatAll rv' ((refOf (ds.take (k + 1))).map .str)) :
    LoopEndH (hideAll g [L]) L1 I oI s (fun h => SeqAt h D (refsOf dl).toArray) (JTd oL L D DT DR ds dl e (refsOf (dl.drop (k + 1)))) Q .next { heap := h', gens := s.gens, drawn := s.drawn, toks := tk', os := s.os } := by
  obtain ⟨F2, sl', hL'⟩ := turn_down TG hLg F
  have N2 := news_down TG N
  refine ⟨m', (L, { oL with slots := sl' }) :: (DT, Wl (refsOf tl').toArray e1') :: (DR, Wl rv'.toArray e2') :: (tl' ++ (D, Wl (refsOf dl).toArray e) :: (dl ++ st')), _, _, rfl, F2, ?_, ?_, ?_, k + 1, sl', tl', st', rv', e1', e2', hst', rfl, hk, hm1, hm2, htl', hrv', rfl⟩
  · refine news_cons (N2 _ (.head _)) (news_cons ⟨hL', hL1, hideAll_none _ (.head _)⟩ (fun p hp => N2 p (.tail _ hp)))
  · intro p hp
    rcases Lmc.mp hp with rfl | hp
    · exact offL
    · exact off p hp
  · exact ⟨_, _, (N2 (D, Wl (refsOf dl).toArray e) (by walk_at "SI")).1, rfl⟩
theorem TupsAre.seq {tl : List (Addr × Obj)} {ds : List (List PyData)} (h : TupsAre tl ds) : ∀ p ∈ tl, ∃ vs n, p.2.data = .seq vs n := fun p hp => by
  obtain ⟨vs, e⟩ := h.tup p hp
  exact ⟨_, _, by rw [e]⟩
section
theorem c_told (cx : Cx w (j + 12) dp un A₀ env [] base h₀ L) (XB : (_root_.Mine.hd.heap_1 w.params).In base) (TB : ∃ p loose mean mg mb, Top p loose mean mg mb base) (F : Fr h₀ L s.heap m) {D : Addr} {dl st : List (Addr × Obj)} {ds : List Drw} {e : Nat}
    (N : News h₀ L s.heap ((D, Wl (refsOf dl).toArray e) :: (dl ++ st))) (hst : DmpTab st) (hdl : TupsAre dl (ds.map drD)) (hb : ∀ q ∈ ds, (97 ≤ q.1 ∧ q.1 ≤ 102) ∧ q.2.1 < 10 ∧ q.2.2 < 128) (hx : (ds.map (·.1)).Nodup) (h6 : ds.length ≤ 6)
    (hQ : ∀ RT DA DB h' tk st' tl rv eA eB (ps : List Piece), DmpTab st' -> Fr h₀ L h' m -> News h₀ L h' ((RT, tupOf [.ref DA, .ref DB]) :: (DA, Wl (refsOf tl).toArray eA) :: (DB, Wl rv.toArray eB) :: (tl ++ (D, Wl (refsOf dl).toArray e) :: (dl ++ st'))) -> TupsAre tl (ps.map pcD) -> ps.Perm (toldOf ds) -> ps.Pairwise (fun q z => plt q z = true) -> FlatAll rv ((refOf ds).map .str) -> (DA ≠ D ∧ DB ≠ D ∧ DA ≠ DB) ->
      Others h₀ L (((D, Wl (refsOf dl).toArray e) :: (dl ++ st)).map (·.1)) s.heap h' -> (∀ n2, News h₀ L s.heap n2 -> (∀ q ∈ n2, q.1 ∉ ((D, Wl (refsOf dl).toArray e) :: (dl ++ st)).map (·.1)) -> ∀ q ∈ n2, ∀ r ∈ ((RT, tupOf [.ref DA, .ref DB]) :: (DA, Wl (refsOf tl).toArray eA) :: (DB, Wl rv.toArray eB) :: (tl ++ (D, Wl (refsOf dl).toArray e) :: (dl ++ st'))), q.1 ≠ r.1) -> Q (.ref RT) { s with heap := h', toks := tk }) :
    wpAny (model RWQ.row.prog w) (AA dp un env []) (call (.ref 247) [.ref D] []) Q E s := by
  revert cx XB TB F N hst hdl hb hx h6 hQ
  revert w j dp un A₀ env base h₀ L m s Q E D dl st ds e
  apply frz18; case n => walk_at "FZN"
  intro w j dp un A₀ env base h₀ L m s Q E D dl st ds e
  clear_value w j dp un A₀ env base h₀ L m s Q E D dl st ds e
  intro cx XB TB F N hst hdl hb hx h6 hQ
  have hf0 := cx.f
  ((refine wpAny_call ?_; (rename Fr _ _ _ _ => eF); (rename Cx _ _ _ _ _ _ _ _ _ _ => eC); (refine' enterT eC eF (by assumption) ?k6 ?k7 ?k9 ?kB ?_ ?c5 ?c2 ?c3 ?c4); (case k6 => k_is); (case k7 => k_is); (case k9 => first | exact BindsTo.of_eq rfl | exact binds_K (by k_in) rfl (by k_is) rfl rfl rfl); (case c5 => decide); (case kB => exact locs rfl); (case c2 => exact rfl); (case c3 => exact rfl); (case c4 => exact rfl)))
  apply frz4; case n => walk_at "FZN"
  intro Q' g L1 h1
  clear_value Q' g L1 h1
  intro FG hg F1 N1 cx1 l1 LT1
  have X1 := cx1.X
  have B1 := cx1.B
  have hf1 := cx1.f
  have hke1 := cx1.k
  have hdp1 := cx1.d
  have hun1 := cx1.u
  obtain ⟨p1, loose1, mean1, mg1, mb1, T1⟩ := cx1.T
  (try skip)
  (((try dsimp only); (try k_fold)))
  clear l1
  (repeat ((fail_if_success (with_reducible show wpAny _ _ (exec (Stmt.For _ _ _ _ _) _) _ _ _)); w_once))
  rename News _ _ _ _ => N2
  rename Fr _ _ _ _ => F2
  obtain ⟨oL, es, ep, hLg, hLd, hLk, hLf⟩ := FG.ns
  rename_i DT _ lD _ DR _ lR _
  have hLL1 : L ≠ L1 := fun q => absurd (Hls hLg) (Nat.not_lt.mpr (Nlt F2.above (Nle q.symm)))
  have hTD : DT ≠ D := Ne.symm (Nnl lD.1)
  have hTR : DT ≠ DR := Nnl lR.1
  have hRD : DR ≠ D := Ne.symm (Nnl lR.2.1)
  have hLL := k_dicts hLg hLd hf0
  have nLd : ∀ vs n, oL.data ≠ .seq vs n := fun vs n q => by rw [hLd] at q; cases q
  have F3 := turn_down .refl hLg F2
  obtain ⟨F3, sl0, hL0⟩ := F3
  have N3 : News (hideAll g [L]) L1 _ ((L, { oL with slots := sl0 }) :: (DT, Wl (refsOf []).toArray 0) :: (DR, Wl ([] : List Value).toArray 0) :: ([] ++ (D, Wl (refsOf dl).toArray e) :: (dl ++ st))) := news_cons ⟨hL0, fun q => absurd (Hls hLg) (Nat.not_lt.mpr (Nlt F2.above (Nle (show L1 = L from (show L = L1 from q).symm)))), hideAll_none _ (.head _)⟩ (news_sub (news_down .refl N2) (by walk_at "SUB"))
  rename_i h2
  revert N3; revert hL0; revert F3; revert nLd; revert hLL; revert hRD; revert hTR; revert hTD; revert hLL1; revert hLf; revert hLk; revert hLd; revert hLg; revert N2; revert F2; revert lR; revert lD; revert T1
  revert sl0; revert ep; revert es; revert oL; revert tk; revert h2; revert DR; revert DT; revert mb1; revert mg1; revert mean1; revert loose1; revert p1
  apply frz13; case n => walk_at "FZN"
  intro p1 loose1 mean1 mg1 mb1 DT DR h2 tk oL es ep sl0
  clear_value p1 loose1 mean1 mg1 mb1 DT DR h2 tk oL es ep sl0
  intro T1 lD lR F2 N2 hLg hLd hLk hLf hLL1 hTD hTR hRD hLL nLd F3 hL0 N3
  refine For_seqH (h₀ := hideAll g [L]) ?_ (fun _ => rfl) (by passes_own)
  iterate 1 (w_once)
  refine ⟨D, refsOf dl, _, _, fun r m nw => JTd oL L D DT DR ds dl e r m nw, rfl, rfl, F3, N3, SeqAt.of_list (is_of N2 (by walk_at "MEM")), fun {Q'} q => wpAny_pyIter_list (is_of N2 (by walk_at "MEM")) (by simpa using q), ?init, ?step, ?done⟩
  case init => exact ⟨0, sl0, [], st, [], 0, 0, hst, rfl, Nat.zero_le _, rfl, rfl, .nil, .nil, rfl⟩
  case step =>
    clear N2 F2 F3 N3
    rintro I x r m₁ news₁ hp2 tk2 oI Qt ⟨k, sl, tl, st, rv, e1, e2, hst, hr, hk, hmt, hmr, htl, hrv, rfl⟩ hc F8 N8 off8 hl8 LQ
    obtain ⟨q, T, t1, t2, t3, hk', htk, hq, rfl, hT, rfl⟩ := drop_step hdl hr
    obtain ⟨x, kd, po⟩ := q
    obtain ⟨⟨hx1, hx2⟩, hkd, hpo⟩ := hb _ hq
    dsimp only at hx1 hx2 hkd hpo hT
    revert hpo; revert hkd; revert hx2; revert hx1; revert hT; revert hq; revert htk; revert hr; revert LQ; revert hk'; revert hl8; revert off8; revert N8; revert F8; revert hc; revert hrv; revert htl; revert hmr; revert hmt; revert hk; revert hst
    revert po; revert kd; revert x; revert t3; revert t2; revert t1; revert T; revert e2; revert e1; revert rv; revert st; revert tl; revert sl; revert k; revert Qt; revert oI; revert tk2; revert hp2; revert m₁; revert I
    apply frz20; case n => walk_at "FZN"
    intro I m₁ hp2 tk2 oI Qt k sl tl st rv e1 e2 T t1 t2 t3 x kd po
    clear_value I m₁ hp2 tk2 oI Qt k sl tl st rv e1 e2 T t1 t2 t3 x kd po
    intro hst hk hmt hmr htl hrv hc F8 N8 off8 hl8 hk' LQ hr htk hq hT hx1 hx2 hkd hpo
    obtain ⟨G, TG, FG2⟩ := turn_up hLg F8 (N8 _ (.tail _ (.head _))).1
    have NLL := news_sub (l' := (L, ({ oL with slots := sl } : Obj)) :: (DT, Wl (refsOf tl).toArray e1) :: (DR, Wl rv.toArray e2) :: (tl ++ (D, Wl (refsOf dl).toArray e) :: (dl ++ st))) N8 (fun p hp => .tail _ hp)
    have hseq : ∀ p ∈ (DT, Wl (refsOf tl).toArray e1) :: (DR, Wl rv.toArray e2) :: (tl ++ (D, Wl (refsOf dl).toArray e) :: dl), ∃ vs n, p.2.data = .seq vs n := fun p hp => by
      simp only [Lmc, Lma] at hp
      rcases hp with rfl | rfl | hp | rfl | hp
      · exact ⟨_, _, rfl⟩
      · exact ⟨_, _, rfl⟩
      · exact htl.seq p hp
      · exact ⟨_, _, rfl⟩
      · exact hdl.seq p hp
    have hLne : ∀ p ∈ (I, oI) :: (DT, Wl (refsOf tl).toArray e1) :: (DR, Wl rv.toArray e2) :: (tl ++ (D, Wl (refsOf dl).toArray e) :: (dl ++ st)), p.1 ≠ L := fun p hp => by
      rcases Lmc.mp hp with rfl | hp
      · exact fun q => off8 _ (.head _) q.symm
      · by_cases hps : p ∈ st
        · obtain ⟨vs, h2⟩ := dmp_fields hst p hps
          intro e9
          have q1 := (NLL _ (.head _)).1
          have q2 := (NLL p (.tail _ hp)).1
          rw [e9, q1] at q2
          have e5 := congrArg Obj.data (Option.some.inj q2)
          have e6 : oL.data = p.2.data := e5
          rw [hLd, h2] at e6
          cases e6
        · obtain ⟨vs, n, hs⟩ := hseq p (by
            simp only [Lmc, Lma] at hp ⊢
            rcases hp with h | h | h | h | h | h
            · exact .inl h
            · exact .inr (.inl h)
            · exact .inr (.inr (.inl h))
            · exact .inr (.inr (.inr (.inl h)))
            · exact .inr (.inr (.inr (.inr h)))
            · exact absurd h hps)
          exact not_frame NLL (o := { oL with slots := sl }) nLd hp hs
    have NG : News G L1 hp2 ((T, tupOf [.str ⟨#[x]⟩ t1, .int kd t2, .int po t3]) :: (I, oI) :: (DT, Wl (refsOf tl).toArray e1) :: (DR, Wl rv.toArray e2) :: (tl ++ (D, Wl (refsOf dl).toArray e) :: (dl ++ st))) := by
      have N9 := news_sub (l' := (I, oI) :: (DT, Wl (refsOf tl).toArray e1) :: (DR, Wl rv.toArray e2) :: (tl ++ (D, Wl (refsOf dl).toArray e) :: (dl ++ st))) N8 (fun p hp => by
        rcases Lmc.mp hp with rfl | hp
        · exact .head _
        · exact .tail _ (.tail _ hp))
      have N10 := news_up TG N9 hLne
      exact news_cons (N10 _ (by first | f_congr_eq | simp [hT])) N10
    have BG := below_turn B1 hf0 TG
    have XG := XB.keeps BG.stays
    obtain ⟨p2, loose2, mean2, mg2, mb2, T2⟩ := TB
    have cxG : Cx w (j + 11) _ _ _ (envX _ _ L1 247 (.ref 246) []) _ base G L1 := ⟨XG, ⟨_, _, _, _, _, T2.keeps BG.stays⟩, BG, cx1.f, cx1.k, cx1.d, cx1.u⟩
    have TGG := T2.keeps BG.stays
    clear N8 F8 hl8 NLL
    have htl6 : tl.length ≤ 6 := by
      have h1 := htl.length
      rw [Llm] at h1
      have h2 : (toldOf (ds.take k)).length ≤ (ds.take k).length := by unfold toldOf; rw [Llm]; exact List.length_filter_le _ _
      have h3 : (ds.take k).length ≤ ds.length := by rw [Llt]; omega
      omega
    have hrv6 : rv.length ≤ 6 := by
      have h1 := flat_len hrv
      rw [Llm] at h1
      have h2 : (refOf (ds.take k)).length ≤ (ds.take k).length := by unfold refOf; rw [Llm]; exact List.length_filter_le _ _
      have h3 : (ds.take k).length ≤ ds.length := by rw [Llt]; omega
      omega
    revert TGG; revert cxG; revert T2; revert XG; revert BG; revert NG; revert FG2; revert TG
    revert mb2; revert mg2; revert mean2; revert loose2; revert p2; revert G
    apply frz6; case n => walk_at "FZN"
    intro G p2 loose2 mean2 mg2 mb2
    clear_value G p2 loose2 mean2 mg2 mb2
    intro TG FG2 NG BG XG T2 cxG TGG
    (repeat ((fail_if_success (with_reducible show wpAny _ _ (exec (Stmt.Try _ _ _ _ _) _) _ _ _)); w_once))
    rename News _ _ _ _ => N3
    rename Fr _ _ _ _ => F3
    rename_i h3
    revert N3; revert F3
    revert tk; revert h3
    apply frz2; case n => walk_at "FZN"
    intro h3 tk
    clear_value h3 tk
    intro F3 N3
    refine wpAny_Try_except ?_
    (repeat ((fail_if_success (with_reducible show wpAny _ _ (call _ _ _) _ _ _)); w_once))
    refine c_reply cxG F3 N3 kd po _ _ ⟨by omega, by omega⟩ ⟨by omega, by omega⟩ ?_
    apply frz3; case n => walk_at "FZN"
    intro h4 tk4 t4
    clear_value h4 tk4 t4
    intro F4 N4
    clear F3 N3
    (repeat ((fail_if_success (with_reducible show wpAny _ _ (call _ _ _) _ _ _)); w_once))
    rename News _ _ _ _ => N3
    rename Fr _ _ _ _ => F3
    rename_i DE hD lE
    revert N3; revert F3; revert lE
    revert hD; revert DE
    apply frz2; case n => walk_at "FZN"
    intro DE hD
    clear_value DE hD
    intro lE F3 N3
    have hkk : kd < 8 ∨ kd = 8 ∨ kd = 9 := by omega
    rcases hkk with hk8 | rfl | rfl
    · obtain ⟨rr, a, b, d, f, q1, q2, q3, q4, q5, q6, q7, q8⟩ := reply_good kd po hk8 hpo
      have hsp := num_short po hpo
      rename News _ _ _ _ => N3
      rename Fr _ _ _ _ => F3
      refine c_parse_ok cxG F3 _ _ _ N3 _ _ q1 rr po a b d _ f q2 q3 q4 q5 q6 q7 q8 (KIN.num_reads (by omega) (by omega)) (by omega) ?_
      apply frz4; case n => walk_at "FZN"
      intro h5 tk5 T5 tt5
      clear_value h5 tk5 T5 tt5
      intro F5 N5 lt5
      clear F3 N3
      (repeat ((fail_if_success (with_reducible show wpAny _ _ (call _ _ _) _ _ _)); w_once))
      rename News _ _ _ _ => N3
      rename Fr _ _ _ _ => F3
      rename_i h5
      revert N3; revert F3
      revert tk; revert h5
      apply frz2; case n => walk_at "FZN"
      intro h5 tk
      clear_value h5 tk
      intro F3 N3
      refine c_div2n1n cxG F3 N3 _ _ _ _ _ _ (bits_small po hpo) (by decide) (by decide) ?_
      apply frz5; case n => walk_at "FZN"
      intro T6 h6 tk6 tt6 tu6
      clear_value T6 h6 tk6 tt6 tu6
      intro F6 N6
      clear F3 N3
      (try simp only [fdiv9, fmod9] at N6)
      (repeat ((fail_if_success (with_reducible show wpAny _ _ (call _ _ _) _ _ _)); w_once))
      rename News _ _ _ _ => N3
      rename Fr _ _ _ _ => F3
      refine eq_strint (letter_strOk x hx2) (N3 _ (.tail _ (.tail _ (.head _)))).1 (N3 _ (.head _)).1 (Nll (Nat.add_le_add_right (Nlt (Nat.le_add_right _ _) cx1.u) 64) (by decide)) ?_
      (repeat ((fail_if_success (with_reducible show wpAny _ _ (call _ _ _) _ _ _)); w_once))
      rename_i DP hD lP
      revert N3; revert F3; revert lP
      revert hD; revert DP; revert tk
      apply frz3; case n => walk_at "FZN"
      intro tk DP hD
      clear_value tk DP hD
      intro lP F3 N3
      have Nst : News G L1 _ st := news_sub N3 (by first | walk_at "SUB" | (intro p hp; simp [hp]))
      have hIst : I ∉ st.map (·.1) := fun hm => by
        obtain ⟨p, hp, e9⟩ := Lmm.mp hm
        exact off8 p (by first | f_congr_eq | simp [hp]) e9
      have Nrest : News G L1 _ ((T6, tupOf [.int ((po / 9 : Nat) : Int) tt6, .int ((po % 9 : Nat) : Int) tu6]) :: (T5, tupOf [.str ⟨#[x]⟩ t1, .int (po : Int) tt5]) :: (DT, Wl (refsOf tl).toArray e1) :: (DR, Wl rv.toArray e2) :: (tl ++ (D, Wl (refsOf dl).toArray e) :: dl)) := news_sub N3 (by walk_at "SUB")
      have NI : News G L1 _ [(I, oI)] := news_sub N3 (by walk_at "SUB")
      have hrest := seqs_off hst Nst Nrest (fun p hp => by
        rcases Lmc.mp hp with rfl | hp
        · exact ⟨_, _, rfl⟩
        · rcases Lmc.mp hp with rfl | hp
          · exact ⟨_, _, rfl⟩
          · exact hseq p hp)
      refine c_dmp cxG F3 po 9 4 _ _ (by decide) (by decide) (by decide) (digs_small po hpo) Nst hst ?_
      apply frz6; case n => walk_at "FZN"
      intro T7 h7 tk7 st7 tt7 tu7
      clear_value T7 h7 tk7 st7 tt7 tu7
      intro hst7 F7 N7 o7 ne7
      have hIst7 : ∀ r ∈ st7, I ≠ r.1 := ne7 _ NI (fun p hp => by rw [Lms.mp hp]; exact hIst) _ (.head _)
      have N8 := news_app N7 (news_app (o7 _ NI (fun p hp => by rw [Lms.mp hp]; exact hIst)) (o7 _ Nrest hrest))
      have N9 : News G L1 h7 ((T7, tupOf [.int ((po / 9 : Nat) : Int) tt7, .int ((po % 9 : Nat) : Int) tu7]) :: (T6, tupOf [.int ((po / 9 : Nat) : Int) tt6, .int ((po % 9 : Nat) : Int) tu6]) :: (T5, tupOf [.str ⟨#[x]⟩ t1, .int (po : Int) tt5]) :: (I, oI) :: (DT, Wl (refsOf tl).toArray e1) :: (DR, Wl rv.toArray e2) :: (tl ++ (D, Wl (refsOf dl).toArray e) :: (dl ++ st7))) := news_sub N8 (by walk_at "SUB")
      clear F3 N3 Nst Nrest NI hrest N7 o7 ne7 N8
      refine eq_intint (N9 _ (.tail _ (.head _))).1 (N9 _ (.head _)).1 (Nll (Nat.add_le_add_right (Nlt (Nat.le_add_right _ _) cx1.u) 64) (by decide)) ?_
      (repeat ((fail_if_success (with_reducible show wpAny _ _ (call _ _ _) _ _ _)); w_once))
      rename News _ _ _ _ => N3
      rename Fr _ _ _ _ => F3
      rename_i TN hN lN
      revert N3; revert F3; revert lN
      revert hN; revert TN
      apply frz2; case n => walk_at "FZN"
      intro TN hN
      clear_value TN hN
      intro lN F3 N3
      have e91 : ((po / 9 : Nat) : Int) + 3 = ((po / 9 + 3 : Nat) : Int) := by omega
      have e92 : ((po % 9 : Nat) : Int) + 1 = ((po % 9 + 1 : Nat) : Int) := by omega
      rw [e91, e92] at N3
      obtain ⟨tA, tB, N3⟩ : ∃ tA tB, News G L1 _ ((TN, tupOf [.int ((po / 9 + 3 : Nat) : Int) tA, .str ⟨#[x]⟩ t1, .int ((po % 9 + 1 : Nat) : Int) tB]) :: (T7, tupOf [.int ((po / 9 : Nat) : Int) tt7, .int ((po % 9 : Nat) : Int) tu7]) :: (T6, tupOf [.int ((po / 9 : Nat) : Int) tt6, .int ((po % 9 : Nat) : Int) tu6]) :: (T5, tupOf [.str ⟨#[x]⟩ t1, .int (po : Int) tt5]) :: (I, oI) :: (DT, Wl (refsOf tl).toArray e1) :: (DR, Wl rv.toArray e2) :: (tl ++ (D, Wl (refsOf dl).toArray e) :: (dl ++ st7))) := ⟨_, _, N3⟩
      refine led_append F3 N3 (by walk_at "MEM") (by simp; omega) ?_
      apply frz1; case n => walk_at "FZN"
      intro h8
      clear_value h8
      intro F8 o8 N8
      have Nr := o8 _ (news_sub (l' := (TN, tupOf [.int ((po / 9 + 3 : Nat) : Int) tA, .str ⟨#[x]⟩ t1, .int ((po % 9 + 1 : Nat) : Int) tB]) :: (I, oI) :: (DR, Wl rv.toArray e2) :: (tl ++ (D, Wl (refsOf dl).toArray e) :: (dl ++ st7))) N3 (by walk_at "SUB")) (by
        refine faCons ?_ (faCons ?_ (faCons ?_ (faApp ?_ (faCons ?_ (faApp ?_ ?_)))))
        · exact fun hm => Nnl lN.2.2.2.2.1 (Lms.mp hm).symm
        · exact fun hm => off8 (DT, Wl (refsOf tl).toArray e1) (by walk_at "SI") (Lms.mp hm).symm
        · exact fun hm => hTR (Lms.mp hm).symm
        · intro p hp
          exact off_list (news_sub N3 (l' := (DT, Wl (refsOf tl).toArray e1) :: tl) (by walk_at "SUB")) (not_list_tups htl) p hp
        · exact fun hm => hTD (Lms.mp hm).symm
        · intro p hp
          exact off_list (news_sub N3 (l' := (DT, Wl (refsOf tl).toArray e1) :: dl) (by walk_at "SUB")) (not_list_tups hdl) p hp
        · intro p hp
          exact off_list (news_sub N3 (l' := (DT, Wl (refsOf tl).toArray e1) :: st7) (by walk_at "SUB")) (not_list_tab hst7) p hp)
      have hIN : I < TN := lN.2.2.2.1
      clear F3 N3 o8
      repeat' ((fail_if_success (with_reducible show LoopEndH _ _ _ _ _ _ _ _ _ _)); w_once)
      have ek : toldOf (ds.take (k + 1)) = toldOf (ds.take k) ++ [pieceOf (x, kd, po)] := by
        rw [htk]; simp [toldOf, List.filter_append, hk8]
      have er : refOf (ds.take (k + 1)) = refOf (ds.take k) := by
        rw [htk]; simp [refOf, List.filter_append]; omega
      refine told_end (e1' := e1 + 1) (e2' := e2) (tl' := tl ++ [(TN, tupOf [.int ((po / 9 + 3 : Nat) : Int) tA, .str ⟨#[x]⟩ t1, .int ((po % 9 + 1 : Nat) : Int) tB])]) (rv' := rv) (st' := st7) TG hLg hLL1 F8 ?n (off8 _ (.head _)) ?off hst7 hk' ?m1 ?m2 ?t ?r
      case n =>
        refine fun p hp => ?_
        simp only [Lmc, Lma, Lnm, or_false] at hp
        rcases hp with rfl | rfl | rfl | (hp | rfl) | rfl | hp | hp
        · exact Nr _ (by walk_at "SI")
        · have := N8 _ (.head _)
          rw [refsOf, Lmp]
          exact this
        · exact Nr _ (by walk_at "SI")
        · exact Nr _ (by first | f_congr_eq | simp [hp])
        · exact Nr _ (by walk_at "SI")
        · exact Nr _ (by walk_at "SI")
        · exact Nr _ (by first | f_congr_eq | simp [hp])
        · exact Nr _ (by first | f_congr_eq | simp [hp])
      case off =>
        intro p hp
        simp only [Lmc, Lma, Lnm, or_false] at hp
        rcases hp with rfl | rfl | (hp | rfl) | rfl | hp | hp
        · exact off8 (DT, Wl (refsOf tl).toArray e1) (by walk_at "SI")
        · exact off8 (DR, Wl rv.toArray e2) (by walk_at "SI")
        · exact off8 p (by first | f_congr_eq | simp [hp])
        · exact Ne.symm (Nnl hIN)
        · exact off8 (D, Wl (refsOf dl).toArray e) (by walk_at "SI")
        · exact off8 p (by first | f_congr_eq | simp [hp])
        · exact Ne.symm (hIst7 p hp)
      case m1 => (repeat (refine (if_neg (by decide)).trans ?_)); exact hmt
      case m2 => (repeat (refine (if_neg (by decide)).trans ?_)); exact hmr
      case t =>
        rw [ek, Lmp]
        exact htl.append (.cons (.cons (fun _ => .int _ _) (.cons (fun _ => .str _ _) (.cons (fun _ => .int _ _) .nil))) .nil)
      case r => rw [er]; exact hrv
    · rename News _ _ _ _ => N3
      rename Fr _ _ _ _ => F3
      obtain ⟨slG, hLG⟩ := TG.up hLg
      have hLL2 := k_dicts hLG hLd hf0
      refine c_parse_proto cxG F3 _ _ _ N3 _ _ (Nll (short8 po hpo) (by decide)) (by exact (no_slice po hpo)) (reply_refused po hpo) ?_
      apply frz5; case n => walk_at "FZN"
      intro gE hE tkE eE tE
      clear_value gE hE tkE eE tE
      intro FE RE UE
      refine caught_SO0 (A₀ := AA dp un env []) (KF := _root_.Mine.hd.heap_1 w.params) RE FE BG UE XB T2 hLL2 .refl (by k_is) (by kts_isx) ?_
      apply frz3; case n => walk_at "FZN"
      intro h5 G5 n5
      clear_value h5 G5 n5
      intro TG5 F5 N5 got5 N6 BG5 XG5 TT5 hLL5
      clear RE UE F3 N3
      clear N5 got5 FE
      have TG6 : KtsTurn [L] g G5 := TG.trans (by simpa [hf0] using TG5)
      (repeat ((fail_if_success (with_reducible show wpAny _ _ (call _ _ _) _ _ _)); w_once))
      have eS : (⟨#[x]⟩ ++ Zs "8" : Str) = refStr (x, 8, po) := by
        have e9 : Zs "8" = ⟨#[48 + 8]⟩ := by decide
        rw [e9]; rfl
      rw [eS]
      clear eS
      rename_i t9 k9 a9
      revert a9
      revert k9; revert t9
      apply frz2; case n => walk_at "FZN"
      intro t9 k9
      clear_value t9 k9
      intro a9
      refine led_append F5 N6 (by walk_at "MEM") (by omega) ?_
      apply frz1; case n => walk_at "FZN"
      intro h8
      clear_value h8
      intro F8 o8 N8
      obtain ⟨tS, N8⟩ : ∃ tS, News G5 L1 h8 [(DR, Wl (rv ++ [Value.str (refStr (x, 8, po)) tS]).toArray (e2 + 1))] := ⟨_, N8⟩
      have Nr := o8 _ (news_sub (l' := (I, oI) :: (DT, Wl (refsOf tl).toArray e1) :: (tl ++ (D, Wl (refsOf dl).toArray e) :: (dl ++ st))) N6 (by walk_at "SUB")) (by
        refine faCons ?_ (faCons ?_ (faApp ?_ (faCons ?_ (faApp ?_ ?_))))
        · exact fun hm => off8 (DR, Wl rv.toArray e2) (by walk_at "SI") (Lms.mp hm).symm
        · exact fun hm => hTR (Lms.mp hm)
        · intro p hp
          exact off_list (news_sub N6 (l' := (DR, Wl rv.toArray e2) :: tl) (by walk_at "SUB")) (not_list_tups htl) p hp
        · exact fun hm => hRD (Lms.mp hm).symm
        · intro p hp
          exact off_list (news_sub N6 (l' := (DR, Wl rv.toArray e2) :: dl) (by walk_at "SUB")) (not_list_tups hdl) p hp
        · intro p hp
          exact off_list (news_sub N6 (l' := (DR, Wl rv.toArray e2) :: st) (by walk_at "SUB")) (not_list_tab hst) p hp)
      clear N6 F5 o8
      repeat' ((fail_if_success (with_reducible show LoopEndH _ _ _ _ _ _ _ _ _ _)); w_once)
      have ek : toldOf (ds.take (k + 1)) = toldOf (ds.take k) := by
        rw [htk]; simp [toldOf, List.filter_append]
      have er : refOf (ds.take (k + 1)) = refOf (ds.take k) ++ [refStr (x, 8, po)] := by
        rw [htk]; simp [refOf, List.filter_append]
      refine told_end (tl' := tl) (e1' := e1) (e2' := e2 + 1) (rv' := rv ++ [Value.str (refStr (x, 8, po)) tS]) (st' := st) TG6 hLg hLL1 F8 ?n8 (off8 _ (.head _)) ?off8 hst hk' ?m18 ?m28 ?t8 ?r8
      case n8 =>
        refine fun p hp => ?_
        simp only [Lmc, Lma] at hp
        rcases hp with rfl | rfl | rfl | hp | rfl | hp | hp
        · exact Nr _ (by walk_at "SI")
        · exact Nr _ (by walk_at "SI")
        · exact N8 _ (.head _)
        · exact Nr _ (by first | f_congr_eq | simp [hp])
        · exact Nr _ (by walk_at "SI")
        · exact Nr _ (by first | f_congr_eq | simp [hp])
        · exact Nr _ (by first | f_congr_eq | simp [hp])
      case off8 =>
        refine faCons ?_ (faCons ?_ (faApp ?_ (faCons ?_ (faApp ?_ ?_))))
        · exact off8 (DT, Wl (refsOf tl).toArray e1) (by walk_at "SI")
        · exact off8 (DR, Wl rv.toArray e2) (by walk_at "SI")
        · intro p hp
          exact off8 p (by first | f_congr_eq | simp [hp])
        · exact off8 (D, Wl (refsOf dl).toArray e) (by walk_at "SI")
        · intro p hp
          exact off8 p (by first | f_congr_eq | simp [hp])
        · intro p hp
          exact off8 p (by first | f_congr_eq | simp [hp])
      case m18 => (repeat (refine (if_neg (by decide)).trans ?_)); exact hmt
      case m28 => (repeat (refine (if_neg (by decide)).trans ?_)); exact hmr
      case t8 => rw [ek]; exact htl
      case r8 =>
        rw [er, Lmp]
        exact flat_app hrv (.cons (fun _ => .str _ _) .nil)
    · rename News _ _ _ _ => N3
      rename Fr _ _ _ _ => F3
      obtain ⟨slG, hLG⟩ := TG.up hLg
      have hLL2 := k_dicts hLG hLd hf0
      refine c_parse_reply cxG F3 _ _ _ N3 _ _ (Nll (short9 po hpo) (by decide)) (reply_other po hpo) ?_
      apply frz5; case n => walk_at "FZN"
      intro gE hE tkE eE tE
      clear_value gE hE tkE eE tE
      intro FE RE UE
      refine kts_lookS (A₀ := AA dp un env []) RE FE BG UE hLL2 ?_
      apply frz1; case n => walk_at "FZN"
      intro h9
      clear_value h9
      intro R9 U9
      refine pass_S (A₀ := AA dp un env []) (KF := _root_.Mine.hd.heap_1 w.params) R9 FE BG U9 XB T2 hLL2 (by kts_test) ?_
      apply frz1; case n => walk_at "FZN"
      intro h10
      clear_value h10
      intro R10 U10
      refine hit_S0 (A₀ := AA dp un env []) (KF := _root_.Mine.hd.heap_1 w.params) R10 FE BG U10 XB T2 hLL2 .refl (by kts_test) ?_
      apply frz3; case n => walk_at "FZN"
      intro h5 G5 n5
      clear_value h5 G5 n5
      intro TG5 F5 N5 got5 N6 BG5 XG5 TT5 hLL5
      clear RE UE R9 U9 R10 U10 F3 N3
      clear N5 got5 FE
      have TG6 : KtsTurn [L] g G5 := TG.trans (by simpa [hf0] using TG5)
      (repeat ((fail_if_success (with_reducible show wpAny _ _ (call _ _ _) _ _ _)); w_once))
      have eS : (⟨#[x]⟩ ++ Zs "9" : Str) = refStr (x, 9, po) := by
        have e9 : Zs "9" = ⟨#[48 + 9]⟩ := by decide
        rw [e9]; rfl
      rw [eS]
      clear eS
      rename_i t9 k9 a9
      revert a9
      revert k9; revert t9
      apply frz2; case n => walk_at "FZN"
      intro t9 k9
      clear_value t9 k9
      intro a9
      refine led_append F5 N6 (by walk_at "MEM") (by omega) ?_
      apply frz1; case n => walk_at "FZN"
      intro h8
      clear_value h8
      intro F8 o8 N8
      obtain ⟨tS, N8⟩ : ∃ tS, News G5 L1 h8 [(DR, Wl (rv ++ [Value.str (refStr (x, 9, po)) tS]).toArray (e2 + 1))] := ⟨_, N8⟩
      have Nr := o8 _ (news_sub (l' := (I, oI) :: (DT, Wl (refsOf tl).toArray e1) :: (tl ++ (D, Wl (refsOf dl).toArray e) :: (dl ++ st))) N6 (by walk_at "SUB")) (by
        refine faCons ?_ (faCons ?_ (faApp ?_ (faCons ?_ (faApp ?_ ?_))))
        · exact fun hm => off8 (DR, Wl rv.toArray e2) (by walk_at "SI") (Lms.mp hm).symm
        · exact fun hm => hTR (Lms.mp hm)
        · intro p hp
          exact off_list (news_sub N6 (l' := (DR, Wl rv.toArray e2) :: tl) (by walk_at "SUB")) (not_list_tups htl) p hp
        · exact fun hm => hRD (Lms.mp hm).symm
        · intro p hp
          exact off_list (news_sub N6 (l' := (DR, Wl rv.toArray e2) :: dl) (by walk_at "SUB")) (not_list_tups hdl) p hp
        · intro p hp
          exact off_list (news_sub N6 (l' := (DR, Wl rv.toArray e2) :: st) (by walk_at "SUB")) (not_list_tab hst) p hp)
      clear N6 F5 o8
      repeat' ((fail_if_success (with_reducible show LoopEndH _ _ _ _ _ _ _ _ _ _)); w_once)
      have ek : toldOf (ds.take (k + 1)) = toldOf (ds.take k) := by
        rw [htk]; simp [toldOf, List.filter_append]
      have er : refOf (ds.take (k + 1)) = refOf (ds.take k) ++ [refStr (x, 9, po)] := by
        rw [htk]; simp [refOf, List.filter_append]
      refine told_end (tl' := tl) (e1' := e1) (e2' := e2 + 1) (rv' := rv ++ [Value.str (refStr (x, 9, po)) tS]) (st' := st) TG6 hLg hLL1 F8 ?n9 (off8 _ (.head _)) ?off9 hst hk' ?m19 ?m29 ?t9 ?r9
      case n9 =>
        refine fun p hp => ?_
        simp only [Lmc, Lma] at hp
        rcases hp with rfl | rfl | rfl | hp | rfl | hp | hp
        · exact Nr _ (by walk_at "SI")
        · exact Nr _ (by walk_at "SI")
        · exact N8 _ (.head _)
        · exact Nr _ (by first | f_congr_eq | simp [hp])
        · exact Nr _ (by walk_at "SI")
        · exact Nr _ (by first | f_congr_eq | simp [hp])
        · exact Nr _ (by first | f_congr_eq | simp [hp])
      case off9 =>
        refine faCons ?_ (faCons ?_ (faApp ?_ (faCons ?_ (faApp ?_ ?_))))
        · exact off8 (DT, Wl (refsOf tl).toArray e1) (by walk_at "SI")
        · exact off8 (DR, Wl rv.toArray e2) (by walk_at "SI")
        · intro p hp
          exact off8 p (by first | f_congr_eq | simp [hp])
        · exact off8 (D, Wl (refsOf dl).toArray e) (by walk_at "SI")
        · intro p hp
          exact off8 p (by first | f_congr_eq | simp [hp])
        · intro p hp
          exact off8 p (by first | f_congr_eq | simp [hp])
      case m19 => (repeat (refine (if_neg (by decide)).trans ?_)); exact hmt
      case m29 => (repeat (refine (if_neg (by decide)).trans ?_)); exact hmr
      case t9 => rw [ek]; exact htl
      case r9 =>
        rw [er, Lmp]
        exact flat_app hrv (.cons (fun _ => .str _ _) .nil)
  case done =>
    rintro m₁ news₁ hp2 tk2 ⟨k, sl, tl, st, rv, e1, e2, hst, hr, hk, hmt, hmr, htl, hrv, rfl⟩ F8 N8
    have hkl : k = dl.length := by
      have h1 := congrArg List.length hr
      simp at h1
      omega
    have hdsl : dl.length = ds.length := by rw [hdl.length]; simp
    rw [show ds.take k = ds from List.take_of_length_le (by omega)] at htl hrv
    obtain ⟨G, TG, FG2⟩ := turn_up hLg F8 (N8 _ (.head _)).1
    have NG : News G L1 hp2 ((DT, Wl (refsOf tl).toArray e1) :: (DR, Wl rv.toArray e2) :: (tl ++ (D, Wl (refsOf dl).toArray e) :: (dl ++ st))) := news_up TG (fun p hp => N8 p (.tail _ hp)) (fun p hp => by
        by_cases hps : p ∈ st
        · obtain ⟨vs, h2⟩ := dmp_fields hst p hps
          intro e9
          have q1 := (N8 _ (.head _)).1
          have q2 := (N8 p (.tail _ hp)).1
          rw [e9, q1] at q2
          have e5 := congrArg Obj.data (Option.some.inj q2)
          have e6 : oL.data = p.2.data := e5
          rw [hLd, h2] at e6
          cases e6
        · obtain ⟨vs, n, hs⟩ : ∃ vs n, p.2.data = .seq vs n := by
            simp only [Lmc, Lma] at hp
            rcases hp with rfl | rfl | hp | rfl | hp | hp
            · exact ⟨_, _, rfl⟩
            · exact ⟨_, _, rfl⟩
            · exact htl.seq p hp
            · exact ⟨_, _, rfl⟩
            · exact hdl.seq p hp
            · exact absurd hp hps
          exact not_frame N8 (o := { oL with slots := sl }) nLd hp hs)
    clear N8 F8
    have BG := below_turn B1 hf0 TG
    have XG := XB.keeps BG.stays
    obtain ⟨p2, loose2, mean2, mg2, mb2, T2⟩ := TB
    have TGG := T2.keeps BG.stays
    revert TGG; revert T2; revert XG; revert BG; revert NG; revert FG2; revert TG; revert hdsl; revert hkl; revert hrv; revert htl; revert hmr; revert hmt; revert hk; revert hr; revert hst
    revert mb2; revert mg2; revert mean2; revert loose2; revert p2; revert G; revert e2; revert e1; revert rv; revert st; revert tl; revert sl; revert k; revert tk2; revert hp2; revert m₁
    apply frz16; case n => walk_at "FZN"
    intro m₁ hp2 tk2 k sl tl st rv e1 e2 G p2 loose2 mean2 mg2 mb2
    clear_value m₁ hp2 tk2 k sl tl st rv e1 e2 G p2 loose2 mean2 mg2 mb2
    intro hst hr hk hmt hmr htl hrv hkl hdsl TG FG2 NG BG XG T2 TGG
    (try dsimp only)
    (repeat ((fail_if_success (with_reducible show wpAny _ _ (call _ _ _) _ _ _)); w_once))
    have hxn : ((toldOf ds).map (·.x)).Nodup := by
      have e9 : (toldOf ds).map (·.x) = (ds.filter fun q => decide (q.2.1 < 8)).map (·.1) := by simp [toldOf, pieceOf, Function.comp_def]
      rw [e9]
      exact hx.sublist ((List.filter_sublist).map _)
    have hlen9 : (toldOf ds).length ≤ 6 := by
      unfold toldOf; rw [Llm]; exact Nlt (List.length_filter_le _ _) h6
    refine c_sorted FG2 NG (is_of NG (by walk_at "MEM")) htl (by first | walk_at "SUB" | (intro p hp; simp [hp])) hxn hlen9 ?_
    apply frz5; case n => walk_at "FZN"
    intro DA eA h9 tl' ps'
    clear_value DA eA h9 tl' ps'
    intro F9 N9 lt9 htl' hsub9 hperm hpw
    clear NG FG2
    (repeat ((fail_if_success (with_reducible show LeaveS0 _ _ _ _ _ _ _ _)); w_once))
    rename News _ _ _ _ => N10
    rename Fr _ _ _ _ => F10
    rename_i RT _ _
    have N11 := news_sub (l' := (RT, tupOf [.ref DA, .ref DR]) :: (DA, Wl (refsOf tl').toArray eA) :: (DR, Wl rv.toArray e2) :: (tl' ++ (D, Wl (refsOf dl).toArray e) :: (dl ++ st))) N10 (fun p hp => by
      simp only [Lmc, Lma] at hp ⊢
      rcases hp with h | h | h | h | h | h | h
      · simp [h]
      · simp [h]
      · simp [h]
      · simp [hsub9 p h]
      · simp [h]
      · simp [h]
      · simp [h])
    refine leaveS0_ F10 N11 TG ?_
    intro kF kN
    refine hQ _ _ _ _ _ _ _ _ _ _ _ hst kF kN htl' hperm hpw hrv ⟨Ne.symm (Nnl (lt9 (D, Wl (refsOf dl).toArray e) (by walk_at "SI"))), hRD, Ne.symm (Nnl (lt9 (DR, Wl rv.toArray e2) (by walk_at "SI")))⟩ (fun n2 N2 off p hp => ?_) (fun n2 N2 off p hp r hr e9 => ?_)
    · have q1 := hg _ _ (N2 p hp).1 (off p hp)
      exact ⟨F10.keep _ _ (TG.other _ _ q1 (fun hm => (N2 p hp).2.1 (Lms.mp hm))), (N2 p hp).2⟩
    · have q1 := hg _ _ (N2 p hp).1 (off p hp)
      have q2 := TG.other _ _ q1 (fun hm => (N2 p hp).2.1 (Lms.mp hm))
      rw [e9, (N11 r hr).2.2] at q2
      cases q2
end
end
section
open PySem PySem.W PySem.Calls PyProof.Rows PySem.Spec
noncomputable def Apart (a b : List (Addr × Obj)) : Prop := ∀ p ∈ a, ∀ q ∈ b, p.1 ≠ q.1
theorem Apart.symm {a b : List (Addr × Obj)} (h : Apart a b) : Apart b a := fun p hp q hq => Ne.symm (h q hq p hp)
theorem Apart.app {a b c : List (Addr × Obj)} (h : Apart a c) (h' : Apart b c) : Apart (a ++ b) c := fun p hp => (Lma.mp hp).elim (h p) (h' p)
theorem Apart.sub {a b c : List (Addr × Obj)} (h : Apart a c) (s : ∀ p ∈ b, p ∈ a) : Apart b c := fun p hp => h p (s p hp)
noncomputable def Fresh (h₀ h : Heap) (L : Addr) (own new : List (Addr × Obj)) : Prop := ∀ n2, News h₀ L h n2 -> (∀ q ∈ n2, q.1 ∉ own.map (·.1)) -> ∀ q ∈ n2, ∀ r ∈ new, q.1 ≠ r.1
structure Led (h₀ h : Heap) (L : Addr) (Gs : List (List (Addr × Obj))) : Prop where
  n : ∀ g ∈ Gs, News h₀ L h g
  d : Gs.Pairwise Apart
section
variable {h₀ h h' : Heap} {L : Addr} {Gs : List (List (Addr × Obj))} {g g' g1 g2 : List (Addr × Obj)}
theorem Led.nil : Led h₀ h L [] := ⟨fun _ h => (nomatch h), .nil⟩
theorem Led.cons (N : News h₀ L h g) (a : ∀ z ∈ Gs, Apart g z) (D : Led h₀ h L Gs) : Led h₀ h L (g :: Gs) := ⟨fun z hz => by
  rcases Lmc.mp hz with rfl | hz
  · exact N
  · exact D.n z hz, List.pairwise_cons.mpr ⟨a, D.d⟩⟩
theorem Led.head (D : Led h₀ h L (g :: Gs)) : News h₀ L h g := D.n _ (.head _)
theorem Led.tail (D : Led h₀ h L (g :: Gs)) : Led h₀ h L Gs := ⟨fun z hz => D.n z (.tail _ hz), (List.pairwise_cons.mp D.d).2⟩
theorem Led.off (D : Led h₀ h L (g :: Gs)) : ∀ z ∈ Gs, Apart g z := (List.pairwise_cons.mp D.d).1
theorem Led.perm {Hs : List (List (Addr × Obj))} (D : Led h₀ h L Gs) (p : Gs.Perm Hs) : Led h₀ h L Hs := ⟨fun z hz => D.n z (p.mem_iff.mpr hz), (p.pairwise_iff fun h => Apart.symm h).mp D.d⟩
theorem Led.of {X : List (Addr × Obj)} (N : News h₀ L h X) (k : ∀ p ∈ Gs.flatten, p ∈ X) (d : Gs.Pairwise Apart) : Led h₀ h L Gs := ⟨fun g hg p hp => N p (k p (Lmf.mpr ⟨g, hg, hp⟩)), d⟩
theorem Led.front {A B : List (List (Addr × Obj))} (D : Led h₀ h L (A ++ g :: B)) : Led h₀ h L (g :: (A ++ B)) := D.perm List.perm_middle
theorem Led.merge (D : Led h₀ h L (g1 :: g2 :: Gs)) : Led h₀ h L ((g1 ++ g2) :: Gs) :=
  .cons (news_app D.head D.tail.head) (fun z hz => (D.off z (.tail _ hz)).app (D.tail.off z hz)) D.tail.tail
theorem Led.split (D : Led h₀ h L ((g1 ++ g2) :: Gs)) (a : Apart g1 g2) : Led h₀ h L (g1 :: g2 :: Gs) :=
  .cons (fun p hp => D.head p (Lal _ hp)) (fun z hz => by
    rcases Lmc.mp hz with rfl | hz
    · exact a
    · exact (D.off z hz).sub fun p hp => Lal _ hp) (.cons (fun p hp => D.head p (Lar _ hp)) (fun z hz => (D.off z hz).sub fun p hp => Lar _ hp) D.tail)
theorem Led.sub (D : Led h₀ h L (g :: Gs)) (s : ∀ p ∈ g', p ∈ g) : Led h₀ h L (g' :: Gs) := .cons (news_sub D.head s) (fun z hz => (D.off z hz).sub s) D.tail
theorem Led.flat (D : Led h₀ h L Gs) : News h₀ L h Gs.flatten := fun p hp => by
  obtain ⟨g, hg, h⟩ := Lmf.mp hp
  exact D.n g hg p h
theorem Led.off_own (D : Led h₀ h L (g :: Gs)) : ∀ z ∈ Gs, ∀ q ∈ z, q.1 ∉ g.map (·.1) := fun z hz q hq hm => by
  obtain ⟨r, hr, e⟩ := Lmm.mp hm
  exact D.off z hz r hr q hq e
theorem Led.step (D : Led h₀ h L (g :: Gs)) (o : Others h₀ L (g.map (·.1)) h h') (N : News h₀ L h' g') (fr : Fresh h₀ h L g g') : Led h₀ h' L (g' :: Gs) :=
  .cons N (fun z hz p hp q hq => Ne.symm (fr z (D.tail.n z hz) (D.off_own z hz) q hq p hp)) ⟨fun z hz => o z (D.tail.n z hz) (D.off_own z hz), D.tail.d⟩
theorem Led.same (D : Led h₀ h L (g :: Gs)) (o : Others h₀ L (g.map (·.1)) h h') (N : News h₀ L h' g') (e : ∀ p ∈ g', p.1 ∈ g.map (·.1)) : Led h₀ h' L (g' :: Gs) :=
  D.step o N fun _ _ off q hq r hr e' => off q hq (e' ▸ e r hr)
theorem Led.grown (D : Led h₀ h L Gs) (k : ∀ n2, News h₀ L h n2 -> News h₀ L h' n2) : Led h₀ h' L Gs := ⟨fun z hz => k z (D.n z hz), D.d⟩
theorem Led.add (D : Led h₀ h L Gs) (k : ∀ n2, News h₀ L h n2 -> News h₀ L h' n2) (N : News h₀ L h' g') (fr : ∀ n2, News h₀ L h n2 -> ∀ q ∈ n2, ∀ r ∈ g', q.1 ≠ r.1) : Led h₀ h' L (g' :: Gs) :=
  .cons N (fun z hz p hp q hq => Ne.symm (fr z (D.n z hz) q hq p hp)) (D.grown k)
end
noncomputable def LawDef (w : World) (body : List Stmt) (scope : Scope) : Prop := ∃ oc od name qual params cl dV kV doc pm an cdv ct osl, (_root_.Mine.hd.heap_1 w.params).lookup 278 = some ⟨oc, od, .func (fnX name qual params body scope cl dV kV doc pm an cdv ct), osl⟩
noncomputable abbrev LE (scope : Scope) (L fa : Addr) (cd : Value) : Env := envOfC (Zs "law") scope L fa cd
theorem caller_AA (env : Env) : ∃ dp un, dp ≤ 302 ∧ un ≤ 100 ∧ callerA.deeper env = AA dp un env [] := ⟨_, _, by decide, by decide, rfl⟩
end
section
noncomputable def bodyOf (o : Obj) : Option (List Stmt × Scope) := match o with
  | ⟨_, _, .func { body := .stmts b, scope := c, .. }, _⟩ => some (b, c)
  | _ => none
theorem law_cut {w : World} {oc : Value} {od : Option Addr} {name qual : Str} {params : Arguments} {lb : List Stmt} {ls : Scope} {cl : List (Str × Addr)} {dV kV doc pm : Value} {an : Option Addr} {cdv ct : Value} {osl : Array (Option Value)} (e : (_root_.Mine.hd.heap_1 w.params).lookup 278 = some ⟨oc, od, .func (fnX name qual params lb ls cl dV kV doc pm an cdv ct), osl⟩) (body : List Stmt) (scope : Scope) (P : List Stmt -> Scope -> Prop) (hl : LawDef w body scope) (h : LawDef w lb ls -> P lb ls) : P body scope := by
  have h1 := h ⟨_, _, _, _, _, _, _, _, _, _, _, _, _, _, e⟩
  obtain ⟨_, _, _, _, _, _, _, _, _, _, _, _, _, _, ho⟩ := hl
  have e2 := congrArg (fun o => o.bind bodyOf) (e.symm.trans ho)
  exact (Prod.mk.inj (Option.some.inj e2)).1 ▸ (Prod.mk.inj (Option.some.inj e2)).2 ▸ h1
noncomputable def law_open (w : World) := law_cut (w := w) (by k_is : (_root_.Mine.hd.heap_1 w.params).lookup 278 = some ⟨_, _, .func (fnX _ _ _ _ _ _ _ _ _ _ _ _ _), _⟩)
end
section
open PySem PySem.W PySem.Calls PyProof.Rows PyProof.V PySem.Spec PyProof.Rows.LCg
theorem led_pick {h₀ h : Heap} {L : Addr} {Gs : List (List (Addr × Obj))} (Ld : Led h₀ h L Gs) (n : Nat) (hn : Gs.length = n) (is : List Nat) (nd : is.Nodup) (lt : ∀ i ∈ is, i < n) : Led h₀ h L (is.map fun i => Gs.getD i []) := by
  subst hn
  have hg : ∀ i, (hi : i < Gs.length) -> Gs.getD i [] = Gs[i] := fun i hi => by rw [List.getD_eq_getElem?_getD, List.getElem?_eq_getElem hi]; rfl
  refine ⟨fun g hgm => ?_, ?_⟩
  · obtain ⟨i, hi, rfl⟩ := Lmm.mp hgm
    rw [hg i (lt i hi)]
    exact Ld.n _ (List.getElem_mem _)
  · rw [List.pairwise_map]
    refine List.Pairwise.imp_of_mem (fun {i j} hi hj hij => ?_) nd
    rw [hg i (lt i hi), hg j (lt j hj)]
    have hp := List.pairwise_iff_getElem.mp Ld.d
    rcases Nat.lt_or_gt_of_ne hij with h | h
    · exact hp i j _ _ h
    · exact Apart.symm (hp j i _ _ h)
end
section
theorem rs_C2 : True := by
  w_top off
  trivial
local macro_rules | `(tactic| walk_at "exec For Tuple Call cons nil") => `(tactic| walk_at "S2")
local macro_rules | `(tactic| walk_at "exec For Tuple Name cons nil") => `(tactic| walk_at "S3")
local macro_rules | `(tactic| walk_at "call type:enumerate") => `(tactic| walk_at "S4")
local macro_rules | `(tactic| walk_at "call type:enumerate") => `(tactic| walk_at "S5")
local macro_rules | `(tactic| walk_at "binaryOp FloorDiv int int") => `(tactic| (k_here; first | refine floordiv_int (by decide) ?_ (Or.inl (PyProof.noPylong_of_log2 (by decide +kernel))) | refine floordiv_int (by w_by_seal) ?_ (Or.inl (PyProof.noPylong_of_log2 (by w_by_seal)))))
local macro_rules | `(tactic| walk_at "call builtin:list.append") => `(tactic| walk_at "S6")
local macro_rules | `(tactic| walk_at "binaryOp Pow int int") => `(tactic| (k_here; (with_reducible refine pow_int_small (by decide) (by decide) (by decide) ?_)))
local macro_rules | `(tactic| walk_at "eval Name") => `(tactic| walk_at "S7")
section
theorem pow_ok : ∀ i : Nat, i ≤ 5 -> (10000 : Int) ^ (((i : Nat) : Int).fdiv 2).toNat ≠ 0 ∧ ((10000 : Int) ^ (((i : Nat) : Int).fdiv 2).toNat).natAbs.log2 < 9000 := by decide +kernel
noncomputable def grp (cn : List Int) (k : Nat) : Int := ((cn.getD ((k : Int).fmod 2).toNat 0).fdiv (10000 ^ ((k : Int).fdiv 2).toNat)).fmod 10000
noncomputable def drawnD (cn : List Int) (i : Nat) : List (List PyData) := (List.range i).map fun k => [.str ⟨#[97 + k]⟩, .int ((grp cn k).fdiv 1000), .int (((grp cn k).fmod 1000).fmod 128)]
theorem drawnD_succ (cn : List Int) (i : Nat) : drawnD cn (i + 1) = drawnD cn i ++ [[.str ⟨#[97 + i]⟩, .int ((grp cn i).fdiv 1000), .int (((grp cn i).fmod 1000).fmod 128)]] := by
  simp [drawnD, List.range_succ]
theorem dr_end {g h' : Heap} {L1 : Addr} {s₁ : Shared} {q a b dd cc : Addr × Obj} {tl : List (Addr × Obj)} {r : (Str -> Option Value) -> List (Addr × Obj) -> Prop} {m' : Str -> Option Value} {tk : Nat} (F : Fr g L1 h' m') (N : News g L1 h' (q :: a :: b :: dd :: cc :: tl))
    (off : ∀ p ∈ dd :: cc :: (tl ++ [q]), ∀ x ∈ [a, b], p.2.cls ≠ x.2.cls) (x : r m' (dd :: cc :: (tl ++ [q]))) : UnrEndW g L1 s₁ [a, b] r { s₁ with heap := h', toks := tk } :=
  endW F N _ (by walk_at "SI") (by intro p hp; simp at hp ⊢; grind) off x
theorem dr_news {h₀ h' : Heap} {L : Addr} {a b c : Addr × Obj} {tl news : List (Addr × Obj)} (kN : News h₀ L h' (a :: b :: c :: tl)) (N : News h₀ L h' news) : News h₀ L h' (a :: b :: (tl ++ news)) := by
  refine faCons ?_ (faCons ?_ (faApp ?_ ?_))
  · exact kN _ (by walk_at "SI")
  · exact kN _ (by walk_at "SI")
  · intro p hp
    exact kN _ (by first | f_congr_eq | simp [hp])
  · intro p hp
    exact N _ hp
inductive JDr1 (I : Addr) (xs : List Itm) (m' : Str -> Option Value) (n' : List (Addr × Obj)) : Prop
  | mk : ∀ c cv cn i vs' ns', (xs = enumItems i vs') -> (IntsAre vs' ns') -> (m' (Zs "cells") = some (.ref c)) -> (@LT.lt Nat _ c I) -> (IntsAre cv cn) -> (cn.length = 2) -> (n' = [(c, Wl cv.toArray 0)]) -> JDr1 I xs m' n'
inductive JDr2 (x0 d c : Addr) (cv : List Value) (cn : List Int) (xs : List Itm) (m' : Str -> Option Value) (n' : List (Addr × Obj)) : Prop
  | mk : ∀ i k tl, (xs = textItems i (List.range' (97 + i) k)) -> (i + k = 6) -> (m' (Zs "cells") = some (.ref c)) -> (m' (Zs "drawn") = some (.ref d)) -> (TupsAre tl (drawnD cn i)) -> ((∀ p ∈ tl, p.1 ≠ d)) -> (n' = (d, Wl (refsOf tl).toArray i) :: (c, Wl cv.toArray 0) :: tl) -> JDr2 x0 d c cv cn xs m' n'
theorem jdr2_next {I d c D : Addr} {cv : List Value} {cn : List Int} {i k : Nat} {tl : List (Addr × Obj)} {m'' : Str -> Option Value} {u t1 t2 : Tok} (hik : i + (k + 1) = 6) (hmc : m'' (Zs "cells") = some (.ref c)) (hmd : m'' (Zs "drawn") = some (.ref d))
    (htl : TupsAre tl (drawnD cn i)) (hoff : ∀ p ∈ tl, p.1 ≠ d) (hD : @LT.lt Nat _ d D) :
    JDr2 I d c cv cn (textItems (i + 1) (List.range' (97 + i + 1) k)) m'' ((d, Wl ((refsOf tl).toArray.push (.ref D)) (i + 1)) :: (c, Wl cv.toArray 0) :: (tl ++ [(D, tupOf [.str ⟨#[97 + i]⟩ u, .int ((grp cn i).fdiv 1000) t1, .int (((grp cn i).fmod 1000).fmod 128) t2])])) := by
  refine ⟨i + 1, k, tl ++ [(D, tupOf [.str ⟨#[97 + i]⟩ u, .int ((grp cn i).fdiv 1000) t1, .int (((grp cn i).fmod 1000).fmod 128) t2])], ?_, by omega, hmc, hmd, ?_, ?_, ?_⟩
  · rw [show 97 + i + 1 = 97 + (i + 1) by omega]
  · rw [drawnD_succ]
    exact TupsAre.append htl (.cons (.cons (fun _ => .str _ _) (.cons (fun _ => .int _ _) (.cons (fun _ => .int _ _) .nil))) .nil)
  · intro p hp
    rcases Lma.mp hp with hp | hp
    · exact hoff p hp
    · rw [Lms.mp hp]; exact (Nnl hD).symm
  · simp [refsOf]
theorem c_drawn (cx : Cx w (j + 1) dp un A₀ env outer base h₀ L) (F : Fr h₀ L s.heap m) (N : News h₀ L s.heap news) {l : Addr} {vs : List Value} {ns : List Int} (hl : h₀.IsList l vs.toArray) (hi : IntsAre vs ns)
    (hQ : ∀ (cn : List Int) (fi wi : Int) d tl x h' tk t1 t2, cn.length = 2 -> 0 ≤ fi -> fi < 10 -> 7 ≤ wi -> wi ≤ 16 -> TupsAre tl (drawnD cn 6) -> Fr h₀ L h' m ->
      News h₀ L h' ((x, tupOf [.ref d, .int fi t1, .int wi t2]) :: (d, Wl (refsOf tl).toArray 6) :: (tl ++ news)) -> Q (.ref x) { s with heap := h', toks := tk }) :
    wpAny (model RWQ.row.prog w) (AA dp un env outer) (call (.ref 233) [.ref l] []) Q E s := by
  revert cx F N hl hi hQ
  revert w j dp un A₀ env outer base h₀ L m news s Q E l vs ns
  apply frz18; case n => walk_at "FZN"
  intro w j dp un A₀ env outer base h₀ L m news s Q E l vs ns
  clear_value w j dp un A₀ env outer base h₀ L m news s Q E l vs ns
  intro cx F N hl hi hQ
  ((refine wpAny_call ?_; (rename Fr _ _ _ _ => eF); (rename Cx _ _ _ _ _ _ _ _ _ _ => eC); (refine' enterP eC eF News.nil ?k6 ?k7 ?k9 ?kB ?_ ?c5 ?c2 ?c3 ?c4); (case k6 => k_is); (case k7 => k_is); (case k9 => first | exact BindsTo.of_eq rfl | exact binds_K (by k_in) rfl (by k_is) rfl rfl rfl); (case c5 => decide); (case kB => exact locs rfl); (case c2 => exact rfl); (case c3 => exact rfl); (case c4 => exact rfl)))
  apply frz8; case n => walk_at "FZN"
  intro dp' un' outer' A' Q' g L1 h1
  clear_value dp' un' outer' A' Q' g L1 h1
  intro FG hg F1 N1 cx1 l1 LT1
  have X1 := cx1.X
  have B1 := cx1.B
  have hf1 := cx1.f
  have hke1 := cx1.k
  have hdp1 := cx1.d
  have hun1 := cx1.u
  obtain ⟨p1, loose1, mean1, mg1, mb1, T1⟩ := cx1.T
  (((try dsimp only); (try k_fold)))
  have hl' := hl.at fun o e => FG.keep _ _ e
  k_steps
  rename_i l5 _ h2 F2 N2 I lI
  revert lI; revert N2; revert F2; revert T1
  revert I; revert tk; revert h2; revert l5; revert mb1; revert mg1; revert mean1; revert loose1; revert p1
  apply frz9; case n => walk_at "FZN"
  intro p1 loose1 mean1 mg1 mb1 l5 h2 tk I
  clear_value p1 loose1 mean1 mg1 mb1 l5 h2 tk I
  intro T1 F2 N2 lI
  refine items_ind (JDr1 I) ?turn ?done _ _ _ ?init
  case init => exact ⟨_, [_, _], _, 0, vs, ns, rfl, hi, rfl, by omega, .cons _ _ (.cons _ _ .nil), rfl, rfl⟩
  case turn =>
    rintro x r m' n' ⟨c, cv, cn, i, vs', ns', hx, hi', hm, hcI, hcv, hcn, rfl⟩ v h tk hv F'
    cases hi' with
    | nil => cases hx
    | cons _ _ hi9 =>
      injection hx with hx1 hx2
      subst hx1 hx2
      obtain ⟨T, t, rfl, hT⟩ := hv
      ktu_objs
      k_steps
      exact ⟨_, _, _, _, _, _, rfl, hi9, hm, hcI, by assumption, by simpa using hcn, rfl⟩
  case done =>
    rintro m' n' ⟨c, cv, cn, i, vs', ns', hx, hi', hm, hcI, hcv, hcn, rfl⟩ h tk F' N'
    dsimp only
    k_steps
    rename_i d _ q1x q2x lq h3 F3 N3 xs hxs I2 lI2
    clear q1x q2x
    revert lI2; revert hxs; revert N3; revert F3; revert lq; revert hcn; revert hcv; revert hcI; revert hm; revert hi'; revert hx
    revert I2; revert xs; revert tk; revert h3; revert d; revert ns'; revert vs'; revert i; revert cn; revert cv; revert c; revert m'
    apply frz12; case n => walk_at "FZN"
    intro m' c cv cn i vs' ns' d h3 tk xs I2
    clear_value m' c cv cn i vs' ns' d h3 tk xs I2
    intro hx hi' hm hcI hcv hcn lq F3 N3 hxs lI2
    refine items_ind (JDr2 I2 d c cv cn) ?turn ?done _ _ _ ?init
    case init => exact ⟨0, 6, [], by rw [← hxs]; rfl, rfl, hm, rfl, .nil, fun _ hp => (nomatch hp), rfl⟩
    case turn =>
      rintro x r m' n' ⟨i, k, tl, hx, hik, hmc, hmd, htl, hoff, rfl⟩ v h tk hv F'
      cases k with
      | zero => cases hx
      | succ k =>
        injection hx with hx1 hx2
        subst hx1 hx2
        obtain ⟨T, t, y, rfl, hy, hT⟩ := hv
        obtain ⟨u, rfl⟩ := flat_str hy
        dsimp only at hT
        ktu_objs
        have hi6 : i ≤ 5 := by omega
        have hsz : (refsOf tl).toArray.size ≤ sizeLine := by
          have := htl.length
          simp [drawnD] at this
          rw [sizeLine_eq]; simp; omega
        obtain ⟨hpw1, hpw2⟩ := pow_ok i hi6
        rename_i oA cA oB cB NN
        clear hy
        revert hpw2; revert hpw1; revert hsz; revert hi6; revert NN; revert cB; revert cA; revert hT; revert hik; revert F'; revert hoff; revert htl; revert hmd; revert hmc
        revert oB; revert oA; revert u; revert t; revert T; revert k; revert tk; revert h; revert tl; revert i; revert m'
        apply frz11; case n => walk_at "FZN"
        intro m' i tl h tk k T t u oA oB
        clear_value m' i tl h tk k T t u oA oB
        intro hmc hmd htl hoff F' hik hT cA cB NN hi6 hsz hpw1 hpw2
        k_steps
        rename News _ _ _ _ => N5
        rename Fr _ _ _ _ => F5
        refine dr_end F5 N5 ?e3 ⟨trivial, jdr2_next hik hmc hmd htl hoff (by omega)⟩
        case e3 =>
          intro p hp q hq
          have hq' : q.2.cls = .type "enumerate" ∨ q.2.cls = .type "str_ascii_iterator" := by
            simp only [Lmc, Lnm, or_false] at hq
            rcases hq with rfl | rfl
            · left; assumption
            · right; assumption
          have hp' : p.2.cls = .type "list" ∨ p.2.cls = .type "tuple" := by
            simp only [Lmc, Lma, Lnm, or_false] at hp
            rcases hp with rfl | rfl | hp | rfl
            · left; rfl
            · left; rfl
            · right; exact htl.cls p hp
            · right; rfl
          rcases hp' with e | e <;> rcases hq' with e' | e' <;> rw [e, e'] <;> decide
    case done =>
      rintro m' n' ⟨i, k, tl, hx, hik, hmc, hmd, htl, hoff, rfl⟩ h tk F' N'
      dsimp only
      cases k with
      | succ k => cases hx
      | zero =>
        have hi6 : i = 6 := by omega
        subst hi6
        revert N'; revert htl; revert F'; revert hoff; revert hmd; revert hmc
        revert tk; revert h; revert tl; revert m'
        apply frz4; case n => walk_at "FZN"
        intro m' tl h tk
        clear_value m' tl h tk
        intro hmc hmd hoff F' htl N'
        k_steps
        refine leaveK_ (by assumption) (by assumption) ?_
        intro kF kN
        show Q _ _
        have q1 := fmod_bd ((cn.getD (Int.toNat 0) 0).fdiv (10000 ^ Int.toNat 3)) 10 (by decide)
        have q2 := fmod_bd ((cn.getD (Int.toNat 1) 0).fdiv (10000 ^ Int.toNat 3)) 10 (by decide)
        exact hQ cn _ _ d tl _ _ _ _ _ hcn q1.1 q1.2 (by omega) (by omega) htl kF (dr_news kN (back0 N hg (by assumption)))
end
end
section
theorem rs_R4 : True := by
  w_top off
  trivial
local macro_rules | `(tactic| end_err) => `(tactic| ((rename LeaveToV _ _ _ _ _ _ => lT'); (with_reducible refine LeaveToV.go lT' ?_); (try dsimp only)))
section
theorem enterL0 {own : List (Addr × Obj)} {R : Result -> Shared -> Prop} {name qual : Str} {params : Arguments} {body : Expr} {scope : Scope} {cl : List (Str × Addr)} {pm ctv : Value} {c' : Addr} {f : Addr} {args : Args} {binds : List (Str × Value)}
    (cx : Cx w (j + 1) dp un A₀ env outer base h₀ L) (F : Fr h₀ L s.heap m) (O : News h₀ L s.heap own)
    (ho : s.heap.get? f = some (kla_obj name qual params body scope cl pm c' ctv)) (hcd : s.heap.CodeRec (.ref c') qual)
    (hbind : bindArgs (kla_fn name qual params body scope cl pm (.ref c') ctv) args = pure binds) (hloc : ∀ y ∈ binds, scope.names.lookup y.1 = some .local)
    (h : ∀ g L' h₁, Fr h₀ L g m -> (∀ b o, s.heap.get? b = some o -> b ∉ own.map (·.1) -> g.get? b = some o) -> Fr g L' h₁ (fun y => binds.reverse.lookup y) -> News g L' h₁ own -> Cx w j (dp + 1) (un + 3) (AA dp un env outer) (envX qual scope L' f (.ref c') cl) (env :: outer) base g L' -> (∀ p ∈ own, p.1 < L') ->
      wpAny (model RWQ.row.prog w) (AA (dp + 1) (un + 3) (envX qual scope L' f (.ref c') cl) (env :: outer)) (eval body (envX qual scope L' f (.ref c') cl))
        (fun v s' => LeaveK h₀ L m g R v s')
        (fun e s' => wpAny (model RWQ.row.prog w) (AA (dp + 1) (un + 3) (envX qual scope L' f (.ref c') cl) (env :: outer)) (leaving (envX qual scope L' f (.ref c') cl) e) (fun _ s'' => R (.error e) s'') (fun e' s'' => R (.error e') s'') s')
        { s with heap := h₁, toks := s.toks + binds.length })
    (hcell : ∀ x ∈ scope.names, x.2 ≠ .cell) (hco : scope.isCoroutine = false) (hgen : scope.isGenerator = false) (hk : scope.kind = .function) :
    codeAny (model RWQ.row.prog w) (AA dp un env outer) (.call (.ref f) args) R s := by
  obtain ⟨X, ⟨p, loose, mean, mg, mb, T⟩, B, hf, hke, hd0, hu0⟩ := cx
  obtain ⟨FG, BG, st, lv⟩ := groundX (R := R) B F O (A := AA dp un env outer) rfl hf hke
  refine kla_callFunE (show dp < 1000 by omega) ho rfl hco hgen rfl hcd ?_
  rw [hbind]
  refine wpAny_pure (wpAny_newFunctionEnv hcell hloc (fun h₁ hns hsb => ⟨((T.nolimit).keeps F.keep).fresh _ hsb, ?_⟩) hk)
  show codeAny _ _ (.expr body (envX qual scope s.heap.objs.size f (.ref c') cl)) _ _
  have hk₁ : ∀ b o, s.heap.get? b = some o -> h₁.get? b = some o := fun b o e => hsb.extBut b o (Nnl (Hls e)) (Heap.get?_push_of_some _ e)
  exact kla_codeExpr (wpAny_mono (h _ s.heap.objs.size h₁ FG (fun b o e q => hideAll_get _ e q) ⟨hns, fun b o e => hk₁ b o (of_hideAll _ e), Nle (hideAll_size _ _)⟩
    (fun p hp => ⟨hk₁ _ _ (O p hp).1, Nnl (Hls (O p hp).1), hideAll_none _ (List.mem_map_of_mem hp)⟩) ⟨X.keeps st, ⟨p, loose, mean, mg, mb, T.keeps st⟩, BG, rfl, hk, (by omega), (by omega)⟩ (fun p hp => Hls (O p hp).1)) (fun v s' hl => lv _ _ hl) fun _ _ y => y)
theorem enterL {own : List (Addr × Obj)} {R : Result -> Shared -> Prop} {name qual : Str} {params : Arguments} {body : Expr} {scope : Scope} {cl : List (Str × Addr)} {pm ctv : Value} {c' : Addr} {f : Addr} {args : Args} {binds : List (Str × Value)}
    (cx : Cx w (j + 1) dp un A₀ env outer base h₀ L) (F : Fr h₀ L s.heap m) (O : News h₀ L s.heap own)
    (ho : s.heap.get? f = some (kla_obj name qual params body scope cl pm c' ctv)) (hcd : s.heap.CodeRec (.ref c') qual)
    (hbind : bindArgs (kla_fn name qual params body scope cl pm (.ref c') ctv) args = pure binds) (hloc : ∀ y ∈ binds, scope.names.lookup y.1 = some .local)
    (h : ∀ (dp' un' : Nat) (outer' : List Env) (A' : Around) (Q' : Value -> Shared -> Prop) g L' h₁, Fr h₀ L g m -> (∀ b o, s.heap.get? b = some o -> b ∉ own.map (·.1) -> g.get? b = some o) -> Fr g L' h₁ (fun y => binds.reverse.lookup y) -> News g L' h₁ own -> Cx w j dp' un' A' (envX qual scope L' f (.ref c') cl) outer' base g L' -> (∀ p ∈ own, p.1 < L') -> LeaveToV h₀ L m g R Q' ->
      wpAny (model RWQ.row.prog w) (AA dp' un' (envX qual scope L' f (.ref c') cl) outer') (eval body (envX qual scope L' f (.ref c') cl)) Q' (fun _ _ => False)
        { s with heap := h₁, toks := s.toks + binds.length })
    (hcell : ∀ x ∈ scope.names, x.2 ≠ .cell) (hco : scope.isCoroutine = false) (hgen : scope.isGenerator = false) (hk : scope.kind = .function) :
    codeAny (model RWQ.row.prog w) (AA dp un env outer) (.call (.ref f) args) R s :=
  enterL0 cx F O ho hcd hbind hloc (fun g L' h₁ FG hg F' N' cx' lt => wpAny_mono (h _ _ _ _ _ g L' h₁ FG hg F' N' cx' lt fun _ _ k => k) (fun _ _ k => k) fun _ _ x => x.elim) hcell hco hgen hk
noncomputable def hits (x : Str) : Option Str -> Bool
  | none => inS (Zs "ace") x
  | some y => inS (Txt.lower (headOf y)) (Txt.lower (Txt.upper x))
noncomputable def optV : Option (Str × Tok) -> Value
  | none => .none
  | some (y, t) => .str y t
theorem c_lam (cx : Cx w (j + 2) dp un A₀ env outer base h₀ L) (F : Fr h₀ L s.heap m) (p : RuleP) {v : Str} (N : News h₀ L s.heap (ruleObjs w p v)) (x : Str) (n : Int) (ok : RuleOk p x n) (y : Option (Str × Tok)) (hy : ∀ z ∈ y, z.1.length ≤ 200) (hx : x.length ≤ 10) (hux : Txt.upper x ≠ Zs "*") (hlu : (Txt.upper x).length ≤ 30)
    (hQ : ∀ h' tk t, Fr h₀ L h' m -> Keeps h₀ L s.heap h' -> Q (.int (if hits x (y.map (·.1)) then n else 0) t) { s with heap := h', toks := tk }) :
    wpAny (model RWQ.row.prog w) (AA dp un env outer) (call (.ref p.f) [optV y] []) Q E s := by
  obtain ⟨a, d, l1, l2, f, c, cS, cO, aO, dO, l3, l4, oc, oS, oO, pm, ct, t1, t2, t3, t4, t5, t6, t7, t8, t9, t10, tv, ags, e⟩ := p
  obtain ⟨⟨tn, hs⟩, ho, ⟨cs, tc, hc1, hc2⟩, hag⟩ := ok
  dsimp only at hs ho hc1 hc2 hag ⊢
  dsimp only [ruleObjs, ownObjs] at N
  have hP : lamP ruleLam = lamP ruleLam := rfl
  conv at hP => rhs; whnf
  have hB : lamB ruleLam = lamB ruleLam := rfl
  conv at hB => rhs; whnf
  have hS : lamS ruleLam = lamS ruleLam := rfl
  conv at hS => rhs; whnf
  rw [hP, hB, hS] at N
  clear hP hB hS
  rcases y with _ | ⟨y, ty⟩
  · skip
    revert hQ; revert hlu; revert hux; revert hx; revert hag; revert hc2; revert hc1; revert ho; revert hs; revert N; revert F; revert cx
    revert tc; revert cs; revert tn; revert n; revert x; revert v; revert e; revert ags; revert tv; revert t10; revert t9; revert t8; revert t7; revert t6; revert t5; revert t4; revert t3; revert t2; revert t1; revert ct; revert pm; revert oO; revert oS; revert oc; revert l4; revert l3; revert dO; revert aO; revert cO; revert cS; revert c; revert f; revert l2; revert l1; revert d; revert a; revert E; revert Q; revert s; revert m; revert L; revert h₀; revert base; revert outer; revert env; revert A₀; revert un; revert dp; revert j; revert w
    apply frz22; case n => walk_at "FZN"
    intro w j dp un A₀ env outer base h₀ L m s Q E a d l1 l2 f c cS cO
    clear_value w j dp un A₀ env outer base h₀ L m s Q E a d l1 l2 f c cS cO
    apply frz22; case n => walk_at "FZN"
    intro aO dO l3 l4 oc oS oO pm ct t1 t2 t3 t4 t5 t6 t7 t8 t9 t10 tv ags e
    clear_value aO dO l3 l4 oc oS oO pm ct t1 t2 t3 t4 t5 t6 t7 t8 t9 t10 tv ags e
    apply frz6; case n => walk_at "FZN"
    intro v x n tn cs tc
    clear_value v x n tn cs tc
    intro cx F N hs ho hc1 hc2 hag hx hux hlu hQ
    refine wpAny_call ?_
    refine' enterL cx F N (N _ (.tail _ (.tail _ (.head _)))).1 (codeRec_news N (.tail _ (.tail _ (.tail _ (.head _)))) hc1 hc2) (binds := [(Zs "name", Value.none)]) ?bd (locs rfl) ?_ (by decide) rfl rfl rfl
    case bd => exact rfl
    apply frz8; case n => walk_at "FZN"
    intro dp' un' outer' A' Q' g L1 h1
    clear_value dp' un' outer' A' Q' g L1 h1
    intro FG hg F1 N1 cx1 lx LT1
    have X1 := cx1.X
    have B1 := cx1.B
    have hf1 := cx1.f
    have hke1 := cx1.k
    have hdp1 := cx1.d
    have hun1 := cx1.u
    obtain ⟨p1, loose1, mean1, mg1, mb1, T1⟩ := cx1.T
    (((try dsimp only); (try k_fold)))
    (repeat ((fail_if_success (with_reducible show wpAny _ _ (getMethod _ _ _) _ _ _)); w_once))
    (repeat ((fail_if_success (with_reducible show wpAny _ _ (call _ _ _) _ _ _)); w_once))
    rename News _ _ _ _ => N2
    rename Fr _ _ _ _ => F2
    refine c_applies_n cx1 F2 ⟨a, d, l1, l2, f, c, cS, cO, aO, dO, l3, l4, oc, oS, oO, pm, ct, t1, t2, t3, t4, t5, t6, t7, t8, t9, t10, tv, ags, e⟩ (fun p hp => N2 p (.tail _ (.tail _ (.tail _ (.tail _ (.tail _ (.tail _ hp))))))) x hx hag hux hlu ?_
    intro h9 tk9 F9 K9
    have N9 := K9 _ N2
    clear N2 F2 K9
    obtain ⟨b, hb⟩ : ∃ b, b = hits x none := ⟨_, rfl⟩
    have hb' : inS (Zs "ace") x = b := hb.symm
    have hb2 : hits x (Option.map (·.1) (none : Option (Str × Tok))) = b := hb.symm
    rw [hb2] at hQ
    rw [hb']
    clear hb hb' hb2
    cases b
    all_goals (
      (repeat ((fail_if_success (with_reducible show LeaveK _ _ _ _ _ _ _)); w_once))
      rename News _ _ _ _ => N9
      rename Fr _ _ _ _ => F9
      refine leaveK_ F9 N9 ?_
      intro kF kN
      exact hQ _ _ _ kF (keeps_own N hg F9 N9))
  · have hy' := hy _ rfl
    clear hy
    revert hQ; revert hy'; revert hlu; revert hux; revert hx; revert hag; revert hc2; revert hc1; revert ho; revert hs; revert N; revert F; revert cx
    revert ty; revert y; revert tc; revert cs; revert tn; revert n; revert x; revert v; revert e; revert ags; revert tv; revert t10; revert t9; revert t8; revert t7; revert t6; revert t5; revert t4; revert t3; revert t2; revert t1; revert ct; revert pm; revert oO; revert oS; revert oc; revert l4; revert l3; revert dO; revert aO; revert cO; revert cS; revert c; revert f; revert l2; revert l1; revert d; revert a; revert E; revert Q; revert s; revert m; revert L; revert h₀; revert base; revert outer; revert env; revert A₀; revert un; revert dp; revert j; revert w
    apply frz22; case n => walk_at "FZN"
    intro w j dp un A₀ env outer base h₀ L m s Q E a d l1 l2 f c cS cO
    clear_value w j dp un A₀ env outer base h₀ L m s Q E a d l1 l2 f c cS cO
    apply frz22; case n => walk_at "FZN"
    intro aO dO l3 l4 oc oS oO pm ct t1 t2 t3 t4 t5 t6 t7 t8 t9 t10 tv ags e
    clear_value aO dO l3 l4 oc oS oO pm ct t1 t2 t3 t4 t5 t6 t7 t8 t9 t10 tv ags e
    apply frz8; case n => walk_at "FZN"
    intro v x n tn cs tc y ty
    clear_value v x n tn cs tc y ty
    intro cx F N hs ho hc1 hc2 hag hx hux hlu hy' hQ
    refine wpAny_call ?_
    refine' enterL cx F N (N _ (.tail _ (.tail _ (.head _)))).1 (codeRec_news N (.tail _ (.tail _ (.tail _ (.head _)))) hc1 hc2) (binds := [(Zs "name", Value.str y ty)]) ?bd (locs rfl) ?_ (by decide) rfl rfl rfl
    case bd => exact rfl
    apply frz8; case n => walk_at "FZN"
    intro dp' un' outer' A' Q' g L1 h1
    clear_value dp' un' outer' A' Q' g L1 h1
    intro FG hg F1 N1 cx1 lx LT1
    have X1 := cx1.X
    have B1 := cx1.B
    have hf1 := cx1.f
    have hke1 := cx1.k
    have hdp1 := cx1.d
    have hun1 := cx1.u
    obtain ⟨p1, loose1, mean1, mg1, mb1, T1⟩ := cx1.T
    (((try dsimp only); (try k_fold)))
    (repeat ((fail_if_success (with_reducible show wpAny _ _ (getMethod _ _ _) _ _ _)); w_once))
    (repeat ((fail_if_success (with_reducible show wpAny _ _ (call _ _ _) _ _ _)); w_once))
    rename News _ _ _ _ => N2
    rename Fr _ _ _ _ => F2
    refine c_applies_s cx1 F2 ⟨a, d, l1, l2, f, c, cS, cO, aO, dO, l3, l4, oc, oS, oO, pm, ct, t1, t2, t3, t4, t5, t6, t7, t8, t9, t10, tv, ags, e⟩ (fun p hp => N2 p (.tail _ (.tail _ (.tail _ (.tail _ (.tail _ (.tail _ hp))))))) x y ty hy' hx hag hux hlu ?_
    intro h9 tk9 F9 K9
    have N9 := K9 _ N2
    clear N2 F2 K9
    obtain ⟨b, hb⟩ : ∃ b, b = hits x (some y) := ⟨_, rfl⟩
    have hb' : inS (Txt.lower (headOf y)) (Txt.lower (Txt.upper x)) = b := hb.symm
    have hb2 : hits x (Option.map (·.1) (some (y, ty))) = b := hb.symm
    rw [hb2] at hQ
    rw [hb']
    clear hb hb' hb2
    cases b
    all_goals (
      (repeat ((fail_if_success (with_reducible show LeaveK _ _ _ _ _ _ _)); w_once))
      rename News _ _ _ _ => N9
      rename Fr _ _ _ _ => F9
      refine leaveK_ F9 N9 ?_
      intro kF kN
      exact hQ _ _ _ kF (keeps_own N hg F9 N9))
end
end
section
noncomputable def RowSigns (T : Str) : Prop := ∀ c ∈ T.cps.toList, c = 32 ∨ (97 ≤ c ∧ c ≤ 102)
theorem letter_back (k : Nat) (hk : 97 ≤ k ∧ k ≤ 102) : Txt.lower (Txt.upper ⟨#[k]⟩) = ⟨#[k]⟩ := by
  obtain ⟨h1, h2⟩ := hk
  have : k = 97 ∨ k = 98 ∨ k = 99 ∨ k = 100 ∨ k = 101 ∨ k = 102 := by omega
  rcases this with rfl | rfl | rfl | rfl | rfl | rfl <;> decide +kernel
theorem inS_one (s : Str) (k : Nat) : inS s ⟨#[k]⟩ = decide (k ∈ s.cps.toList) := StrLaws.found_one s k
theorem hits_str {y : Str} {A B : List Nat} (h : y.cps.toList = A ++ 47 :: B) (hA : 47 ∉ A) (hA2 : ∀ c ∈ A, c < 128) {k : Nat} (hk : 97 ≤ k ∧ k ≤ 102) : hits ⟨#[k]⟩ (some y) = decide (k ∈ A.map loC) := by
  show inS (Txt.lower (headOf y)) (Txt.lower (Txt.upper ⟨#[k]⟩)) = _
  rw [letter_back k hk, inS_one, headOf_eq h hA, lower_list (by simpa using hA2)]
theorem hits_row {T : Str} (hT : RowSigns T) {k : Nat} (hk : 97 ≤ k ∧ k ≤ 102) : hits ⟨#[k]⟩ (some (Txt.upper T ++ Zs "*/abcdef")) = decide (k ∈ T.cps.toList) := by
  have hT1 : ∀ c ∈ T.cps.toList, c < 128 := fun c hc => by rcases hT c hc with h | h <;> omega
  have hy : (Txt.upper T ++ Zs "*/abcdef").cps.toList = (T.cps.toList.map upC ++ [42]) ++ 47 :: [97, 98, 99, 100, 101, 102] := by
    rw [PySem.Str.cps_append, Array.toList_append, upper_list hT1]
    have : (Zs "*/abcdef").cps.toList = [42, 47, 97, 98, 99, 100, 101, 102] := by decide +kernel
    rw [this]; simp
  have hup : ∀ c ∈ T.cps.toList, upC c = 32 ∨ (65 ≤ upC c ∧ upC c ≤ 70) := fun c hc => by
    unfold upC
    rcases hT c hc with rfl | h
    · left; rfl
    · right; rw [if_pos (by omega)]; omega
  rw [hits_str hy (fun hm => by
    rcases Lma.mp hm with hm | hm
    · obtain ⟨c, hc, e⟩ := Lmm.mp hm
      have := hup c hc
      omega
    · rw [Lms] at hm; omega) (fun c hc => by
    rcases Lma.mp hc with hc | hc
    · obtain ⟨d, hd, e⟩ := Lmm.mp hc
      have := hup d hd
      omega
    · rw [Lms] at hc; omega) hk]
  have hback : (T.cps.toList.map upC).map loC = T.cps.toList := by
    rw [Lmq]
    conv => rhs; rw [← List.map_id T.cps.toList]
    refine List.map_congr_left fun c hc => ?_
    show loC (upC c) = c
    unfold loC upC
    rcases hT c hc with rfl | h
    · rfl
    · rw [if_pos (show 97 ≤ c ∧ c ≤ 122 by omega), if_pos (show 65 ≤ c - 32 ∧ c - 32 ≤ 90 by omega)]; omega
  rw [Lmp, hback]
  have h42 : [42].map loC = [42] := rfl
  rw [h42]
  have : (k ∈ T.cps.toList ++ [42]) ↔ k ∈ T.cps.toList := by
    rw [Lma, Lms]
    exact ⟨fun h => h.elim id fun h => by omega, .inl⟩
  exact decide_eq_decide.mpr this
theorem hits_star {k : Nat} (hk : 97 ≤ k ∧ k ≤ 102) : hits ⟨#[k]⟩ (some (Zs "*/abcdef")) = false := by
  have hy : (Zs "*/abcdef").cps.toList = [42] ++ 47 :: [97, 98, 99, 100, 101, 102] := by decide +kernel
  rw [hits_str hy (by simp) (by simp) hk]
  have : ¬ k ∈ [42].map loC := by
    show ¬ k ∈ [42]
    rw [Lms]; omega
  exact decide_eq_false this
theorem hits_none {k : Nat} (hk : 97 ≤ k ∧ k ≤ 102) : hits ⟨#[k]⟩ none = decide (k = 97 ∨ k = 99 ∨ k = 101) := by
  obtain ⟨h1, h2⟩ := hk
  have : k = 97 ∨ k = 98 ∨ k = 99 ∨ k = 100 ∨ k = 101 ∨ k = 102 := by omega
  show inS (Zs "ace") ⟨#[k]⟩ = _
  rw [inS_one]
  rcases this with rfl | rfl | rfl | rfl | rfl | rfl <;> decide +kernel
theorem letter_ok (k : Nat) (hk : 97 ≤ k ∧ k ≤ 102) : Txt.upper ⟨#[k]⟩ ≠ Zs "*" ∧ (Txt.upper ⟨#[k]⟩).length ≤ 30 := by
  obtain ⟨h1, h2⟩ := hk
  have : k = 97 ∨ k = 98 ∨ k = 99 ∨ k = 100 ∨ k = 101 ∨ k = 102 := by omega
  rcases this with rfl | rfl | rfl | rfl | rfl | rfl <;> decide +kernel
end
section
theorem rs_R5 : True := by
  w_top off
  trivial
structure RuleQ where
  p : RuleP
  x : Str
  n : Int
  v : Str
noncomputable def RuleQ.good (q : RuleQ) : Prop := RuleOk q.p q.x q.n ∧ q.x.length ≤ 10 ∧ Txt.upper q.x ≠ Zs "*" ∧ (Txt.upper q.x).length ≤ 30 ∧ q.v.length ≤ 10 ∧ 1 ≤ q.n
noncomputable def RuleQ.tell (y : Option Str) (q : RuleQ) : Int × Str := (if hits q.x y then q.n else 0, q.v)
noncomputable def alStep (st : Int × Option Str) (r : Int × Str) : Int × Option Str :=
  if r.1 = 0 then st else if st.1 < r.1 then (r.1, some r.2) else if r.1 = st.1 ∧ st.2.any (fun v => v.length == 0) = true then (st.1, some r.2) else st
theorem al_z {v : Str} (h : (v.length : Int) = 0) : (some v).any (fun v => v.length == 0) = true := by
  have : v.length = 0 := by omega
  simp [this]
theorem al_n {v : Str} (h : (v.length : Int) ≠ 0) (h2 : (some v).any (fun v => v.length == 0) = true) : False := by
  have : v.length = 0 := by simpa using h2
  omega
noncomputable def alV : Option Str -> Tok -> Value
  | none, _ => .bool true
  | some v, t => .str v t
structure RecP where
  a : Addr
  d : Addr
  l1 : Addr
  l2 : Addr
  t1 : Tok
  t2 : Tok
  t3 : Tok
  t4 : Tok
  e : Nat
  e2 : Nat
noncomputable abbrev recObjs (w : World) (p : RecP) (vs : List Value) : List (Addr × Obj) :=
  [(p.a, instObj 59 p.d), (p.d, dictOf [en w "useragents" p.t1 (.ref p.l1), en w "rulelines" p.t2 (.ref p.l2), en w "delay" p.t3 .none, en w "req_rate" p.t4 .none] 4), (p.l2, Wl vs.toArray p.e)]
noncomputable def rulesObjs (w : World) (qs : List RuleQ) : List (Addr × Obj) := qs.flatMap fun q => ruleObjs w q.p q.v
inductive JAl (y : Option (Str × Tok)) (fin : Option Str) (all : List (Addr × Obj)) (qs : List RuleQ) (r : List Value) (m : Str -> Option Value) (news : List (Addr × Obj)) : Prop
  | mk : ∀ (rest : List RuleQ) (best : Int) (al : Option Str) (tb ta : Tok), (r = rest.map (fun q => Value.ref q.p.a)) -> ((∀ q ∈ rest, q ∈ qs)) -> (((rest.map (RuleQ.tell (y.map (·.1)))).foldl alStep (best, al)).2 = fin) -> (m (Zs "filename") = some (optV y)) -> (m (Zs "best_match") = some (.int best tb)) -> (m (Zs "allowance") = some (alV al ta)) -> ((∀ v, al = some v -> v.length ≤ 10)) -> (news = all) -> JAl y fin all qs r m news
section
theorem c_allow (cx : Cx w (j + 3) dp un A₀ env outer base h₀ L) (F : Fr h₀ L s.heap m) (p : RecP) (qs : List RuleQ) (N : News h₀ L s.heap (recObjs w p (qs.map fun q => .ref q.p.a) ++ rulesObjs w qs)) (hqs : ∀ q ∈ qs, q.good) (y : Option (Str × Tok)) (hy : ∀ z ∈ y, z.1.length ≤ 200) (hsz : qs.length ≤ 1000)
    (hQ : ∀ h' tk t, Fr h₀ L h' m -> Keeps h₀ L s.heap h' -> Q (alV ((qs.map (RuleQ.tell (y.map (·.1)))).foldl alStep (-1, none)).2 t) { s with heap := h', toks := tk }) :
    wpAny (model RWQ.row.prog w) (AA dp un env outer) (call (.ref 56) [.ref p.a, optV y] []) Q E s := by
  obtain ⟨a, d, l1, l2, t1, t2, t3, t4, e, e2⟩ := p
  dsimp only [recObjs] at N ⊢
  revert hQ; revert hsz; revert hy; revert hqs; revert N; revert F; revert cx
  revert y; revert qs; revert e2; revert e; revert t4; revert t3; revert t2; revert t1; revert l2; revert l1; revert d; revert a; revert E; revert Q; revert s; revert m; revert L; revert h₀; revert base; revert outer; revert env; revert A₀; revert un; revert dp; revert j; revert w
  apply frz22; case n => walk_at "FZN"
  intro w j dp un A₀ env outer base h₀ L m s Q E a d l1 l2 t1 t2 t3 t4
  clear_value w j dp un A₀ env outer base h₀ L m s Q E a d l1 l2 t1 t2 t3 t4
  apply frz4; case n => walk_at "FZN"
  intro e e2 qs y
  clear_value e e2 qs y
  intro cx F N hqs hy hsz hQ
  have N0 := N
  ((refine wpAny_call ?_; (rename Fr _ _ _ _ => eF); (rename Cx _ _ _ _ _ _ _ _ _ _ => eC); (refine' enterP eC eF (by assumption) ?k6 ?k7 ?k9 ?kB ?_ ?c5 ?c2 ?c3 ?c4); (case k6 => k_is); (case k7 => k_is); (case k9 => first | exact BindsTo.of_eq rfl | exact binds_K (by k_in) rfl (by k_is) rfl rfl rfl); (case c5 => decide); (case kB => exact locs rfl); (case c2 => exact rfl); (case c3 => exact rfl); (case c4 => exact rfl)))
  apply frz8; case n => walk_at "FZN"
  intro dp' un' outer' A' Q' g L1 h1
  clear_value dp' un' outer' A' Q' g L1 h1
  intro FG hg F1 N1 cx1 lx LT1
  have X1 := cx1.X
  have B1 := cx1.B
  have hf1 := cx1.f
  have hke1 := cx1.k
  have hdp1 := cx1.d
  have hun1 := cx1.u
  obtain ⟨p1, loose1, mean1, mg1, mb1, T1⟩ := cx1.T
  (try skip)
  (((try dsimp only); (try k_fold)))
  clear lx
  (repeat ((fail_if_success (with_reducible show wpAny _ _ (exec (Stmt.For _ _ _ _ _) _) _ _ _)); w_once))
  rename Fr _ _ _ _ => F2
  rename News _ _ _ _ => N2
  rename_i h2
  revert N2; revert F2; revert T1
  revert tk; revert h2; revert mb1; revert mg1; revert mean1; revert loose1; revert p1
  apply frz7; case n => walk_at "FZN"
  intro p1 loose1 mean1 mg1 mb1 h2 tk
  clear_value p1 loose1 mean1 mg1 mb1 h2 tk
  intro T1 F2 N2
  refine For_seqH (h₀ := g) ?_ (fun _ => rfl) (by passes_own)
  iterate 3 (w_once)
  refine ⟨l2, qs.map fun q => .ref q.p.a, _, _, fun r m nw => JAl y ((qs.map (RuleQ.tell (y.map (·.1)))).foldl alStep (-1, none)).2 (recObjs w ⟨a, d, l1, l2, t1, t2, t3, t4, e, e2⟩ (qs.map fun q => .ref q.p.a) ++ rulesObjs w qs) qs r m nw, rfl, rfl, F2, N2, SeqAt.of_list (is_of N2 (by walk_at "MEM")), fun {Q'} q => wpAny_pyIter_list (is_of N2 (by walk_at "MEM")) (by simpa using q), ?init, ?step, ?done⟩
  case init => exact ⟨qs, -1, none, _, default, rfl, fun _ h => h, rfl, rfl, rfl, rfl, (fun _ h => nomatch h), rfl⟩
  case step =>
    clear N2 F2 N
    rintro I x r m₁ news₁ hp2 tk2 oI Qt ⟨rest, best, al, tb, ta, hr, hsub, hfin, hmf, hmb, hma, hal, rfl⟩ hc F8 N8 off8 hl8 LQ
    cases rest with
    | nil => cases hr
    | cons q rest =>
      injection hr with hx1 hx2
      subst hx1 hx2
      obtain ⟨ok, hx, hux, hlu, hv, hn⟩ := hqs q (hsub q (.head _))
      revert LQ; revert hl8; revert off8; revert N8; revert F8; revert hc; revert hn; revert hv; revert hlu; revert hux; revert hx; revert ok; revert hal; revert hma; revert hmb; revert hmf; revert hfin; revert hsub
      revert ta; revert tb; revert al; revert best; revert rest; revert q; revert Qt; revert oI; revert tk2; revert hp2; revert m₁; revert I
      apply frz12; case n => walk_at "FZN"
      intro I m₁ hp2 tk2 oI Qt q rest best al tb ta
      clear_value I m₁ hp2 tk2 oI Qt q rest best al tb ta
      intro hsub hfin hmf hmb hma hal ok hx hux hlu hv hn hc F8 N8 off8 hl8 LQ
      have Nq : News g L1 hp2 (ruleObjs w q.p q.v) := fun z hz => N8 z (.tail _ (Lar _ (List.mem_flatMap.mpr ⟨q, hsub q (.head _), hz⟩)))
      have N9 := news_app Nq N8
      dsimp only [ruleObjs, ownObjs, Lca, Lna] at N9 F8 ⊢
      clear N8 Nq
      (repeat ((fail_if_success (with_reducible show wpAny _ _ (getMethod _ _ _) _ _ _)); w_once))
      rename News _ _ _ _ => N3
      rename Fr _ _ _ _ => F3
      refine meth_inst F3 X1 (InstAt.of_news N3 (List.Mem.head _) (.tail _ (.head _))) (by k_is) (by k_is) (by k_is) (by k_is) (by k_is) (by k_is) (by k_get) rfl ?_
      refine callWith_F (FnAt.of N3 (.tail _ (.tail _ (.head _)))) ?_
      iterate 3 (w_once)
      rename News _ _ _ _ => N4
      rename Fr _ _ _ _ => F4
      rename_i h3
      revert N4; revert F4
      revert tk; revert h3
      apply frz2; case n => walk_at "FZN"
      intro h3 tk
      clear_value h3 tk
      intro F4 N4
      have N5 : News g L1 _ (ruleObjs w q.p q.v) := fun z hz => N4 z (by
        simp only [ruleObjs, ownObjs, Lmc, Lnm, or_false] at hz
        rcases hz with rfl | rfl | rfl | rfl | rfl | rfl | rfl | rfl | rfl <;> walk_at "MEM")
      refine ⟨FnAt.of N4 (.tail _ (.tail _ (.head _))), ?_⟩
      refine c_lam cx1 F4 q.p N5 q.x q.n ok y hy hx hux hlu ?_
      apply frz3; case n => walk_at "FZN"
      intro h9 tk9 t9
      clear_value h9 tk9 t9
      intro F9 K9
      have N9 := K9 _ N4
      clear N4 N5 F4 K9
      rw [Lpc, List.foldl_cons] at hfin
      obtain ⟨mv, hmv⟩ : ∃ mv, mv = (if hits q.x (y.map (·.1)) then q.n else 0) := ⟨_, rfl⟩
      have htell : q.tell (y.map (·.1)) = (mv, q.v) := by unfold RuleQ.tell; rw [hmv]
      rw [htell] at hfin
      have hmp : 0 ≤ mv := by rw [hmv]; split <;> omega
      rw [← hmv]
      clear hmv htell
      cases al with
      | none =>
        have hma : m₁ (Zs "allowance") = some (.bool true) := hma
        repeat' ((fail_if_success (with_reducible show LoopEndH _ _ _ _ _ _ _ _ _ _)); first | (((with_reducible show wpAny _ _ (getAttr (Value.ref _) _ _) _ _ _); (refine attr_inst (by k_asm) (by k_asm) (InstAt.of_news (by k_asm) (List.Mem.head _) (.tail _ (.head _))) (by k_is) (by k_is) (by k_is) (by k_is) (by k_is) (by k_get) rfl ?_))) | w_once)
        all_goals (
          rename News _ _ _ _ => N10
          rename Fr _ _ _ _ => F10
          have NS : News g L1 _ ((I, oI) :: _) := fun z hz => N10 z (.tail _ (.tail _ (.tail _ (.tail _ (.tail _ (.tail _ (.tail _ (.tail _ (.tail _ hz)))))))))
          first
          | (have e1 : alStep (best, none) (mv, q.v) = (mv, some q.v) := by (unfold alStep; dsimp only; rw [if_neg (by assumption), if_pos (by assumption)])
             rw [e1] at hfin
             refine ⟨_, _, _, _, rfl, F10, NS, off8, SeqAt.of_list (is_of N10 (by walk_at "MEM")), rest, mv, some q.v, ?tb, q.p.tv, rfl, fun q hq => hsub q (.tail _ hq), hfin, ?mf, ?mb, ?ma, fun v e => by cases e; exact hv, rfl⟩
             case mf => (repeat (refine (if_neg (by decide)).trans ?_)); exact hmf
             case mb => (repeat (refine (if_neg (by decide)).trans ?_)); exact if_pos rfl
             case ma => (repeat (refine (if_neg (by decide)).trans ?_)); exact if_pos rfl)
          | (have e1 : alStep (best, none) (mv, q.v) = (best, some q.v) := by (unfold alStep; dsimp only; rw [if_neg (by assumption), if_neg (by assumption), if_pos ⟨by assumption, al_z (by assumption)⟩])
             rw [e1] at hfin
             refine ⟨_, _, _, _, rfl, F10, NS, off8, SeqAt.of_list (is_of N10 (by walk_at "MEM")), rest, best, some q.v, tb, q.p.tv, rfl, fun q hq => hsub q (.tail _ hq), hfin, ?mf, ?mb, ?ma, fun v e => by cases e; exact hv, rfl⟩
             case mf => (repeat (refine (if_neg (by decide)).trans ?_)); exact hmf
             case mb => (repeat (refine (if_neg (by decide)).trans ?_)); exact hmb
             case ma => (repeat (refine (if_neg (by decide)).trans ?_)); exact if_pos rfl)
          | (have e1 : alStep (best, none) (mv, q.v) = (best, none) := by
               (unfold alStep; dsimp only)
               first
               | rw [if_pos (by assumption)]
               | rw [if_neg (by assumption), if_neg (by assumption), if_neg (fun h => absurd h.1 (by assumption))]
               | rw [if_neg (by assumption), if_neg (by assumption), if_neg (fun h => al_n (by assumption) h.2)]
               | rw [if_neg (by assumption), if_neg (by assumption), if_neg (fun h => absurd h.2 (by decide))]
             rw [e1] at hfin
             refine ⟨_, _, _, _, rfl, F10, NS, off8, SeqAt.of_list (is_of N10 (by walk_at "MEM")), rest, best, none, tb, ta, rfl, fun q hq => hsub q (.tail _ hq), hfin, ?mf, ?mb, ?ma, hal, rfl⟩
             case mf => (repeat (refine (if_neg (by decide)).trans ?_)); exact hmf
             case mb => (repeat (refine (if_neg (by decide)).trans ?_)); exact hmb
             case ma => (repeat (refine (if_neg (by decide)).trans ?_)); exact hma))
      | some va =>
        have hva := hal va rfl
        have hma : m₁ (Zs "allowance") = some (.str va ta) := hma
        repeat' ((fail_if_success (with_reducible show LoopEndH _ _ _ _ _ _ _ _ _ _)); first | (((with_reducible show wpAny _ _ (getAttr (Value.ref _) _ _) _ _ _); (refine attr_inst (by k_asm) (by k_asm) (InstAt.of_news (by k_asm) (List.Mem.head _) (.tail _ (.head _))) (by k_is) (by k_is) (by k_is) (by k_is) (by k_is) (by k_get) rfl ?_))) | w_once)
        all_goals (
          rename News _ _ _ _ => N10
          rename Fr _ _ _ _ => F10
          have NS : News g L1 _ ((I, oI) :: _) := fun z hz => N10 z (.tail _ (.tail _ (.tail _ (.tail _ (.tail _ (.tail _ (.tail _ (.tail _ (.tail _ hz)))))))))
          first
          | (have e1 : alStep (best, (some va)) (mv, q.v) = (mv, some q.v) := by (unfold alStep; dsimp only; rw [if_neg (by assumption), if_pos (by assumption)])
             rw [e1] at hfin
             refine ⟨_, _, _, _, rfl, F10, NS, off8, SeqAt.of_list (is_of N10 (by walk_at "MEM")), rest, mv, some q.v, ?tb, q.p.tv, rfl, fun q hq => hsub q (.tail _ hq), hfin, ?mf, ?mb, ?ma, fun v e => by cases e; exact hv, rfl⟩
             case mf => (repeat (refine (if_neg (by decide)).trans ?_)); exact hmf
             case mb => (repeat (refine (if_neg (by decide)).trans ?_)); exact if_pos rfl
             case ma => (repeat (refine (if_neg (by decide)).trans ?_)); exact if_pos rfl)
          | (have e1 : alStep (best, (some va)) (mv, q.v) = (best, some q.v) := by (unfold alStep; dsimp only; rw [if_neg (by assumption), if_neg (by assumption), if_pos ⟨by assumption, al_z (by assumption)⟩])
             rw [e1] at hfin
             refine ⟨_, _, _, _, rfl, F10, NS, off8, SeqAt.of_list (is_of N10 (by walk_at "MEM")), rest, best, some q.v, tb, q.p.tv, rfl, fun q hq => hsub q (.tail _ hq), hfin, ?mf, ?mb, ?ma, fun v e => by cases e; exact hv, rfl⟩
             case mf => (repeat (refine (if_neg (by decide)).trans ?_)); exact hmf
             case mb => (repeat (refine (if_neg (by decide)).trans ?_)); exact hmb
             case ma => (repeat (refine (if_neg (by decide)).trans ?_)); exact if_pos rfl)
          | (have e1 : alStep (best, (some va)) (mv, q.v) = (best, (some va)) := by
               (unfold alStep; dsimp only)
               first
               | rw [if_pos (by assumption)]
               | rw [if_neg (by assumption), if_neg (by assumption), if_neg (fun h => absurd h.1 (by assumption))]
               | rw [if_neg (by assumption), if_neg (by assumption), if_neg (fun h => al_n (by assumption) h.2)]
               | rw [if_neg (by assumption), if_neg (by assumption), if_neg (fun h => absurd h.2 (by decide))]
             rw [e1] at hfin
             refine ⟨_, _, _, _, rfl, F10, NS, off8, SeqAt.of_list (is_of N10 (by walk_at "MEM")), rest, best, (some va), tb, ta, rfl, fun q hq => hsub q (.tail _ hq), hfin, ?mf, ?mb, ?ma, hal, rfl⟩
             case mf => (repeat (refine (if_neg (by decide)).trans ?_)); exact hmf
             case mb => (repeat (refine (if_neg (by decide)).trans ?_)); exact hmb
             case ma => (repeat (refine (if_neg (by decide)).trans ?_)); exact hma))
  case done =>
    rintro m₁ news₁ hp2 tk2 ⟨rest, best, al, tb, ta, hr, hsub, hfin, hmf, hmb, hma, hal, rfl⟩ F8 N8
    cases rest with
    | cons q rest => cases hr
    | nil =>
      have hfin : al = _ := hfin
      rw [← hfin] at hQ
      (try dsimp only)
      (repeat ((fail_if_success (with_reducible show LeaveK _ _ _ _ _ _ _)); w_once))
      rename News _ _ _ _ => N9
      rename Fr _ _ _ _ => F9
      refine leaveK_ F9 N9 ?_
      intro kF kN
      exact hQ _ _ _ kF (keeps_own N0 hg F9 N9)
end
end
section
noncomputable def tri (m : Int) (x : Str) : List (Int × Str) := [(m, Zs ""), (m, x), (m, Zs "")]
theorem len_empty : (Zs "").length = 0 := by decide
theorem tri_step {best m : Int} {al : Option Str} {x : Str} (hx : x.length ≠ 0) (hal : ∀ v, al = some v -> v.length ≠ 0) (hb : al = none -> best < 0) (hm : 0 ≤ m) :
    (tri m x).foldl alStep (best, al) = if m = 0 then (best, al) else if best < m then (m, some x) else (best, al) := by
  have hxb : (some x).any (fun v => v.length == 0) = false := by simpa using hx
  have heb : (some (Zs "")).any (fun v => v.length == 0) = true := by rw [Option.any_some, len_empty]; rfl
  unfold tri
  rw [List.foldl_cons, List.foldl_cons, List.foldl_cons, List.foldl_nil]
  by_cases h0 : m = 0
  · subst h0
    simp [alStep]
  · rw [if_neg h0]
    by_cases hlt : best < m
    · rw [if_pos hlt]
      have s1 : alStep (best, al) (m, Zs "") = (m, some (Zs "")) := by unfold alStep; rw [if_neg h0, if_pos hlt]
      have s2 : alStep (m, some (Zs "")) (m, x) = (m, some x) := by unfold alStep; rw [if_neg h0, if_neg (Int.lt_irrefl _), if_pos ⟨rfl, heb⟩]
      have s3 : alStep (m, some x) (m, Zs "") = (m, some x) := by unfold alStep; rw [if_neg h0, if_neg (Int.lt_irrefl _), if_neg (fun h => by rw [hxb] at h; exact absurd h.2 (by decide))]
      rw [s1, s2, s3]
    · rw [if_neg hlt]
      have st : ∀ v, alStep (best, al) (m, v) = (best, al) := fun v => by
        unfold alStep
        rw [if_neg h0, if_neg hlt, if_neg (fun h => ?_)]
        cases al with
        | none => have := hb rfl; omega
        | some u =>
          have := hal u rfl
          have h2 : u.length = 0 := by simpa using h.2
          exact this h2
      rw [st, st, st]
noncomputable def firstLong : Int × Option Str -> List (Int × Str) -> Int × Option Str
  | st, [] => st
  | st, (m, x) :: r => firstLong (if m = 0 then st else if st.1 < m then (m, some x) else st) r
theorem fold_tri : ∀ (r : List (Int × Str)) (st : Int × Option Str), (∀ q ∈ r, q.2.length ≠ 0 ∧ 0 ≤ q.1) -> (∀ v, st.2 = some v -> v.length ≠ 0) -> (st.2 = none -> st.1 < 0) ->
    (r.flatMap fun q => tri q.1 q.2).foldl alStep st = firstLong st r
  | [], _, _, _, _ => rfl
  | (m, x) :: r, (best, al), h, hal, hb => by
    obtain ⟨hx, hm⟩ := h (m, x) (.head _)
    rw [List.flatMap_cons, List.foldl_append, tri_step hx hal hb hm, firstLong]
    refine fold_tri r _ (fun q hq => h q (.tail _ hq)) ?_ ?_
    · intro v hv
      split at hv
      · exact hal v hv
      · split at hv
        · cases hv; exact hx
        · exact hal v hv
    · intro hn
      split at hn
      · rename_i h0; rw [if_pos h0]; exact hb hn
      · rename_i h0
        split at hn
        · cases hn
        · rename_i h1; rw [if_neg h0, if_neg h1]; exact hb hn
theorem firstLong_none : ∀ (r : List (Int × Str)) (st : Int × Option Str), (∀ q ∈ r, q.1 = 0) -> firstLong st r = st
  | [], _, _ => rfl
  | (m, x) :: r, st, h => by
    have hm : m = 0 := h (m, x) (.head _)
    rw [firstLong, if_pos hm]
    exact firstLong_none r st fun q hq => h q (.tail _ hq)
theorem firstLong_stay : ∀ (r : List (Int × Str)) (st : Int × Option Str), (∀ q ∈ r, q.1 ≤ st.1) -> firstLong st r = st
  | [], _, _ => rfl
  | (m, x) :: r, st, h => by
    have hm : m ≤ st.1 := h (m, x) (.head _)
    rw [firstLong]
    have e : (if m = 0 then st else if st.1 < m then (m, some x) else st) = st := by
      split
      · rfl
      · rw [if_neg (by omega)]
    rw [e]
    exact firstLong_stay r st fun q hq => h q (.tail _ hq)
theorem firstLong_at {m : Int} {x : Str} {B : List (Int × Str)} (hm : 1 ≤ m) (hB : ∀ q ∈ B, q.1 ≤ m) : ∀ (A : List (Int × Str)) (st : Int × Option Str), (∀ q ∈ A, q.1 < m) -> st.1 < m -> firstLong st (A ++ (m, x) :: B) = (m, some x)
  | [], st, _, hs => by
    rw [Lna, firstLong, if_neg (by omega), if_pos hs]
    exact firstLong_stay B _ hB
  | (n, y) :: A, st, hA, hs => by
    have hn : n < m := hA (n, y) (.head _)
    rw [Lca, firstLong]
    refine firstLong_at hm hB A _ (fun q hq => hA q (.tail _ hq)) ?_
    split
    · exact hs
    · split
      · exact hn
      · exact hs
end
section
theorem rs_V2 : True := by
  w_top off
  trivial
local macro_rules | `(tactic| walk_at "exec For Tuple Call cons nil") => `(tactic| walk_at "S2")
local macro_rules | `(tactic| walk_at "exec For Tuple Name cons nil") => `(tactic| walk_at "S3")
local macro_rules | `(tactic| walk_at "call type:enumerate") => `(tactic| walk_at "S4")
local macro_rules | `(tactic| walk_at "call type:enumerate") => `(tactic| walk_at "S5")
local macro_rules | `(tactic| walk_at "call builtin:list.append") => `(tactic| walk_at "S6")
local macro_rules | `(tactic| walk_at "eval Name") => `(tactic| walk_at "S7")
noncomputable def leastF : Nat -> List Nat -> Nat -> List Nat
  | _, [], _ => []
  | i, x :: r, c => if x / 2 ^ c % 2 = 1 then i :: leastF (i + 1) r (c + 1) else leastF (i + 1) r c
inductive JLs (I l : Addr) (fin : List Nat) (xs : List Itm) (m' : Str -> Option Value) (n' : List (Addr × Obj)) : Prop
  | mk : ∀ i vs' ms' lv ls, (xs = enumItems i vs') -> (IntsAre vs' (ms'.map (Int.ofNat ·))) -> (m' (Zs "least") = some (.ref l)) -> (@LT.lt Nat _ l I) -> (IntsAre lv (ls.map (Int.ofNat ·))) -> (n' = [(l, Wl lv.toArray ls.length)]) -> (ls ++ leastF i ms' ls.length = fin) -> (i + ms'.length ≤ 200) -> (ls.length ≤ i) -> JLs I l fin xs m' n'
section
theorem c_least (cx : Cx w (j + 1) dp un A₀ env outer base h₀ L) (F : Fr h₀ L s.heap m) {D : Addr} {vs : List Value} {ms : List Nat} {e : Nat} (N : News h₀ L s.heap [(D, Wl vs.toArray e)]) (hvs : IntsAre vs (ms.map (Int.ofNat ·))) (hsz : ms.length ≤ 200)
    (hQ : ∀ x lv h' tk, IntsAre lv ((leastF 0 ms 0).map (Int.ofNat ·)) -> Fr h₀ L h' m -> News h₀ L h' [(x, Wl lv.toArray (leastF 0 ms 0).length)] -> Keeps h₀ L s.heap h' -> Q (.ref x) { s with heap := h', toks := tk }) :
    wpAny (model RWQ.row.prog w) (AA dp un env outer) (call (.ref 273) [.ref D] []) Q E s := by
  revert cx F N hvs hsz hQ
  revert w j dp un A₀ env outer base h₀ L m s Q E D vs ms e
  apply frz18; case n => walk_at "FZN"
  intro w j dp un A₀ env outer base h₀ L m s Q E D vs ms e
  clear_value w j dp un A₀ env outer base h₀ L m s Q E D vs ms e
  intro cx F N hvs hsz hQ
  ((refine wpAny_call ?_; (rename Fr _ _ _ _ => eF); (rename Cx _ _ _ _ _ _ _ _ _ _ => eC); (refine' enterP eC eF News.nil ?k6 ?k7 ?k9 ?kB ?_ ?c5 ?c2 ?c3 ?c4); (case k6 => k_is); (case k7 => k_is); (case k9 => first | exact BindsTo.of_eq rfl | exact binds_K (by k_in) rfl (by k_is) rfl rfl rfl); (case c5 => decide); (case kB => exact locs rfl); (case c2 => exact rfl); (case c3 => exact rfl); (case c4 => exact rfl)))
  apply frz8; case n => walk_at "FZN"
  intro dp' un' outer' A' Q' g L1 h1
  clear_value dp' un' outer' A' Q' g L1 h1
  intro FG hg F1 N1 cx1 l1 LT1
  have X1 := cx1.X
  have B1 := cx1.B
  have hf1 := cx1.f
  have hke1 := cx1.k
  have hdp1 := cx1.d
  have hun1 := cx1.u
  obtain ⟨p1, loose1, mean1, mg1, mb1, T1⟩ := cx1.T
  (try k_lt l1)
  (((try dsimp only); (try k_fold)))
  have hD := hg _ _ (N _ (.head _)).1 (fun h => nomatch h)
  have hl' : g.IsList D vs.toArray := ⟨_, hD, rfl, _, rfl⟩
  k_steps
  rename_i ls _ _ _ _ I lI
  refine items_ind (JLs I ls (leastF 0 ms 0)) ?turn ?done _ _ _ ?init
  case init => exact ⟨0, vs, ms, [], [], rfl, hvs, rfl, lI, .nil, rfl, by simp, by omega, Nat.le_refl _⟩
  case turn =>
    rintro x r m' n' ⟨i, vs', ms', lv, ll, hx, hi', hm, hlI, hlv, rfl, hfin, hsz2, hll⟩ v h tk hv F'
    cases ms' with
    | nil => cases hi'; cases hx
    | cons mm ms' =>
      rw [Lpc] at hi'
      cases hi' with
      | cons _ _ hi9 =>
      injection hx with hx1 hx2
      subst hx1 hx2
      obtain ⟨T, t, rfl, hT⟩ := hv
      have hmod : Builtin.bitAnd ((Int.ofNat mm).fdiv (2 ^ Int.toNat ((ll.length : Nat) : Int))) 1 = ((mm / 2 ^ ll.length % 2 : Nat) : Int) := by
        rw [Int.toNat_natCast, Int.fdiv_eq_ediv_of_nonneg _ (Int.pow_nonneg (by decide))]
        have e1 : (Int.ofNat mm) / 2 ^ ll.length = ((mm / 2 ^ ll.length : Nat) : Int) := by exact_mod_cast rfl
        rw [e1]
        show (((mm / 2 ^ ll.length) &&& 1 : Nat) : Int) = _
        rw [Nat.and_one_is_mod]
      have hlz : (ll.map (Int.ofNat ·)).length ≤ 200 := by rw [Llm]; simp at hsz2; omega
      have hsz3 : lv.toArray.size ≤ sizeLine := by rw [sizeLine_eq, Lst, hlv.length, Llm]; simp at hsz2; omega
      ktu_objs
      k_steps
      · have hne : Builtin.bitAnd ((Int.ofNat mm).fdiv (2 ^ Int.toNat ((ll.length : Nat) : Int))) 1 ≠ 0 := by first | assumption | simpa using (by assumption : Builtin.bitAnd ((Int.ofNat mm).fdiv (2 ^ Int.toNat (((ll.map (Int.ofNat ·)).length : Nat) : Int))) 1 ≠ 0)
        rw [hmod] at hne
        have h1 : mm / 2 ^ ll.length % 2 = 1 := by have := Nat.mod_lt (mm / 2 ^ ll.length) (show 0 < 2 by decide); omega
        refine ⟨i + 1, _, ms', lv ++ [.int (i : Int) t], ll ++ [i], rfl, hi9, (if_neg (by decide)).trans ((if_neg (by decide)).trans hm), hlI, ?_, ?_, ?_, ?_, ?_⟩
        · rw [Lmp]; exact hlv.append (.cons _ _ .nil)
        · simp
        · rw [← hfin, leastF, if_pos h1, Lla, List.length_singleton, Laa]; rfl
        · simp at hsz2; omega
        · rw [Lla, List.length_singleton]; omega
      · have hne : Builtin.bitAnd ((Int.ofNat mm).fdiv (2 ^ Int.toNat ((ll.length : Nat) : Int))) 1 = 0 := by first | assumption | simpa using (by assumption : Builtin.bitAnd ((Int.ofNat mm).fdiv (2 ^ Int.toNat (((ll.map (Int.ofNat ·)).length : Nat) : Int))) 1 = 0)
        rw [hmod] at hne
        have h1 : ¬ (mm / 2 ^ ll.length % 2 = 1) := by omega
        refine ⟨i + 1, _, ms', lv, ll, rfl, hi9, (if_neg (by decide)).trans ((if_neg (by decide)).trans hm), hlI, hlv, rfl, ?_, ?_, ?_⟩
        · rw [← hfin, leastF, if_neg h1]
        · simp at hsz2; omega
        · omega
  case done =>
    rintro m' n' ⟨i, vs', ms', lv, ll, hx, hi', hm, hlI, hlv, rfl, hfin, hsz2, hll⟩ h tk F' N'
    dsimp only
    k_steps
    rename News _ _ _ _ => N9
    rename Fr _ _ _ _ => F9
    cases ms' with
    | cons mm ms' => rw [Lpc] at hi'; cases hi'; cases hx
    | nil =>
      rw [leastF, Lan] at hfin
      refine leaveK_ F9 N9 ?_
      intro kF kN
      rw [← hfin] at hQ
      exact hQ _ lv _ _ hlv kF kN (fun n2 N2 => back0 N2 hg F9)
end
end
section
theorem rs_V3 : True := by
  w_top off
  trivial
noncomputable def cellHolds (o : Obj) : Prop := ∃ v, o.data = .cell v
noncomputable def pairD (q : Nat × Nat) : List PyData := [.int q.1, .int q.2]
noncomputable def bp (q : Piece) : Nat × Nat := (q.b, q.p)
inductive JCh (D cB cS : Addr) (ps : List Piece) (tl : List (Addr × Obj)) (e : Nat) (r : List Value) (m : Str -> Option Value) (news : List (Addr × Obj)) : Prop
  | mk : ∀ (k : Nat) (Dc : Addr) (chl : List (Addr × Obj)) (e2 : Nat) (oB oS : Obj), (r = refsOf (tl.drop k)) -> (k ≤ tl.length) -> (m (Zs "choices") = some (.ref Dc)) -> (TupsAre chl ((chs (((ps.take k).map bp).reverse)).map pairD)) -> (news = (cB, oB) :: (cS, oS) :: (Dc, Wl (refsOf chl).toArray e2) :: (chl ++ (D, Wl (refsOf tl).toArray e) :: tl)) -> (cellHolds oB) -> (cellHolds oS) -> JCh D cB cS ps tl e r m news
noncomputable def outF (b p : Nat) (cs : List (Nat × Nat)) : List (Nat × Nat) := (cs.filter fun q => decide (q.1 + p ≤ b)).map fun q => (q.1 + p, q.2 + 1)
inductive JCo (chl : List (Addr × Obj)) (cs : List (Nat × Nat)) (b p : Nat) (R : List (Addr × Obj)) (r ys : List Value) (news : List (Addr × Obj)) : Prop
  | mk : ∀ cr rem out yl, (r = refsOf cr) -> (TupsAre cr (rem.map pairD)) -> ((∀ z ∈ cr, z ∈ chl)) -> (ys = refsOf yl) -> (TupsAre yl (out.map pairD)) -> (out ++ outF b p rem = outF b p cs) -> ((∀ y ∈ yl, ∀ z ∈ R, y.1 ≠ z.1)) -> (news = yl ++ R) -> JCo chl cs b p R r ys news
theorem chs_len : ∀ l : List (Nat × Nat), (chs l).length ≤ 2 ^ l.length
  | [] => by simp [chs]
  | (b, p) :: l => by
    have h1 := chs_len l
    have h2 : (((chs l).filter fun q => decide (q.1 + p ≤ b)).map fun q => (q.1 + p, q.2 + 1)).length ≤ (chs l).length := by
      rw [Llm]; exact List.length_filter_le _ _
    rw [chs, Lla, Llc, Nat.pow_succ]
    omega
inductive JTo (chl : List (Addr × Obj)) (cs : List (Nat × Nat)) (R : List (Addr × Obj)) (r ys : List Value) (news : List (Addr × Obj)) : Prop
  | mk : ∀ cr rem out, (r = refsOf cr) -> (TupsAre cr (rem.map pairD)) -> ((∀ z ∈ cr, z ∈ chl)) -> (IntsAre ys (out.map fun q => (q.1 : Int))) -> (out ++ rem = cs) -> (news = R) -> JTo chl cs R r ys news
inductive JMs (DM : Addr) (M : Nat) (chl : List (Addr × Obj)) (cs : List (Nat × Nat)) (R : List (Addr × Obj)) (r : List Value) (m : Str -> Option Value) (news : List (Addr × Obj)) : Prop
  | mk : ∀ cr rem dn vm eM, (r = refsOf cr) -> (TupsAre cr (rem.map pairD)) -> ((∀ z ∈ cr, z ∈ chl)) -> (dn ++ rem = cs) -> (m (Zs "masks") = some (.ref DM)) -> (IntsAre vm ((dn.foldl maskF (List.replicate (M + 1) 0)).map (Int.ofNat ·))) -> (news = (DM, Wl vm.toArray eM) :: R) -> JMs DM M chl cs R r m news
theorem ints_rep0 (t : Tok) : ∀ n : Nat, IntsAre (List.replicate n (Value.int 0 t)) ((List.replicate n 0).map (Int.ofNat ·))
  | 0 => .nil
  | n + 1 => .cons _ _ (ints_rep0 t n)
theorem chs_pos : ∀ l : List (Nat × Nat), 0 < (chs l).length
  | [] => by simp [chs]
  | (b, p) :: l => by
    have h1 := chs_pos l
    rw [chs, Lla]
    omega
theorem chs_le : ∀ (l : List (Nat × Nat)) (q : Nat × Nat), q ∈ chs l -> q.1 = 0 ∨ ∃ z ∈ l, q.1 ≤ z.1
  | [], q, h => by
    rw [chs, Lms] at h
    exact .inl (by rw [h])
  | (b, p) :: l, q, h => by
    rw [chs, Lma] at h
    rcases h with h | h
    · rcases chs_le l q h with h | ⟨z, hz, h⟩
      · exact .inl h
      · exact .inr ⟨z, .tail _ hz, h⟩
    · obtain ⟨y, hy, rfl⟩ := Lmm.mp h
      exact .inr ⟨(b, p), .head _, of_decide_eq_true (List.mem_filter.mp hy).2⟩
theorem chs_len6 (l : List (Nat × Nat)) (h : l.length ≤ 6) : (chs l).length ≤ 64 :=
  Nlt (chs_len l) (Nlt (Nat.pow_le_pow_right (by decide) h) (by decide))
theorem ints_set {vs : List Value} {ns : List Int} (h : IntsAre vs ns) (k : Nat) (x : Int) (t : Tok) : IntsAre (vs.set k (.int x t)) (ns.set k x) := by
  induction h generalizing k with
  | nil => exact .nil
  | cons a b c ih =>
    cases k with
    | zero => exact .cons _ _ (by assumption)
    | succ k => exact .cons _ _ (ih k)
theorem off_data {g h : Heap} {L1 c : Addr} {o : Obj} {l : List (Addr × Obj)} (N : News g L1 h ((c, o) :: l)) (hl : ∀ p ∈ l, p.2.data ≠ o.data) : ∀ p ∈ l, p.1 ∉ [c] := fun p hp hm =>
  news_ne N (.tail _ hp) (.head _) (fun e => hl p hp (congrArg Obj.data e)) (Lms.mp hm)
theorem tups_not_cell {tl : List (Addr × Obj)} {ds : List (List PyData)} (h : TupsAre tl ds) {o : Obj} (ho : cellHolds o) : ∀ p ∈ tl, p.2.data ≠ o.data := fun p hp e => by
  obtain ⟨vs, h1⟩ := h.tup p hp
  obtain ⟨v, h2⟩ := ho
  rw [h1, h2] at e
  cases e
theorem seq_not_cell {vs : Array Value} {n : Nat} {o : Obj} (ho : cellHolds o) : Data.seq vs n ≠ o.data := fun e => by
  obtain ⟨v, h2⟩ := ho
  rw [h2] at e
  cases e
section
theorem c_choices (cx : Cx w (j + 1) dp un A₀ env outer base h₀ L) (F : Fr h₀ L s.heap m) {D : Addr} {tl : List (Addr × Obj)} {ps : List Piece} {e : Nat} (N : News h₀ L s.heap ((D, Wl (refsOf tl).toArray e) :: tl)) (htl : TupsAre tl (ps.map pcD)) (h6 : ps.length ≤ 6) (hb : ∀ q ∈ ps, q.b ≤ 100)
    (hQ : ∀ x lv e h' tk M, IntsAre lv (((chs ((ps.map bp).reverse)).foldl maskF (List.replicate (M + 1) 0)).map (Int.ofNat ·)) -> (∀ y ∈ chs ((ps.map bp).reverse), y.1 ≤ M) -> (∃ c, (M, c) ∈ chs ((ps.map bp).reverse)) -> Fr h₀ L h' m -> News h₀ L h' [(x, Wl lv.toArray e)] -> Keeps h₀ L s.heap h' -> Q (.ref x) { s with heap := h', toks := tk }) :
    wpAny (model RWQ.row.prog w) (AA dp un env outer) (call (.ref 266) [.ref D] []) Q E s := by
  revert cx F N htl h6 hb hQ
  revert w j dp un A₀ env outer base h₀ L m s Q E D tl ps e
  apply frz18; case n => walk_at "FZN"
  intro w j dp un A₀ env outer base h₀ L m s Q E D tl ps e
  clear_value w j dp un A₀ env outer base h₀ L m s Q E D tl ps e
  intro cx F N htl h6 hb hQ
  ((refine wpAny_call ?_; (rename Fr _ _ _ _ => eF); (rename Cx _ _ _ _ _ _ _ _ _ _ => eC); (refine' enterC eC eF (by assumption) ?k6 ?k7 ?k9 ?kB ?kD ?_ ?c2 ?c3 ?c4); (case k6 => k_is); (case k7 => k_is); (case k9 => first | exact BindsTo.of_eq rfl | exact binds_K (by k_in) rfl (by k_is) rfl rfl rfl); (case kB => exact rfl); (case kD => decide +kernel); (case c2 => exact rfl); (case c3 => exact rfl); (case c4 => exact rfl)))
  apply frz10; case n => walk_at "FZN"
  intro dp' un' outer' A' Q' g L1 h1 tk1 cells1
  clear_value dp' un' outer' A' Q' g L1 h1 tk1 cells1
  intro FG hg F1 N1 Y1 cx1 l1 LT1
  have X1 := cx1.X
  have B1 := cx1.B
  have hf1 := cx1.f
  have hke1 := cx1.k
  have hdp1 := cx1.d
  have hun1 := cx1.u
  obtain ⟨p1, loose1, mean1, mg1, mb1, T1⟩ := cx1.T
  (try skip)
  k_cells Y1
  (try simp only [Lca, Lna] at N1)
  (((try dsimp only); (try k_fold)))
  have N0 := N
  (repeat ((fail_if_success (with_reducible show wpAny _ _ (exec (Stmt.For _ _ _ _ _) _) _ _ _)); w_once))
  rename News _ _ _ _ => N2
  rename Fr _ _ _ _ => F2
  rename_i oS0 oB0 dS dB DT _ lD l0 _ l0lt h2
  revert N2; revert F2; revert l0lt; revert lD; revert dB; revert dS; revert T1
  revert tk; revert h2; revert l0; revert DT; revert oB0; revert oS0; revert mb1; revert mg1; revert mean1; revert loose1; revert p1
  apply frz11; case n => walk_at "FZN"
  intro p1 loose1 mean1 mg1 mb1 oS0 oB0 DT l0 h2 tk
  clear_value p1 loose1 mean1 mg1 mb1 oS0 oB0 DT l0 h2 tk
  intro T1 dS dB lD l0lt F2 N2
  refine For_seqH (h₀ := g) ?_ (fun _ => rfl) (by passes_own)
  iterate 1 (w_once)
  have N3 : News g L1 _ ((L1 + 1, oB0) :: (L1 + 1 + 1, oS0) :: (l0, Wl (refsOf [(DT, tupOf [.int 0 tk1, .int 0 (tk1 + 1)])]).toArray 0) :: ([(DT, tupOf [.int 0 tk1, .int 0 (tk1 + 1)])] ++ (D, Wl (refsOf tl).toArray e) :: tl)) := news_sub N2 (by walk_at "SUB")
  refine ⟨D, refsOf tl, _, _, fun r m nw => JCh D (L1 + 1) (L1 + 1 + 1) ps tl e r m nw, rfl, rfl, F2, N3, SeqAt.of_list (is_of N2 (by walk_at "MEM")), fun {Q'} q => wpAny_pyIter_list (is_of N2 (by walk_at "MEM")) (by simpa using q), ?init, ?step, ?done⟩
  case init => exact ⟨0, l0, [(DT, tupOf [.int 0 tk1, .int 0 (tk1 + 1)])], 0, oB0, oS0, rfl, Nat.zero_le _, rfl, .cons (.cons (fun _ => .int _ _) (.cons (fun _ => .int _ _) .nil)) .nil, rfl, ⟨_, dB⟩, ⟨_, dS⟩⟩
  case step =>
    clear N2 F2
    rintro I x r m₁ news₁ hp2 tk2 oI Qt ⟨k, Dc, chl, e2, oB, oS, hr, hk, hmc, hch, rfl, hoB, hoS⟩ hc F8 N8 off8 hl8 LQ
    obtain ⟨q, T, t1, t2, t3, hk', htk, hq, rfl, hT, rfl⟩ := drop_piece htl hr
    revert hr; revert LQ; revert hT; revert hq; revert htk; revert hk'; revert hl8; revert off8; revert N8; revert F8; revert hc; revert hoS; revert hoB; revert hch; revert hmc; revert hk
    revert t3; revert t2; revert t1; revert T; revert q; revert oS; revert oB; revert e2; revert chl; revert Dc; revert k; revert Qt; revert oI; revert tk2; revert hp2; revert m₁; revert I
    apply frz17; case n => walk_at "FZN"
    intro I m₁ hp2 tk2 oI Qt k Dc chl e2 oB oS q T t1 t2 t3
    clear_value I m₁ hp2 tk2 oI Qt k Dc chl e2 oB oS q T t1 t2 t3
    intro hk hmc hch hoB hoS hc F8 N8 off8 hl8 hk' htk hq hT LQ hr
    have N9 : News g L1 hp2 ((T, tupOf [.int q.b t1, .str ⟨#[q.x]⟩ t2, .int q.p t3]) :: (I, oI) :: (L1 + 1, oB) :: (L1 + 1 + 1, oS) :: (Dc, Wl (refsOf chl).toArray e2) :: (chl ++ (D, Wl (refsOf tl).toArray e) :: tl)) := news_cons (N8 _ (by first | f_congr_eq | simp [hT])) N8
    clear N8
    have hBI : L1 + 1 ≠ I := off8 (L1 + 1, oB) (.head _)
    have hSI : L1 + 1 + 1 ≠ I := off8 (L1 + 1 + 1, oS) (.tail _ (.head _))
    have offB := off_data (news_sub N9 (l' := (L1 + 1, oB) :: (Dc, Wl (refsOf chl).toArray e2) :: (chl ++ (D, Wl (refsOf tl).toArray e) :: tl)) (by walk_at "SUB")) (by
      refine faCons ?_ (faApp ?_ (faCons ?_ ?_))
      · exact seq_not_cell hoB
      · intro p hp
        exact tups_not_cell hch hoB p hp
      · exact seq_not_cell hoB
      · intro p hp
        exact tups_not_cell htl hoB p hp)
    have offS := off_data (news_sub N9 (l' := (L1 + 1 + 1, oS) :: (Dc, Wl (refsOf chl).toArray e2) :: (chl ++ (D, Wl (refsOf tl).toArray e) :: tl)) (by walk_at "SUB")) (by
      refine faCons ?_ (faApp ?_ (faCons ?_ ?_))
      · exact seq_not_cell hoS
      · intro p hp
        exact tups_not_cell hch hoS p hp
      · exact seq_not_cell hoS
      · intro p hp
        exact tups_not_cell htl hoS p hp)
    have hTm : (T, tupOf [.int q.b t1, .str ⟨#[q.x]⟩ t2, .int q.p t3]) ∈ (Dc, Wl (refsOf chl).toArray e2) :: (chl ++ (D, Wl (refsOf tl).toArray e) :: tl) := by simp [hT]
    (repeat ((fail_if_success (with_reducible show wpAny _ _ (storeName _ _ _) _ _ _)); w_once))
    rename News _ _ _ _ => N3
    rename Fr _ _ _ _ => F3
    obtain ⟨vB, hvB⟩ := hoB
    obtain ⟨vS, hvS⟩ := hoS
    rename_i h3
    revert hvS; revert hvB; revert N3; revert F3
    revert vS; revert vB; revert h3
    apply frz3; case n => walk_at "FZN"
    intro h3 vB vS
    clear_value h3 vB vS
    intro F3 N3 hvB hvS
    refine led_cell (by rfl) (by rfl) (by with_unfolding_all rfl) F3 N3 (by walk_at "MEM") hvB ?_
    apply frz2; case n => walk_at "FZN"
    intro h4 oB'
    clear_value h4 oB'
    intro F4 o4 N4 hB'
    have N5 : News g L1 h4 ((T, tupOf [.int q.b t1, .str ⟨#[q.x]⟩ t2, .int q.p t3]) :: (I, oI) :: (L1 + 1, oB') :: (L1 + 1 + 1, oS) :: (Dc, Wl (refsOf chl).toArray e2) :: (chl ++ (D, Wl (refsOf tl).toArray e) :: tl)) := by
      have Nr := o4 ((T, tupOf [.int q.b t1, .str ⟨#[q.x]⟩ t2, .int q.p t3]) :: (I, oI) :: (L1 + 1 + 1, oS) :: (Dc, Wl (refsOf chl).toArray e2) :: (chl ++ (D, Wl (refsOf tl).toArray e) :: tl)) (news_sub N3 (by walk_at "SUB")) (fun p hp => by
        rcases Lmc.mp hp with rfl | hp
        · exact offB _ hTm
        · rcases Lmc.mp hp with rfl | hp
          · exact fun hm => hBI (Lms.mp hm).symm
          · rcases Lmc.mp hp with rfl | hp
            · exact fun hm => Nat.succ_ne_self _ (Lms.mp hm)
            · exact offB p hp)
      refine faCons ?_ (faCons ?_ (faCons ?_ ?_))
      · exact Nr _ (by walk_at "SI")
      · exact Nr _ (by walk_at "SI")
      · exact N4 _ (.head _)
      · intro p hp
        exact Nr p (by first | f_congr_eq | simp [hp])
    clear N3 F3 o4 N4
    w_once
    (repeat ((fail_if_success (with_reducible show wpAny _ _ (storeName _ _ _) _ _ _)); w_once))
    w_once
    (repeat ((fail_if_success (with_reducible show wpAny _ _ (storeName _ _ _) _ _ _)); w_once))
    rename News _ _ _ _ => N6
    rename Fr _ _ _ _ => F6
    rename_i h6
    revert N6; revert F6
    revert h6
    apply frz1; case n => walk_at "FZN"
    intro h6
    clear_value h6
    intro F6 N6
    refine led_cell (by rfl) (by rfl) (by with_unfolding_all rfl) F6 N6 (by walk_at "MEM") hvS ?_
    apply frz2; case n => walk_at "FZN"
    intro h5 oS'
    clear_value h5 oS'
    intro F7 o7 N7 hS'
    have N8 : News g L1 h5 ((T, tupOf [.int q.b t1, .str ⟨#[q.x]⟩ t2, .int q.p t3]) :: (I, oI) :: (L1 + 1, oB') :: (L1 + 1 + 1, oS') :: (Dc, Wl (refsOf chl).toArray e2) :: (chl ++ (D, Wl (refsOf tl).toArray e) :: tl)) := by
      have Nr := o7 ((T, tupOf [.int q.b t1, .str ⟨#[q.x]⟩ t2, .int q.p t3]) :: (I, oI) :: (L1 + 1, oB') :: (Dc, Wl (refsOf chl).toArray e2) :: (chl ++ (D, Wl (refsOf tl).toArray e) :: tl)) (news_sub N6 (by walk_at "SUB")) (fun p hp => by
        rcases Lmc.mp hp with rfl | hp
        · exact offS _ hTm
        · rcases Lmc.mp hp with rfl | hp
          · exact fun hm => hSI (Lms.mp hm).symm
          · rcases Lmc.mp hp with rfl | hp
            · exact fun hm => Nat.succ_ne_self _ (Lms.mp hm).symm
            · exact offS p hp)
      refine faCons ?_ (faCons ?_ (faCons ?_ (faCons ?_ ?_)))
      · exact Nr _ (by walk_at "SI")
      · exact Nr _ (by walk_at "SI")
      · exact Nr _ (by walk_at "SI")
      · exact N7 _ (.head _)
      · intro p hp
        exact Nr p (by first | f_congr_eq | simp [hp])
    clear N6 F6 o7 N7
    w_once
    (repeat ((fail_if_success (with_reducible show wpAny _ _ (eval (Expr.ListComp _ _ _ _) _) _ _ _)); w_once))
    rename Fr _ _ _ _ => F9
    revert F9
    revert tk
    apply frz1; case n => walk_at "FZN"
    intro tk
    clear_value tk
    intro F9
    refine own_compF F9 (by with_unfolding_all rfl) (by decide) (by rfl) (by decide) ?_ (fun _ => rfl)
    iterate 1 (w_once)
    rename News _ _ _ _ => N9
    refine ⟨Dc, refsOf chl, _, fun ys nw => ∃ yl, ys = refsOf yl ∧ TupsAre yl ((outF q.b q.p (chs (((ps.take k).map bp).reverse))).map pairD) ∧ (∀ y ∈ yl, ∀ z ∈ ((T, tupOf [.int q.b t1, .str ⟨#[q.x]⟩ t2, .int q.p t3]) :: (I, oI) :: (L1 + 1, oB') :: (L1 + 1 + 1, oS') :: (Dc, Wl (refsOf chl).toArray e2) :: (chl ++ (D, Wl (refsOf tl).toArray e) :: tl)), y.1 ≠ z.1) ∧ nw = yl ++ ((T, tupOf [.int q.b t1, .str ⟨#[q.x]⟩ t2, .int q.p t3]) :: (I, oI) :: (L1 + 1, oB') :: (L1 + 1 + 1, oS') :: (Dc, Wl (refsOf chl).toArray e2) :: (chl ++ (D, Wl (refsOf tl).toArray e) :: tl)), rfl, rfl, F9, N9, .inr ⟨_, _, by walk_at "MEM", rfl⟩, ?sz, fun {Q'} q => wpAny_pyIter_list (is_of N9 (by walk_at "MEM")) (by simpa using q), fun gg => ?turn, ?fin⟩
    case sz =>
      have h1 := hch.length
      rw [Llm] at h1
      rw [refsOf, Llm, h1, sizeLine_eq]
      have h3 := chs_len6 (((ps.take k).map bp).reverse) (by rw [List.length_reverse, Llm, Llt]; omega)
      omega
    case turn =>
      refine CR_ind (JCo chl (chs (((ps.take k).map bp).reverse)) q.b q.p ((T, tupOf [.int q.b t1, .str ⟨#[q.x]⟩ t2, .int q.p t3]) :: (I, oI) :: (L1 + 1, oB') :: (L1 + 1 + 1, oS') :: (Dc, Wl (refsOf chl).toArray e2) :: (chl ++ (D, Wl (refsOf tl).toArray e) :: tl))) ?t ?d _ _ _ ?i
      case i => exact ⟨chl, chs (((ps.take k).map bp).reverse), [], [], rfl, hch, fun _ h => h, rfl, .nil, rfl, (fun _ h => nomatch h), rfl⟩
      case d =>
        rintro ys nw ⟨cr, rem, out, yl, hr2, hcr, hsub, rfl, hyl, hout, hfr, rfl⟩
        have hcr0 : cr = [] := by cases cr with
          | nil => rfl
          | cons _ _ => cases hr2
        subst hcr0
        cases rem with
        | cons _ _ => cases hcr
        | nil =>
          have hout : out ++ [] = _ := hout
          rw [Lan] at hout
          subst hout
          exact ⟨yl, rfl, hyl, hfr, rfl⟩
      case t =>
        rintro v r ys nw ⟨cr, rem, out, yl, hr2, hcr, hsub, rfl, hyl, hout, hfr, rfl⟩ I2 oI2 C2 oC2 D2 mC hh tk9 E' hC F10 N10 off10 ne10
        cases rem with
        | nil =>
          cases hcr
          cases hr2
        | cons z rem =>
        obtain ⟨T2, vs2, cr', rfl, rfl, rfl, hf2, hcr'⟩ := tups_cons hcr hr2
        obtain ⟨a1, b1, rfl, fa, fb⟩ := flat2 hf2
        obtain ⟨ta, rfl⟩ := flat_int fa
        obtain ⟨tb, rfl⟩ := flat_int fb
        revert hr2; revert hcr; revert hsub; revert hf2; revert fb; revert fa; revert hcr'; revert hout; revert ne10; revert off10; revert N10; revert F10; revert hC; revert hfr; revert hyl
        revert tb; revert ta; revert cr'; revert T2; revert rem; revert z; revert E'; revert tk9; revert hh; revert mC; revert D2; revert oC2; revert C2; revert oI2; revert I2; revert yl; revert out; revert gg
        apply frz18; case n => walk_at "FZN"
        intro gg out yl I2 oI2 C2 oC2 D2 mC hh tk9 E' z rem T2 cr' ta tb
        clear_value gg out yl I2 oI2 C2 oC2 D2 mC hh tk9 E' z rem T2 cr' ta tb
        intro hyl hfr hC F10 N10 off10 ne10 hout hcr' fa fb hf2 hsub hcr hr2
        have hT2 : (T2, tupOf [.int z.1 ta, .int z.2 tb]) ∈ chl := hsub _ (.head _)
        refine asg_block (ns := [(Zs "total", _), (Zs "count", _)]) (vs := [.int z.1 ta, .int z.2 tb]) rfl rfl rfl (by decide) rfl F10 N10 hC off10 ne10 (by first | f_congr_eq | simp [hT2]) ?_
        apply frz3; case n => walk_at "FZN"
        intro h11 tk11 oC11
        clear_value h11 tk11 oC11
        intro hC11 F11 N11
        obtain ⟨mC2, hmC2, hv1, hv2⟩ : ∃ mC2 : Str -> Option Value, LCg.NsObj oC11 mC2 ∧ mC2 (Zs "total") = some (.int z.1 ta) ∧ mC2 (Zs "count") = some (.int z.2 tb) := ⟨_, hC11, upd2a (by decide), upd2b⟩
        revert hv2; revert hv1; revert hmC2
        revert mC2
        apply frz1; case n => walk_at "FZN"
        intro mC2
        clear_value mC2
        intro hmC2 hv1 hv2
        clear hC11 hC
        have N12 : News g L1 h11 ((C2, oC11) :: (L1 + 1, oB') :: (L1 + 1 + 1, oS') :: ((I2, oI2) :: (D2, LCg.lst (refsOf yl)) :: (yl ++ ((T, tupOf [.int q.b t1, .str ⟨#[q.x]⟩ t2, .int q.p t3]) :: (I, oI) :: (L1 + 1, oB') :: (L1 + 1 + 1, oS') :: (Dc, Wl (refsOf chl).toArray e2) :: (chl ++ (D, Wl (refsOf tl).toArray e) :: tl))))) := news_sub N11 (by walk_at "SUB")
        clear N11 N10 F10
        refine wpAny_tests_one ?_
        repeat (w_once)
        · rename News _ _ _ _ => N13
          rename Fr _ _ _ _ => F13
          rename_i Dn _ lN
          have hle : (z.1 : Int) + (q.p : Int) ≤ (q.b : Int) := by assumption
          have e91 : (z.1 : Int) + (q.p : Int) = ((z.1 + q.p : Nat) : Int) := by omega
          have e92 : (z.2 : Int) + 1 = ((z.2 + 1 : Nat) : Int) := by omega
          rw [e91, e92] at N13
          obtain ⟨tA, tB, N13⟩ : ∃ tA tB, News g L1 _ ((Dn, tupOf [.int ((z.1 + q.p : Nat) : Int) tA, .int ((z.2 + 1 : Nat) : Int) tB]) :: (C2, oC11) :: (L1 + 1, oB') :: (L1 + 1 + 1, oS') :: ((I2, oI2) :: (D2, LCg.lst (refsOf yl)) :: (yl ++ ((T, tupOf [.int q.b t1, .str ⟨#[q.x]⟩ t2, .int q.p t3]) :: (I, oI) :: (L1 + 1, oB') :: (L1 + 1 + 1, oS') :: (Dc, Wl (refsOf chl).toArray e2) :: (chl ++ (D, Wl (refsOf tl).toArray e) :: tl))))) := ⟨_, _, N13⟩
          refine ce_end ((yl ++ [(Dn, tupOf [.int ((z.1 + q.p : Nat) : Int) tA, .int ((z.2 + 1 : Nat) : Int) tB])]) ++ ((T, tupOf [.int q.b t1, .str ⟨#[q.x]⟩ t2, .int q.p t3]) :: (I, oI) :: (L1 + 1, oB') :: (L1 + 1 + 1, oS') :: (Dc, Wl (refsOf chl).toArray e2) :: (chl ++ (D, Wl (refsOf tl).toArray e) :: tl))) hmC2 F13 (news_sub N13 (by walk_at "SUB")) (off3_new off10 (Ne.symm (Nnl lN.2.2.2.1)) (Ne.symm (Nnl lN.1)) (Ne.symm (Nnl lN.2.2.2.2.1))) (.inr ⟨Wl (refsOf chl).toArray e2, e2, by simp, rfl⟩) ⟨cr', rem, out ++ [(z.1 + q.p, z.2 + 1)], yl ++ [(Dn, tupOf [.int ((z.1 + q.p : Nat) : Int) tA, .int ((z.2 + 1 : Nat) : Int) tB])], rfl, hcr', fun p hp => hsub p (.tail _ hp), by simp [refsOf], ?_, ?_, fun y hy z hz => ?_, rfl⟩
          · rw [Lmp]
            exact hyl.append (.cons (.cons (fun _ => .int _ _) (.cons (fun _ => .int _ _) .nil)) .nil)
          · rw [← hout]
            unfold outF
            rw [List.filter_cons_of_pos (by simpa using (show z.1 + q.p ≤ q.b by omega)), Lpc, Laa]
            rfl
          · rcases Lma.mp hy with hy | hy
            · exact hfr y hy z hz
            · rw [Lms.mp hy]
              exact Ne.symm (Nnl (mem_lt_of_allLt lN.2.2.2.2.2 z (Lar _ hz)))
        · rename News _ _ _ _ => N13
          rename Fr _ _ _ _ => F13
          have hle : ¬ (z.1 : Int) + (q.p : Int) ≤ (q.b : Int) := by assumption
          refine ce_end (yl ++ ((T, tupOf [.int q.b t1, .str ⟨#[q.x]⟩ t2, .int q.p t3]) :: (I, oI) :: (L1 + 1, oB') :: (L1 + 1 + 1, oS') :: (Dc, Wl (refsOf chl).toArray e2) :: (chl ++ (D, Wl (refsOf tl).toArray e) :: tl))) hmC2 F13 (news_sub N13 (by walk_at "SUB")) off10 (.inr ⟨Wl (refsOf chl).toArray e2, e2, by simp, rfl⟩) ⟨cr', rem, out, yl, rfl, hcr', fun p hp => hsub p (.tail _ hp), rfl, hyl, ?_, hfr, rfl⟩
          rw [← hout]
          unfold outF
          rw [List.filter_cons_of_neg (by simpa using (show ¬ z.1 + q.p ≤ q.b by omega))]
    case fin =>
      rintro ys nw D9 h9 tk9 ⟨yl, rfl, hyl, hfr, rfl⟩ F10 N10 off10
      clear N9 F9
      have hlenA := hch.length
      have hlenB := hyl.length
      rw [Llm] at hlenA hlenB
      have h3 := chs_len6 (((ps.take k).map bp).reverse) (by rw [List.length_reverse, Llm, Llt]; omega)
      have h4 : (outF q.b q.p (chs (((ps.take k).map bp).reverse))).length ≤ (chs (((ps.take k).map bp).reverse)).length := by
        unfold outF; rw [Llm]; exact List.length_filter_le _ _
      revert hlenB; revert off10; revert N10; revert F10; revert hfr; revert hyl
      revert yl; revert tk9; revert h9; revert D9
      apply frz4; case n => walk_at "FZN"
      intro D9 h9 tk9 yl
      clear_value D9 h9 tk9 yl
      intro hyl hfr F10 N10 off10 hlenB
      refine add_lists (vs := refsOf chl) (ws := refsOf yl) (n := e2) F10 N10 (by walk_at "SI") (.head _) (by simp only [refsOf, Llm]; omega) ?_
      apply frz2; case n => walk_at "FZN"
      intro D10 h10
      clear_value D10 h10
      intro F11 N11 lt11
      clear N10 F10
      repeat' ((fail_if_success (with_reducible show LoopEndH _ _ _ _ _ _ _ _ _ _)); w_once)
      rename News _ _ _ _ => N12
      rename Fr _ _ _ _ => F12
      have N13 : News g L1 _ ((I, oI) :: ((L1 + 1, oB') :: (L1 + 1 + 1, oS') :: (D10, Wl (refsOf (chl ++ yl)).toArray 0) :: ((chl ++ yl) ++ (D, Wl (refsOf tl).toArray e) :: tl))) := news_sub N12 (fun p hp => by
        simp only [Lmc, Lma] at hp ⊢
        rcases hp with h | h | h | h | (h | h) | h | h
        · simp [h]
        · simp [h]
        · simp [h]
        · rw [refsOf, Lmp] at h; simp [h, refsOf]
        · simp [h]
        · simp [h]
        · simp [h]
        · simp [h])
      refine ⟨_, _, _, _, rfl, F12, N13, ?off, ?sq, k + 1, D10, chl ++ yl, 0, oB', oS', rfl, hk', if_pos rfl, ?tups, rfl, ⟨_, hB'⟩, ⟨_, hS'⟩⟩
      case off =>
        intro p hp
        simp only [Lmc, Lma] at hp
        rcases hp with rfl | rfl | rfl | (hp | hp) | rfl | hp
        · exact hBI
        · exact hSI
        · exact Ne.symm (Nnl (lt11 (I, oI) (by walk_at "SI")))
        · exact off8 p (by first | f_congr_eq | simp [hp])
        · exact hfr p hp (I, oI) (by walk_at "SI")
        · exact off8 (D, Wl (refsOf tl).toArray e) (by walk_at "SI")
        · exact off8 p (by first | f_congr_eq | simp [hp])
      case sq => exact ⟨_, _, (N13 (D, Wl (refsOf tl).toArray e) (by walk_at "SI")).1, rfl⟩
      case tups =>
        rw [htk, Lmp, List.reverse_append]
        show TupsAre (chl ++ yl) (List.map pairD (chs (bp q :: ((ps.take k).map bp).reverse)))
        rw [show bp q = (q.b, q.p) from rfl, chs, Lmp]
        exact hch.append hyl
  case done =>
    rintro m₁ news₁ hp2 tk2 ⟨k, Dc, chl, e2, oB, oS, hr, hk, hmc, hch, rfl, hoB, hoS⟩ F8 N8
    have hkl : k = tl.length := by
      have h1 := congrArg List.length hr
      simp at h1
      omega
    have hdsl : tl.length = ps.length := by rw [htl.length]; simp
    rw [show ps.take k = ps from List.take_of_length_le (by omega)] at hch
    clear N2 F2
    revert hdsl; revert hkl; revert N8; revert F8; revert hoS; revert hoB; revert hch; revert hmc; revert hk; revert hr
    revert oS; revert oB; revert e2; revert chl; revert Dc; revert k; revert tk2; revert hp2; revert m₁
    apply frz9; case n => walk_at "FZN"
    intro m₁ hp2 tk2 k Dc chl e2 oB oS
    clear_value m₁ hp2 tk2 k Dc chl e2 oB oS
    intro hr hk hmc hch hoB hoS F8 N8 hkl hdsl
    (try dsimp only)
    (repeat ((fail_if_success (with_reducible show wpAny _ _ (eval (Expr.ListComp _ _ _ _) _) _ _ _)); w_once))
    rename Fr _ _ _ _ => F9
    rename News _ _ _ _ => N9
    replace F9 : Fr g L1 _ _ := F9
    replace N9 : News g L1 _ _ := N9
    rename_i D0 hD0 lD0
    revert N9; revert F9; revert lD0
    revert hD0; revert D0
    apply frz2; case n => walk_at "FZN"
    intro D0 hD0
    clear_value D0 hD0
    intro lD0 F9 N9
    refine own_compF F9 (by with_unfolding_all rfl) (by decide) (by rfl) (by decide) ?_ (fun _ => rfl)
    iterate 1 (w_once)
    have hlenA := hch.length
    rw [Llm] at hlenA
    have h3 := chs_len6 ((ps.map bp).reverse) (by rw [List.length_reverse, Llm]; exact h6)
    refine ⟨Dc, refsOf chl, _, fun ys nw => IntsAre ys ((chs ((ps.map bp).reverse)).map fun q => (q.1 : Int)) ∧ nw = ((D0, Wl #[Value.int 0 tk2] 0) :: (L1 + 1, oB) :: (L1 + 1 + 1, oS) :: (Dc, Wl (refsOf chl).toArray e2) :: (chl ++ (D, Wl (refsOf tl).toArray e) :: tl)), rfl, rfl, F9, N9, .inr ⟨_, _, by walk_at "MEM", rfl⟩, by rw [refsOf, Llm, hlenA, sizeLine_eq]; omega, fun {Q'} q => wpAny_pyIter_list (is_of N9 (by walk_at "MEM")) (by simpa using q), fun gg => ?turn2, ?fin2⟩
    case turn2 =>
      refine CR_ind (JTo chl (chs ((ps.map bp).reverse)) ((D0, Wl #[Value.int 0 tk2] 0) :: (L1 + 1, oB) :: (L1 + 1 + 1, oS) :: (Dc, Wl (refsOf chl).toArray e2) :: (chl ++ (D, Wl (refsOf tl).toArray e) :: tl))) ?t3 ?d3 _ _ _ ?i3
      case i3 => exact ⟨chl, chs ((ps.map bp).reverse), [], rfl, hch, fun _ h => h, .nil, rfl, rfl⟩
      case d3 =>
        rintro ys nw ⟨cr, rem, out, hr2, hcr, hsub, hyl, hout, rfl⟩
        have hcr0 : cr = [] := by cases cr with
          | nil => rfl
          | cons _ _ => cases hr2
        subst hcr0
        cases rem with
        | cons _ _ => cases hcr
        | nil =>
          have hout : out ++ [] = _ := hout
          rw [Lan] at hout
          subst hout
          exact ⟨hyl, rfl⟩
      case t3 =>
        rintro v r ys nw ⟨cr, rem, out, hr2, hcr, hsub, hyl, hout, rfl⟩ I2 oI2 C2 oC2 D2 mC hh tk9 E' hC F10 N10 off10 ne10
        cases rem with
        | nil =>
          cases hcr
          cases hr2
        | cons z rem =>
        obtain ⟨T2, vs2, cr', rfl, rfl, rfl, hf2, hcr'⟩ := tups_cons hcr hr2
        obtain ⟨a1, b1, rfl, fa, fb⟩ := flat2 hf2
        obtain ⟨ta, rfl⟩ := flat_int fa
        obtain ⟨tb, rfl⟩ := flat_int fb
        revert hr2; revert hcr; revert hsub; revert hf2; revert fb; revert fa; revert hcr'; revert hout; revert ne10; revert off10; revert N10; revert F10; revert hC; revert hyl
        revert tb; revert ta; revert cr'; revert T2; revert rem; revert z; revert E'; revert tk9; revert hh; revert mC; revert D2; revert oC2; revert C2; revert oI2; revert I2; revert out; revert ys; revert gg
        apply frz18; case n => walk_at "FZN"
        intro gg ys out I2 oI2 C2 oC2 D2 mC hh tk9 E' z rem T2 cr' ta tb
        clear_value gg ys out I2 oI2 C2 oC2 D2 mC hh tk9 E' z rem T2 cr' ta tb
        intro hyl hC F10 N10 off10 ne10 hout hcr' fa fb hf2 hsub hcr hr2
        have hT2 : (T2, tupOf [.int z.1 ta, .int z.2 tb]) ∈ chl := hsub _ (.head _)
        refine asg_block (ns := [(Zs "total", _), (Zs "count", _)]) (vs := [.int z.1 ta, .int z.2 tb]) rfl rfl rfl (by decide) rfl F10 N10 hC off10 ne10 (by first | f_congr_eq | simp [hT2]) ?_
        apply frz3; case n => walk_at "FZN"
        intro h11 tk11 oC11
        clear_value h11 tk11 oC11
        intro hC11 F11 N11
        obtain ⟨mC2, hmC2, hv1, hv2⟩ : ∃ mC2 : Str -> Option Value, LCg.NsObj oC11 mC2 ∧ mC2 (Zs "total") = some (.int z.1 ta) ∧ mC2 (Zs "count") = some (.int z.2 tb) := ⟨_, hC11, upd2a (by decide), upd2b⟩
        revert hv2; revert hv1; revert hmC2
        revert mC2
        apply frz1; case n => walk_at "FZN"
        intro mC2
        clear_value mC2
        intro hmC2 hv1 hv2
        clear hC11 hC N10 F10
        refine wpAny_tests_nil ?_
        rw [if_pos rfl]
        repeat' ((fail_if_success (with_reducible show CE _ _ _ _ _ _ _ _ _ _ _ _ _)); w_once)
        rename News _ _ _ _ => N13
        rename Fr _ _ _ _ => F13
        refine ce_end _ hmC2 F13 N13 off10 (.inr ⟨Wl (refsOf chl).toArray e2, e2, by simp, rfl⟩) ⟨cr', rem, out ++ [z], rfl, hcr', fun p hp => hsub p (.tail _ hp), ?_, ?_, rfl⟩
        · rw [Lmp]; exact hyl.append (.cons _ _ .nil)
        · rw [← hout, Laa]; rfl
    case fin2 =>
      rintro ys nw D9 h9 tk9 ⟨hys, rfl⟩ F10 N10 off10
      clear N9 F9
      revert off10; revert N10; revert F10; revert hys
      revert tk9; revert h9; revert D9; revert ys
      apply frz4; case n => walk_at "FZN"
      intro ys D9 h9 tk9
      clear_value ys D9 h9 tk9
      intro hys F10 N10 off10
      (repeat ((fail_if_success (with_reducible show wpAny _ _ (call _ _ _) _ _ _)); w_once))
      refine max_list_N (by rfl) F10 N10 (is_of N10 (.head _)) hys ?ne ?_
      case ne => rw [Llm]; exact chs_pos _
      apply frz4; case n => walk_at "FZN"
      intro h11 M tM tk11
      clear_value h11 M tM tk11
      intro F11 N11 hM1 hM2
      (repeat ((fail_if_success (with_reducible show wpAny _ _ (binaryOp .Mult _ _) _ _ _)); w_once))
      obtain ⟨qM, hqM, rfl⟩ := Lmm.mp hM1
      have hM17 : qM.1 ≤ 100 := by
        rcases chs_le _ qM hqM with h | ⟨z, hz, h⟩
        · omega
        · rw [List.mem_reverse] at hz
          obtain ⟨y, hy, rfl⟩ := Lmm.mp hz
          have := hb y hy
          exact Nlt h this
      revert hM17; revert hM2; revert hM1; revert hqM
      revert qM
      apply frz1; case n => walk_at "FZN"
      intro qM
      clear_value qM
      intro hqM hM1 hM2 hM17
      refine rep_list F11 N11 (is_of N11 (.tail _ (.head _))) (by omega) (by omega) ?_
      apply frz2; case n => walk_at "FZN"
      intro DM h12
      clear_value DM h12
      intro F12 N12 lt12
      have hDR : ∀ p ∈ ((L1 + 1, oB) :: (L1 + 1 + 1, oS) :: (Dc, Wl (refsOf chl).toArray e2) :: (chl ++ (D, Wl (refsOf tl).toArray e) :: tl)), p.1 ≠ DM := fun p hp => Nnl (lt12 p (.tail _ (.tail _ hp)))
      have e93 : (1 + (qM.1 : Int)).toNat = qM.1 + 1 := by omega
      rw [e93] at N12
      clear F11 N11 N10
      (repeat ((fail_if_success (with_reducible show wpAny _ _ (exec (Stmt.For _ _ _ _ _) _) _ _ _)); w_once))
      rename News _ _ _ _ => N13
      rename Fr _ _ _ _ => F13
      rename_i h13
      revert N13; revert F13
      revert tk; revert h13
      apply frz2; case n => walk_at "FZN"
      intro h13 tk
      clear_value h13 tk
      intro F13 N13
      refine For_seqH (h₀ := g) ?_ (fun _ => rfl) (by passes_own)
      iterate 1 (w_once)
      refine ⟨Dc, refsOf chl, _, (DM, Wl (List.replicate (qM.1 + 1) (Value.int 0 tk2)).toArray 0) :: ((L1 + 1, oB) :: (L1 + 1 + 1, oS) :: (Dc, Wl (refsOf chl).toArray e2) :: (chl ++ (D, Wl (refsOf tl).toArray e) :: tl)), fun r m nw => JMs DM qM.1 chl (chs ((ps.map bp).reverse)) ((L1 + 1, oB) :: (L1 + 1 + 1, oS) :: (Dc, Wl (refsOf chl).toArray e2) :: (chl ++ (D, Wl (refsOf tl).toArray e) :: tl)) r m nw, rfl, rfl, F13, ?nn, SeqAt.of_list (is_of N13 (by walk_at "MEM")), fun {Q'} q => wpAny_pyIter_list (is_of N13 (by walk_at "MEM")) (by simpa using q), ?init4, ?step4, ?done4⟩
      case nn => exact news_sub N13 (by walk_at "SUB")
      case init4 => exact ⟨chl, chs ((ps.map bp).reverse), [], _, 0, rfl, hch, fun _ h => h, rfl, if_pos rfl, ints_rep0 _ _, rfl⟩
      case step4 =>
        clear N13 F13
        rintro I x r m₂ news₂ hp3 tk3 oI Qt ⟨cr, rem, dn, vm, eM, hr2, hcr, hsub, hdn, hmm, hvm, rfl⟩ hc F8 N8 off8 hl8 LQ
        cases rem with
        | nil =>
          cases hcr
          cases hr2
        | cons z rem =>
        obtain ⟨T2, vs2, cr', rfl, rfl, rfl, hf2, hcr'⟩ := tups_cons hcr hr2
        obtain ⟨a1, b1, rfl, fa, fb⟩ := flat2 hf2
        obtain ⟨ta, rfl⟩ := flat_int fa
        obtain ⟨tb, rfl⟩ := flat_int fb
        revert hr2; revert hcr; revert hsub; revert hf2; revert fb; revert fa; revert LQ; revert hcr'; revert hdn; revert hl8; revert off8; revert N8; revert F8; revert hc; revert hvm; revert hmm
        revert tb; revert ta; revert cr'; revert T2; revert rem; revert z; revert eM; revert vm; revert dn; revert Qt; revert oI; revert tk3; revert hp3; revert m₂; revert I
        apply frz15; case n => walk_at "FZN"
        intro I m₂ hp3 tk3 oI Qt dn vm eM z rem T2 cr' ta tb
        clear_value I m₂ hp3 tk3 oI Qt dn vm eM z rem T2 cr' ta tb
        intro hmm hvm hc F8 N8 off8 hl8 hdn hcr' LQ fa fb hf2 hsub hcr hr2
        have hT2 : (T2, tupOf [.int z.1 ta, .int z.2 tb]) ∈ chl := hsub _ (.head _)
        have N9 := news_cons (N8 (T2, tupOf [.int z.1 ta, .int z.2 tb]) (by first | f_congr_eq | simp [hT2])) N8
        have hz : z ∈ chs ((ps.map bp).reverse) := by rw [← hdn]; simp
        clear N8
        have hzM : z.1 ≤ qM.1 := by
          have := hM2 (z.1 : Int) (Lmm.mpr ⟨z, hz, rfl⟩)
          omega
        have hz2 : z.2 ≤ 6 := by
          have h1 := sel_count _ ((mem_chs _ _ _).mp (show (z.1, z.2) ∈ chs ((ps.map bp).reverse) from hz))
          rw [List.length_reverse, Llm] at h1
          omega
        have hml : (dn.foldl maskF (List.replicate (qM.1 + 1) 0)).length = qM.1 + 1 := by rw [masks_length, List.length_replicate]
        have hvl : vm.length = qM.1 + 1 := by rw [hvm.length, Llm, hml]
        obtain ⟨mv, hmv⟩ : ∃ mv, mv = (dn.foldl maskF (List.replicate (qM.1 + 1) 0)).getD z.1 0 := ⟨_, rfl⟩
        have hget : (dn.foldl maskF (List.replicate (qM.1 + 1) 0))[z.1]? = some mv := by
          rw [hmv, List.getD_eq_getElem?_getD, List.getElem?_eq_getElem (by omega)]; rfl
        obtain ⟨tv, htv⟩ := hvm.get z.1 (Int.ofNat mv) (by rw [Lgm, hget]; rfl)
        revert htv; revert hget; revert hmv
        revert tv; revert mv
        apply frz2; case n => walk_at "FZN"
        intro mv tv
        clear_value mv tv
        intro hmv hget htv
        repeat (w_once)
        rename News _ _ _ _ => N10
        rename Fr _ _ _ _ => F10
        rename_i h10 t10
        revert N10; revert F10
        revert t10; revert tk; revert h10
        apply frz3; case n => walk_at "FZN"
        intro h10 tk t10
        clear_value h10 tk t10
        intro F10 N10
        refine led_set (D := DM) (vs := vm) (e := eM) (k := z.1) F10 N10 (by walk_at "MEM") (by omega) (by omega) ?_
        apply frz2; case n => walk_at "FZN"
        intro h14 e14
        clear_value h14 e14
        intro F14 o14 N14
        have hex : ∃ X tS, X = ((mv ||| 2 ^ z.2 : Nat) : Int) ∧ News g L1 h14 [(DM, Wl (vm.set z.1 (Value.int X tS)).toArray e14)] := by
          refine ⟨_, _, ?_, N14⟩
          rw [Int.toNat_natCast, Int.toNat_natCast, List.getD_eq_getElem?_getD, Lgm, hget, Int.one_mul]
          have : (2 : Int) ^ z.2 = ((2 ^ z.2 : Nat) : Int) := by rw [Int.natCast_pow]; rfl
          rw [this]
          exact bitOr_nat mv (2 ^ z.2)
        obtain ⟨X, tS, hX, N14⟩ := hex
        subst hX
        have Nr := o14 ((I, oI) :: ((L1 + 1, oB) :: (L1 + 1 + 1, oS) :: (Dc, Wl (refsOf chl).toArray e2) :: (chl ++ (D, Wl (refsOf tl).toArray e) :: tl))) (news_sub N10 (by walk_at "SUB")) (fun p hp => by
          rcases Lmc.mp hp with rfl | hp
          · exact fun hm => off8 (DM, Wl vm.toArray eM) (.head _) (Lms.mp hm).symm
          · exact fun hm => hDR p hp (Lms.mp hm))
        clear N10 F10
        repeat' ((fail_if_success (with_reducible show LoopEndH _ _ _ _ _ _ _ _ _ _)); w_once)
        refine ⟨_, (DM, Wl (vm.set z.1 (Value.int ((mv ||| 2 ^ z.2 : Nat) : Int) tS)).toArray e14) :: ((L1 + 1, oB) :: (L1 + 1 + 1, oS) :: (Dc, Wl (refsOf chl).toArray e2) :: (chl ++ (D, Wl (refsOf tl).toArray e) :: tl)), _, _, rfl, F14, news_cons (Nr _ (.head _)) (news_cons (N14 _ (.head _)) (fun p hp => Nr p (.tail _ hp))), ?off5, ?sq5, cr', rem, dn ++ [z], _, e14, rfl, hcr', fun p hp => hsub p (.tail _ hp), by rw [← hdn, Laa]; rfl, ?mm5, ?vm5, rfl⟩
        case off5 =>
          intro p hp
          rcases Lmc.mp hp with rfl | hp
          · exact off8 (DM, Wl vm.toArray eM) (.head _)
          · exact off8 p (.tail _ hp)
        case sq5 => exact ⟨_, _, (Nr (Dc, Wl (refsOf chl).toArray e2) (by walk_at "SI")).1, rfl⟩
        case mm5 => (repeat (refine (if_neg (by decide)).trans ?_)); exact hmm
        case vm5 =>
          rw [List.foldl_append]
          show IntsAre _ (((dn.foldl maskF (List.replicate (qM.1 + 1) 0)).set z.1 ((dn.foldl maskF (List.replicate (qM.1 + 1) 0)).getD z.1 0 ||| 2 ^ z.2)).map (Int.ofNat ·))
          rw [← hmv, List.map_set]
          exact ints_set hvm z.1 _ tS
      case done4 =>
        rintro m₂ news₂ hp3 tk3 ⟨cr, rem, dn, vm, eM, hr2, hcr, hsub, hdn, hmm, hvm, rfl⟩ F8 N8
        have hcr0 : cr = [] := by cases cr with
          | nil => rfl
          | cons _ _ => cases hr2
        subst hcr0
        cases rem with
        | cons _ _ => cases hcr
        | nil =>
        rw [Lan] at hdn
        subst hdn
        clear N13 F13
        (try dsimp only)
        (repeat ((fail_if_success (with_reducible show LeaveK _ _ _ _ _ _ _)); w_once))
        rename News _ _ _ _ => N15
        rename Fr _ _ _ _ => F15
        refine leaveK_ F15 (news_sub (l' := (DM, Wl vm.toArray eM) :: []) N15 (fun p hp => by rw [Lms.mp hp]; exact .head _)) ?_
        intro kF kN
        refine hQ _ vm _ _ _ qM.1 hvm (fun y hy => ?_) ⟨qM.2, hqM⟩ kF kN (keeps_own N0 hg F15 (fun p hp => N15 p (by simp only [Lmc, Lma] at hp ⊢; rcases hp with h | h <;> simp [h])))
        have := hM2 (y.1 : Int) (Lmm.mpr ⟨y, hy, rfl⟩)
        omega
end
end
section
theorem rs_R2 : True := by
  w_top off
  trivial
local macro_rules | `(tactic| k_ne) => `(tactic| ktu_offL)
section
noncomputable def agsPre (x : Str) (arr : Array Value) : Prop := (inS (Zs "ace") x = true ∧ ∃ t, arr = #[.str (Zs "*") t]) ∨ (inS (Zs "ace") x = false ∧ arr = #[])
theorem agsPre.size {x : Str} {arr : Array Value} (h : agsPre x arr) : arr.size ≤ 1 := by
  rcases h with ⟨_, t, rfl⟩ | ⟨_, rfl⟩ <;> simp
theorem agsPre.of {x : Str} {arr : Array Value} (h : agsPre x arr) (t : Tok) : agsOf x (arr.push (.str (Txt.upper x) t)).toList := by
  rcases h with ⟨a, t', rfl⟩ | ⟨a, rfl⟩
  · exact ⟨t, .inl ⟨a, t', rfl⟩⟩
  · exact ⟨t, .inr ⟨a, rfl⟩⟩
inductive RuleEnd (g : Heap) (L1 l4 : Addr) (z : Addr × Obj) (rest : List (Addr × Obj)) (m : Str -> Option Value) (J : Array Value -> Prop) (s : Shared) (fl : Flow) (s' : Shared) : Prop
  | mk : ∀ arr e h' tk, (s' = { s with heap := h', toks := tk }) -> (fl = Flow.next) -> (Fr g L1 h' m) -> (News g L1 h' (z :: (l4, Wl arr e) :: rest)) -> (J arr) -> RuleEnd g L1 l4 z rest m J s fl s'
theorem rule_join {prog : Program} {A : Around} {t : Sem Flow} {Q : Flow -> Shared -> Prop} {g : Heap} {L1 l4 : Addr} {z : Addr × Obj} {rest : List (Addr × Obj)} (J : Array Value -> Prop) {a0 : Array Value} {e0 : Nat} (_ : Fr g L1 s.heap m) (_ : News g L1 s.heap (z :: (l4, Wl a0 e0) :: rest))
    (walk : wpAny (model prog w) A t (RuleEnd g L1 l4 z rest m J s) (fun _ _ => False) s)
    (cont : ∀ arr e h' tk, Fr g L1 h' m -> News g L1 h' (z :: (l4, Wl arr e) :: rest) -> J arr -> Q .next { s with heap := h', toks := tk }) : wpAny (model prog w) A t Q E s :=
  wpAny_mono walk (fun fl s' h => by
    obtain ⟨arr, e, h', tk, rfl, rfl, F, N, j⟩ := h
    exact cont arr e h' tk F N j) fun _ _ x => x.elim
theorem c_rule (cx : Cx w (j + 9) dp un A₀ env outer base h₀ L) (F : Fr h₀ L s.heap m) {st : List (Addr × Obj)} (N : News h₀ L s.heap st) (hst : NestTab 249 214 22 qLam st) (x v : Str) (n : Int) (tx tv tn : Tok) (hx : x.length ≤ 10) (hv : v.length ≤ 10)
    (hQ : ∀ (p : RuleP) h' tk st', RuleOk p x n -> NestTab 249 214 22 qLam st' -> (st'.length = 2 ∧ (st.length = 2 -> st' = st)) -> Fr h₀ L h' m -> News h₀ L h' (ruleObjs w p v ++ st') -> Others h₀ L (st.map (·.1)) s.heap h' -> (∀ n2, News h₀ L s.heap n2 -> (∀ q ∈ n2, q.1 ∉ st.map (·.1)) -> ∀ q ∈ n2, ∀ r ∈ ruleObjs w p v ++ st', q.1 ≠ r.1) -> Q (.ref p.a) { s with heap := h', toks := tk }) :
    wpAny (model RWQ.row.prog w) (AA dp un env outer) (call (.ref 254) [.str x tx, .int n tn, .str v tv] []) Q E s := by
  revert cx F N hst hx hv hQ
  revert w j dp un A₀ env outer base h₀ L m s Q E st x v n tx tv tn
  apply frz21; case n => walk_at "FZN"
  intro w j dp un A₀ env outer base h₀ L m s Q E st x v n tx tv tn
  clear_value w j dp un A₀ env outer base h₀ L m s Q E st x v n tx tv tn
  intro cx F N hst hx hv hQ
  ((refine wpAny_call ?_; (rename Fr _ _ _ _ => eF); (rename Cx _ _ _ _ _ _ _ _ _ _ => eC); (refine' enterC eC eF (by assumption) ?k6 ?k7 ?k9 ?kB ?kD ?_ ?c2 ?c3 ?c4); (case k6 => k_is); (case k7 => k_is); (case k9 => first | exact BindsTo.of_eq rfl | exact binds_K (by k_in) rfl (by k_is) rfl rfl rfl); (case kB => exact rfl); (case kD => decide +kernel); (case c2 => exact rfl); (case c3 => exact rfl); (case c4 => exact rfl)))
  apply frz10; case n => walk_at "FZN"
  intro dp' un' outer' A' Q' g L1 h1 tk1 cells1
  clear_value dp' un' outer' A' Q' g L1 h1 tk1 cells1
  intro FG hg F1 N1 Y1 cx1 l1 LT1
  have X1 := cx1.X
  have B1 := cx1.B
  have hf1 := cx1.f
  have hke1 := cx1.k
  have hdp1 := cx1.d
  have hun1 := cx1.u
  obtain ⟨p1, loose1, mean1, mg1, mb1, T1⟩ := cx1.T
  k_cells Y1
  (try simp only [Lca, Lna] at N1)
  (((try dsimp only); (try k_fold)))
  have hst1 : ∀ q ∈ st, q.1 ≠ L1 + 1 := fun q hq => Nnl (Nltt (l1 q hq) (Nls _))
  have hst2 : ∀ q ∈ st, q.1 ≠ L1 + 1 + 1 := fun q hq => Nnl (Nltt (l1 q hq) (Nltt (Nls _) (Nls _)))
  have hcd : CodeHd g 253 249 := codeHd_of_K X1 (by kernel_rfl)
  repeat ((fail_if_success (with_reducible show wpAny _ _ (exec (Stmt.If _ _ _ _) _) _ _ _)); w_once)
  rename News _ _ _ _ => N2
  rename Fr _ _ _ _ => F2
  (try dsimp only at N2)
  refine rule_join (agsPre x) F2 N2 ?walk ?cont
  case walk =>
    k_steps
    · rename News _ _ _ _ => N3
      rename Fr _ _ _ _ => F3
      exact ⟨_, _, _, _, rfl, rfl, F3, N3, .inr ⟨inS_f (by assumption), rfl⟩⟩
    · rename News _ _ _ _ => N3
      rename Fr _ _ _ _ => F3
      exact ⟨_, _, _, _, rfl, rfl, F3, N3, .inl ⟨inS_t (by assumption), _, rfl⟩⟩
  case cont =>
    intro arr e h2 tk2 F3 N3 hJ
    clear N2 F2
    have hsz := hJ.size
    rename_i o1 o2 dd1 dd2 xA dA _ lA lB _ _ _ _ _ q1x tkA lC _ lD _ tkB lE _ lF _ tkC _ tkD _ q2x q3x q4x _ h8 oC dC
    clear q1x q2x q3x q4x ek qk
    revert hsz; revert hJ; revert N3; revert F3; revert dC; revert lF; revert lD; revert lB; revert lA; revert dd2; revert dd1; revert T1
    revert tk2; revert h2; revert e; revert arr; revert oC; revert h8; revert tk; revert tkD; revert tkC; revert lE; revert tkB; revert lC; revert tkA; revert dA; revert xA; revert o2; revert o1; revert mb1; revert mg1; revert mean1; revert loose1; revert p1
    apply frz22; case n => walk_at "FZN"
    intro p1 loose1 mean1 mg1 mb1 o1 o2 xA dA tkA lC tkB lE tkC tkD tk h8 oC arr e h2 tk2
    clear_value p1 loose1 mean1 mg1 mb1 o1 o2 xA dA tkA lC tkB lE tkC tkD tk h8 oC arr e h2 tk2
    intro T1 dd1 dd2 lA lB lD lF dC F3 N3 hJ hsz
    repeat ((fail_if_success (with_reducible show wpAny _ _ (eval (Expr.Lambda _ _ _ _) _) _ _ _)); w_once)
    refine' kla_eval ?d0 ?_
    case d0 => exact rfl
    rename News _ _ _ _ => N5
    rename Fr _ _ _ _ => F5
    rename_i _ j0 tkE xB dB j1 lG lH j2 j3 j4 r5x r6x r1x tkF lI j5 lJ j6 tkG lK j7 lL j8 tkH j9 tkI jA r2x r3x tkJ r4x _ h9
    clear r1x r2x r3x r4x ek qk r5x r6x
    revert N5; revert F5; revert lL; revert lJ; revert lH; revert lG
    revert tk; revert h9; revert tkJ; revert jA; revert tkI; revert j9; revert tkH; revert j8; revert j7; revert lK; revert tkG; revert j6; revert j5; revert lI; revert tkF; revert j1; revert dB; revert xB; revert tkE; revert j0
    apply frz20; case n => walk_at "FZN"
    intro j0 tkE xB dB j1 tkF lI j5 j6 tkG lK j7 j8 tkH j9 tkI jA tkJ h9 tk
    clear_value j0 tkE xB dB j1 tkF lI j5 j6 tkG lK j7 j8 tkH j9 tkI jA tkJ h9 tk
    intro lG lH lJ lL F5 N5
    (try dsimp only at N5)
    refine' kla_anyL (L1 := L1) F5 N5 (by repeat (first | exact Spl.nil | apply Spl.cons)) T1 hcd rfl hst ?hL l1 ?t0 ?n0 ?t1 ?n1 ?cl ?_
    case t0 => kn_triples
    case n0 => kn_among
    case t1 => intro c'; kn_triples
    case n1 => intro c'; kn_hit
    case cl => exact rfl
    case hL => repeat (first | exact faNil | (refine faCons ?_ ?_; (first | exact Nls _ | (refine' lt_andS ?pa ?pb; (case pa => with_reducible assumption); (case pb => with_reducible w_end)) | (refine ltN ?_; (try dsimp only); omega))))
    apply frz8; case n => walk_at "FZN"
    intro f c' oc vs t ctv h7 tk7
    clear_value f c' oc vs t ctv h7 tk7
    intro F7 N7 hoc hvs hkeep hf hc hcf hPf hpP
    simp only [Lca, Lna] at N7
    k_lt hf
    clear N5 F5
    k_steps
    rename News _ _ _ _ => N9
    rename Fr _ _ _ _ => F9
    (try dsimp only at N9)
    show LeaveK _ _ _ _ _ _ _
    refine' rule_end (x := x) (v := v) (n := n) hg F9 N9 ⟨_, _, _, _, _, _, _, _, _, _, _, _, _, _, _, _, _, _, _, _, _, _, _, _, _, _, _, _, _, _⟩ rfl ?m1 ?m2 ?m3 ?m4 ?m5 ?m6 ?ho ?hs ?hc ?m7 ?m8 ?m9 ?hags ?hag ?tab hQ ?hR
    case hR => exact fun _ q => q
    case m1 => (try dsimp only); walk_at "MEM"
    case m2 => (try dsimp only); walk_at "MEM"
    case m3 => (try dsimp only); walk_at "MEM"
    case m4 => (try dsimp only); walk_at "MEM"
    case m5 => (try dsimp only); walk_at "MEM"
    case m6 => (try dsimp only); walk_at "MEM"
    case ho => (try dsimp only); assumption
    case hs => exact ⟨_, Eq.trans (by assumption) rfl⟩
    case hc => exact ⟨_, _, by assumption, by assumption⟩
    case m7 => (try dsimp only); walk_at "MEM"
    case m8 => (try dsimp only); walk_at "MEM"
    case m9 => (try dsimp only); walk_at "MEM"
    case hags => exact rfl
    case hag => exact hJ.of _
    case tab => exact ⟨_, NestTab.made hoc hvs, ⟨rfl, hkeep⟩, faCons (by walk_at "MEM") (faCons (by walk_at "MEM") faNil)⟩
end
end
section
theorem rs_V1 : True := by
  w_top off
  trivial
inductive JLg (w : World) (rw d as : Addr) (fi : Int) (tf tk0 : Tok) (x : Str) (tx : Tok) (tlA tlB tl : List (Addr × Obj)) (tp : Addr × Obj) (i : Nat) (m : Str -> Option Value) (news : List (Addr × Obj)) : Prop
  | mk : ∀ tlB1 tlB2 e ea, (tlB = tlB1 ++ tlB2) -> (i = tlB2.length) -> (news = (as, Wl (refsOf tlB2.reverse).toArray ea) :: (rowAt w rw d (refsOf (tlA ++ tp :: tlB1)) e fi tf tk0 ++ tl)) -> (m (Zs "row") = some (.ref rw)) -> (m (Zs "letter") = some (.str x tx)) -> (m (Zs "aside") = some (.ref as)) -> JLg w rw d as fi tf tk0 x tx tlA tlB tl tp i m news
inductive JPu (w : World) (rw d Dn : Addr) (fi : Int) (tf tk0 : Tok) (B : List (Str × Str)) (tlA tlB tl : List (Addr × Obj)) (r : List Value) (m : Str -> Option Value) (news : List (Addr × Obj)) : Prop
  | mk : ∀ (k : Nat) (tlN : List (Addr × Obj)) (e : Nat), (r = refsOf (tlB.drop k)) -> (k ≤ tlB.length) -> (TupsAre tlN ((B.take k).map pieceD)) -> (news = (Dn, Wl (refsOf tlB).toArray 0) :: (rowAt w rw d (refsOf (tlA ++ tlN)) e fi tf tk0 ++ (tlN ++ tl))) -> ((∀ p ∈ tlN, p.1 ≠ rw ∧ p.1 ≠ d)) -> (m (Zs "row") = some (.ref rw)) -> JPu w rw d Dn fi tf tk0 B tlA tlB tl r m news
theorem others_own {g h h' h₀ : Heap} {L L1 : Addr} {own kept : List (Addr × Obj)} {ch : List Addr} {m' : Str -> Option Value} (N : News h₀ L h kept) (hg : ∀ b o', h.get? b = some o' -> b ∉ own.map (·.1) -> g.get? b = some o') (F' : Fr g L1 h' m') (N' : News g L1 h' kept) (hsub : ∀ a ∈ own.map (·.1), a ∈ ch ∨ a ∈ kept.map (·.1)) : Others h₀ L ch h h' := fun n2 N2 off p hp => by
  by_cases e : p.1 ∈ kept.map (·.1)
  · obtain ⟨q, hq, e'⟩ := Lmm.mp e
    have h1 := (N q hq).1
    have h2 := (N2 p hp).1
    rw [e', h2] at h1
    have h3 := (N' q hq).1
    rw [e', ← Option.some.inj h1] at h3
    exact ⟨h3, (N2 p hp).2⟩
  · exact off_own (n2 := [p]) (own := own) (fun q hq => by rw [Lms.mp hq]; exact N2 p hp) hg (fun q hq => by
      rw [Lms.mp hq]
      exact fun hm => (hsub _ hm).elim (off p hp) e) F' p (Lms.mpr rfl)
section
theorem c_letgo (cx : Cx w (j + 3) dp un A₀ env outer base h₀ L) (F : Fr h₀ L s.heap m) {rw d : Addr} {tlA tlB : List (Addr × Obj)} {tp : Addr × Obj} (A B : List (Str × Str)) (bl x : Str) (hB : ∀ q ∈ B, q.2 ≠ x) {e : Nat} {fi : Int} {tf tk0 : Tok} (tx : Tok)
    (O : News h₀ L s.heap (rowAt w rw d (refsOf (tlA ++ tp :: tlB)) e fi tf tk0 ++ (tlA ++ tp :: tlB))) (hA' : TupsAre tlA (A.map pieceD)) (hp' : TupsAre [tp] [pieceD (bl, x)]) (hB' : TupsAre tlB (B.map pieceD)) (hd : rw ≠ d) (hsz : (tlA ++ tp :: tlB).length ≤ 100)
    (hoff : ∀ p ∈ tlA ++ tp :: tlB, p.1 ≠ rw ∧ p.1 ≠ d)
    (hQ : ∀ h' tk tl' e', Fr h₀ L h' m -> News h₀ L h' (rowAt w rw d (refsOf tl') e' fi tf tk0 ++ tl') -> TupsAre tl' ((A ++ B).map pieceD) -> (∀ p ∈ tl', p.1 ≠ rw ∧ p.1 ≠ d) -> Others h₀ L [rw, d] s.heap h' -> (∀ n2, News h₀ L s.heap n2 -> (∀ q ∈ n2, q.1 ∉ (rowAt w rw d (refsOf (tlA ++ tp :: tlB)) e fi tf tk0 ++ (tlA ++ tp :: tlB)).map (·.1)) -> ∀ q ∈ n2, ∀ r ∈ tl', q.1 ≠ r.1) -> Q .none { s with heap := h', toks := tk }) :
    wpAny (model RWQ.row.prog w) (AA dp un env outer) (call (.ref 261) [.ref rw, .str x tx] []) Q E s := by
  obtain ⟨tl, htl⟩ : ∃ tl, tl = tlA ++ tp :: tlB := ⟨_, rfl⟩
  rw [← htl] at O hsz hoff hQ
  have hlen : tlB.length < tl.length := by rw [htl]; simp; omega
  revert hlen; revert htl; revert hQ; revert hoff; revert hsz; revert hd; revert hB'; revert hp'; revert hA'; revert O; revert hB; revert F; revert cx
  revert tl; revert tx; revert tk0; revert tf; revert fi; revert e; revert x; revert bl; revert B; revert A; revert tp; revert tlB; revert tlA; revert d; revert rw; revert E; revert Q; revert s; revert m; revert L; revert h₀; revert base; revert outer; revert env; revert A₀; revert un; revert dp; revert j; revert w
  apply frz22; case n => walk_at "FZN"
  intro w j dp un A₀ env outer base h₀ L m s Q E rw d tlA tlB tp A B bl
  clear_value w j dp un A₀ env outer base h₀ L m s Q E rw d tlA tlB tp A B bl
  apply frz7; case n => walk_at "FZN"
  intro x e fi tf tk0 tx tl
  clear_value x e fi tf tk0 tx tl
  intro cx F hB O hA' hp' hB' hd hsz hoff hQ htl hlen
  ((refine wpAny_call ?_; (rename Fr _ _ _ _ => eF); (rename Cx _ _ _ _ _ _ _ _ _ _ => eC); (refine' enterP eC eF (by assumption) ?k6 ?k7 ?k9 ?kB ?_ ?c5 ?c2 ?c3 ?c4); (case k6 => k_is); (case k7 => k_is); (case k9 => first | exact BindsTo.of_eq rfl | exact binds_K (by k_in) rfl (by k_is) rfl rfl rfl); (case c5 => decide); (case kB => exact locs rfl); (case c2 => exact rfl); (case c3 => exact rfl); (case c4 => exact rfl)))
  apply frz8; case n => walk_at "FZN"
  intro dp' un' outer' A' Q' g L1 h1
  clear_value dp' un' outer' A' Q' g L1 h1
  intro FG hg F1 N1 cx1 l1 LT1
  have X1 := cx1.X
  have B1 := cx1.B
  have hf1 := cx1.f
  have hke1 := cx1.k
  have hdp1 := cx1.d
  have hun1 := cx1.u
  obtain ⟨p1, loose1, mean1, mg1, mb1, T1⟩ := cx1.T
  (try skip)
  (((try dsimp only); (try k_fold)))
  clear l1
  (repeat ((fail_if_success (with_reducible show wpAny _ _ (exec (Stmt.For _ _ _ _ _) _) _ _ _)); tupd_look))
  rename_i as_ _ lq _ _ _
  refine For_rangeH (h₀ := g) ?_ (fun _ => rfl) (by passes_own)
  (repeat ((fail_if_success (with_reducible show wpAny _ _ (getMethod _ _ _) _ _ _)); tupd_look))
  ((refine acc_methF (by k_asm) (by k_asm) (inst_acc (by k_asm) (by walk_at "MEM") (by walk_at "MEM")) (by k_is) (by k_is) (by k_is) (by k_is) (by k_get) ?_))
  (repeat ((fail_if_success (with_reducible show wpAny _ _ (call _ _ _) _ _ _)); tupd_look))
  rename News _ _ _ _ => N2
  rename Fr _ _ _ _ => F2
  rename_i h2
  revert N2; revert F2; revert lq; revert T1
  revert tk; revert h2; revert as_; revert mb1; revert mg1; revert mean1; revert loose1; revert p1
  apply frz8; case n => walk_at "FZN"
  intro p1 loose1 mean1 mg1 mb1 as_ h2 tk
  clear_value p1 loose1 mean1 mg1 mb1 as_ h2 tk
  intro T1 lq F2 N2
  have hot : ∀ p ∈ tl, p.1 ∉ [rw, d] := fun p hp hm => by
    rcases Lmc.mp hm with h | h
    · exact (hoff p hp).1 h
    · exact (hoff p hp).2 (Lms.mp h)
  have hras : rw < as_ := lq (rw, _) (.head _)
  have hdas : d < as_ := lq (d, _) (.tail _ (.head _))
  have htas : ∀ p ∈ tl, p.1 < as_ := fun p hp => lq p (.tail _ (.tail _ hp))
  have has : as_ ∉ [rw, d] := fun hm => by
    rcases Lmc.mp hm with h | h
    · exact Nnl hras h.symm
    · exact Nnl hdas (Lms.mp h).symm
  refine c_pc cx1 F2 (vs := refsOf tl) (news2 N2 (.tail _ (.head _)) (.tail _ (.tail _ (.head _)))) hd ?_
  apply frz3; case n => walk_at "FZN"
  intro h3 tk3 t3
  clear_value h3 tk3 t3
  intro F3 N3 o3
  have N4 : News g L1 h3 ((as_, Wl ([] : List Value).toArray 0) :: (rowAt w rw d (refsOf tl) e fi tf tk0 ++ tl)) := news_cons ((o3 [(as_, Wl #[] 0)] (news_sub N2 (fun p hp => by rw [Lms.mp hp]; exact .head _)) (fun p hp => by rw [Lms.mp hp]; exact has)) _ (.head _))
    (news_app N3 (o3 tl (fun p hp => N2 p (.tail _ (.tail _ (.tail _ hp)))) hot))
  clear N2 F2 N3 o3
  (try dsimp only)
  (repeat ((fail_if_success (with_reducible show wpAny _ _ (call _ _ _) _ _ _)); tupd_look))
  refine call_range_1 ?_
  rename Fr _ _ _ _ => F5
  rename News _ _ _ _ => N5
  have hlr : (refsOf tl).length = tl.length := Llm ..
  refine ⟨_, tl.length, _, _, _, _, _, fun i m nw => JLg w rw d as_ fi tf tk0 x tx tlA tlB tl tp i m nw, rfl, rfl, by omega, F5.push _, N5.grown fun b o e => Heap.get?_push_of_some _ e, by rw [hlr]; exact IsRange.new _ _ _ _ _ _ _, ?init, ?step, ?done⟩
  case init => exact ⟨tlB, [], e, 0, by rw [Lan], rfl, by rw [← htl]; rfl, rfl, rfl, rfl⟩
  case done =>
    rintro m₁ news₁ hp2 tk2 ⟨tlB1, tlB2, e2, ea, hsp, hi, rfl, _, _, _⟩ F8 N8
    have := congrArg List.length hsp
    rw [Lla] at this
    omega
  case step =>
    clear N5 F5
    rintro I i y ty m₁ news₁ hp2 tk2 oI Qt hi rfl ⟨tlB1, tlB2, e2, ea, hsp, hi2, rfl, hmr, hml, hma⟩ hc F8 N8 off8 LQ
    revert LQ; revert off8; revert N8; revert F8; revert hc; revert hma; revert hml; revert hmr; revert hi2; revert hsp; revert hi
    revert ea; revert e2; revert tlB2; revert tlB1; revert Qt; revert oI; revert tk2; revert hp2; revert m₁; revert ty; revert I; revert i
    apply frz12; case n => walk_at "FZN"
    intro i I ty m₁ hp2 tk2 oI Qt tlB1 tlB2 e2 ea
    clear_value i I ty m₁ hp2 tk2 oI Qt tlB1 tlB2 e2 ea
    intro hi hsp hi2 hmr hml hma hc F8 N8 off8 LQ
    have hasd : ∀ p ∈ [(as_, Wl (refsOf tlB2.reverse).toArray ea), (I, oI)], p.1 ∉ [rw, d] := fun p hp => by
      rcases Lmc.mp hp with rfl | hp
      · exact has
      · rw [Lms.mp hp]
        intro hm
        rcases Lmc.mp hm with h | h
        · exact off8 (rw, _) (.tail _ (.head _)) h.symm
        · exact off8 (d, _) (.tail _ (.tail _ (.head _))) (Lms.mp h).symm
    (repeat ((fail_if_success (with_reducible show wpAny _ _ (getMethod _ _ _) _ _ _)); tupd_look))
    ((refine acc_methF (by k_asm) (by k_asm) (inst_acc (by k_asm) (by walk_at "MEM") (by walk_at "MEM")) (by k_is) (by k_is) (by k_is) (by k_is) (by k_get) ?_))
    (repeat ((fail_if_success (with_reducible show wpAny _ _ (call _ _ _) _ _ _)); tupd_look))
    rename News _ _ _ _ => N9
    rename Fr _ _ _ _ => F9
    rename_i h9
    revert N9; revert F9
    revert tk; revert h9
    apply frz2; case n => walk_at "FZN"
    intro h9 tk
    clear_value h9 tk
    intro F9 N9
    rcases List.eq_nil_or_concat tlB1 with rfl | ⟨us, q, hcc⟩
    · have er : refsOf (tlA ++ [tp]) = refsOf tlA ++ [.ref tp.1] := by simp [refsOf]
      rw [er] at N9
      have K9 : News g L1 _ ([(as_, Wl (refsOf tlB2.reverse).toArray ea), (I, oI)] ++ tl) := news_sub N9 (fun p hp => by
        rcases Lma.mp hp with hp | hp
        · rcases Lmc.mp hp with rfl | hp
          · walk_at "MEM"
          · rw [Lms.mp hp]; walk_at "MEM"
        · exact .tail _ (.tail _ (.tail _ (.tail _ hp))))
      refine c_pop cx1 F9 (us := refsOf tlA) (v := .ref tp.1) (news2 N9 (by walk_at "MEM") (by walk_at "MEM")) hd (by rw [Llm]; rw [htl] at hsz; simp at hsz; omega) ?_
      apply frz3; case n => walk_at "FZN"
      intro h10 tk10 e10
      clear_value h10 tk10 e10
      intro F10 N10 o10
      have K10 := o10 _ K9 (fun p hp => (Lma.mp hp).elim (hasd p) (hot p))
      obtain ⟨TA, vsT, hvT, htp⟩ : ∃ T vs, FlatAll vs (pieceD (bl, x)) ∧ tp = (T, tupOf vs) := by cases hp' with | cons a b => exact ⟨_, _, a, rfl⟩
      cases hvT with
      | cons f1 f2 => cases f2 with
        | cons f2 f3 => cases f3 with
          | nil =>
            obtain ⟨u1, rfl⟩ := flat_str f1
            obtain ⟨u2, rfl⟩ := flat_str f2
            subst htp
            have N11 : News g L1 h10 ((TA, tupOf [.str bl u1, .str x u2]) :: (as_, Wl (refsOf tlB2.reverse).toArray ea) :: (I, oI) :: (rowAt w rw d (refsOf tlA) e10 fi tf tk0 ++ tl)) :=
              news_cons (K10 _ (Lar _ (by rw [htl]; exact Lar _ (.head _)))) (news_cons (K10 _ (.head _)) (news_cons (K10 _ (.tail _ (.head _))) (news_app N10 (fun p hp => K10 p (Lar _ hp)))))
            clear N9 F9 K9 K10 N10 o10 N8 F8 f1 f2 er
            revert N11; revert off8; revert LQ; revert htl; revert hp'
            revert u2; revert u1; revert TA
            apply frz3; case n => walk_at "FZN"
            intro TA u1 u2
            clear_value TA u1 u2
            intro hp' htl LQ off8 N11
            (repeat ((fail_if_success (with_reducible show wpAny _ _ (getMethod _ _ _) _ _ _)); tupd_look))
            (try (rotate_left; (focus (exfalso; (first | exact absurd (rfl : x = x) (by assumption) | (have hf : ((bl, x).snd == x) = false := by assumption; simp at hf))))))
            have hB2 : tlB2 = tlB := by rw [hsp]; rfl
            subst hB2
            refine LQ.go ?_
            (try dsimp only [LoopEndH])
            (repeat ((fail_if_success (with_reducible show wpAny _ _ (exec (Stmt.For _ _ _ _ _) _) _ _ _)); tupd_look))
            refine For_seqH (h₀ := g) ?_ (fun _ => rfl) (by passes_own)
            (repeat ((fail_if_success (with_reducible show wpAny _ _ (subscriptTail _ _ _ _) _ _ _)); tupd_look))
            rename News _ _ _ _ => N12
            rename Fr _ _ _ _ => F12
            rename_i h12
            revert N12; revert F12
            revert tk; revert h12
            apply frz2; case n => walk_at "FZN"
            intro h12 tk
            clear_value h12 tk
            intro F12 N12
            refine krv_lit (zs := refsOf tlB2) F12 N12 (is_of N12 (by walk_at "MEM")) (IsPart.int _ _) (by rw [List.toList_toArray]; simp [refsOf]) ?_ (by with_unfolding_all rfl) (fun _ => by rfl) (by rw [sizeLine_eq, Lst, Llm, List.length_reverse]; omega)
            apply frz2; case n => walk_at "FZN"
            intro Dn h13
            clear_value Dn h13
            intro F13 N13 lDn
            have hDd : Dn ∉ [rw, d] := fun hm => by
              rcases Lmc.mp hm with h | h
              · exact Nnl (lDn (rw, _) (.tail _ (.tail _ (.tail _ (.head _))))) h.symm
              · exact Nnl (lDn (d, _) (.tail _ (.tail _ (.tail _ (.tail _ (.head _)))))) (Lms.mp h).symm
            have N14 : News g L1 h13 ((Dn, Wl (refsOf tlB2).toArray 0) :: (rowAt w rw d (refsOf (tlA ++ [])) e10 fi tf tk0 ++ ([] ++ tl))) := by
              rw [Lan]
              exact news_sub N13 (fun p hp => by
                rcases Lmc.mp hp with rfl | hp
                · exact .head _
                · exact .tail _ (.tail _ (.tail _ (.tail _ hp))))
            refine ⟨Dn, refsOf tlB2, _, _, fun r m nw => JPu w rw d Dn fi tf tk0 B tlA tlB2 tl r m nw, rfl, rfl, F13, N14, SeqAt.of_list (is_of N14 (.head _)), fun {Q'} q => wpAny_pyIter_list (is_of N14 (.head _)) (by simpa using q), ?init, ?step, ?done⟩
            case init => exact ⟨0, [], e10, rfl, Nat.zero_le _, .nil, rfl, fun _ h => (nomatch h), by first | rfl | exact (if_neg (by decide)).trans ((if_neg (by decide)).trans hmr)⟩
            case step =>
              clear N14 N13 F13 N12 F12 hmr hml hma off8 hasd
              rintro I2 y2 r2 m₂ news₂ hp3 tk3 oI2 Qt ⟨k, tlN, e3, hr3, hk3, hN3, rfl, hof3, hmr⟩ hc2 F20 N20 off20 hl20 LQ
              have hk : k < tlB2.length := by
                rcases Nat.lt_or_ge k tlB2.length with h | h
                · exact h
                · rw [List.drop_eq_nil_of_le h] at hr3; cases hr3
              have hBl : tlB2.length = B.length := by have := hB'.length; rwa [Llm] at this
              obtain ⟨aq, pq, uq, uq', hq1, hq2⟩ := tups_get hB' k (by omega)
              have hd3 : tlB2.drop k = (aq, tupOf [.str pq.1 uq, .str pq.2 uq']) :: tlB2.drop (k + 1) := by
                rw [List.drop_eq_getElem_cons hk]
                rw [List.getElem?_eq_getElem hk] at hq1
                rw [Option.some.inj hq1]
              rw [hd3] at hr3
              injection hr3 with hy1 hy2
              subst hy1 hy2
              have hmem : (aq, tupOf [.str pq.1 uq, .str pq.2 uq']) ∈ tl := by
                rw [htl]
                exact Lar _ (.tail _ (Lmg hq1))
              have N21 : News g L1 hp3 ((aq, tupOf [.str pq.1 uq, .str pq.2 uq']) :: (I2, oI2) :: (Dn, Wl (refsOf tlB2).toArray 0) :: (rowAt w rw d (refsOf (tlA ++ tlN)) e3 fi tf tk0 ++ (tlN ++ tl))) :=
                news_cons (N20 _ (.tail _ (.tail _ (.tail _ (.tail _ (show _ ∈ tlN ++ tl from Lar _ hmem)))))) N20
              clear N20
              revert N21; revert hmem; revert hd3; revert hq2; revert hq1; revert hk; revert LQ; revert hl20; revert off20; revert F20; revert hc2; revert hmr; revert hof3; revert hN3; revert hk3
              revert uq'; revert uq; revert pq; revert aq; revert e3; revert tlN; revert k; revert Qt; revert oI2; revert tk3; revert hp3; revert m₂; revert I2
              apply frz13; case n => walk_at "FZN"
              intro I2 m₂ hp3 tk3 oI2 Qt k tlN e3 aq pq uq uq'
              clear_value I2 m₂ hp3 tk3 oI2 Qt k tlN e3 aq pq uq uq'
              intro hk3 hN3 hof3 hmr hc2 F20 off20 hl20 LQ hk hq1 hq2 hd3 hmem N21
              (repeat ((fail_if_success (with_reducible show wpAny _ _ (getMethod _ _ _) _ _ _)); tupd_look))
              ((refine acc_methF (by k_asm) (by k_asm) (inst_acc (by k_asm) (by walk_at "MEM") (by walk_at "MEM")) (by k_is) (by k_is) (by k_is) (by k_is) (by k_get) ?_))
              (repeat ((fail_if_success (with_reducible show wpAny _ _ (call _ _ _) _ _ _)); tupd_look))
              rename News _ _ _ _ => N22
              rename Fr _ _ _ _ => F22
              rename_i h22
              revert N22; revert F22
              revert tk; revert h22
              apply frz2; case n => walk_at "FZN"
              intro h22 tk
              clear_value h22 tk
              intro F22 N22
              have hI2 : ∀ p ∈ [(I2, oI2), (Dn, Wl (refsOf tlB2).toArray 0)], p.1 ∉ [rw, d] := fun p hp => by
                rcases Lmc.mp hp with rfl | hp
                · intro hm
                  rcases Lmc.mp hm with h | h
                  · exact off20 (rw, _) (.tail _ (.head _)) h.symm
                  · exact off20 (d, _) (.tail _ (.tail _ (.head _))) (Lms.mp h).symm
                · rw [Lms.mp hp]; exact hDd
              have hof4 : ∀ p ∈ tlN ++ tl, p.1 ∉ [rw, d] := fun p hp => (Lma.mp hp).elim (fun h hm => by
                rcases Lmc.mp hm with h' | h'
                · exact (hof3 p h).1 h'
                · exact (hof3 p h).2 (Lms.mp h')) (hot p)
              have K22 : News g L1 _ ([(I2, oI2), (Dn, Wl (refsOf tlB2).toArray 0)] ++ (tlN ++ tl)) := news_sub N22 (fun p hp => by
                rcases Lma.mp hp with hp | hp
                · rcases Lmc.mp hp with rfl | hp
                  · walk_at "MEM"
                  · rw [Lms.mp hp]; walk_at "MEM"
                · exact .tail _ (.tail _ (.tail _ (.tail _ (.tail _ hp)))))
              have offK : ∀ p ∈ [(I2, oI2), (Dn, Wl (refsOf tlB2).toArray 0)] ++ (tlN ++ tl), p.1 ∉ [rw, d] := fun p hp => (Lma.mp hp).elim (hI2 p) (hof4 p)
              refine c_push cx1 F22 (news2 N22 (by walk_at "MEM") (by walk_at "MEM")) hd (by
                have := hN3.length
                rw [htl] at hsz
                simp at this hsz ⊢
                omega) _ _ _ _ ?_
              apply frz4; case n => walk_at "FZN"
              intro T2 h23 tk23 e23
              clear_value T2 h23 tk23 e23
              intro F23 N23 hT2 o23 fr23
              have K23 := o23 _ K22 offK
              have hTI : T2 ≠ I2 := fun e => fr23 _ K22 offK (I2, oI2) (.head _) e.symm
              have hTD : T2 ≠ Dn := fun e => fr23 _ K22 offK (Dn, _) (.tail _ (.head _)) e.symm
              have er3 : refsOf (tlA ++ tlN) ++ [.ref T2] = refsOf (tlA ++ (tlN ++ [(T2, tupOf [.str pq.1 uq, .str pq.2 uq'])])) := by simp [refsOf]
              rw [er3] at N23
              have N24 : News g L1 h23 ((I2, oI2) :: (Dn, Wl (refsOf tlB2).toArray 0) :: (rowAt w rw d (refsOf (tlA ++ (tlN ++ [(T2, tupOf [.str pq.1 uq, .str pq.2 uq'])]))) e23 fi tf tk0 ++ ((tlN ++ [(T2, tupOf [.str pq.1 uq, .str pq.2 uq'])]) ++ tl))) :=
                news_cons (K23 _ (.head _)) (news_cons (K23 _ (.tail _ (.head _))) (news_app (fun p hp => N23 p (.tail _ hp)) (fun p hp => by
                  rcases Lma.mp hp with hp | hp
                  · rcases Lma.mp hp with hp | hp
                    · exact K23 p (Lar _ (Lal _ hp))
                    · rw [Lms.mp hp]; exact N23 _ (.head _)
                  · exact K23 p (Lar _ (Lar _ hp)))))
              clear N22 F22 K22 N23 K23 o23 fr23
              repeat ((fail_if_success (with_reducible show LoopEndH _ _ _ _ _ _ _ _ _ _)); tupd_look)
              rename News _ _ _ _ => N25
              rename Fr _ _ _ _ => F25
              refine ⟨_, _, _, _, rfl, F25, N25, ?_, SeqAt.of_list (is_of N25 (.tail _ (.head _))), k + 1, tlN ++ [(T2, tupOf [.str pq.1 uq, .str pq.2 uq'])], e23, rfl, hk, ?_, rfl, ?_, ?_⟩
              · intro p hp
                rcases Lmc.mp hp with rfl | hp
                · exact off20 _ (.head _)
                · rcases Lma.mp hp with hp | hp
                  · rcases Lmc.mp hp with rfl | hp
                    · exact off20 (rw, accObj d (refsOf (tlA ++ tlN)) e3) (.tail _ (.head _))
                    · rw [Lms.mp hp]; exact off20 (d, _) (.tail _ (.tail _ (.head _)))
                  · rcases Lma.mp hp with hp | hp
                    · rcases Lma.mp hp with hp | hp
                      · exact off20 p (.tail _ (.tail _ (.tail _ (show _ ∈ tlN ++ tl from Lal _ hp))))
                      · rw [Lms.mp hp]; exact hTI
                    · exact off20 p (.tail _ (.tail _ (.tail _ (show _ ∈ tlN ++ tl from Lar _ hp))))
              · have hkB : k < B.length := by omega
                have hb : B[k] = pq := by
                  rw [List.getElem?_eq_getElem hkB] at hq2
                  exact Option.some.inj hq2
                rw [List.take_succ_eq_append_getElem hkB, hb, Lmp]
                exact hN3.append (.cons (.cons (fun _ => .str _ _) (.cons (fun _ => .str _ _) .nil)) .nil)
              · intro p hp
                rcases Lma.mp hp with hp | hp
                · exact hof3 p hp
                · rw [Lms.mp hp]; exact hT2
              · exact (if_neg (by decide)).trans ((if_neg (by decide)).trans hmr)
            case done =>
              rintro m₂ news₂ hp3 tk3 ⟨k, tlN, e3, hr3, hk3, hN3, rfl, hof3, hmr⟩ F20 N20
              have hk : k = tlB2.length := by
                rcases Nat.lt_or_ge k tlB2.length with h | h
                · rw [List.drop_eq_getElem_cons h] at hr3; cases hr3
                · exact Nat.le_antisymm hk3 h
              have hBl : tlB2.length = B.length := by have := hB'.length; rwa [Llm] at this
              rw [hk, hBl, List.take_length] at hN3
              (try dsimp only)
              (repeat ((fail_if_success (with_reducible show LeaveK _ _ _ _ _ _ _)); tupd_look))
              rename News _ _ _ _ => N25
              rename Fr _ _ _ _ => F25
              have hO := others_own (ch := [rw, d]) (kept := tl) (fun p hp => O p (Lar _ hp)) hg F25 (fun p hp => N25 p (.tail _ (.tail _ (.tail _ (show _ ∈ tlN ++ tl from Lar _ hp))))) (fun a ha => by
                rw [Lmp, Lma] at ha
                exact ha.imp id id)
              refine leaveK_ F25 N25 ?_
              intro kF kN
              refine hQ _ _ (tlA ++ tlN) e3 kF ?_ ?_ ?_ hO (fun n2 N2 off q hq r hr => new_ne N2 hg off (n3 := tlA ++ tlN) (fun p hp => (Lma.mp hp).elim (fun h => N25 p (.tail _ (.tail _ (.tail _ (show _ ∈ tlN ++ tl from Lar _ (by rw [htl]; exact Lal _ h)))))) (fun h => N25 p (.tail _ (.tail _ (.tail _ (show _ ∈ tlN ++ tl from Lal _ h)))))) q hq r hr)
              · exact news_app (fun p hp => kN p (.tail _ (Lal _ hp))) (fun p hp => (Lma.mp hp).elim (fun h => kN p (.tail _ (.tail _ (.tail _ (show _ ∈ tlN ++ tl from Lar _ (by rw [htl]; exact Lal _ h)))))) (fun h => kN p (.tail _ (.tail _ (.tail _ (show _ ∈ tlN ++ tl from Lal _ h))))))
              · rw [Lmp]; exact hA'.append hN3
              · intro p hp
                rcases Lma.mp hp with hp | hp
                · exact hoff p (by rw [htl]; exact Lal _ hp)
                · exact hof3 p hp
    · have hcc' : tlB1 = us ++ [q] := by simpa using hcc
      clear hcc
      subst hcc'
      have er : refsOf (tlA ++ tp :: (us ++ [q])) = refsOf (tlA ++ tp :: us) ++ [.ref q.1] := by simp [refsOf]
      rw [er] at N9
      have hBl : tlB.length = B.length := by have := hB'.length; rwa [Llm] at this
      have hul : us.length < B.length := by rw [← hBl, hsp]; simp
      obtain ⟨aq, pq, uq, uq', hq1, hq2⟩ := tups_get hB' us.length hul
      have hqe : q = (aq, tupOf [.str pq.1 uq, .str pq.2 uq']) := by
        rw [hsp] at hq1
        simpa using hq1
      have hne : pq.2 ≠ x := hB pq (Lmg hq2)
      subst hqe
      have hmem : (aq, tupOf [.str pq.1 uq, .str pq.2 uq']) ∈ tl := by
        rw [htl, hsp]
        exact Lar _ (.tail _ (Lal _ (Lar _ (.head _))))
      clear N8 F8 er
      revert hmem; revert N9; revert off8; revert hsp; revert hne; revert hq2; revert hq1; revert hul
      revert uq'; revert uq; revert pq; revert aq; revert us
      apply frz5; case n => walk_at "FZN"
      intro us aq pq uq uq'
      clear_value us aq pq uq uq'
      intro hul hq1 hq2 hne hsp off8 N9 hmem
      have K9 : News g L1 _ ([(as_, Wl (refsOf tlB2.reverse).toArray ea), (I, oI)] ++ tl) := news_sub N9 (fun p hp => by
        rcases Lma.mp hp with hp | hp
        · rcases Lmc.mp hp with rfl | hp
          · walk_at "MEM"
          · rw [Lms.mp hp]; walk_at "MEM"
        · exact .tail _ (.tail _ (.tail _ (.tail _ hp))))
      refine c_pop cx1 F9 (us := refsOf (tlA ++ tp :: us)) (v := .ref aq) (news2 N9 (by walk_at "MEM") (by walk_at "MEM")) hd (by rw [Llm]; rw [htl, hsp] at hsz; simp at hsz ⊢; omega) ?_
      apply frz3; case n => walk_at "FZN"
      intro h10 tk10 e10
      clear_value h10 tk10 e10
      intro F10 N10 o10
      have K10 := o10 _ K9 (fun p hp => (Lma.mp hp).elim (hasd p) (hot p))
      have N11 : News g L1 h10 ((aq, tupOf [.str pq.1 uq, .str pq.2 uq']) :: (as_, Wl (refsOf tlB2.reverse).toArray ea) :: (I, oI) :: (rowAt w rw d (refsOf (tlA ++ tp :: us)) e10 fi tf tk0 ++ tl)) :=
        news_cons (K10 _ (Lar _ hmem)) (news_cons (K10 _ (.head _)) (news_cons (K10 _ (.tail _ (.head _))) (news_app N10 (fun p hp => K10 p (Lar _ hp)))))
      clear N9 F9 K9 K10 N10 o10
      (repeat ((fail_if_success (with_reducible show wpAny _ _ (getMethod _ _ _) _ _ _)); tupd_look))
      (try (focus (exfalso; (first | exact hne (by assumption) | (have hf : (pq.2 == x) = true := by assumption; exact hne (by simpa using hf))))))
      (repeat ((fail_if_success (with_reducible show wpAny _ _ (call _ _ _) _ _ _)); tupd_look))
      rename News _ _ _ _ => N12
      rename Fr _ _ _ _ => F12
      rename_i h12
      revert N12; revert F12
      revert tk; revert h12
      apply frz2; case n => walk_at "FZN"
      intro h12 tk
      clear_value h12 tk
      intro F12 N12
      have hasI : I ≠ as_ := fun e => off8 (as_, _) (.head _) e.symm
      refine led_append F12 N12 (by walk_at "MEM") (by rw [Llm, List.length_reverse]; rw [htl, hsp] at hsz; simp at hsz; omega) ?_
      apply frz1; case n => walk_at "FZN"
      intro h13
      clear_value h13
      intro F13 o13 N13
      have K13 := o13 ((I, oI) :: (rowAt w rw d (refsOf (tlA ++ tp :: us)) e10 fi tf tk0 ++ tl)) (fun p hp => N12 p (.tail _ (.tail _ hp))) (fun p hp hm => by
        have hm' := Lms.mp hm
        rcases Lmc.mp hp with rfl | hp
        · exact hasI hm'
        · rcases Lma.mp hp with hp | hp
          · rcases Lmc.mp hp with rfl | hp
            · exact Nnl hras hm'
            · rw [Lms.mp hp] at hm'; exact Nnl hdas hm'
          · exact Nnl (htas p hp) hm')
      have er2 : refsOf tlB2.reverse ++ [.ref aq] = refsOf (((aq, tupOf [.str pq.1 uq, .str pq.2 uq']) :: tlB2).reverse) := by simp [refsOf]
      rw [er2] at N13
      have N14 : News g L1 h13 ((I, oI) :: (as_, Wl (refsOf (((aq, tupOf [.str pq.1 uq, .str pq.2 uq']) :: tlB2).reverse)).toArray (ea + 1)) :: (rowAt w rw d (refsOf (tlA ++ tp :: us)) e10 fi tf tk0 ++ tl)) :=
        news_cons (K13 _ (.head _)) (news_cons (N13 _ (.head _)) (fun p hp => K13 p (.tail _ hp)))
      clear N12 F12 K13 N13 o13
      repeat ((fail_if_success (with_reducible show LoopEndH _ _ _ _ _ _ _ _ _ _)); tupd_look)
      rename News _ _ _ _ => N15
      rename Fr _ _ _ _ => F15
      refine ⟨_, _, _, _, rfl, F15, N15, ?_, trivial, us, (aq, tupOf [.str pq.1 uq, .str pq.2 uq']) :: tlB2, e10, ea + 1, by rw [hsp]; simp, by rw [hi2]; rfl, rfl, ?_, ?_, ?_⟩
      · intro p hp
        rcases Lmc.mp hp with rfl | hp
        · exact hasI.symm
        · rcases Lma.mp hp with hp | hp
          · rcases Lmc.mp hp with rfl | hp
            · exact off8 (rw, accObj d (refsOf (tlA ++ tp :: (us ++ [(aq, tupOf [.str pq.1 uq, .str pq.2 uq'])]))) e2) (.tail _ (.head _))
            · rw [Lms.mp hp]; exact off8 (d, _) (.tail _ (.tail _ (.head _)))
          · exact off8 p (.tail _ (.tail _ (.tail _ hp)))
      · exact (if_neg (by decide)).trans ((if_neg (by decide)).trans hmr)
      · exact (if_neg (by decide)).trans ((if_neg (by decide)).trans hml)
      · exact (if_neg (by decide)).trans ((if_neg (by decide)).trans hma)
end
end
section
variable {w : World} {j dp un : Nat} {A₀ : Around} {h₀ : Heap} {L fa : Addr} {cd : Value} {m : Str -> Option Value} {s : Shared} {Q : Flow -> Shared -> Prop} {E : Value -> Shared -> Prop} {body : List Stmt} {scope : Scope} {Gs : List (List (Addr × Obj))}
section
theorem rs_Y1 : True := by
  w_top off
  trivial
theorem drawn_ds (cn : List Int) : ∃ ds : List Drw, ds.map drD = drawnD cn 6 ∧ ds.map (·.1) = [97, 98, 99, 100, 101, 102] ∧ ∀ q ∈ ds, (97 ≤ q.1 ∧ q.1 ≤ 102) ∧ q.2.1 < 10 ∧ q.2.2 < 128 := by
  refine ⟨(List.range 6).map fun k => (97 + k, ((grp cn k).fdiv 1000).toNat, (((grp cn k).fmod 1000).fmod 128).toNat), ?_, by simp [List.range, List.range.loop], ?_⟩
  · rw [Lmq]
    unfold drawnD
    refine List.map_congr_left fun k hk => ?_
    have h1 := fmod_bd (((cn.getD ((k : Int).fmod 2).toNat 0).fdiv (10000 ^ ((k : Int).fdiv 2).toNat))) 10000 (by decide)
    have h1' : 0 ≤ grp cn k ∧ grp cn k < 10000 := h1
    have h2 := fmod_bd (grp cn k) 1000 (by decide)
    have h3 := fmod_bd ((grp cn k).fmod 1000) 128 (by decide)
    have h4 : 0 ≤ (grp cn k).fdiv 1000 := by rw [Int.fdiv_eq_ediv_of_nonneg _ (by decide)]; omega
    show [PyData.str ⟨#[97 + k]⟩, PyData.int _, PyData.int _] = _
    rw [Int.toNat_of_nonneg h4, Int.toNat_of_nonneg h3.1]
  · intro q hq
    obtain ⟨k, hk, rfl⟩ := Lmm.mp hq
    have hk6 := List.mem_range.mp hk
    have h1 : 0 ≤ grp cn k ∧ grp cn k < 10000 := fmod_bd _ 10000 (by decide)
    have h3 := fmod_bd ((grp cn k).fmod 1000) 128 (by decide)
    have h4 : 0 ≤ (grp cn k).fdiv 1000 ∧ (grp cn k).fdiv 1000 < 10 := by rw [Int.fdiv_eq_ediv_of_nonneg _ (by decide)]; omega
    dsimp only
    omega
theorem apart_shape {h₀ h : Heap} {L : Addr} {a b : List (Addr × Obj)} (N : News h₀ L h a) (N' : News h₀ L h b) (hs : ∀ p ∈ a, ∀ q ∈ b, p.2 ≠ q.2) : Apart a b := fun p hp q hq e => by
  have h1 := (N p hp).1
  rw [e, (N' q hq).1] at h1
  exact hs p hp q hq (Option.some.inj h1).symm
theorem TupsAre.first {tl : List (Addr × Obj)} {ds : List (List PyData)} (h : TupsAre tl ds) : ∀ p ∈ tl, ∃ vs d, p.2 = tupOf vs ∧ d ∈ ds ∧ FlatAll vs d := by
  induction h with
  | nil => exact fun _ h => nomatch h
  | cons a _ ih =>
    intro p hp
    rcases Lmc.mp hp with rfl | hp
    · exact ⟨_, _, rfl, .head _, a⟩
    · obtain ⟨vs, d, e, h, f⟩ := ih p hp
      exact ⟨vs, d, e, .tail _ h, f⟩
theorem drpc_ne {dl tl : List (Addr × Obj)} {ds : List Drw} {ps : List Piece} (h : TupsAre dl (ds.map drD)) (h' : TupsAre tl (ps.map pcD)) : ∀ p ∈ dl, ∀ q ∈ tl, p.2 ≠ q.2 := fun p hp q hq e => by
  obtain ⟨vs, d, e1, hd, f1⟩ := h.first p hp
  obtain ⟨us, d', e2, hd', f2⟩ := h'.first q hq
  obtain ⟨x, _, rfl⟩ := Lmm.mp hd
  obtain ⟨y, _, rfl⟩ := Lmm.mp hd'
  rw [e1, e2] at e
  have e3 : vs = us := by injection e with _ _ e3; injection e3 with e3; exact List.toArray_inj e3
  subst e3
  cases f1 with
  | cons a _ => cases f2 with
    | cons b _ =>
      obtain ⟨u, rfl⟩ := flat_str a
      obtain ⟨v, hv⟩ := flat_int b
      cases hv
theorem apart_two {h₀ h : Heap} {L D D' : Addr} {tl tl' : List (Addr × Obj)} {ds ds' : List (List PyData)} {vs ws : Array Value} {e e' : Nat} (N : News h₀ L h ((D, Wl vs e) :: tl)) (N' : News h₀ L h ((D', Wl ws e') :: tl')) (hD : D ≠ D') (ht : TupsAre tl ds) (ht' : TupsAre tl' ds') (hne : ∀ p ∈ tl, ∀ q ∈ tl', p.2 ≠ q.2) :
    Apart ((D, Wl vs e) :: tl) ((D', Wl ws e') :: tl') := fun p hp q hq => by
  rcases Lmc.mp hp with rfl | hp
  · rcases Lmc.mp hq with rfl | hq
    · exact hD
    · exact apart_shape (a := [(D, Wl vs e)]) (b := tl') (fun z hz => N z (by rw [Lms.mp hz]; exact .head _)) (fun z hz => N' z (.tail _ hz)) (fun a ha b hb e9 => not_list_tups ht' b hb vs e (by rw [Lms.mp ha] at e9; exact e9.symm)) _ (.head _) q hq
  · rcases Lmc.mp hq with rfl | hq
    · exact apart_shape (a := tl) (b := [(D', Wl ws e')]) (fun z hz => N z (.tail _ hz)) (fun z hz => N' z (by rw [Lms.mp hz]; exact .head _)) (fun a ha b hb e9 => not_list_tups ht a ha ws e' (by rw [Lms.mp hb] at e9; exact e9)) p hp _ (.head _)
    · exact apart_shape (fun z hz => N z (.tail _ hz)) (fun z hz => N' z (.tail _ hz)) hne p hp q hq
theorem apart_tab {h₀ h : Heap} {L : Addr} {a st : List (Addr × Obj)} (N : News h₀ L h a) (N' : News h₀ L h st) (hst : DmpTab st) (hs : ∀ p ∈ a, ∃ vs n, p.2.data = .seq vs n) : Apart a st := apart_shape N N' (fun p hp q hq e => by
  obtain ⟨vs, n, h1⟩ := hs p hp
  obtain ⟨us, h2⟩ := dmp_fields hst q hq
  rw [e, h2] at h1
  cases h1)
section
theorem seg0 (hl : LawDef w body scope) (cx : Cx w 30 dp un A₀ (envOfC (Zs "law") scope L fa cd) [] h₀ h₀ L) (F : Fr h₀ L s.heap m) {l : Addr} {vs : List Value} {ns : List Int} (hm : m (Zs "script") = some (.ref l)) (hls : h₀.IsList l vs.toArray) (hi : IntsAre vs ns)
    {st : List (Addr × Obj)} (Ld : Led h₀ s.heap L (st :: Gs)) (hst : DmpTab st) (hG : ∀ g ∈ Gs, ∀ p ∈ g, ∀ vs n, p.2.data ≠ .seq vs n)
    (hQ : ∀ (ds : List Drw) (fi wi : Nat) (D DA DB : Addr) (dl tl : List (Addr × Obj)) (rv : List Value) (eA eB : Nat) (ps : List Piece) (st' : List (Addr × Obj)) (m' : Str -> Option Value) h' tk t1 t2, ds.map (·.1) = [97, 98, 99, 100, 101, 102] -> (∀ q ∈ ds, (97 ≤ q.1 ∧ q.1 ≤ 102) ∧ q.2.1 < 10 ∧ q.2.2 < 128) -> fi < 10 -> 7 ≤ wi -> wi ≤ 16 ->
      TupsAre dl (ds.map drD) -> TupsAre tl (ps.map pcD) -> ps.Perm (toldOf ds) -> ps.Pairwise (fun q z => plt q z = true) -> FlatAll rv ((refOf ds).map .str) -> DmpTab st' -> Fr h₀ L h' m' ->
      Led h₀ h' L (((D, Wl (refsOf dl).toArray 6) :: dl) :: ((DA, Wl (refsOf tl).toArray eA) :: tl) :: [(DB, Wl rv.toArray eB)] :: st' :: Gs) ->
      m' (Zs "drawn") = some (.ref D) -> m' (Zs "first") = some (.int fi t1) -> m' (Zs "width") = some (.int wi t2) -> m' (Zs "told") = some (.ref DA) -> m' (Zs "refused") = some (.ref DB) ->
      wpAny (model RWQ.row.prog w) (AA dp un (envOfC (Zs "law") scope L fa cd) []) (execs (body.drop 2) (envOfC (Zs "law") scope L fa cd)) Q E { s with heap := h', toks := tk })
    : wpAny (model RWQ.row.prog w) (AA dp un (envOfC (Zs "law") scope L fa cd) []) (execs (body.drop 0) (envOfC (Zs "law") scope L fa cd)) Q E s := by
  revert hl cx F hm hls hi Ld hst hG hQ
  revert w dp un A₀ h₀ L fa cd m s Q E body scope Gs l vs ns st
  apply frz19; case n => walk_at "FZN"
  intro w dp un A₀ h₀ L fa cd m s Q E body scope Gs l vs ns st
  clear_value w dp un A₀ h₀ L fa cd m s Q E body scope Gs l vs ns st
  intro hl cx F hm hls hi Ld hst hG hQ
  revert cx hQ
  apply law_open w body scope _ hl
  intro hl0 cx hQ
  (try dsimp only [Lds, Ldz])
  (try dsimp only [Lds, Ldz] at hQ)
  (try dsimp only)
  (try k_fold)
  have X1 := cx.X
  have B1 := cx.B
  have hf1 := cx.f
  have hke1 := cx.k
  have hdp1 := cx.d
  have hun1 := cx.u
  obtain ⟨p1, loose1, mean1, mg1, mb1, T1⟩ := cx.T
  have N := Ld.flat
  (repeat ((fail_if_success (with_reducible show wpAny _ _ (call _ _ _) _ _ _)); w_once))
  refine c_drawn cx F N hls hi ?_
  intro cn fi0 wi0 D dl x h1 tk1 t1 t2 hcn hf0 hf1 hw0 hw1 hdl F1 N1
  clear N
  obtain ⟨ds, hds, hd1, hd2⟩ := drawn_ds cn
  rw [← hds] at hdl
  obtain ⟨fi, rfl⟩ := Int.eq_ofNat_of_zero_le hf0
  obtain ⟨wi, rfl⟩ := Int.eq_ofNat_of_zero_le (show 0 ≤ wi0 by omega)
  have hlen : ds.length = 6 := by have := congrArg List.length hd1; simpa using this
  (repeat ((fail_if_success (with_reducible show wpAny _ _ (call _ _ _) _ _ _)); w_once))
  rename News _ _ _ _ => N2
  rename Fr _ _ _ _ => F2
  have N3 : News h₀ L _ ((D, Wl (refsOf dl).toArray 6) :: (dl ++ st)) := news_sub N2 (by walk_at "SUB")
  have N4 : ∀ g ∈ st :: Gs, News h₀ L _ g := fun g hg => news_sub N2 (fun p hp => .tail _ (.tail _ (Lar _ (Lmf.mpr ⟨g, hg, hp⟩))))
  have TB : ∃ p loose mean mg mb, Top p loose mean mg mb h₀ := ⟨_, _, _, _, _, T1⟩
  refine c_told cx X1 TB F2 N3 hst hdl hd2 (by rw [hd1]; decide) (by omega) ?_
  intro RT DA DB h5 tk5 st5 tl rv eA eB ps hst5 F5 N5 htl hperm hpw hrv hdis o5 ne5
  have hseqD : ∀ p ∈ (D, Wl (refsOf dl).toArray 6) :: dl, ∃ vs n, p.2.data = .seq vs n := faCons ⟨_, _, rfl⟩ hdl.seq
  have hoff : ∀ g ∈ Gs, ∀ q ∈ g, q.1 ∉ ((D, Wl (refsOf dl).toArray 6) :: (dl ++ st)).map (·.1) := fun g hg q hq hm9 => by
    obtain ⟨p, hp, e⟩ := Lmm.mp hm9
    rw [← Lca] at hp
    rcases Lma.mp hp with hp | hp
    · refine apart_shape (a := (D, Wl (refsOf dl).toArray 6) :: dl) (b := g) (fun z hz => N3 z (by rw [← Lca]; exact Lal _ hz)) (N4 g (.tail _ hg)) (fun a ha b hb e9 => ?_) p hp q hq e
      obtain ⟨vs9, n9, h9⟩ := hseqD a ha
      exact hG g hg b hb vs9 n9 (e9 ▸ h9)
    · exact Ld.off g hg p hp q hq e
  have LdG : Led h₀ h5 L Gs := ⟨fun g hg => o5 g (N4 g (.tail _ hg)) (hoff g hg), Ld.tail.d⟩
  have frG : ∀ r ∈ ((RT, tupOf [.ref DA, .ref DB]) :: (DA, Wl (refsOf tl).toArray eA) :: (DB, Wl rv.toArray eB) :: (tl ++ (D, Wl (refsOf dl).toArray 6) :: (dl ++ st5))), ∀ g ∈ Gs, ∀ q ∈ g, q.1 ≠ r.1 := fun r hr g hg q hq => ne5 g (N4 g (.tail _ hg)) (hoff g hg) q hq r hr
  have N6 := news_app N5 LdG.flat
  have PW : ((((D, Wl (refsOf dl).toArray 6) :: dl) :: ((DA, Wl (refsOf tl).toArray eA) :: tl) :: [(DB, Wl rv.toArray eB)] :: st5 :: Gs)).Pairwise Apart := by
    have sD : ∀ p ∈ (D, Wl (refsOf dl).toArray 6) :: dl, p ∈ ((RT, tupOf [.ref DA, .ref DB]) :: (DA, Wl (refsOf tl).toArray eA) :: (DB, Wl rv.toArray eB) :: (tl ++ (D, Wl (refsOf dl).toArray 6) :: (dl ++ st5))) := by walk_at "SUB"
    have sA : ∀ p ∈ (DA, Wl (refsOf tl).toArray eA) :: tl, p ∈ ((RT, tupOf [.ref DA, .ref DB]) :: (DA, Wl (refsOf tl).toArray eA) :: (DB, Wl rv.toArray eB) :: (tl ++ (D, Wl (refsOf dl).toArray 6) :: (dl ++ st5))) := by walk_at "SUB"
    have sB : ∀ p ∈ [(DB, Wl rv.toArray eB)], p ∈ ((RT, tupOf [.ref DA, .ref DB]) :: (DA, Wl (refsOf tl).toArray eA) :: (DB, Wl rv.toArray eB) :: (tl ++ (D, Wl (refsOf dl).toArray 6) :: (dl ++ st5))) := by walk_at "SUB"
    have sS : ∀ p ∈ st5, p ∈ ((RT, tupOf [.ref DA, .ref DB]) :: (DA, Wl (refsOf tl).toArray eA) :: (DB, Wl rv.toArray eB) :: (tl ++ (D, Wl (refsOf dl).toArray 6) :: (dl ++ st5))) := by walk_at "SUB"
    have fr : ∀ {l : List (Addr × Obj)}, (∀ p ∈ l, p ∈ ((RT, tupOf [.ref DA, .ref DB]) :: (DA, Wl (refsOf tl).toArray eA) :: (DB, Wl rv.toArray eB) :: (tl ++ (D, Wl (refsOf dl).toArray 6) :: (dl ++ st5)))) -> ∀ z ∈ Gs, Apart l z := fun k z hz p hp q hq => Ne.symm (frG p (k p hp) z hz q hq)
    have nD := news_sub N5 sD
    have nA := news_sub N5 sA
    have nB := news_sub N5 sB
    have nS := news_sub N5 sS
    exact List.pairwise_cons.mpr ⟨faCons (apart_two nD nA (Ne.symm hdis.1) hdl htl (fun p hp q hq => drpc_ne hdl htl p hp q hq)) (faCons (apart_two (tl' := []) nD nB (Ne.symm hdis.2.1) hdl (ds' := []) .nil (fun _ _ _ h => nomatch h)) (faCons (apart_tab nD nS hst5 hseqD) (fr sD))),
      List.pairwise_cons.mpr ⟨faCons (apart_two (tl' := []) nA nB hdis.2.2 htl (ds' := []) .nil (fun _ _ _ h => nomatch h)) (faCons (apart_tab nA nS hst5 (faCons ⟨_, _, rfl⟩ htl.seq)) (fr sA)),
      List.pairwise_cons.mpr ⟨faCons (apart_tab nB nS hst5 (faCons ⟨_, _, rfl⟩ faNil)) (fr sB),
      List.pairwise_cons.mpr ⟨fr sS, Ld.tail.d⟩⟩⟩⟩
  clear F2 N2 N3 N4 N5 LdG frG o5 ne5 hoff
  (repeat ((fail_if_success (with_reducible show wpAny _ _ (execs (_ :: _) _) _ _ _)); w_once))
  rename News _ _ _ _ => N9
  rename Fr _ _ _ _ => F9
  refine hQ ds fi wi D DA DB dl tl rv eA eB ps st5 _ _ _ t1 t2 hd1 hd2 (by omega) (by omega) (by omega) hdl htl hperm hpw hrv hst5 F9 (Led.of N9 (by walk_at "SUB") PW) ?m1 ?m2 ?m3 ?m4 ?m5
  case m1 => (repeat (refine (if_neg (by decide)).trans ?_)); exact if_pos rfl
  case m2 => (repeat (refine (if_neg (by decide)).trans ?_)); exact if_pos rfl
  case m3 => (repeat (refine (if_neg (by decide)).trans ?_)); exact if_pos rfl
  case m4 => (repeat (refine (if_neg (by decide)).trans ?_)); exact if_pos rfl
  case m5 => (repeat (refine (if_neg (by decide)).trans ?_)); exact if_pos rfl
end
end
section
theorem rs_Y2 : True := by
  w_top off
  trivial
theorem plt_asymm {a b : Piece} (h : plt a b = true) (h' : plt b a = true) : False := by
  have := plt_trans h h'
  rw [plt_irrefl] at this
  cases this
theorem sorted_unique : ∀ {l l' : List Piece}, l.Perm l' -> l.Pairwise (fun q z => plt q z = true) -> l'.Pairwise (fun q z => plt q z = true) -> l = l'
  | [], l', p, _, _ => (p.symm.eq_nil).symm
  | a :: l, [], p, _, _ => absurd p.eq_nil (by walk_at "SI")
  | a :: l, b :: l', p, h, h' => by
    obtain ⟨h1, h2⟩ := List.pairwise_cons.mp h
    obtain ⟨h3, h4⟩ := List.pairwise_cons.mp h'
    have e : a = b := by
      have ha : a ∈ b :: l' := p.mem_iff.mp (.head _)
      have hb : b ∈ a :: l := p.mem_iff.mpr (.head _)
      rcases Lmc.mp ha with e | ha
      · exact e
      · rcases Lmc.mp hb with e | hb
        · exact e.symm
        · exact (plt_asymm (h1 b hb) (h3 a ha)).elim
    subst e
    rw [sorted_unique (List.Perm.cons_inv p) h2 h4]
theorem toldOf_fm (ds : List Drw) : toldOf ds = ds.filterMap fun q => if q.2.1 < 8 then some (pieceOf q) else none := by
  induction ds with
  | nil => rfl
  | cons q ds ih =>
    unfold toldOf at ih ⊢
    rw [List.filterMap_cons, List.filter_cons]
    by_cases h : q.2.1 < 8
    · simp [h, ih]
    · simp [h, ih]
theorem told_x {ds : List Drw} (h : ds.map (·.1) = [97, 98, 99, 100, 101, 102]) : ((toldOf ds).map (·.x)).Nodup := by
  have e9 : (toldOf ds).map (·.x) = (ds.filter fun q => decide (q.2.1 < 8)).map (·.1) := by simp [toldOf, pieceOf, Function.comp_def]
  rw [e9]
  exact List.Nodup.sublist ((List.filter_sublist).map _) (by rw [h]; decide)
theorem told_len {ds : List Drw} (h : ds.map (·.1) = [97, 98, 99, 100, 101, 102]) : (toldOf ds).length ≤ 6 := by
  have h6 : ds.length = 6 := by have := congrArg List.length h; simpa using this
  unfold toldOf; rw [Llm]; exact Nlt (List.length_filter_le _ _) (Nle h6)
theorem piece_ok {ds : List Drw} {ps : List Piece} (hb : ∀ q ∈ ds, (97 ≤ q.1 ∧ q.1 ≤ 102) ∧ q.2.1 < 10 ∧ q.2.2 < 128) (hp : ps.Perm (toldOf ds)) : ∀ q ∈ ps, (97 ≤ q.x ∧ q.x ≤ 102) ∧ 3 ≤ q.b ∧ q.b ≤ 17 ∧ 1 ≤ q.p ∧ q.p ≤ 9 := fun q hq => by
  have h1 := hp.mem_iff.mp hq
  obtain ⟨z, hz, rfl⟩ := Lmm.mp h1
  have := hb z (List.mem_filter.mp hz).1
  dsimp only [pieceOf]
  omega
theorem pieces_item {ps : List Piece} (hb : ∀ q ∈ ps, (97 ≤ q.x ∧ q.x ≤ 102) ∧ 3 ≤ q.b ∧ q.b ≤ 17 ∧ 1 ≤ q.p ∧ q.p ≤ 9) : ∀ x ∈ (ps.map pcD).map PyData.tuple, ItemOk x := fun x hx => by
  obtain ⟨d, hd, rfl⟩ := Lmm.mp hx
  obtain ⟨q, hq, rfl⟩ := Lmm.mp hd
  have := hb q hq
  refine itemOk_tup fun y hy => ?_
  simp only [pcD, Lmc, Lnm, or_false] at hy
  rcases hy with rfl | rfl | rfl
  · exact ⟨rfl, by simp [PyData.depth], by simp [PyData.eqv]⟩
  · exact ⟨letter_strOk _ this.1.2, by simp [PyData.depth], by simp [PyData.eqv]⟩
  · exact ⟨rfl, by simp [PyData.depth], by simp [PyData.eqv]⟩
section
theorem seg2 (hl : LawDef w body scope) (cx : Cx w 30 dp un A₀ (envOfC (Zs "law") scope L fa cd) [] h₀ h₀ L) (F : Fr h₀ L s.heap m)
    {ds : List Drw} {D DA : Addr} {dl tl : List (Addr × Obj)} {eA : Nat} {ps : List Piece} (hd1 : ds.map (·.1) = [97, 98, 99, 100, 101, 102]) (hd2 : ∀ q ∈ ds, (97 ≤ q.1 ∧ q.1 ≤ 102) ∧ q.2.1 < 10 ∧ q.2.2 < 128)
    (hdl : TupsAre dl (ds.map drD)) (htl : TupsAre tl (ps.map pcD)) (hperm : ps.Perm (toldOf ds)) (hpw : ps.Pairwise (fun q z => plt q z = true))
    (Ld : Led h₀ s.heap L (((D, Wl (refsOf dl).toArray 6) :: dl) :: ((DA, Wl (refsOf tl).toArray eA) :: tl) :: Gs))
    (hm1 : m (Zs "drawn") = some (.ref D)) (hm2 : m (Zs "told") = some (.ref DA))
    (hQ : ∀ h' tk, Fr h₀ L h' m -> Led h₀ h' L (((D, Wl (refsOf dl).toArray 6) :: dl) :: ((DA, Wl (refsOf tl).toArray eA) :: tl) :: Gs) -> wpAny (model RWQ.row.prog w) (AA dp un (envOfC (Zs "law") scope L fa cd) []) (execs (body.drop 3) (envOfC (Zs "law") scope L fa cd)) Q E { s with heap := h', toks := tk })
    : wpAny (model RWQ.row.prog w) (AA dp un (envOfC (Zs "law") scope L fa cd) []) (execs (body.drop 2) (envOfC (Zs "law") scope L fa cd)) Q E s := by
  revert hl cx F hd1 hd2 hdl htl hperm hpw Ld hm1 hm2 hQ
  revert w dp un A₀ h₀ L fa cd m s Q E body scope Gs ds D DA dl tl eA ps
  apply frz22; case n => walk_at "FZN"
  intro w dp un A₀ h₀ L fa cd m s Q E body scope Gs ds D DA dl tl eA ps
  clear_value w dp un A₀ h₀ L fa cd m s Q E body scope Gs ds D DA dl tl eA ps
  intro hl cx F hd1 hd2 hdl htl hperm hpw Ld hm1 hm2 hQ
  revert cx hQ
  apply law_open w body scope _ hl
  intro hl0 cx hQ
  (try dsimp only [Lds, Ldz])
  (try dsimp only [Lds, Ldz] at hQ)
  (try dsimp only)
  (try k_fold)
  have X1 := cx.X
  have B1 := cx.B
  have hf1 := cx.f
  have hke1 := cx.k
  have hdp1 := cx.d
  have hun1 := cx.u
  obtain ⟨p1, loose1, mean1, mg1, mb1, T1⟩ := cx.T
  have N := Ld.flat
  dsimp only [Lfc, Lca] at N
  have hlen : ds.length = 6 := by have := congrArg List.length hd1; simpa using this
  (repeat ((fail_if_success (with_reducible show wpAny _ _ (eval (Expr.ListComp _ _ _ _) _) _ _ _)); w_once))
  rename Fr _ _ _ _ => F2
  rename News _ _ _ _ => N2
  refine comp_gen drD (fun q => if q.2.1 < 8 then some (pieceOf q) else none) (relT pcD) ds (ns := [(Zs "letter", _), (Zs "kind", _), (Zs "port", _)]) (src := dl) (n0 := 6) F2 N2 (.head _) rfl hdl (by first | walk_at "SUB" | (intro p hp; simp [hp])) (by rw [hdl.length, Llm]; omega) rfl (by with_unfolding_all rfl) (by decide) (by rfl) (by decide) rfl (by decide) (fun x _ => rfl) ?hit ?hpy ⟨rfl, .nil⟩ ?turn ?fin (fun _ => rfl)
  case hit =>
    intro Q' q
    w_once
    exact q
  case hpy =>
    intro Q' q
    exact wpAny_pyIter_list (is_of N2 (.head _)) (by simpa using q)
  case turn =>
    intro x hx T vs hT hf ys out yl hrel hfr s₁ hs1 hs2 hs3 I oI C oC D9 mC h9 tk9 E' hC F3 N3 off ne
    obtain ⟨u1, u2, u3, rfl, f1, f2, f3⟩ := flat3 hf
    obtain ⟨ta, rfl⟩ := flat_str f1
    obtain ⟨tb, rfl⟩ := flat_int f2
    obtain ⟨tc, rfl⟩ := flat_int f3
    obtain ⟨mC2, hC2, hv1, hv2, hv3⟩ : ∃ mC2 : Str -> Option Value, LCg.NsObj oC mC2 ∧ mC2 (Zs "letter") = some (.str ⟨#[x.1]⟩ ta) ∧ mC2 (Zs "kind") = some (.int x.2.1 tb) ∧ mC2 (Zs "port") = some (.int x.2.2 tc) := ⟨_, hC, upd3a (by decide) (by decide), upd3b (by decide), upd3c⟩
    clear hC N2 F2 hf f1 f2 f3
    refine wpAny_tests_one ?_
    repeat (w_once)
    · rename News _ _ _ _ => N13
      rename Fr _ _ _ _ => F13
      rename (@LT.lt Nat _ _ _ ∧ _) => l13
      have hlt : (x.2.1 : Int) < 8 := by assumption
      refine ce_newT (o := pieceOf x) hC2 F13 N13 (fun p hp => mem_lt_of_allLt (l := (I, oI) :: (C, oC) :: (D9, LCg.lst ys) :: (yl ++ _)) l13 p hp) off hrel ?_ (if_pos (by omega)) hfr ⟨_, 6, .head _, rfl⟩
      refine .cons ?_ (.cons (fun _ => .str _ _) (.cons ?_ .nil))
      · have e91 : ((x.2.2 : Nat) : Int).fdiv 9 + 3 = ((x.2.2 / 9 + 3 : Nat) : Int) := by rw [fdiv9]; omega
        rw [e91]; exact fun _ => .int _ _
      · have e92 : ((x.2.2 : Nat) : Int).fmod 9 + 1 = ((x.2.2 % 9 + 1 : Nat) : Int) := by rw [fmod9]; omega
        rw [e92]; exact fun _ => .int _ _
    · rename News _ _ _ _ => N13
      rename Fr _ _ _ _ => F13
      have hlt : ¬ (x.2.1 : Int) < 8 := by assumption
      exact ce_skip hC2 F13 N13 off (if_neg (by omega)) ⟨_, 6, .head _, rfl⟩
  case fin =>
    intro ys yl D9 h9 tk9 hrel hfr F3 N3 off
    obtain ⟨rfl, hyl⟩ := hrel
    rw [← toldOf_fm] at hyl
    clear N2 F2
    (repeat ((fail_if_success (with_reducible show wpAny _ _ (call _ _ _) _ _ _)); w_once))
    refine c_sorted F3 N3 (is_of N3 (.head _)) hyl (by first | walk_at "SUB" | (intro p hp; simp [hp])) (told_x hd1) (told_len hd1) ?_
    intro D10 e10 h10 tl10 ps10 F4 N4 lt4 htl10 hsub10 hperm10 hpw10
    have hps : ps10 = ps := sorted_unique (hperm10.trans hperm.symm) hpw10 hpw
    subst hps
    clear N3 F3
    (repeat ((fail_if_success (with_reducible show wpAny _ _ (compareOp .NotEq _ _) _ _ _)); w_once))
    rename News _ _ _ _ => N5
    rename Fr _ _ _ _ => F5
    obtain ⟨as1, r1⟩ := htl.reads (hp := _) (fun p hp => (N5 p (by first | f_congr_eq | simp [hp])).1)
    obtain ⟨as2, r2⟩ := htl10.reads (hp := _) (fun p hp => (N5 p (by have := hsub10 p hp; simp [this])).1)
    refine ne_same (reads_list_at (N5 (DA, Wl (refsOf tl).toArray eA) (by walk_at "SI")).1 rfl rfl r1) (reads_list_at (N5 (D10, Wl (refsOf tl10).toArray e10) (by walk_at "SI")).1 rfl rfl r2) (pieces_item (piece_ok hd2 hperm)) (by have := cLine_is; show un + 64 < cLine; omega) ?_
    (repeat ((fail_if_success (with_reducible show wpAny _ _ (execs (_ :: _) _) _ _ _)); w_once))
    rename News _ _ _ _ => N9
    rename Fr _ _ _ _ => F9
    refine hQ _ _ F9 (Led.of N9 (by walk_at "SUB") Ld.d)
end
end
section
theorem rs_Y3 : True := by
  w_top off
  trivial
theorem refOf_fm (ds : List Drw) : refOf ds = ds.filterMap fun q => if 7 < q.2.1 then some (refStr q) else none := by
  induction ds with
  | nil => rfl
  | cons q ds ih =>
    unfold refOf at ih ⊢
    rw [List.filterMap_cons, List.filter_cons]
    by_cases h : 7 < q.2.1
    · simp [h, ih]
    · simp [h, ih]
theorem refs_item {ds : List Drw} (hd2 : ∀ q ∈ ds, (97 ≤ q.1 ∧ q.1 ≤ 102) ∧ q.2.1 < 10 ∧ q.2.2 < 128) : ∀ x ∈ (refOf ds).map PyData.str, ItemOk x := fun x hx => by
  obtain ⟨y, hy, rfl⟩ := Lmm.mp hx
  obtain ⟨q, hq, rfl⟩ := Lmm.mp hy
  have := hd2 q (List.mem_filter.mp hq).1
  refine itemOk_str _ ?_
  simp [refStr, PyData.strOk]
  omega
theorem num8 : Zs (toString ((8 : Nat) : Int)) = ⟨#[56]⟩ := by decide +kernel
theorem num9 : Zs (toString ((9 : Nat) : Int)) = ⟨#[57]⟩ := by decide +kernel
theorem ref_str (x : Drw) (h : 7 < x.2.1) (h2 : x.2.1 < 10) : (⟨#[x.1]⟩ : Str) ++ Zs (toString ((x.2.1 : Nat) : Int)) = refStr x := by
  obtain ⟨a, k, p⟩ := x
  dsimp only at h h2 ⊢
  have : k = 8 ∨ k = 9 := by omega
  rcases this with rfl | rfl
  · rw [num8]; rfl
  · rw [num9]; rfl
section
theorem seg3 (hl : LawDef w body scope) (cx : Cx w 30 dp un A₀ (envOfC (Zs "law") scope L fa cd) [] h₀ h₀ L) (F : Fr h₀ L s.heap m)
    {ds : List Drw} {D DB : Addr} {dl : List (Addr × Obj)} {rv : List Value} {eB : Nat} (hd1 : ds.map (·.1) = [97, 98, 99, 100, 101, 102]) (hd2 : ∀ q ∈ ds, (97 ≤ q.1 ∧ q.1 ≤ 102) ∧ q.2.1 < 10 ∧ q.2.2 < 128)
    (hdl : TupsAre dl (ds.map drD)) (hrv : FlatAll rv ((refOf ds).map .str))
    (Ld : Led h₀ s.heap L (((D, Wl (refsOf dl).toArray 6) :: dl) :: [(DB, Wl rv.toArray eB)] :: Gs))
    (hm1 : m (Zs "drawn") = some (.ref D)) (hm2 : m (Zs "refused") = some (.ref DB))
    (hQ : ∀ h' tk, Fr h₀ L h' m -> Led h₀ h' L (((D, Wl (refsOf dl).toArray 6) :: dl) :: [(DB, Wl rv.toArray eB)] :: Gs) -> wpAny (model RWQ.row.prog w) (AA dp un (envOfC (Zs "law") scope L fa cd) []) (execs (body.drop 4) (envOfC (Zs "law") scope L fa cd)) Q E { s with heap := h', toks := tk })
    : wpAny (model RWQ.row.prog w) (AA dp un (envOfC (Zs "law") scope L fa cd) []) (execs (body.drop 3) (envOfC (Zs "law") scope L fa cd)) Q E s := by
  revert hl cx F hd1 hd2 hdl hrv Ld hm1 hm2 hQ
  revert w dp un A₀ h₀ L fa cd m s Q E body scope Gs ds D DB dl rv eB
  apply frz21; case n => walk_at "FZN"
  intro w dp un A₀ h₀ L fa cd m s Q E body scope Gs ds D DB dl rv eB
  clear_value w dp un A₀ h₀ L fa cd m s Q E body scope Gs ds D DB dl rv eB
  intro hl cx F hd1 hd2 hdl hrv Ld hm1 hm2 hQ
  revert cx hQ
  apply law_open w body scope _ hl
  intro hl0 cx hQ
  (try dsimp only [Lds, Ldz])
  (try dsimp only [Lds, Ldz] at hQ)
  (try dsimp only)
  (try k_fold)
  have X1 := cx.X
  have B1 := cx.B
  have hf1 := cx.f
  have hke1 := cx.k
  have hdp1 := cx.d
  have hun1 := cx.u
  obtain ⟨p1, loose1, mean1, mg1, mb1, T1⟩ := cx.T
  have N := Ld.flat
  dsimp only [Lfc, Lca, Lna] at N
  have hlen : ds.length = 6 := by have := congrArg List.length hd1; simpa using this
  (repeat ((fail_if_success (with_reducible show wpAny _ _ (eval (Expr.ListComp _ _ _ _) _) _ _ _)); w_once))
  rename Fr _ _ _ _ => F2
  rename News _ _ _ _ => N2
  refine comp_gen drD (fun q => if 7 < q.2.1 then some (refStr q) else none) (relF PyData.str) ds (ns := [(Zs "letter", _), (Zs "kind", _), (Zs "port", _)]) (src := dl) (n0 := 6) F2 N2 (.head _) rfl hdl (by first | walk_at "SUB" | (intro p hp; simp [hp])) (by rw [hdl.length, Llm]; omega) rfl (by with_unfolding_all rfl) (by decide) (by rfl) (by decide) rfl (by decide) (fun x _ => rfl) ?hit ?hpy ⟨.nil, rfl⟩ ?turn ?fin (fun _ => rfl)
  case hit =>
    intro Q' q
    w_once
    exact q
  case hpy =>
    intro Q' q
    exact wpAny_pyIter_list (is_of N2 (.head _)) (by simpa using q)
  case turn =>
    intro x hx T vs hT hf ys out yl hrel hfr s₁ hs1 hs2 hs3 I oI C oC D9 mC h9 tk9 E' hC F3 N3 off ne
    obtain ⟨u1, u2, u3, rfl, f1, f2, f3⟩ := flat3 hf
    obtain ⟨ta, rfl⟩ := flat_str f1
    obtain ⟨tb, rfl⟩ := flat_int f2
    obtain ⟨tc, rfl⟩ := flat_int f3
    obtain ⟨mC2, hC2, hv1, hv2, hv3⟩ : ∃ mC2 : Str -> Option Value, LCg.NsObj oC mC2 ∧ mC2 (Zs "letter") = some (.str ⟨#[x.1]⟩ ta) ∧ mC2 (Zs "kind") = some (.int x.2.1 tb) ∧ mC2 (Zs "port") = some (.int x.2.2 tc) := ⟨_, hC, upd3a (by decide) (by decide), upd3b (by decide), upd3c⟩
    clear hC N2 F2 hf f1 f2 f3
    have hk10 := (hd2 x hx).2.1
    refine wpAny_tests_one ?_
    repeat (w_once)
    · rename News _ _ _ _ => N13
      rename Fr _ _ _ _ => F13
      have hlt : (x.2.1 : Int) > 7 := by assumption
      refine ce_flat (o := refStr x) hC2 F13 N13 off hrel ?_ (if_pos (by omega)) hfr ⟨_, 6, .head _, rfl⟩
      rw [← ref_str x (by omega) hk10]
      exact fun _ => .str _ _
    · rename News _ _ _ _ => N13
      rename Fr _ _ _ _ => F13
      have hlt : ¬ (x.2.1 : Int) > 7 := by assumption
      exact ce_skip hC2 F13 N13 off (if_neg (by omega)) ⟨_, 6, .head _, rfl⟩
  case fin =>
    intro ys yl D9 h9 tk9 hrel hfr F3 N3 off
    obtain ⟨hys, rfl⟩ := hrel
    rw [← refOf_fm] at hys
    clear N2 F2
    (repeat ((fail_if_success (with_reducible show wpAny _ _ (compareOp .NotEq _ _) _ _ _)); w_once))
    rename News _ _ _ _ => N5
    rename Fr _ _ _ _ => F5
    refine ne_same (reads_list_at (N5 (DB, Wl rv.toArray eB) (by walk_at "SI")).1 rfl rfl (by simpa using hrv.reads _)) (reads_list_at (N5 (D9, LCg.lst ys) (.head _)).1 rfl rfl (by simpa using hys.reads _)) (refs_item hd2) (by have := cLine_is; show un + 64 < cLine; omega) ?_
    (repeat ((fail_if_success (with_reducible show wpAny _ _ (execs (_ :: _) _) _ _ _)); w_once))
    rename News _ _ _ _ => N9
    rename Fr _ _ _ _ => F9
    refine hQ _ _ F9 (Led.of N9 (by walk_at "SUB") Ld.d)
end
end
section
theorem rs_Y4 : True := by
  w_top off
  trivial
section
theorem c_initC (cx : Cx w (j + 1) dp un A₀ env outer base h₀ L) (F : Fr h₀ L s.heap m) {rw d : Addr} {e : Nat} {fi : Int} {tf : Tok} (O : News h₀ L s.heap [(rw, accObj d [] e), (d, dictOf [] 0)]) (hd : rw ≠ d)
    (hQ : ∀ h' tk e' tf tk0, Fr h₀ L h' m -> News h₀ L h' (rowAt w rw d [] e' fi tf tk0) -> Others h₀ L [rw, d] s.heap h' -> R (.ok (.ret .none)) { s with heap := h', toks := tk }) :
    codeAny (model RWQ.row.prog w) (AA dp un env outer) (.call (.ref 115) ⟨[.ref rw, .int fi tf], []⟩) R s := by
  have X := cx.X.keeps F.keep
  refine' enterS cx F O ?k6 ?k7 ?k9 ?kB ?_ ?c5 ?c2 ?c3 ?c4
  case k6 => k_is
  case k7 => k_is
  case k9 => exact binds_K X rfl (by k_is) rfl rfl rfl
  case c5 => decide
  case kB => exact locs rfl
  case c2 => exact rfl
  case c3 => exact rfl
  case c4 => exact rfl
  intro dp' un' outer' A' Q'
  intro g L1 h1 FG hg F1 N1 cx1 l1 LT1
  have X1 := cx1.X
  have B1 := cx1.B
  have hf1 := cx1.f
  have hke1 := cx1.k
  have hdp1 := cx1.d
  have hun1 := cx1.u
  obtain ⟨p1, loose1, mean1, mg1, mb1, T1⟩ := cx1.T
  (try k_lt l1)
  (((try dsimp only); (try k_fold)))
  iterate 5 (w_once)
  refine acc_setattr F1 X1 N1 hd (by k_is) (by k_is) rfl rfl (by k_is) rfl rfl (by show 1 ≤ 1000; decide) ?_
  intro h3 F3 N3 o3
  clear F1 N1
  refine ks_wpAt_execs_cons ?_
  refine ks_wpAt_Expr_any ?_
  refine ks_wpAt_MethodCall ?_
  (repeat ((fail_if_success (with_reducible show wpAny _ _ (getMethod _ _ _) _ _ _)); w_once))
  rename News _ _ _ _ => N4
  rename Fr _ _ _ _ => F4
  refine super_wd (.inr rfl) type_list_init F4 X1 (N4 _ (.head _)).1 (inst_acc N4 (by walk_at "MEM") (by walk_at "MEM")) (by k_is) (by k_is) rfl (by k_is) (by kernel_rfl) (by decide) ?_
  intro q h5 F5 N5 k5
  have N6 := N4.grown fun b o e => (k5 b o e).1
  (repeat ((fail_if_success (with_reducible show wpAny _ _ (callWith _ _ _ _ _) _ _ _)); w_once))
  refine bnd_init F5 (accN N6 (by walk_at "MEM") (by walk_at "MEM")) hd (N5 _ (.head _)).1 ?_
  intro h7 e7 F7 N7 o7
  clear N4 F4 F5 F3
  (repeat ((fail_if_success (with_reducible show LeaveK _ _ _ _ _ _ _)); w_once))
  refine leaveK_ F7 N7 ?_
  intro kF kN
  exact hQ _ _ _ _ _ kF kN (fun n2 N off => off_own N hg off F7)
end
section
theorem seg4 (hl : LawDef w body scope) (cx : Cx w 30 dp un A₀ (envOfC (Zs "law") scope L fa cd) [] h₀ h₀ L) (F : Fr h₀ L s.heap m) (Ld : Led h₀ s.heap L Gs) {fi : Nat} {t1 : Tok} (hm : m (Zs "first") = some (.int fi t1))
    (hQ : ∀ (rw d : Addr) (e : Nat) (tf tk0 : Tok) h' tk, Fr h₀ L h' (fun y => if y = Zs "row" then some (.ref rw) else m y) -> rw ≠ d -> Led h₀ h' L (rowAt w rw d [] e fi tf tk0 :: Gs) -> wpAny (model RWQ.row.prog w) (AA dp un (envOfC (Zs "law") scope L fa cd) []) (execs (body.drop 5) (envOfC (Zs "law") scope L fa cd)) Q E { s with heap := h', toks := tk })
    : wpAny (model RWQ.row.prog w) (AA dp un (envOfC (Zs "law") scope L fa cd) []) (execs (body.drop 4) (envOfC (Zs "law") scope L fa cd)) Q E s := by
  revert cx hQ
  apply law_open w body scope _ hl
  intro hl0 cx hQ
  (try dsimp only [Lds, Ldz])
  (try dsimp only [Lds, Ldz] at hQ)
  (try dsimp only)
  (try k_fold)
  have X1 := cx.X
  have B1 := cx.B
  have hf1 := cx.f
  have hke1 := cx.k
  have hdp1 := cx.d
  have hun1 := cx.u
  obtain ⟨p1, loose1, mean1, mg1, mb1, T1⟩ := cx.T
  have N := Ld.flat
  (repeat ((fail_if_success (with_reducible show wpAny _ _ (call _ _ _) _ _ _)); w_once))
  rename News _ _ _ _ => N2
  rename Fr _ _ _ _ => F2
  refine wpAny_call ?_
  refine make_L F2 N2 (X1.keeps F2.keep) (by kernel_rfl) (by k_is) (by k_is) ?_
  intro rw d h3 F3 N3 lt3 hdx
  rw [under_AA]
  have cx2 : Cx w 20 (dp + 1) (un + 1) A₀ (envOfC (Zs "law") _ L fa cd) [] h₀ h₀ L := ⟨cx.X, cx.T, cx.B, cx.f, cx.k, by have := cx.d; omega, by have := cx.u; omega⟩
  refine c_initC cx2 F3 (rw := rw) (d := d) (e := 0) (fi := fi) (tf := t1) (news_sub N3 (by walk_at "SUB")) (Ne.symm (Nnl hdx)) ?_
  intro h4 tk4 e4 tf4 tk04 F4 N4 o4
  refine ⟨rfl, ?_⟩
  have ltd : ∀ p ∈ Gs.flatten, p.1 ≠ rw ∧ p.1 ≠ d := fun p hp => ⟨Nnl (Nltt (lt3 p hp) hdx), Nnl (lt3 p hp)⟩
  have N5 : News h₀ L h4 (rowAt w rw d [] e4 fi tf4 tk04 ++ Gs.flatten) := news_app N4 (o4 _ (fun p hp => N3 p (.tail _ (.tail _ hp))) (fun p hp hm9 => by
    rcases Lmc.mp hm9 with h | h
    · exact (ltd p hp).1 h
    · exact (ltd p hp).2 (Lms.mp h)))
  clear N2 F2 N3 F3 N4 o4
  dsimp only
  (repeat ((fail_if_success (with_reducible show wpAny _ _ (execs (_ :: _) _) _ _ _)); w_once))
  rename News _ _ _ _ => N9
  rename Fr _ _ _ _ => F9
  refine hQ rw d e4 tf4 tk04 _ _ F9 (Ne.symm (Nnl hdx)) (.cons (fun p hp => N9 p (Lal _ hp)) (fun z hz p hp q hq => ?_) ⟨fun z hz p hp => N9 p (Lar _ (Lmf.mpr ⟨z, hz, hp⟩)), Ld.d⟩)
  have h1 := ltd q (Lmf.mpr ⟨z, hz, hq⟩)
  simp only [Lmc, Lnm, or_false] at hp
  rcases hp with rfl | rfl
  · exact Ne.symm h1.1
  · exact Ne.symm h1.2
end
end
section
theorem rs_Y5 : True := by
  w_top off
  trivial
section
end
section
theorem rec_led {h : Heap} {x d la lb : Addr} {t1 t2 t3 t4 : Tok} {e1 e2 : Nat} (N : News h₀ L h ((lb, Wl #[] e1) :: (la, Wl #[] e2) :: (x, instObj 59 d) :: (d, dictOf [en w "useragents" t1 (.ref la), en w "rulelines" t2 (.ref lb), en w "delay" t3 .none, en w "req_rate" t4 .none] 4) :: Gs.flatten))
    (gd : ∀ p ∈ Gs.flatten, p.1 < d) (dx : d < x) (xb : x < lb) (db : d < lb) (D : Gs.Pairwise Apart) : ∃ p : RecP, p.a = x ∧ p.a ≠ p.d ∧ p.a ≠ p.l2 ∧ p.d ≠ p.l2 ∧ Led h₀ h L (recObjs w p [] :: Gs) := by
  refine ⟨⟨x, d, la, lb, t1, t2, t3, t4, e1, 0⟩, rfl, Nat.ne_of_gt dx, Nnl xb, Nnl db, .cons (fun p hp => N p ?_) (fun z hz p hp q hq => ?_) ⟨fun z hz p hp => N p (.tail _ (.tail _ (.tail _ (.tail _ (Lmf.mpr ⟨z, hz, hp⟩))))), D⟩⟩
  · simp only [recObjs, List.map_nil, Lmc, Lnm, or_false] at hp ⊢
    rcases hp with rfl | rfl | rfl <;> simp
  · have h1 := gd q (Lmf.mpr ⟨z, hz, hq⟩)
    simp only [recObjs, Lmc, Lnm, or_false] at hp
    rcases hp with rfl | rfl | rfl
    · exact Nat.ne_of_gt (Nltt h1 dx)
    · exact Nat.ne_of_gt h1
    · exact Nat.ne_of_gt (Nltt h1 db)
theorem seg5 (hl : LawDef w body scope) (cx : Cx w 30 dp un A₀ (envOfC (Zs "law") scope L fa cd) [] h₀ h₀ L) (F : Fr h₀ L s.heap m) (Ld : Led h₀ s.heap L Gs)
    (hQ : ∀ (p : RecP) h' tk, Fr h₀ L h' (fun y => if y = Zs "record" then some (.ref p.a) else m y) -> p.a ≠ p.d -> p.a ≠ p.l2 -> p.d ≠ p.l2 -> Led h₀ h' L (recObjs w p [] :: Gs) -> wpAny (model RWQ.row.prog w) (AA dp un (envOfC (Zs "law") scope L fa cd) []) (execs (body.drop 6) (envOfC (Zs "law") scope L fa cd)) Q E { s with heap := h', toks := tk })
    : wpAny (model RWQ.row.prog w) (AA dp un (envOfC (Zs "law") scope L fa cd) []) (execs (body.drop 5) (envOfC (Zs "law") scope L fa cd)) Q E s := by
  revert hl cx F Ld hQ
  revert w dp un A₀ h₀ L fa cd m s Q E body scope Gs
  apply frz15; case n => walk_at "FZN"
  intro w dp un A₀ h₀ L fa cd m s Q E body scope Gs
  clear_value w dp un A₀ h₀ L fa cd m s Q E body scope Gs
  intro hl cx F Ld hQ
  revert cx hQ
  apply law_open w body scope _ hl
  intro hl0 cx hQ
  (try dsimp only [Lds, Ldz])
  (try dsimp only [Lds, Ldz] at hQ)
  (try dsimp only)
  (try k_fold)
  have X1 := cx.X
  have B1 := cx.B
  have hf1 := cx.f
  have hke1 := cx.k
  have hdp1 := cx.d
  have hun1 := cx.u
  obtain ⟨p1, loose1, mean1, mg1, mb1, T1⟩ := cx.T
  have N := Ld.flat
  w_once
  (repeat ((fail_if_success (with_reducible show wpAny _ _ (execs (_ :: _) _) _ _ _)); w_once))
  w_once
  w_once
  (repeat ((fail_if_success (with_reducible show wpAny _ _ (storeName _ _ _) _ _ _)); w_once))
  rename (_ < _ ∧ _ < _ ∧ _ < _ ∧ AllLt _ _) => gb
  rename (_ < _ ∧ _ < _ ∧ AllLt _ _) => ga
  rename (_ < _) => dx
  rename (∀ p, p ∈ Gs.flatten -> _ < _) => gd
  obtain ⟨ga1, ga2, ga3⟩ := ga
  obtain ⟨gb1, gb2, gb3, gb4⟩ := gb
  (repeat ((fail_if_success (with_reducible show wpAny _ _ (execs (_ :: _) _) _ _ _)); w_once))
  rename News _ _ _ _ => N9
  rename Fr _ _ _ _ => F9
  obtain ⟨p, hp, hp1, hp2, hp3, LD⟩ := rec_led N9 gd dx gb2 gb3 Ld.d
  exact hQ p _ _ (hp ▸ F9) hp1 hp2 hp3 LD
end
end
section
open PySem PySem.W PySem.Calls PyProof.Rows PyProof.V PySem.Spec PyProof.Rows.LCg
theorem mem_some {α : Type} {v : α} {P : α -> Prop} (h : P v) : ∀ z ∈ some v, P z := by
  intro z hz; cases hz; exact h
noncomputable def forBody : Stmt -> List Stmt
  | .For _ _ b _ _ => b
  | _ => []
section
variable {prog : Program} {w : World} {A : Around} {E : Value -> Shared -> Prop} {s : Shared} {h₀ : Heap} {L : Addr} {m : Str -> Option Value} {news : List (Addr × Obj)}
theorem led_extend {D b : Addr} {vs ws : List Value} {e e2 : Nat} {Q : Value -> Shared -> Prop} (F : Fr h₀ L s.heap m) (N : News h₀ L s.heap news) (hm : (D, Wl vs.toArray e) ∈ news) (hb : (b, Wl ws.toArray e2) ∈ news) (hne : ws.length ≠ 0) (hsz : vs.length + ws.length ≤ 10000)
    (h : ∀ h', Fr h₀ L h' m -> Others h₀ L [D] s.heap h' -> News h₀ L h' [(D, Wl (vs ++ ws).toArray (e + 1))] -> Q .none { s with heap := h' }) :
    wpAny (model prog w) A (call (.builtin "list.extend") [.ref D, .ref b]) Q E s := by
  have z := N _ hm
  have hs : Heap.SameBut D s.heap (s.heap.update D (Obj.mapSeq fun x => x ++ ws.toArray)) := Heap.SameBut.update ..
  refine call_meets PySem.F.slot_list_extend ⟨_, z.1, rfl⟩ PySem.F.entry_list_extend (PySem.F.args_list_extend_2 _ _) (PySem.AutoSeq1.list_extend_list_list_0 D vs.toArray e b ws.toArray e2 ?_ (by rw [sizeLine_eq, Lst]; omega) (by rw [sizeLine_eq, Lst, Lst]; omega))
    ⟨z.1, (N _ hb).1, h _ (F.change hs z.2.1 z.2.2) (fun n2 N2 off p hp => ⟨hs.extBut _ _ (fun e => off p hp (by rw [e]; exact .head _)) (N2 p hp).1, (N2 p hp).2⟩) ?_⟩
  · rw [Lst, Lst]
    simp only [Builtin.List.listTooLong, sizeLine_eq, Bool.and_eq_true, decide_eq_true_eq, not_and]
    intro _; omega
  · have N1 : News h₀ L s.heap ([] ++ (D, Wl vs.toArray e) :: []) := fun p hp => by rw [Lms.mp hp]; exact z
    refine kl_turn (fun x => x ++ ws.toArray) N1 (fun _ h => nomatch h) (fun _ h => nomatch h) ?_ ?_
    · apply Array.toList_inj.mp; simp
    · simpa using hne
theorem led_cellG {env : Env} {name : Str} {c : Addr} {o : Obj} {v₀ : Option Value} {v : Value} {Gs : List (List (Addr × Obj))} {Q : Unit -> Shared -> Prop} (hk : env.scope.kind = .function) (hl : env.kindOf name = some .cell) (hc : env.cells.lookup name = some c)
    (F : Fr h₀ L s.heap m) (D : Led h₀ s.heap L ([(c, o)] :: Gs)) (hd : o.data = .cell v₀)
    (h : ∀ h' o', Fr h₀ L h' m -> Led h₀ h' L ([(c, o')] :: Gs) -> o'.data = .cell (some v) -> Q () { s with heap := h' }) : wpAny (model prog w) A (storeName env name v) Q E s :=
  led_cell hk hl hc F D.head (.head _) hd fun h' o' F' o1 N' hd' => h h' o' F' (D.same o1 N' fun p hp => by rw [Lms.mp hp]; exact .head _) hd'
end
theorem keep_all {h₀ h h' : Heap} {L : Addr} {st st' Y Z : List (Addr × Obj)} (N : News h₀ L h Y) (hst : ∀ p ∈ st, p ∈ Y) (hZ : ∀ p ∈ Z, p ∈ Y) (o : Others h₀ L (st.map (·.1)) h h') (N' : News h₀ L h' st') (c : st.length = 2 -> st' = st)
    (hz : st.length = 2 ∨ ∀ z ∈ Z, z.1 ∉ st.map (·.1)) : News h₀ L h' Z := by
  rcases hz with h2 | hz
  · rw [c h2] at N'
    intro p hp
    by_cases hm : p.1 ∈ st.map (·.1)
    · obtain ⟨q, hq, e⟩ := Lmm.mp hm
      have h1 := (N p (hZ p hp)).1
      have h3 := (N q (hst q hq)).1
      have e2 : q.1 = p.1 := e
      rw [e2, h1] at h3
      have : q = p := Prod.ext e2 (Option.some.inj h3).symm
      exact this ▸ N' q hq
    · exact o [p] (fun x hx => by rw [Lms.mp hx]; exact N p (hZ p hp)) (fun x hx => by rw [Lms.mp hx]; exact hm) p (.head _)
  · exact o Z (fun p hp => N p (hZ p hp)) hz
noncomputable def tri3 (x : Nat) (n : Int) : List (Str × Int × Str) := [(⟨#[x]⟩, n, Zs ""), (⟨#[x]⟩, n, ⟨#[x]⟩), (⟨#[x]⟩, n, Zs "")]
noncomputable def RuleQ.key (q : RuleQ) : Str × Int × Str := (q.x, q.n, q.v)
noncomputable abbrev ruleRefs (qs : List RuleQ) : List Value := qs.map fun q => .ref q.p.a
inductive JR (w : World) (x : Nat) (n : Int) (qs : List RuleQ) (X : List (Addr × Obj)) (r ys : List Value) (news : List (Addr × Obj)) : Prop
  | mk : ∀ (vr : List (Str × Tok)) (new : List RuleQ) (st : List (Addr × Obj)), (r = vr.map (fun z => Value.str z.1 z.2)) -> ((∀ z ∈ vr, z.1.length ≤ 10)) -> (ys = ruleRefs new) -> (new.map RuleQ.key ++ vr.map (fun z => ((⟨#[x]⟩ : Str), n, z.1)) = tri3 x n) -> ((∀ q ∈ new, RuleOk q.p q.x q.n)) -> (NestTab 249 214 22 qLam st) -> ((st.length = 2 ∨ (qs = [] ∧ new = []))) -> ((∀ y ∈ rulesObjs w new ++ st, ∀ z ∈ X, y.1 ≠ z.1)) -> (news = X ++ (rulesObjs w (qs ++ new) ++ st)) -> JR w x n qs X r ys news
end
section
theorem rs_Y9 : True := by
  w_top off
  trivial
section
end
section
noncomputable def LetGo (qs : List RuleQ) (b : Nat) (pcs pcs' : List (Str × Str)) : Prop := (¬ b < totLen pcs ∧ pcs' = pcs) ∨ (b < totLen pcs ∧ ∃ A B bl x, pcs = A ++ (bl, x) :: B ∧ (∀ q ∈ B, q.2 ≠ x) ∧ ((qs.map (RuleQ.tell (some (Txt.upper (rowText pcs) ++ Zs "*/abcdef")))).foldl alStep (-1, none)).2 = some x ∧ pcs' = A ++ B)
theorem in1_AA (env : Env) (outer : List Env) : (AA dp un env outer).in1 = AA dp (un + 1) env outer := rfl
theorem TupsAre.split : ∀ (X : List (List PyData)) {tl : List (Addr × Obj)} {Y : List (List PyData)}, TupsAre tl (X ++ Y) -> ∃ a b, tl = a ++ b ∧ TupsAre a X ∧ TupsAre b Y
  | [], tl, Y, h => ⟨[], tl, rfl, .nil, h⟩
  | x :: X, tl, Y, h => by
    cases h with
    | cons hf hr =>
      obtain ⟨a, b, rfl, ha, hb⟩ := TupsAre.split X hr
      exact ⟨_ :: a, b, rfl, .cons hf ha, hb⟩
theorem Led.front2 {h : Heap} {g1 g2 : List (Addr × Obj)} (D : Led h₀ h L (g1 :: g2 :: Gs)) : Led h₀ h L (g2 :: g1 :: Gs) := D.perm (.swap ..)
theorem row_len {env : Env} {base : Heap} {q : Value -> Shared -> Prop} (cx : Cx w 30 dp un A₀ env [] base h₀ L) (F : Fr h₀ L s.heap m) {rw d : Addr} {rl : List (Addr × Obj)} {pcs : List (Str × Str)} {e fi : Nat} {tf tk0 : Tok} {op : Obj} (Ld : Led h₀ s.heap L ((rowAt w rw d (refsOf rl) e fi tf tk0 ++ rl) :: [(140, op)] :: Gs))
    (hrl : TupsAre rl (pcs.map pieceD)) (htab : TabOk op) (G : AllBare s.gens) (hfi : fi < 10) (hsz : pcs.length ≤ 10) (hpc : ∀ q ∈ pcs, q.1.length ≤ 100 ∧ q.2.length ≤ 100) (htot : totLen pcs ≤ 10000)
    (hQ : ∀ s' t op', Fr h₀ L s'.heap m -> TabOk op' -> AllBare s'.gens -> s'.os = s.os -> Led h₀ s'.heap L ((rowAt w rw d (refsOf rl) e fi tf tk0 ++ rl) :: [(140, op')] :: Gs) -> q (.int ((fi + totLen pcs : Nat) : Int) t) s') :
    wpAny (model RWQ.row.prog w) (AA dp un env []) (call (.builtin "len") [.ref rw]) q E s := by
  have LM := Ld.merge
  refine len_K F cx.X (inst_acc LM.head (.head _) (.tail _ (.head _))) (by k_is) (by k_is) ?_
  rw [in1_AA]
  have cx2 : Cx w 20 dp (un + 1) A₀ env [] base h₀ L := ⟨cx.X, cx.T, cx.B, cx.f, cx.k, by have := cx.d; omega, by have := cx.u; omega⟩
  refine c_len cx2 F (tl := rl) (pcs := pcs) (fi := fi) (e := e) (tf := tf) (tk0 := tk0) (op := op) (news_sub LM.head (fun z hz => by simpa [rowFull, Laa] using hz)) hrl htab G ⟨by omega, by omega⟩ (by omega) (fun z hz => ⟨by have := (hpc z hz).1; omega, by have := (hpc z hz).2; omega⟩) ?_
  intro s' t op' F' N' tab' G' os' dr' o'
  have e1 : ((fi : Int) + (totLen pcs : Nat)) = ((fi + totLen pcs : Nat) : Int) := by omega
  rw [e1]
  refine ⟨⟨by omega, by omega⟩, ?_⟩
  have LN : Led h₀ s'.heap L (((rowAt w rw d (refsOf rl) e fi tf tk0 ++ rl) ++ [(140, op')]) :: Gs) := LM.same (fun n2 N2 off => o' n2 N2 fun z hz hm => off z hz (by simpa [rowFull] using hm)) (fun z hz => N' z (by simpa [rowFull, Laa] using hz)) (fun z hz => by
    simp only [Lmp, Lpc, List.map_nil, Lma, Lmc, Lnm, or_false] at hz ⊢
    rcases hz with (h | h) | h
    · rcases h with h | h <;> simp [h]
    · exact .inl (.inr (Lmm.mpr ⟨z, h, rfl⟩))
    · simp [h])
  refine hQ { s' with toks := s'.toks + 1 } _ op' F' tab' G' os' (LN.split fun y hy z hz => ?_)
  rw [Lms.mp hz]
  exact Ld.off _ (.head _) y hy (140, op) (.head _)
theorem row_str {env : Env} {base : Heap} {q : Value -> Shared -> Prop} (cx : Cx w 30 dp un A₀ env [] base h₀ L) (F : Fr h₀ L s.heap m) {rw d : Addr} {rl : List (Addr × Obj)} {pcs : List (Str × Str)} {e fi : Nat} {tf tk0 : Tok} {op : Obj} (Ld : Led h₀ s.heap L ((rowAt w rw d (refsOf rl) e fi tf tk0 ++ rl) :: [(147, op)] :: Gs))
    (hrl : TupsAre rl (pcs.map pieceD)) (htab : TabOk op) (G : AllBare s.gens) (hsz : pcs.length ≤ 10) (hpc : ∀ q ∈ pcs, q.1.length ≤ 100 ∧ q.2.length ≤ 100)
    (hQ : ∀ s' t op', Fr h₀ L s'.heap m -> TabOk op' -> AllBare s'.gens -> s'.os = s.os -> Led h₀ s'.heap L ((rowAt w rw d (refsOf rl) e fi tf tk0 ++ rl) :: [(147, op')] :: Gs) -> q (.str (rowText pcs) t) s') :
    wpAny (model RWQ.row.prog w) (AA dp un env []) (call (.type "str") [.ref rw]) q E s := by
  have LM := Ld.merge
  refine kso_call (by have h1 := cx.u; have := cLine_is; show un + 1 + 1 < cLine; omega) (cx.X.keeps F.keep) (inst_acc LM.head (.head _) (.tail _ (.head _))) (by k_is) (by k_is) ?_
  show wpAny _ (AA dp (un + 1 + 1) env []) _ _ _ _
  have cx2 : Cx w 20 dp (un + 1 + 1) A₀ env [] base h₀ L := ⟨cx.X, cx.T, cx.B, cx.f, cx.k, by have := cx.d; omega, by have := cx.u; omega⟩
  refine c_str cx2 F (tl := rl) (pcs := pcs) (fi := fi) (e := e) (tf := tf) (tk0 := tk0) (op := op) (news_sub LM.head (fun z hz => by simpa [rowFull, Laa] using hz)) hrl htab G (by omega) (fun z hz => ⟨by have := (hpc z hz).1; omega, by have := (hpc z hz).2; omega⟩) ?_
  intro s' t op' F' N' tab' G' os' o'
  have LN : Led h₀ s'.heap L (((rowAt w rw d (refsOf rl) e fi tf tk0 ++ rl) ++ [(147, op')]) :: Gs) := LM.same (fun n2 N2 off => o' n2 N2 fun z hz hm => off z hz (by simpa [rowFull] using hm)) (fun z hz => N' z (by simpa [rowFull, Laa] using hz)) (fun z hz => by
    simp only [Lmp, Lpc, List.map_nil, Lma, Lmc, Lnm, or_false] at hz ⊢
    rcases hz with (h | h) | h
    · rcases h with h | h <;> simp [h]
    · exact .inl (.inr (Lmm.mpr ⟨z, h, rfl⟩))
    · simp [h])
  refine hQ s' _ op' F' tab' G' os' (LN.split fun y hy z hz => ?_)
  rw [Lms.mp hz]
  exact Ld.off _ (.head _) y hy (147, op) (.head _)
theorem tups_three {rl : List (Addr × Obj)} {A B : List (Str × Str)} {z : Str × Str} (h : TupsAre rl ((A ++ z :: B).map pieceD)) : ∃ tlA tp tlB, rl = tlA ++ tp :: tlB ∧ TupsAre tlA (A.map pieceD) ∧ TupsAre [tp] [pieceD z] ∧ TupsAre tlB (B.map pieceD) := by
  rw [Lmp] at h
  obtain ⟨tlA, tl2, rfl, hA', h2⟩ := TupsAre.split _ h
  cases h2 with
  | cons hf hr => exact ⟨tlA, _, _, rfl, hA', .cons hf .nil, hr⟩
theorem row_letgo {env : Env} {base : Heap} {q : Value -> Shared -> Prop} (cx : Cx w 30 dp un A₀ env [] base h₀ L) (F : Fr h₀ L s.heap m) {rw d : Addr} {rl : List (Addr × Obj)} {A B : List (Str × Str)} {bl x : Str} {e fi : Nat} {tf tk0 : Tok} (Ld : Led h₀ s.heap L ((rowAt w rw d (refsOf rl) e fi tf tk0 ++ rl) :: Gs))
    (hrl : TupsAre rl ((A ++ (bl, x) :: B).map pieceD)) (hB : ∀ q ∈ B, q.2 ≠ x) (hrd : rw ≠ d) (hsz : rl.length ≤ 100) (hoff : ∀ z ∈ rl, z.1 ≠ rw ∧ z.1 ≠ d) (tx : Tok)
    (hQ : ∀ h' tk tl' e', Fr h₀ L h' m -> TupsAre tl' ((A ++ B).map pieceD) -> (∀ z ∈ tl', z.1 ≠ rw ∧ z.1 ≠ d) -> Led h₀ h' L ((rowAt w rw d (refsOf tl') e' fi tf tk0 ++ tl') :: Gs) -> q .none { s with heap := h', toks := tk }) :
    wpAny (model RWQ.row.prog w) (AA dp un env []) (call (.ref 261) [.ref rw, .str x tx] []) q E s := by
  obtain ⟨tlA, tp, tlB, rfl, hA', hp', hB'⟩ := tups_three hrl
  refine c_letgo cx F (tlA := tlA) (tlB := tlB) (tp := tp) A B bl x hB (e := e) (fi := fi) (tf := tf) (tk0 := tk0) tx Ld.head hA' hp' hB' hrd hsz hoff ?_
  intro h8 tk8 tl' e8 F8 N8 ht8 off8 o8 fr8
  refine hQ h8 tk8 tl' e8 F8 ht8 off8 (Ld.step (fun n2 N off => o8 n2 N fun q hq hm => off q hq (by
      rcases Lmc.mp hm with h | h
      · simp [h]
      · simp [Lms.mp h])) N8 (fun n2 N off q hq r hr => by
      rcases Lma.mp hr with hr | hr
      · intro e9
        refine off q hq ?_
        simp only [Lmc, Lnm, or_false] at hr
        rcases hr with rfl | rfl
        · simp [e9]
        · simp [e9]
      · exact fr8 n2 N off q hq r hr))
end
end
section
theorem rs_YD : True := by
  w_top off
  trivial
section
end
section
noncomputable def shlN (N k : Nat) : Nat := N * 2 ^ k
noncomputable def Small (N : Nat) : Prop := N < 2 ^ 600
noncomputable def Big (N : Nat) : Prop := N < 2 ^ 900
theorem shl_step {A : Around} {N k : Nat} {a n : Int} {t u : Tok} {q : Value -> Shared -> Prop} (ha : a = (N : Int)) (hn : n = (k : Int)) (hN : Big N) (hk : k ≤ 1000) (h : q (.int ((shlN N k : Nat) : Int) s.toks) { s with toks := s.toks + 1 }) :
    wpAny (model RWQ.row.prog w) A (binaryOp .LShift (.int a t) (.int n u)) q E s := by
  subst hn ha
  refine lshift_int (by omega) (shl_room hN (by omega)) ?_
  have e : (N : Int) * 2 ^ (k : Int).toNat = ((shlN N k : Nat) : Int) := by
    rw [Int.toNat_natCast, shlN, Int.natCast_mul, Int.natCast_pow]; rfl
  rw [e]; exact h
theorem numDigs_le {X n k : Nat} (hn : 1 ≤ n) (hX : X < 2 ^ (n * k)) : numDigs X n ≤ k := by
  have h1 : Builtin.Int.intBits (X : Int) ≤ n * k := by have := intBits_lt hX; omega
  unfold numDigs
  rw [← Nat.lt_succ_iff, Nat.div_lt_iff_lt_mul (by omega), Nat.succ_mul, Nat.mul_comm k n]
  omega
theorem bits_pow (k : Nat) : Builtin.Int.intBits ((shlN 1 k : Nat) : Int) = k + 1 := by
  have h2 : shlN 1 k = 2 ^ k := Nat.one_mul _
  have h0 : 0 < 2 ^ k := Nat.two_pow_pos k
  rw [h2]
  have h1 : k < Builtin.Int.intBits ((2 ^ k : Nat) : Int) := by
    rcases Nat.lt_or_ge k (Builtin.Int.intBits ((2 ^ k : Nat) : Int)) with h | h
    · exact h
    · have h3 := intBits_nat_lt (b := 2 ^ k) rfl
      exact absurd (Nat.lt_of_lt_of_le h3 (Nat.pow_le_pow_right (by decide) h)) (Nat.lt_irrefl _)
  have h4 := intBits_lt (X := 2 ^ k) (k := k + 1) (Nat.pow_lt_pow_right (by decide) (Nls k))
  omega
theorem moved_digs {N0 wi p b : Nat} (hN : Small N0) (hw : 7 ≤ wi ∧ wi ≤ 16) (hp : p ≤ 9) : numDigs (shlN N0 (wi * p + 1)) (wi * (b + 1) + 1) ≤ 128 := by
  refine numDigs_le (by omega) ?_
  have h1 : wi * p ≤ 16 * 9 := Nat.mul_le_mul hw.2 hp
  have h2 : 7 ≤ wi * (b + 1) := Nlt hw.1 (Nat.le_mul_of_pos_right _ (by omega))
  have h3 : shlN N0 (wi * p + 1) < 2 ^ (600 + (wi * p + 1)) := by
    rw [Nat.pow_add]
    exact Nat.mul_lt_mul_of_pos_right hN (Nat.two_pow_pos _)
  refine Nat.lt_of_lt_of_le h3 (Nat.pow_le_pow_right (by decide) ?_)
  have h4 : 8 * 128 ≤ (wi * (b + 1) + 1) * 128 := Nat.mul_le_mul_right _ (by omega)
  omega
theorem shl_pos (k : Nat) : 0 < shlN 1 k := by rw [shlN, Nat.one_mul]; exact Nat.two_pow_pos k
theorem small_one : Small 1 := Nat.one_lt_two_pow (by decide)
theorem small_le {a b : Nat} (h : Small b) (h' : a ≤ b) : Small a := Nll h' h
theorem small_pow {k : Nat} (h : k ≤ 400) : Small (shlN 1 k) := by
  rw [Small, shlN, Nat.one_mul]; exact Nat.pow_lt_pow_right (by decide) (by omega)
theorem big_of {a : Nat} (h : Small a) : Big a := Nltt h (Nat.pow_lt_pow_right (by decide) (by decide))
theorem big_shl {a k b : Nat} (h : Small a) (hk : k ≤ 200) (hb : b ≤ shlN a k) : Big b := by
  refine Nll hb ?_
  have h3 : shlN a k < 2 ^ (600 + k) := by
    rw [Nat.pow_add]
    exact Nat.mul_lt_mul_of_pos_right h (Nat.two_pow_pos _)
  exact Nat.lt_of_lt_of_le h3 (Nat.pow_le_pow_right (by decide) (by omega))
theorem shl_back (a k : Nat) : ((shlN (a / shlN 1 k) k : Nat) : Int) + ((a % shlN 1 k : Nat) : Int) = (a : Int) := by
  have h : shlN (a / shlN 1 k) k + a % shlN 1 k = a := by
    unfold shlN
    rw [Nat.one_mul, Nat.mul_comm]
    exact Nat.div_add_mod ..
  omega
theorem small_or {a b : Nat} (h : Small a) (h' : Small b) : Small (a ||| b) := Nat.or_lt_two_pow h h'
theorem small_mod {a k : Nat} (h : k ≤ 400) : Small (a % shlN 1 k) := small_le (small_pow h) (Nat.le_of_lt (Nat.mod_lt _ (shl_pos k)))
end
end
section
theorem rs_ZB : True := by
  w_top off
  trivial
section
end
section
theorem seg8 (hl : LawDef w body scope) (cx : Cx w 30 dp un A₀ (envOfC (Zs "law") scope L fa cd) [] h₀ h₀ L) (F : Fr h₀ L s.heap m) {N0 wi : Nat} {t1 t2 : Tok} {dm : List (Addr × Obj)} (hw : 7 ≤ wi ∧ wi ≤ 16) (hsm : Small N0) (hdt : DmpTab dm) (hmn : m (Zs "number") = some (.int N0 t1)) (hmw : m (Zs "width") = some (.int wi t2)) (Ld : Led h₀ s.heap L (dm :: Gs))
    (hQ : ∀ D h' tk vs e s1' s2', NestTab 79 84 4 qI2d s1' -> NestTab 86 99 4 qD2i s2' -> IntsAre vs (digs N0 wi (numDigs N0 wi)) -> Fr h₀ L h' (fun y => if y = Zs "figures" then some (.ref D) else m y) -> Led h₀ h' L ([(D, Wl vs.toArray e)] :: s1' :: s2' :: Gs) -> wpAny (model RWQ.row.prog w) (AA dp un (envOfC (Zs "law") scope L fa cd) []) (execs (body.drop 9) (envOfC (Zs "law") scope L fa cd)) Q E { s with heap := h', toks := tk })
    : wpAny (model RWQ.row.prog w) (AA dp un (envOfC (Zs "law") scope L fa cd) []) (execs (body.drop 8) (envOfC (Zs "law") scope L fa cd)) Q E s := by
  revert cx hQ
  apply law_open w body scope _ hl
  intro hl0 cx hQ
  (try dsimp only [Lds, Ldz])
  (try dsimp only [Lds, Ldz] at hQ)
  (try dsimp only)
  (try k_fold)
  have X1 := cx.X
  have B1 := cx.B
  have hf1 := cx.f
  have hke1 := cx.k
  have hdp1 := cx.d
  have hun1 := cx.u
  obtain ⟨p1, loose1, mean1, mg1, mb1, T1⟩ := cx.T
  obtain ⟨s1, s2, rfl, n1, n2⟩ := hdt
  have L1 : Led h₀ s.heap L (s1 :: s2 :: Gs) := Ld.split (nest_apart (by decide) (by decide) n1 n2 (fun p hp => Ld.head p (Lal _ hp)) (fun p hp => Ld.head p (Lar _ hp)))
  have N := L1.flat
  (repeat ((fail_if_success (with_reducible show wpAny _ _ (call _ _ _) _ _ _)); w_once))
  rename News _ _ _ _ => N2
  rename Fr _ _ _ _ => F2
  have LA : Led h₀ _ L (s1 :: s2 :: Gs) := ⟨fun g hg q hq => N2 q (Lmf.mpr ⟨g, hg, hq⟩), L1.d⟩
  have hd : numDigs N0 wi ≤ 128 := numDigs_le (by omega) (Nat.lt_of_lt_of_le hsm (Nat.pow_le_pow_right (by decide) (by have := Nat.mul_le_mul hw.1 (Nat.le_refl 128); omega)))
  refine c_i2d cx F2 N0 wi _ _ (by omega) hd LA.head n1 ?_
  intro D h5 tk5 vs e st5 hvs hst5 F5 N5 o5 fr5
  have offD := seq_off (N5 _ (.head _)).1 rfl (nest_cls hst5) (fun p hp => N5 p (.tail _ hp))
  have LB := Led.split (g1 := [(D, Wl vs.toArray e)]) (g2 := st5) (LA.step (g' := (D, Wl vs.toArray e) :: st5) o5 N5 fr5) (fun z hz y hy => by rw [Lms.mp hz]; exact Ne.symm (offD y hy))
  clear N2 F2 N5
  have N6 := LB.flat
  (repeat ((fail_if_success (with_reducible show wpAny _ _ (execs (_ :: _) _) _ _ _)); w_once))
  rename News _ _ _ _ => N9
  rename Fr _ _ _ _ => F9
  exact hQ _ _ _ _ _ st5 s2 hst5 n2 hvs F9 ⟨fun g hg z hz => N9 z (Lmf.mpr ⟨g, hg, hz⟩), LB.d⟩
end
end
section
theorem rs_ZC : True := by
  w_top off
  trivial
theorem flat_ints : ∀ {vs : List Value} {ns : List Int}, FlatAll vs (ns.map PyData.int) -> IntsAre vs ns
  | _, [], h => by cases h; exact .nil
  | _, _ :: _, h => by
    cases h with
    | cons h1 h2 =>
      obtain ⟨t, rfl⟩ := flat_int h1
      exact .cons _ _ (flat_ints h2)
section
end
section
noncomputable def szsOf (pcs : List (Str × Str)) : List Int := pcs.map fun q => (q.1.length : Int) + (q.2.length : Int)
theorem seg10 (hl : LawDef w body scope) (cx : Cx w 30 dp un A₀ (envOfC (Zs "law") scope L fa cd) [] h₀ h₀ L) (F : Fr h₀ L s.heap m) {rw d cZ : Addr} {rl : List (Addr × Obj)} {e fi : Nat} {tf tk0 : Tok} {pcs : List (Str × Str)} {oZ : Obj} {vZ : Option Value} (hcZ : cZ = L + 1 + 1 + 1 + 1)
    (hrl : TupsAre rl (pcs.map pieceD)) (hsz : pcs.length ≤ 10) (hpc : ∀ q ∈ pcs, q.1.length ≤ 100 ∧ q.2.length ≤ 100) (hoZ : oZ.data = .cell vZ) (hmr : m (Zs "row") = some (.ref rw))
    (Ld : Led h₀ s.heap L ((rowAt w rw d (refsOf rl) e fi tf tk0 ++ rl) :: [(cZ, oZ)] :: Gs))
    (hQ : ∀ D vs ns c oZ' h' tk, IntsAre vs ns -> ns.Perm (szsOf pcs) -> ns.Pairwise (· ≤ ·) -> oZ'.data = .cell (some (.ref D)) -> Fr h₀ L h' m -> Led h₀ h' L ([(cZ, oZ')] :: [(D, Wl vs.toArray c)] :: (rowAt w rw d (refsOf rl) e fi tf tk0 ++ rl) :: Gs) -> wpAny (model RWQ.row.prog w) (AA dp un (envOfC (Zs "law") scope L fa cd) []) (execs (body.drop 11) (envOfC (Zs "law") scope L fa cd)) Q E { s with heap := h', toks := tk })
    : wpAny (model RWQ.row.prog w) (AA dp un (envOfC (Zs "law") scope L fa cd) []) (execs (body.drop 10) (envOfC (Zs "law") scope L fa cd)) Q E s := by
  revert hl cx F hcZ hrl hsz hpc hoZ hmr Ld hQ
  revert w dp un A₀ h₀ L fa cd m s Q E body scope Gs rw d cZ rl e fi tf tk0 pcs oZ vZ
  apply frz22; case n => walk_at "FZN"
  intro w dp un A₀ h₀ L fa cd m s Q E body scope Gs rw d cZ rl e fi tf
  clear_value w dp un A₀ h₀ L fa cd m s Q E body scope Gs rw d cZ rl e fi tf
  apply frz4; case n => walk_at "FZN"
  intro tk0 pcs oZ vZ
  clear_value tk0 pcs oZ vZ
  intro hl cx F hcZ hrl hsz hpc hoZ hmr Ld hQ
  subst hcZ
  revert cx hQ
  apply law_open w body scope _ hl
  intro hl0 cx hQ
  (try dsimp only [Lds, Ldz])
  (try dsimp only [Lds, Ldz] at hQ)
  (try dsimp only)
  (try k_fold)
  have X1 := cx.X
  have B1 := cx.B
  have hf1 := cx.f
  have hke1 := cx.k
  have hdp1 := cx.d
  have hun1 := cx.u
  obtain ⟨p1, loose1, mean1, mg1, mb1, T1⟩ := cx.T
  have N := Ld.flat
  dsimp only [Lfc, Lca, Lna] at N
  (repeat ((fail_if_success (with_reducible show wpAny _ _ (eval (Expr.ListComp _ _ _ _) _) _ _ _)); w_once))
  rename Fr _ _ _ _ => F2
  rename News _ _ _ _ => N2
  refine comp_gen pieceD (fun q : Str × Str => some ((q.1.length : Int) + (q.2.length : Int))) (relF PyData.int) pcs (ns := [(Zs "fws", _), (Zs "part", _)]) (src := rl) (n0 := e) F2 N2 (.head _) rfl hrl (by first | walk_at "SUB" | (intro p hp; simp [hp])) (by rw [hrl.length, Llm]; omega) rfl (by with_unfolding_all rfl) (by decide) (by rfl) (by decide) rfl (by decide) (fun x _ => rfl) ?hit ?hpy ⟨.nil, rfl⟩ ?turn ?fin (fun _ => rfl)
  case hit =>
    intro Q' q
    w_once
    exact q
  case hpy =>
    intro Q' q
    exact acc_iter F2 cx.X N2 (.head _) (.tail _ (.head _)) (by k_is) (by k_is) q
  case turn =>
    intro x hx T vs hT hf ys out yl hrel hfr s₁ hs1 hs2 hs3 I oI C oC D9 mC h9 tk9 E' hC F3 N3 off ne
    obtain ⟨u1, u2, rfl, f1, f2⟩ := flat2 hf
    obtain ⟨ta, rfl⟩ := flat_str f1
    obtain ⟨tb, rfl⟩ := flat_str f2
    obtain ⟨mC2, hC2, hv1, hv2⟩ : ∃ mC2 : Str -> Option Value, LCg.NsObj oC mC2 ∧ mC2 (Zs "fws") = some (.str x.1 ta) ∧ mC2 (Zs "part") = some (.str x.2 tb) := ⟨_, hC, upd2a (by decide), upd2b⟩
    clear hC N2 F2 hf f1 f2
    refine wpAny_tests_nil ?_
    rw [if_pos rfl]
    obtain ⟨hl1, hl2⟩ := hpc x hx
    repeat (w_once)
    rename News _ _ _ _ => N13
    rename Fr _ _ _ _ => F13
    refine ce_flat (o := ((x.1.length : Int) + (x.2.length : Int))) hC2 F13 N13 off hrel (fun _ => .int _ _) rfl hfr ⟨_, e, .head _, rfl⟩
  case fin =>
    intro ys yl D9 h9 tk9 hrel hfr F3 N3 off
    obtain ⟨hys, rfl⟩ := hrel
    have hys2 : IntsAre ys (szsOf pcs) := by
      refine flat_ints ?_
      have e9 : pcs.filterMap (fun q : Str × Str => some ((q.1.length : Int) + (q.2.length : Int))) = szsOf pcs := by rw [List.filterMap_eq_map']; rfl
      rwa [e9] at hys
    clear N2 F2
    (repeat ((fail_if_success (with_reducible show wpAny _ _ (call _ _ _) _ _ _)); w_once))
    refine kso_sorted F3 N3 (is_of N3 (.head _)) hys2 (by unfold szsOf; rw [Llm]; omega) ?_
    intro D10 vs10 ns10 c10 h10 F4 N4 lt4 hns _ hperm hpw _
    clear N3 F3
    (repeat ((fail_if_success (with_reducible show wpAny _ _ (storeName _ _ _) _ _ _)); w_once))
    rename News _ _ _ _ => N5
    rename Fr _ _ _ _ => F5
    have L5 : Led h₀ _ L ([(D10, Wl vs10.toArray c10)] :: (rowAt w rw d (refsOf rl) e fi tf tk0 ++ rl) :: [(L + 1 + 1 + 1 + 1, oZ)] :: Gs) := .cons (fun p hp => by rw [Lms.mp hp]; exact N5 _ (.head _)) (fun z hz p hp q hq => by
      rw [Lms.mp hp]
      refine Nat.ne_of_gt (lt4 q (.tail _ ?_))
      have := Lmf.mpr ⟨z, hz, hq⟩
      dsimp only [Lfc, Lca, Lna] at this; exact this) ⟨fun z hz q hq => N5 q (.tail _ (.tail _ (by
        have := Lmf.mpr ⟨z, hz, hq⟩
        dsimp only [Lfc, Lca, Lna] at this; exact this))), Ld.d⟩
    refine led_cellG (by rfl) (by rfl) (by with_unfolding_all rfl) F5 (L5.perm ((List.perm_middle (l₁ := [_, _])))) hoZ ?_
    intro h6 oZ' F6 L6 hoZ'
    clear N5
    have N6 := L6.flat
    (repeat ((fail_if_success (with_reducible show wpAny _ _ (execs (_ :: _) _) _ _ _)); w_once))
    rename News _ _ _ _ => N9
    rename Fr _ _ _ _ => F9
    refine hQ D10 vs10 ns10 c10 oZ' _ _ hns hperm hpw hoZ' F9 ⟨fun g hg p hp => N9 p ?_, L6.d⟩
    have := Lmf.mpr ⟨g, hg, hp⟩
    exact this
end
end
section
theorem rs_ZD : True := by
  w_top off
  trivial
theorem ints_flat : ∀ {vs : List Value} {ns : List Int}, IntsAre vs ns -> FlatAll vs (ns.map PyData.int)
  | _, _, .nil => .nil
  | _, _, .cons _ _ h => .cons (fun _ => .int _ _) (ints_flat h)
theorem ints_item (ns : List Int) : ∀ x ∈ ns.map PyData.int, ItemOk x := fun x hx => by
  obtain ⟨i, _, rfl⟩ := Lmm.mp hx
  exact itemOk_int i
section
end
section
theorem seg9 (hl : LawDef w body scope) (cx : Cx w 30 dp un A₀ (envOfC (Zs "law") scope L fa cd) [] h₀ h₀ L) (F : Fr h₀ L s.heap m) {D DA : Addr} {tl : List (Addr × Obj)} {ps : List Piece} {vs : List Value} {fg : List Int} {e eA : Nat}
    (hvs : IntsAre vs fg) (hfg : ∀ M, (∀ q ∈ chs ((ps.map bp).reverse), q.1 ≤ M) -> (∃ c, (M, c) ∈ chs ((ps.map bp).reverse)) -> fg = ((chs ((ps.map bp).reverse)).foldl maskF (List.replicate (M + 1) 0)).map (Int.ofNat ·))
    (htl : TupsAre tl (ps.map pcD)) (h6 : ps.length ≤ 6) (hb : ∀ q ∈ ps, q.b ≤ 100) (hmf : m (Zs "figures") = some (.ref D)) (hmt : m (Zs "told") = some (.ref DA))
    (Ld : Led h₀ s.heap L ([(D, Wl vs.toArray e)] :: ((DA, Wl (refsOf tl).toArray eA) :: tl) :: Gs))
    (hQ : ∀ h' tk, Fr h₀ L h' m -> Led h₀ h' L ([(D, Wl vs.toArray e)] :: ((DA, Wl (refsOf tl).toArray eA) :: tl) :: Gs) -> wpAny (model RWQ.row.prog w) (AA dp un (envOfC (Zs "law") scope L fa cd) []) (execs (body.drop 10) (envOfC (Zs "law") scope L fa cd)) Q E { s with heap := h', toks := tk })
    : wpAny (model RWQ.row.prog w) (AA dp un (envOfC (Zs "law") scope L fa cd) []) (execs (body.drop 9) (envOfC (Zs "law") scope L fa cd)) Q E s := by
  revert cx hQ
  apply law_open w body scope _ hl
  intro hl0 cx hQ
  (try dsimp only [Lds, Ldz])
  (try dsimp only [Lds, Ldz] at hQ)
  (try dsimp only)
  (try k_fold)
  have X1 := cx.X
  have B1 := cx.B
  have hf1 := cx.f
  have hke1 := cx.k
  have hdp1 := cx.d
  have hun1 := cx.u
  obtain ⟨p1, loose1, mean1, mg1, mb1, T1⟩ := cx.T
  have N := Ld.flat
  dsimp only [Lfc, Lca, Lna] at N
  (repeat ((fail_if_success (with_reducible show wpAny _ _ (call _ _ _) _ _ _)); w_once))
  rename News _ _ _ _ => N2
  rename Fr _ _ _ _ => F2
  refine c_choices cx F2 (e := eA) (news_sub N2 (fun p hp => by
    rcases Lmc.mp hp with rfl | hp
    · simp
    · simp [hp])) htl h6 hb ?_
  intro x lv ex h3 tk3 M hlv hM hM2 F3 N3 K3
  have hf := hfg M hM hM2
  have N4 : News h₀ L h3 ((x, Wl lv.toArray ex) :: (D, Wl vs.toArray e) :: (DA, Wl (refsOf tl).toArray eA) :: (tl ++ Gs.flatten)) := news_cons (N3 _ (.head _)) (K3 _ N2)
  clear N2 F2 N3 K3
  (repeat ((fail_if_success (with_reducible show wpAny _ _ (compareOp .NotEq _ _) _ _ _)); w_once))
  rename News _ _ _ _ => N5
  rename Fr _ _ _ _ => F5
  refine ne_same (reads_list_at (N5 (D, Wl vs.toArray e) (by walk_at "SI")).1 rfl rfl (by simpa using (ints_flat hvs).reads _)) (reads_list_at (N5 (x, Wl lv.toArray ex) (by walk_at "SI")).1 rfl rfl (by rw [hf]; simpa using (ints_flat hlv).reads _)) (ints_item _) (by have := cLine_is; show un + 64 < cLine; omega) ?_
  (repeat ((fail_if_success (with_reducible show wpAny _ _ (execs (_ :: _) _) _ _ _)); w_once))
  rename News _ _ _ _ => N9
  rename Fr _ _ _ _ => F9
  refine hQ _ _ F9 ⟨fun g hg p hp => N9 p (.tail _ ?_), Ld.d⟩
  have := Lmf.mpr ⟨g, hg, hp⟩
  dsimp only [Lfc, Lca, Lna] at this
  exact this
end
end
section
theorem rs_ZE : True := by
  w_top off
  trivial
section
end
section
theorem led_row {h h' : Heap} {h₀ : Heap} {L rw d : Addr} {vs : List Value} {e : Nat} {fi : Int} {tf tk0 : Tok} {rl : List (Addr × Obj)} {Gs : List (List (Addr × Obj))} (Ld : Led h₀ h L ((rowAt w rw d vs e fi tf tk0 ++ rl) :: Gs)) (hoff : ∀ z ∈ rl, z.1 ≠ rw ∧ z.1 ≠ d) (o : Others h₀ L [rw, d] h h') (N : News h₀ L h' (rowAt w rw d vs e fi tf tk0)) : Led h₀ h' L ((rowAt w rw d vs e fi tf tk0 ++ rl) :: Gs) :=
  Ld.same (fun n2 N2 off => o n2 N2 fun q hq hm => off q hq (by
    rcases Lmc.mp hm with h | h
    · rw [h]; simp
    · rw [Lms.mp h]; simp)) (news_app N (o rl (fun p hp => Ld.head p (Lar _ hp)) fun q hq hm => by
      rcases Lmc.mp hm with h | h
      · exact (hoff q hq).1 h
      · exact (hoff q hq).2 (Lms.mp h))) fun p hp => Lmm.mpr ⟨p, hp, rfl⟩
noncomputable def JSm (zn : List Int) (R : List (Addr × Obj)) (i : Nat) (ys : List Value) (news : List (Addr × Obj)) : Prop := IntsAre ys ((List.range i).map fun j => (zn.take j).sum) ∧ news = R
theorem seg11 (hl : LawDef w body scope) (cx : Cx w 30 dp un A₀ (envOfC (Zs "law") scope L fa cd) [] h₀ h₀ L) (F : Fr h₀ L s.heap m) {rw d cZ DZ D : Addr} {rl : List (Addr × Obj)} {e fi c ef : Nat} {tf tk0 : Tok} {pcs : List (Str × Str)} {oZ : Obj} {zv vs : List Value} {zn : List Int} {ms : List Nat} (hcZ : cZ = L + 1 + 1 + 1 + 1)
    (hrl : TupsAre rl (pcs.map pieceD)) (hsz : pcs.length ≤ 10) (hrd : rw ≠ d) (hoff : ∀ z ∈ rl, z.1 ≠ rw ∧ z.1 ≠ d) (hoZ : oZ.data = .cell (some (.ref DZ))) (hzn : IntsAre zv zn) (hzl : zn.length ≤ 10) (hvs : IntsAre vs (ms.map (Int.ofNat ·))) (hms : ms.length ≤ 200)
    (hle : (leastF 0 ms 0).map (Int.ofNat ·) = (List.range (pcs.length + 1)).map fun j => (zn.take j).sum)
    (hmr : m (Zs "row") = some (.ref rw)) (hmf : m (Zs "figures") = some (.ref D))
    (Ld : Led h₀ s.heap L ([(cZ, oZ)] :: [(DZ, Wl zv.toArray c)] :: [(D, Wl vs.toArray ef)] :: (rowAt w rw d (refsOf rl) e fi tf tk0 ++ rl) :: Gs))
    (hQ : ∀ h' tk, Fr h₀ L h' m -> Led h₀ h' L ([(cZ, oZ)] :: [(DZ, Wl zv.toArray c)] :: [(D, Wl vs.toArray ef)] :: (rowAt w rw d (refsOf rl) e fi tf tk0 ++ rl) :: Gs) -> wpAny (model RWQ.row.prog w) (AA dp un (envOfC (Zs "law") scope L fa cd) []) (execs (body.drop 12) (envOfC (Zs "law") scope L fa cd)) Q E { s with heap := h', toks := tk })
    : wpAny (model RWQ.row.prog w) (AA dp un (envOfC (Zs "law") scope L fa cd) []) (execs (body.drop 11) (envOfC (Zs "law") scope L fa cd)) Q E s := by
  revert hl cx F hcZ hrl hsz hrd hoff hoZ hzn hzl hvs hms hle hmr hmf Ld hQ
  revert w dp un A₀ h₀ L fa cd m s Q E body scope Gs rw d cZ DZ D rl e fi c ef tf tk0 pcs oZ zv vs zn ms
  apply frz22; case n => walk_at "FZN"
  intro w dp un A₀ h₀ L fa cd m s Q E body scope Gs rw d cZ DZ D rl e
  clear_value w dp un A₀ h₀ L fa cd m s Q E body scope Gs rw d cZ DZ D rl e
  apply frz11; case n => walk_at "FZN"
  intro fi c ef tf tk0 pcs oZ zv vs zn ms
  clear_value fi c ef tf tk0 pcs oZ zv vs zn ms
  intro hl cx F hcZ hrl hsz hrd hoff hoZ hzn hzl hvs hms hle hmr hmf Ld hQ
  subst hcZ
  revert cx hQ
  apply law_open w body scope _ hl
  intro hl0 cx hQ
  (try dsimp only [Lds, Ldz])
  (try dsimp only [Lds, Ldz] at hQ)
  (try dsimp only)
  (try k_fold)
  have X1 := cx.X
  have B1 := cx.B
  have hf1 := cx.f
  have hke1 := cx.k
  have hdp1 := cx.d
  have hun1 := cx.u
  obtain ⟨p1, loose1, mean1, mg1, mb1, T1⟩ := cx.T
  have N := Ld.flat
  dsimp only [Lfc, Lca, Lna] at N
  (repeat ((fail_if_success (with_reducible show wpAny _ _ (call _ _ _) _ _ _)); tupd_look))
  rename News _ _ _ _ => N2
  rename Fr _ _ _ _ => F2
  refine c_least cx F2 (e := ef) (news_sub N2 (by walk_at "SUB")) hvs hms ?_
  intro x lv h3 tk3 hlv F3 N3 K3
  have L3 : Led h₀ h3 L ([(L + 1 + 1 + 1 + 1, oZ)] :: [(DZ, Wl zv.toArray c)] :: [(D, Wl vs.toArray ef)] :: (rowAt w rw d (refsOf rl) e fi tf tk0 ++ rl) :: Gs) := Led.of (K3 _ N2) (fun _ h => h) Ld.d
  have N4 : News h₀ L h3 ((x, Wl lv.toArray (leastF 0 ms 0).length) :: (L + 1 + 1 + 1 + 1, oZ) :: (DZ, Wl zv.toArray c) :: (D, Wl vs.toArray ef) :: (rowAt w rw d (refsOf rl) e fi tf tk0 ++ (rl ++ Gs.flatten))) := news_cons (N3 _ (.head _)) (K3 _ N2)
  clear N2 F2 N3 K3
  (repeat ((fail_if_success (with_reducible show wpAny _ _ (eval (Expr.ListComp _ _ _ _) _) _ _ _)); tupd_look))
  refine comp_range (h₀ := h₀) (L := L) (m := m) (by with_unfolding_all rfl) (by decide) (by rfl) (by decide) ?_ (fun _ => rfl)
  (repeat ((fail_if_success (with_reducible show wpAny _ _ (getMethod _ _ _) _ _ _)); tupd_look))
  ((refine acc_methF (by k_asm) (by k_asm) (inst_acc (by k_asm) (by walk_at "MEM") (by walk_at "MEM")) (by k_is) (by k_is) (by k_is) (by k_is) (by k_get) ?_))
  (repeat ((fail_if_success (with_reducible show wpAny _ _ (call _ _ _) _ _ _)); tupd_look))
  rename News _ _ _ _ => N5
  rename Fr _ _ _ _ => F5
  have L5 := (show Led h₀ _ L ([(L + 1 + 1 + 1 + 1, oZ)] :: [(DZ, Wl zv.toArray c)] :: [(D, Wl vs.toArray ef)] :: (rowAt w rw d (refsOf rl) e fi tf tk0 ++ rl) :: Gs) from Led.of N5 (fun _ h => .tail _ h) Ld.d).perm (List.perm_middle (l₁ := [_, _, _]))
  refine c_pc cx F5 (vs := refsOf rl) (e := e) (fi := fi) (tf := tf) (tk0 := tk0) (news_sub N5 (fun p hp => by
    rcases Lmc.mp hp with rfl | hp
    · simp
    · rw [Lms.mp hp]; simp)) hrd ?_
  intro h6 tk6 t6 F6 N6 o6
  have L6 := led_row L5 hoff o6 N6
  have hxr := news_ne N5 (p := (x, Wl lv.toArray (leastF 0 ms 0).length)) (q := (rw, accObj d (refsOf rl) e)) (.head _) (by walk_at "SI") (fun e => nomatch (congrArg Obj.cls e))
  have hxd := news_ne N5 (p := (x, Wl lv.toArray (leastF 0 ms 0).length)) (q := (d, rowDict w fi tf tk0)) (.head _) (by walk_at "SI") (fun e => nomatch (congrArg Obj.data e))
  have N7 : News h₀ L h6 ((x, Wl lv.toArray (leastF 0 ms 0).length) :: (L + 1 + 1 + 1 + 1, oZ) :: (DZ, Wl zv.toArray c) :: (D, Wl vs.toArray ef) :: (rowAt w rw d (refsOf rl) e fi tf tk0 ++ (rl ++ Gs.flatten))) := news_cons (o6 [(x, Wl lv.toArray (leastF 0 ms 0).length)] (fun p hp => by rw [Lms.mp hp]; exact N5 _ (.head _)) (fun q hq hm => by
      rw [Lms.mp hq] at hm
      rcases Lmc.mp hm with h | h
      · exact hxr h
      · exact hxd (Lms.mp h)) _ (.head _)) (news_sub L6.flat (by walk_at "SUB"))
  clear N5 F5 N6
  (try dsimp only)
  (repeat ((fail_if_success (with_reducible show wpAny _ _ (call _ _ _) _ _ _)); tupd_look))
  refine call_range_1 ?_
  rename Fr _ _ _ _ => F8
  rename News _ _ _ _ => N8
  have hlr : (refsOf rl).length = pcs.length := by rw [refsOf, Llm, hrl.length, Llm]
  refine ⟨_, (refsOf rl).length + 1, _, _, _, _, JSm zn _, rfl, trivial, by omega, F8.push _, N8.grown fun b o e => Heap.get?_push_of_some _ e, IsRange.new _ _ _ _ _ _ _, ⟨.nil, rfl⟩, ?turn, ?fin⟩
  case turn =>
    rintro i y t ys news g hi rfl ⟨hys, rfl⟩ I oI C oC D9 mC h9 tk9 E' hC F9 N9 off9 ne9
    refine asg_one rfl rfl F9 N9 hC off9 ne9 ?_
    intro h11 tk11 oC11 hC11 F11 N11
    obtain ⟨mC2, hmC2, hv1⟩ : ∃ mC2 : Str -> Option Value, LCg.NsObj oC11 mC2 ∧ mC2 (Zs "count") = some (.int (i : Int) t) := ⟨_, hC11, if_pos rfl⟩
    clear hC11 hC N9 F9 N8 F8
    refine wpAny_tests_nil ?_
    rw [if_pos rfl]
    (repeat ((fail_if_success (with_reducible show wpAny _ _ (call _ _ _) _ _ _)); tupd_look))
    repeat (tupd_look)
    rename News _ _ _ _ => N13
    rename Fr _ _ _ _ => F13
    refine ⟨_, _, _, oC11, mC2, rfl, hmC2, F13, news_sub N13 (fun p hp => .tail _ hp), off9, trivial, ?_, rfl⟩
    rw [List.range_succ, Lmp]
    exact hys.append (.cons _ _ .nil)
  case fin =>
    rintro ys news9 D10 h9 tk9 ⟨hys, rfl⟩ F9 N9 off9
    rw [hlr, ← hle] at hys
    clear N8 F8
    (repeat ((fail_if_success (with_reducible show wpAny _ _ (compareOp .NotEq _ _) _ _ _)); tupd_look))
    rename News _ _ _ _ => N10
    rename Fr _ _ _ _ => F10
    refine ne_same (xs := ((leastF 0 ms 0).map (Int.ofNat ·)).map PyData.int) (reads_list_at (N10 (x, Wl lv.toArray (leastF 0 ms 0).length) (by walk_at "SI")).1 rfl rfl (by simpa using (ints_flat hlv).reads _)) (reads_list_at (N10 (D10, LCg.lst ys) (by walk_at "SI")).1 rfl rfl (by simpa using (ints_flat hys).reads _)) (ints_item _) (by have := cLine_is; show un + 64 < cLine; omega) ?_
    (repeat ((fail_if_success (with_reducible show wpAny _ _ (execs (_ :: _) _) _ _ _)); tupd_look))
    rename News _ _ _ _ => N12
    rename Fr _ _ _ _ => F12
    refine hQ _ _ F12 (Led.of N12 (fun _ h => .tail _ (.tail _ h)) Ld.d)
end
end
section
theorem rs_YC : True := by
  w_top off
  trivial
section
end
section
theorem sseg2 (hl : LawDef w body scope) (cx : Cx w 30 dp un A₀ (envOfC (Zs "law") scope L fa cd) [] h₀ h₀ L) (F : Fr h₀ L s.heap m) {rw d : Addr} {rl : List (Addr × Obj)} {e fi b : Nat} {tf tk0 t1 t2 : Tok} {pcs : List (Str × Str)} {o1 o2 : Obj} {p : RecP} {qs : List RuleQ} {st : List (Addr × Obj)}
    (hrd : rw ≠ d) (hrl : TupsAre rl (pcs.map pieceD)) (hsz : pcs.length ≤ 10) (hpc : ∀ q ∈ pcs, q.1.length ≤ 100 ∧ q.2.length ≤ 100) (htot : totLen pcs ≤ 10000) (hoff : ∀ z ∈ rl, z.1 ≠ rw ∧ z.1 ≠ d) (hfi : fi < 10) (ho1 : TabOk o1) (ho2 : TabOk o2) (hG : AllBare s.gens)
    (hqs : ∀ q ∈ qs, q.good) (hqz : qs.length ≤ 1000)
    (Ld : Led h₀ s.heap L ((rowAt w rw d (refsOf rl) e fi tf tk0 ++ rl) :: [(140, o1)] :: [(147, o2)] :: recObjs w p (ruleRefs qs) :: (rulesObjs w qs ++ st) :: Gs)) (hmr : m (Zs "row") = some (.ref rw)) (hmp : m (Zs "record") = some (.ref p.a)) (hmf : m (Zs "first") = some (.int fi t1)) (hmb : m (Zs "bound") = some (.int b t2))
    (hlet : ∃ pcs', LetGo qs b pcs pcs') (hrt : (rowText pcs).length ≤ 90) (hul : (Txt.upper (rowText pcs)).length ≤ 90) (hup : (Txt.upper (rowText pcs) ++ Zs "*/abcdef").length ≤ 200)
    (hQ : ∀ (s' : Shared) (pcs' : List (Str × Str)) (rl' : List (Addr × Obj)) (e' : Nat) (o1' o2' : Obj), Fr h₀ L s'.heap m -> LetGo qs b pcs pcs' -> TupsAre rl' (pcs'.map pieceD) -> (∀ z ∈ rl', z.1 ≠ rw ∧ z.1 ≠ d) -> TabOk o1' -> TabOk o2' -> AllBare s'.gens -> s'.os = s.os -> Led h₀ s'.heap L ((rowAt w rw d (refsOf rl') e' fi tf tk0 ++ rl') :: [(140, o1')] :: [(147, o2')] :: recObjs w p (ruleRefs qs) :: (rulesObjs w qs ++ st) :: Gs) -> wpAny (model RWQ.row.prog w) (AA dp un (envOfC (Zs "law") scope L fa cd) []) (execs ((forBody (body.getD 7 (.Pass default))).drop 3) (envOfC (Zs "law") scope L fa cd)) Q E s')
    : wpAny (model RWQ.row.prog w) (AA dp un (envOfC (Zs "law") scope L fa cd) []) (execs ((forBody (body.getD 7 (.Pass default))).drop 2) (envOfC (Zs "law") scope L fa cd)) Q E s := by
  revert hl cx F hrd hrl hsz hpc htot hoff hfi ho1 ho2 hG hqs hqz Ld hmr hmp hmf hmb hlet hrt hul hup hQ
  revert w dp un A₀ h₀ L fa cd m s Q E body scope Gs rw d rl e fi b tf tk0 t1 t2 pcs o1 o2 p qs st
  apply frz22; case n => walk_at "FZN"
  intro w dp un A₀ h₀ L fa cd m s Q E body scope Gs rw d rl e fi b tf
  clear_value w dp un A₀ h₀ L fa cd m s Q E body scope Gs rw d rl e fi b tf
  apply frz9; case n => walk_at "FZN"
  intro tk0 t1 t2 pcs o1 o2 p qs st
  clear_value tk0 t1 t2 pcs o1 o2 p qs st
  intro hl cx F hrd hrl hsz hpc htot hoff hfi ho1 ho2 hG hqs hqz Ld hmr hmp hmf hmb hlet hrt hul hup hQ
  revert cx hQ
  apply law_open w body scope _ hl
  intro hl0 cx hQ
  (try dsimp only [Lds, Ldz])
  (try dsimp only)
  (try k_fold)
  have X1 := cx.X
  have B1 := cx.B
  have hf1 := cx.f
  have hke1 := cx.k
  have hdp1 := cx.d
  have hun1 := cx.u
  obtain ⟨p1, loose1, mean1, mg1, mb1, T1⟩ := cx.T
  have N : News h₀ L s.heap ((rw, accObj d (refsOf rl) e) :: (d, rowDict w fi tf tk0) :: (rl ++ ((140, o1) :: (147, o2) :: (recObjs w p (ruleRefs qs) ++ ((rulesObjs w qs ++ st) ++ Gs.flatten))))) := news_sub Ld.flat (fun z hz => by
    simp only [Lfc, Lmc, Lma, Lnm, or_false] at hz ⊢
    simp only [or_assoc] at hz ⊢
    exact hz)
  (repeat ((fail_if_success (with_reducible show wpAny _ _ (call _ _ _) _ _ _)); w_once))
  rename Fr _ _ _ _ => F2
  refine row_len (m := m) cx ?F (rl := rl) (pcs := pcs) (d := d) (e := e) (fi := fi) (tf := tf) (tk0 := tk0) (op := o1) (Gs := [(147, o2)] :: recObjs w p (ruleRefs qs) :: (rulesObjs w qs ++ st) :: Gs) ?L hrl ho1 ?G hfi hsz hpc htot ?_
  case F => exact F2
  case L => exact Ld
  case G => exact hG
  intro s1 tA oA F3 hoA G3 os3 LA
  (try dsimp only at os3)
  clear N F2
  have N : News h₀ L s1.heap ((p.a, instObj 59 p.d) :: (p.d, dictOf [en w "useragents" p.t1 (.ref p.l1), en w "rulelines" p.t2 (.ref p.l2), en w "delay" p.t3 .none, en w "req_rate" p.t4 .none] 4) :: (rw, accObj d (refsOf rl) e) :: (d, rowDict w fi tf tk0) :: (rl ++ ((140, oA) :: (147, o2) :: (recObjs w p (ruleRefs qs) ++ ((rulesObjs w qs ++ st) ++ Gs.flatten))))) := news_sub LA.flat (by walk_at "SUB")
  obtain ⟨hp2, gn2, dr2, tk2, os2⟩ := s1
  dsimp only at F3 G3 os3 LA N
  repeat' ((fail_if_success (with_reducible show wpAny _ _ (execs (_ :: _) _) _ _ _)); w_once)
  rotate_left
  · (try dsimp only)
    have hn : ¬ b < totLen pcs := by omega
    exact hQ _ pcs rl e oA o2 F3 (.inl ⟨hn, rfl⟩) hrl hoff hoA ho2 G3 os3 LA
  · have hb : b < totLen pcs := by omega
    (repeat ((fail_if_success (with_reducible show wpAny _ _ (call _ _ _) _ _ _)); w_once))
    rename Fr _ _ _ _ => F4
    refine row_str (m := m) cx ?F (rl := rl) (pcs := pcs) (d := d) (e := e) (fi := fi) (tf := tf) (tk0 := tk0) (op := o2) (Gs := [(140, oA)] :: recObjs w p (ruleRefs qs) :: (rulesObjs w qs ++ st) :: Gs) ?L hrl ho2 ?G hsz hpc ?_
    case F => exact F4
    case L => exact LA.perm (.cons _ (.swap ..))
    case G => exact G3
    intro s3 tB oB F5 hoB G5 os5 LB
    (try dsimp only at os5)
    clear N F4
    have N : News h₀ L s3.heap ((p.a, instObj 59 p.d) :: (p.d, dictOf [en w "useragents" p.t1 (.ref p.l1), en w "rulelines" p.t2 (.ref p.l2), en w "delay" p.t3 .none, en w "req_rate" p.t4 .none] 4) :: (rw, accObj d (refsOf rl) e) :: (d, rowDict w fi tf tk0) :: (rl ++ ((147, oB) :: (140, oA) :: (recObjs w p (ruleRefs qs) ++ ((rulesObjs w qs ++ st) ++ Gs.flatten))))) := news_sub LB.flat (by walk_at "SUB")
    obtain ⟨hp3, gn3, dr3, tk3, os9⟩ := s3
    dsimp only at F5 G5 os5 LB N
    (repeat ((fail_if_success (with_reducible show wpAny _ _ (call _ _ _) _ _ _)); w_once))
    w_once
    w_once
    w_once
    (repeat ((fail_if_success (with_reducible show wpAny _ _ (call _ _ _) _ _ _)); w_once))
    rename News _ _ _ _ => N5
    rename Fr _ _ _ _ => F5
    obtain ⟨pcs', hl⟩ := hlet
    rcases id hl with ⟨hn, _⟩ | ⟨_, A, B, bl, x, rfl, hB, hfold, rfl⟩
    · exact absurd hb hn
    refine c_allow (m := m) cx ?F p qs ?N hqs (some (_, _)) (mem_some hup) hqz ?_
    case F => exact F5
    case N => exact news_sub N5 (by walk_at "SUB")
    intro h6 tk6 t6 F6 K6
    (try dsimp only at K6)
    simp only [Option.map_some, hfold]
    dsimp only [alV]
    clear N5 F5
    w_once
    refine ⟨cx.X.keeps F6.keep, ?_⟩
    have LC := LB.grown K6
    refine row_letgo (m := m) cx ?F (d := d) (rl := rl) (A := A) (B := B) (bl := bl) (tf := tf) (tk0 := tk0) (e := e) (fi := fi) (Gs := [(147, oB)] :: [(140, oA)] :: recObjs w p (ruleRefs qs) :: (rulesObjs w qs ++ st) :: Gs) ?O hrl hB hrd ?hsz hoff t6 ?_
    case F => exact F6
    case O => exact LC
    case hsz =>
      have := hrl.length
      rw [Llm] at this
      exact this ▸ Nlt hsz (by decide)
    intro h8 tk8 tl' e8 F8 ht8 off8 LD
    (repeat ((fail_if_success (with_reducible show wpAny _ _ (execs (_ :: _) _) _ _ _)); w_once))
    (try dsimp only)
    exact hQ _ _ tl' e8 oA oB F8 hl ht8 off8 hoA hoB G5 (os5.trans os3) (LD.perm (.cons _ (.swap ..)))
end
end
section
theorem rs_YE : True := by
  w_top off
  trivial
section
end
section
theorem sseg3 (hl : LawDef w body scope) (cx : Cx w 30 dp un A₀ (envOfC (Zs "law") scope L fa cd) [] h₀ h₀ L) (F : Fr h₀ L s.heap m) {oS : Obj} {stt t1 t2 t3 : Tok} {p b wi N0 : Nat} (hoS : oS.data = .cell (some (.int p stt))) (hp : 1 ≤ p ∧ p ≤ 9) (hb : b ≤ 20) (hw : 7 ≤ wi ∧ wi ≤ 16)
    (hmn : m (Zs "number") = some (.int N0 t1)) (hmw : m (Zs "width") = some (.int wi t2)) (hmb : m (Zs "bound") = some (.int b t3)) (hN0 : Small N0)
    {st : List (Addr × Obj)} (hst : DmpTab st) (Ld : Led h₀ s.heap L ([(L + 1 + 1, oS)] :: st :: Gs))
    (hQ : ∀ h' tk m' t st', Fr h₀ L h' m' -> m' (Zs "number") = some (.int ((N0 ||| shlN N0 (wi * p + 1) % shlN 1 (wi * (b + 1)) : Nat) : Int) t) -> (∀ y, y ≠ Zs "number" -> y ≠ Zs "rest" -> y ≠ Zs "over" -> y ≠ Zs "moved" -> m' y = m y) -> Small (N0 ||| shlN N0 (wi * p + 1) % shlN 1 (wi * (b + 1))) -> DmpTab st' -> Led h₀ h' L ([(L + 1 + 1, oS)] :: st' :: Gs) -> Q .next { s with heap := h', toks := tk })
    : wpAny (model RWQ.row.prog w) (AA dp un (envOfC (Zs "law") scope L fa cd) []) (execs ((forBody (body.getD 7 (.Pass default))).drop 3) (envOfC (Zs "law") scope L fa cd)) Q E s := by
  revert hl cx F hoS hp hb hw hmn hmw hmb hN0 hst Ld hQ
  revert w dp un A₀ h₀ L fa cd m s Q E body scope Gs oS stt t1 t2 t3 p b wi N0 st
  apply frz22; case n => walk_at "FZN"
  intro w dp un A₀ h₀ L fa cd m s Q E body scope Gs oS stt t1 t2 t3 p b
  clear_value w dp un A₀ h₀ L fa cd m s Q E body scope Gs oS stt t1 t2 t3 p b
  apply frz3; case n => walk_at "FZN"
  intro wi N0 st
  clear_value wi N0 st
  intro hl cx F hoS hp hb hw hmn hmw hmb hN0 hst Ld hQ
  revert cx hQ
  apply law_open w body scope _ hl
  intro hl0 cx hQ
  (try dsimp only [Lds, Ldz])
  (try dsimp only)
  (try k_fold)
  have X1 := cx.X
  have B1 := cx.B
  have hf1 := cx.f
  have hke1 := cx.k
  have hdp1 := cx.d
  have hun1 := cx.u
  obtain ⟨p1, loose1, mean1, mg1, mb1, T1⟩ := cx.T
  have N : News h₀ L s.heap ((L + 1 + 1, oS) :: (st ++ Gs.flatten)) := news_sub Ld.flat (fun z hz => by
    simp only [Lfc, Lmc, Lma, Lnm, or_false] at hz ⊢
    exact hz)
  have hk1 : wi * p ≤ 144 := Nlt (Nat.mul_le_mul hw.2 hp.2) (by decide)
  have hk2 : wi * (b + 1) ≤ 336 := Nlt (Nat.mul_le_mul hw.2 (show b + 1 ≤ 21 by omega)) (by decide)
  (repeat ((fail_if_success (with_reducible show wpAny _ _ (binaryOp .LShift _ _) _ _ _)); tupd_look))
  refine shl_step rfl (k := wi * p + 1) (by walk_at "SI") (big_of hN0) (by omega) ?_
  (repeat ((fail_if_success (with_reducible show wpAny _ _ (binaryOp .LShift _ _) _ _ _)); tupd_look))
  refine shl_step (N := 1) rfl (k := wi * (b + 1)) (by walk_at "SI") (big_of small_one) (by omega) ?_
  (repeat ((fail_if_success (with_reducible show wpAny _ _ (call _ _ _) _ _ _)); tupd_look))
  rename News _ _ _ _ => N2
  rename Fr _ _ _ _ => F2
  have hk3 : 7 ≤ wi * (b + 1) := Nlt hw.1 (Nat.le_mul_of_pos_right _ (by omega))
  have LA : Led h₀ _ L ([(L + 1 + 1, oS)] :: st :: Gs) := ⟨fun g hg q hq => N2 q (by
    have := Lmf.mpr ⟨g, hg, hq⟩
    simpa using this), Ld.d⟩
  refine c_dmp cx F2 (shlN N0 (wi * p + 1)) (shlN 1 (wi * (b + 1))) (wi * (b + 1) + 1) _ _ (shl_pos _) (bits_pow _) ⟨by omega, by omega⟩ (moved_digs hN0 hw hp.2) (st := st) (fun q hq => N2 q (.tail _ (Lal _ hq))) hst ?_
  intro x h5 tk5 st5 t5 t6 hst5 F5 N5 o5 fr5
  have LB := LA.front2.step (g' := st5) o5 (fun q hq => N5 q (.tail _ hq)) fr5
  have hqB : Big (shlN N0 (wi * p + 1) / shlN 1 (wi * (b + 1))) := big_shl hN0 (k := wi * p + 1) (by omega) (Nat.div_le_self _ _)
  have hback := shl_back (shlN N0 (wi * p + 1)) (wi * (b + 1))
  have hsm : Small (N0 ||| shlN N0 (wi * p + 1) % shlN 1 (wi * (b + 1))) := small_or hN0 (small_mod (by omega))
  obtain ⟨A, hA⟩ : ∃ A, A = shlN N0 (wi * p + 1) := ⟨_, rfl⟩
  rw [← hA] at N5 hqB hback hsm F5
  obtain ⟨AB, hAB⟩ : ∃ AB, AB = A / shlN 1 (wi * (b + 1)) := ⟨_, rfl⟩
  obtain ⟨AM, hAM⟩ : ∃ AM, AM = A % shlN 1 (wi * (b + 1)) := ⟨_, rfl⟩
  rw [← hAB, ← hAM] at N5
  rw [← hAB] at hqB
  rw [← hAB, ← hAM] at hback
  rw [← hAM] at hsm
  have N6 : News h₀ L h5 ((x, tupOf [.int AB t5, .int AM t6]) :: (L + 1 + 1, oS) :: (st5 ++ Gs.flatten)) := fun q hq => by
    rcases Lmc.mp hq with rfl | hq
    · exact N5 _ (.head _)
    · refine LB.flat q ?_
      simp only [Lfc, Lmc, Lma, Lnm, or_false] at hq ⊢
      rcases hq with h | h | h <;> simp [h]
  clear N2 N5 F2 o5 fr5 LA
  (repeat ((fail_if_success (with_reducible show wpAny _ _ (binaryOp .LShift _ _) _ _ _)); tupd_look))
  refine shl_step (N := AB) rfl (k := wi * (b + 1)) (by walk_at "SI") hqB (by omega) ?_
  (repeat ((fail_if_success (with_reducible show wpAny _ _ (compareOp .NotEq _ _) _ _ _)); tupd_look))
  rw [hback]
  (repeat ((fail_if_success (with_reducible show wpAny _ _ (binaryOp .BitOr _ _) _ _ _)); tupd_look))
  (repeat ((fail_if_success (with_reducible show wpAny _ _ (binaryOp .BitOr _ _) _ _ _)); tupd_look))
  refine or_int ?_
  rw [bitOr_nat]
  (repeat ((fail_if_success (with_reducible show wpAny _ _ (storeName _ _ _) _ _ _)); tupd_look))
  tupd_look
  tupd_look
  rename News _ _ _ _ => N9
  rename Fr _ _ _ _ => F9
  have e9 : N0 ||| AM = N0 ||| shlN N0 (wi * p + 1) % shlN 1 (wi * (b + 1)) := by rw [hAM, hA]
  refine hQ _ _ _ ?tt st5 F9 ?hh1 ?hh2 (e9 ▸ hsm) hst5 ⟨fun g hg q hq => N9 q (.tail _ ?_), LB.front2.d⟩
  case hh1 => rw [← e9]; exact if_pos rfl
  case hh2 => exact fun y h1 h2 h3 h4 => (if_neg h1).trans ((if_neg h2).trans ((if_neg h3).trans (if_neg h4)))
  have := Lmf.mpr ⟨g, hg, hq⟩
  show q ∈ (L + 1 + 1, oS) :: (st5 ++ Gs.flatten)
  simpa using this
end
end
section
theorem rs_YF : True := by
  w_top off
  trivial
section
end
section
noncomputable def forTarget : Stmt -> Expr
  | .For t _ _ _ _ => t
  | _ => default
theorem loop_asg (hl : LawDef w body scope) (cx : Cx w 30 dp un A₀ (envOfC (Zs "law") scope L fa cd) [] h₀ h₀ L) (F : Fr h₀ L s.heap m) {oL oS : Obj} {q : Piece} {T : Addr} {t1 t2 t3 : Tok} {gT : List (Addr × Obj)} {vL vS : Option Value} {q' : Unit -> Shared -> Prop}
    (Ld : Led h₀ s.heap L ([(L + 1, oL)] :: [(L + 1 + 1, oS)] :: gT :: Gs)) (hT : (T, tupOf [.int q.b t1, .str ⟨#[q.x]⟩ t2, .int q.p t3]) ∈ gT) (hoL : oL.data = .cell vL) (hoS : oS.data = .cell vS)
    (hQ : ∀ h' tk oL' oS', Fr h₀ L h' (fun y => if y = Zs "bound" then some (.int q.b t1) else m y) -> oL'.data = .cell (some (.str ⟨#[q.x]⟩ t2)) -> oS'.data = .cell (some (.int q.p t3)) -> Led h₀ h' L ([(L + 1, oL')] :: [(L + 1 + 1, oS')] :: gT :: Gs) -> q' () { s with heap := h', toks := tk })
    : wpAny (model RWQ.row.prog w) (AA dp un (envOfC (Zs "law") scope L fa cd) []) (assign (forTarget (body.getD 7 (.Pass default))) (envOfC (Zs "law") scope L fa cd) (.ref T)) q' E s := by
  revert cx hQ
  apply law_open w body scope _ hl
  intro hl0 cx hQ
  (try dsimp only [Lds, Ldz])
  (try dsimp only)
  (try k_fold)
  have X1 := cx.X
  have B1 := cx.B
  have hf1 := cx.f
  have hke1 := cx.k
  have hdp1 := cx.d
  have hun1 := cx.u
  obtain ⟨p1, loose1, mean1, mg1, mb1, T1⟩ := cx.T
  have N : News h₀ L s.heap ((T, tupOf [.int q.b t1, .str ⟨#[q.x]⟩ t2, .int q.p t3]) :: ([(L + 1, oL)] :: [(L + 1 + 1, oS)] :: gT :: Gs).flatten) := news_cons (Ld.flat _ (by first | f_congr_eq | simp [hT])) Ld.flat
  with_unfolding_all show wpAny _ _ (assign (Expr.Tuple _ _ _) _ _) _ _ _
  (repeat ((fail_if_success (with_reducible show wpAny _ _ (storeName _ _ _) _ _ _)); w_once))
  w_once
  (repeat ((fail_if_success (with_reducible show wpAny _ _ (storeName _ _ _) _ _ _)); w_once))
  rename News _ _ _ _ => N3
  rename Fr _ _ _ _ => F3
  have L3 : Led h₀ _ L ([(L + 1, oL)] :: [(L + 1 + 1, oS)] :: gT :: Gs) := ⟨fun g hg z hz => N3 z (.tail _ (Lmf.mpr ⟨g, hg, hz⟩)), Ld.d⟩
  refine led_cellG (by rfl) (by rfl) (by with_unfolding_all rfl) F3 L3 hoL ?_
  intro h4 oL' F4 L4 hoL'
  have N : News h₀ L h4 ((T, tupOf [.int q.b t1, .str ⟨#[q.x]⟩ t2, .int q.p t3]) :: ([(L + 1, oL')] :: [(L + 1 + 1, oS)] :: gT :: Gs).flatten) := news_cons (L4.flat _ (by first | f_congr_eq | simp [hT])) L4.flat
  clear N3 F3
  (repeat ((fail_if_success (with_reducible show wpAny _ _ (storeName _ _ _) _ _ _)); w_once))
  rename News _ _ _ _ => N5
  rename Fr _ _ _ _ => F5
  have L5 : Led h₀ _ L ([(L + 1, oL')] :: [(L + 1 + 1, oS)] :: gT :: Gs) := ⟨fun g hg z hz => N5 z (.tail _ (Lmf.mpr ⟨g, hg, hz⟩)), L4.d⟩
  refine led_cellG (by rfl) (by rfl) (by with_unfolding_all rfl) F5 L5.front2 hoS ?_
  intro h6 oS' F6 L6 hoS'
  exact assignInOrder_nil (hQ _ _ oL' oS' F6 hoL' hoS' L6.front2)
end
end
section
open PySem PySem.W PySem.Calls PyProof.Rows PyProof.V PySem.Spec PyProof.Rows.LCg
noncomputable def pairK (q : Piece) : Str × Str := (Txt.mul (Zs " ") ((q.p : Int) - 1), ⟨#[q.x]⟩)
structure PsOk (ps : List Piece) : Prop where
  len : ps.length ≤ 6
  x : ∀ q ∈ ps, 97 ≤ q.x ∧ q.x ≤ 102
  p : ∀ q ∈ ps, 1 ≤ q.p ∧ q.p ≤ 9
  b : ∀ q ∈ ps, q.b ≤ 20
  nd : (ps.map (·.x)).Nodup
  up : ps.Pairwise fun q z => plt q z = true
structure LoopOk (wi : Nat) (ps : List Piece) (k : Nat) (kept : List Piece) (N : Nat) : Prop where
  st : srt kept = stay (((ps.take k).map bp).reverse)
  tm : InTime kept
  nu : ∀ t c, c < wi -> (N.testBit (wi * t + c) = true ↔ Sel (((ps.take k).map bp).reverse) t c)
  sub : ∀ z ∈ kept, z ∈ ps.take k
  nd : (kept.map (·.x)).Nodup
noncomputable def keysK (ps : List Piece) : List (Str × Int × Str) := ps.flatMap fun z => tri3 z.x z.p
noncomputable abbrev rowG (w : World) (rw d : Addr) (rl : List (Addr × Obj)) (e fi : Nat) (tf tk0 : Tok) : List (Addr × Obj) := rowAt w rw d (refsOf rl) e fi tf tk0 ++ rl
noncomputable abbrev loopG (w : World) (L DA rw d : Addr) (tl : List (Addr × Obj)) (eA : Nat) (rl : List (Addr × Obj)) (e fi : Nat) (tf tk0 : Tok) (oL oS o1 o2 : Obj) (p : RecP) (qs : List RuleQ) (st dm : List (Addr × Obj)) (Gs : List (List (Addr × Obj))) : List (List (Addr × Obj)) :=
  [(L + 1, oL)] :: [(L + 1 + 1, oS)] :: ((DA, Wl (refsOf tl).toArray eA) :: tl) :: rowG w rw d rl e fi tf tk0 :: [(140, o1)] :: [(147, o2)] :: recObjs w p (ruleRefs qs) :: (rulesObjs w qs ++ st) :: dm :: Gs
structure LoopSt (wi fi : Nat) (rw d ra : Addr) (ps : List Piece) (m : Str -> Option Value) (m0 : Str -> Option Value) (k : Nat) (kept : List Piece) (N : Nat) (oL oS o1 o2 : Obj) (rl : List (Addr × Obj)) (p : RecP) (qs : List RuleQ) (st dm : List (Addr × Obj)) : Prop where
  kl : k ≤ ps.length
  ok : LoopOk wi ps k kept N
  mN : ∃ t, m (Zs "number") = some (.int N t)
  mO : ∀ y, y ≠ Zs "number" -> y ≠ Zs "rest" -> y ≠ Zs "over" -> y ≠ Zs "moved" -> y ≠ Zs "bound" -> m y = m0 y
  cL : cellHolds oL
  cS : cellHolds oS
  tu : TupsAre rl ((kept.map pairK).map pieceD)
  off : ∀ z ∈ rl, z.1 ≠ rw ∧ z.1 ≠ d
  t1 : TabOk o1
  t2 : TabOk o2
  pa : p.a = ra
  pd : p.a ≠ p.d ∧ p.a ≠ p.l2 ∧ p.d ≠ p.l2
  key : qs.map RuleQ.key = keysK (ps.take k)
  rok : ∀ q ∈ qs, RuleOk q.p q.x q.n
  nt : NestTab 249 214 22 qLam st
  n2 : st.length = 2 ∨ qs = []
  dt : DmpTab dm
  sm : Small N
end
section
open PySem PySem.W PySem.Calls PyProof.Rows PyProof.V PySem.Spec PyProof.Rows.LCg
theorem fold_rep (c : Nat) : ∀ (n : Nat) (acc : Array Nat), ((List.replicate n #[c]).foldl (· ++ ·) acc).toList = acc.toList ++ List.replicate n c
  | 0, acc => by simp
  | n + 1, acc => by
    rw [List.replicate_succ, List.foldl_cons, fold_rep c n]
    simp [List.replicate_succ]
theorem blank_cps (p : Nat) : (Txt.mul (Zs " ") ((p : Int) - 1)).cps.toList = List.replicate (p - 1) 32 := by
  unfold Txt.mul
  split
  · rw [show p - 1 = 0 by omega]; rfl
  · split
    · rename_i h1 h2
      have hl : (Zs " ").length = 1 := by decide
      rw [hl] at h2
      have : ((p : Int) - 1) = 1 := by simpa using h2
      rw [show p - 1 = 1 by omega]; decide
    · have e : (Zs " ").cps = #[32] := by decide
      rw [e]
      show ((List.replicate ((p : Int) - 1).toNat #[32]).foldl (· ++ ·) #[]).toList = _
      rw [fold_rep, show ((p : Int) - 1).toNat = p - 1 by omega]
      simp
theorem totLen_K : ∀ row : List Piece, (∀ q ∈ row, 1 ≤ q.p) -> totLen (row.map pairK) = tot row
  | [], _ => rfl
  | q :: row, h => by
    have ih := totLen_K row fun z hz => h z (.tail _ hz)
    have h1 := h q (.head _)
    have h2 : (Txt.mul (Zs " ") ((q.p : Int) - 1)).length = q.p - 1 := by
      have := congrArg List.length (blank_cps q.p)
      rw [List.length_replicate, Array.length_toList] at this
      exact this
    unfold totLen tot at *
    rw [Lpc, Lpc, List.sum_cons, Lpc, List.sum_cons, ih]
    show (Txt.mul _ _).length + 1 + _ = _
    rw [h2]; omega
theorem mem_joinE (c : Nat) (ts : List Str) : c ∈ (Txt.join (Zs "") ts).cps.toList ↔ ∃ t ∈ ts, c ∈ t.cps.toList := by
  have h : Txt.join (Zs "") ts = Str.join (Zs "") ts := StrLaws.glued_eq_join _ _
  have h2 : c ∉ (Zs "").cps.toList := by
    have : (Zs "").cps = #[] := by decide
    rw [this]; simp
  rw [h, mem_join]
  exact ⟨fun x => x.resolve_right fun y => h2 y.2, .inl⟩
theorem mem_rowText (c : Nat) (pcs : List (Str × Str)) : c ∈ (rowText pcs).cps.toList ↔ ∃ p ∈ pcs, c ∈ p.1.cps.toList ∨ c ∈ p.2.cps.toList := by
  unfold rowText
  rw [mem_joinE]
  constructor
  · rintro ⟨t, ht, hc⟩
    obtain ⟨p, hp, rfl⟩ := Lmm.mp ht
    rw [mem_joinE] at hc
    obtain ⟨u, hu, hc⟩ := hc
    simp only [Lmc, Lnm, or_false] at hu
    rcases hu with rfl | rfl
    · exact ⟨p, hp, .inl hc⟩
    · exact ⟨p, hp, .inr hc⟩
  · rintro ⟨p, hp, hc⟩
    refine ⟨_, Lmm.mpr ⟨p, hp, rfl⟩, ?_⟩
    rw [mem_joinE]
    rcases hc with hc | hc
    · exact ⟨p.1, .head _, hc⟩
    · exact ⟨p.2, .tail _ (.head _), hc⟩
theorem mem_rowK (c : Nat) (row : List Piece) : c ∈ (rowText (row.map pairK)).cps.toList ↔ (∃ q ∈ row, 2 ≤ q.p ∧ c = 32) ∨ ∃ q ∈ row, c = q.x := by
  rw [mem_rowText]
  constructor
  · rintro ⟨z, hz, hc⟩
    obtain ⟨q, hq, rfl⟩ := Lmm.mp hz
    rcases hc with hc | hc
    · have h1 : c ∈ (Txt.mul (Zs " ") ((q.p : Int) - 1)).cps.toList := hc
      rw [blank_cps, List.mem_replicate] at h1
      exact .inl ⟨q, hq, by omega, h1.2⟩
    · have h1 : c ∈ [q.x] := hc
      exact .inr ⟨q, hq, Lms.mp h1⟩
  · rintro (⟨q, hq, h2, rfl⟩ | ⟨q, hq, rfl⟩)
    · refine ⟨_, Lmm.mpr ⟨q, hq, rfl⟩, .inl ?_⟩
      show 32 ∈ (Txt.mul (Zs " ") ((q.p : Int) - 1)).cps.toList
      rw [blank_cps, List.mem_replicate]
      exact ⟨by omega, rfl⟩
    · exact ⟨_, Lmm.mpr ⟨q, hq, rfl⟩, .inr (show q.x ∈ [q.x] from .head _)⟩
theorem rowSigns_K {row : List Piece} (h : ∀ q ∈ row, 97 ≤ q.x ∧ q.x ≤ 102) : RowSigns (rowText (row.map pairK)) := fun c hc => by
  rcases (mem_rowK c row).mp hc with ⟨q, _, _, rfl⟩ | ⟨q, hq, rfl⟩
  · exact .inl rfl
  · exact .inr (h q hq)
theorem onRow {row : List Piece} {c : Nat} (hc : 97 ≤ c) : c ∈ (rowText (row.map pairK)).cps.toList ↔ ∃ q ∈ row, c = q.x := by
  rw [mem_rowK]
  exact ⟨fun h => h.resolve_left fun ⟨_, _, _, e⟩ => by omega, .inr⟩
noncomputable def tellP (y : Option Str) (z : Piece) : Int × Str := (if hits ⟨#[z.x]⟩ y then (z.p : Int) else 0, ⟨#[z.x]⟩)
theorem fold_keys {qs : List RuleQ} {ps : List Piece} (hkey : qs.map RuleQ.key = keysK ps) (y : Option Str) : (qs.map (RuleQ.tell y)).foldl alStep (-1, none) = firstLong (-1, none) (ps.map (tellP y)) := by
  have h1 : qs.map (RuleQ.tell y) = (qs.map RuleQ.key).map (fun k => (if hits k.1 y then k.2.1 else 0, k.2.2)) := by
    rw [Lmq]; rfl
  have h2 : (keysK ps).map (fun k : Str × Int × Str => (if hits k.1 y then k.2.1 else 0, k.2.2)) = (ps.map (tellP y)).flatMap fun q => tri q.1 q.2 := by
    unfold keysK
    rw [List.map_flatMap, List.flatMap_map]
    rfl
  rw [h1, hkey, h2]
  refine fold_tri _ _ ?_ (fun v h => nomatch h) (fun _ => by decide)
  intro q hq
  obtain ⟨z, _, rfl⟩ := Lmm.mp hq
  refine ⟨(by decide : (1 : Nat) ≠ 0), ?_⟩
  show 0 ≤ (if hits ⟨#[z.x]⟩ y then (z.p : Int) else 0)
  split <;> omega
theorem first_long : ∀ (r : List (Int × Str)), (∃ q ∈ r, 1 ≤ q.1) -> ∃ A m x B, r = A ++ (m, x) :: B ∧ 1 ≤ m ∧ (∀ q ∈ A, q.1 < m) ∧ ∀ q ∈ B, q.1 ≤ m
  | [], ⟨_, h, _⟩ => nomatch h
  | (m, x) :: r, h => by
    by_cases hr : ∃ q ∈ r, 1 ≤ q.1 ∧ m < q.1
    · obtain ⟨q, hq, h1, h2⟩ := hr
      obtain ⟨A, m', x', B, rfl, hm, hA, hB⟩ := first_long r ⟨q, hq, h1⟩
      have hmm : m < m' := by
        rcases Lma.mp hq with hq | hq
        · have := hA q hq; omega
        · rcases Lmc.mp hq with rfl | hq
          · exact h2
          · have := hB q hq; omega
      refine ⟨(m, x) :: A, m', x', B, rfl, hm, fun q hq => ?_, hB⟩
      rcases Lmc.mp hq with rfl | hq
      · exact hmm
      · exact hA q hq
    · have hr' : ∀ q ∈ r, 1 ≤ q.1 -> q.1 ≤ m := fun q hq h1 => Int.not_lt.mp fun h2 => hr ⟨q, hq, h1, h2⟩
      have hm : 1 ≤ m := by
        obtain ⟨q, hq, h1⟩ := h
        rcases Lmc.mp hq with rfl | hq
        · exact h1
        · have := hr' q hq h1; omega
      refine ⟨[], m, x, r, rfl, hm, fun _ h => (nomatch h), fun q hq => ?_⟩
      by_cases h1 : 1 ≤ q.1
      · exact hr' q hq h1
      · omega
end
section
open PySem PySem.W PySem.Calls PyProof.Rows PyProof.V PySem.Spec PyProof.Rows.LCg
theorem same_x {l : List Piece} (nd : (l.map (·.x)).Nodup) {u v : Piece} (hu : u ∈ l) (hv : v ∈ l) (e : u.x = v.x) : u = v := by
  induction l with
  | nil => cases hu
  | cons a l ih =>
    rw [Lpc, List.nodup_cons] at nd
    rcases Lmc.mp hu with h1 | h1
    · rcases Lmc.mp hv with h2 | h2
      · rw [h1, h2]
      · exact absurd (Lmm.mpr ⟨v, h2, by rw [← e, h1]⟩) nd.1
    · rcases Lmc.mp hv with h2 | h2
      · exact absurd (Lmm.mpr ⟨u, h1, by rw [e, h2]⟩) nd.1
      · exact ih nd.2 h1 h2
theorem letter_inj {a b : Nat} (h : (⟨#[a]⟩ : Str) = ⟨#[b]⟩) : a = b := by injection h with h; simpa using h
theorem long_on_row {qs : List RuleQ} {dn row : List Piece} (hkey : qs.map RuleQ.key = keysK dn) (hx : ∀ q ∈ dn, 97 ≤ q.x ∧ q.x ≤ 102) (hp : ∀ q ∈ dn, 1 ≤ q.p) (nd : (dn.map (·.x)).Nodup) (sub : ∀ z ∈ row, z ∈ dn) (hne : row ≠ []) :
    ∃ z ∈ row, (∀ u ∈ row, u.p ≤ z.p) ∧ ((qs.map (RuleQ.tell (some (Txt.upper (rowText (row.map pairK)) ++ Zs "*/abcdef")))).foldl alStep (-1, none)).2 = some ⟨#[z.x]⟩ := by
  obtain ⟨y, hy⟩ : ∃ y, y = some (Txt.upper (rowText (row.map pairK)) ++ Zs "*/abcdef") := ⟨_, rfl⟩
  rw [← hy, fold_keys hkey]
  have tv : ∀ z ∈ dn, (z ∈ row -> tellP y z = ((z.p : Int), ⟨#[z.x]⟩)) ∧ (z ∉ row -> tellP y z = (0, ⟨#[z.x]⟩)) := fun z hz => by
    have h1 : hits ⟨#[z.x]⟩ y = decide (z.x ∈ (rowText (row.map pairK)).cps.toList) := by
      rw [hy]; exact hits_row (rowSigns_K fun q hq => hx q (sub q hq)) (hx z hz)
    unfold tellP
    rw [h1]
    refine ⟨fun h => ?_, fun h => ?_⟩
    · rw [if_pos (by rw [decide_eq_true_eq]; exact (onRow (hx z hz).1).mpr ⟨z, h, rfl⟩)]
    · rw [if_neg (by
        rw [decide_eq_true_eq]
        intro h2
        obtain ⟨u, hu, e⟩ := (onRow (hx z hz).1).mp h2
        exact h (same_x nd hz (sub u hu) e ▸ hu))]
  obtain ⟨u0, hu0⟩ : ∃ u, u ∈ row := by
    cases row with
    | nil => exact absurd rfl hne
    | cons a _ => exact ⟨a, .head _⟩
  obtain ⟨A, m, x, B, he, hm, hA, hB⟩ := first_long (dn.map (tellP y)) ⟨_, Lmm.mpr ⟨u0, sub u0 hu0, rfl⟩, by rw [(tv u0 (sub u0 hu0)).1 hu0]; have := hp u0 (sub u0 hu0); show (1 : Int) ≤ u0.p; omega⟩
  have hmx : (m, x) ∈ dn.map (tellP y) := by rw [he]; exact Lar _ (.head _)
  obtain ⟨z, hz, ez⟩ := Lmm.mp hmx
  have hzr : z ∈ row := by
    by_cases h : z ∈ row
    · exact h
    · rw [(tv z hz).2 h] at ez
      injection ez with e1 e2
      omega
  rw [(tv z hz).1 hzr] at ez
  injection ez with e1 e2
  refine ⟨z, hzr, fun u hu => ?_, ?_⟩
  · have h1 : ((u.p : Int), (⟨#[u.x]⟩ : Str)) ∈ dn.map (tellP y) := Lmm.mpr ⟨u, sub u hu, (tv u (sub u hu)).1 hu⟩
    rw [he] at h1
    have : (u.p : Int) ≤ m := by
      rcases Lma.mp h1 with h1 | h1
      · have := hA _ h1; exact Int.le_of_lt this
      · rcases Lmc.mp h1 with h1 | h1
        · injection h1 with h1 _; omega
        · exact hB _ h1
    omega
  · rw [he, firstLong_at hm hB A (-1, none) hA (by show (-1 : Int) < m; omega), e2]
theorem letgo_is {qs : List RuleQ} {dn kept : List Piece} {q : Piece} (hkey : qs.map RuleQ.key = keysK dn) (hx : ∀ q ∈ dn, 97 ≤ q.x ∧ q.x ≤ 102) (hp : ∀ q ∈ dn, 1 ≤ q.p) (nd : (dn.map (·.x)).Nodup) (sub : ∀ z ∈ kept ++ [q], z ∈ dn) (nr : ((kept ++ [q]).map (·.x)).Nodup) :
    (∃ pcs', LetGo qs q.b ((kept ++ [q]).map pairK) pcs') ∧ ∀ pcs', LetGo qs q.b ((kept ++ [q]).map pairK) pcs' -> ∃ kept', pcs' = kept'.map pairK ∧ Turn kept q kept' ∧ kept'.Sublist (kept ++ [q]) := by
  have ht : totLen ((kept ++ [q]).map pairK) = tot kept + q.p := by
    rw [totLen_K _ fun z hz => hp z (sub z hz), tot_append]; rfl
  obtain ⟨z, hz, hmax, hfold⟩ := long_on_row hkey hx hp nd sub (by simp)
  constructor
  · by_cases hb : q.b < totLen ((kept ++ [q]).map pairK)
    · obtain ⟨A, B, hAB⟩ := List.append_of_mem hz
      refine ⟨A.map pairK ++ B.map pairK, .inr ⟨hb, A.map pairK, B.map pairK, (pairK z).1, ⟨#[z.x]⟩, ?_, ?_, hfold, rfl⟩⟩
      · rw [hAB, Lmp, Lpc]; rfl
      · intro u hu e
        obtain ⟨v, hv, rfl⟩ := Lmm.mp hu
        have e2 : v.x = z.x := letter_inj e
        rw [hAB, Lmp, Lpc, List.nodup_append] at nr
        have := (List.nodup_cons.mp nr.2.1).1
        exact this (Lmm.mpr ⟨v, hv, e2⟩)
    · exact ⟨_, .inl ⟨hb, rfl⟩⟩
  · rintro pcs' (⟨hb, rfl⟩ | ⟨hb, A, B, bl, x, hAB, hB, hf, rfl⟩)
    · exact ⟨_, rfl, .inl ⟨by omega, rfl⟩, List.Sublist.refl _⟩
    · obtain ⟨A', R', hk, rfl, hR⟩ := List.map_eq_append_iff.mp hAB
      obtain ⟨z', B', rfl, hz', rfl⟩ := List.map_eq_cons_iff.mp hR
      rw [hfold] at hf
      have e1 : (⟨#[z.x]⟩ : Str) = x := Option.some.inj hf
      have e2 : (pairK z').2 = x := by rw [hz']
      have e3 : z'.x = z.x := letter_inj (e2.trans e1.symm)
      have hz'r : z' ∈ kept ++ [q] := by rw [hk]; exact Lar _ (.head _)
      have hzz : z' = z := same_x nr hz'r hz e3
      refine ⟨A' ++ B', (Lmp ..).symm, .inr ⟨by omega, A', z', B', hk, fun a ha => ?_, rfl⟩, ?_⟩
      · rw [hzz]
        refine hmax a ?_
        rw [hk]
        rcases Lma.mp ha with h | h
        · exact Lal _ h
        · exact Lar _ (.tail _ h)
      · rw [hk]
        exact List.Sublist.append (List.Sublist.refl _) (List.sublist_cons_self _ _)
end
section
open PySem PySem.W PySem.Calls PyProof.Rows PyProof.V PySem.Spec PyProof.Rows.LCg
theorem bounds_pw : ∀ {l : List (Nat × Nat)}, l.Pairwise (fun a b => b.1 ≤ a.1) -> Bounds l
  | [], _ => trivial
  | (b, p) :: l, h => by
    have h' := List.pairwise_cons.mp h
    exact ⟨h'.1, bounds_pw h'.2⟩
theorem plt_le {a b : Piece} (h : plt a b = true) : a.b ≤ b.b := by
  unfold plt at h
  simp only [Bool.or_eq_true, Bool.and_eq_true, decide_eq_true_eq] at h
  omega
theorem bounds_ps {ps : List Piece} (h : ps.Pairwise fun q z => plt q z = true) : Bounds ((ps.map bp).reverse) := by
  refine bounds_pw ?_
  rw [List.pairwise_reverse, List.pairwise_map]
  exact h.imp fun h => plt_le h
theorem take_rev {ps : List Piece} {k : Nat} (hk : k < ps.length) : ((ps.take (k + 1)).map bp).reverse = (ps[k].b, ps[k].p) :: ((ps.take k).map bp).reverse := by
  rw [← List.take_append_getElem hk, Lmp, List.reverse_append]; rfl
theorem loop_step {wi k N : Nat} {ps kept kept' : List Piece} (hps : PsOk ps) (hk : k < ps.length) (hw : 7 ≤ wi) (ok : LoopOk wi ps k kept N) (t : Turn kept ps[k] kept') (sb : kept'.Sublist (kept ++ [ps[k]])) (hx : ∀ z ∈ ps.take k, z.x ≠ ps[k].x) :
    LoopOk wi ps (k + 1) kept' (N ||| shlN N (wi * ps[k].p + 1) % shlN 1 (wi * (ps[k].b + 1))) := by
  have hB := bounds_ps (hps.up.sublist (List.take_sublist (k + 1) ps))
  rw [take_rev hk] at hB
  refine ⟨?_, ?_, ?_, fun z hz => ?_, ?_⟩
  · rw [take_rev hk]; exact turn_stay ok.st t
  · exact turn_time ok.st hB ok.tm t
  · rw [take_rev hk]
    have h := num_step (b := ps[k].b) (p := ps[k].p) hw (by rw [List.length_reverse, Llm, Llt]; have := hps.len; omega) ok.nu
    unfold shlN
    rw [Nat.one_mul]
    exact h
  · rw [← List.take_append_getElem hk]
    rcases Lma.mp (sb.subset hz) with h | h
    · exact Lal _ (ok.sub z h)
    · exact Lar _ h
  · refine List.Nodup.sublist (sb.map _) ?_
    rw [Lmp, List.nodup_append]
    refine ⟨ok.nd, by simp, fun a ha b hb e => ?_⟩
    obtain ⟨z, hz, rfl⟩ := Lmm.mp ha
    rw [Lpc, List.map_nil, Lms] at hb
    exact hx z (ok.sub z hz) (e.trans hb)
theorem loop_zero {wi : Nat} {ps : List Piece} : LoopOk wi ps 0 [] 1 := by
  refine ⟨rfl, ?_, ?_, fun z hz => (nomatch hz), List.nodup_nil⟩
  · intro A z B h
    have := congrArg List.length h
    simp at this
  · intro t c hc
    exact num_zero t c hc
theorem take_ne {ps : List Piece} {k : Nat} (hps : PsOk ps) (hk : k < ps.length) : ∀ z ∈ ps.take k, z.x ≠ ps[k].x := fun z hz e => by
  have h := hps.nd.sublist ((List.take_sublist (k + 1) ps).map _)
  rw [← List.take_append_getElem hk, Lmp, List.nodup_append] at h
  exact h.2.2 z.x (Lmm.mpr ⟨z, hz, rfl⟩) ps[k].x (by simp) e
theorem keys_take {ps : List Piece} {k : Nat} (hk : k < ps.length) : keysK (ps.take (k + 1)) = keysK (ps.take k) ++ tri3 ps[k].x ps[k].p := by
  unfold keysK
  rw [← List.take_append_getElem hk, List.flatMap_append]
  simp
end
section
open PySem PySem.W PySem.Calls PyProof.Rows PyProof.V PySem.Spec PyProof.Rows.LCg
theorem keys_good {qs : List RuleQ} {dn : List Piece} (hkey : qs.map RuleQ.key = keysK dn) (hx : ∀ q ∈ dn, 97 ≤ q.x ∧ q.x ≤ 102) (hp : ∀ q ∈ dn, 1 ≤ q.p) (hr : ∀ q ∈ qs, RuleOk q.p q.x q.n) : ∀ q ∈ qs, q.good := fun q hq => by
  have h1 : q.key ∈ keysK dn := by rw [← hkey]; exact Lmm.mpr ⟨q, hq, rfl⟩
  obtain ⟨z, hz, h2⟩ := List.mem_flatMap.mp h1
  have e0 : (Zs "").length = 0 := by decide
  have e1 : (⟨#[z.x]⟩ : Str).length = 1 := rfl
  have h3 : q.x = ⟨#[z.x]⟩ ∧ q.n = z.p ∧ q.v.length ≤ 10 := by
    simp only [tri3, Lmc, Lnm, or_false, RuleQ.key, Prod.mk.injEq] at h2
    rcases h2 with ⟨a, b, c⟩ | ⟨a, b, c⟩ | ⟨a, b, c⟩
    · exact ⟨a, b, by rw [c, e0]; omega⟩
    · exact ⟨a, b, by rw [c, e1]; omega⟩
    · exact ⟨a, b, by rw [c, e0]; omega⟩
  obtain ⟨hu1, hu2⟩ := letter_ok z.x (hx z hz)
  have hp1 := hp z hz
  refine ⟨hr q hq, by rw [h3.1, e1]; omega, by rw [h3.1]; exact hu1, by rw [h3.1]; exact hu2, h3.2.2, by rw [h3.2.1]; omega⟩
theorem joinE_len : ∀ ts : List Str, (Txt.join (Zs "") ts).length = (ts.map (·.length)).sum := fun ts => by
  have h : ∀ ts, Txt.join (Zs "") ts = Str.join (Zs "") ts := fun ts => StrLaws.glued_eq_join _ _
  have e : Zs "" = ⟨#[]⟩ := by decide
  rw [h, e]
  induction ts with
  | nil => rfl
  | cons a ts ih =>
    cases ts with
    | nil => simp [Str.join]
    | cons b ts =>
      show (a ++ ⟨#[]⟩ ++ Str.join ⟨#[]⟩ (b :: ts)).length = _
      rw [Lpc, List.sum_cons, ← ih]
      show (a.cps ++ #[] ++ (Str.join ⟨#[]⟩ (b :: ts)).cps).size = a.cps.size + (Str.join ⟨#[]⟩ (b :: ts)).cps.size
      simp
theorem rowText_len (pcs : List (Str × Str)) : (rowText pcs).length = totLen pcs := by
  unfold rowText totLen
  rw [joinE_len, Lmq]
  congr 1
  apply List.map_congr_left
  intro p _
  show (Txt.join (Zs "") [p.1, p.2]).length = _
  rw [joinE_len]; simp
theorem upper_rowK {row : List Piece} (h : ∀ q ∈ row, 97 ≤ q.x ∧ q.x ≤ 102) : (Txt.upper (rowText (row.map pairK))).length = (rowText (row.map pairK)).length := by
  have h1 := upper_list (x := rowText (row.map pairK)) (fun c hc => by
    rcases rowSigns_K h c hc with rfl | h
    · decide
    · omega)
  have h2 := congrArg List.length h1
  rw [Llm, Array.length_toList, Array.length_toList] at h2
  exact h2
theorem app_len (a b : Str) : (a ++ b).length = a.length + b.length := by
  show (a.cps ++ b.cps).size = a.cps.size + b.cps.size
  simp
theorem perm8 {α : Type} (a b r c l t x y : α) (Z : List α) : (a :: b :: r :: c :: l :: t :: x :: y :: Z).Perm (r :: x :: y :: c :: l :: a :: b :: t :: Z) := by
  have h : [0, 1, 2, 3, 4, 5, 6, 7].Perm [2, 6, 7, 3, 4, 0, 1, 5] := by decide
  exact (h.map fun i => match i with
    | 0 => a
    | 1 => b
    | 2 => r
    | 3 => c
    | 4 => l
    | 5 => t
    | 6 => x
    | _ => y).append_right Z
theorem perm9 {α : Type} (r x y c l a b t d : α) (Z : List α) : (r :: x :: y :: c :: l :: a :: b :: t :: d :: Z).Perm (b :: d :: r :: x :: y :: c :: l :: a :: t :: Z) := by
  have h : [0, 1, 2, 3, 4, 5, 6, 7, 8].Perm [6, 8, 0, 1, 2, 3, 4, 5, 7] := by decide
  exact (h.map fun i => match i with
    | 0 => r
    | 1 => x
    | 2 => y
    | 3 => c
    | 4 => l
    | 5 => a
    | 6 => b
    | 7 => t
    | _ => d).append_right Z
theorem perm10 {α : Type} (b d r x y c l a t i : α) (Z : List α) : (b :: d :: r :: x :: y :: c :: l :: a :: t :: i :: Z).Perm (i :: a :: b :: t :: r :: x :: y :: c :: l :: d :: Z) := by
  have h : [0, 1, 2, 3, 4, 5, 6, 7, 8, 9].Perm [9, 7, 0, 8, 2, 3, 4, 5, 6, 1] := by decide
  exact (h.map fun i' => match i' with
    | 0 => b
    | 1 => d
    | 2 => r
    | 3 => x
    | 4 => y
    | 5 => c
    | 6 => l
    | 7 => a
    | 8 => t
    | _ => i).append_right Z
theorem nodup_le (c : Nat) : ∀ (n : Nat) (l : List Nat), l.Nodup -> (∀ a ∈ l, c ≤ a ∧ a < c + n) -> l.length ≤ n
  | 0, [], _, _ => Nat.le_refl _
  | 0, a :: l, _, h => by have := h a (.head _); omega
  | n + 1, l, nd, h => by
    by_cases hm : (c + n) ∈ l
    · have h1 := nodup_le c n (l.erase (c + n)) (nd.erase _) (fun a ha => by
        have h2 := h a (List.mem_of_mem_erase ha)
        have h3 : a ≠ c + n := fun e => by subst e; exact nd.not_mem_erase ha
        omega)
      rw [List.length_erase_of_mem hm] at h1
      omega
    · have h1 := nodup_le c n l nd (fun a ha => by
        have h2 := h a ha
        have h3 : a ≠ c + n := fun e => by subst e; exact hm ha
        omega)
      omega
theorem row_six {row : List Piece} (h : ∀ q ∈ row, 97 ≤ q.x ∧ q.x ≤ 102) (nd : (row.map (·.x)).Nodup) : row.length ≤ 6 := by
  have h1 := nodup_le 97 6 _ nd (fun a ha => by
    obtain ⟨z, hz, rfl⟩ := Lmm.mp ha
    have := h z hz
    omega)
  rwa [Llm] at h1
theorem tot_le : ∀ row : List Piece, (∀ q ∈ row, q.p ≤ 9) -> tot row ≤ 9 * row.length
  | [], _ => Nat.le_refl _
  | q :: row, h => by
    have h1 := tot_le row fun z hz => h z (.tail _ hz)
    have h2 := h q (.head _)
    have h3 : tot (q :: row) = q.p + tot row := by simp [tot]
    rw [h3, Llc]; omega
theorem pair_len {q : Piece} (h : 1 ≤ q.p ∧ q.p ≤ 9) : (pairK q).1.length ≤ 100 ∧ (pairK q).2.length ≤ 100 := by
  have h1 := congrArg List.length (blank_cps q.p)
  rw [List.length_replicate, Array.length_toList] at h1
  refine ⟨?_, ?_⟩
  · show (pairK q).1.cps.size ≤ 100
    have : (pairK q).1.cps.size = q.p - 1 := h1
    omega
  · show 1 ≤ 100
    omega
end
section
open PySem PySem.W PySem.Calls PyProof.Rows PyProof.V PySem.Spec PyProof.Rows.LCg
theorem figs_eq {wi N M : Nat} {l : List (Nat × Nat)} (hw : 7 ≤ wi) (hl : l.length ≤ 6) (hN : ∀ t c, c < wi -> (N.testBit (wi * t + c) = true ↔ Sel l t c)) (hM : ∀ q ∈ chs l, q.1 ≤ M) (hM2 : ∃ c, (M, c) ∈ chs l) :
    digs N wi (numDigs N wi) = ((chs l).foldl maskF (List.replicate (M + 1) 0)).map (Int.ofNat ·) := by
  obtain ⟨h1, h2⟩ := fields_log hw hN hM hM2 hl
  have h3 : numDigs N wi ≤ M + 1 := numDigs_le (by omega) h2
  have h4 : wi * M < wi * numDigs N wi := (Nat.pow_lt_pow_iff_right (by decide)).mp (Nll h1 (numDigs_lt (X := N) (by omega)))
  have h5 : M < numDigs N wi := Nat.lt_of_mul_lt_mul_left h4
  have e : numDigs N wi = M + 1 := by omega
  rw [e, ← fields_eq hw hl hN hM, Lmq]
  rfl
theorem leastF_Q : ∀ (ms : List Nat) (i c : Nat), leastF i ms c = leastQ i ms c
  | [], _, _ => rfl
  | x :: r, i, c => by
    unfold leastF leastQ
    rw [leastF_Q r, leastF_Q r]
theorem masks_sel {M : Nat} {l : List (Nat × Nat)} (hM : ∀ q ∈ chs l, q.1 ≤ M) : ∀ t c, ((((chs l).foldl maskF (List.replicate (M + 1) 0)).getD t 0) / 2 ^ c % 2 = 1 ↔ Sel l t c) := fun t c => by
  have h := mask_bit (chs l) (List.replicate (M + 1) 0) (fun q hq => by rw [List.length_replicate]; have := hM q hq; omega) t c
  rw [Nat.testBit_eq_decide_div_mod_eq, decide_eq_true_iff] at h
  rw [h, mem_chs]
  have h0 : (List.replicate (M + 1) 0).getD t 0 = 0 := by
    rw [List.getD_eq_getElem?_getD, List.getElem?_replicate]
    split <;> rfl
  rw [h0]
  simp
theorem least_is {M : Nat} {l : List (Nat × Nat)} (hB : Bounds l) (hpos : ∀ q ∈ l, 1 ≤ q.2) (hM : ∀ q ∈ chs l, q.1 ≤ M) :
    leastF 0 ((chs l).foldl maskF (List.replicate (M + 1) 0)) 0 = (List.range ((stay l).length + 1)).map fun j => sm j (stay l) := by
  rw [leastF_Q]
  refine least_all hB hpos (fun t c _ => masks_sel hM t c) (fun t c h => ?_)
  rw [masks_length, List.length_replicate]
  have := hM (t, c) ((mem_chs l t c).mpr h)
  exact Nat.lt_succ_of_le this
theorem rising_pw : ∀ {l : List Nat}, Rising l -> l.Pairwise (· ≤ ·)
  | [], _ => .nil
  | _ :: _, h => .cons h.1 (rising_pw h.2)
theorem ins_perm (p : Nat) : ∀ l, (ins p l).Perm (p :: l)
  | [] => .refl _
  | x :: l => by
    unfold ins
    split
    · exact .refl _
    · exact ((ins_perm p l).cons x).trans (.swap ..)
theorem srt_perm : ∀ row : List Piece, (srt row).Perm (row.map (·.p))
  | [] => .refl _
  | q :: row => (ins_perm q.p (srt row)).trans ((srt_perm row).cons q.p)
end
section
theorem rs_ZF : True := by
  w_top off
  trivial
theorem drop_row : ∀ {k : Nat} {rl : List (Addr × Obj)} {kept : List Piece}, TupsAre rl ((kept.map pairK).map pieceD) -> ∀ {x : Value} {r : List Value}, x :: r = refsOf (rl.drop k) -> ∃ (hk : k < kept.length) (T : Addr) (u v : Tok), x = .ref T ∧ (T, tupOf [.str (pairK kept[k]).1 u, .str ⟨#[kept[k].x]⟩ v]) ∈ rl ∧ r = refsOf (rl.drop (k + 1)) := fun h _ _ hr => by
  rw [Lmq] at h
  obtain ⟨hk, T, vs, e1, e2, f, e3⟩ := tups_next h hr
  obtain ⟨t, u, e⟩ := flat_ss f
  exact ⟨hk, T, t, u, e1, e ▸ e2, e3⟩
theorem tot_take {kept : List Piece} {k : Nat} (hk : k < kept.length) : tot (kept.take (k + 1)) = tot (kept.take k) + kept[k].p := by
  rw [← List.take_append_getElem hk, tot_append]; simp [tot]
theorem time_at {kept : List Piece} (h : InTime kept) {k : Nat} (hk : k < kept.length) : tot (kept.take (k + 1)) ≤ kept[k].b := by
  rw [tot_take hk]
  exact h (kept.take k) kept[k] (kept.drop (k + 1)) (by rw [← List.drop_eq_getElem_cons hk, List.take_append_drop])
section
end
section
theorem seg12 (hl : LawDef w body scope) (cx : Cx w 30 dp un A₀ (envOfC (Zs "law") scope L fa cd) [] h₀ h₀ L) (F : Fr h₀ L s.heap m) {cE : Addr} {oE : Obj} {vE : Option Value} (hcE : cE = L + 1 + 1 + 1 + 1 + 1) (hoE : oE.data = .cell vE) (Ld : Led h₀ s.heap L ([(cE, oE)] :: Gs))
    (hQ : ∀ h' tk oE' t, Fr h₀ L h' m -> oE'.data = .cell (some (.int 0 t)) -> Led h₀ h' L ([(cE, oE')] :: Gs) -> wpAny (model RWQ.row.prog w) (AA dp un (envOfC (Zs "law") scope L fa cd) []) (execs (body.drop 13) (envOfC (Zs "law") scope L fa cd)) Q E { s with heap := h', toks := tk })
    : wpAny (model RWQ.row.prog w) (AA dp un (envOfC (Zs "law") scope L fa cd) []) (execs (body.drop 12) (envOfC (Zs "law") scope L fa cd)) Q E s := by
  subst hcE
  revert cx hQ
  apply law_open w body scope _ hl
  intro hl0 cx hQ
  (try dsimp only [Lds, Ldz])
  (try dsimp only [Lds, Ldz] at hQ)
  (try dsimp only)
  (try k_fold)
  have X1 := cx.X
  have B1 := cx.B
  have hf1 := cx.f
  have hke1 := cx.k
  have hdp1 := cx.d
  have hun1 := cx.u
  obtain ⟨p1, loose1, mean1, mg1, mb1, T1⟩ := cx.T
  have N := Ld.flat
  w_once
  (repeat ((fail_if_success (with_reducible show wpAny _ _ (storeName _ _ _) _ _ _)); w_once))
  rename News _ _ _ _ => N5
  rename Fr _ _ _ _ => F5
  have L5 : Led h₀ _ L ([(L + 1 + 1 + 1 + 1 + 1, oE)] :: Gs) := ⟨fun g hg p hp => N5 p (Lmf.mpr ⟨g, hg, hp⟩), Ld.d⟩
  refine led_cellG (by rfl) (by rfl) (by with_unfolding_all rfl) F5 L5 hoE ?_
  intro h6 oE' F6 L6 hoE'
  clear N5
  have N6 := L6.flat
  (repeat ((fail_if_success (with_reducible show wpAny _ _ (execs (_ :: _) _) _ _ _)); w_once))
  rename News _ _ _ _ => N9
  rename Fr _ _ _ _ => F9
  exact hQ _ _ oE' _ F9 hoE' ⟨fun g hg p hp => N9 p (Lmf.mpr ⟨g, hg, hp⟩), L6.d⟩
end
section
noncomputable abbrev endG (w : World) (cP cE DA rw d : Addr) (tl rl : List (Addr × Obj)) (eA e fi : Nat) (tf tk0 : Tok) (oP oE : Obj) (Gs : List (List (Addr × Obj))) : List (List (Addr × Obj)) :=
  [(cP, oP)] :: [(cE, oE)] :: rowG w rw d rl e fi tf tk0 :: ((DA, Wl (refsOf tl).toArray eA) :: tl) :: Gs
inductive JE (w : World) (cP cE DA rw d : Addr) (tl rl : List (Addr × Obj)) (eA e fi : Nat) (tf tk0 : Tok) (Gs : List (List (Addr × Obj))) (kept : List Piece) (m0 : Str -> Option Value) (s0 : Shared) (r : List Value) (m : Str -> Option Value) (news : List (Addr × Obj)) (s : Shared) : Prop
  | mk : ∀ k oP oE t, (r = refsOf (rl.drop k)) -> (k ≤ kept.length) -> (cellHolds oP) -> (oE.data = .cell (some (.int (tot (kept.take k) : Nat) t))) -> ((∀ y, y ≠ Zs "fws" -> m y = m0 y)) -> (AllBare s.gens) -> (s.os = s0.os) -> ((endG w cP cE DA rw d tl rl eA e fi tf tk0 oP oE Gs).Pairwise Apart) -> (news = (endG w cP cE DA rw d tl rl eA e fi tf tk0 oP oE Gs).flatten) -> JE w cP cE DA rw d tl rl eA e fi tf tk0 Gs kept m0 s0 r m news s
theorem JE.put {w : World} {cP cE DA rw d : Addr} {tl rl : List (Addr × Obj)} {eA e fi : Nat} {tf tk0 : Tok} {Gs : List (List (Addr × Obj))} {kept : List Piece} {m0 : Str -> Option Value} {s0 : Shared} (r : List Value) (m : Str -> Option Value) (news : List (Addr × Obj)) (s : Shared) (h : Heap) (tk : Nat) (hj : JE w cP cE DA rw d tl rl eA e fi tf tk0 Gs kept m0 s0 r m news s) : JE w cP cE DA rw d tl rl eA e fi tf tk0 Gs kept m0 s0 r m news { s with heap := h, toks := tk } := by
  obtain ⟨k, a, b, c, a1, a2, a3, a4, a5, a6, a7, a8, a9⟩ := hj
  exact ⟨k, a, b, c, a1, a2, a3, a4, a5, a6, a7, a8, a9⟩
theorem seg13 (hl : LawDef w body scope) (cx : Cx w 30 dp un A₀ (envOfC (Zs "law") scope L fa cd) [] h₀ h₀ L) (F : Fr h₀ L s.heap m) {rw d cP cE DA : Addr} {rl tl : List (Addr × Obj)} {e fi eA : Nat} {tf tk0 t0 : Tok} {kept ps : List Piece} {oP oE : Obj}
    (hPE : PassesOwn (model RWQ.row.prog w) (AA dp un (envOfC (Zs "law") scope L fa cd) []) (envOfC (Zs "law") scope L fa cd) E) (hcP : cP = L + 1 + 1 + 1) (hcE : cE = L + 1 + 1 + 1 + 1 + 1)
    (hrl : TupsAre rl ((kept.map pairK).map pieceD)) (htl : TupsAre tl (ps.map pcD)) (hps : PsOk ps) (hin : InTime kept) (hsub : ∀ z ∈ kept, z ∈ ps) (hk6 : kept.length ≤ 6)
    (hoP : cellHolds oP) (hoE : oE.data = .cell (some (.int 0 t0))) (hmr : m (Zs "row") = some (.ref rw)) (hmt : m (Zs "told") = some (.ref DA)) (hG : AllBare s.gens)
    (Ld : Led h₀ s.heap L (endG w cP cE DA rw d tl rl eA e fi tf tk0 oP oE Gs))
    (hQ : ∀ (s' : Shared) (m' : Str -> Option Value) (oP' oE' : Obj) (t' : Tok), Fr h₀ L s'.heap m' -> (∀ y, y ≠ Zs "fws" -> m' y = m y) -> AllBare s'.gens -> s'.os = s.os -> cellHolds oP' -> oE'.data = .cell (some (.int (tot kept : Nat) t')) -> Led h₀ s'.heap L (endG w cP cE DA rw d tl rl eA e fi tf tk0 oP' oE' Gs) -> wpAny (model RWQ.row.prog w) (AA dp un (envOfC (Zs "law") scope L fa cd) []) (execs (body.drop 14) (envOfC (Zs "law") scope L fa cd)) Q E s')
    : wpAny (model RWQ.row.prog w) (AA dp un (envOfC (Zs "law") scope L fa cd) []) (execs (body.drop 13) (envOfC (Zs "law") scope L fa cd)) Q E s := by
  revert hl cx F hPE hcP hcE hrl htl hps hin hsub hk6 hoP hoE hmr hmt hG Ld hQ
  revert w dp un A₀ h₀ L fa cd m s Q E body scope Gs rw d cP cE DA rl tl e fi eA tf tk0 t0 kept ps oP oE
  apply frz22; case n => walk_at "FZN"
  intro w dp un A₀ h₀ L fa cd m s Q E body scope Gs rw d cP cE DA rl tl
  clear_value w dp un A₀ h₀ L fa cd m s Q E body scope Gs rw d cP cE DA rl tl
  apply frz10; case n => walk_at "FZN"
  intro e fi eA tf tk0 t0 kept ps oP oE
  clear_value e fi eA tf tk0 t0 kept ps oP oE
  intro hl cx F hPE hcP hcE hrl htl hps hin hsub hk6 hoP hoE hmr hmt hG Ld hQ
  subst hcP hcE
  revert cx hPE hQ
  apply law_open w body scope _ hl
  intro hl0 cx hPE hQ
  (try dsimp only [Lds, Ldz])
  (try dsimp only [Lds, Ldz] at hQ)
  (try dsimp only)
  (try k_fold)
  have X1 := cx.X
  have B1 := cx.B
  have hf1 := cx.f
  have hke1 := cx.k
  have hdp1 := cx.d
  have hun1 := cx.u
  obtain ⟨p1, loose1, mean1, mg1, mb1, T1⟩ := cx.T
  have N : News h₀ L s.heap ((rw, accObj d (refsOf rl) e) :: (d, rowDict w fi tf tk0) :: (endG w (L + 1 + 1 + 1) (L + 1 + 1 + 1 + 1 + 1) DA rw d tl rl eA e fi tf tk0 oP oE Gs).flatten) := news_cons (Ld.flat _ (by walk_at "SI")) (news_cons (Ld.flat _ (by walk_at "SI")) Ld.flat)
  (repeat ((fail_if_success (with_reducible show wpAny _ _ (exec (Stmt.For _ _ _ _ _) _) _ _ _)); w_once))
  rename Fr _ _ _ _ => F2
  revert T1
  revert mb1; revert mg1; revert mean1; revert loose1; revert p1
  apply frz5; case n => walk_at "FZN"
  intro p1 loose1 mean1 mg1 mb1
  clear_value p1 loose1 mean1 mg1 mb1
  intro T1
  refine For_seq (h₀ := h₀) ?_ (fun _ => rfl) hPE
  iterate 1 (w_once)
  refine ⟨rw, refsOf rl, m, _, JE w (L + 1 + 1 + 1) (L + 1 + 1 + 1 + 1 + 1) DA rw d tl rl eA e fi tf tk0 Gs kept m s, rfl, rfl, F2, Ld.flat, ⟨_, _, (N _ (.head _)).1, rfl⟩, fun {Q'} q => acc_iter F2 cx.X N (.head _) (.tail _ (.head _)) (by k_is) (by k_is) q, JE.put, ?init, ?step, ?done⟩
  case init => exact ⟨0, oP, oE, t0, rfl, Nat.zero_le _, hoP, hoE, fun _ _ => rfl, hG, rfl, Ld.d, rfl⟩
  case step =>
    clear F2 N
    rintro I x r m₁ news₁ s₂ oI Qt ⟨k, oP1, oE1, te, hr, hkl, hoP1, hoE1, hmm, hG1, hos1, hd1, rfl⟩ hc F8 N8 off8 hl8 LQ
    obtain ⟨hk, T, u1, u2, rfl, hT, rfl⟩ := drop_row hrl hr
    have hz := hsub _ (List.getElem_mem hk)
    obtain ⟨z, hzz⟩ : ∃ z, z = kept[k] := ⟨_, rfl⟩
    have hzx := hps.x _ hz
    have hzp := hps.p _ hz
    have htm := time_at hin hk
    have htt := tot_take hk
    have hlf := congrArg List.length (blank_cps kept[k].p)
    rw [← hzz] at hT hz hzx hzp htm htt hlf
    rw [List.length_replicate, Array.length_toList] at hlf
    obtain ⟨fs, hfs⟩ : ∃ fs : Str, fs = (pairK z).1 := ⟨_, rfl⟩
    have hf1 : fs.length = z.p - 1 := by rw [hfs]; exact hlf
    have hf2 : fs.length ≤ 100 := by omega
    have hf3 : (⟨#[z.x]⟩ : Str).length ≤ 100 := by show 1 ≤ 100; omega
    rw [← hfs] at hT
    clear hfs hlf
    have hte : tot (kept.take k) ≤ 60 := by
      have := hps.b _ hz
      omega
    have L8 : Led h₀ s₂.heap L (endG w (L + 1 + 1 + 1) (L + 1 + 1 + 1 + 1 + 1) DA rw d tl rl eA e fi tf tk0 oP1 oE1 ([(I, oI)] :: Gs)) := by
      have h1 : Led h₀ s₂.heap L ([(I, oI)] :: endG w (L + 1 + 1 + 1) (L + 1 + 1 + 1 + 1 + 1) DA rw d tl rl eA e fi tf tk0 oP1 oE1 Gs) := .cons (fun z hz => by rw [Lms.mp hz]; exact N8 _ (.head _)) (fun g hg z hz y hy => by
        rw [Lms.mp hz]
        exact Ne.symm (off8 y (Lmf.mpr ⟨g, hg, hy⟩))) ⟨fun g hg z hz => N8 z (.tail _ (Lmf.mpr ⟨g, hg, hz⟩)), hd1⟩
      exact h1.perm (List.perm_middle (l₁ := endG w (L + 1 + 1 + 1) (L + 1 + 1 + 1 + 1 + 1) DA rw d tl rl eA e fi tf tk0 oP1 oE1 [])).symm
    obtain ⟨vP1, hvP1⟩ := hoP1
    have hmt1 : m₁ (Zs "told") = some (.ref DA) := (hmm _ (by decide)).trans hmt
    have N9 : News h₀ L s₂.heap ((T, tupOf [.str fs u1, .str ⟨#[z.x]⟩ u2]) :: (endG w (L + 1 + 1 + 1) (L + 1 + 1 + 1 + 1 + 1) DA rw d tl rl eA e fi tf tk0 oP1 oE1 ([(I, oI)] :: Gs)).flatten) := news_cons (L8.flat _ (by first | f_congr_eq | simp [hT])) L8.flat
    clear N8 off8 hl8
    revert N9; revert hmt1; revert hvP1; revert L8; revert hte; revert hf3; revert hf2; revert hf1; revert hT; revert htt; revert htm; revert hzp; revert hzx; revert hzz; revert hz; revert hr; revert LQ; revert hk; revert F8; revert hc; revert hd1; revert hos1; revert hG1; revert hmm; revert hoE1; revert hkl
    revert vP1; revert fs; revert z; revert u2; revert u1; revert T; revert te; revert oE1; revert oP1; revert k; revert Qt; revert oI; revert s₂; revert m₁; revert I
    apply frz15; case n => walk_at "FZN"
    intro I m₁ s₂ oI Qt k oP1 oE1 te T u1 u2 z fs vP1
    clear_value I m₁ s₂ oI Qt k oP1 oE1 te T u1 u2 z fs vP1
    intro hkl hoE1 hmm hG1 hos1 hd1 hc F8 hk LQ hr hz hzz hzx hzp htm htt hT hf1 hf2 hf3 hte L8 hvP1 hmt1 N9
    (repeat ((fail_if_success (with_reducible show wpAny _ _ (storeName _ _ _) _ _ _)); w_once))
    w_once
    (repeat ((fail_if_success (with_reducible show wpAny _ _ (storeName _ _ _) _ _ _)); w_once))
    rename News _ _ _ _ => N10
    rename Fr _ _ _ _ => F10
    rename_i h10
    revert N10; revert F10
    revert h10
    apply frz1; case n => walk_at "FZN"
    intro h10
    clear_value h10
    intro F10 N10
    have L10 : Led h₀ _ L (endG w (L + 1 + 1 + 1) (L + 1 + 1 + 1 + 1 + 1) DA rw d tl rl eA e fi tf tk0 oP1 oE1 ([(I, oI)] :: Gs)) := ⟨fun g hg p hp => N10 p (.tail _ (Lmf.mpr ⟨g, hg, hp⟩)), L8.d⟩
    refine led_cellG (by rfl) (by rfl) (by with_unfolding_all rfl) F10 L10 hvP1 ?_
    apply frz2; case n => walk_at "FZN"
    intro h11 oP2
    clear_value h11 oP2
    intro F11 L11 hoP2
    refine assignInOrder_nil ?_
    clear N10 F10
    have N11 : News h₀ L h11 ((L + 1 + 1 + 1, oP2) :: (L + 1 + 1 + 1 + 1 + 1, oE1) :: (rowG w rw d rl e fi tf tk0 :: ((DA, Wl (refsOf tl).toArray eA) :: tl) :: [(I, oI)] :: Gs).flatten) := L11.flat
    (repeat ((fail_if_success (with_reducible show wpAny _ _ (storeName _ _ _) _ _ _)); w_once))
    have hen : (tot (kept.take k) : Int) + ((fs.length : Int) + ((⟨#[z.x]⟩ : Str).length : Int)) = ((tot (kept.take (k + 1)) : Nat) : Int) := by
      rw [htt]
      have : (⟨#[z.x]⟩ : Str).length = 1 := rfl
      omega
    rw [hen]
    rename News _ _ _ _ => N13
    rename Fr _ _ _ _ => F13
    have L13 : Led h₀ _ L (endG w (L + 1 + 1 + 1) (L + 1 + 1 + 1 + 1 + 1) DA rw d tl rl eA e fi tf tk0 oP2 oE1 ([(I, oI)] :: Gs)) := ⟨fun g hg p hp => N13 p (Lmf.mpr ⟨g, hg, hp⟩), L11.d⟩
    refine led_cellG (by rfl) (by rfl) (by with_unfolding_all rfl) F13 L13.front2 hoE1 ?_
    apply frz2; case n => walk_at "FZN"
    intro h14 oE2
    clear_value h14 oE2
    intro F14 L14' hoE2
    have L14 := L14'.front2
    clear N13 F13 hen L13 L14' L11 L10 L8
    obtain ⟨EN, hEN⟩ : ∃ EN, EN = tot (kept.take (k + 1)) := ⟨_, rfl⟩
    rw [← hEN] at hoE2 htm
    revert hEN; revert hoE2; revert htm
    revert EN
    apply frz1; case n => walk_at "FZN"
    intro EN
    clear_value EN
    intro htm hoE2 hEN
    have N14 : News h₀ L h14 ((L + 1 + 1 + 1, oP2) :: (L + 1 + 1 + 1 + 1 + 1, oE2) :: (DA, Wl (refsOf tl).toArray eA) :: (tl ++ (rowG w rw d rl e fi tf tk0 ++ ([(I, oI)] :: Gs).flatten))) := news_sub L14.flat (by walk_at "SUB")
    (repeat ((fail_if_success (with_reducible show wpAny _ _ (eval (Expr.ListComp _ _ _ _) _) _ _ _)); w_once))
    rename News _ _ _ _ => N15
    rename Fr _ _ _ _ => F15
    refine comp_gen pcD (fun q => if q.x = z.x ∧ EN ≤ q.b then some (q.b : Int) else none) (relF PyData.int) ps (ns := [(Zs "bound", _), (Zs "letter", _), (Zs "size", _)]) (src := tl) (n0 := eA) F15 N15 (.tail _ (.tail _ (.head _))) rfl htl (by first | walk_at "SUB" | (intro p hp; simp [hp])) (by rw [htl.length, Llm]; have := hps.len; omega) rfl (by with_unfolding_all rfl) (by decide) (by rfl) (by decide) rfl (by decide) (fun x _ => rfl) ?hit ?hpy ⟨.nil, rfl⟩ ?turn ?fin (fun _ => rfl)
    case hit =>
      intro Q' q
      w_once
      exact q
    case hpy =>
      intro Q' q
      exact wpAny_pyIter_list (is_of N15 (.tail _ (.tail _ (.head _)))) (by simpa using q)
    case turn =>
      intro x hx T vs hT hf ys out yl hrel hfr s₁ hs1 hs2 hs3 I oI C oC D9 mC h9 tk9 E' hC F3 N3 off ne
      obtain ⟨u1, u2, u3, rfl, f1, f2, f3⟩ := flat3 hf
      obtain ⟨ta, rfl⟩ := flat_int f1
      obtain ⟨tb, rfl⟩ := flat_str f2
      obtain ⟨tc, rfl⟩ := flat_int f3
      obtain ⟨mC2, hC2, hv1, hv2, hv3⟩ : ∃ mC2 : Str -> Option Value, LCg.NsObj oC mC2 ∧ mC2 (Zs "bound") = some (.int x.b ta) ∧ mC2 (Zs "letter") = some (.str ⟨#[x.x]⟩ tb) ∧ mC2 (Zs "size") = some (.int x.p tc) := ⟨_, hC, upd3a (by decide) (by decide), upd3b (by decide), upd3c⟩
      clear hC N15 F15 hf f1 f2 f3
      revert hv3; revert hv2; revert hv1; revert hC2; revert hT; revert ne; revert off; revert N3; revert F3; revert hs3; revert hs2; revert hs1; revert hfr; revert hrel; revert hx
      revert mC2; revert tc; revert tb; revert ta; revert E'; revert tk9; revert h9; revert mC; revert D9; revert oC; revert C; revert oI; revert I; revert s₁; revert yl; revert out; revert ys; revert T; revert x
      apply frz19; case n => walk_at "FZN"
      intro x T ys out yl s₁ I oI C oC D9 mC h9 tk9 E' ta tb tc mC2
      clear_value x T ys out yl s₁ I oI C oC D9 mC h9 tk9 E' ta tb tc mC2
      intro hx hrel hfr hs1 hs2 hs3 F3 N3 off ne hT hC2 hv1 hv2 hv3
      obtain ⟨hys0, rfl⟩ := hrel
      have off' := off
      dsimp only [Lna] at N3
      refine wpAny_tests_one ?_
      iterate 5 (w_once)
      by_cases hxz : x.x = z.x
      · have hb : ((⟨#[x.x]⟩ : Str) == ⟨#[z.x]⟩) = true := by rw [hxz]; exact beq_self_eq_true _
        rw [hb]
        repeat (w_once)
        · exact ce_flat (o := (x.b : Int)) hC2 F3 N3 off ⟨hys0, rfl⟩ (fun _ => .int _ _) (if_pos ⟨hxz, by omega⟩) hfr ⟨_, eA, .tail _ (.tail _ (.head _)), rfl⟩
        · simp only [Bool.false_eq_true, if_false]
          exact ce_skip hC2 F3 N3 off (if_neg (fun h => by have := h.2; omega)) ⟨_, eA, .tail _ (.tail _ (.head _)), rfl⟩
      · have hb : ((⟨#[x.x]⟩ : Str) == ⟨#[z.x]⟩) = false := by
          rw [beq_eq_false_iff_ne]
          exact fun e => hxz (letter_inj e)
        rw [hb]
        repeat (w_once)
        rename News _ _ _ _ => N13
        rename Fr _ _ _ _ => F13
        exact ce_skip hC2 F13 N13 off (if_neg (fun h => hxz h.1)) ⟨_, eA, .tail _ (.tail _ (.head _)), rfl⟩
    case fin =>
      intro ys yl D9 h9 tk9 hrel hfr F3 N3 off
      obtain ⟨hys, rfl⟩ := hrel
      have hys2 := flat_ints hys
      clear hys N15 F15
      obtain ⟨ou, hou⟩ : ∃ ou, ou = ps.filterMap fun q => if q.x = z.x ∧ EN ≤ q.b then some (q.b : Int) else none := ⟨_, rfl⟩
      have hol : 0 < ou.length := by
        refine List.length_pos_of_mem (a := (z.b : Int)) ?_
        rw [hou]
        exact List.mem_filterMap.mpr ⟨z, hz, if_pos ⟨rfl, htm⟩⟩
      rw [← hou] at hys2
      revert hol; revert hou; revert hys2; revert off; revert N3; revert hfr; revert F3
      revert ou; revert tk9; revert h9; revert D9; revert ys
      apply frz5; case n => walk_at "FZN"
      intro ys D9 h9 tk9 ou
      clear_value ys D9 h9 tk9 ou
      intro F3 hfr N3 off hys2 hou hol
      iterate 3 (w_once)
      dsimp only [Lna] at *
      w_once
      have hdec : decide (ou = []) = false := by
        rw [decide_eq_false_iff_not]
        intro e
        rw [e] at hol
        exact Nat.lt_irrefl _ hol
      rw [hdec]
      repeat (w_once)
      rename News _ _ _ _ => N20
      rename Fr _ _ _ _ => F20
      have L20 : Led h₀ _ L (endG w (L + 1 + 1 + 1) (L + 1 + 1 + 1 + 1 + 1) DA rw d tl rl eA e fi tf tk0 oP2 oE2 ([(I, oI)] :: Gs)) := Led.of N20 (by unfold endG; walk_at "SUB") L14.d
      have L21 := L20.perm (List.perm_middle (l₁ := endG w (L + 1 + 1 + 1) (L + 1 + 1 + 1 + 1 + 1) DA rw d tl rl eA e fi tf tk0 oP2 oE2 []))
      refine ⟨_, (endG w (L + 1 + 1 + 1) (L + 1 + 1 + 1 + 1 + 1) DA rw d tl rl eA e fi tf tk0 oP2 oE2 Gs).flatten, F20, L21.flat, fun y hy => ?_, ⟨_, _, (L21.flat (rw, accObj d (refsOf rl) e) (by walk_at "SI")).1, rfl⟩, k + 1, oP2, oE2, _, rfl, hk, ⟨_, hoP2⟩, hEN ▸ hoE2, fun y h => (if_neg h).trans (hmm y h), hG1, hos1, L21.tail.d, rfl⟩
      obtain ⟨g, hg, hyg⟩ := Lmf.mp hy
      exact Ne.symm (L21.off g hg _ (.head _) y hyg)
  case done =>
    rintro m₁ news₁ s₂ ⟨k, oP1, oE1, te, hr, hkl, hoP1, hoE1, hmm, hG1, hos1, hd1, rfl⟩ F8 N8
    have hkk : k = kept.length := by
      have h1 := congrArg List.length hr
      have h2 := hrl.length
      simp only [List.length_nil, Llm, List.length_drop] at h1 h2
      omega
    subst hkk
    rw [List.take_length] at hoE1
    exact hQ s₂ m₁ oP1 oE1 te F8 hmm hG1 hos1 hoP1 hoE1 ⟨fun g hg z hz => N8 z (Lmf.mpr ⟨g, hg, hz⟩), hd1⟩
end
end
section
theorem rs_ZG : True := by
  w_top off
  trivial
theorem flat_strs : ∀ {vs : List Value} {ts : List Str}, FlatAll vs (ts.map PyData.str) -> ∃ l : List (Str × Tok), vs = strValues l ∧ l.map (·.1) = ts
  | _, [], h => by cases h; exact ⟨[], rfl, rfl⟩
  | _, x :: _, h => by
    cases h with
    | cons h1 h2 =>
      obtain ⟨t, rfl⟩ := flat_str h1
      obtain ⟨l, rfl, rfl⟩ := flat_strs h2
      exact ⟨(x, t) :: l, rfl, rfl⟩
theorem join_two (a b : Str) : Txt.join (Zs "") [a, b] = a ++ b := by
  have h : ∀ ts, Txt.join (Zs "") ts = Str.join (Zs "") ts := fun ts => StrLaws.glued_eq_join _ _
  have e : Zs "" = ⟨#[]⟩ := by decide
  rw [h, e]
  show (⟨(a.cps ++ #[]) ++ b.cps⟩ : Str) = ⟨a.cps ++ b.cps⟩
  rw [Array.append_empty]
theorem rowText_app (pcs : List (Str × Str)) : rowText pcs = Txt.join (Zs "") (pcs.map fun p => p.1 ++ p.2) := by
  have h : (pcs.map fun p => Txt.join (Zs "") [p.1, p.2]) = pcs.map fun p => p.1 ++ p.2 := List.map_congr_left fun p _ => join_two _ _
  unfold rowText
  rw [h]
section
end
section
theorem seg14 (hl : LawDef w body scope) (cx : Cx w 30 dp un A₀ (envOfC (Zs "law") scope L fa cd) [] h₀ h₀ L) (F : Fr h₀ L s.heap m) {rw d cE : Addr} {rl : List (Addr × Obj)} {e fi en : Nat} {tf tk0 tE tfi : Tok} {pcs : List (Str × Str)} {o1 o2 oE : Obj} (hcE : cE = L + 1 + 1 + 1 + 1 + 1)
    (hrl : TupsAre rl (pcs.map pieceD)) (hsz : pcs.length ≤ 10) (hpc : ∀ q ∈ pcs, q.1.length ≤ 100 ∧ q.2.length ≤ 100) (htot : totLen pcs ≤ 10000) (hen : en = totLen pcs) (hfi : fi < 10) (ho1 : TabOk o1) (ho2 : TabOk o2) (hG : AllBare s.gens) (hoE : oE.data = .cell (some (.int (en : Nat) tE)))
    (hmr : m (Zs "row") = some (.ref rw)) (hmf : m (Zs "first") = some (.int fi tfi))
    (Ld : Led h₀ s.heap L ((rowAt w rw d (refsOf rl) e fi tf tk0 ++ rl) :: [(147, o2)] :: [(140, o1)] :: [(cE, oE)] :: Gs))
    (hQ : ∀ (s' : Shared) (o1' o2' : Obj), Fr h₀ L s'.heap m -> AllBare s'.gens -> s'.os = s.os -> TabOk o1' -> TabOk o2' -> Led h₀ s'.heap L ([(140, o1')] :: [(147, o2')] :: Gs) -> wpAny (model RWQ.row.prog w) (AA dp un (envOfC (Zs "law") scope L fa cd) []) (execs (body.drop 15) (envOfC (Zs "law") scope L fa cd)) Q E s')
    : wpAny (model RWQ.row.prog w) (AA dp un (envOfC (Zs "law") scope L fa cd) []) (execs (body.drop 14) (envOfC (Zs "law") scope L fa cd)) Q E s := by
  revert hl cx F hcE hrl hsz hpc htot hen hfi ho1 ho2 hG hoE hmr hmf Ld hQ
  revert w dp un A₀ h₀ L fa cd m s Q E body scope Gs rw d cE rl e fi en tf tk0 tE tfi pcs o1 o2 oE
  apply frz22; case n => walk_at "FZN"
  intro w dp un A₀ h₀ L fa cd m s Q E body scope Gs rw d cE rl e fi en
  clear_value w dp un A₀ h₀ L fa cd m s Q E body scope Gs rw d cE rl e fi en
  apply frz8; case n => walk_at "FZN"
  intro tf tk0 tE tfi pcs o1 o2 oE
  clear_value tf tk0 tE tfi pcs o1 o2 oE
  intro hl cx F hcE hrl hsz hpc htot hen hfi ho1 ho2 hG hoE hmr hmf Ld hQ
  subst hcE
  revert cx hQ
  apply law_open w body scope _ hl
  intro hl0 cx hQ
  (try dsimp only [Lds, Ldz])
  (try dsimp only [Lds, Ldz] at hQ)
  (try dsimp only)
  (try k_fold)
  have X1 := cx.X
  have B1 := cx.B
  have hf1 := cx.f
  have hke1 := cx.k
  have hdp1 := cx.d
  have hun1 := cx.u
  obtain ⟨p1, loose1, mean1, mg1, mb1, T1⟩ := cx.T
  have N := Ld.flat
  dsimp only [Lfc, Lca, Lna] at N
  (repeat ((fail_if_success (with_reducible show wpAny _ _ (call _ _ _) _ _ _)); w_once))
  rename News _ _ _ _ => N2
  rename Fr _ _ _ _ => F2
  have L2 : Led h₀ _ L ((rowAt w rw d (refsOf rl) e fi tf tk0 ++ rl) :: [(147, o2)] :: [(140, o1)] :: [(L + 1 + 1 + 1 + 1 + 1, oE)] :: Gs) := Led.of N2 (fun _ h => h) Ld.d
  refine row_str cx F2 L2 hrl ho2 hG hsz hpc ?_
  intro s3 t3 o2' F3 ho2' hG3 hos3 L3
  clear N2 L2
  have N3 := L3.flat
  dsimp only [Lfc, Lca, Lna] at N3
  (repeat ((fail_if_success (with_reducible show wpAny _ _ (eval (Expr.ListComp _ _ _ _) _) _ _ _)); w_once))
  rename Fr _ _ _ _ => F4
  rename News _ _ _ _ => N4
  refine comp_gen pieceD (fun q : Str × Str => some (q.1 ++ q.2)) (relF PyData.str) pcs (ns := [(Zs "fws", _), (Zs "part", _)]) (src := rl) (n0 := e) F4 N4 (.head _) rfl hrl (by first | walk_at "SUB" | (intro p hp; simp [hp])) (by rw [hrl.length, Llm]; omega) rfl (by with_unfolding_all rfl) (by decide) (by rfl) (by decide) rfl (by decide) (fun x _ => rfl) ?hit ?hpy ⟨.nil, rfl⟩ ?turn ?fin (fun _ => rfl)
  case hit =>
    intro Q' q
    w_once
    exact q
  case hpy =>
    intro Q' q
    exact acc_iter F4 cx.X N4 (.head _) (.tail _ (.head _)) (by k_is) (by k_is) q
  case turn =>
    intro x hx T vs hT hf ys out yl hrel hfr s₁ hs1 hs2 hs3 I oI C oC D9 mC h9 tk9 E' hC F3 N3 off ne
    obtain ⟨u1, u2, rfl, f1, f2⟩ := flat2 hf
    obtain ⟨ta, rfl⟩ := flat_str f1
    obtain ⟨tb, rfl⟩ := flat_str f2
    obtain ⟨mC2, hC2, hv1, hv2⟩ : ∃ mC2 : Str -> Option Value, LCg.NsObj oC mC2 ∧ mC2 (Zs "fws") = some (.str x.1 ta) ∧ mC2 (Zs "part") = some (.str x.2 tb) := ⟨_, hC, upd2a (by decide), upd2b⟩
    clear hC N4 F4 hf f1 f2
    obtain ⟨hl1, hl2⟩ := hpc x hx
    refine wpAny_tests_nil ?_
    rw [if_pos rfl]
    repeat (w_once)
    rename News _ _ _ _ => N13
    rename Fr _ _ _ _ => F13
    exact ce_flat (o := x.1 ++ x.2) hC2 F13 N13 off hrel (fun _ => .str _ _) rfl hfr ⟨_, e, .head _, rfl⟩
  case fin =>
    intro ys yl D9 h9 tk9 hrel hfr F5 N5 off
    obtain ⟨hys, rfl⟩ := hrel
    have e9 : pcs.filterMap (fun q : Str × Str => some (q.1 ++ q.2)) = pcs.map fun q => q.1 ++ q.2 := by rw [List.filterMap_eq_map']
    rw [e9] at hys
    obtain ⟨l, rfl, hl9⟩ := flat_strs hys
    clear N4 F4
    (repeat ((fail_if_success (with_reducible show wpAny _ _ (call _ _ _) _ _ _)); w_once))
    refine SC.join (is_of N5 (.head _)) hl9 ?hok ?_
    case hok =>
      have hB : ∀ y ∈ pcs.map (fun q => q.1 ++ q.2), y.length ≤ 300 := fun y hy => by
        obtain ⟨q, hq, rfl⟩ := Lmm.mp hy
        have := hpc q hq
        rw [app_len]; omega
      have hle : (pcs.map (fun q => q.1 ++ q.2)).length * 300 + (pcs.map (fun q => q.1 ++ q.2)).length * (Zs "").length ≤ 16777216 := by
        have e0 : (Zs "").length = 0 := by decide
        rw [Llm, e0]; omega
      unfold JoinOk
      rw [StrLaws.joinFits hB hle]
      rfl
    intro t6 k6
    rw [← rowText_app]
    refine ne_str ?_
    rw [bne_self_eq_false]
    have N6 : News h₀ L h9 ((L + 1 + 1 + 1 + 1 + 1, oE) :: (rw, accObj d (refsOf rl) e) :: (d, rowDict w fi tf tk0) :: (rl ++ (147, o2') :: (140, o1) :: Gs.flatten)) := news_sub N5 (by walk_at "SUB")
    clear N5
    have hen2 : en ≤ 10000 := by omega
    (repeat ((fail_if_success (with_reducible show wpAny _ _ (call _ _ _) _ _ _)); w_once))
    rename Fr _ _ _ _ => F7
    rename News _ _ _ _ => N7
    have L7 : Led h₀ _ L ((rowAt w rw d (refsOf rl) e fi tf tk0 ++ rl) :: [(147, o2')] :: [(140, o1)] :: [(L + 1 + 1 + 1 + 1 + 1, oE)] :: Gs) := Led.of N7 (by walk_at "SUB") L3.d
    refine row_len cx F7 (L7.perm ((List.Perm.swap ..).cons _)) hrl ho1 hG3 hfi hsz hpc htot ?_
    intro s8 t8 o1' F8 ho1' hG8 hos8 L8
    clear N7 L7
    have N8 := L8.flat
    refine ne_int ?_
    have hnb : ((fi : Int) + (en : Int) != ((fi + totLen pcs : Nat) : Int)) = false := by
      rw [bne_eq_false_iff_eq, hen]
      exact (Int.natCast_add ..).symm
    rw [hnb]
    (repeat ((fail_if_success (with_reducible show wpAny _ _ (execs (_ :: _) _) _ _ _)); w_once))
    rename Fr _ _ _ _ => F9
    rename News _ _ _ _ => N9
    have L9 : Led h₀ _ L ([(L + 1 + 1 + 1 + 1 + 1, oE)] :: [(140, o1')] :: [(147, o2')] :: Gs) := (show Led h₀ _ L ([(140, o1')] :: [(147, o2')] :: [(L + 1 + 1 + 1 + 1 + 1, oE)] :: Gs) from ⟨fun g hg p hp => N9 p (Lmf.mpr ⟨g, .tail _ hg, hp⟩), L8.tail.d⟩).perm (List.perm_middle (l₁ := [_, _]))
    exact hQ _ o1' o2' F9 hG8 (hos8.trans hos3) ho1' ho2' L9.tail
end
end
section
theorem rs_ZH : True := by
  w_top off
  trivial
noncomputable def starP (q : Piece) : Bool := hits ⟨#[q.x]⟩ none
noncomputable def relS (src : List (Addr × Obj)) (ys : List Value) (out : List Piece) (yl : List (Addr × Obj)) : Prop := ∃ sl, ys = refsOf sl ∧ TupsAre sl (out.map pcD) ∧ (∀ p ∈ sl, p ∈ src) ∧ yl = []
theorem filterMap_if {α : Type} (p : α -> Bool) : ∀ l : List α, l.filterMap (fun q => if p q = true then some q else none) = l.filter p
  | [] => rfl
  | x :: l => by
    rw [List.filterMap_cons, List.filter_cons, filterMap_if p l]
    by_cases h : p x = true
    · simp [h]
    · simp [h]
section
end
section
theorem seg15 (hl : LawDef w body scope) (cx : Cx w 30 dp un A₀ (envOfC (Zs "law") scope L fa cd) [] h₀ h₀ L) (F : Fr h₀ L s.heap m) {DA cT : Addr} {tl : List (Addr × Obj)} {eA : Nat} {ps : List Piece} {oT : Obj} {vT : Option Value} (hcT : cT = L + 1 + 1 + 1 + 1 + 1 + 1)
    (htl : TupsAre tl (ps.map pcD)) (h6 : ps.length ≤ 6) (hoT : oT.data = .cell vT) (hmt : m (Zs "told") = some (.ref DA))
    (Ld : Led h₀ s.heap L ([(cT, oT)] :: ((DA, Wl (refsOf tl).toArray eA) :: tl) :: Gs))
    (hQ : ∀ D sl oT' h' tk, TupsAre sl ((ps.filter starP).map pcD) -> (∀ p ∈ sl, p ∈ tl) -> oT'.data = .cell (some (.ref D)) -> Fr h₀ L h' m -> Led h₀ h' L ([(cT, oT')] :: [(D, LCg.lst (refsOf sl))] :: ((DA, Wl (refsOf tl).toArray eA) :: tl) :: Gs) -> wpAny (model RWQ.row.prog w) (AA dp un (envOfC (Zs "law") scope L fa cd) []) (execs (body.drop 16) (envOfC (Zs "law") scope L fa cd)) Q E { s with heap := h', toks := tk })
    : wpAny (model RWQ.row.prog w) (AA dp un (envOfC (Zs "law") scope L fa cd) []) (execs (body.drop 15) (envOfC (Zs "law") scope L fa cd)) Q E s := by
  revert hl cx F hcT htl h6 hoT hmt Ld hQ
  revert w dp un A₀ h₀ L fa cd m s Q E body scope Gs DA cT tl eA ps oT vT
  apply frz22; case n => walk_at "FZN"
  intro w dp un A₀ h₀ L fa cd m s Q E body scope Gs DA cT tl eA ps oT vT
  clear_value w dp un A₀ h₀ L fa cd m s Q E body scope Gs DA cT tl eA ps oT vT
  intro hl cx F hcT htl h6 hoT hmt Ld hQ
  subst hcT
  revert cx hQ
  apply law_open w body scope _ hl
  intro hl0 cx hQ
  (try dsimp only [Lds, Ldz])
  (try dsimp only [Lds, Ldz] at hQ)
  (try dsimp only)
  (try k_fold)
  have X1 := cx.X
  have B1 := cx.B
  have hf1 := cx.f
  have hke1 := cx.k
  have hdp1 := cx.d
  have hun1 := cx.u
  obtain ⟨p1, loose1, mean1, mg1, mb1, T1⟩ := cx.T
  have N := Ld.flat
  dsimp only [Lfc, Lca, Lna] at N
  (repeat ((fail_if_success (with_reducible show wpAny _ _ (eval (Expr.ListComp _ _ _ _) _) _ _ _)); w_once))
  rename Fr _ _ _ _ => F2
  rename News _ _ _ _ => N2
  refine comp_genN pcD (fun q => if starP q = true then some q else none) (relS tl) ps (x0 := Zs "one") (src := tl) (n0 := eA) F2 N2 (.tail _ (.head _)) rfl htl (by first | walk_at "SUB" | (intro p hp; simp [hp])) (by rw [htl.length, Llm]; omega) rfl (by with_unfolding_all rfl) (by decide) (by rfl) (by decide) rfl ?hit ?hpy ⟨[], rfl, .nil, (fun _ h => nomatch h), rfl⟩ ?turn ?fin (fun _ => rfl)
  case hit =>
    intro Q' q
    w_once
    exact q
  case hpy =>
    intro Q' q
    exact wpAny_pyIter_list (is_of N2 (.tail _ (.head _))) (by simpa using q)
  case turn =>
    intro x hx T vs hT hf ys out yl hrel hfr s₁ hs1 hs2 hs3 I oI C oC D9 mC h9 tk9 E' hC F3 N3 off ne
    obtain ⟨u1, u2, u3, rfl, f1, f2, f3⟩ := flat3 hf
    obtain ⟨ta, rfl⟩ := flat_int f1
    obtain ⟨tb, rfl⟩ := flat_str f2
    obtain ⟨tc, rfl⟩ := flat_int f3
    obtain ⟨sl, rfl, hsl, hss, rfl⟩ := hrel
    obtain ⟨mC2, hC2, hv1⟩ : ∃ mC2 : Str -> Option Value, LCg.NsObj oC mC2 ∧ mC2 (Zs "one") = some (.ref T) := ⟨_, hC, if_pos rfl⟩
    clear hC N2 F2 f1 f2 f3
    have N4 : News h₀ L h9 ((T, tupOf [.int x.b ta, .str ⟨#[x.x]⟩ tb, .int x.p tc]) :: (I, oI) :: (C, oC) :: (D9, LCg.lst (refsOf sl)) :: ([] ++ (L + 1 + 1 + 1 + 1 + 1 + 1, oT) :: (DA, Wl (refsOf tl).toArray eA) :: (tl ++ Gs.flatten))) := news_cons (N3 _ (by first | f_congr_eq | simp [hT])) N3
    clear N3
    refine wpAny_tests_one ?_
    iterate 7 (w_once)
    show wpAny _ _ (truthy (.bool (starP x))) _ _ _
    cases hst : starP x with
    | true =>
      repeat (w_once)
      rename News _ _ _ _ => N13
      rename Fr _ _ _ _ => F13
      refine ⟨_, _, _, oC, mC2, rfl, hC2, F13, news_sub N13 (fun p hp => .tail _ hp), off, .inr ⟨Wl (refsOf tl).toArray eA, eA, .tail _ (.head _), rfl⟩, x, if_pos rfl, [], ⟨sl ++ [(T, tupOf [.int x.b ta, .str ⟨#[x.x]⟩ tb, .int x.p tc])], ?_, ?_, ?_, rfl⟩, (fun _ h => nomatch h), rfl⟩
      · simp [refsOf]
      · rw [Lmp]; exact hsl.append (.cons hf .nil)
      · intro p hp
        rcases Lma.mp hp with h | h
        · exact hss p h
        · rw [Lms.mp h]; exact hT
    | false =>
      repeat (w_once)
      rename News _ _ _ _ => N13
      rename Fr _ _ _ _ => F13
      exact ⟨_, _, _, oC, mC2, rfl, hC2, F13, news_sub N13 (fun p hp => .tail _ hp), off, .inr ⟨Wl (refsOf tl).toArray eA, eA, .tail _ (.head _), rfl⟩, if_neg (by decide), rfl⟩
  case fin =>
    intro ys yl D9 h9 tk9 hrel hfr F5 N5 off
    obtain ⟨sl, rfl, hsl, hss, rfl⟩ := hrel
    rw [filterMap_if] at hsl
    clear N2 F2
    (repeat ((fail_if_success (with_reducible show wpAny _ _ (storeName _ _ _) _ _ _)); w_once))
    rename Fr _ _ _ _ => F6
    rename News _ _ _ _ => N6
    have L6 : Led h₀ _ L ([(L + 1 + 1 + 1 + 1 + 1 + 1, oT)] :: [(D9, LCg.lst (refsOf sl))] :: ((DA, Wl (refsOf tl).toArray eA) :: tl) :: Gs) := (Led.cons (g := [(D9, LCg.lst (refsOf sl))]) (Gs := [(L + 1 + 1 + 1 + 1 + 1 + 1, oT)] :: ((DA, Wl (refsOf tl).toArray eA) :: tl) :: Gs) (fun p hp => by rw [Lms.mp hp]; exact N6 _ (.head _)) (fun z hz p hp q hq => by
      rw [Lms.mp hp]
      have := Lmf.mpr ⟨z, hz, hq⟩
      dsimp only [Lfc, Lca, Lna] at this
      exact Ne.symm (off q this)) ⟨fun z hz q hq => N6 q (.tail _ (by
        have := Lmf.mpr ⟨z, hz, hq⟩
        dsimp only [Lfc, Lca, Lna] at this
        exact this)), Ld.d⟩).front2
    refine led_cellG (by rfl) (by rfl) (by with_unfolding_all rfl) F6 L6 hoT ?_
    intro h7 oT' F7 L7 hoT'
    clear N6
    have N7 := L7.flat
    (repeat ((fail_if_success (with_reducible show wpAny _ _ (execs (_ :: _) _) _ _ _)); w_once))
    rename News _ _ _ _ => N9
    rename Fr _ _ _ _ => F9
    exact hQ D9 sl oT' _ _ hsl hss hoT' F9 ⟨fun g hg p hp => N9 p (Lmf.mpr ⟨g, hg, hp⟩), L7.d⟩
end
end
section
theorem rs_ZI : True := by
  w_top off
  trivial
noncomputable def mxP : List Piece -> Nat
  | [] => 0
  | q :: l => Nat.max q.p (mxP l)
theorem mxP_ge : ∀ (l : List Piece), ∀ q ∈ l, q.p ≤ mxP l
  | [], _, h => nomatch h
  | z :: l, q, h => by
    rcases Lmc.mp h with rfl | h
    · exact Nat.le_max_left ..
    · exact Nlt (mxP_ge l q h) (Nat.le_max_right ..)
theorem mxP_mem : ∀ (l : List Piece), l ≠ [] -> ∃ q ∈ l, q.p = mxP l
  | [], h => absurd rfl h
  | [q], _ => ⟨q, .head _, (Nat.max_eq_left (Nat.zero_le _)).symm⟩
  | q :: z :: l, _ => by
    obtain ⟨y, hy, he⟩ := mxP_mem (z :: l) (by walk_at "SI")
    by_cases h : mxP (z :: l) ≤ q.p
    · exact ⟨q, .head _, (Nat.max_eq_left h).symm⟩
    · exact ⟨y, .tail _ hy, he.trans (Nat.max_eq_right (by omega)).symm⟩
theorem mx_is {ss : List Piece} {M : Int} (hM : M ∈ ss.map fun q => (q.p : Int)) (hb : ∀ a, a ∈ ss.map (fun q => (q.p : Int)) -> a ≤ M) : M = (mxP ss : Nat) := by
  obtain ⟨z, hz, rfl⟩ := Lmm.mp hM
  have h1 := mxP_ge ss z hz
  obtain ⟨y, hy, he⟩ := mxP_mem ss (List.ne_nil_of_mem hz)
  have h2 := hb (y.p : Int) (Lmm.mpr ⟨y, hy, rfl⟩)
  omega
theorem filterMap_dec {α β : Type} (p : α -> Prop) [DecidablePred p] (g : α -> β) : ∀ l : List α, l.filterMap (fun q => if p q then some (g q) else none) = (l.filter (fun q => decide (p q))).map g
  | [] => rfl
  | x :: l => by
    rw [List.filterMap_cons, List.filter_cons, filterMap_dec p g l]
    by_cases h : p x
    · simp [h]
    · simp [h]
section
end
section
theorem seg16 (hl : LawDef w body scope) (cx : Cx w 30 dp un A₀ (envOfC (Zs "law") scope L fa cd) [] h₀ h₀ L) (F : Fr h₀ L s.heap m) {D cT : Addr} {sl gT : List (Addr × Obj)} {ss : List Piece} {oT : Obj} (hcT : cT = L + 1 + 1 + 1 + 1 + 1 + 1)
    (hsl : TupsAre sl (ss.map pcD)) (hsg : ∀ p ∈ sl, p ∈ gT) (h6 : ss.length ≤ 6) (hoT : oT.data = .cell (some (.ref D)))
    (Ld : Led h₀ s.heap L ([(cT, oT)] :: [(D, LCg.lst (refsOf sl))] :: gT :: Gs))
    (hQ : ∀ D2 lv h' tk, FlatAll lv (((ss.filter fun q => decide (q.p = mxP ss)).map fun q => (⟨#[q.x]⟩ : Str)).map PyData.str) -> Fr h₀ L h' (fun y => if y = Zs "longest" then some (.ref D2) else m y) -> Led h₀ h' L ([(D2, LCg.lst lv)] :: Gs) -> wpAny (model RWQ.row.prog w) (AA dp un (envOfC (Zs "law") scope L fa cd) []) (execs (body.drop 17) (envOfC (Zs "law") scope L fa cd)) Q E { s with heap := h', toks := tk })
    : wpAny (model RWQ.row.prog w) (AA dp un (envOfC (Zs "law") scope L fa cd) []) (execs (body.drop 16) (envOfC (Zs "law") scope L fa cd)) Q E s := by
  revert hl cx F hcT hsl hsg h6 hoT Ld hQ
  revert w dp un A₀ h₀ L fa cd m s Q E body scope Gs D cT sl gT ss oT
  apply frz21; case n => walk_at "FZN"
  intro w dp un A₀ h₀ L fa cd m s Q E body scope Gs D cT sl gT ss oT
  clear_value w dp un A₀ h₀ L fa cd m s Q E body scope Gs D cT sl gT ss oT
  intro hl cx F hcT hsl hsg h6 hoT Ld hQ
  subst hcT
  revert cx hQ
  apply law_open w body scope _ hl
  intro hl0 cx hQ
  (try dsimp only [Lds, Ldz])
  (try dsimp only [Lds, Ldz] at hQ)
  (try dsimp only)
  (try k_fold)
  have X1 := cx.X
  have B1 := cx.B
  have hf1 := cx.f
  have hke1 := cx.k
  have hdp1 := cx.d
  have hun1 := cx.u
  obtain ⟨p1, loose1, mean1, mg1, mb1, T1⟩ := cx.T
  have N := Ld.flat
  dsimp only [Lfc, Lca, Lna] at N
  w_once
  refine comp_genA pcD (fun q => if q.p = mxP ss then some (⟨#[q.x]⟩ : Str) else none) (relF PyData.str) ss (ns := [(Zs "bound", _), (Zs "letter", _), (Zs "size", _)]) (src := sl) (n0 := (refsOf sl).length) F N (.tail _ (.head _)) ?dt hsl (fun p hp => by simp [hsg p hp]) (by rw [hsl.length, Llm]; omega) (by with_unfolding_all rfl) rfl rfl rfl rfl (by with_unfolding_all rfl) (by decide) (by rfl) (by decide) rfl (by decide) (fun x _ => rfl) ?hit ?hpy ⟨.nil, rfl⟩ ?turn ?fin (fun _ => rfl)
  case dt => rfl
  case hit =>
    intro Q' q
    w_once
    exact q
  case hpy =>
    intro Q' q
    exact wpAny_pyIter_list (is_of N (.tail _ (.head _))) (by simpa using q)
  case turn =>
    intro x hx T vs hT hf ys out yl hrel hfr s₁ hs1 hs2 hs3 I oI C oC D9 mC h9 tk9 E' hC F3 N3 off ne
    obtain ⟨u1, u2, u3, rfl, f1, f2, f3⟩ := flat3 hf
    obtain ⟨ta, rfl⟩ := flat_int f1
    obtain ⟨tb, rfl⟩ := flat_str f2
    obtain ⟨tc, rfl⟩ := flat_int f3
    obtain ⟨hys0, rfl⟩ := hrel
    obtain ⟨mC2, hC2, hv1, hv2, hv3⟩ : ∃ mC2 : Str -> Option Value, LCg.NsObj oC mC2 ∧ mC2 (Zs "bound") = some (.int x.b ta) ∧ mC2 (Zs "letter") = some (.str ⟨#[x.x]⟩ tb) ∧ mC2 (Zs "size") = some (.int x.p tc) := ⟨_, hC, upd3a (by decide) (by decide), upd3b (by decide), upd3c⟩
    clear hC hf f1 f2 f3
    dsimp only [Lna] at N3
    refine wpAny_tests_one ?_
    (repeat ((fail_if_success (with_reducible show wpAny _ _ (eval (Expr.ListComp _ _ _ _) _) _ _ _)); w_once))
    rename Fr _ _ _ _ => F4
    rename News _ _ _ _ => N4
    refine comp_genN (h₀ := h₀) (L := L) (m := m) pcD (fun q => some (q.p : Int)) (relF PyData.int) ss (x0 := Zs "one") (src := sl) (n0 := (refsOf sl).length) F4 N4 (.tail _ (.tail _ (.tail _ (.tail _ (.head _))))) rfl hsl (fun p hp => by simp [hsg p hp]) (by rw [hsl.length, Llm]; omega) rfl (by with_unfolding_all rfl) (by decide) (by rfl) (by decide) rfl ?hit2 ?hpy2 ⟨.nil, rfl⟩ ?turn2 ?fin2 (fun _ => rfl)
    case hit2 =>
      intro Q' q
      w_once
      exact q
    case hpy2 =>
      intro Q' q
      exact wpAny_pyIter_list (is_of N4 (.tail _ (.tail _ (.tail _ (.tail _ (.head _)))))) (by simpa using q)
    case turn2 =>
      intro x2 hx2 T2 vs2 hT2 hf2 ys2 out2 yl2 hrel2 hfr2 s₂ hs21 hs22 hs23 I2 oI2 C2 oC2 D8 mC3 h10 tk10 E2 hC3 F5 N5 off2 ne2
      obtain ⟨v1, v2, v3, rfl, g1, g2, g3⟩ := flat3 hf2
      obtain ⟨ta2, rfl⟩ := flat_int g1
      obtain ⟨tb2, rfl⟩ := flat_str g2
      obtain ⟨tc2, rfl⟩ := flat_int g3
      obtain ⟨hys2, rfl⟩ := hrel2
      obtain ⟨mC4, hC4, hv4⟩ : ∃ mC4 : Str -> Option Value, LCg.NsObj oC2 mC4 ∧ mC4 (Zs "one") = some (.ref T2) := ⟨_, hC3, if_pos rfl⟩
      clear hC3 N4 F4 g1 g2 g3
      dsimp only [Lna] at N5
      have N6 := news_cons (N5 (T2, tupOf [.int x2.b ta2, .str ⟨#[x2.x]⟩ tb2, .int x2.p tc2]) (by simp [hsg _ hT2])) N5
      clear N5
      refine wpAny_tests_nil ?_
      rw [if_pos rfl]
      repeat (w_once)
      rename News _ _ _ _ => N13
      rename Fr _ _ _ _ => F13
      exact ce_flat (o := (x2.p : Int)) hC4 F13 (news_sub N13 (fun p hp => .tail _ hp)) off2 ⟨hys2, rfl⟩ (fun _ => .int _ _) rfl hfr2 ⟨LCg.lst (refsOf sl), (refsOf sl).length, .tail _ (.tail _ (.tail _ (.tail _ (.head _)))), rfl⟩
    case fin2 =>
      intro ys2 yl2 D8 h11 tk11 hrel2 hfr2 F5 N5 off2
      obtain ⟨hys2, rfl⟩ := hrel2
      have hys3 : IntsAre ys2 (ss.map fun q => (q.p : Int)) := by
        refine flat_ints ?_
        rwa [List.filterMap_eq_map'] at hys2
      clear N4 F4 hys2
      dsimp only [Lna] at N5
      (repeat ((fail_if_success (with_reducible show wpAny _ _ (call _ _ _) _ _ _)); w_once))
      rename News _ _ _ _ => N6
      rename Fr _ _ _ _ => F6
      refine kso_max F6 N6 (is_of N6 (.head _)) hys3 (by rw [Llm]; exact List.length_pos_of_mem hx) rfl ?_
      intro h12 M t12 tk12 F7 N7 hM1 hM2
      obtain rfl := mx_is hM1 hM2
      clear N6 F6 hM1 hM2
      obtain ⟨MX, hMX⟩ : ∃ MX, MX = mxP ss := ⟨_, rfl⟩
      rw [← hMX]
      repeat (w_once)
      · refine ⟨_, _, _, oC, mC2, rfl, hC2, F7, news_sub N7 (fun p hp => .tail _ hp), off, .inr ⟨LCg.lst (refsOf sl), _, .tail _ (.head _), rfl⟩, ⟨#[x.x]⟩, if_pos (by omega), [], ⟨?_, rfl⟩, (fun _ h => nomatch h), rfl⟩
        rw [Lmp]
        exact hys0.app (.cons (fun _ => .str _ _) .nil)
      · rename_i hne
        exact ⟨_, _, _, oC, mC2, rfl, hC2, F7, news_sub N7 (fun p hp => .tail _ hp), off, .inr ⟨LCg.lst (refsOf sl), _, .tail _ (.head _), rfl⟩, if_neg (by omega), rfl⟩
  case fin =>
    intro ys yl D9 h9 tk9 hrel hfr F5 N5 off
    obtain ⟨hys, rfl⟩ := hrel
    rw [filterMap_dec (fun q : Piece => q.p = mxP ss) (fun q : Piece => (⟨#[q.x]⟩ : Str))] at hys
    (repeat ((fail_if_success (with_reducible show wpAny _ _ (execs (_ :: _) _) _ _ _)); w_once))
    rename News _ _ _ _ => N9
    rename Fr _ _ _ _ => F9
    refine hQ D9 ys _ _ hys F9 (.cons (fun p hp => by rw [Lms.mp hp]; exact N9 _ (.head _)) (fun z hz p hp q hq => ?_) ⟨fun z hz q hq => N9 q (.tail _ ?_), Ld.tail.tail.tail.d⟩)
    · rw [Lms.mp hp]
      exact Ne.symm (off q (.tail _ (.tail _ (Lar _ (Lmf.mpr ⟨z, hz, hq⟩)))))
    · exact .tail _ (.tail _ (Lar _ (Lmf.mpr ⟨z, hz, hq⟩)))
end
end
section
open PySem PySem.W PySem.Calls PyProof.Rows PyProof.V PySem.Spec PyProof.Rows.LCg
noncomputable def longOf (ps : List Piece) : List Str := ((ps.filter starP).filter fun q => decide (q.p = mxP (ps.filter starP))).map fun q => (⟨#[q.x]⟩ : Str)
theorem none_tells {qs : List RuleQ} {ps : List Piece} (hkey : qs.map RuleQ.key = keysK ps) (hp : ∀ q ∈ ps, 1 ≤ q.p) : ((qs.map (RuleQ.tell none)).foldl alStep (-1, none)).2 = (longOf ps).head? := by
  rw [fold_keys hkey none]
  have hl : (longOf ps).head? = (ps.find? fun q => starP q && decide (q.p = mxP (ps.filter starP))).map fun q => (⟨#[q.x]⟩ : Str) := by
    unfold longOf
    rw [List.head?_map, List.filter_filter, List.head?_filter]
    congr 2
    funext q
    exact Bool.and_comm _ _
  rw [hl]
  cases hf : ps.find? fun q => starP q && decide (q.p = mxP (ps.filter starP)) with
  | some z =>
    obtain ⟨hz, A, B, rfl, hA⟩ := List.find?_eq_some_iff_append.mp hf
    rw [Bool.and_eq_true, decide_eq_true_eq] at hz
    obtain ⟨hs, hm⟩ := hz
    have hge : ∀ q ∈ A ++ z :: B, (tellP none q).1 ≤ (z.p : Int) := fun q hq => by
      show (if starP q then (q.p : Int) else 0) ≤ _
      split
      · rename_i h
        have := mxP_ge ((A ++ z :: B).filter starP) q (List.mem_filter.mpr ⟨hq, h⟩)
        omega
      · omega
    have hzp := hp z (by simp)
    rw [Lmp, Lpc]
    have ez : tellP none z = ((z.p : Int), ⟨#[z.x]⟩) := by
      show (if starP z then (z.p : Int) else 0, _) = _
      rw [if_pos hs]
    rw [ez, firstLong_at (by omega) (fun q hq => ?_) _ _ (fun q hq => ?_) (by show (-1 : Int) < _; omega)]
    · rfl
    · obtain ⟨y, hy, rfl⟩ := Lmm.mp hq
      exact hge y (by simp [hy])
    · obtain ⟨y, hy, rfl⟩ := Lmm.mp hq
      have h1 := hge y (by simp [hy])
      have h2 := hA y hy
      rw [Bool.not_eq_true', Bool.and_eq_false_iff, decide_eq_false_iff_not] at h2
      have e1 : (tellP none y).1 = if starP y then (y.p : Int) else 0 := rfl
      rw [e1] at h1 ⊢
      split
      · rename_i h
        rw [if_pos h] at h1
        rcases h2 with h2 | h2
        · rw [h2] at h; cases h
        · omega
      · omega
  | none =>
    have h1 : ∀ q ∈ ps, starP q = false := fun q hq => by
      cases hs : starP q with
      | false => rfl
      | true =>
        obtain ⟨y, hy, he⟩ := mxP_mem (ps.filter starP) (List.ne_nil_of_mem (List.mem_filter.mpr ⟨hq, hs⟩))
        obtain ⟨hy1, hy2⟩ := List.mem_filter.mp hy
        have := List.find?_eq_none.mp hf y hy1
        rw [hy2, he] at this
        simp at this
    rw [firstLong_none _ _ fun q hq => ?_]
    · rfl
    · obtain ⟨y, hy, rfl⟩ := Lmm.mp hq
      show (if starP y then (y.p : Int) else 0) = 0
      rw [h1 y hy]; rfl
theorem star_tells {qs : List RuleQ} {ps : List Piece} (hkey : qs.map RuleQ.key = keysK ps) (hx : ∀ q ∈ ps, 97 ≤ q.x ∧ q.x ≤ 102) : ((qs.map (RuleQ.tell (some (Zs "*/abcdef")))).foldl alStep (-1, none)).2 = none := by
  rw [fold_keys hkey, firstLong_none _ _ fun q hq => ?_]
  obtain ⟨y, hy, rfl⟩ := Lmm.mp hq
  show (if hits ⟨#[y.x]⟩ (some (Zs "*/abcdef")) then (y.p : Int) else 0) = 0
  rw [hits_star (hx y hy)]; rfl
end
section
theorem rs_ZM : True := by
  w_top off
  trivial
section
end
section
theorem seg17 (hl : LawDef w body scope) (cx : Cx w 30 dp un A₀ (envOfC (Zs "law") scope L fa cd) [] h₀ h₀ L) (F : Fr h₀ L s.heap m) {p : RecP} {qs : List RuleQ} {ps : List Piece} {D2 : Addr} {lv : List Value}
    (hkey : qs.map RuleQ.key = keysK ps) (hx : ∀ q ∈ ps, 97 ≤ q.x ∧ q.x ≤ 102) (hp : ∀ q ∈ ps, 1 ≤ q.p) (hqs : ∀ q ∈ qs, q.good) (hqz : qs.length ≤ 1000) (hlv : FlatAll lv ((longOf ps).map PyData.str)) (hl6 : lv.length ≤ 10)
    (hmr : m (Zs "record") = some (.ref p.a)) (hml : m (Zs "longest") = some (.ref D2))
    {st : List (Addr × Obj)} (Ld : Led h₀ s.heap L (recObjs w p (ruleRefs qs) :: (rulesObjs w qs ++ st) :: [(D2, LCg.lst lv)] :: Gs))
    (hQ : ∀ h' tk, Fr h₀ L h' m -> News h₀ L h' (st ++ Gs.flatten) -> Q (.ret (.bool true)) { s with heap := h', toks := tk })
    : wpAny (model RWQ.row.prog w) (AA dp un (envOfC (Zs "law") scope L fa cd) []) (execs (body.drop 17) (envOfC (Zs "law") scope L fa cd)) Q E s := by
  revert hl cx F hkey hx hp hqs hqz hlv hl6 hmr hml Ld hQ
  revert w dp un A₀ h₀ L fa cd m s Q E body scope Gs p qs ps D2 lv st
  apply frz21; case n => walk_at "FZN"
  intro w dp un A₀ h₀ L fa cd m s Q E body scope Gs p qs ps D2 lv st
  clear_value w dp un A₀ h₀ L fa cd m s Q E body scope Gs p qs ps D2 lv st
  intro hl cx F hkey hx hp hqs hqz hlv hl6 hmr hml Ld hQ
  revert cx hQ
  apply law_open w body scope _ hl
  intro hl0 cx hQ
  (try dsimp only [Lds, Ldz])
  (try dsimp only)
  (try k_fold)
  have X1 := cx.X
  have B1 := cx.B
  have hf1 := cx.f
  have hke1 := cx.k
  have hdp1 := cx.d
  have hun1 := cx.u
  obtain ⟨p1, loose1, mean1, mg1, mb1, T1⟩ := cx.T
  have N : News h₀ L s.heap ((p.a, instObj 59 p.d) :: (p.d, dictOf [en w "useragents" p.t1 (.ref p.l1), en w "rulelines" p.t2 (.ref p.l2), en w "delay" p.t3 .none, en w "req_rate" p.t4 .none] 4) :: (D2, LCg.lst lv) :: (recObjs w p (ruleRefs qs) ++ (rulesObjs w qs ++ (st ++ Gs.flatten)))) := news_sub Ld.flat (by walk_at "SUB")
  (repeat ((fail_if_success (with_reducible show wpAny _ _ (call _ _ _) _ _ _)); w_once))
  rename News _ _ _ _ => N2
  rename Fr _ _ _ _ => F2
  refine c_allow (m := m) cx ?F p qs ?N hqs none (fun z hz => by cases hz) hqz ?_
  case F => exact F2
  case N => exact news_sub N2 (by walk_at "SUB")
  intro h3 tk3 t3 F3 K3
  have N3 := K3 _ N2
  simp only [Option.map_none, none_tells hkey hp]
  clear N2 F2 K3
  cases hlo : longOf ps with
  | nil =>
    rw [hlo] at hlv
    cases hlv
    dsimp only [List.head?_nil, alV]
    (repeat ((fail_if_success (with_reducible show wpAny _ _ (call _ _ _) _ _ _)); w_once))
    rename News _ _ _ _ => N5
    rename Fr _ _ _ _ => F5
    refine c_allow (m := m) cx ?F p qs ?N hqs (some (_, _)) (mem_some (by decide : (Zs "*/abcdef").length ≤ 200)) hqz ?_
    case F => exact F5
    case N => exact news_sub N5 (by walk_at "SUB")
    intro h6 tk6 t6 F6 K6
    have N6 := K6 _ N5
    simp only [Option.map_some, star_tells hkey hx]
    dsimp only [alV]
    clear N5 F5 K6
    repeat (w_once)
    rename Fr _ _ _ _ => F9
    rename News _ _ _ _ => N9
    exact hQ _ _ F9 (news_sub N9 (by walk_at "SUB"))
  | cons x r =>
    rw [hlo] at hlv
    cases hlv with
    | cons g1 g2 =>
    obtain ⟨tx, rfl⟩ := flat_str g1
    rename_i lv'
    dsimp only [List.head?_cons, alV]
    iterate 8 (w_once)
    rename News _ _ _ _ => N4
    rename Fr _ _ _ _ => F4
    refine add_lists (vs := .str x tx :: lv') (ws := [.bool true]) F4 N4 (.tail _ (.tail _ (.tail _ (.head _)))) (.head _) (by simp at hl6 ⊢; omega) ?_
    intro D h5 F5 N5 lt5
    clear N4 F4
    rw [Lca] at N5
    iterate 2 (w_once)
    refine eq_str ?_
    rw [beq_self_eq_true]
    clear lt5
    (repeat ((fail_if_success (with_reducible show wpAny _ _ (call _ _ _) _ _ _)); w_once))
    rename News _ _ _ _ => N5
    rename Fr _ _ _ _ => F5
    refine c_allow (m := m) cx ?F p qs ?N hqs (some (_, _)) (mem_some (by decide : (Zs "*/abcdef").length ≤ 200)) hqz ?_
    case F => exact F5
    case N => exact news_sub N5 (by walk_at "SUB")
    intro h6 tk6 t6 F6 K6
    have N6 := K6 _ N5
    simp only [Option.map_some, star_tells hkey hx]
    dsimp only [alV]
    clear N5 F5 K6
    repeat (w_once)
    rename Fr _ _ _ _ => F9
    rename News _ _ _ _ => N9
    exact hQ _ _ F9 (news_sub N9 (by walk_at "SUB"))
end
end
section
theorem rs_ZA : True := by
  w_top off
  trivial
section
end
section
theorem seg6 (hl : LawDef w body scope) (cx : Cx w 30 dp un A₀ (envOfC (Zs "law") scope L fa cd) [] h₀ h₀ L) (F : Fr h₀ L s.heap m) (Ld : Led h₀ s.heap L Gs)
    (hQ : ∀ h' tk t, Fr h₀ L h' (fun y => if y = Zs "number" then some (.int 1 t) else m y) -> Led h₀ h' L Gs -> wpAny (model RWQ.row.prog w) (AA dp un (envOfC (Zs "law") scope L fa cd) []) (execs (body.drop 7) (envOfC (Zs "law") scope L fa cd)) Q E { s with heap := h', toks := tk })
    : wpAny (model RWQ.row.prog w) (AA dp un (envOfC (Zs "law") scope L fa cd) []) (execs (body.drop 6) (envOfC (Zs "law") scope L fa cd)) Q E s := by
  revert cx hQ
  apply law_open w body scope _ hl
  intro hl0 cx hQ
  (try dsimp only [Lds, Ldz])
  (try dsimp only [Lds, Ldz] at hQ)
  (try dsimp only)
  (try k_fold)
  have X1 := cx.X
  have B1 := cx.B
  have hf1 := cx.f
  have hke1 := cx.k
  have hdp1 := cx.d
  have hun1 := cx.u
  obtain ⟨p1, loose1, mean1, mg1, mb1, T1⟩ := cx.T
  have N := Ld.flat
  w_once
  (repeat ((fail_if_success (with_reducible show wpAny _ _ (execs (_ :: _) _) _ _ _)); w_once))
  rename News _ _ _ _ => N9
  rename Fr _ _ _ _ => F9
  exact hQ _ _ _ F9 ⟨fun g hg z hz => N9 z (Lmf.mpr ⟨g, hg, hz⟩), Ld.d⟩
end
end
section
theorem rs_Y7 : True := by
  w_top off
  trivial
section
end
section
theorem sseg0 (hl : LawDef w body scope) (cx : Cx w 30 dp un A₀ (envOfC (Zs "law") scope L fa cd) [] h₀ h₀ L) (F : Fr h₀ L s.heap m) (p : RecP) {qs : List RuleQ} {st : List (Addr × Obj)} {oL oS : Obj} {lt stt : Tok} {x : Nat} {n : Int} (hoL : oL.data = .cell (some (.str ⟨#[x]⟩ lt))) (hoS : oS.data = .cell (some (.int n stt)))
    (hst : NestTab 249 214 22 qLam st) (hst2 : st.length = 2 ∨ qs = []) (hpd : p.a ≠ p.d ∧ p.a ≠ p.l2 ∧ p.d ≠ p.l2) (hsz : qs.length ≤ 1000)
    (Ld : Led h₀ s.heap L ([(L + 1, oL)] :: [(L + 1 + 1, oS)] :: recObjs w p (ruleRefs qs) :: (rulesObjs w qs ++ st) :: Gs)) (hmr : m (Zs "record") = some (.ref p.a))
    (hQ : ∀ (new : List RuleQ) (st' : List (Addr × Obj)) (e' : Nat) h' tk, Fr h₀ L h' m -> new.map RuleQ.key = tri3 x n -> (∀ q ∈ new, RuleOk q.p q.x q.n) -> NestTab 249 214 22 qLam st' -> st'.length = 2 -> Led h₀ h' L ([(L + 1, oL)] :: [(L + 1 + 1, oS)] :: recObjs w { p with e := e' } (ruleRefs (qs ++ new)) :: (rulesObjs w (qs ++ new) ++ st') :: Gs) -> wpAny (model RWQ.row.prog w) (AA dp un (envOfC (Zs "law") scope L fa cd) []) (execs ((forBody (body.getD 7 (.Pass default))).drop 1) (envOfC (Zs "law") scope L fa cd)) Q E { s with heap := h', toks := tk })
    : wpAny (model RWQ.row.prog w) (AA dp un (envOfC (Zs "law") scope L fa cd) []) (execs ((forBody (body.getD 7 (.Pass default))).drop 0) (envOfC (Zs "law") scope L fa cd)) Q E s := by
  revert hl cx F hoL hoS hst hst2 hpd hsz Ld hmr hQ
  revert w dp un A₀ h₀ L fa cd m s Q E body scope Gs p qs st oL oS lt stt x n
  apply frz22; case n => walk_at "FZN"
  intro w dp un A₀ h₀ L fa cd m s Q E body scope Gs p qs st oL oS lt stt
  clear_value w dp un A₀ h₀ L fa cd m s Q E body scope Gs p qs st oL oS lt stt
  apply frz2; case n => walk_at "FZN"
  intro x n
  clear_value x n
  intro hl cx F hoL hoS hst hst2 hpd hsz Ld hmr hQ
  revert cx hQ
  apply law_open w body scope _ hl
  intro hl0 cx hQ
  (try dsimp only [Lds, Ldz])
  (try dsimp only)
  (try k_fold)
  have X1 := cx.X
  have B1 := cx.B
  have hf1 := cx.f
  have hke1 := cx.k
  have hdp1 := cx.d
  have hun1 := cx.u
  obtain ⟨p1, loose1, mean1, mg1, mb1, T1⟩ := cx.T
  have N : News h₀ L s.heap ((p.a, instObj 59 p.d) :: (p.d, dictOf [en w "useragents" p.t1 (.ref p.l1), en w "rulelines" p.t2 (.ref p.l2), en w "delay" p.t3 .none, en w "req_rate" p.t4 .none] 4) :: (p.l2, Wl (ruleRefs qs).toArray p.e) :: (L + 1, oL) :: (L + 1 + 1, oS) :: ((rulesObjs w qs ++ st) ++ Gs.flatten)) := news_sub Ld.flat (by walk_at "SUB")
  skip
  (repeat ((fail_if_success (with_reducible show wpAny _ _ (eval (Expr.ListComp _ _ _ _) _) _ _ _)); w_once))
  rename Fr _ _ _ _ => F2
  rename News _ _ _ _ => N2
  refine own_compT (h₀ := h₀) (L := L) (m := m) (by with_unfolding_all rfl) (by decide) (by rfl) (by decide) ?_ (fun _ => rfl)
  repeat ((fail_if_success (with_reducible show Exists _)); w_once)
  rename News _ _ _ _ => N3
  rename Fr _ _ _ _ => F3
  rename_i T _ lT
  obtain ⟨ta, tc, its, hits, N3⟩ : ∃ ta tc its, its = [Value.str (Zs "") ta, .str ⟨#[x]⟩ lt, .str (Zs "") tc] ∧ News h₀ L _ ((T, tupOf its) :: (p.a, instObj 59 p.d) :: (p.d, dictOf [en w "useragents" p.t1 (.ref p.l1), en w "rulelines" p.t2 (.ref p.l2), en w "delay" p.t3 .none, en w "req_rate" p.t4 .none] 4) :: (p.l2, Wl (ruleRefs qs).toArray p.e) :: (L + 1, oL) :: (L + 1 + 1, oS) :: ((rulesObjs w qs ++ st) ++ Gs.flatten)) := ⟨_, _, _, rfl, N3⟩
  obtain ⟨X, hX⟩ : ∃ X, X = (T, tupOf its) :: (L + 1, oL) :: (L + 1 + 1, oS) :: (recObjs w p (ruleRefs qs) ++ Gs.flatten) := ⟨_, rfl⟩
  have hTX : (T, tupOf its) ∈ X := by rw [hX]; exact .head _
  have hLX : (L + 1, oL) ∈ X := by rw [hX]; exact .tail _ (.head _)
  have hSX : (L + 1 + 1, oS) ∈ X := by rw [hX]; exact .tail _ (.tail _ (.head _))
  have N4 : News h₀ L _ (X ++ (rulesObjs w (qs ++ []) ++ st)) := news_sub N3 (by rw [Lan, hX]; dsimp only [recObjs]; walk_at "SUB")
  have hX0 : ∀ y ∈ rulesObjs w qs ++ st, ∀ z ∈ X, y.1 ≠ z.1 := fun y hy => by
    rw [hX]
    exact faCons (Nnl (mem_lt_of_allLt lT.2.2.2.2.2 y (Lal _ hy))) (faCons (Ne.symm (Ld.off _ (.tail _ (.tail _ (.head _))) _ (.head _) y hy)) (faCons (Ne.symm (Ld.tail.off _ (.tail _ (.head _)) _ (.head _) y hy)) (faApp (fun z hz => Ne.symm (Ld.tail.tail.off _ (.head _) _ hz y hy)) (fun z hz => by
      obtain ⟨g, hg, hzg⟩ := Lmf.mp hz
      exact Ld.tail.tail.tail.off g hg y hy z hzg))))
  have lT' := lT
  clear lT N3
  refine ⟨T, its, X ++ (rulesObjs w (qs ++ []) ++ st), fun ys nw => JR w x n qs X [] ys nw, rfl, trivial, F3, N4, Lal _ hTX, by rw [hits, sizeLine_eq]; show 3 ≤ _; omega, fun g => CR_ind (JR w x n qs X) ?turn (fun _ _ h => h) _ _ _ ?init, ?fin⟩
  case init => exact ⟨[(Zs "", ta), (⟨#[x]⟩, lt), (Zs "", tc)], [], st, hits, (faCons (by decide : (Zs "").length ≤ 10) (faCons (by decide : 1 ≤ 10) (faCons (by decide : (Zs "").length ≤ 10) faNil))), rfl, rfl, (fun _ h => nomatch h), hst, hst2.imp id (fun h => ⟨h, rfl⟩), (fun y hy => hX0 y (Lar _ hy)), rfl⟩
  case turn =>
    intro v r ys news hJ I2 oI2 C2 oC2 D2 mC hh tk9 E' hC F10 N10 off10 ne10
    refine hide fun GG kG => ?_
    obtain ⟨vr, new, st', hr, hvl, rfl, hkey, hok, hst', hst2', hap, rfl⟩ := hJ
    cases vr with
    | nil => cases hr
    | cons z vr =>
    obtain ⟨rfl, rfl⟩ := List.cons.inj hr
    refine kG ?_
    clear kG
    refine asg_one rfl rfl F10 N10 hC off10 ne10 ?_
    intro h11 tk11 oC11 hC11 F11 N11
    obtain ⟨mC2, hmC2, hv1⟩ : ∃ mC2 : Str -> Option Value, LCg.NsObj oC11 mC2 ∧ mC2 (Zs "verdict") = some (.str z.1 z.2) := ⟨_, hC11, if_pos rfl⟩
    clear hC11 hC
    have N12 : News h₀ L h11 ((C2, oC11) :: (L + 1, oL) :: (L + 1 + 1, oS) :: ((I2, oI2) :: (D2, LCg.lst (ruleRefs new)) :: (X ++ (rulesObjs w (qs ++ new) ++ st')))) := news_sub N11 (subCons (.tail _ (.head _)) (subCons (.tail _ (.tail _ (.tail _ (inLeft hLX)))) (subCons (.tail _ (.tail _ (.tail _ (inLeft hSX)))) (subCons (.head _) fun p hp => .tail _ (.tail _ hp)))))
    clear N11 N10 F10
    refine wpAny_tests_nil ?_
    rw [if_pos rfl]
    (repeat ((fail_if_success (with_reducible show wpAny _ _ (call _ _ _) _ _ _)); w_once))
    rename News _ _ _ _ => N13
    rename Fr _ _ _ _ => F13
    refine c_rule cx F13 (st := st') (news_sub N13 (by first | walk_at "SUB" | (intro p hp; simp [hp]))) hst' ⟨#[x]⟩ z.1 n _ _ _ (by decide : 1 ≤ 10) (hvl z (.head _)) ?_
    intro p5 h5 tk5 st5 ok5 nst5 kp5 F5 N5 o5 fr5
    have offI : ∀ q ∈ st', q.1 ≠ I2 ∧ q.1 ≠ C2 ∧ q.1 ≠ D2 := fun q hq => off10.mem q (Lar _ (Lar _ hq))
    have fr6 := fr5 ((I2, oI2) :: (C2, oC11) :: (D2, LCg.lst (ruleRefs new)) :: X) (news_sub N13 (by walk_at "SUB")) (fun q hq hm => by
      obtain ⟨r, hr1, hr2⟩ := Lmm.mp hm
      exact faCons (P := fun q => r.1 ≠ q.1) (offI r hr1).1 (faCons (offI r hr1).2.1 (faCons (offI r hr1).2.2 (hap r (Lar _ hr1)))) q hq hr2)
    have N6 : News h₀ L h5 ((I2, oI2) :: (C2, oC11) :: (D2, LCg.lst (ruleRefs new)) :: (X ++ rulesObjs w (qs ++ new))) := keep_all N13 (by first | walk_at "SUB" | (intro p hp; simp [hp])) (by walk_at "SUB") o5 (fun p hp => N5 p (Lar _ hp)) kp5.2 (hst2'.imp id (fun hh q hq hm => by
      obtain ⟨r, hr1, hr2⟩ := Lmm.mp hm
      rw [hh.1, hh.2] at hq
      exact faCons (P := fun q => r.1 ≠ q.1) (offI r hr1).1 (faCons (offI r hr1).2.1 (faCons (offI r hr1).2.2 (faApp (hap r (Lar _ hr1)) (faNil : ∀ p ∈ ([] : List (Addr × Obj)), r.1 ≠ p.1)))) q hq hr2))
    have er : rulesObjs w (qs ++ (new ++ [⟨p5, ⟨#[x]⟩, n, z.1⟩])) = rulesObjs w (qs ++ new) ++ ruleObjs w p5 z.1 := by
      rw [← Laa]
      exact List.flatMap_append.trans (congrArg _ (Lan _))
    have er2 : rulesObjs w (new ++ [⟨p5, ⟨#[x]⟩, n, z.1⟩]) = rulesObjs w new ++ ruleObjs w p5 z.1 := by
      exact List.flatMap_append.trans (congrArg _ (Lan _))
    repeat' ((fail_if_success (with_reducible show CE _ _ _ _ _ _ _ _ _ _ _ _ _)); w_once)
    refine ce_end (X ++ (rulesObjs w (qs ++ (new ++ [⟨p5, ⟨#[x]⟩, n, z.1⟩])) ++ st5)) hmC2 F5 (fun q hq => ?_) (LCg.Off3.of fun q hq => ?_) (Lal _ hTX) ⟨vr, new ++ [⟨p5, ⟨#[x]⟩, n, z.1⟩], st5, rfl, fun z hz => hvl z (.tail _ hz), ?_, ?_, ?_, nst5, .inl kp5.1, ?_, rfl⟩
    · rw [er] at hq
      exact faCons (P := fun q => h5.get? q.1 = some q.2 ∧ q.1 ≠ L ∧ h₀.get? q.1 = none) (N6 _ (.head _)) (faCons (N6 _ (.tail _ (.head _))) (faCons (N6 _ (.tail _ (.tail _ (.head _)))) (faApp (fun q h => N6 q (.tail _ (.tail _ (.tail _ (inLeft h))))) (faApp (faApp (fun q h => N6 q (.tail _ (.tail _ (.tail _ (inRight h))))) (fun q h => N5 q (inLeft h))) (fun q h => N5 q (inRight h)))))) q hq
    · rw [er] at hq
      have new3 : q ∈ ruleObjs w p5 z.1 ++ st5 -> q.1 ≠ I2 ∧ q.1 ≠ C2 ∧ q.1 ≠ D2 := fun h => ⟨Ne.symm (fr6 _ (.head _) q h), Ne.symm (fr6 _ (.tail _ (.head _)) q h), Ne.symm (fr6 _ (.tail _ (.tail _ (.head _))) q h)⟩
      exact (Lma.mp hq).elim (fun h => off10.mem q (Lal _ h)) fun hq => (Lma.mp hq).elim (fun hq => (Lma.mp hq).elim (fun h => off10.mem q (Lar _ (Lal _ h))) fun h => new3 (Lal _ h)) fun h => new3 (Lar _ h)
    · simp
    · rw [← hkey]
      simp [RuleQ.key]
    · intro q hq
      rcases Lma.mp hq with hq | hq
      · exact hok q hq
      · rw [Lms.mp hq]; exact ok5
    · intro y hy q hq
      rw [er2] at hy
      have new4 : y ∈ ruleObjs w p5 z.1 ++ st5 -> y.1 ≠ q.1 := fun h => Ne.symm (fr6 q (.tail _ (.tail _ (.tail _ hq))) y h)
      exact (Lma.mp hy).elim (fun hy => (Lma.mp hy).elim (fun h => hap y (Lal _ h) q hq) fun h => new4 (Lal _ h)) fun h => new4 (Lar _ h)
  case fin =>
    intro ys nw D9 h9 tk9 hJ F10 N10 off10
    refine hide fun GG kG => ?_
    obtain ⟨vr, new, st', hr, -, rfl, hkey, hok, hst', hst2', hap, rfl⟩ := hJ
    refine kG ?_
    clear kG
    have hvr : vr = [] := by
      cases vr with
      | nil => rfl
      | cons _ _ => cases hr
    subst hvr
    have hkey : new.map RuleQ.key = tri3 x n := by simpa using hkey
    have hl3 : new.length = 3 := by have := congrArg List.length hkey; simpa [tri3] using this
    have hst3 : st'.length = 2 := hst2'.resolve_right fun h => by rw [h.2] at hl3; cases hl3
    (repeat ((fail_if_success (with_reducible show wpAny _ _ (call _ _ _) _ _ _)); w_once))
    refine led_extend (D := p.l2) (vs := ruleRefs qs) (e := p.e) F10 N10 (by rw [hX]; simp [recObjs]) (.head _) (by rw [Llm, hl3]; decide) (by rw [Llm, Llm]; omega) ?_
    intro h10 F11 o11 N11
    have hzX : ∀ z ∈ [(L + 1, oL)] :: [(L + 1 + 1, oS)] :: recObjs w p (ruleRefs qs) :: Gs, ∀ q ∈ z, q ∈ X := faCons (faCons hLX faNil) (faCons (faCons hSX faNil) (by
      rw [hX]
      exact faCons (fun q hq => .tail _ (.tail _ (.tail _ (Lal _ hq)))) (fun z hz q hq => .tail _ (.tail _ (.tail _ (Lar _ (Lmf.mpr ⟨z, hz, hq⟩)))))))
    have LA := Led.front (A := [[(L + 1, oL)], [(L + 1 + 1, oS)], recObjs w p (ruleRefs qs)]) Ld
    have LB : Led h₀ h9 L ((rulesObjs w (qs ++ new) ++ st') :: [(L + 1, oL)] :: [(L + 1 + 1, oS)] :: recObjs w p (ruleRefs qs) :: Gs) := .cons (fun q hq => N10 q (.tail _ (Lar _ hq))) (fun z hz y hy q hq => by
      have hqX := hzX z hz q hq
      rw [show rulesObjs w (qs ++ new) = rulesObjs w qs ++ rulesObjs w new from List.flatMap_append ..] at hy
      exact (Lma.mp hy).elim (fun hy => (Lma.mp hy).elim (fun h => hX0 y (Lal _ h) q hqX) fun h => hap y (Lal _ h) q hqX) fun h => hap y (Lar _ h) q hqX) ⟨fun z hz q hq => N10 q (.tail _ (Lal _ (hzX z hz q hq))), LA.tail.d⟩
    have LC := Led.front (A := [rulesObjs w (qs ++ new) ++ st', [(L + 1, oL)], [(L + 1 + 1, oS)]]) LB
    have LD := LC.same (g' := recObjs w { p with e := p.e + 1 } (ruleRefs (qs ++ new))) (h' := h10) (fun n2 N2 off => o11 n2 N2 fun q hq hm => off q hq (by rw [Lms.mp hm]; simp [recObjs])) (by
      refine faCons ?_ (faCons ?_ (faCons ?_ faNil))
      · exact o11 [(p.a, instObj 59 p.d)] (fun q hq => by rw [Lms.mp hq]; exact LC.head _ (.head _)) (fun q hq hm => by rw [Lms.mp hq] at hm; exact hpd.2.1 (Lms.mp hm)) _ (.head _)
      · exact o11 [(p.d, _)] (fun q hq => by rw [Lms.mp hq]; exact LC.head _ (.tail _ (.head _))) (fun q hq hm => by rw [Lms.mp hq] at hm; exact hpd.2.2 (Lms.mp hm)) _ (.head _)
      · have := N11 _ (.head _)
        rwa [← Lmp] at this) (fun q hq => by
      simp only [recObjs, Lmc, Lnm, or_false] at hq
      rcases hq with rfl | rfl | rfl <;> simp [recObjs])
    refine hQ new st' (p.e + 1) _ _ F11 hkey hok hst' hst3 (LD.perm ?_)
    exact (List.perm_append_comm (l₁ := [recObjs w { p with e := p.e + 1 } (ruleRefs (qs ++ new)), rulesObjs w (qs ++ new) ++ st']) (l₂ := [[(L + 1, oL)], [(L + 1 + 1, oS)]])).append_right Gs
end
end
section
theorem rs_Y8 : True := by
  w_top off
  trivial
section
end
section
theorem sseg1 (hl : LawDef w body scope) (cx : Cx w 30 dp un A₀ (envOfC (Zs "law") scope L fa cd) [] h₀ h₀ L) (F : Fr h₀ L s.heap m) {rw d : Addr} {rl : List (Addr × Obj)} {e fi : Nat} {tf tk0 : Tok} {pcs : List (Str × Str)} {oL oS : Obj} {lt stt : Tok} {x p : Nat} (hoL : oL.data = .cell (some (.str ⟨#[x]⟩ lt))) (hoS : oS.data = .cell (some (.int p stt))) (hp : 1 ≤ p ∧ p ≤ 100)
    (hrd : rw ≠ d) (hrl : TupsAre rl (pcs.map pieceD)) (hsz : rl.length ≤ 1000) (hoff : ∀ z ∈ rl, z.1 ≠ rw ∧ z.1 ≠ d)
    (Ld : Led h₀ s.heap L ([(L + 1, oL)] :: [(L + 1 + 1, oS)] :: (rowAt w rw d (refsOf rl) e fi tf tk0 ++ rl) :: Gs)) (hmr : m (Zs "row") = some (.ref rw))
    (hQ : ∀ (rl' : List (Addr × Obj)) (e' : Nat) h' tk, Fr h₀ L h' m -> TupsAre rl' ((pcs ++ [(Txt.mul (Zs " ") ((p : Int) - 1), (⟨#[x]⟩ : Str))]).map pieceD) -> (∀ z ∈ rl', z.1 ≠ rw ∧ z.1 ≠ d) -> Led h₀ h' L ([(L + 1, oL)] :: [(L + 1 + 1, oS)] :: (rowAt w rw d (refsOf rl') e' fi tf tk0 ++ rl') :: Gs) -> wpAny (model RWQ.row.prog w) (AA dp un (envOfC (Zs "law") scope L fa cd) []) (execs ((forBody (body.getD 7 (.Pass default))).drop 2) (envOfC (Zs "law") scope L fa cd)) Q E { s with heap := h', toks := tk })
    : wpAny (model RWQ.row.prog w) (AA dp un (envOfC (Zs "law") scope L fa cd) []) (execs ((forBody (body.getD 7 (.Pass default))).drop 1) (envOfC (Zs "law") scope L fa cd)) Q E s := by
  revert hl cx F hoL hoS hp hrd hrl hsz hoff Ld hmr hQ
  revert w dp un A₀ h₀ L fa cd m s Q E body scope Gs rw d rl e fi tf tk0 pcs oL oS lt stt x p
  apply frz22; case n => walk_at "FZN"
  intro w dp un A₀ h₀ L fa cd m s Q E body scope Gs rw d rl e fi tf tk0
  clear_value w dp un A₀ h₀ L fa cd m s Q E body scope Gs rw d rl e fi tf tk0
  apply frz7; case n => walk_at "FZN"
  intro pcs oL oS lt stt x p
  clear_value pcs oL oS lt stt x p
  intro hl cx F hoL hoS hp hrd hrl hsz hoff Ld hmr hQ
  revert cx hQ
  apply law_open w body scope _ hl
  intro hl0 cx hQ
  (try dsimp only [Lds, Ldz])
  (try dsimp only)
  (try k_fold)
  have X1 := cx.X
  have B1 := cx.B
  have hf1 := cx.f
  have hke1 := cx.k
  have hdp1 := cx.d
  have hun1 := cx.u
  obtain ⟨p1, loose1, mean1, mg1, mb1, T1⟩ := cx.T
  have N : News h₀ L s.heap ((rw, accObj d (refsOf rl) e) :: (d, rowDict w fi tf tk0) :: (L + 1, oL) :: (L + 1 + 1, oS) :: (rl ++ Gs.flatten)) := news_sub Ld.flat (by walk_at "SUB")
  (repeat ((fail_if_success (with_reducible show wpAny _ _ (getMethod _ _ _) _ _ _)); w_once))
  ((refine acc_methF (by k_asm) (by k_asm) (inst_acc (by k_asm) (by walk_at "MEM") (by walk_at "MEM")) (by k_is) (by k_is) (by k_is) (by k_is) (by k_get) ?_))
  (repeat ((fail_if_success (with_reducible show wpAny _ _ (call _ _ _) _ _ _)); w_once))
  rename News _ _ _ _ => N2
  rename Fr _ _ _ _ => F2
  refine c_push (m := m) cx ?F (rw := rw) (d := d) (vs := refsOf rl) (e := e) (fi := fi) (tf := tf) (tk0 := tk0) ?N hrd (by rw [Llm]; omega) _ _ _ _ ?_
  case F => exact F2
  case N => exact news_sub N2 (fun z hz => by
    simp only [Lmc, Lnm, or_false] at hz
    rcases hz with h | h <;> simp [h])
  intro T h3 tk3 e3 F3 N3 hT o3 fr3
  obtain ⟨tA, tB, oT, hoT, N3⟩ : ∃ tA tB oT, oT = tupOf [.str (Txt.mul (Zs " ") ((p : Int) - 1)) tA, .str ⟨#[x]⟩ tB] ∧ News h₀ L h3 ((T, oT) :: rowAt w rw d (refsOf rl ++ [.ref T]) e3 fi tf tk0) := ⟨_, _, _, rfl, N3⟩
  have fr4 : ∀ z ∈ rl, z.1 ≠ T := fr3 rl (fun q hq => Ld.flat q (by first | f_congr_eq | simp [hq])) (fun z hz hm => by
    rcases Lmc.mp hm with h | h
    · exact (hoff z hz).1 h
    · exact (hoff z hz).2 (Lms.mp h))
  have LA := Led.front (A := [[(L + 1, oL)], [(L + 1 + 1, oS)]]) Ld
  have LB := LA.step (g' := rowAt w rw d (refsOf (rl ++ [(T, oT)])) e3 fi tf tk0 ++ (rl ++ [(T, oT)])) (h' := h3) (fun n2 N off => o3 n2 N fun q hq hm => off q hq (by
    rcases Lmc.mp hm with h | h
    · simp [h]
    · simp [Lms.mp h])) (fun q hq => by
    rcases Lma.mp hq with hq | hq
    · refine N3 q (.tail _ ?_)
      rw [show refsOf (rl ++ [(T, oT)]) = refsOf rl ++ [.ref T] from Lmp ..] at hq
      exact hq
    · rcases Lma.mp hq with hq | hq
      · exact o3 rl (fun q hq => Ld.flat q (by first | f_congr_eq | simp [hq])) (fun z hz hm => by
          rcases Lmc.mp hm with h | h
          · exact (hoff z hz).1 h
          · exact (hoff z hz).2 (Lms.mp h)) q hq
      · rw [Lms.mp hq]; exact N3 _ (.head _)) (fun n2 N off q hq r hr e => by
    have hq1 : q.1 ≠ rw ∧ q.1 ≠ d ∧ ∀ z ∈ rl, q.1 ≠ z.1 := by
      have := off q hq
      simp only [Lmp, Lpc, List.map_nil, Lma, Lmc, Lnm, or_false, not_or] at this
      exact ⟨this.1.1, this.1.2, fun z hz h => this.2 (Lmm.mpr ⟨z, hz, h.symm⟩)⟩
    simp only [Lma, Lmc, Lnm, or_false] at hr
    rcases hr with (rfl | rfl) | hr | rfl
    · exact hq1.1 e
    · exact hq1.2.1 e
    · exact hq1.2.2 r hr e
    · exact fr3 n2 N (fun z hz hm => off z hz (by
        rcases Lmc.mp hm with h | h
        · simp [h]
        · simp [Lms.mp h])) q hq e)
  (repeat ((fail_if_success (with_reducible show wpAny _ _ (execs (_ :: _) _) _ _ _)); w_once))
  (try dsimp only)
  subst hoT
  refine hQ _ e3 _ _ F3 ?_ ?_ (LB.perm (List.perm_middle (l₁ := [[(L + 1, oL)], [(L + 1 + 1, oS)]])).symm)
  · rw [Lmp]
    exact hrl.append (.cons (.cons (fun _ => .str _ _) (.cons (fun _ => .str _ _) .nil)) .nil)
  · intro z hz
    rcases Lma.mp hz with hz | hz
    · exact hoff z hz
    · rw [Lms.mp hz]; exact hT
end
end
section
theorem rs_YK : True := by
  w_top off
  trivial
section
end
section
inductive JL (w : World) (L DA rw d ra : Addr) (wi fi : Nat) (tf tk0 : Tok) (ps : List Piece) (tl : List (Addr × Obj)) (eA : Nat) (Gs : List (List (Addr × Obj))) (m0 : Str -> Option Value) (s0 : Shared) (r : List Value) (m : Str -> Option Value) (news : List (Addr × Obj)) (s : Shared) : Prop
  | mk : ∀ k kept N oL oS o1 o2 rl e p qs st dm, (r = refsOf (tl.drop k)) -> (LoopSt wi fi rw d ra ps m m0 k kept N oL oS o1 o2 rl p qs st dm) -> (AllBare s.gens) -> (s.os = s0.os) -> ((loopG w L DA rw d tl eA rl e fi tf tk0 oL oS o1 o2 p qs st dm Gs).Pairwise Apart) -> (news = (loopG w L DA rw d tl eA rl e fi tf tk0 oL oS o1 o2 p qs st dm Gs).flatten) -> JL w L DA rw d ra wi fi tf tk0 ps tl eA Gs m0 s0 r m news s
theorem JL.put {w : World} {L DA rw d ra : Addr} {wi fi : Nat} {tf tk0 : Tok} {ps : List Piece} {tl : List (Addr × Obj)} {eA : Nat} {Gs : List (List (Addr × Obj))} {m0 : Str -> Option Value} {s0 : Shared} (r : List Value) (m : Str -> Option Value) (news : List (Addr × Obj)) (s : Shared) (h : Heap) (tk : Nat) (hj : JL w L DA rw d ra wi fi tf tk0 ps tl eA Gs m0 s0 r m news s) : JL w L DA rw d ra wi fi tf tk0 ps tl eA Gs m0 s0 r m news { s with heap := h, toks := tk } := by
  obtain ⟨k, kept, N, oL, oS, o1, o2, rl, e, p, qs, st, dm, a, b, c, d, e', f⟩ := hj
  exact ⟨k, kept, N, oL, oS, o1, o2, rl, e, p, qs, st, dm, a, b, c, d, e', f⟩
theorem keys_len : ∀ ps : List Piece, (keysK ps).length = 3 * ps.length
  | [] => rfl
  | z :: ps => by
    have := keys_len ps
    unfold keysK at *
    rw [List.flatMap_cons, Lla, this, Llc]
    simp [tri3]; omega
theorem perm4 {α : Type} (a b c l t r x y : α) (Z : List α) : (a :: b :: t :: r :: x :: y :: c :: l :: Z).Perm (a :: b :: c :: l :: t :: r :: x :: y :: Z) :=
  (((List.perm_append_comm (l₁ := [t, r, x, y]) (l₂ := [c, l])).append_right Z).cons b).cons a
theorem perm3 {α : Type} (a b c l t r : α) (Z : List α) : (a :: b :: c :: l :: t :: r :: Z).Perm (a :: b :: r :: c :: l :: t :: Z) :=
  ((List.perm_middle (l₁ := [c, l, t])).cons b).cons a
theorem drop_at {tl : List (Addr × Obj)} {ps : List Piece} (h : TupsAre tl (ps.map pcD)) {k : Nat} {x : Value} {r : List Value} (hr : x :: r = refsOf (tl.drop k)) : ∃ (hk : k < ps.length) (T : Addr) (t u v : Tok), x = .ref T ∧ (T, tupOf [.int ps[k].b t, .str ⟨#[ps[k].x]⟩ u, .int ps[k].p v]) ∈ tl ∧ r = refsOf (tl.drop (k + 1)) := by
  obtain ⟨hk, T, vs, e1, e2, f, e3⟩ := tups_next h hr
  obtain ⟨t, u, v, e⟩ := flat_isi f
  exact ⟨hk, T, t, u, v, e1, e ▸ e2, e3⟩
theorem seg7 (hl : LawDef w body scope) (cx : Cx w 30 dp un A₀ (envOfC (Zs "law") scope L fa cd) [] h₀ h₀ L) (F : Fr h₀ L s.heap m) {DA rw d ra : Addr} {wi fi eA e : Nat} {tf tk0 t1 t2 t3 t4 : Tok} {ps : List Piece} {tl rl : List (Addr × Obj)} {oL oS o1 o2 : Obj} {p : RecP} {qs : List RuleQ} {st dm : List (Addr × Obj)}
    (hPE : PassesOwn (model RWQ.row.prog w) (AA dp un (envOfC (Zs "law") scope L fa cd) []) (envOfC (Zs "law") scope L fa cd) E) (hps : PsOk ps) (hw : 7 ≤ wi ∧ wi ≤ 16) (hfi : fi < 10) (hrd : rw ≠ d) (htl : TupsAre tl (ps.map pcD))
    (hmt : m (Zs "told") = some (.ref DA)) (hmr : m (Zs "row") = some (.ref rw)) (hmp : m (Zs "record") = some (.ref ra)) (hmf : m (Zs "first") = some (.int fi t1)) (hmw : m (Zs "width") = some (.int wi t2))
    (hG : AllBare s.gens) (hS : LoopSt wi fi rw d ra ps m m 0 [] 1 oL oS o1 o2 rl p qs st dm) (Ld : Led h₀ s.heap L (loopG w L DA rw d tl eA rl e fi tf tk0 oL oS o1 o2 p qs st dm Gs))
    (hQ : ∀ (s' : Shared) (m' : Str -> Option Value) (kept : List Piece) (N : Nat) (oL oS o1 o2 : Obj) (rl : List (Addr × Obj)) (e : Nat) (p : RecP) (qs : List RuleQ) (st dm : List (Addr × Obj)), Fr h₀ L s'.heap m' -> LoopSt wi fi rw d ra ps m' m ps.length kept N oL oS o1 o2 rl p qs st dm -> AllBare s'.gens -> s'.os = s.os -> Led h₀ s'.heap L (loopG w L DA rw d tl eA rl e fi tf tk0 oL oS o1 o2 p qs st dm Gs) -> wpAny (model RWQ.row.prog w) (AA dp un (envOfC (Zs "law") scope L fa cd) []) (execs (body.drop 8) (envOfC (Zs "law") scope L fa cd)) Q E s')
    : wpAny (model RWQ.row.prog w) (AA dp un (envOfC (Zs "law") scope L fa cd) []) (execs (body.drop 7) (envOfC (Zs "law") scope L fa cd)) Q E s := by
  revert hl cx F hPE hps hw hfi hrd htl hmt hmr hmp hmf hmw hG hS Ld hQ
  revert w dp un A₀ h₀ L fa cd m s Q E body scope Gs DA rw d ra wi fi eA e tf tk0 t1 t2 t3 t4 ps tl rl oL oS o1 o2 p qs st dm
  apply frz22; case n => walk_at "FZN"
  intro w dp un A₀ h₀ L fa cd m s Q E body scope Gs DA rw d ra wi fi eA
  clear_value w dp un A₀ h₀ L fa cd m s Q E body scope Gs DA rw d ra wi fi eA
  apply frz18; case n => walk_at "FZN"
  intro e tf tk0 t1 t2 t3 t4 ps tl rl oL oS o1 o2 p qs st dm
  clear_value e tf tk0 t1 t2 t3 t4 ps tl rl oL oS o1 o2 p qs st dm
  intro hl cx F hPE hps hw hfi hrd htl hmt hmr hmp hmf hmw hG hS Ld hQ
  revert cx hPE hQ
  apply law_open w body scope _ hl
  intro hl0 cx hPE hQ
  (try dsimp only [Lds, Ldz])
  (try dsimp only [Lds, Ldz] at hQ)
  (try dsimp only)
  (try k_fold)
  have X1 := cx.X
  have B1 := cx.B
  have hf1 := cx.f
  have hke1 := cx.k
  have hdp1 := cx.d
  have hun1 := cx.u
  obtain ⟨p1, loose1, mean1, mg1, mb1, T1⟩ := cx.T
  have N : News h₀ L s.heap ((DA, Wl (refsOf tl).toArray eA) :: (loopG w L DA rw d tl eA rl e fi tf tk0 oL oS o1 o2 p qs st dm Gs).flatten) := news_cons (Ld.flat _ (by walk_at "SI")) Ld.flat
  (repeat ((fail_if_success (with_reducible show wpAny _ _ (exec (Stmt.For _ _ _ _ _) _) _ _ _)); w_once))
  rename Fr _ _ _ _ => F2
  refine For_seq (h₀ := h₀) ?_ (fun _ => rfl) hPE
  iterate 1 (w_once)
  refine ⟨DA, refsOf tl, m, (loopG w L DA rw d tl eA rl e fi tf tk0 oL oS o1 o2 p qs st dm Gs).flatten, JL w L DA rw d ra wi fi tf tk0 ps tl eA Gs m s, rfl, rfl, F2, Ld.flat, SeqAt.of_list (is_of N (.head _)), fun {Q'} q => wpAny_pyIter_list (is_of N (.head _)) (by simpa using q), JL.put, ?init, ?step, ?done⟩
  case init => exact ⟨0, [], 1, oL, oS, o1, o2, rl, e, p, qs, st, dm, rfl, hS, hG, rfl, Ld.d, rfl⟩
  case step =>
    clear F2 N
    rintro I x r m₁ news₁ s₂ oI Qt ⟨k, kept, N0, oL1, oS1, o11, o21, rl1, e1, p1', qs1, st1, dm1, hr, hS1, hG1, hos1, hd1, rfl⟩ hc F8 N8 off8 hl8 LQ
    obtain ⟨hk, T, u1, u2, u3, rfl, hT, rfl⟩ := drop_at htl hr
    have L8 : Led h₀ s₂.heap L (loopG w L DA rw d tl eA rl1 e1 fi tf tk0 oL1 oS1 o11 o21 p1' qs1 st1 dm1 ([(I, oI)] :: Gs)) := by
      have h1 : Led h₀ s₂.heap L ([(I, oI)] :: loopG w L DA rw d tl eA rl1 e1 fi tf tk0 oL1 oS1 o11 o21 p1' qs1 st1 dm1 Gs) := .cons (fun z hz => by rw [Lms.mp hz]; exact N8 _ (.head _)) (fun g hg z hz y hy => by
        rw [Lms.mp hz]
        exact Ne.symm (off8 y (Lmf.mpr ⟨g, hg, hy⟩))) ⟨fun g hg z hz => N8 z (.tail _ (Lmf.mpr ⟨g, hg, hz⟩)), hd1⟩
      exact h1.perm (List.perm_middle (l₁ := loopG w L DA rw d tl eA rl1 e1 fi tf tk0 oL1 oS1 o11 o21 p1' qs1 st1 dm1 [])).symm
    obtain ⟨vL, hvL⟩ := hS1.cL
    obtain ⟨vS, hvS⟩ := hS1.cS
    refine loop_asg hl0 cx F8 (q := ps[k]) L8 (List.Mem.tail _ hT) hvL hvS ?_
    intro h9 tk9 oL2 oS2 F9 hL2 hS2 L9
    have hlk : ∀ y, y ≠ Zs "number" -> y ≠ Zs "rest" -> y ≠ Zs "over" -> y ≠ Zs "moved" -> y ≠ Zs "bound" -> (if y = Zs "bound" then some (Value.int ps[k].b u1) else m₁ y) = m y := fun y a b c d e => (if_neg e).trans (hS1.mO y a b c d e)
    have hrec : (if Zs "record" = Zs "bound" then some (Value.int ps[k].b u1) else m₁ (Zs "record")) = some (.ref p1'.a) := by
      rw [hS1.pa]; exact (hlk _ (by decide) (by decide) (by decide) (by decide) (by decide)).trans hmp
    have hq3 : qs1.length ≤ 1000 := by
      have h1 := congrArg List.length hS1.key
      rw [Llm, keys_len, Llt] at h1
      have := hps.len
      omega
    refine sseg0 hl0 cx F9 p1' (qs := qs1) (st := st1) hL2 hS2 hS1.nt hS1.n2 hS1.pd hq3 (L9.perm (perm4 ..)) ?hr0 ?_
    case hr0 => exact hrec
    intro new st2 e2 h10 tk10 F10 hnew hrok hst2 hst2n L10
    have hp9 := hps.p _ (List.getElem_mem hk)
    have hkl : rl1.length ≤ 1000 := by
      have h1 := hS1.tu.length
      have h2 := row_six (fun q hq => hps.x q (List.mem_of_mem_take (hS1.ok.sub q hq))) hS1.ok.nd
      rw [Llm, Llm] at h1
      omega
    refine sseg1 hl0 cx F10 (rl := rl1) (pcs := kept.map pairK) hL2 hS2 ⟨hp9.1, by omega⟩ hrd hS1.tu hkl hS1.off (L10.perm (perm3 ..)) ?hr1 ?_
    case hr1 => exact (hlk _ (by decide) (by decide) (by decide) (by decide) (by decide)).trans hmr
    intro rl2 e3 h11 tk11 F11 tu2 off2 L11
    have hkey2 : (qs1 ++ new).map RuleQ.key = keysK (ps.take (k + 1)) := by rw [Lmp, hS1.key, hnew, keys_take hk]
    have hrok2 : ∀ q ∈ qs1 ++ new, RuleOk q.p q.x q.n := fun q hq => (Lma.mp hq).elim (hS1.rok q) (hrok q)
    have hin : ∀ z ∈ ps.take (k + 1), z ∈ ps := fun z hz => List.mem_of_mem_take hz
    have hrow : ∀ z ∈ kept ++ [ps[k]], z ∈ ps.take (k + 1) := fun z hz => by
      rw [← List.take_append_getElem hk]
      rcases Lma.mp hz with h | h
      · exact Lal _ (hS1.ok.sub z h)
      · exact Lar _ h
    have epc : kept.map pairK ++ [(Txt.mul (Zs " ") ((ps[k].p : Int) - 1), (⟨#[ps[k].x]⟩ : Str))] = (kept ++ [ps[k]]).map pairK := by rw [Lmp]; rfl
    have hrx : ∀ q ∈ kept ++ [ps[k]], 97 ≤ q.x ∧ q.x ≤ 102 := fun q hq => hps.x q (hin q (hrow q hq))
    have hnr : ((kept ++ [ps[k]]).map (·.x)).Nodup := by
      rw [Lmp, List.nodup_append]
      refine ⟨hS1.ok.nd, by simp, fun a ha b hb e => ?_⟩
      obtain ⟨z, hz, rfl⟩ := Lmm.mp ha
      rw [Lpc, List.map_nil, Lms] at hb
      exact take_ne hps hk z (hS1.ok.sub z hz) (e.trans hb)
    obtain ⟨hex, hall⟩ := letgo_is (q := ps[k]) hkey2 (fun q hq => hps.x q (hin q hq)) (fun q hq => (hps.p q (hin q hq)).1) (hps.nd.sublist ((List.take_sublist _ _).map _)) hrow hnr
    rw [← epc] at hex hall
    rw [epc] at tu2 hex hall
    have hppq : ∀ q ∈ kept ++ [ps[k]], 1 ≤ q.p ∧ q.p ≤ 9 := fun q hq => hps.p q (hin q (hrow q hq))
    have h6 := row_six hrx hnr
    have htt := tot_le (kept ++ [ps[k]]) fun q hq => (hppq q hq).2
    have htl2 := totLen_K (kept ++ [ps[k]]) fun q hq => (hppq q hq).1
    have hrl := rowText_len ((kept ++ [ps[k]]).map pairK)
    have hul := upper_rowK hrx
    have hq3' : (qs1 ++ new).length ≤ 1000 := by
      have h1 := congrArg List.length hkey2
      rw [Llm, keys_len, Llt] at h1
      have := hps.len
      omega
    refine sseg2 hl0 cx F11 (rl := rl2) (pcs := (kept ++ [ps[k]]).map pairK) (b := ps[k].b) (t1 := t1) (t2 := u1) hrd ?_ ?_ ?_ ?_ off2 hfi hS1.t1 hS1.t2 ?_ (keys_good hkey2 (fun q hq => hps.x q (hin q hq)) (fun q hq => (hps.p q (hin q hq)).1) hrok2) hq3' (L11.perm (perm8 ..)) ?hr2 ?hp2 ?hf2 ?hb2 hex ?_ ?_ ?_ ?_
    · exact tu2
    · rw [Llm]; omega
    · intro q hq
      obtain ⟨z, hz, rfl⟩ := Lmm.mp hq
      exact pair_len (hppq z hz)
    · rw [htl2]; omega
    · exact hG1
    case hr2 => exact (hlk _ (by decide) (by decide) (by decide) (by decide) (by decide)).trans hmr
    case hp2 => exact hrec
    case hf2 => exact (hlk _ (by decide) (by decide) (by decide) (by decide) (by decide)).trans hmf
    case hb2 => exact if_pos rfl
    · rw [hrl, htl2]; omega
    · rw [hul, hrl, htl2]; omega
    · rw [app_len, hul, hrl, htl2]
      have : (Zs "*/abcdef").length = 8 := by decide
      omega
    intro s' pcs' rl3 e4 o1' o2' F12 hlet tu3 off3 ht1 ht2 hG2 hos2 L12
    obtain ⟨kept', rfl, ht, hsub⟩ := hall pcs' hlet
    obtain ⟨t9, hN9⟩ := hS1.mN
    refine sseg3 hl0 cx F12 (N0 := N0) (wi := wi) (t1 := t9) (t2 := t2) (t3 := u1) hS2 hp9 (hps.b _ (List.getElem_mem hk)) hw ?hmn ?hmw2 (if_pos rfl) hS1.sm hS1.dt (L12.perm (perm9 ..)) ?_
    case hmn => exact (if_neg (by decide)).trans hN9
    case hmw2 => exact (hlk _ (by decide) (by decide) (by decide) (by decide) (by decide)).trans hmw
    intro h13 tk13 m13 t13 st13 F13 hnum hoth hsm13 hdt13 L13
    have L14 := L13.perm (perm10 ..)
    have N14 : News h₀ L h13 ((DA, Wl (refsOf tl).toArray eA) :: (loopG w L DA rw d tl eA rl3 e4 fi tf tk0 oL2 oS2 o1' o2' { p1' with e := e2 } (qs1 ++ new) st2 st13 Gs).flatten) := news_cons (L14.flat _ (by walk_at "SI")) L14.tail.flat
    refine LQ.go ⟨m13, (loopG w L DA rw d tl eA rl3 e4 fi tf tk0 oL2 oS2 o1' o2' { p1' with e := e2 } (qs1 ++ new) st2 st13 Gs).flatten, F13, L14.flat, fun z hz => ?_, SeqAt.of_list (is_of N14 (.head _)), k + 1, kept', N0 ||| shlN N0 (wi * ps[k].p + 1) % shlN 1 (wi * (ps[k].b + 1)), oL2, oS2, o1', o2', rl3, e4, { p1' with e := e2 }, qs1 ++ new, st2, st13, rfl, ?_, hG2, hos2.trans hos1, L14.tail.d, rfl⟩
    · obtain ⟨g, hg, hzg⟩ := Lmf.mp hz
      exact Ne.symm (L14.off g hg _ (.head _) z hzg)
    · exact ⟨hk, loop_step hps hk hw.1 hS1.ok ht hsub (take_ne hps hk), ⟨t13, hnum⟩, fun y a b c d e => (hoth y a b c d).trans ((if_neg e).trans (hS1.mO y a b c d e)), ⟨_, hL2⟩, ⟨_, hS2⟩, tu3, off3, ht1, ht2, hS1.pa, hS1.pd, hkey2, hrok2, hst2, .inl hst2n, hdt13, hsm13⟩
  case done =>
    clear F2 N
    rintro m₁ news₁ s₂ ⟨k, kept, N0, oL1, oS1, o11, o21, rl1, e1, p1', qs1, st1, dm1, hr, hS1, hG1, hos1, hd1, rfl⟩ F8 N8
    have hkk : k = ps.length := by
      have h1 := congrArg List.length hr
      have h2 := htl.length
      have h3 := hS1.kl
      simp only [List.length_nil, Llm, List.length_drop] at h1 h2
      omega
    subst hkk
    exact hQ s₂ m₁ kept N0 oL1 oS1 o11 o21 rl1 e1 p1' qs1 st1 dm1 F8 hS1 hG1 hos1 ⟨fun g hg z hz => N8 z (Lmf.mpr ⟨g, hg, hz⟩), hd1⟩
end
end
section
open PySem PySem.W PySem.Calls PyProof.Rows PyProof.V PySem.Spec PyProof.Rows.LCg
theorem max_exists {α : Type} (f : α -> Nat) : ∀ l : List α, l ≠ [] -> ∃ z ∈ l, ∀ q ∈ l, f q ≤ f z
  | [], h => absurd rfl h
  | [q], _ => ⟨q, .head _, fun y hy => by rw [Lms.mp hy]; exact Nat.le_refl _⟩
  | q :: z :: l, _ => by
    obtain ⟨y, hy, hm⟩ := max_exists f (z :: l) (by simp)
    by_cases h : f y ≤ f q
    · refine ⟨q, .head _, fun x hx => ?_⟩
      rcases Lmc.mp hx with rfl | hx
      · exact Nat.le_refl _
      · exact Nlt (hm x hx) h
    · refine ⟨y, .tail _ hy, fun x hx => ?_⟩
      rcases Lmc.mp hx with rfl | hx
      · omega
      · exact hm x hx
theorem chs_max (l : List (Nat × Nat)) : ∃ M, (∀ q ∈ chs l, q.1 ≤ M) ∧ ∃ c, (M, c) ∈ chs l := by
  obtain ⟨z, hz, hm⟩ := max_exists (fun q : Nat × Nat => q.1) (chs l) (List.ne_nil_of_length_pos (chs_pos l))
  exact ⟨z.1, hm, z.2, hz⟩
theorem nest_grown {h₀ h : Heap} {L P : Addr} {a b : Nat} {q : Str} {st : List (Addr × Obj)} (T : NestTab P a b q st) (N : News h₀ L h st) : GrownAt P h := by
  rcases T with rfl | ⟨c, oc, vs, t, rfl, _, _⟩
  · exact ⟨_, (N _ (.head _)).1⟩
  · exact ⟨_, (N _ (.head _)).1⟩
theorem tab_grown {h₀ h : Heap} {L P : Addr} {o : Obj} (T : TabOk o) (N : News h₀ L h [(P, o)]) : GrownAt P h := by
  obtain ⟨ps, rfl, _⟩ := T
  exact ⟨_, (N _ (.head _)).1⟩
theorem szs_K : ∀ row : List Piece, (∀ q ∈ row, 1 ≤ q.p) -> szsOf (row.map pairK) = row.map fun q => (q.p : Int)
  | [], _ => rfl
  | q :: row, h => by
    have h1 := congrArg List.length (blank_cps q.p)
    rw [List.length_replicate, Array.length_toList] at h1
    have h2 : (pairK q).1.length = q.p - 1 := h1
    have h3 : (pairK q).2.length = 1 := rfl
    have h4 := h q (.head _)
    have ih := szs_K row fun z hz => h z (.tail _ hz)
    unfold szsOf at ih ⊢
    rw [Lpc, Lpc, ih, Lpc, h2, h3]
    congr 1
    omega
theorem sum_cast : ∀ l : List Nat, (l.map (Int.ofNat ·)).sum = ((l.sum : Nat) : Int)
  | [] => rfl
  | x :: l => by rw [Lpc, List.sum_cons, List.sum_cons, sum_cast l]; simp
theorem sizes_are {kept : List Piece} {zn : List Int} (hp : ∀ q ∈ kept, 1 ≤ q.p) (h1 : zn.Perm (szsOf (kept.map pairK))) (h2 : zn.Pairwise (· ≤ ·)) : zn = (srt kept).map (Int.ofNat ·) := by
  rw [szs_K kept hp] at h1
  refine ksm_same (h1.trans ?_) h2 ?_
  · have := ((srt_perm kept).map (Int.ofNat ·)).symm
    rw [Lmq] at this
    exact this
  · rw [List.pairwise_map]
    exact (rising_pw (srt_rising kept)).imp fun h => by simpa using h
theorem least_ints {kept : List Piece} {zn : List Int} {ms : List Nat} {l : List (Nat × Nat)} (hz : zn = (srt kept).map (Int.ofNat ·)) (hs : srt kept = stay l) (hl : leastF 0 ms 0 = (List.range ((stay l).length + 1)).map fun j => sm j (stay l)) :
    (leastF 0 ms 0).map (Int.ofNat ·) = (List.range ((kept.map pairK).length + 1)).map fun j => (zn.take j).sum := by
  rw [hl, Lmq, hz, Llm, ← srt_length kept, hs]
  apply List.map_congr_left
  intro j _
  show Int.ofNat (sm j (stay l)) = _
  rw [← List.map_take, sum_cast]
  rfl
section
variable {w : World} {dp un : Nat} {A₀ : Around} {h₀ : Heap} {L fa : Addr} {cd : Value} {m : Str -> Option Value} {s : Shared} {Q : Flow -> Shared -> Prop} {E : Value -> Shared -> Prop} {body : List Stmt} {scope : Scope}
theorem law_walk (hl : LawDef w body scope) (cx : Cx w 30 dp un A₀ (envOfC (Zs "law") scope L fa cd) [] h₀ h₀ L) (F : Fr h₀ L s.heap m) {l : Addr} {vs : List Value} {ns : List Int} (hm : m (Zs "script") = some (.ref l)) (hls : h₀.IsList l vs.toArray) (hi : IntsAre vs ns)
    (hPE : PassesOwn (model RWQ.row.prog w) (AA dp un (envOfC (Zs "law") scope L fa cd) []) (envOfC (Zs "law") scope L fa cd) E) (hG : AllBare s.gens) {oL oS oP oZ oE oT : Obj} (hoL : cellHolds oL) (hoS : cellHolds oS) (hoP : cellHolds oP) (hoZ : cellHolds oZ) (hoE : cellHolds oE) (hoT : cellHolds oT)
    (L0 : Led h₀ s.heap L ([(79, tabObj #[]), (86, tabObj #[])] :: [(L + 1, oL)] :: [(L + 1 + 1, oS)] :: [(L + 1 + 1 + 1, oP)] :: [(L + 1 + 1 + 1 + 1, oZ)] :: [(L + 1 + 1 + 1 + 1 + 1, oE)] :: [(L + 1 + 1 + 1 + 1 + 1 + 1, oT)] :: [(249, tabObj #[])] :: [(140, tabObj #[])] :: [(147, tabObj #[])] :: []))
    (hQ : ∀ s' m', Fr h₀ L s'.heap m' -> AllBare s'.gens -> s'.os = s.os -> GrownAll [(253, 249), (90, 86), (83, 79), (144, 140), (151, 147)] s'.heap -> Q (.ret (.bool true)) s')
    : wpAny (model RWQ.row.prog w) (AA dp un (envOfC (Zs "law") scope L fa cd) []) (execs (body.drop 0) (envOfC (Zs "law") scope L fa cd)) Q E s := by
  refine seg0 hl cx F hm hls hi L0 ⟨[(79, tabObj #[])], [(86, tabObj #[])], rfl, .inl rfl, .inl rfl⟩ ?hseq ?_
  case hseq =>
    obtain ⟨v1, e1⟩ := hoL
    obtain ⟨v2, e2⟩ := hoS
    obtain ⟨v3, e3⟩ := hoP
    obtain ⟨v4, e4⟩ := hoZ
    obtain ⟨v5, e5⟩ := hoE
    obtain ⟨v6, e6⟩ := hoT
    intro g hg p hp vs n
    simp only [Lmc, Lnm, or_false] at hg
    rcases hg with rfl | rfl | rfl | rfl | rfl | rfl | rfl | rfl | rfl <;> (rw [Lms.mp hp]; intro e; first | (rw [e1] at e; cases e) | (rw [e2] at e; cases e) | (rw [e3] at e; cases e) | (rw [e4] at e; cases e) | (rw [e5] at e; cases e) | (rw [e6] at e; cases e) | cases e)
  intro ds fi wi D DA DB dl tl rv eA eB ps st1 m1 h1 tk1 t1 t2 hd1 hd2 hfi hw7 hw16 hdl htl hperm hpw hrv hdt1 F1 L1 md mf mw mt mr
  have pok := piece_ok hd2 hperm
  have hlen : ps.length ≤ 6 := by rw [hperm.length_eq]; exact told_len hd1
  have hps : PsOk ps := ⟨hlen, fun q hq => (pok q hq).1, fun q hq => (pok q hq).2.2.2, fun q hq => by have := pok q hq; omega, (hperm.map (·.x)).nodup_iff.mpr (told_x hd1), hpw⟩
  refine seg2 hl cx F1 hd1 hd2 hdl htl hperm hpw L1 md mt ?_
  intro h2 tk2 F2 L2
  have L2a : Led h₀ h2 L (((D, Wl (refsOf dl).toArray 6) :: dl) :: [(DB, Wl rv.toArray eB)] :: ((DA, Wl (refsOf tl).toArray eA) :: tl) :: st1 :: [(L + 1, oL)] :: [(L + 1 + 1, oS)] :: [(L + 1 + 1 + 1, oP)] :: [(L + 1 + 1 + 1 + 1, oZ)] :: [(L + 1 + 1 + 1 + 1 + 1, oE)] :: [(L + 1 + 1 + 1 + 1 + 1 + 1, oT)] :: [(249, tabObj #[])] :: [(140, tabObj #[])] :: [(147, tabObj #[])] :: []) := led_pick L2 13 rfl [0, 2, 1, 3, 4, 5, 6, 7, 8, 9, 10, 11, 12] (by decide) (by decide)
  refine seg3 hl cx F2 hd1 hd2 hdl hrv L2a md mr ?_
  intro h3 tk3 F3 L3
  have L3a : Led h₀ h3 L (((DA, Wl (refsOf tl).toArray eA) :: tl) :: st1 :: [(L + 1, oL)] :: [(L + 1 + 1, oS)] :: [(L + 1 + 1 + 1, oP)] :: [(L + 1 + 1 + 1 + 1, oZ)] :: [(L + 1 + 1 + 1 + 1 + 1, oE)] :: [(L + 1 + 1 + 1 + 1 + 1 + 1, oT)] :: [(249, tabObj #[])] :: [(140, tabObj #[])] :: [(147, tabObj #[])] :: []) := led_pick L3 13 rfl [2, 3, 4, 5, 6, 7, 8, 9, 10, 11, 12] (by decide) (by decide)
  refine seg4 hl cx F3 L3a mf ?_
  intro rw d e tf tk0 h4 tk4 F4 hrd L4
  refine seg5 hl cx F4 L4 ?_
  intro p h5 tk5 F5 hp1 hp2 hp3 L5
  refine seg6 hl cx F5 L5 ?_
  intro h6 tk6 t6 F6 L6
  have L6a : Led h₀ h6 L ([(L + 1, oL)] :: [(L + 1 + 1, oS)] :: ((DA, Wl (refsOf tl).toArray eA) :: tl) :: rowG w rw d [] e fi tf tk0 :: [(140, tabObj #[])] :: [(147, tabObj #[])] :: recObjs w p (ruleRefs []) :: (rulesObjs w [] ++ [(249, tabObj #[])]) :: st1 :: [(L + 1 + 1 + 1, oP)] :: [(L + 1 + 1 + 1 + 1, oZ)] :: [(L + 1 + 1 + 1 + 1 + 1, oE)] :: [(L + 1 + 1 + 1 + 1 + 1 + 1, oT)] :: []) := led_pick L6 13 rfl [4, 5, 2, 1, 11, 12, 0, 10, 3, 6, 7, 8, 9] (by decide) (by decide)
  have hlk : ∀ y, y ≠ Zs "row" -> y ≠ Zs "record" -> y ≠ Zs "number" -> (if y = Zs "number" then some (Value.int 1 t6) else if y = Zs "record" then some (Value.ref p.a) else if y = Zs "row" then some (Value.ref rw) else m1 y) = m1 y := fun y a b c => (if_neg c).trans ((if_neg b).trans (if_neg a))
  have S0 : LoopSt wi fi rw d p.a ps (fun y => if y = Zs "number" then some (Value.int 1 t6) else if y = Zs "record" then some (Value.ref p.a) else if y = Zs "row" then some (Value.ref rw) else m1 y) (fun y => if y = Zs "number" then some (Value.int 1 t6) else if y = Zs "record" then some (Value.ref p.a) else if y = Zs "row" then some (Value.ref rw) else m1 y) 0 [] 1 oL oS (tabObj #[]) (tabObj #[]) [] p [] [(249, tabObj #[])] st1 :=
    ⟨Nat.zero_le _, loop_zero, ⟨t6, if_pos rfl⟩, fun _ _ _ _ _ _ => rfl, hoL, hoS, .nil, (fun _ h => nomatch h), ⟨#[], rfl, trivial⟩, ⟨#[], rfl, trivial⟩, rfl, ⟨hp1, hp2, hp3⟩, rfl, (fun _ h => nomatch h), .inl rfl, .inr rfl, hdt1, small_one⟩
  refine seg7 (ra := p.a) (t1 := t1) (t2 := t2) (t3 := t1) (t4 := t1) hl cx F6 hPE hps ⟨hw7, hw16⟩ hfi hrd htl ((hlk _ (by decide) (by decide) (by decide)).trans mt) rfl rfl ((hlk _ (by decide) (by decide) (by decide)).trans mf) ((hlk _ (by decide) (by decide) (by decide)).trans mw) hG S0 L6a ?_
  intro s7 m7 kept N7 oL7 oS7 o17 o27 rl7 e7 p7 qs7 st7 dm7 F7 S7 G7 os7 L7
  have hl7 : ∀ y, y ≠ Zs "row" -> y ≠ Zs "record" -> y ≠ Zs "number" -> y ≠ Zs "rest" -> y ≠ Zs "over" -> y ≠ Zs "moved" -> y ≠ Zs "bound" -> m7 y = m1 y := fun y a b c d e f g => (S7.mO y c d e f g).trans (hlk y a b c)
  have m7f := (hl7 (Zs "first") (by decide) (by decide) (by decide) (by decide) (by decide) (by decide) (by decide)).trans mf
  have m7w := (hl7 (Zs "width") (by decide) (by decide) (by decide) (by decide) (by decide) (by decide) (by decide)).trans mw
  have m7t := (hl7 (Zs "told") (by decide) (by decide) (by decide) (by decide) (by decide) (by decide) (by decide)).trans mt
  have m7r : m7 (Zs "row") = some (.ref rw) := (S7.mO _ (by decide) (by decide) (by decide) (by decide) (by decide)).trans rfl
  have m7p : m7 (Zs "record") = some (.ref p7.a) := by rw [S7.pa]; exact (S7.mO _ (by decide) (by decide) (by decide) (by decide) (by decide)).trans rfl
  obtain ⟨tN, m7n⟩ := S7.mN
  have hnu := S7.ok.nu
  have hst := S7.ok.st
  have hkey := S7.key
  have hsub := S7.ok.sub
  rw [List.take_length] at hnu hst hkey hsub
  have hkx : ∀ q ∈ kept, 97 ≤ q.x ∧ q.x ≤ 102 := fun q hq => hps.x q (hsub q hq)
  have hkp : ∀ q ∈ kept, 1 ≤ q.p ∧ q.p ≤ 9 := fun q hq => hps.p q (hsub q hq)
  have hk6 := row_six hkx S7.ok.nd
  have hktot := tot_le kept fun q hq => (hkp q hq).2
  have hkl := totLen_K kept fun q hq => (hkp q hq).1
  have hpcs : ∀ q ∈ kept.map pairK, q.1.length ≤ 100 ∧ q.2.length ≤ 100 := fun q hq => by
    obtain ⟨z, hz, rfl⟩ := Lmm.mp hq
    exact pair_len (hkp z hz)
  have hpl : (kept.map pairK).length ≤ 10 := by rw [Llm]; omega
  have hbl : ((ps.map bp).reverse).length ≤ 6 := by rw [List.length_reverse, Llm]; exact hlen
  have L7a : Led h₀ s7.heap L (dm7 :: ((DA, Wl (refsOf tl).toArray eA) :: tl) :: rowG w rw d rl7 e7 fi tf tk0 :: [(140, o17)] :: [(147, o27)] :: recObjs w p7 (ruleRefs qs7) :: (rulesObjs w qs7 ++ st7) :: [(L + 1 + 1 + 1, oP)] :: [(L + 1 + 1 + 1 + 1, oZ)] :: [(L + 1 + 1 + 1 + 1 + 1, oE)] :: [(L + 1 + 1 + 1 + 1 + 1 + 1, oT)] :: []) := led_pick L7 13 rfl [8, 2, 3, 4, 5, 6, 7, 9, 10, 11, 12] (by decide) (by decide)
  refine seg8 hl cx F7 ⟨hw7, hw16⟩ S7.sm S7.dt m7n m7w L7a ?_
  intro D8 h8 tk8 vs8 e8 sA sB nA nB hv8 F8 L8
  have hlk8 : ∀ y, y ≠ Zs "figures" -> (if y = Zs "figures" then some (Value.ref D8) else m7 y) = m7 y := fun y a => if_neg a
  have L8a : Led h₀ h8 L ([(D8, Wl vs8.toArray e8)] :: ((DA, Wl (refsOf tl).toArray eA) :: tl) :: sA :: sB :: rowG w rw d rl7 e7 fi tf tk0 :: [(140, o17)] :: [(147, o27)] :: recObjs w p7 (ruleRefs qs7) :: (rulesObjs w qs7 ++ st7) :: [(L + 1 + 1 + 1, oP)] :: [(L + 1 + 1 + 1 + 1, oZ)] :: [(L + 1 + 1 + 1 + 1 + 1, oE)] :: [(L + 1 + 1 + 1 + 1 + 1 + 1, oT)] :: []) := led_pick L8 13 rfl [0, 3, 1, 2, 4, 5, 6, 7, 8, 9, 10, 11, 12] (by decide) (by decide)
  refine seg9 hl cx F8 hv8 (fun M hM hM2 => figs_eq hw7 hbl hnu hM hM2) htl hlen (fun q hq => Nlt (hps.b q hq) (by decide)) (if_pos rfl) ((hlk8 _ (by decide)).trans m7t) L8a ?_
  intro h9 tk9 F9 L9
  have L9a : Led h₀ h9 L (rowG w rw d rl7 e7 fi tf tk0 :: [(L + 1 + 1 + 1 + 1, oZ)] :: [(D8, Wl vs8.toArray e8)] :: ((DA, Wl (refsOf tl).toArray eA) :: tl) :: sA :: sB :: [(140, o17)] :: [(147, o27)] :: recObjs w p7 (ruleRefs qs7) :: (rulesObjs w qs7 ++ st7) :: [(L + 1 + 1 + 1, oP)] :: [(L + 1 + 1 + 1 + 1 + 1, oE)] :: [(L + 1 + 1 + 1 + 1 + 1 + 1, oT)] :: []) := led_pick L9 13 rfl [4, 10, 0, 1, 2, 3, 5, 6, 7, 8, 9, 11, 12] (by decide) (by decide)
  obtain ⟨vZ, hvZ⟩ := hoZ
  refine seg10 hl cx F9 rfl S7.tu hpl hpcs hvZ ((hlk8 _ (by decide)).trans m7r) L9a ?_
  intro DZ zv zn cz oZ1 h10 tk10 hzn hzperm hzpw hoZ1 F10 L10
  have L10a : Led h₀ h10 L ([(L + 1 + 1 + 1 + 1, oZ1)] :: [(DZ, Wl zv.toArray cz)] :: [(D8, Wl vs8.toArray e8)] :: rowG w rw d rl7 e7 fi tf tk0 :: ((DA, Wl (refsOf tl).toArray eA) :: tl) :: sA :: sB :: [(140, o17)] :: [(147, o27)] :: recObjs w p7 (ruleRefs qs7) :: (rulesObjs w qs7 ++ st7) :: [(L + 1 + 1 + 1, oP)] :: [(L + 1 + 1 + 1 + 1 + 1, oE)] :: [(L + 1 + 1 + 1 + 1 + 1 + 1, oT)] :: []) := led_pick L10 14 rfl [0, 1, 3, 2, 4, 5, 6, 7, 8, 9, 10, 11, 12, 13] (by decide) (by decide)
  obtain ⟨M, hM, hM2⟩ := chs_max ((ps.map bp).reverse)
  have hv9 := hv8
  rw [figs_eq hw7 hbl hnu hM hM2] at hv9
  have hMb : M ≤ 20 := by
    obtain ⟨c, hc⟩ := hM2
    rcases chs_le _ _ hc with h | ⟨z, hz, h⟩
    · have h : M = 0 := h
      omega
    · obtain ⟨q, hq, rfl⟩ := Lmm.mp (List.mem_reverse.mp hz)
      exact Nlt h (hps.b q hq)
  have hz9 := sizes_are (fun q hq => (hkp q hq).1) hzperm hzpw
  refine seg11 hl cx F10 rfl S7.tu hpl hrd S7.off hoZ1 hzn ?hzl hv9 ?hms (least_ints hz9 hst (least_is (bounds_ps hps.up) ?hpos hM)) ((hlk8 _ (by decide)).trans m7r) (if_pos rfl) L10a ?_
  case hzl => rw [hz9, Llm, srt_length]; omega
  case hms => rw [masks_length, List.length_replicate]; omega
  case hpos =>
    intro q hq
    obtain ⟨z, hz, rfl⟩ := Lmm.mp (List.mem_reverse.mp hq)
    exact (hps.p z hz).1
  intro h11 tk11 F11 L11
  have L11a : Led h₀ h11 L ([(L + 1 + 1 + 1 + 1 + 1, oE)] :: [(L + 1 + 1 + 1, oP)] :: rowG w rw d rl7 e7 fi tf tk0 :: ((DA, Wl (refsOf tl).toArray eA) :: tl) :: sA :: sB :: [(140, o17)] :: [(147, o27)] :: recObjs w p7 (ruleRefs qs7) :: (rulesObjs w qs7 ++ st7) :: [(L + 1 + 1 + 1 + 1 + 1 + 1, oT)] :: []) := led_pick L11 14 rfl [12, 11, 3, 4, 5, 6, 7, 8, 9, 10, 13] (by decide) (by decide)
  obtain ⟨vE, hvE⟩ := hoE
  refine seg12 hl cx F11 rfl hvE L11a ?_
  intro h12 tk12 oE1 tE F12 hoE1 L12
  have L12a : Led h₀ h12 L ([(L + 1 + 1 + 1, oP)] :: [(L + 1 + 1 + 1 + 1 + 1, oE1)] :: rowG w rw d rl7 e7 fi tf tk0 :: ((DA, Wl (refsOf tl).toArray eA) :: tl) :: sA :: sB :: [(140, o17)] :: [(147, o27)] :: recObjs w p7 (ruleRefs qs7) :: (rulesObjs w qs7 ++ st7) :: [(L + 1 + 1 + 1 + 1 + 1 + 1, oT)] :: []) := led_pick L12 11 rfl [1, 0, 2, 3, 4, 5, 6, 7, 8, 9, 10] (by decide) (by decide)
  refine seg13 hl cx F12 hPE rfl rfl S7.tu htl hps S7.ok.tm hsub hk6 hoP hoE1 ((hlk8 _ (by decide)).trans m7r) ((hlk8 _ (by decide)).trans m7t) G7 L12a ?_
  intro s13 m13 oP13 oE13 t13 F13 hm13 G13 os13 hoP13 hoE13 L13
  have L13a : Led h₀ s13.heap L (rowG w rw d rl7 e7 fi tf tk0 :: [(147, o27)] :: [(140, o17)] :: [(L + 1 + 1 + 1 + 1 + 1, oE13)] :: ((DA, Wl (refsOf tl).toArray eA) :: tl) :: sA :: sB :: recObjs w p7 (ruleRefs qs7) :: (rulesObjs w qs7 ++ st7) :: [(L + 1 + 1 + 1 + 1 + 1 + 1, oT)] :: []) := led_pick L13 11 rfl [2, 7, 6, 1, 3, 4, 5, 8, 9, 10] (by decide) (by decide)
  refine seg14 hl cx F13 rfl S7.tu hpl hpcs (by rw [hkl]; omega) hkl.symm hfi S7.t1 S7.t2 G13 hoE13 ((hm13 _ (by decide)).trans ((hlk8 _ (by decide)).trans m7r)) ((hm13 _ (by decide)).trans ((hlk8 _ (by decide)).trans m7f)) L13a ?_
  intro s14 o1' o2' F14 G14 os14 ho1' ho2' L14
  have L14a : Led h₀ s14.heap L ([(L + 1 + 1 + 1 + 1 + 1 + 1, oT)] :: ((DA, Wl (refsOf tl).toArray eA) :: tl) :: [(140, o1')] :: [(147, o2')] :: sA :: sB :: recObjs w p7 (ruleRefs qs7) :: (rulesObjs w qs7 ++ st7) :: []) := led_pick L14 8 rfl [7, 2, 0, 1, 3, 4, 5, 6] (by decide) (by decide)
  obtain ⟨vT, hvT⟩ := hoT
  refine seg15 hl cx F14 rfl htl hlen hvT ((hm13 _ (by decide)).trans ((hlk8 _ (by decide)).trans m7t)) L14a ?_
  intro D15 sl oT1 h15 tk15 hsl hss hoT1 F15 L15
  refine seg16 hl cx F15 rfl hsl (fun p hp => .tail _ (hss p hp)) (Nlt (List.length_filter_le _ _) hlen) hoT1 L15 ?_
  intro D16 lv h16 tk16 hlv F16 L16
  have L16a : Led h₀ h16 L (recObjs w p7 (ruleRefs qs7) :: (rulesObjs w qs7 ++ st7) :: [(D16, LCg.lst lv)] :: [(140, o1')] :: [(147, o2')] :: sA :: sB :: []) := led_pick L16 7 rfl [5, 6, 0, 1, 2, 3, 4] (by decide) (by decide)
  refine seg17 hl cx F16 (p := p7) (qs := qs7) (ps := ps) hkey hps.x (fun q hq => (hps.p q hq).1) (keys_good hkey hps.x (fun q hq => (hps.p q hq).1) S7.rok) ?hqz hlv ?hl6 ((if_neg (by decide)).trans ((hm13 _ (by decide)).trans ((hlk8 _ (by decide)).trans m7p))) (if_pos rfl) L16a ?_
  case hqz =>
    have h1 := congrArg List.length hkey
    rw [Llm, keys_len] at h1
    omega
  case hl6 =>
    have h1 := hlv.len
    rw [Llm, Llm] at h1
    have h2 := List.length_filter_le (fun q : Piece => decide (q.p = mxP (ps.filter starP))) (ps.filter starP)
    have h3 := List.length_filter_le starP ps
    omega
  intro h17 tk17 F17 N17
  have hfl : ∀ g, g ∈ ([(140, o1')] :: [(147, o2')] :: sA :: sB :: [] : List (List (Addr × Obj))) -> News h₀ L h17 g := fun g hg q hq => N17 q (Lar _ (Lmf.mpr ⟨g, hg, hq⟩))
  refine hQ _ _ F17 G14 (os14.trans (os13.trans os7)) ⟨nest_grown S7.nt fun q hq => N17 q (Lal _ hq), nest_grown nB (hfl _ (by simp)), nest_grown nA (hfl _ (by simp)), tab_grown ho1' (hfl _ (by simp)), tab_grown ho2' (hfl _ (by simp)), trivial⟩
end
end
section
open PySem PySem.W PySem.Calls PyProof.Rows PyProof.V PySem.Spec PyProof.Rows.LCg
theorem post_true {M : Model} {A : Around} {c : Code} {s s₁ : Shared} {cw : ClaimW} {cl : Str -> Option Addr} {mean : ExcName -> Option Value} {args : List WData} {tabs : List (Addr × Addr)} (hT : TabsAt tabs s₁.heap) (hr : ∀ x, cw.raises args x = false) (hp : cw.post args (.bool true) args = true)
    (h : codeAny M A c (fun r s' => r = .ok (.ret (.bool true)) ∧ (∀ b o, (ghostOf s₁.heap tabs).get? b = some o -> s'.heap.get? b = some o) ∧ s'.os = s₁.os ∧ AllBare s'.gens ∧ GrownAll tabs s'.heap) s) : codeAny M A c (GoodWG cw cl mean args s₁) s := by
  refine codeAny_mono h ?_
  rintro r s' ⟨rfl, hk, ho, hg, hgr⟩
  have old : ∀ b o, s₁.heap.get? b = some o -> s'.heap.get? b = some o ∨ ∃ ps, isCodeTable s₁.heap b ∧ o = tabObj #[] ∧ s'.heap.get? b = some (tabObj ps) := fun b o e => by
    by_cases hb : b ∈ tabs.map (·.2)
    · obtain ⟨q, hq, rfl⟩ := Lmm.mp hb
      obtain ⟨h1, h2⟩ := hT q hq
      obtain ⟨ps, hps⟩ := hgr.get q hq
      rw [h2] at e
      exact .inr ⟨ps, (h1.tab h2).isCodeTable, (Option.some.inj e).symm, hps⟩
    · exact .inl (hk b o (ghost_ne e hb))
  refine ⟨.inl ⟨.bool true, .bool true, [], rfl, hr, ReadsW.bool _, hp, fun _ => ⟨.nil, fun _ h => nomatch h⟩⟩, ⟨fun b o e => ?_, fun b o e => ?_⟩, ho, hg⟩
  · rcases old b o e with h | ⟨ps, h1, rfl, h2⟩
    · exact .inl h
    · exact .inr (.inl ⟨h1, rfl, #[], ps, rfl, by rw [Array.empty_append]; exact h2⟩)
  · rcases old b o e with h | ⟨ps, _, _, h2⟩
    · exact ⟨o, h⟩
    · exact ⟨_, h2⟩
theorem post_ok (args : List WData) : RWQ.row.claim.post args (.bool true) args = true :=
  postW_of (by first | rfl | decide | simp [WShape.has]) (w_eq (w_res rfl) w_lit) (by first | rfl | decide +kernel | simp [same])
noncomputable def LedB (h₀ h : Heap) (L : Addr) (n : Nat) (G : List (List (Addr × Obj))) : Prop := Led h₀ h L G ∧ ∀ g ∈ G, ∀ p ∈ g, @LT.lt Nat _ p.1 n
theorem LedB.nil {h₀ h : Heap} {L : Addr} {n : Nat} : LedB h₀ h L n [] := ⟨.nil, fun _ h => nomatch h⟩
theorem LedB.up {h₀ h : Heap} {L : Addr} {n : Nat} {G : List (List (Addr × Obj))} (m : Nat) {g : List (Addr × Obj)} (D : LedB h₀ h L n G) (N : News h₀ L h g) (hn : n ≤ m) (hg : ∀ p ∈ g, @LE.le Nat _ n p.1 ∧ @LT.lt Nat _ p.1 m) : LedB h₀ h L m (g :: G) :=
  ⟨.cons N (fun z hz p hp q hq => Ne.symm (Nnl (Nat.lt_of_lt_of_le (D.2 z hz q hq) (hg p hp).1))) D.1, List.forall_mem_cons.mpr ⟨fun p hp => (hg p hp).2, fun z hz p hp => Nat.lt_of_lt_of_le (D.2 z hz p hp) hn⟩⟩
theorem LedB.one {h₀ h : Heap} {L : Addr} {n : Nat} {G : List (List (Addr × Obj))} {x : Nat} {o : Obj} (D : LedB h₀ h L n G) (N : h.get? x = some o ∧ x ≠ L ∧ h₀.get? x = none) (hx : n ≤ x) : LedB h₀ h L (x + 1) ([(x, o)] :: G) :=
  D.up (x + 1) (news_cons N fun _ h => nomatch h) (Nat.le_succ_of_le hx) fun p hp => by rw [Lms.mp hp]; exact ⟨hx, Nls _⟩
theorem led_start {h₀ h : Heap} {L : Addr} {o1 o2 o3 o4 o5 o6 t : Obj} (N : News h₀ L h [(L + 1 + 1 + 1 + 1 + 1 + 1, o6), (L + 1 + 1 + 1 + 1 + 1, o5), (L + 1 + 1 + 1 + 1, o4), (L + 1 + 1 + 1, o3), (L + 1 + 1, o2), (L + 1, o1), (249, t), (86, t), (79, t), (140, t), (147, t)])
    (lt : @LT.lt Nat _ 249 L ∧ @LT.lt Nat _ 86 L ∧ @LT.lt Nat _ 79 L ∧ @LT.lt Nat _ 140 L ∧ @LT.lt Nat _ 147 L) :
    Led h₀ h L ([(79, t), (86, t)] :: [(L + 1, o1)] :: [(L + 1 + 1, o2)] :: [(L + 1 + 1 + 1, o3)] :: [(L + 1 + 1 + 1 + 1, o4)] :: [(L + 1 + 1 + 1 + 1 + 1, o5)] :: [(L + 1 + 1 + 1 + 1 + 1 + 1, o6)] :: [(249, t)] :: [(140, t)] :: [(147, t)] :: []) := by
  have D1 : LedB h₀ h L 87 [[(79, t), (86, t)]] := LedB.nil.up (n := 0) 87 (news_cons (N _ (.tail _ (.tail _ (.tail _ (.tail _ (.tail _ (.tail _ (.tail _ (.tail _ (.head _)))))))))) (news_cons (N _ (.tail _ (.tail _ (.tail _ (.tail _ (.tail _ (.tail _ (.tail _ (.head _))))))))) fun _ h => nomatch h)) (Nat.zero_le _) (List.forall_mem_cons.mpr ⟨⟨Nat.zero_le _, (by decide : 79 < 87)⟩, List.forall_mem_cons.mpr ⟨⟨Nat.zero_le _, (by decide : 86 < 87)⟩, fun _ h => nomatch h⟩⟩)
  have D2 := D1.one (x := 140) (o := t) (N (140, t) (.tail _ (.tail _ (.tail _ (.tail _ (.tail _ (.tail _ (.tail _ (.tail _ (.tail _ (.head _))))))))))) (by decide)
  have D3 := D2.one (x := 147) (o := t) (N (147, t) (.tail _ (.tail _ (.tail _ (.tail _ (.tail _ (.tail _ (.tail _ (.tail _ (.tail _ (.tail _ (.head _)))))))))))) (by decide)
  have D4 := D3.one (x := 249) (o := t) (N (249, t) (.tail _ (.tail _ (.tail _ (.tail _ (.tail _ (.tail _ (.head _)))))))) (by decide)
  have D5 := D4.one (x := L + 1) (o := o1) (N (L + 1, o1) (.tail _ (.tail _ (.tail _ (.tail _ (.tail _ (.head _))))))) (Nat.succ_le_succ (Nat.le_of_lt lt.1))
  have D6 := D5.one (x := L + 1 + 1) (o := o2) (N (L + 1 + 1, o2) (.tail _ (.tail _ (.tail _ (.tail _ (.head _)))))) (Nat.le_refl _)
  have D7 := D6.one (x := L + 1 + 1 + 1) (o := o3) (N (L + 1 + 1 + 1, o3) (.tail _ (.tail _ (.tail _ (.head _))))) (Nat.le_refl _)
  have D8 := D7.one (x := L + 1 + 1 + 1 + 1) (o := o4) (N (L + 1 + 1 + 1 + 1, o4) (.tail _ (.tail _ (.head _)))) (Nat.le_refl _)
  have D9 := D8.one (x := L + 1 + 1 + 1 + 1 + 1) (o := o5) (N (L + 1 + 1 + 1 + 1 + 1, o5) (.tail _ (.head _))) (Nat.le_refl _)
  have DA := D9.one (x := L + 1 + 1 + 1 + 1 + 1 + 1) (o := o6) (N (L + 1 + 1 + 1 + 1 + 1 + 1, o6) (.head _)) (Nat.le_refl _)
  exact led_pick DA.1 10 rfl [9, 5, 4, 3, 2, 1, 0, 6, 8, 7] (by decide) (by decide)
theorem law_head {w : World} {g h₁ : Heap} {L fa : Addr} {cd : Value} {m : Str -> Option Value} {gens : Array GenState} {drawn : Drawn} {toks : Nat} {os : OsState} {Q : Flow -> Shared -> Prop} {E : Value -> Shared -> Prop} {body : List Stmt} {scope : Scope} {p : Program} {loose : List Str} {mean : ExcName -> Option Value} {mg mb : Str -> Option Value}
    (hl : LawDef w body scope) (X : (_root_.Mine.hd.heap_1 w.params).In g) (T : Top p loose mean mg mb g) (K : Below callerA g [] g) (hk : scope.kind = .function) (F : Fr g L h₁ m)
    {l : Addr} {vs : List Value} {ns : List Int} (hm : m (Zs "script") = some (.ref l)) (hls : g.IsList l vs.toArray) (hi : IntsAre vs ns)
    (hPE : PassesOwn (model RWQ.row.prog w) (callerA.deeper (envOfC (Zs "law") scope L fa cd)) (envOfC (Zs "law") scope L fa cd) E) (hG : AllBare gens)
    {o1 o2 o3 o4 o5 o6 : Obj} (c1 : cellHolds o1) (c2 : cellHolds o2) (c3 : cellHolds o3) (c4 : cellHolds o4) (c5 : cellHolds o5) (c6 : cellHolds o6)
    (N : News g L h₁ [(L + 1 + 1 + 1 + 1 + 1 + 1, o6), (L + 1 + 1 + 1 + 1 + 1, o5), (L + 1 + 1 + 1 + 1, o4), (L + 1 + 1 + 1, o3), (L + 1 + 1, o2), (L + 1, o1), (249, tabObj #[]), (86, tabObj #[]), (79, tabObj #[]), (140, tabObj #[]), (147, tabObj #[])])
    (lt : @LT.lt Nat _ 249 L ∧ @LT.lt Nat _ 86 L ∧ @LT.lt Nat _ 79 L ∧ @LT.lt Nat _ 140 L ∧ @LT.lt Nat _ 147 L)
    (hQ : ∀ s' m', Fr g L s'.heap m' -> AllBare s'.gens -> s'.os = os -> GrownAll [(253, 249), (90, 86), (83, 79), (144, 140), (151, 147)] s'.heap -> Q (.ret (.bool true)) s') :
    wpAny (model RWQ.row.prog w) (callerA.deeper (envOfC (Zs "law") scope L fa cd)) (execs body (envOfC (Zs "law") scope L fa cd)) Q E { heap := h₁, gens := gens, drawn := drawn, toks := toks, os := os } := by
  obtain ⟨dp, un, hdp, hun, eA⟩ := caller_AA (envOfC (Zs "law") scope L fa cd)
  rw [eA] at hPE ⊢
  exact law_walk hl ⟨X, ⟨_, _, _, _, _, T⟩, K, rfl, hk, by omega, by omega⟩ F hm hls hi hPE hG c1 c2 c3 c4 c5 c6 (led_start N lt) hQ
theorem Zt : RWQ.Holds := _root_.Mine.hd (by
  k_fill
  intro w s₀ s₁ mg mb G Y fa o pm cd doc dV kV ho hd hcd hD hmg hg args vals as hpre hlay hrd hwl hlo
  have KX := km_in_of Y
  km_tabs Y
  have X := (Ground.X G).1
  have V := (Ground.X G).2
  refine Ground.open G ?_
  intro T B D TE TW
  try (refine guard_noD D (by decide +kernel) ?_; clear D)
  have hT9 : TabsAt ([(253, 249), (90, 86), (83, 79), (144, 140), (151, 147)] : List (Addr × Addr)) _ := List.forall_mem_cons.mpr ⟨⟨codeHd_of_K (c := 253) (P := 249) KX (by kernel_rfl), hT8 249 (by k_mem)⟩, List.forall_mem_cons.mpr ⟨⟨codeHd_of_K (c := 90) (P := 86) KX (by kernel_rfl), hT8 86 (by k_mem)⟩, List.forall_mem_cons.mpr ⟨⟨codeHd_of_K (c := 83) (P := 79) KX (by kernel_rfl), hT8 79 (by k_mem)⟩, List.forall_mem_cons.mpr ⟨⟨codeHd_of_K (c := 144) (P := 140) KX (by kernel_rfl), hT8 140 (by k_mem)⟩, List.forall_mem_cons.mpr ⟨⟨codeHd_of_K (c := 151) (P := 147) KX (by kernel_rfl), hT8 147 (by k_mem)⟩, fun _ h => nomatch h⟩⟩⟩⟩⟩
  clear hmg
  wrow_args hpre hlay hrd hwl hlo
  refine enter_call ?_
  w_top on
  refine post_true hT9 (fun _ => rfl) (post_ok _) ?_
  w_call any ho hd hcd hD T F
  clear hd
  kn_ghosts F T
  k_drop
  rename News _ _ _ _ => N0
  rename Fr _ _ _ _ => F0
  rename Heap.IsList _ _ _ => hls
  rename IntsAre _ _ => hin
  rename Below _ _ _ _ => K0
  rename Top _ _ _ _ _ _ => T0
  rename Frag.In _ _ => X9
  rename (_ < _ ∧ _ < _ ∧ _ < _ ∧ _ < _ ∧ _ < _) => l0
  refine law_head ?hl X9 T0 K0 ?hk F0 ?hm hls hin ?hPE (.of_eq hg) ⟨_, by assumption⟩ ⟨_, by assumption⟩ ⟨_, by assumption⟩ ⟨_, by assumption⟩ ⟨_, by assumption⟩ ⟨_, by assumption⟩ N0 l0 ?hQ
  case hQ =>
    intro s' m' F' hb hos hgr
    exact ⟨rfl, F'.keep, hos, hb, hgr⟩
  case hl => exact ⟨_, _, _, _, _, _, _, _, _, _, _, _, _, _, by k_is⟩
  case hm => with_unfolding_all rfl
  case hk => rfl
  case hPE => passes_own)
end
end
end Mine
theorem PySem.Challenge.cw_wv0028_01_holds : PySem.Challenge.rw_wv0028_01.Holds :=
  Mine.Zt
