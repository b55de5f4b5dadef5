import PyProof.Rows.All
import Wide.All
import OpenK.AllK
import Wide.FinOn
import PySem.Challenge.RW_wo0016_01
open PySem PySem.Spec PySem.Calls PySem.W PyProof.Rows
set_option Elab.async false
namespace Mine
set_option compiler.extract_closed false
set_option linter.all false
set_option rowWalk.seconds 0
set_option maxRecDepth 100000
set_option maxHeartbeats 8000000
local macro_rules | `(tactic| walk_at $s:str) => `(tactic| k_extra $s)
local macro_rules | `(tactic| walk_at "pyIter ref") => `(tactic| k_extra "mine iter")
local macro_rules | `(tactic| k_all) => `(tactic| k_extra "mine all")
local macro_rules | `(tactic| k_fmods) => `(tactic| k_extra "mine fmods")
local macro_rules | `(tactic| omega) => `(tactic| k_extra "mine omega")
local macro_rules | `(tactic| k_room) => `(tactic| k_extra "mine room")
local macro_rules | `(tactic| k_units) => `(tactic| k_extra "mine units")
local macro_rules | `(tactic| k_steps) => `(tactic| k_extra "mine steps")
example : True := by
  k_with "subscriptTail Name UnaryOp ref int" => k_extra "subscriptTail"
  k_with "subscriptTail Name Constant ref int" => k_extra "subscriptTail"
  k_with "subscriptTail Name BinOp ref int" => k_extra "subscriptTail"
  k_with "subscriptTail Name Name ref int" => k_extra "subscriptTail"
  k_with "ite" => (k_closed; first | (with_reducible refine ite_pos (by decide) ?_) | (with_reducible refine ite_neg (by decide) ?_))
  k_with "mine enter" => ((case k6 => k_is); (case k7 => k_is); (case k9 => exact fun _ => BindsTo.of_eq rfl); (case kB => exact locs rfl); (case c5 => decide); (case c2 => exact rfl); (case c3 => exact rfl); (case c4 => exact rfl); (case c6 => decide))
  k_with "mine len" => first | omega | ((simp only [List.size_toArray, List.length_cons, List.length_nil, List.length_append, List.length_map, List.length_replicate, List.length_drop, List.length_range, sizeLine_eq]); omega) | ((simp only [List.size_toArray, List.length_cons, List.length_nil, List.length_append, List.length_map, List.length_replicate, List.length_drop, List.length_range, sizeLine_eq] at *); omega)
  k_with "truthy ref" => (k_here; (with_reducible show wpAny _ _ (truthy (Value.ref _)) _ _ _); refine' wpAny_truthy_list (by is_list) (by k_extra "mine len") ?_; k_whole; (try simp only [List.isEmpty_toArray, List.isEmpty_cons, List.isEmpty_nil, Bool.not_false, Bool.not_true]))
  k_with "mine item" => first | rfl | assumption
  k_with "mine sub" => first | exact List.forall_mem_nil _ | (refine List.forall_mem_cons.mpr ⟨by k_mem, ?_⟩; k_extra "mine sub")
  k_with "mine ne" => first | exact List.forall_mem_nil _ | (refine List.forall_mem_cons.mpr ⟨by first | assumption | (first | exact Nat.ne_of_gt (by omega) | exact Nat.ne_of_lt (by omega)), ?_⟩; k_extra "mine ne")
  k_with "mine conj" => first | with_reducible exact And.left (by assumption) | with_reducible exact And.left (And.right (by assumption)) | with_reducible exact And.left (And.right (And.right (by assumption))) | with_reducible exact And.left (And.right (And.right (And.right (by assumption)))) | with_reducible exact And.left (And.right (And.right (And.right (And.right (by assumption))))) | with_reducible exact And.left (And.right (And.right (And.right (And.right (And.right (by assumption)))))) | with_reducible exact And.left (And.right (And.right (And.right (And.right (And.right (And.right (by assumption))))))) | with_reducible exact And.left (And.right (And.right (And.right (And.right (And.right (And.right (And.right (by assumption)))))))) | with_reducible exact And.left (And.right (And.right (And.right (And.right (And.right (And.right (And.right (And.right (by assumption))))))))) | with_reducible exact And.right (by assumption) | with_reducible exact And.right (And.right (by assumption)) | with_reducible exact And.right (And.right (And.right (by assumption))) | with_reducible exact And.right (And.right (And.right (And.right (by assumption)))) | with_reducible exact And.right (And.right (And.right (And.right (And.right (by assumption))))) | with_reducible exact And.right (And.right (And.right (And.right (And.right (And.right (by assumption)))))) | with_reducible exact And.right (And.right (And.right (And.right (And.right (And.right (And.right (by assumption))))))) | with_reducible exact And.right (And.right (And.right (And.right (And.right (And.right (And.right (And.right (by assumption))))))))
  k_with "mine omega" => first | with_reducible assumption | with_reducible exact Ne.symm (by assumption) | with_reducible exact Nat.ne_of_gt (by assumption) | with_reducible exact Nat.ne_of_lt (by assumption) | with_reducible exact Nat.ne_of_gt (Nat.lt_add_one _) | with_reducible exact Nat.ne_of_lt (Nat.lt_add_one _) | ((with_reducible show @Ne Nat _ _); first | k_extra "mine conj" | (with_reducible refine Ne.symm ?_; k_extra "mine conj") | (with_reducible refine Nat.ne_of_lt ?_; k_extra "mine conj") | (with_reducible refine Nat.ne_of_gt ?_; k_extra "mine conj")) | ((with_reducible show @LT.lt Nat _ _ _); first | with_reducible exact unitsN (by assumption) (by decide) | with_reducible exact unitsN0 (by assumption) (by decide) | with_reducible exact ltA1 (by assumption) | with_reducible exact ltA2 (by assumption) | with_reducible exact ltA0 (by assumption) | k_extra "mine conj") | omega -splitDisjunctions -splitNatSub -splitNatAbs -splitMinMax | omega +splitDisjunctions
  k_with "mine room" => first | exact roomN (by assumption) (j := 1) rfl (by decide) | exact roomN (by assumption) (j := 0) rfl (by decide) | exact roomN (by assumption) (j := 2) rfl (by decide) | exact roomN (by assumption) (j := 3) rfl (by decide) | ((simp only [depth_under_make, depth_under_kw, depth_in1, depth_deeper, depth_caller, recursionLimit] at *); omega)
  k_with "mine units" => first | exact roomN (by assumption) (j := 0) rfl (by decide) | ((simp only [units_in1, units_deeper, Around.mark_units, units_caller, cLine] at *); omega)
  k_with "execs cons" => first | (refine execs1 (by with_reducible assumption) ?_; (try dsimp only)) | (refine execsP (by with_reducible assumption) ?_; intro _ _; (try dsimp only))
  k_with "mine pop" => ((fail_if_success (with_reducible show wpAny _ _ _ _ _ _)); first | refine Nx.next (by with_reducible assumption) ?_ | refine Nx.ret (by with_reducible assumption) ?_ | refine Nx.brk (by with_reducible assumption) ?_ | refine Nx.cont (by with_reducible assumption) ?_)
  k_with "mine steps" => repeat' (first | k_extra "mine pop" | (k_unfold; (try dsimp only)) | (k_end; kc_close) | walk1 | (dsimp only; walk1) | (leave1; walk_say "STEP leave1"; (try dsimp only)) | fail "no step")
  k_with "mine use" => ((case hB => assumption); (case hF => assumption); (case hX => assumption); (case hN => assumption); (case hT => assumption); (case hh => exact rfl); (case hA => exact rfl); (case hf => exact rfl); (case hk => exact rfl); (case hd => (simp only [depth_deeper, Ar]; omega)); (case hu => (simp only [units_deeper, Ar]; omega)))
  k_with "mine use2" => ((case hB => assumption); (case hF => assumption); (case hX => assumption); (case hN => assumption); (case hT => assumption); (case hh => exact rfl); (case hA => exact rfl); (case hf => exact rfl); (case hk => exact rfl); (case hd => (simp only [depth_deeper, depth_caller, recursionLimit]; omega)); (case hu => (simp only [units_deeper, units_caller, cLine]; omega)))
  trivial
section
noncomputable def vw : Program := { PySem.Challenge.rw_wo0016_01.row.toRowW.prog with main := { PySem.Challenge.rw_wo0016_01.row.toRowW.prog.main with body := [1, 3, 5, 6, 7, 9, 10, 11, 12, 13, 15, 16, 17, 18, 19, 20, 21, 22, 23, 24, 25].filterMap fun i => PySem.Challenge.rw_wo0016_01.row.toRowW.prog.main.body[i]? } }
theorem said0 : OpenLaw.wellSaid PySem.Challenge.rw_wo0016_01 = true := by decide +kernel
local macro_rules | `(tactic| o_law) => `(tactic| refine holds_law said0 fun said => ?_)
theorem open_hook (H : Hook) {d : DefRec} {kwd : List (Str × Expr)}
    (left : LeftO PySem.Challenge.rw_wo0016_01.row.prog vw [] (fun s => xlAt vw [] s && recOk (RowW.records PySem.Challenge.rw_wo0016_01.row.toRowW) s) H.obs H.val 1922)
    (hdef : defOf vw PySem.Challenge.rw_wo0016_01.row.name = some (d, kwd)) (hp : PySem.Challenge.rw_wo0016_01.row.prog.theDef PySem.Challenge.rw_wo0016_01.row.name = some (d.params, d.body, d.scope))
    (hk : kwWritten? d.params.kwonlyargs d.params.kw_defaults = some kwd) (k1 : PySem.Challenge.rw_wo0016_01.row.wellSaid = true) (hw : PySem.Challenge.rw_wo0016_01.row.toRowW.promised)
    (call : WalkO vw [] (XL vw []) H.says PySem.Challenge.rw_wo0016_01.row.toRowW d kwd fun f vs => PySem.call f vs) : PySem.Challenge.rw_wo0016_01.row.Holds :=
  holds_open (q := vw) (loose := []) (Xt := fun s => xlAt vw [] s && recOk (RowW.records PySem.Challenge.rw_wo0016_01.row.toRowW) s) (XP := XL vw []) (Yf := H.obs) (Ya := H.val) (YP := H.says) (N := 1922) left H.of H.keeps
    (fun s e => xl_of s (Bool.and_eq_true_iff.mp e).1) XL.keeps hdef hp hk (fun s e => recFacts_of (Bool.and_eq_true_iff.mp e).2) (by rfl) k1 (by decide +kernel) ⟨rfl, rfl, rfl, rfl, rfl, by decide +kernel⟩ hw call
local macro_rules | `(tactic| o_head $H) => `(tactic| (refine open_hook $H ?hl (by rfl) (by rfl) (by rfl) (by assumption) ?hw ?hc; (case hl => (intro w; kernel_rfl!))))
open_top hd for PySem.Challenge.rw_wo0016_01
end
theorem top_off : True := by
  w_top off
  trivial
section
noncomputable def Nx (M : Model) (A : Around) (rest : List Stmt) (env : Env) (Q : Flow → Shared → Prop) (E : Value → Shared → Prop) (Q' : Flow → Shared → Prop) : Prop :=
  (∀ s', wpAny M A (execs rest env) Q E s' → Q' .next s') ∧ ∀ f s', f ≠ .next → Q f s' → Q' f s'
noncomputable def UseT1 : Prop := True
theorem execsP (_m : UseT1) {M : Model} {A : Around} {st : Stmt} {rest : List Stmt} {env : Env} {Q : Flow → Shared → Prop} {E : Value → Shared → Prop} {s : Shared}
    (h : ∀ Q', Nx M A rest env Q E Q' → wpAny M A (exec st env) Q' E s) : wpAny M A (execs (st :: rest) env) Q E s :=
  wpAny_execs_cons (h _ ⟨fun _ x => x, fun f s' hf x => by cases f <;> first | exact absurd rfl hf | exact x⟩)
theorem execs1 (_m : UseT1) {M : Model} {A : Around} {st : Stmt} {env : Env} {Q : Flow → Shared → Prop} {E : Value → Shared → Prop} {s : Shared}
    (h : wpAny M A (exec st env) Q E s) : wpAny M A (execs [st] env) Q E s :=
  wpAny_execs_cons (wpAny_mono h (fun f s' q => by cases f <;> first | exact q | exact wpAny_execs_nil q) fun _ _ x => x)
theorem execsE {M M' : Model} {A A' : Around} {b : List Stmt} {env env' : Env} {Q : Flow → Shared → Prop} {E₀ : Value → Shared → Prop} {s : Shared}
    (h : ∀ E', wpAny M A (execs b env) Q E' s) :
    wpAny M A (execs b env) Q (fun e s' => wpAny M' A' (leaving env' e) (fun _ s'' => E₀ e s'') (fun e' s'' => E₀ e' s'') s') s := h _
theorem roomN {a dp j n k R : Nat} (hd : dp + n < R) (e : a = dp + j) (h : j + k ≤ n) : a + k < R := by omega
section
variable {M : Model} {A : Around} {rest : List Stmt} {env : Env} {Q : Flow → Shared → Prop} {E : Value → Shared → Prop} {Q' : Flow → Shared → Prop} {s' : Shared}
theorem Nx.next (h : Nx M A rest env Q E Q') (k : wpAny M A (execs rest env) Q E s') : Q' .next s' := h.1 _ k
theorem Nx.ret {v : Value} (h : Nx M A rest env Q E Q') (k : Q (.ret v) s') : Q' (.ret v) s' := h.2 _ _ (fun e => nomatch e) k
theorem Nx.brk (h : Nx M A rest env Q E Q') (k : Q .brk s') : Q' .brk s' := h.2 _ _ (fun e => nomatch e) k
theorem Nx.cont (h : Nx M A rest env Q E Q') (k : Q .cont s') : Q' .cont s' := h.2 _ _ (fun e => nomatch e) k
end

theorem unitsN {u a b c n : Nat} (h : u + a < n) (k : Nat.ble (c + b) a = true) : u + c + b < n := by
  have k2 := Nat.le_of_ble_eq_true k
  omega
theorem unitsN0 {u a b n : Nat} (h : u + a < n) (k : Nat.ble b a = true) : u + b < n := by
  have k2 := Nat.le_of_ble_eq_true k
  omega
theorem ltA0 {x n : Nat} (h : n = x + 1) : 0 < n := h ▸ Nat.succ_pos x
theorem ltA1 {x n : Nat} (h : n = x + 1) : x < n := h ▸ Nat.lt_succ_self x
theorem ltA2 {x n : Nat} (h : n = x + 1 + 1) : x < n := h ▸ Nat.lt_succ_of_lt (Nat.lt_succ_self x)
end

section
set_option genInjectivity false
set_option genSizeOf false
set_option genSizeOfSpec false
structure DD where
  fW : Nat → World
  fLs : Nat → (List Str)
  fMe : Nat → (ExcName → Option Value)
  fMp : Nat → (Str → Option Value)
  fA : Nat → Addr
  fN : Nat → Nat
  fI : Nat → Int
  fT : Nat → Tok
  fV : Nat → Value
  fS : Nat → Str
  fO : Nat → Obj
  fH : Nat → Heap
  fSh : Nat → Shared
  fLv : Nat → (List Value)
  fLi : Nat → (List Int)
  fLn : Nat → (List Nat)
  fLb : Nat → (List Bool)
  fLed : Nat → (List (Addr × Obj))
  fQ : Nat → (Flow → Shared → Prop)
  fE : Nat → (Value → Shared → Prop)
  fB : Nat → Bool
  fIt : Nat → (Int × Tok)
  fAv : Nat → (Array Value)
  fB3 : Nat → (Bool → Bool → Bool → Bool)
  fGd : Nat → (Option (List Code))
  fEn : Nat → (List Env)
  fAr : Nat → Around
  fOv : Nat → (Option Value)
  fOp : Nat → (Obj → Prop)
  fLa : Nat → (List Addr)
  fEnv : Nat → Env
  fSs : Nat → (List Stmt)
  fSt : Nat → Stmt
  fSc : Nat → Scope
  fP : Nat → Program
  fEx : Nat → Expr
  fR : Nat → (Result → Shared → Prop)
  fPo : Nat → Pos
  fCl : Nat → (List (Str × Addr))
  fY : Nat → (Nat → Value → Prop)
  fRR : Nat → (Value → Addr → Result → Shared → Prop)
  fBB : Nat → (Bool × Bool)
  fNl : Nat → (Nat → List Int)
  fOa : Nat → (Option Addr)
  fFd : Nat → FuncData
  fAo : Nat → (Array (Option Value))
  fDe : Nat → (List DictEntry)
  fIv : Nat → (Nat → List (Addr × Obj) → Prop)
set_option genInjectivity true
set_option genSizeOf true
set_option genSizeOfSpec true
noncomputable def anyD : DD := ⟨fun _ => aWorld 1, fun _ => [], fun _ _ => none, fun _ _ => none, fun _ => (0 : Nat), fun _ => 0, fun _ => 0, fun _ => default, fun _ => .none, fun _ => default, fun _ => default, fun _ => default, fun _ => {},
  fun _ => [], fun _ => [], fun _ => [], fun _ => [], fun _ => [], fun _ _ _ => True, fun _ _ _ => True, fun _ => true, fun _ => default, fun _ => #[],
  fun _ _ _ _ => true, fun _ => none, fun _ => [], fun _ => {}, fun _ => none, fun _ _ => True, fun _ => [], fun _ => default, fun _ => [], fun _ => default, fun _ => default, fun _ => default, fun _ => default, fun _ _ _ => True,
  fun _ => ⟨0, 0, 0, 0⟩, fun _ => [], fun _ _ _ => True, fun _ _ _ _ _ => True, fun _ => (true, true), fun _ _ => [], fun _ => none, fun _ => default, fun _ => #[], fun _ => [], fun _ _ _ => True⟩
noncomputable def pickD (p : DD → Prop) : DD := @Classical.epsilon DD ⟨anyD⟩ fun c => ¬ p c
theorem allD {p : DD → Prop} (h : p (pickD p)) (c : DD) : p c :=
  Classical.byContradiction fun n => @Classical.epsilon_spec DD (fun c => ¬ p c) ⟨c, n⟩ h
end
section
structure Stp (touch nw : List (Addr × Obj)) (h h' : Heap) : Prop where
  size : h.objs.size ≤ h'.objs.size
  keep : ∀ b o, h.get? b = some o → (∀ p ∈ touch, p.1 ≠ b) → h'.get? b = some o
  now : ∀ p ∈ nw, h'.get? p.1 = some p.2
  fresh : ∀ p ∈ nw, (∃ q ∈ touch, q.1 = p.1) ∨ h.get? p.1 = none

noncomputable def HClaim (l : OpenLaw) (K : Params → Frag) (w : World) (loose : List Str) (mean : ExcName → Option Value) (mg mb : Str → Option Value) (n : Nat) (f : Addr) (vs : List Value) (touch : List (Addr × Obj)) (pre : Heap → Prop) (Post : Value → List (Addr × Obj) → Prop) : Prop :=
  ∀ (A A₀ : Around) (env : Env) (outer : List Env) (base h₀ : Heap) (L : Addr) (m : Str → Option Value) (s : Shared) (R : Result → Shared → Prop),
    Below A₀ base outer h₀ → Fr h₀ L s.heap m → (K w.params).In h₀ → News h₀ L s.heap touch → Top topProg loose mean mg mb h₀ →
    A.handled = none → A.frames = some (env :: outer) → env.frame = some L → env.scope.kind = .function → A.depth + n < recursionLimit → A.units + 10 * n < cLine → pre s.heap →
    (∀ v now h' tk', Post v now → Stp touch now s.heap h' → R (.ok (.ret v)) { s with heap := h', toks := tk' }) →
    codeAny (model l.prog w) A (.call (.ref f) ⟨vs, []⟩) R s

noncomputable def HC (w : World) (loose : List Str) (mean : ExcName → Option Value) (mg mb : Str → Option Value) (n : Nat) (f : Addr) (vs : List Value) (touch : List (Addr × Obj)) (pre : Heap → Prop) (Post : Value → List (Addr × Obj) → Prop) : Prop :=
  HClaim PySem.Challenge.rw_wo0016_01 Mine.hd.heap_1 w loose mean mg mb n f vs touch pre Post

noncomputable abbrev Ar (dp un : Nat) (gd : Option (List Code)) (outer : List Env) : Around := { handled := none, depth := dp, frames := some outer, guards := gd, units := un }
theorem ar_of {A : Around} {outer : List Env} (h1 : A.handled = none) (h2 : A.frames = some outer) : A = Ar A.depth A.units A.guards outer := by
  cases A
  dsimp only at h1 h2
  subst h1
  subst h2
  rfl
noncomputable def LeaveH (g : Heap) (s₀ : Shared) (Post : Value → List (Addr × Obj) → Prop) (v : Value) (s' : Shared) : Prop :=
  ∃ L' m' now, (∃ h' tk', s' = { s₀ with heap := h', toks := tk' }) ∧ Fr g L' s'.heap m' ∧ News g L' s'.heap now ∧ Post v now
theorem leaveH {g : Heap} {s₀ : Shared} {Post : Value → List (Addr × Obj) → Prop} {v : Value} {h' : Heap} {tk' : Nat} {L' : Addr} {m' : Str → Option Value} {now : List (Addr × Obj)}
    (F : Fr g L' h' m') (N : News g L' h' now) (p : Post v now) : LeaveH g s₀ Post v { s₀ with heap := h', toks := tk' } := ⟨L', m', now, ⟨h', tk', rfl⟩, F, N, p⟩

noncomputable def BodyH (w : World) (loose : List Str) (mean : ExcName → Option Value) (mg mb : Str → Option Value) (n : Nat) (f : Addr) (qual : Str) (body : List Stmt) (scope : Scope) (cdv : Value) (binds : List (Str × Value)) (touch : List (Addr × Obj)) (pre : Heap → Prop) (Post : Value → List (Addr × Obj) → Prop) : Prop :=
  ∀ (dp un : Nat) (gd : Option (List Code)) (outer : List Env) (base g : Heap) (L' : Addr) (s : Shared) (E : Value → Shared → Prop),
    Below (Ar dp un gd outer) base outer g → Fr g L' s.heap (fun y => binds.reverse.lookup y) → News g L' s.heap touch → (Mine.hd.heap_1 w.params).In g → Top topProg loose mean mg mb g → pre g → (∀ p ∈ touch, p.1 < L') →
    dp + n < recursionLimit → un + 10 * n < cLine →
    wpAny (model PySem.Challenge.rw_wo0016_01.prog w) ((Ar dp un gd outer).deeper (envOf qual scope L' f cdv)) (execs body (envOf qual scope L' f cdv))
        (fun fl s' => LeaveH g s Post (match fl with | .ret v => v | _ => .none) s')
        (fun e s' => wpAny (model PySem.Challenge.rw_wo0016_01.prog w) ((Ar dp un gd outer).deeper (envOf qual scope L' f cdv)) (leaving (envOf qual scope L' f cdv) e) (fun _ s'' => E e s'') (fun e' s'' => E e' s'') s') s


theorem enterH {w : World} {loose : List Str} {mean : ExcName → Option Value} {mg mb : Str → Option Value} {n : Nat} {f : Addr} {vs : List Value} {touch : List (Addr × Obj)} {pre pre' : Heap → Prop} {Post : Value → List (Addr × Obj) → Prop}
    {name qual : Str} {params : Arguments} {body : List Stmt} {scope : Scope} {dV kV doc pm cdv ct oc : Value} {an od : Option Addr} {osl : Array (Option Value)} {binds : List (Str × Value)}
    (ho : (Mine.hd.heap_1 w.params).lookup f = some ⟨oc, od, .func (fnOf name qual params body scope dV kV doc pm an cdv ct), osl⟩) (hcd : codeIn (Mine.hd.heap_1 w.params) cdv qual = true)
    (hbind : ∀ s, BindsTo s (fnOf name qual params body scope dV kV doc pm an cdv ct) ⟨vs, []⟩ binds) (hloc : ∀ y ∈ binds, scope.names.lookup y.1 = some .local)
    (hpre : ∀ h g : Heap, pre h → (∀ b o, h.get? b = some o → (∀ p ∈ touch, p.1 ≠ b) → g.get? b = some o) → pre' g)
    (hb : BodyH w loose mean mg mb n f qual body scope cdv binds touch pre' Post)
    (hcell : ∀ x ∈ scope.names, x.2 ≠ .cell) (hco : scope.isCoroutine = false) (hgen : scope.isGenerator = false) (hk : scope.kind = .function) (hn : 0 < n) :
    HClaim PySem.Challenge.rw_wo0016_01 Mine.hd.heap_1 w loose mean mg mb n f vs touch pre Post := by
  intro A A₀ env outer base h₀ L m s R B F X N T hh hA hf hke hdp hun hp hret
  obtain ⟨FG, BG, st, _⟩ := groundX (R := fun _ _ => True) B F N hA hf hke
  have ho' := (X.keeps F.keep) _ _ ho
  refine codeAny_call_def (fd := fnOf name qual params body scope dV kV doc pm an cdv ct) (body := body) (binds := binds) (by omega) ho' rfl (T.nolimit.keeps F.keep) (codeRec_of (X.keeps F.keep) hcd) rfl (hbind s) hcell hloc (fun h₁ hns hk₁ => ?_) hco hgen hk
  have kp : ∀ b o, s.heap.get? b = some o → (∀ p ∈ touch, p.1 ≠ b) → (hideAll s.heap (touch.map (·.1))).get? b = some o := fun b o e nb => hideAll_get _ e fun q => by
    obtain ⟨p, hp, hpb⟩ := List.mem_map.mp q
    exact nb p hp hpb
  have Nn : News (hideAll s.heap (touch.map (·.1))) s.heap.objs.size h₁ touch := fun p hp => ⟨hk₁ _ _ (N p hp).1, Nat.ne_of_lt (Heap.lt_size (N p hp).1), hideAll_none _ (List.mem_map_of_mem hp)⟩
  have eA := ar_of hh hA
  generalize A.depth = dp at *
  generalize A.units = un at *
  generalize A.guards = gd at *
  subst eA
  refine wpAny_mono (hb dp un gd (env :: outer) base (hideAll s.heap (touch.map (·.1))) s.heap.objs.size { s with heap := h₁, toks := s.toks + binds.length } (fun e s'' => R (.error e) s'') BG
    ⟨hns, fun b o e => hk₁ b o (of_hideAll _ e), Nat.le_of_eq (hideAll_size _ _)⟩ Nn (X.keeps (fun b o e => st b o e)) (T.keeps (fun b o e => st b o e)) (hpre _ _ hp kp) (fun p hp => Heap.lt_size (N p hp).1) hdp hun) (fun fl s' hl => ?_) (fun _ _ h => h)
  obtain ⟨L', m', now, ⟨h', tk', rfl⟩, F', N', P⟩ := hl
  dsimp only at F' N'
  refine hret _ now h' tk' P ⟨?_, fun b o e nb => F'.keep b o (kp b o e nb), fun p hp => (N' p hp).1, fun p hp => ?_⟩
  · obtain ⟨oL, _, _, hL, _⟩ := F'.ns
    exact Nat.le_trans (Nat.le_trans (Nat.le_of_eq (hideAll_size _ _).symm) F'.above) (Nat.le_of_lt (Heap.lt_size hL))
  · by_cases q : ∃ q ∈ touch, q.1 = p.1
    · exact .inl q
    · refine .inr ?_
      cases e : s.heap.get? p.1 with
      | none => rfl
      | some o =>
        have := (N' p hp).2.2
        rw [kp p.1 o e fun y hy hq => q ⟨y, hy, hq⟩] at this
        cases this
end
section
noncomputable abbrev WalkB (w : World) (f : Addr) (qual : Str) (body : List Stmt) (scope : Scope) (cdv : Value) (dp un : Nat) (gd : Option (List Code)) (outer : List Env) (g : Heap) (L' : Addr) (s : Shared) (Post : Value → List (Addr × Obj) → Prop) (E : Value → Shared → Prop) : Prop :=
  wpAny (model PySem.Challenge.rw_wo0016_01.prog w) ((Ar dp un gd outer).deeper (envOf qual scope L' f cdv)) (execs body (envOf qual scope L' f cdv))
        (fun fl s' => LeaveH g s Post (match fl with | .ret v => v | _ => .none) s')
        (fun e s' => wpAny (model PySem.Challenge.rw_wo0016_01.prog w) ((Ar dp un gd outer).deeper (envOf qual scope L' f cdv)) (leaving (envOf qual scope L' f cdv) e) (fun _ s'' => E e s'') (fun e' s'' => E e' s'') s') s
noncomputable def WalkK (w : World) (f : Addr) (dp un : Nat) (gd : Option (List Code)) (outer : List Env) (g : Heap) (L' : Addr) (s : Shared) (Post : Value → List (Addr × Obj) → Prop) (E : Value → Shared → Prop) : Prop :=
  match (Mine.hd.heap_1 w.params).lookup f with
  | some o => (match o.data with
    | .func fd => (match fd.body with
      | .stmts body => WalkB w f fd.qualname body fd.scope fd.code dp un gd outer g L' s Post E
      | _ => True)
    | _ => True)
  | none => True
section
variable {w : World} {f : Addr} {name qual : Str} {params : Arguments} {body : List Stmt} {scope : Scope} {dV kV doc pm cdv ct oc : Value} {an od : Option Addr} {osl : Array (Option Value)}
  {dp un : Nat} {gd : Option (List Code)} {outer : List Env} {g : Heap} {L' : Addr} {s : Shared} {Post : Value → List (Addr × Obj) → Prop} {E : Value → Shared → Prop}
theorem walkK_of (ho : (Mine.hd.heap_1 w.params).lookup f = some ⟨oc, od, .func (fnOf name qual params body scope dV kV doc pm an cdv ct), osl⟩) (h : WalkB w f qual body scope cdv dp un gd outer g L' s Post E) : WalkK w f dp un gd outer g L' s Post E := by
  unfold WalkK
  rw [ho]
  exact h
theorem walkB_of (ho : (Mine.hd.heap_1 w.params).lookup f = some ⟨oc, od, .func (fnOf name qual params body scope dV kV doc pm an cdv ct), osl⟩) (h : WalkK w f dp un gd outer g L' s Post E) : WalkB w f qual body scope cdv dp un gd outer g L' s Post E := by
  unfold WalkK at h
  rw [ho] at h
  exact h
end
end
section
noncomputable abbrev lexD (a b c d : Int × Tok) (ln : Int) (tn : Tok) (fp : Value) (tw : Tok) (P : Addr) : List DictEntry :=
  [⟨a.1, Value.str (Str.ofString "lineno") a.2, Value.int ln tn⟩, ⟨b.1, Value.str (Str.ofString "instream") b.2, fp⟩, ⟨c.1, Value.str (Str.ofString "whitespace") c.2, Value.str (Str.ofString "\n\t\x0d ") tw⟩, ⟨d.1, Value.str (Str.ofString "pushback") d.2, Value.ref P⟩]
noncomputable abbrev lstO (xs : List Value) (e : Nat) : Obj := { cls := .type "list", data := .seq xs.toArray e }
noncomputable abbrev lexN (lx dx P : Addr) (a b c d : Int × Tok) (ln : Int) (tn : Tok) (fp : Value) (tw : Tok) (e : Nat) (xs : List Value) (e' : Nat) : List (Addr × Obj) :=
  [(lx, instObj 52 dx), (dx, dictOf (lexD a b c d ln tn fp tw P) e), (P, lstO xs e')]
theorem ne_news {h₀ h : Heap} {L a b : Addr} {o o' : Obj} {news : List (Addr × Obj)} (N : News h₀ L h news) (ha : (a, o) ∈ news) (hb : (b, o') ∈ news) (ho : (o.cls == o'.cls) = false) : a ≠ b := fun q => by
  subst q
  have e1 := (N _ ha).1
  have e2 := (N _ hb).1
  rw [e1] at e2
  cases e2
  simp at ho
theorem lexN_ne {h₀ h : Heap} {L lx dx P : Addr} {a b c d : Int × Tok} {ln : Int} {tn : Tok} {fp : Value} {tw : Tok} {e : Nat} {xs : List Value} {e' : Nat}
   (N : News h₀ L h (lexN lx dx P a b c d ln tn fp tw e xs e')) : lx ≠ dx ∧ lx ≠ P ∧ dx ≠ P :=
  ⟨ne_news N (List.Mem.head _) (List.Mem.tail _ (List.Mem.head _)) rfl, ne_news N (List.Mem.head _) (List.Mem.tail _ (List.Mem.tail _ (List.Mem.head _))) rfl, ne_news N (List.Mem.tail _ (List.Mem.head _)) (List.Mem.tail _ (List.Mem.tail _ (List.Mem.head _))) rfl⟩
theorem pop0_K {prog : Program} {w : World} {A : Around} {E : Value → Shared → Prop} {s : Shared} {h₀ : Heap} {L D : Addr} {m : Str → Option Value} {news news' : List (Addr × Obj)} {n : Nat} {u : Tok} {v : Value} {xs : List Value} {Q : Value → Shared → Prop} (F : Fr h₀ L s.heap m) (N : News h₀ L s.heap news)
    (U : Upd D (listOf (v :: xs).toArray n) (listOf xs.toArray (n + 1)) news news') (hz : xs.length < 1000000) (h : ∀ h', Fr h₀ L h' m → News h₀ L h' news' → Q v { s with heap := h' }) : wpAny (model prog w) A (call (.builtin "list.pop") [.ref D, .int 0 u]) Q E s :=
  kl_popAt (k := 0) (p := []) (q := xs) (y := v) F N rfl (by unfold seqIndex?; simp) rfl U (by simp [sizeLine_eq]; omega) h
section
variable (w : World) (loose : List Str) (mean : ExcName → Option Value) (mg mb : Str → Option Value)
theorem strcoll_H (x y : Str) (tx ty : Tok) : HC w loose mean mg mb 10 70 [.str x tx, .str y ty] [] (fun _ => True) (fun v now => now = [] ∧ ∃ t, v = .int (b2i (decide (y.cps.toList < x.cps.toList)) - b2i (decide (x.cps.toList < y.cps.toList))) t) := by
  k_with "call builtin:list.pop" => ((fail_if_success k_extra "x0"); k_here; (with_reducible show wpAny _ _ (call (Value.builtin _) [Value.ref _, Value.int 0 _]) _ _ _); k_dflt (refine' pop0_K (by k_asm) (by k_asm) (by k_upd) (by omega) ?_); intro _ _ _)
  unfold HC; k_fill
  refine' enterH (pre' := fun _ => True) (binds := [("a", .str x tx), ("b", .str y ty)]) ?k6 ?k7 ?k9 ?kB ?kP ?kW ?c5 ?c2 ?c3 ?c4 ?c6
  k_extra "mine enter"
  (case kP => exact fun _ _ h _ => h)
  intro dp un gd outer base g L' s E B F N X T hp hlt hd hu
  k_steps
  exact leaveH (by assumption) (by assumption) ⟨rfl, _, rfl⟩

theorem push_H (lx dx P : Addr) (v : Value) (a b c d : Int × Tok) (ln : Int) (tn : Tok) (fp : Value) (tw : Tok) (xs : List Value) (e e' : Nat) (hx : xs.length < 1000) : 
  HC w loose mean mg mb 10 49 [.ref lx, v] (lexN lx dx P a b c d ln tn fp tw e xs e') (fun _ => True)
   (fun r now => r = .none ∧ now = lexN lx dx P a b c d ln tn fp tw e (xs ++ [v]) (e'+1)) := by
  unfold HC; k_fill
  refine' enterH (pre' := fun _ => True) (binds := [("self", .ref lx), ("token", v)]) ?k6 ?k7 ?k9 ?kB ?kP ?kW ?c5 ?c2 ?c3 ?c4 ?c6
  k_extra "mine enter"
  (case kP => exact fun _ _ h _ => h)
  intro dp un gd outer base g L' s E B F N X T hp hlt hd hu
  obtain ⟨n1, n2, n3⟩ := lexN_ne N
  unfold lexN at N
  k_steps
  refine leaveH (by assumption) (by assumption) ?_
  exact ⟨rfl, by simp only [List.push_toArray]⟩

theorem get_H (lx dx P : Addr) (v : Value) (a b c d : Int × Tok) (ln : Int) (tn : Tok) (fp : Value) (tw : Tok) (xs : List Value) (e e' : Nat) (hx : xs.length < 1000) : 
  HC w loose mean mg mb 10 42 [.ref lx] (lexN lx dx P a b c d ln tn fp tw e (v :: xs) e') (fun _ => True)
   (fun r now => r = v ∧ now = lexN lx dx P a b c d ln tn fp tw e xs (e'+1)) := by
  unfold HC; k_fill
  refine' enterH (pre' := fun _ => True) (binds := [("self", .ref lx)]) ?k6 ?k7 ?k9 ?kB ?kP ?kW ?c5 ?c2 ?c3 ?c4 ?c6
  k_extra "mine enter"
  (case kP => exact fun _ _ h _ => h)
  intro dp un gd outer base g L' s E B F N X T hp hlt hd hu
  obtain ⟨n1, n2, n3⟩ := lexN_ne N
  unfold lexN at N
  k_steps
  refine leaveH (by assumption) (by assumption) ?_
  exact ⟨rfl, rfl⟩
end
end
section
noncomputable def Hold (P : Prop) : Prop := P
theorem hold_of {P : Prop} (h : Hold P) : P := h
section
variable {w : World} {loose : List Str} {mean : ExcName → Option Value} {mg mb : Str → Option Value} {n : Nat} {f : Addr} {vs : List Value} {touch news : List (Addr × Obj)} {pre : Heap → Prop} {Post : Value → List (Addr × Obj) → Prop}
  {A A₀ : Around} {env : Env} {outer : List Env} {base h₀ : Heap} {L : Addr} {m : Str → Option Value} {s : Shared} {Q E : Value → Shared → Prop}
theorem useH (C : HC w loose mean mg mb n f vs touch pre Post) (B : Below A₀ base outer h₀) (F : Fr h₀ L s.heap m) (X : (Mine.hd.heap_1 w.params).In h₀) (N : News h₀ L s.heap news) (T : Top topProg loose mean mg mb h₀)
    (hh : A.handled = none) (hA : A.frames = some (env :: outer)) (hf : env.frame = some L) (hk : env.scope.kind = .function) (hd : A.depth + n < recursionLimit) (hu : A.units + 10 * n < cLine) (hsub : ∀ p ∈ touch, p ∈ news) (hp : pre s.heap)
    (h : ∀ v now h' tk', Post v now → Fr h₀ L h' m → (∀ p ∈ news, (∀ q ∈ touch, q.1 ≠ p.1) → h'.get? p.1 = some p.2) → (∀ p ∈ now, (∃ q ∈ touch, q.1 = p.1) ∨ ∀ q ∈ news, q.1 ≠ p.1) →
      (∀ news', (∀ p ∈ news', p ∈ now ∨ (p ∈ news ∧ ∀ q ∈ touch, q.1 ≠ p.1)) → News h₀ L h' news') → Q v { s with heap := h', toks := tk' }) :
    wpAny (model PySem.Challenge.rw_wo0016_01.prog w) A (call (.ref f) vs) Q E s := by
  have Nt : News h₀ L s.heap touch := fun p hp => N p (hsub p hp)
  refine wpAny_call (C A A₀ env outer base h₀ L m s _ B F X Nt T hh hA hf hk hd hu hp fun v now h' tk' P S => ?_)
  have Lne : ∀ p ∈ touch, p.1 ≠ L := fun p hp => (Nt p hp).2.1
  have F' : Fr h₀ L h' m := by
    obtain ⟨oL, es, ep, hL, r⟩ := F.ns
    refine ⟨⟨oL, es, ep, S.keep _ _ hL Lne, r⟩, fun b o e => S.keep b o (F.keep b o e) fun p hp q => ?_, F.above⟩
    have := (Nt p hp).2.2
    rw [q, e] at this
    cases this
  have kp : ∀ p ∈ news, (∀ q ∈ touch, q.1 ≠ p.1) → h'.get? p.1 = some p.2 := fun p hp hn => S.keep _ _ (N p hp).1 hn
  have fr : ∀ p ∈ now, (∃ q ∈ touch, q.1 = p.1) ∨ ∀ q ∈ news, q.1 ≠ p.1 := fun p hp => (S.fresh p hp).imp id fun e q hq z => by
    have := (N q hq).1; rw [z, e] at this; cases this
  refine h v now h' tk' P F' kp fr fun news' hn' p hp => ?_
  rcases hn' p hp with hq | ⟨hq, hne⟩
  · refine ⟨S.now p hq, ?_, ?_⟩
    · rcases S.fresh p hq with ⟨q, hqt, hqe⟩ | e
      · rw [← hqe]; exact Lne q hqt
      · intro z
        obtain ⟨oL, _, _, hL, _⟩ := F.ns
        rw [z, hL] at e; cases e
    · rcases S.fresh p hq with ⟨q, hqt, hqe⟩ | e
      · rw [← hqe]; exact (Nt q hqt).2.2
      · cases z : h₀.get? p.1 with
        | none => rfl
        | some o => rw [F.keep _ _ z] at e; cases e
  · exact ⟨kp p hq hne, (N p hq).2⟩

theorem useLex {lx dx P : Addr} {a b c d : Int × Tok} {ln : Int} {tn : Tok} {fp : Value} {tw : Tok} {e e1 e2 : Nat} {xs xs' : List Value} {rest : List (Addr × Obj)} {v : Value}
    (C : HC w loose mean mg mb n f vs (lexN lx dx P a b c d ln tn fp tw e xs e1) (fun _ => True) (fun r now => r = v ∧ now = lexN lx dx P a b c d ln tn fp tw e xs' e2))
    (B : Below A₀ base outer h₀) (F : Fr h₀ L s.heap m) (X : (Mine.hd.heap_1 w.params).In h₀) (N : News h₀ L s.heap (lexN lx dx P a b c d ln tn fp tw e xs e1 ++ rest)) (T : Top topProg loose mean mg mb h₀)
    (hh : A.handled = none) (hA : A.frames = some (env :: outer)) (hf : env.frame = some L) (hk : env.scope.kind = .function) (hd : A.depth + n < recursionLimit) (hu : A.units + 10 * n < cLine) (hne : ∀ p ∈ rest, p.1 ≠ lx ∧ p.1 ≠ dx ∧ p.1 ≠ P)
    (h : ∀ h' tk', Fr h₀ L h' m → News h₀ L h' (lexN lx dx P a b c d ln tn fp tw e xs' e2 ++ rest) → Q v { s with heap := h', toks := tk' }) :
    wpAny (model PySem.Challenge.rw_wo0016_01.prog w) A (call (.ref f) vs) Q E s := by
  refine useH C B F X N T hh hA hf hk hd hu (fun p hp => List.mem_append_left _ hp) trivial ?_
  rintro _ _ h' tk' ⟨rfl, rfl⟩ F' _ _ K
  refine h h' tk' F' (K _ fun p hp => ?_)
  rcases List.mem_append.mp hp with q | q
  · exact .inl q
  · refine .inr ⟨List.mem_append_right _ q, fun z hz => ?_⟩
    obtain ⟨n1, n2, n3⟩ := hne p q
    rcases List.mem_cons.mp hz with rfl | hz
    · exact Ne.symm n1
    · rcases List.mem_cons.mp hz with rfl | hz
      · exact Ne.symm n2
      · rw [List.mem_singleton.mp hz]; exact Ne.symm n3

theorem useP (C : HC w loose mean mg mb n f vs [] pre Post)
    (B : Below A₀ base outer h₀) (F : Fr h₀ L s.heap m) (X : (Mine.hd.heap_1 w.params).In h₀) (N : News h₀ L s.heap news) (T : Top topProg loose mean mg mb h₀)
    (hh : A.handled = none) (hA : A.frames = some (env :: outer)) (hf : env.frame = some L) (hk : env.scope.kind = .function) (hd : A.depth + n < recursionLimit) (hu : A.units + 10 * n < cLine) (hp : pre s.heap)
    (h : ∀ v now h' tk', Post v now → Fr h₀ L h' m → News h₀ L h' (now ++ news) → (∀ p ∈ now, ∀ q ∈ news, q.1 ≠ p.1) → Q v { s with heap := h', toks := tk' }) :
    wpAny (model PySem.Challenge.rw_wo0016_01.prog w) A (call (.ref f) vs) Q E s := by
  refine useH C B F X N T hh hA hf hk hd hu (fun p hp => nomatch hp) hp ?_
  rintro v now h' tk' P F' _ fr K
  refine h v now h' tk' P F' (K _ fun p hp => ?_) fun p hp q hq => ?_
  · rcases List.mem_append.mp hp with q | q
    · exact .inl q
    · exact .inr ⟨q, fun z hz => nomatch hz⟩
  · rcases fr p hp with ⟨z, hz, _⟩ | g
    · cases hz
    · exact g q hq
end
end
section
noncomputable def Wd (lo hi : Str) (b : Bool) : Str := if b then hi else lo
noncomputable def Td (tl th : Tok) (b : Bool) : Tok := if b then th else tl
noncomputable abbrev Vd (lo hi : Str) (tl th : Tok) (b : Bool) : Value := Value.str (Wd lo hi b) (Td tl th b)
noncomputable def atR (r : List Bool) (j : Nat) : Bool := r.getD (j % r.length) false
noncomputable def outs (f : Bool → Bool → Bool → Bool) (r : List Bool) (i : Nat) : List Bool := (List.range i).map fun j => f (atR r j) (atR r (j + 1)) (atR r (j + 2))
noncomputable def LtS (x y : Str) : Prop := x.cps.toList < y.cps.toList
theorem cmp_W {lo hi : Str} (h : LtS lo hi) (b : Bool) : b2i (decide ((Wd lo hi false).cps.toList < (Wd lo hi b).cps.toList)) - b2i (decide ((Wd lo hi b).cps.toList < (Wd lo hi false).cps.toList)) = b2i b := by
  have h1 : decide (lo.cps.toList < hi.cps.toList) = true := decide_eq_true h
  have h2 : decide (hi.cps.toList < lo.cps.toList) = false := decide_eq_false (List.lt_asymm h)
  have h3 : decide (lo.cps.toList < lo.cps.toList) = false := decide_eq_false (List.lt_irrefl _)
  cases b
  · simp only [Wd, Bool.false_eq_true, if_false, h3]; rfl
  · simp only [Wd, Bool.false_eq_true, if_false, if_true, h1, h2]; rfl
theorem b2i_bd (b : Bool) : 0 ≤ b2i b ∧ b2i b ≤ 1 := by cases b <;> simp [b2i]
theorem item_old {prog : Program} {w : World} {A : Around} {E : Value → Shared → Prop} {s : Shared} {g : Heap} {L l : Addr} {m : Str → Option Value} {e : Nat} {value slice : PySem.Expr} {vs : List Value} {k : Int} {u : Tok} {v : Value} {Q : Value → Shared → Prop}
    (F : Fr g L s.heap m) (hl : g.get? l = some (lstO vs e)) (h0 : 0 ≤ k) (hhi : k < 2 ^ 63) (hx : vs[k.toNat]? = some v) (h : Q v s)
    (hs : subscripted slice false (.ref l) (.int k u) = operate [.ref l, .int k u] (getItem (.ref l) (.int k u)) := by with_unfolding_all rfl) :
    wpAny (model prog w) A (subscriptTail value slice (.ref l) (.int k u)) Q E s := by
  have hi : s.heap.IsList l vs.toArray := ⟨_, F.keep _ _ hl, rfl, _, rfl⟩
  exact tail_any hi.typeIs slot_list_getitem.lookup (wpAny_getItem_list hi h0 hhi (by simpa using hx) h) hs
theorem item_new {prog : Program} {w : World} {A : Around} {E : Value → Shared → Prop} {s : Shared} {g : Heap} {L l : Addr} {e : Nat} {value slice : PySem.Expr} {vs : List Value} {k : Int} {u : Tok} {v : Value} {Q : Value → Shared → Prop} {news : List (Addr × Obj)}
    (N : News g L s.heap news) (hm : (l, lstO vs e) ∈ news) (h0 : 0 ≤ k) (hhi : k < 2 ^ 63) (hx : vs[k.toNat]? = some v) (h : Q v s)
    (hs : subscripted slice false (.ref l) (.int k u) = operate [.ref l, .int k u] (getItem (.ref l) (.int k u)) := by with_unfolding_all rfl) :
    wpAny (model prog w) A (subscriptTail value slice (.ref l) (.int k u)) Q E s := by
  have hi : s.heap.IsList l vs.toArray := ⟨_, (N _ hm).1, rfl, _, rfl⟩
  exact tail_any hi.typeIs slot_list_getitem.lookup (wpAny_getItem_list hi h0 hhi (by simpa using hx) h) hs
theorem inv_end {σ : Type} {h₀ : Heap} {L : Addr} {Led : σ → List (Addr × Obj)} {ps : σ → List (Str × Value)} {Facts : σ → Prop} {x : Str} {stored : List Str} {m₀ : Str → Option Value} {P : List Int → σ → Prop} {pre : List Int} {own news' : List (Addr × Obj)} {adr : List Addr} {s₁ : Shared} {h' : Heap} {tk : Nat} {m' : Str → Option Value}
    (F : Fr h₀ L h' m') (N : News h₀ L h' news') (c : σ) (h1 : ∀ p ∈ Led c, p ∈ news') (h2 : ∀ p ∈ own, p ∈ news') (h3 : (Led c).map (·.1) = adr) (hf : Facts c) (h4 : ∀ p ∈ ps c, m' p.1 = some p.2)
    (h5 : ∀ z, z ≠ x → (∀ p ∈ ps c, z ≠ p.1) → stored.contains z = false → m' z = m₀ z) (hp : P pre c) : InvEndN h₀ L (KstS Led ps Facts x stored m₀ P pre) own adr s₁ { s₁ with heap := h', toks := tk } :=
  ⟨h', tk, m', news', Led c, rfl, F, N, h1, h2, h3, c, rfl, hf, h4, h5, hp⟩
theorem atR_0 (r0 r1 : Bool) (r' : List Bool) : atR (r0 :: r1 :: r') 0 = r0 := by simp [atR]
theorem atR_1 (r0 r1 : Bool) (r' : List Bool) : atR (r0 :: r1 :: r') 1 = r1 := by
  have : 1 % (r0 :: r1 :: r').length = 1 := Nat.mod_eq_of_lt (by simp)
  simp only [atR, this]; rfl
theorem atR_n (r0 r1 : Bool) (r' : List Bool) : atR (r0 :: r1 :: r') (r0 :: r1 :: r').length = r0 := by simp [atR]
theorem atR_n1 (r0 r1 : Bool) (r' : List Bool) : atR (r0 :: r1 :: r') ((r0 :: r1 :: r').length + 1) = r1 := by
  have : ((r0 :: r1 :: r').length + 1) % (r0 :: r1 :: r').length = 1 := by
    rw [Nat.add_mod_left]; exact Nat.mod_eq_of_lt (by simp)
  simp only [atR, this]; rfl
theorem range_n (n : Nat) : Builtin.Range.rangeSize 0 (n : Int) 1 = (n : Int) := by
  unfold Builtin.Range.rangeSize
  split
  · split
    · simp
    · omega
  · omega
theorem fitsL (x : Int) (h0 : 0 ≤ x) (h1 : x ≤ 1000) : Builtin.Range.rangeFitsLong x = true := by
  unfold Builtin.Range.rangeFitsLong
  simp only [Bool.and_eq_true, decide_eq_true_eq]
  omega
theorem small_n (n : Nat) (h : n ≤ 100) : Builtin.Range.small 0 (n : Int) 1 = true := by
  unfold Builtin.Range.small
  rw [range_n, fitsL 0 (by omega) (by omega), fitsL n (by omega) (by omega), fitsL 1 (by omega) (by omega), if_pos (by omega), fitsL _ (by omega) (by omega)]
  simp
theorem outs_succ (f : Bool → Bool → Bool → Bool) (r : List Bool) (i : Nat) : outs f r (i + 1) = outs f r i ++ [f (atR r i) (atR r (i + 1)) (atR r (i + 2))] := by
  simp [outs, List.range_succ]
theorem drop_at (r : List Bool) (i : Nat) (h : i < r.length) : r.drop i = atR r i :: r.drop (i + 1) := by
  rw [List.drop_eq_getElem_cons h]
  congr 1
  simp [atR, Nat.mod_eq_of_lt h, h]
noncomputable abbrev mapOf {g h : Heap} {L : Addr} {m : Str → Option Value} (_ : Fr g L h m) : Str → Option Value := m
section
theorem strcollW_H (w : World) (loose : List Str) (mean : ExcName → Option Value) (mg mb : Str → Option Value) {lo hi : Str} (tl th : Tok) (h : LtS lo hi) (b : Bool) : HC w loose mean mg mb 10 70 [Vd lo hi tl th b, Vd lo hi tl th false] [] (fun _ => True) (fun v now => now = [] ∧ ∃ t, v = .int (b2i b) t) := by
  have := strcoll_H w loose mean mg mb (Wd lo hi b) (Wd lo hi false) (Td tl th b) (Td tl th false)
  rw [cmp_W h b] at this
  exact this

namespace Z_swept_H0_K
noncomputable def zP (w : World) (loose : List Str) (mean : ExcName → Option Value) (mg : Str → Option Value) (mb : Str → Option Value) (lx : Addr) (dx : Addr) (P : Addr) (pl : Addr) (fl : Addr) (a : Int × Tok) (b : Int × Tok) (c : Int × Tok) (d : Int × Tok) (ln : Int) (tn : Tok) (fp : Value) (tw : Tok) (e : Nat) (e0 : Nat) (e1 : Nat) (e2 : Nat) (lo : Str) (hi : Str) (tl : Tok) (th : Tok) (f : Bool → Bool → Bool → Bool) (fv : List Value) (n : Nat) (tz : Tok) (r0 : Bool) (r1 : Bool) (r' : List Bool) (dp : Nat) (un : Nat) (gd : Option (List Code)) (outer : List Env) (base : Heap) (g : Heap) (L' : Addr) (s : Shared) (E : Value → Shared → Prop) : Prop := ∀ (hlt : LtS lo hi) (hn : (r0 :: r1 :: r').length = n) (hn3 : 3 ≤ n) (hn9 : n ≤ 100) (hfv : ∀ x y z, ∃ t, fv[(4 * b2i x + 2 * b2i y + b2i z).toNat]? = some (.int (b2i (f x y z)) t)) (hpl : pl ≠ lx ∧ pl ≠ dx ∧ pl ≠ P) (hfl : fl ≠ lx ∧ fl ≠ dx ∧ fl ≠ P) (B : Below (Ar dp un gd outer) base outer g) (F : Fr g L' s.heap (fun y => ([("lexer", .ref lx), ("figures", .ref fl), ("pair", .ref pl), ("size", .int n tz)] : List (Str × Value)).reverse.lookup y)) (N : News g L' s.heap ((lexN lx dx P a b c d ln tn fp tw e ((r0 :: r1 :: r').map (Vd lo hi tl th)) e0))) (X : (Mine.hd.heap_1 w.params).In g) (T : Top topProg loose mean mg mb g) (hp : (fun h => h.get? pl = some (lstO [Vd lo hi tl th false, Vd lo hi tl th true] e1) ∧ h.get? fl = some (lstO fv e2) : Heap → Prop) g) (hlt' : ∀ p ∈ ((lexN lx dx P a b c d ln tn fp tw e ((r0 :: r1 :: r').map (Vd lo hi tl th)) e0) : List (Addr × Obj)), p.1 < L') (hd : dp + 30 < recursionLimit) (hu : un + 10 * 30 < cLine), WalkK w 146 dp un gd outer g L' s (fun v now => v = .bool true ∧ ∃ e0', now = lexN lx dx P a b c d ln tn fp tw e ((outs f (r0 :: r1 :: r') n).map (Vd lo hi tl th)) e0') E
noncomputable def zk : DD := pickD fun c => zP (c.fW 0) (c.fLs 0) (c.fMe 0) (c.fMp 0) (c.fMp 1) (c.fA 0) (c.fA 1) (c.fA 2) (c.fA 3) (c.fA 4) (c.fIt 0) (c.fIt 1) (c.fIt 2) (c.fIt 3) (c.fI 0) (c.fT 0) (c.fV 0) (c.fT 1) (c.fN 0) (c.fN 1) (c.fN 2) (c.fN 3) (c.fS 0) (c.fS 1) (c.fT 2) (c.fT 3) (c.fB3 0) (c.fLv 0) (c.fN 4) (c.fT 4) (c.fB 0) (c.fB 1) (c.fLb 0) (c.fN 5) (c.fN 6) (c.fGd 0) (c.fEn 0) (c.fH 0) (c.fH 1) (c.fA 5) (c.fSh 0) (c.fE 0)
noncomputable section
@[irreducible] def w : World := zk.fW 0
@[irreducible] def loose : List Str := zk.fLs 0
@[irreducible] def mean : ExcName → Option Value := zk.fMe 0
@[irreducible] def mg : Str → Option Value := zk.fMp 0
@[irreducible] def mb : Str → Option Value := zk.fMp 1
@[irreducible] def lx : Addr := zk.fA 0
@[irreducible] def dx : Addr := zk.fA 1
@[irreducible] def P : Addr := zk.fA 2
@[irreducible] def pl : Addr := zk.fA 3
@[irreducible] def fl : Addr := zk.fA 4
@[irreducible] def a : Int × Tok := zk.fIt 0
@[irreducible] def b : Int × Tok := zk.fIt 1
@[irreducible] def c : Int × Tok := zk.fIt 2
@[irreducible] def d : Int × Tok := zk.fIt 3
@[irreducible] def ln : Int := zk.fI 0
@[irreducible] def tn : Tok := zk.fT 0
@[irreducible] def fp : Value := zk.fV 0
@[irreducible] def tw : Tok := zk.fT 1
@[irreducible] def e : Nat := zk.fN 0
@[irreducible] def e0 : Nat := zk.fN 1
@[irreducible] def e1 : Nat := zk.fN 2
@[irreducible] def e2 : Nat := zk.fN 3
@[irreducible] def lo : Str := zk.fS 0
@[irreducible] def hi : Str := zk.fS 1
@[irreducible] def tl : Tok := zk.fT 2
@[irreducible] def th : Tok := zk.fT 3
@[irreducible] def f : Bool → Bool → Bool → Bool := zk.fB3 0
@[irreducible] def fv : List Value := zk.fLv 0
@[irreducible] def n : Nat := zk.fN 4
@[irreducible] def tz : Tok := zk.fT 4
@[irreducible] def r0 : Bool := zk.fB 0
@[irreducible] def r1 : Bool := zk.fB 1
@[irreducible] def r' : List Bool := zk.fLb 0
@[irreducible] def dp : Nat := zk.fN 5
@[irreducible] def un : Nat := zk.fN 6
@[irreducible] def gd : Option (List Code) := zk.fGd 0
@[irreducible] def outer : List Env := zk.fEn 0
@[irreducible] def base : Heap := zk.fH 0
@[irreducible] def g : Heap := zk.fH 1
@[irreducible] def L' : Addr := zk.fA 5
@[irreducible] def s : Shared := zk.fSh 0
@[irreducible] def E : Value → Shared → Prop := zk.fE 0
end
theorem zcore : zP w loose mean mg mb lx dx P pl fl a b c d ln tn fp tw e e0 e1 e2 lo hi tl th f fv n tz r0 r1 r' dp un gd outer base g L' s E := by
  k_with "x0" => skip
  k_with "subscriptTail" => ((fail_if_success k_extra "x1"); k_here; (with_reducible show wpAny _ _ (subscriptTail _ _ (Value.ref _) (Value.int _ _)) _ _ _); (first | (with_unfolding_all refine' item_old (by assumption) (by assumption) (by omega) (by omega) (by k_extra "mine item") ?_ (by with_unfolding_all rfl); k_whole) | (with_unfolding_all refine' item_new (by assumption) (by k_mem) (by omega) (by omega) (by k_extra "mine item") ?_ (by with_unfolding_all rfl); k_whole)))
  k_with "call ref" => ((fail_if_success k_extra "x1"); k_here; k_dflt ((show wpAny _ _ (call (Value.ref 70) [_, _]) _ _ _); refine' useP (strcollW_H _ _ _ _ _ _ _ ?_ _) (by assumption) (by assumption) (by assumption) (by assumption) (by assumption) (by exact rfl) (by exact rfl) (by exact rfl) (by exact rfl) (by (simp only [depth_deeper, Ar]; omega)) (by (simp only [units_deeper, Ar]; omega)) trivial ?_; (assumption); intro v now h' tk' hP F' N' nF; (obtain ⟨hv1, t, hv2⟩ := hP); subst hv1; subst hv2; clear nF; (try dsimp only [List.nil_append] at N'); revert h' tk' F' N' t; intro _ _ _ _ _))
  k_with "call ref" => ((fail_if_success k_extra "x1"); k_here; k_dflt ((show wpAny _ _ (call (Value.ref 42) [_]) _ _ _); refine' useLex (get_H _ _ _ _ _ _ _ _ _ _ _ _ _ _ _ _ _ _ _ _ ?_) (by assumption) (by assumption) (by assumption) (by assumption) (by assumption) (by exact rfl) (by exact rfl) (by exact rfl) (by exact rfl) (by (simp only [depth_deeper, Ar]; omega)) (by (simp only [units_deeper, Ar]; omega)) (by assumption) ?_; (k_extra "mine len"); intro _ _ _ _))
  k_with "call ref" => ((fail_if_success k_extra "x1"); k_here; k_dflt ((show wpAny _ _ (call (Value.ref 49) [_, _]) _ _ _); refine' useLex (push_H _ _ _ _ _ _ _ _ _ _ _ _ _ _ _ _ _ _ _ _ ?_) (by assumption) (by assumption) (by assumption) (by assumption) (by assumption) (by exact rfl) (by exact rfl) (by exact rfl) (by exact rfl) (by (simp only [depth_deeper, Ar]; omega)) (by (simp only [units_deeper, Ar]; omega)) (by assumption) ?_; (k_extra "mine len"); intro _ _ _ _))
  k_with "exec For Name Call cons nil" => ((fail_if_success k_extra "x1"); k_here; (with_unfolding_all refine' For_invVF (by with_reducible assumption) (by exact rfl) (by exact rfl) ?_; k_whole))
  k_with "mine iter" => ((fail_if_success k_extra "x1"); k_here; refine hold_of ?_)
  unfold zP
  intro hlt hn hn3 hn9 hfv hpl hfl B F N X T hp hlt' hd hu
  have _ : PySem.Challenge.rw_wo0016_01 = PySem.Challenge.rw_wo0016_01 ∧ Mine.hd.heap_1 = Mine.hd.heap_1 := by k_fill; exact ⟨rfl, rfl⟩
  refine' walkK_of ?k6 ?_; (case k6 => k_is)
  have uT : UseT1 := trivial
  obtain ⟨hp1, hp2⟩ := hp
  have hne0 : ∀ p ∈ ([] : List (Addr × Obj)), p.1 ≠ lx ∧ p.1 ≠ dx ∧ p.1 ≠ P := fun p hp => nomatch hp
  have N0 : News g L' s.heap (lexN lx dx P a b c d ln tn fp tw e (Vd lo hi tl th r0 :: Vd lo hi tl th r1 :: r'.map (Vd lo hi tl th)) e0 ++ []) := by simpa using N
  clear N
  simp only [List.length_cons] at hn
  k_steps
  unfold Hold
  rename_i st _ l1 _ _ _ _ _ _ h1 F1 N1 _ _ h2 tk2 t1 u1 v1 R1 F2 N2 K2
  clear F1 N1 K2
  simp only [List.append_nil] at l1
  have hst : st ≠ lx ∧ st ≠ dx ∧ st ≠ P := by
    have a1 := l1 _ (List.Mem.head _)
    have a2 := l1 _ (List.Mem.tail _ (List.Mem.head _))
    have a3 := l1 _ (List.Mem.tail _ (List.Mem.tail _ (List.Mem.head _)))
    dsimp only at a1 a2 a3
    exact ⟨Nat.ne_of_gt a1, Nat.ne_of_gt a2, Nat.ne_of_gt a3⟩
  generalize hrr : r0 :: r1 :: r' = r
  have hlen : r.length = n := by rw [← hrr]; simpa using hn
  have q0 : r0 = atR r 0 := by rw [← hrr, atR_0]
  have q1 : r1 = atR r 1 := by rw [← hrr, atR_1]
  have q2 : atR r n = r0 := by rw [← hlen, ← hrr, atR_n]
  have q3 : atR r (n + 1) = r1 := by rw [← hlen, ← hrr, atR_n1]
  have q4 : r' = r.drop 2 := by rw [← hrr]; rfl
  have N3 : News g L' h2 (lexN lx dx P a b c d ln tn fp tw e ((r.drop 2).map (Vd lo hi tl th)) (e0 + 1 + 1) ++ [(st, lstO [Vd lo hi tl th r0, Vd lo hi tl th r1] 0)]) := fun p hp => N2 p (by rw [q4]; simpa [or_comm, or_assoc, or_left_comm] using hp)
  clear N2
  refine kst_range (n := n) (fun q9 : Nat × Nat => lexN lx dx P a b c d ln tn fp tw e ((r.drop (q9.1 + 2) ++ outs f r q9.1).map (Vd lo hi tl th)) q9.2 ++ [(st, lstO [Vd lo hi tl th r0, Vd lo hi tl th r1] 0)])
    (fun q9 => [(Str.ofString "left", Vd lo hi tl th (atR r q9.1)), (Str.ofString "middle", Vd lo hi tl th (atR r (q9.1 + 1)))]) (fun _ => True) [Str.ofString "right", Str.ofString "place"] (fun pre q9 => q9.1 = pre.length) (0, e0 + 1 + 1)
    rfl R1 ?_ ?_ F2 ?_ trivial ?_ rfl ?_ ?_
  · exact small_n n hn9
  · exact range_n n
  · have e3 : ((r.drop 2 ++ outs f r 0).map (Vd lo hi tl th)) = (r.drop 2).map (Vd lo hi tl th) := by simp [outs]
    show News g L' h2 (lexN lx dx P a b c d ln tn fp tw e ((r.drop 2 ++ outs f r 0).map (Vd lo hi tl th)) (e0 + 1 + 1) ++ [(st, lstO [Vd lo hi tl th r0, Vd lo hi tl th r1] 0)])
    rw [e3]; exact N3
  · intro p hp
    rcases List.mem_cons.mp hp with rfl | hp
    · rw [← q0]; rfl
    · rw [List.mem_singleton.mp hp, ← q1]; rfl
  · rintro ⟨i, e9⟩ pre k t u h3 tk3 own hk hii hoff _ hi9 F4 N4
    dsimp only at hi9 N4 F4
    subst hi9
    generalize hpre : pre.length = i at *
    have hne : ∀ p ∈ (st, lstO [Vd lo hi tl th r0, Vd lo hi tl th r1] 0) :: own, p.1 ≠ lx ∧ p.1 ≠ dx ∧ p.1 ≠ P := by
      intro p hp
      rcases List.mem_cons.mp hp with rfl | hp
      · exact hst
      · exact ⟨hoff p hp _ (by simp), hoff p hp _ (by simp), hoff p hp _ (by simp)⟩
    have N5 : News g L' h3 (lexN lx dx P a b c d ln tn fp tw e ((r.drop (i + 2) ++ outs f r i).map (Vd lo hi tl th)) e9 ++ ((st, lstO [Vd lo hi tl th r0, Vd lo hi tl th r1] 0) :: own)) := fun p hp => N4 p (by simpa using hp)
    clear N4
    obtain ⟨tf, htf⟩ := hfv (atR r i) (atR r (i + 1)) (atR r (i + 2))
    have b1 := b2i_bd (atR r i)
    have b2 := b2i_bd (atR r (i + 1))
    have b3 := b2i_bd (atR r (i + 2))
    have b4 := b2i_bd (f (atR r i) (atR r (i + 1)) (atR r (i + 2)))
    have hpr : [Vd lo hi tl th false, Vd lo hi tl th true][(b2i (f (atR r i) (atR r (i + 1)) (atR r (i + 2)))).toNat]? = some (Vd lo hi tl th (f (atR r i) (atR r (i + 1)) (atR r (i + 2)))) := by
      cases f (atR r i) (atR r (i + 1)) (atR r (i + 2)) <;> rfl
    have hl6 : (r.drop (i + 3) ++ outs f r i).length ≤ n + 1 := by simp [outs]; omega
    refine execsP uT ?_
    intro Q1 n1
    have key : ∀ (h8 : Heap) (tk8 e8 : Nat), Fr g L' h8 (fun y => if y = Str.ofString "right" then some (Vd lo hi tl th (atR r (i + 2))) else mapOf F4 y) →
        News g L' h8 (lexN lx dx P a b c d ln tn fp tw e ((r.drop (i + 3) ++ outs f r i).map (Vd lo hi tl th)) e8 ++ ((st, lstO [Vd lo hi tl th r0, Vd lo hi tl th r1] 0) :: own)) → Q1 .next { s with heap := h8, toks := tk8 } := by
      intro h8 tk8 e8 F8 N8
      clear N5
      refine n1.next ?_
      dsimp only [mapOf] at F8
      clear F4
      k_steps
      refine inv_end (by assumption) (by assumption) (i + 1, e8 + 1) ?_ ?_ ?_ trivial ?_ ?_ (by simp [hpre])
      · intro p hp
        have e7 : i + 1 + 2 = i + 3 := rfl
        simp [outs_succ, e7] at hp ⊢
        rcases hp with h | h | h | h <;> simp [h]
      · intro p hp; simp [hp]
      · simp
      · intro p hp
        rcases List.mem_cons.mp hp with rfl | hp
        · rfl
        · rw [List.mem_singleton.mp hp]; rfl
      · intro z z1 z2 z3
        have z4 := z2 _ (List.Mem.head _)
        have z5 := z2 _ (List.Mem.tail _ (List.Mem.head _))
        dsimp only at z4 z5
        have z6 : z ≠ Str.ofString "right" ∧ z ≠ Str.ofString "place" := by
          constructor <;> (rintro rfl; simp at z3)
        simp only [if_neg z1, if_neg z4, if_neg z5, if_neg z6.1, if_neg z6.2, kstB, z3, Bool.false_eq_true, if_false]
    clear n1
    by_cases hi2 : i + 2 < n
    · have e5 : (r.drop (i + 2) ++ outs f r i).map (Vd lo hi tl th) = Vd lo hi tl th (atR r (i + 2)) :: (r.drop (i + 3) ++ outs f r i).map (Vd lo hi tl th) := by
        rw [drop_at r (i + 2) (by omega)]; rfl
      rw [e5] at N5
      have hl5 : (r.drop (i + 3) ++ outs f r i).length ≤ n := by simp [outs]; omega
      k_steps
      exact key _ _ _ (by assumption) (by assumption)
    · have e5 : r.drop (i + 2) = r.drop (i + 3) := by rw [List.drop_of_length_le (by omega), List.drop_of_length_le (by omega)]
      rw [e5] at N5
      have hst2 : ([Vd lo hi tl th r0, Vd lo hi tl th r1] : List Value)[(k - (n : Int) + 2).toNat]? = some (Vd lo hi tl th (atR r (i + 2))) := by
        rcases (by omega : i + 2 = n ∨ i + 2 = n + 1) with q | q
        · have : (k - (n : Int) + 2).toNat = 0 := by omega
          rw [this, q, q2]; rfl
        · have : (k - (n : Int) + 2).toNat = 1 := by omega
          rw [this, q, q3]; rfl
      k_steps
      exact key _ _ _ (by assumption) (by assumption)
  · rintro ⟨i, e9⟩ u h3 tk3 _ hi9 F4 N4
    dsimp only at hi9 N4 F4
    rw [rangeKs_length] at hi9
    have e6 : r.drop (i + 2) = [] := List.drop_of_length_le (by omega)
    rw [e6, List.nil_append, hi9] at N4
    k_steps
    refine leaveH F4 (cb_drop N4 (fun p hp => List.mem_append_left _ hp)) ?_
    exact ⟨rfl, _, by rw [hrr]⟩
theorem zall : ∀ c : DD, zP (c.fW 0) (c.fLs 0) (c.fMe 0) (c.fMp 0) (c.fMp 1) (c.fA 0) (c.fA 1) (c.fA 2) (c.fA 3) (c.fA 4) (c.fIt 0) (c.fIt 1) (c.fIt 2) (c.fIt 3) (c.fI 0) (c.fT 0) (c.fV 0) (c.fT 1) (c.fN 0) (c.fN 1) (c.fN 2) (c.fN 3) (c.fS 0) (c.fS 1) (c.fT 2) (c.fT 3) (c.fB3 0) (c.fLv 0) (c.fN 4) (c.fT 4) (c.fB 0) (c.fB 1) (c.fLb 0) (c.fN 5) (c.fN 6) (c.fGd 0) (c.fEn 0) (c.fH 0) (c.fH 1) (c.fA 5) (c.fSh 0) (c.fE 0) := allD (by with_unfolding_all exact zcore)
end Z_swept_H0_K
theorem swept_H0_K (w : World) (loose : List Str) (mean : ExcName → Option Value) (mg mb : Str → Option Value) (lx dx P pl fl : Addr) (a b c d : Int × Tok) (ln : Int) (tn : Tok) (fp : Value) (tw : Tok) (e e0 e1 e2 : Nat) (lo hi : Str) (tl th : Tok) (f : Bool → Bool → Bool → Bool) (fv : List Value) (n : Nat) (tz : Tok) (r0 r1 : Bool) (r' : List Bool)
    (hlt : LtS lo hi) (hn : (r0 :: r1 :: r').length = n) (hn3 : 3 ≤ n) (hn9 : n ≤ 100) (hfv : ∀ x y z, ∃ t, fv[(4 * b2i x + 2 * b2i y + b2i z).toNat]? = some (.int (b2i (f x y z)) t))
    (hpl : pl ≠ lx ∧ pl ≠ dx ∧ pl ≠ P) (hfl : fl ≠ lx ∧ fl ≠ dx ∧ fl ≠ P) (dp un : Nat) (gd : Option (List Code)) (outer : List Env) (base g : Heap) (L' : Addr) (s : Shared) (E : Value → Shared → Prop) (B : Below (Ar dp un gd outer) base outer g) (F : Fr g L' s.heap (fun y => ([("lexer", .ref lx), ("figures", .ref fl), ("pair", .ref pl), ("size", .int n tz)] : List (Str × Value)).reverse.lookup y)) (N : News g L' s.heap ((lexN lx dx P a b c d ln tn fp tw e ((r0 :: r1 :: r').map (Vd lo hi tl th)) e0))) (X : (Mine.hd.heap_1 w.params).In g) (T : Top topProg loose mean mg mb g) (hp : (fun h => h.get? pl = some (lstO [Vd lo hi tl th false, Vd lo hi tl th true] e1) ∧ h.get? fl = some (lstO fv e2) : Heap → Prop) g) (hlt' : ∀ p ∈ ((lexN lx dx P a b c d ln tn fp tw e ((r0 :: r1 :: r').map (Vd lo hi tl th)) e0) : List (Addr × Obj)), p.1 < L') (hd : dp + 30 < recursionLimit) (hu : un + 10 * 30 < cLine) : WalkK w 146 dp un gd outer g L' s (fun v now => v = .bool true ∧ ∃ e0', now = lexN lx dx P a b c d ln tn fp tw e ((outs f (r0 :: r1 :: r') n).map (Vd lo hi tl th)) e0') E := by
  exact Z_swept_H0_K.zall ⟨fun _ => w, fun _ => loose, fun _ => mean, fun i => [mg, mb].getD i mg, fun i => [lx, dx, P, pl, fl, L'].getD i lx, fun i => [e, e0, e1, e2, n, dp, un].getD i e, fun _ => ln, fun i => [tn, tw, tl, th, tz].getD i tn, fun _ => fp, fun i => [lo, hi].getD i lo, anyD.fO, fun i => [base, g].getD i base, fun _ => s, fun _ => fv, anyD.fLi, anyD.fLn, fun _ => r', anyD.fLed, anyD.fQ, fun _ => E, fun i => [r0, r1].getD i r0, fun i => [a, b, c, d].getD i a, anyD.fAv, fun _ => f, fun _ => gd, fun _ => outer, anyD.fAr, anyD.fOv, anyD.fOp, anyD.fLa, anyD.fEnv, anyD.fSs, anyD.fSt, anyD.fSc, anyD.fP, anyD.fEx, anyD.fR, anyD.fPo, anyD.fCl, anyD.fY, anyD.fRR, anyD.fBB, anyD.fNl, anyD.fOa, anyD.fFd, anyD.fAo, anyD.fDe, anyD.fIv⟩ hlt hn hn3 hn9 hfv hpl hfl B F N X T hp hlt' hd hu

theorem swept_H0 (w : World) (loose : List Str) (mean : ExcName → Option Value) (mg mb : Str → Option Value) (lx dx P pl fl : Addr) (a b c d : Int × Tok) (ln : Int) (tn : Tok) (fp : Value) (tw : Tok) (e e0 e1 e2 : Nat) (lo hi : Str) (tl th : Tok) (f : Bool → Bool → Bool → Bool) (fv : List Value) (n : Nat) (tz : Tok) (r0 r1 : Bool) (r' : List Bool)
    (hlt : LtS lo hi) (hn : (r0 :: r1 :: r').length = n) (hn3 : 3 ≤ n) (hn9 : n ≤ 100) (hfv : ∀ x y z, ∃ t, fv[(4 * b2i x + 2 * b2i y + b2i z).toNat]? = some (.int (b2i (f x y z)) t))
    (hpl : pl ≠ lx ∧ pl ≠ dx ∧ pl ≠ P) (hfl : fl ≠ lx ∧ fl ≠ dx ∧ fl ≠ P) :
  HC w loose mean mg mb 30 146 [.ref lx, .ref fl, .ref pl, .int n tz] (lexN lx dx P a b c d ln tn fp tw e ((r0 :: r1 :: r').map (Vd lo hi tl th)) e0)
   (fun h => h.get? pl = some (lstO [Vd lo hi tl th false, Vd lo hi tl th true] e1) ∧ h.get? fl = some (lstO fv e2))
   (fun v now => v = .bool true ∧ ∃ e0', now = lexN lx dx P a b c d ln tn fp tw e ((outs f (r0 :: r1 :: r') n).map (Vd lo hi tl th)) e0') := by
  unfold HC; k_fill
  refine' enterH (pre' := fun h => h.get? pl = some (lstO [Vd lo hi tl th false, Vd lo hi tl th true] e1) ∧ h.get? fl = some (lstO fv e2)) (binds := [("lexer", .ref lx), ("figures", .ref fl), ("pair", .ref pl), ("size", .int n tz)]) ?k6 ?k7 ?k9 ?kB ?kP ?kW ?c5 ?c2 ?c3 ?c4 ?c6
  k_extra "mine enter"
  · rintro h g ⟨h1, h2⟩ k
    refine ⟨k _ _ h1 fun p hp => ?_, k _ _ h2 fun p hp => ?_⟩
    · rcases List.mem_cons.mp hp with rfl | hp
      · exact Ne.symm hpl.1
      · rcases List.mem_cons.mp hp with rfl | hp
        · exact Ne.symm hpl.2.1
        · rw [List.mem_singleton.mp hp]; exact Ne.symm hpl.2.2
    · rcases List.mem_cons.mp hp with rfl | hp
      · exact Ne.symm hfl.1
      · rcases List.mem_cons.mp hp with rfl | hp
        · exact Ne.symm hfl.2.1
        · rw [List.mem_singleton.mp hp]; exact Ne.symm hfl.2.2
  intro dp un gd outer base g L' s E B F N X T hp hlt' hd hu
  exact walkB_of (by k_is) (swept_H0_K w loose mean mg mb lx dx P pl fl a b c d ln tn fp tw e e0 e1 e2 lo hi tl th f fv n tz r0 r1 r' hlt hn hn3 hn9 hfv hpl hfl dp un gd outer base g L' s E B F N X T hp hlt' hd hu)

theorem swept_H (w : World) (loose : List Str) (mean : ExcName → Option Value) (mg mb : Str → Option Value) (lx dx P pl fl : Addr) (a b c d : Int × Tok) (ln : Int) (tn : Tok) (fp : Value) (tw : Tok) (e e0 e1 e2 : Nat) (lo hi : Str) (tl th : Tok) (f : Bool → Bool → Bool → Bool) (fv : List Value) (n : Nat) (tz : Tok) (q : Bool × Bool) (r : List Bool)
    (hlt : LtS lo hi) (hn : r.length = n) (hn3 : 3 ≤ n) (hn9 : n ≤ 100) (hfv : ∀ x y z, ∃ t, fv[(4 * b2i x + 2 * b2i y + b2i z).toNat]? = some (.int (b2i (f x y z)) t))
    (hpl : pl ≠ lx ∧ pl ≠ dx ∧ pl ≠ P) (hfl : fl ≠ lx ∧ fl ≠ dx ∧ fl ≠ P) :
  HC w loose mean mg mb 30 146 [.ref lx, .ref fl, .ref pl, .int n tz] (lexN lx dx P a b c d ln tn fp tw e (r.map (Vd lo hi tl th)) e0)
   (fun h => h.get? pl = some (lstO [Vd lo hi tl th false, Vd lo hi tl th true] e1) ∧ h.get? fl = some (lstO fv e2))
   (fun v now => v = .bool true ∧ ∃ e0', now = lexN lx dx P a b c d ln tn fp tw e ((outs f r n).map (Vd lo hi tl th)) e0') := by
  obtain ⟨r0, r1, r', hr⟩ : ∃ r0 r1 r', r = r0 :: r1 :: r' := by
    match r, hn with
    | [], h => simp at h; omega
    | [_], h => simp at h; omega
    | x :: y :: z, _ => exact ⟨x, y, z, rfl⟩
  subst hr
  exact swept_H0 w loose mean mg mb lx dx P pl fl a b c d ln tn fp tw e e0 e1 e2 lo hi tl th f fv n tz r0 r1 r' hlt hn hn3 hn9 hfv hpl hfl
end
end
section
noncomputable def BodyC (w : World) (loose : List Str) (mean : ExcName → Option Value) (mg mb : Str → Option Value) (n : Nat) (f : Addr) (qual : Str) (body : List Stmt) (scope : Scope) (cdv : Value) (binds : List (Str × Value)) (touch : List (Addr × Obj)) (pre : Heap → Prop) (Post : Value → List (Addr × Obj) → Prop) : Prop :=
  ∀ (dp un : Nat) (gd : Option (List Code)) (outer : List Env) (base g : Heap) (L' : Addr) (s : Shared) (E : Value → Shared → Prop) (cells : List (Addr × Obj)),
    Below (Ar dp un gd outer) base outer g → Fr g L' s.heap (bindL (envOfC qual scope L' f cdv).kindOf binds fun _ => none) → News g L' s.heap (cells ++ touch) → CellsAre (bindC (envOfC qual scope L' f cdv).kindOf binds fun _ => none) (cellsFrom (L' + 1) scope.names []) cells →
    (Mine.hd.heap_1 w.params).In g → Top topProg loose mean mg mb g → pre g → (∀ p ∈ touch, p.1 < L') →
    dp + n < recursionLimit → un + 10 * n < cLine →
    wpAny (model PySem.Challenge.rw_wo0016_01.prog w) ((Ar dp un gd outer).deeper (envOfC qual scope L' f cdv)) (execs body (envOfC qual scope L' f cdv))
        (fun fl s' => LeaveH g s Post (match fl with | .ret v => v | _ => .none) s')
        (fun e s' => wpAny (model PySem.Challenge.rw_wo0016_01.prog w) ((Ar dp un gd outer).deeper (envOfC qual scope L' f cdv)) (leaving (envOfC qual scope L' f cdv) e) (fun _ s'' => E e s'') (fun e' s'' => E e' s'') s') s

theorem enterC {w : World} {loose : List Str} {mean : ExcName → Option Value} {mg mb : Str → Option Value} {n : Nat} {f : Addr} {vs : List Value} {touch : List (Addr × Obj)} {pre pre' : Heap → Prop} {Post : Value → List (Addr × Obj) → Prop}
    {name qual : Str} {params : Arguments} {body : List Stmt} {scope : Scope} {dV kV doc pm cdv ct oc : Value} {an od : Option Addr} {osl : Array (Option Value)} {binds : List (Str × Value)}
    (ho : (Mine.hd.heap_1 w.params).lookup f = some ⟨oc, od, .func (fnOf name qual params body scope dV kV doc pm an cdv ct), osl⟩) (hcd : codeIn (Mine.hd.heap_1 w.params) cdv qual = true)
    (hbind : ∀ s, BindsTo s (fnOf name qual params body scope dV kV doc pm an cdv ct) ⟨vs, []⟩ binds)
    (hkind : (binds.all fun y => scope.names.lookup y.1 == some .local || scope.names.lookup y.1 == some .cell) = true)
    (hnd : ((cellsFrom 0 scope.names []).map (·.1)).Nodup)
    (hpre : ∀ h g : Heap, pre h → (∀ b o, h.get? b = some o → (∀ p ∈ touch, p.1 ≠ b) → g.get? b = some o) → pre' g)
    (hb : BodyC w loose mean mg mb n f qual body scope cdv binds touch pre' Post)
    (hco : scope.isCoroutine = false) (hgen : scope.isGenerator = false) (hk : scope.kind = .function) (hn : 0 < n) :
    HClaim PySem.Challenge.rw_wo0016_01 Mine.hd.heap_1 w loose mean mg mb n f vs touch pre Post := by
  intro A A₀ env outer base h₀ L m s R B F X N T hh hA hf hke hdp hun hp hret
  obtain ⟨FG, BG, st, _⟩ := groundX (R := fun _ _ => True) B F N hA hf hke
  have ho' := (X.keeps F.keep) _ _ ho
  have kp : ∀ b o, s.heap.get? b = some o → (∀ p ∈ touch, p.1 ≠ b) → (hideAll s.heap (touch.map (·.1))).get? b = some o := fun b o e nb => hideAll_get _ e fun q => by
    obtain ⟨p, hp, hpb⟩ := List.mem_map.mp q
    exact nb p hp hpb
  refine codeAny_call_function (by omega) ho' rfl hco hgen rfl (codeRec_of (X.keeps F.keep) hcd) (hbind s _ _ _ _ ?_)
  refine wpAny_newFunctionEnv_cells hk (kindsX hkind _) fun env' he s' x => ?_
  subst he
  refine ⟨(T.nolimit.keeps F.keep).keeps x.toInCall.keep, codeAny_func ?_⟩
  obtain ⟨h₁, tk, rfl, _⟩ := x.done
  have hk₁ := x.toInCall.keep
  obtain ⟨cells, NC, Y⟩ := Cl.news (h₀ := s.heap) (Nat.le_refl _) fun n c hm => ⟨x.cell n c (lookup_of_mem_nodup (cellsFrom_names scope.names 0 (s.heap.objs.size + 1) [] [] rfl ▸ hnd) hm), x.above n c hm⟩
  have NN : News (hideAll s.heap (touch.map (·.1))) s.heap.objs.size h₁ (cells ++ touch) := fun p hp => by
    rcases List.mem_append.mp hp with hp | hp
    · refine ⟨(NC p hp).1, (NC p hp).2.1, ?_⟩
      cases q : (hideAll s.heap (touch.map (·.1))).get? p.1 with
      | none => rfl
      | some o => have := of_hideAll _ q; rw [(NC p hp).2.2] at this; cases this
    · exact ⟨hk₁ _ _ (N p hp).1, Nat.ne_of_lt (Heap.lt_size (N p hp).1), hideAll_none _ (List.mem_map_of_mem hp)⟩
  have eA := ar_of hh hA
  generalize A.depth = dp at *
  generalize A.units = un at *
  generalize A.guards = gd at *
  subst eA
  refine wpAny_mono (hb dp un gd (env :: outer) base (hideAll s.heap (touch.map (·.1))) s.heap.objs.size { s with heap := h₁, toks := tk } (fun e s'' => R (.error e) s'') cells BG
    ⟨x.toInCall.ns, fun b o e => hk₁ b o (of_hideAll _ e), Nat.le_of_eq (hideAll_size _ _)⟩ NN Y (X.keeps (fun b o e => st b o e)) (T.keeps (fun b o e => st b o e)) (hpre _ _ hp kp) (fun p hp => Heap.lt_size (N p hp).1) hdp hun) (fun fl s' hl => ?_) (fun _ _ h => h)
  obtain ⟨L', m', now, ⟨h', tk', rfl⟩, F', N', P⟩ := hl
  dsimp only at F' N'
  refine hret _ now h' tk' P ⟨?_, fun b o e nb => F'.keep b o (kp b o e nb), fun p hp => (N' p hp).1, fun p hp => ?_⟩
  · obtain ⟨oL, _, _, hL, _⟩ := F'.ns
    exact Nat.le_trans (Nat.le_trans (Nat.le_of_eq (hideAll_size _ _).symm) F'.above) (Nat.le_of_lt (Heap.lt_size hL))
  · by_cases q : ∃ q ∈ touch, q.1 = p.1
    · exact .inl q
    · refine .inr ?_
      cases e : s.heap.get? p.1 with
      | none => rfl
      | some o =>
        have := (N' p hp).2.2
        rw [kp p.1 o e fun y hy hq => q ⟨y, hy, hq⟩] at this
        cases this
inductive SignsAre : List Value → List Nat → Prop
  | nil : SignsAre [] []
  | cons (c : Nat) (t : Tok) {vs : List Value} {cs : List Nat} : SignsAre vs cs → SignsAre (Value.str ⟨#[c]⟩ t :: vs) (c :: cs)
theorem signs_of : ∀ {vs : List Value} {cs : List Nat}, vs.length = cs.length → (∀ (j : Nat) (v : Value), vs[j]? = some v → ∃ (c : Nat) (u : Tok), cs[j]? = some c ∧ v = Value.str ⟨#[c]⟩ u) → SignsAre vs cs
  | [], [], _, _ => .nil
  | [], _ :: _, h, _ => by simp at h
  | _ :: _, [], h, _ => by simp at h
  | v :: vs, c :: cs, h, k => by
    obtain ⟨c', u, e1, e2⟩ := k 0 v rfl
    cases e1
    subst e2
    exact .cons c u (signs_of (by simpa using h) fun j v hj => k (j + 1) v hj)
theorem SignsAre.length {vs : List Value} {cs : List Nat} (h : SignsAre vs cs) : vs.length = cs.length := by
  induction h with
  | nil => rfl
  | cons c t _ ih => simp [ih]
theorem list_str_K {prog : Program} {w : World} {A : Around} {E : Value → Shared → Prop} {s : Shared} {h₀ : Heap} {L : Addr} {m : Str → Option Value} {news : List (Addr × Obj)} {x : Str} {t : Tok} {Q : Value → Shared → Prop} (hh : A.handled = none) (F : Fr h₀ L s.heap m) (N : News h₀ L s.heap news) (hx : x.cps.size ≤ 1000000)
    (h : ∀ D c' ys h' tk', SignsAre ys x.cps.toList → Fr h₀ L h' m → News h₀ L h' ((D, lstO ys c') :: news) → (∀ p ∈ news, p.1 < D) → Q (.ref D) { s with heap := h', toks := tk' }) : wpAny (model prog w) A (call (.type "list") [.str x t]) Q E s := by
  refine call_list_str hh x t (hn := by rw [sizeLine_eq]; omega) fun h' tk acc' c' hk hS' hacc => ?_
  refine h _ c' acc'.toList h' tk (signs_of (by simpa using hacc.1) fun j v hv => ?_) (F.keeps hk) (fun p hp => ?_) (fun p hp => Heap.lt_size (N p hp).1)
  · obtain ⟨c, u, hc, rfl⟩ := hacc.2 j v (by simpa using hv)
    exact ⟨c, u, by simpa using hc, rfl⟩
  · rcases List.mem_cons.mp hp with rfl | hp
    · refine ⟨by simpa using hS', ?_, ?_⟩
      · obtain ⟨oL, _, _, hL, _⟩ := F.ns
        exact Nat.ne_of_gt (Heap.lt_size hL)
      · cases e : h₀.get? s.heap.objs.size with
        | none => rfl
        | some o => exact absurd (Heap.lt_size (F.keep _ _ e)) (Nat.lt_irrefl _)
    · exact ⟨hk _ _ (N p hp).1, (N p hp).2⟩

noncomputable def BodyX (l : OpenLaw) (K : Params → Frag) (w : World) (loose : List Str) (mean : ExcName → Option Value) (mg mb : Str → Option Value) (n : Nat) (f : Addr) (qual : Str) (body : List Stmt) (scope : Scope) (cl : List (Str × Addr)) (cdv : Value) (binds : List (Str × Value)) (touch : List (Addr × Obj)) (pre : Heap → Prop) (Post : Value → List (Addr × Obj) → Prop) : Prop :=
  ∀ (dp un : Nat) (gd : Option (List Code)) (outer : List Env) (base g : Heap) (L' : Addr) (s : Shared) (E : Value → Shared → Prop),
    Below (Ar dp un gd outer) base outer g → Fr g L' s.heap (fun y => binds.reverse.lookup y) → News g L' s.heap touch → (K w.params).In g → Top topProg loose mean mg mb g → pre g → (∀ p ∈ touch, p.1 < L') →
    dp + n < recursionLimit → un + 10 * n < cLine →
    wpAny (model l.prog w) ((Ar dp un gd outer).deeper (envX qual scope L' f cdv cl)) (execs body (envX qual scope L' f cdv cl))
        (fun fl s' => LeaveH g s Post (match fl with | .ret v => v | _ => .none) s')
        (fun e s' => wpAny (model l.prog w) ((Ar dp un gd outer).deeper (envX qual scope L' f cdv cl)) (leaving (envX qual scope L' f cdv cl) e) (fun _ s'' => E e s'') (fun e' s'' => E e' s'') s') s
theorem enterX {w : World} {loose : List Str} {mean : ExcName → Option Value} {mg mb : Str → Option Value} {n : Nat} {f : Addr} {vs : List Value} {touch : List (Addr × Obj)} {pre pre' : Heap → Prop} {Post : Value → List (Addr × Obj) → Prop}
    {name qual : Str} {params : Arguments} {body : List Stmt} {scope : Scope} {cl : List (Str × Addr)} {dV kV doc pm cdv ct : Value} {an : Option Addr} {fo : Obj} {binds : List (Str × Value)}
    (hfo : (f, fo) ∈ touch) (hcr : ∀ h : Heap, (∀ p ∈ touch, h.get? p.1 = some p.2) → h.CodeRec cdv qual) (hd : fo.data = .func (fnX name qual params body scope cl dV kV doc pm an cdv ct))
    (hbind : ∀ s, BindsTo s (fnX name qual params body scope cl dV kV doc pm an cdv ct) ⟨vs, []⟩ binds) (hloc : ∀ y ∈ binds, scope.names.lookup y.1 = some .local)
    (hpre : ∀ h g : Heap, pre h → (∀ b o, h.get? b = some o → (∀ p ∈ touch, p.1 ≠ b) → g.get? b = some o) → pre' g)
    (hb : BodyX PySem.Challenge.rw_wo0016_01 Mine.hd.heap_1 w loose mean mg mb n f qual body scope cl cdv binds touch pre' Post)
    (hcell : ∀ x ∈ scope.names, x.2 ≠ .cell) (hco : scope.isCoroutine = false) (hgen : scope.isGenerator = false) (hk : scope.kind = .function) (hn : 0 < n) :
    HC w loose mean mg mb n f vs touch pre Post := by
  intro A A₀ env outer base h₀ L m s R B F X N T hh hA hf hke hdp hun hp hret
  obtain ⟨FG, BG, st, _⟩ := groundX (R := fun _ _ => True) B F N hA hf hke
  have ho' := (N _ hfo).1
  refine codeAny_call_def (fd := fnX name qual params body scope cl dV kV doc pm an cdv ct) (body := body) (binds := binds) (by omega) ho' hd (T.nolimit.keeps F.keep) (hcr _ (fun p hp => (N p hp).1)) rfl (hbind s) hcell hloc (fun h₁ hns hk₁ => ?_) hco hgen hk
  have kp : ∀ b o, s.heap.get? b = some o → (∀ p ∈ touch, p.1 ≠ b) → (hideAll s.heap (touch.map (·.1))).get? b = some o := fun b o e nb => hideAll_get _ e fun q => by
    obtain ⟨p, hp, hpb⟩ := List.mem_map.mp q
    exact nb p hp hpb
  have Nn : News (hideAll s.heap (touch.map (·.1))) s.heap.objs.size h₁ touch := fun p hp => ⟨hk₁ _ _ (N p hp).1, Nat.ne_of_lt (Heap.lt_size (N p hp).1), hideAll_none _ (List.mem_map_of_mem hp)⟩
  have eA := ar_of hh hA
  generalize A.depth = dp at *
  generalize A.units = un at *
  generalize A.guards = gd at *
  subst eA
  refine wpAny_mono (hb dp un gd (env :: outer) base (hideAll s.heap (touch.map (·.1))) s.heap.objs.size { s with heap := h₁, toks := s.toks + binds.length } (fun e s'' => R (.error e) s'') BG
    ⟨hns, fun b o e => hk₁ b o (of_hideAll _ e), Nat.le_of_eq (hideAll_size _ _)⟩ Nn (X.keeps (fun b o e => st b o e)) (T.keeps (fun b o e => st b o e)) (hpre _ _ hp kp) (fun p hp => Heap.lt_size (N p hp).1) hdp hun) (fun fl s' hl => ?_) (fun _ _ h => h)
  obtain ⟨L', m', now, ⟨h', tk', rfl⟩, F', N', P⟩ := hl
  dsimp only at F' N'
  refine hret _ now h' tk' P ⟨?_, fun b o e nb => F'.keep b o (kp b o e nb), fun p hp => (N' p hp).1, fun p hp => ?_⟩
  · obtain ⟨oL, _, _, hL, _⟩ := F'.ns
    exact Nat.le_trans (Nat.le_trans (Nat.le_of_eq (hideAll_size _ _).symm) F'.above) (Nat.le_of_lt (Heap.lt_size hL))
  · by_cases q : ∃ q ∈ touch, q.1 = p.1
    · exact .inl q
    · refine .inr ?_
      cases e : s.heap.get? p.1 with
      | none => rfl
      | some o =>
        have := (N' p hp).2.2
        rw [kp p.1 o e fun y hy hq => q ⟨y, hy, hq⟩] at this
        cases this
theorem eq_nil_K {prog : Program} {w : World} {A : Around} {E : Value → Shared → Prop} {s : Shared} {h₀ : Heap} {L l b : Addr} {news : List (Addr × Obj)} {y : Value} {ys : List Value} {e e' : Nat} {Q : Value → Shared → Prop} (N : News h₀ L s.heap news) (h1 : (l, lstO (y :: ys) e) ∈ news) (h2 : (b, lstO [] e') ∈ news) (hu : A.units < cLine)
    (h : Q (.bool false) s) : wpAny (model prog w) A (compareOp .Eq (.ref l) (.ref b)) Q E s :=
  PySem.SeqAt.eq_list_lengthsAt (items := (y :: ys).toArray) (items2 := #[]) ⟨_, (N _ h1).1, rfl, _, rfl⟩ ⟨_, (N _ h2).1, rfl, _, rfl⟩ (by simp) hu h
theorem codeRec_h {h : Heap} {c : Addr} {oc : Obj} {vs : Array Value} {qual : Str} {t : Tok} {news : List (Addr × Obj)} (hm : (c, oc) ∈ news) (hd : oc.data = .fields vs) (hv : vs[1]? = some (.str qual t)) (k : ∀ p ∈ news, h.get? p.1 = some p.2) : h.CodeRec (.ref c) qual :=
  ⟨c, oc, vs, t, rfl, k _ hm, hd, hv⟩
noncomputable def TakeOk (w : World) (loose : List Str) (mean : ExcName → Option Value) (mg mb : Str → Option Value) (tf sg : Addr) (rest : List (Addr × Obj)) : Prop :=
  ∀ (xs : List Value) (e : Nat) (t : Tok), xs.length < 1000000 → HC w loose mean mg mb 20 tf [.int 1 t] ((sg, lstO xs e) :: rest) (fun _ => True)
    (fun v now => match xs with
      | [] => (∃ u, v = Value.str (Str.ofString "") u) ∧ now = (sg, lstO xs e) :: rest
      | x :: xs' => v = x ∧ now = (sg, lstO xs' (e + 1)) :: rest)
noncomputable def Apart (l : List Addr) (rest : List (Addr × Obj)) : Prop := ∀ p ∈ rest, ∀ a ∈ l, p.1 ≠ a
inductive FeedIn (x2 tf : Addr) (rest : List (Addr × Obj)) : Prop
  | mk (d2 : Addr) (es : List DictEntry) (n2 : Nat) (oc : Value) (od : Option Addr) (fd : FuncData) (sl : Array (Option Value)) (h1 : (x2, instObj 52 d2) ∈ rest) (h2 : (d2, dictOf es n2) ∈ rest) (h3 : getL (Str.ofString "read") es = some (some (.ref tf))) (h4 : (tf, (⟨oc, od, .func fd, sl⟩ : Obj)) ∈ rest) : FeedIn x2 tf rest
inductive LexerAt (w : World) (loose : List Str) (mean : ExcName → Option Value) (mg mb : Str → Option Value) (cs : List Nat) (v : Value) (now : List (Addr × Obj)) : Prop
  | mk (lx dx P : Addr) (a b c d : Int × Tok) (tn tw : Tok) (x2 tf : Addr) (ys : List Value) (c' : Nat) (sg : Addr) (rest : List (Addr × Obj)) (hv : v = Value.ref lx) (hs : SignsAre ys cs) (hn : now = lexN lx dx P a b c d 1 tn (.ref x2) tw 4 [] 0 ++ (sg, lstO ys c') :: rest)
    (hf : FeedIn x2 tf rest) (hk : TakeOk w loose mean mg mb tf sg rest) (ha : Apart [lx, dx, P, sg] rest) (hg : sg ≠ lx ∧ sg ≠ dx ∧ sg ≠ P) (hp : ∃ ps, (100, tabObj ps) ∈ rest) : LexerAt w loose mean mg mb cs v now
theorem apart7 {lx dx P tf c' l2 x2 d2 sg cl : Addr} (h1 : @LT.lt Nat _ 100 cl) (h2 : @LT.lt Nat _ cl sg) (h3 : @LT.lt Nat _ sg d2) (h4 : @LT.lt Nat _ d2 x2) (h5 : @LT.lt Nat _ x2 l2) (h6 : @LT.lt Nat _ l2 c') (h7 : @LT.lt Nat _ c' tf) (h8 : @LT.lt Nat _ tf dx) (h9 : @LT.lt Nat _ dx lx) (h10 : @LT.lt Nat _ lx P) :
    (∀ q ∈ ([tf, c', l2, x2, d2, cl, 100] : List Addr), ∀ z ∈ [lx, dx, P, sg], @Ne Nat q z) ∧ (@Ne Nat sg lx ∧ @Ne Nat sg dx ∧ @Ne Nat sg P) := by
  have k7 := Nat.lt_trans h7 h8
  have k6 := Nat.lt_trans h6 k7
  have k5 := Nat.lt_trans h5 k6
  have k4 := Nat.lt_trans h4 k5
  have k3 := Nat.lt_trans h3 k4
  have k2 := Nat.lt_trans h2 k3
  have k1 := Nat.lt_trans h1 k2
  have s4 := Nat.lt_trans h3 h4
  have s5 := Nat.lt_trans s4 h5
  have s6 := Nat.lt_trans s5 h6
  have s7 := Nat.lt_trans s6 h7
  have s1 := Nat.lt_trans h1 h2
  have u := Nat.lt_trans h9 h10
  have f : ∀ q : Addr, @LT.lt Nat _ q dx → @Ne Nat q sg → ∀ z ∈ [lx, dx, P, sg], @Ne Nat q z := fun q hq hs =>
    List.forall_mem_cons.mpr ⟨Nat.ne_of_lt (Nat.lt_trans hq h9), List.forall_mem_cons.mpr ⟨Nat.ne_of_lt hq, List.forall_mem_cons.mpr ⟨Nat.ne_of_lt (Nat.lt_trans hq u), List.forall_mem_cons.mpr ⟨hs, List.forall_mem_nil _⟩⟩⟩⟩
  exact ⟨List.forall_mem_cons.mpr ⟨f _ h8 (Nat.ne_of_gt s7), List.forall_mem_cons.mpr ⟨f _ k7 (Nat.ne_of_gt s6), List.forall_mem_cons.mpr ⟨f _ k6 (Nat.ne_of_gt s5), List.forall_mem_cons.mpr ⟨f _ k5 (Nat.ne_of_gt s4), List.forall_mem_cons.mpr ⟨f _ k4 (Nat.ne_of_gt h3),
    List.forall_mem_cons.mpr ⟨f _ k2 (Nat.ne_of_lt h2), List.forall_mem_cons.mpr ⟨f _ k1 (Nat.ne_of_lt s1), List.forall_mem_nil _⟩⟩⟩⟩⟩⟩⟩, Nat.ne_of_lt (Nat.lt_trans k3 h9), Nat.ne_of_lt k3, Nat.ne_of_lt (Nat.lt_trans k3 u)⟩
theorem sub_now {lx dx P tf c' l2 x2 d2 sg cl : Addr} {a b c d : Int × Tok} {tn tw : Tok} {fo oc o2 ox od ocl ot : Obj} {ys : List Value} {cc : Nat} :
    ∀ p ∈ lexN lx dx P a b c d 1 tn (.ref x2) tw 4 [] 0 ++ (sg, lstO ys cc) :: [(tf, fo), (c', oc), (l2, o2), (x2, ox), (d2, od), (cl, ocl), (100, ot)],
     p ∈ [(P, lstO [] 0), (lx, instObj 52 dx), (dx, dictOf (lexD a b c d 1 tn (.ref x2) tw P) 4), (tf, fo), (c', oc), (l2, o2), (x2, ox), (d2, od), (sg, lstO ys cc), (cl, ocl), (100, ot)] :=
  have m := fun {α : Type} {x : α} {l : List α} => List.Mem.head (a := x) l
  List.forall_mem_cons.mpr ⟨.tail _ m, List.forall_mem_cons.mpr ⟨.tail _ (.tail _ m), List.forall_mem_cons.mpr ⟨m, List.forall_mem_cons.mpr ⟨.tail _ (.tail _ (.tail _ (.tail _ (.tail _ (.tail _ (.tail _ (.tail _ m))))))), List.forall_mem_cons.mpr ⟨.tail _ (.tail _ (.tail _ m)),
    List.forall_mem_cons.mpr ⟨.tail _ (.tail _ (.tail _ (.tail _ m))), List.forall_mem_cons.mpr ⟨.tail _ (.tail _ (.tail _ (.tail _ (.tail _ m)))), List.forall_mem_cons.mpr ⟨.tail _ (.tail _ (.tail _ (.tail _ (.tail _ (.tail _ m))))),
    List.forall_mem_cons.mpr ⟨.tail _ (.tail _ (.tail _ (.tail _ (.tail _ (.tail _ (.tail _ m)))))), List.forall_mem_cons.mpr ⟨.tail _ (.tail _ (.tail _ (.tail _ (.tail _ (.tail _ (.tail _ (.tail _ (.tail _ m)))))))),
    List.forall_mem_cons.mpr ⟨.tail _ (.tail _ (.tail _ (.tail _ (.tail _ (.tail _ (.tail _ (.tail _ (.tail _ (.tail _ m))))))))), List.forall_mem_nil _⟩⟩⟩⟩⟩⟩⟩⟩⟩⟩⟩
theorem lexer_end {w : World} {loose : List Str} {mean : ExcName → Option Value} {mg mb : Str → Option Value} {g : Heap} {s₀ : Shared} {h' : Heap} {tk' : Nat} {L' : Addr} {m' : Str → Option Value} {cs : List Nat} {ys : List Value} {lx dx P tf c' l2 x2 d2 sg cl : Addr} {a b c d : Int × Tok} {tn tw : Tok} {fo oc o2 ocl ot : Obj} {fcl : Value} {fod : Option Addr} {fd : FuncData} {fsl : Array (Option Value)} {es : List DictEntry} {n2 cc : Nat}
    (F : Fr g L' h' m') (N : News g L' h' [(P, lstO [] 0), (lx, instObj 52 dx), (dx, dictOf (lexD a b c d 1 tn (.ref x2) tw P) 4), (tf, fo), (c', oc), (l2, o2), (x2, instObj 52 d2), (d2, dictOf es n2), (sg, lstO ys cc), (cl, ocl), (100, ot)])
    (hY : SignsAre ys cs) (hfo : fo = ⟨fcl, fod, .func fd, fsl⟩) (hot : ∃ ps, ot = tabObj ps) (hr : getL (Str.ofString "read") es = some (some (.ref tf))) (hk : TakeOk w loose mean mg mb tf sg [(tf, fo), (c', oc), (l2, o2), (x2, instObj 52 d2), (d2, dictOf es n2), (cl, ocl), (100, ot)])
    (h1 : @LT.lt Nat _ 100 cl) (h2 : @LT.lt Nat _ cl sg) (h3 : @LT.lt Nat _ sg d2) (h4 : @LT.lt Nat _ d2 x2) (h5 : @LT.lt Nat _ x2 l2) (h6 : @LT.lt Nat _ l2 c') (h7 : @LT.lt Nat _ c' tf) (h8 : @LT.lt Nat _ tf dx) (h9 : @LT.lt Nat _ dx lx) (h10 : @LT.lt Nat _ lx P) :
    LeaveH g s₀ (LexerAt w loose mean mg mb cs) (.ref lx) { s₀ with heap := h', toks := tk' } := by
  refine leaveH (now := lexN lx dx P a b c d 1 tn (.ref x2) tw 4 [] 0 ++ (sg, lstO ys cc) :: [(tf, fo), (c', oc), (l2, o2), (x2, instObj 52 d2), (d2, dictOf es n2), (cl, ocl), (100, ot)]) F (fun p hp => N p (sub_now p hp)) ?_
  subst hfo
  obtain ⟨ps9, hot⟩ := hot
  have ap := apart7 h1 h2 h3 h4 h5 h6 h7 h8 h9 h10
  exact ⟨lx, dx, P, a, b, c, d, tn, tw, x2, tf, ys, cc, sg, _, rfl, hY, rfl, ⟨d2, es, n2, fcl, fod, fd, fsl, by simp, by simp, hr, by simp⟩, hk, fun p hp z hz => ap.1 p.1 (List.mem_map_of_mem (f := Prod.fst) hp) z hz, ap.2, ⟨ps9, by rw [← hot]; exact .tail _ (.tail _ (.tail _ (.tail _ (.tail _ (.tail _ (.head _))))))⟩⟩
end
section
noncomputable abbrev BodyCM (w : World) (loose : List Str) (mean : ExcName → Option Value) (mg mb : Str → Option Value) (n : Nat) (f : Addr) (qual : Str) (body : List Stmt) (scope : Scope) (cdv : Value) (binds : List (Str × Value)) (touch : List (Addr × Obj)) (pre : Heap → Prop) (Post : Value → List (Addr × Obj) → Prop)
  (dp un : Nat) (gd : Option (List Code)) (outer : List Env) (base g : Heap) (L' : Addr) (s : Shared) (E : Value → Shared → Prop) (cells : List (Addr × Obj)) : Prop :=
    Below (Ar dp un gd outer) base outer g → Fr g L' s.heap (bindL (envOfC qual scope L' f cdv).kindOf binds fun _ => none) → News g L' s.heap (cells ++ touch) → CellsAre (bindC (envOfC qual scope L' f cdv).kindOf binds fun _ => none) (cellsFrom (L' + 1) scope.names []) cells →
    (Mine.hd.heap_1 w.params).In g → Top topProg loose mean mg mb g → pre g → (∀ p ∈ touch, p.1 < L') →
    dp + n < recursionLimit → un + 10 * n < cLine →
    wpAny (model PySem.Challenge.rw_wo0016_01.prog w) ((Ar dp un gd outer).deeper (envOfC qual scope L' f cdv)) (execs body (envOfC qual scope L' f cdv))
        (fun fl s' => LeaveH g s Post (match fl with | .ret v => v | _ => .none) s')
        (fun e s' => wpAny (model PySem.Challenge.rw_wo0016_01.prog w) ((Ar dp un gd outer).deeper (envOfC qual scope L' f cdv)) (leaving (envOfC qual scope L' f cdv) e) (fun _ s'' => E e s'') (fun e' s'' => E e' s'') s') s
noncomputable def WalkC (w : World) (loose : List Str) (mean : ExcName → Option Value) (mg mb : Str → Option Value) (n : Nat) (f : Addr) (binds : List (Str × Value)) (touch : List (Addr × Obj)) (pre : Heap → Prop) (Post : Value → List (Addr × Obj) → Prop)
  (dp un : Nat) (gd : Option (List Code)) (outer : List Env) (base g : Heap) (L' : Addr) (s : Shared) (E : Value → Shared → Prop) (cells : List (Addr × Obj)) : Prop :=
  match (Mine.hd.heap_1 w.params).lookup f with
  | some o => (match o.data with
    | .func fd => (match fd.body with
      | .stmts body => BodyCM w loose mean mg mb n f fd.qualname body fd.scope fd.code binds touch pre Post dp un gd outer base g L' s E cells
      | _ => True)
    | _ => True)
  | none => True
section
variable {w : World} {loose : List Str} {mean : ExcName → Option Value} {mg mb : Str → Option Value} {n : Nat} {f : Addr} {binds : List (Str × Value)} {touch : List (Addr × Obj)} {pre : Heap → Prop} {Post : Value → List (Addr × Obj) → Prop}
  {dp un : Nat} {gd : Option (List Code)} {outer : List Env} {base g : Heap} {L' : Addr} {s : Shared} {E : Value → Shared → Prop} {cells : List (Addr × Obj)}
  {name qual : Str} {params : Arguments} {body : List Stmt} {scope : Scope} {dV kV doc pm cdv ct oc : Value} {an od : Option Addr} {osl : Array (Option Value)}
theorem walkC_of (ho : (Mine.hd.heap_1 w.params).lookup f = some ⟨oc, od, .func (fnOf name qual params body scope dV kV doc pm an cdv ct), osl⟩) (h : BodyCM w loose mean mg mb n f qual body scope cdv binds touch pre Post dp un gd outer base g L' s E cells) :
    WalkC w loose mean mg mb n f binds touch pre Post dp un gd outer base g L' s E cells := by
  unfold WalkC
  rw [ho]
  exact h
theorem bodyC_of (ho : (Mine.hd.heap_1 w.params).lookup f = some ⟨oc, od, .func (fnOf name qual params body scope dV kV doc pm an cdv ct), osl⟩) (h : WalkC w loose mean mg mb n f binds touch pre Post dp un gd outer base g L' s E cells) :
    BodyCM w loose mean mg mb n f qual body scope cdv binds touch pre Post dp un gd outer base g L' s E cells := by
  unfold WalkC at h
  rw [ho] at h
  exact h
end
end
section



section
namespace Z_lexer_H_K
noncomputable def zP (w : World) (loose : List Str) (mean : ExcName → Option Value) (mg : Str → Option Value) (mb : Str → Option Value) (x : Str) (tx : Tok) (dp : Nat) (un : Nat) (gd : Option (List Code)) (outer : List Env) (base : Heap) (g : Heap) (L' : Addr) (s : Shared) (E : Value → Shared → Prop) : Prop := ∀ (hx : x.cps.size ≤ 1000000), ∀ cells : List (Addr × Obj), WalkC w loose mean mg mb 30 105 [("text", .str x tx)] [(100, tabObj #[])] (fun h => CodeHd h 104 100) (LexerAt w loose mean mg mb x.cps.toList) dp un gd outer base g L' s E cells
noncomputable def zk : DD := pickD fun c => zP (c.fW 0) (c.fLs 0) (c.fMe 0) (c.fMp 0) (c.fMp 1) (c.fS 0) (c.fT 0) (c.fN 0) (c.fN 1) (c.fGd 0) (c.fEn 0) (c.fH 0) (c.fH 1) (c.fA 0) (c.fSh 0) (c.fE 0)
noncomputable section
@[irreducible] def w : World := zk.fW 0
@[irreducible] def loose : List Str := zk.fLs 0
@[irreducible] def mean : ExcName → Option Value := zk.fMe 0
@[irreducible] def mg : Str → Option Value := zk.fMp 0
@[irreducible] def mb : Str → Option Value := zk.fMp 1
@[irreducible] def x : Str := zk.fS 0
@[irreducible] def tx : Tok := zk.fT 0
@[irreducible] def dp : Nat := zk.fN 0
@[irreducible] def un : Nat := zk.fN 1
@[irreducible] def gd : Option (List Code) := zk.fGd 0
@[irreducible] def outer : List Env := zk.fEn 0
@[irreducible] def base : Heap := zk.fH 0
@[irreducible] def g : Heap := zk.fH 1
@[irreducible] def L' : Addr := zk.fA 0
@[irreducible] def s : Shared := zk.fSh 0
@[irreducible] def E : Value → Shared → Prop := zk.fE 0
end
theorem zcore : zP w loose mean mg mb x tx dp un gd outer base g L' s E := by
  k_with "x1" => skip
  k_with "compareOp Eq ref ref" => ((fail_if_success k_extra "x3"); k_here; k_dflt (refine' eq_nil_K (by assumption) (by k_mem) (by k_mem) (by k_units) ?_))
  k_with "call builtin:list.pop" => ((fail_if_success k_extra "x3"); k_here; (with_reducible show wpAny _ _ (call (Value.builtin _) [Value.ref _, Value.int 0 _]) _ _ _); k_dflt (refine' pop0_K (by k_asm) (by k_asm) (by k_upd) (by omega) ?_); intro _ _ _)
  k_with "call type:list" => ((fail_if_success k_extra "x3"); k_here; k_dflt ((show wpAny _ _ (call (Value.type "list") [Value.str _ _]) _ _ _); refine' list_str_K (by exact rfl) (by assumption) (by assumption) (by assumption) ?_; intro _ _ _ _ _ _ _ _ l1; (try k_lt l1); revert l1; intro _))
  k_with "call ref" => ((fail_if_success k_extra "x3"); k_here; k_dflt ((show wpAny _ _ (call (Value.ref 52) _) _ _ _); refine hold_of ?_))
  k_with "mine make" => ((fail_if_success k_extra "x3"); (unfold Hold; (rename News _ _ _ _ => NN9); (try simp only [List.cons_append, List.nil_append] at NN9); revert NN9; intro _; (refine' call_cls (by k_asm) (by k_asm) (by k_asm) (by k_is) (by k_is) (by k_is) ?_; k_whole; intro _ _ _ _ _ l1 l2; (try k_lt l1); (try k_lt2 l2); revert l1 l2; intro _ _; (try k_sweep); k_enter)))
  unfold zP
  intro hx
  intro cells
  have _ : PySem.Challenge.rw_wo0016_01 = PySem.Challenge.rw_wo0016_01 ∧ Mine.hd.heap_1 = Mine.hd.heap_1 := by k_fill; exact ⟨rfl, rfl⟩
  refine' walkC_of ?k6 ?_; (case k6 => k_is)
  intro B F N Y X T hp hlt hd hu
  have uT : UseT1 := trivial
  have h100 : @LT.lt Nat _ 100 L' := hlt _ (List.Mem.head _)
  k_cells Y
  (try simp only [List.cons_append, List.nil_append] at N)
  k_steps
  k_extra "mine make"
  have hp' : CodeHd g 104 100 := hp
  clear hp
  k_steps
  k_extra "mine make"
  k_steps
  refine' lexer_end (a := (_, _)) (b := (_, _)) (c := (_, _)) (d := (_, _)) (by assumption) ?hN ?hY ?hfo ?hot ?hr ?hk ?h1 ?h2 ?h3 ?h4 ?h5 ?h6 ?h7 ?h8 ?h9 ?h10
  case hN => rename News _ _ _ _ => NN; exact NN
  case hY => assumption
  case hfo => exact rfl
  case hot => exact ⟨_, rfl⟩
  case hr => rfl
  case hk =>
    intro xs e9 t9 hx9
    cases xs with
    | nil =>
      refine' enterX (pre' := fun _ => True) (binds := [("size", Value.int 1 t9)]) ?hfo ?hcr ?hd ?hbind ?hloc ?hpre ?hb ?hcell ?hco ?hgen ?hk ?hn
      case hfo => k_mem
      case hd => exact rfl
      case hcr => exact fun h k => codeRec_h (by k_mem) (by assumption) (by assumption) k
      case hbind => exact fun _ => BindsTo.of_eq rfl
      case hloc => exact locs rfl
      case hpre => exact fun _ _ h _ => h
      case hcell => decide
      case hco => rfl
      case hgen => rfl
      case hk => rfl
      case hn => decide
      case hb =>
        intro dp un gd outer base g L' s E B F N X T hp hlt hd hu
        k_steps
        refine leaveH (by assumption) (cb_drop (by assumption) ?_) ⟨⟨_, rfl⟩, rfl⟩
        exact fun p hp => List.mem_cons_of_mem _ hp
    | cons y ys =>
      refine' enterX (pre' := fun _ => True) (binds := [("size", Value.int 1 t9)]) ?hfo ?hcr ?hd ?hbind ?hloc ?hpre ?hb ?hcell ?hco ?hgen ?hk ?hn
      case hfo => k_mem
      case hd => exact rfl
      case hcr => exact fun h k => codeRec_h (by k_mem) (by assumption) (by assumption) k
      case hbind => exact fun _ => BindsTo.of_eq rfl
      case hloc => exact locs rfl
      case hpre => exact fun _ _ h _ => h
      case hcell => decide
      case hco => rfl
      case hgen => rfl
      case hk => rfl
      case hn => decide
      case hb =>
        intro dp un gd outer base g L' s E B F N X T hp hlt hd hu
        simp only [List.length_cons] at hx9
        k_steps
        refine leaveH (by assumption) (cb_drop (by assumption) ?_) ⟨rfl, rfl⟩
        exact fun p hp => List.mem_cons_of_mem _ hp
  all_goals omega
theorem zall : ∀ c : DD, zP (c.fW 0) (c.fLs 0) (c.fMe 0) (c.fMp 0) (c.fMp 1) (c.fS 0) (c.fT 0) (c.fN 0) (c.fN 1) (c.fGd 0) (c.fEn 0) (c.fH 0) (c.fH 1) (c.fA 0) (c.fSh 0) (c.fE 0) := allD (by with_unfolding_all exact zcore)
end Z_lexer_H_K
theorem lexer_H_K (w : World) (loose : List Str) (mean : ExcName → Option Value) (mg mb : Str → Option Value) (x : Str) (tx : Tok) (hx : x.cps.size ≤ 1000000) (dp un : Nat) (gd : Option (List Code)) (outer : List Env) (base g : Heap) (L' : Addr) (s : Shared) (E : Value → Shared → Prop) : ∀ cells : List (Addr × Obj), WalkC w loose mean mg mb 30 105 [("text", .str x tx)] [(100, tabObj #[])] (fun h => CodeHd h 104 100) (LexerAt w loose mean mg mb x.cps.toList) dp un gd outer base g L' s E cells := by
  exact Z_lexer_H_K.zall ⟨fun _ => w, fun _ => loose, fun _ => mean, fun i => [mg, mb].getD i mg, fun _ => L', fun i => [dp, un].getD i dp, anyD.fI, fun _ => tx, anyD.fV, fun _ => x, anyD.fO, fun i => [base, g].getD i base, fun _ => s, anyD.fLv, anyD.fLi, anyD.fLn, anyD.fLb, anyD.fLed, anyD.fQ, fun _ => E, anyD.fB, anyD.fIt, anyD.fAv, anyD.fB3, fun _ => gd, fun _ => outer, anyD.fAr, anyD.fOv, anyD.fOp, anyD.fLa, anyD.fEnv, anyD.fSs, anyD.fSt, anyD.fSc, anyD.fP, anyD.fEx, anyD.fR, anyD.fPo, anyD.fCl, anyD.fY, anyD.fRR, anyD.fBB, anyD.fNl, anyD.fOa, anyD.fFd, anyD.fAo, anyD.fDe, anyD.fIv⟩ hx

theorem lexer_H (w : World) (loose : List Str) (mean : ExcName → Option Value) (mg mb : Str → Option Value) (x : Str) (tx : Tok) (hx : x.cps.size ≤ 1000000) : HC w loose mean mg mb 30 105 [.str x tx] [(100, tabObj #[])] (fun h => CodeHd h 104 100) (LexerAt w loose mean mg mb x.cps.toList) := by
  unfold HC; k_fill
  refine' enterC (pre' := fun h => CodeHd h 104 100) (binds := [("text", .str x tx)]) ?k6 ?k7 ?k9 ?kB ?kD ?kP ?kW ?c2 ?c3 ?c4 ?c6
  (case k6 => k_is); (case k7 => k_is); (case k9 => exact fun _ => BindsTo.of_eq rfl); (case kB => exact rfl); (case kD => decide +kernel); (case c2 => exact rfl); (case c3 => exact rfl); (case c4 => exact rfl); (case c6 => decide)
  · rintro h g ⟨o, vs, file, tf, flags, tg, inF, text, tt, e1, r1, r2, r3, r4, r5, r6, r7, r8, hne⟩ k
    exact ⟨o, vs, file, tf, flags, tg, inF, text, tt, k _ _ e1 fun p hp => by rw [List.mem_singleton.mp hp]; decide, r1, r2, r3, r4, r5, r6, r7, r8, hne⟩
  exact fun dp un gd outer base g L' s E cells => bodyC_of (by k_is) (lexer_H_K w loose mean mg mb x tx hx dp un gd outer base g L' s E cells)

end
end
section
theorem apart_ne {l : List Addr} {rest : List (Addr × Obj)} (h : Apart l rest) {a : Addr} (ha : a ∈ l) : ∀ p ∈ rest, p.1 ≠ a := fun p hp => h p hp a ha
section
theorem feed_method {w : World} {A : Around} {h₀ : Heap} {L : Addr} {m : Str → Option Value} {s : Shared} {E : Value → Shared → Prop} {news rest : List (Addr × Obj)} {x2 tf : Addr} {pl : Sem Bool} {Q : Value × List Value → Shared → Prop} (F : Fr h₀ L s.heap m) (X₀ : (Mine.hd.heap_1 w.params).In h₀) (N : News h₀ L s.heap news) (hF : FeedIn x2 tf rest) (hs : ∀ p ∈ rest, p ∈ news)
    (hg : plainGet (Mine.hd.heap_1 w.params) 52 (Str.ofString "read") = true) (hh : hasDictIn (Mine.hd.heap_1 w.params) 52 = true) (hf : findIn (Mine.hd.heap_1 w.params) (.ref 52) (Str.ofString "read") = some none)
    (h : Q (.ref tf, []) { s with toks := s.toks + 1 }) : wpAny (model PySem.Challenge.rw_wo0016_01.prog w) A (getMethod (.ref x2) (Str.ofString "read") pl) Q E s := by
  obtain ⟨d2, es, n2, oc, od, fd, sl, h1, h2, h3, h4⟩ := hF
  have I : InstAt s.heap x2 (instObj 52 d2) 52 (some (dictOf es n2)) := InstAt.of_news N (hs _ h1) (hs _ h2)
  have pg := plainGet_of hg
  exact method_usual (X₀.keeps F.keep) I pg.1 pg.2 hf rfl (get_own F X₀ I hg hh hf rfl h3 rfl h)
theorem feed_fn {h₀ : Heap} {L : Addr} {news rest : List (Addr × Obj)} {x2 tf : Addr} {h : Heap} (N : News h₀ L h news) (hF : FeedIn x2 tf rest) (hs : ∀ p ∈ rest, p ∈ news) : FnAt tf h := by
  obtain ⟨d2, es, n2, oc, od, fd, sl, h1, h2, h3, h4⟩ := hF
  exact ⟨oc, od, fd, sl, (N _ (hs _ h4)).1⟩
theorem useTake {w : World} {loose : List Str} {mean : ExcName → Option Value} {mg mb : Str → Option Value} {A A₀ : Around} {env : Env} {outer : List Env} {base h₀ : Heap} {L : Addr} {m : Str → Option Value} {s : Shared} {rest : List (Addr × Obj)} {tf : Addr} {lx dx P sg : Addr} {a b c d : Int × Tok} {ln : Int} {tn : Tok} {fp : Value} {tw : Tok} {e e1 e2 : Nat} {xs : List Value} {y : Value} {ys : List Value} {t : Tok} {Q : Value → Shared → Prop}
    (C : TakeOk w loose mean mg mb tf sg rest) (hl : ys.length < 999999)
    (B : Below A₀ base outer h₀) (F : Fr h₀ L s.heap m) (X : (Mine.hd.heap_1 w.params).In h₀) (N : News h₀ L s.heap (lexN lx dx P a b c d ln tn fp tw e xs e1 ++ (sg, lstO (y :: ys) e2) :: rest)) (T : Top topProg loose mean mg mb h₀)
    (hh : A.handled = none) (hA : A.frames = some (env :: outer)) (hf : env.frame = some L) (hk : env.scope.kind = .function) (hd : A.depth + 20 < recursionLimit) (hu : A.units + 10 * 20 < cLine) (hap : Apart [lx, dx, P, sg] rest) (hg : sg ≠ lx ∧ sg ≠ dx ∧ sg ≠ P)
    (h : ∀ h' tk', Fr h₀ L h' m → News h₀ L h' (lexN lx dx P a b c d ln tn fp tw e xs e1 ++ (sg, lstO ys (e2 + 1)) :: rest) → Q y { s with heap := h', toks := tk' }) :
    wpAny (model PySem.Challenge.rw_wo0016_01.prog w) A (call (.ref tf) [.int 1 t]) Q E s := by
  refine useH (C (y :: ys) e2 t (by simp only [List.length_cons]; omega)) B F X N T hh hA hf hk hd hu (fun p hp => List.mem_append_right _ hp) trivial ?_
  rintro _ _ h' tk' ⟨rfl, rfl⟩ F' _ _ K
  refine h h' tk' F' (K _ fun p hp => ?_)
  rcases List.mem_append.mp hp with q | q
  · refine .inr ⟨List.mem_append_left _ q, fun z hz => ?_⟩
    have hq : p.1 = lx ∨ p.1 = dx ∨ p.1 = P := by
      simp only [lexN, List.mem_cons, List.not_mem_nil, or_false] at q
      rcases q with q | q | q <;> subst q <;> simp
    rcases List.mem_cons.mp hz with rfl | hz
    · rcases hq with q | q | q <;> rw [q]
      · exact hg.1
      · exact hg.2.1
      · exact hg.2.2
    · rcases hq with q | q | q <;> rw [q]
      · exact hap z hz _ (by simp)
      · exact hap z hz _ (by simp)
      · exact hap z hz _ (by simp)
  · exact .inl q
theorem useTake0 {w : World} {loose : List Str} {mean : ExcName → Option Value} {mg mb : Str → Option Value} {A A₀ : Around} {env : Env} {outer : List Env} {base h₀ : Heap} {L : Addr} {m : Str → Option Value} {s : Shared} {rest : List (Addr × Obj)} {tf : Addr} {lx dx P sg : Addr} {a b c d : Int × Tok} {ln : Int} {tn : Tok} {fp : Value} {tw : Tok} {e e1 e2 : Nat} {xs : List Value} {t : Tok} {Q : Value → Shared → Prop}
    (C : TakeOk w loose mean mg mb tf sg rest)
    (B : Below A₀ base outer h₀) (F : Fr h₀ L s.heap m) (X : (Mine.hd.heap_1 w.params).In h₀) (N : News h₀ L s.heap (lexN lx dx P a b c d ln tn fp tw e xs e1 ++ (sg, lstO [] e2) :: rest)) (T : Top topProg loose mean mg mb h₀)
    (hh : A.handled = none) (hA : A.frames = some (env :: outer)) (hf : env.frame = some L) (hk : env.scope.kind = .function) (hd : A.depth + 20 < recursionLimit) (hu : A.units + 10 * 20 < cLine) (hap : Apart [lx, dx, P, sg] rest) (hg : sg ≠ lx ∧ sg ≠ dx ∧ sg ≠ P)
    (h : ∀ u h' tk', Fr h₀ L h' m → News h₀ L h' (lexN lx dx P a b c d ln tn fp tw e xs e1 ++ (sg, lstO [] e2) :: rest) → Q (Value.str (Str.ofString "") u) { s with heap := h', toks := tk' }) :
    wpAny (model PySem.Challenge.rw_wo0016_01.prog w) A (call (.ref tf) [.int 1 t]) Q E s := by
  refine useH (C [] e2 t (by simp)) B F X N T hh hA hf hk hd hu (fun p hp => List.mem_append_right _ hp) trivial ?_
  rintro _ _ h' tk' ⟨⟨u, rfl⟩, rfl⟩ F' _ _ K
  refine h u h' tk' F' (K _ fun p hp => ?_)
  rcases List.mem_append.mp hp with q | q
  · refine .inr ⟨List.mem_append_left _ q, fun z hz => ?_⟩
    have hq : p.1 = lx ∨ p.1 = dx ∨ p.1 = P := by
      simp only [lexN, List.mem_cons, List.not_mem_nil, or_false] at q
      rcases q with q | q | q <;> subst q <;> simp
    rcases List.mem_cons.mp hz with rfl | hz
    · rcases hq with q | q | q <;> rw [q]
      · exact hg.1
      · exact hg.2.1
      · exact hg.2.2
    · rcases hq with q | q | q <;> rw [q]
      · exact hap z hz _ (by simp)
      · exact hap z hz _ (by simp)
      · exact hap z hz _ (by simp)
  · exact .inl q
theorem set_lineno {w : World} {h₀ : Heap} {L : Addr} {m : Str → Option Value} {s : Shared} {lx dx P : Addr} {a b c d : Int × Tok} {ln ln' : Int} {tn tn' : Tok} {fp : Value} {tw : Tok} {e e1 : Nat} {xs : List Value} {more : List (Addr × Obj)} {Q : Unit → Shared → Prop}
    (F : Fr h₀ L s.heap m) (X₀ : (Mine.hd.heap_1 w.params).In h₀) (N : News h₀ L s.heap (lexN lx dx P a b c d ln tn fp tw e xs e1 ++ more)) (hm : ∀ p ∈ more, p.1 ≠ dx)
    (hs : findIn (Mine.hd.heap_1 w.params) (.ref 52) "__setattr__" = some (some (.builtin "object.__setattr__"))) (hp : plainOver (Mine.hd.heap_1 w.params) 52 = true) (ht : takerIn (Mine.hd.heap_1 w.params) 52 (Str.ofString "lineno") = some none) (hh : hasDictIn (Mine.hd.heap_1 w.params) 52 = true)
    (h : ∀ h', Fr h₀ L h' m → News h₀ L h' (lexN lx dx P a b c d ln' tn' fp tw e xs e1 ++ more) → Q () { s with heap := h', toks := s.toks + 2 }) :
    wpAny (model PySem.Challenge.rw_wo0016_01.prog w) A (setAttr (.ref lx) (Str.ofString "lineno") (.int ln' tn')) Q E s := by
  obtain ⟨n1, n2, n3⟩ := lexN_ne (fun p hp => N p (List.mem_append_left _ hp))
  have I : InstAt s.heap lx (instObj 52 dx) 52 (some (dictOf (lexD a b c d ln tn fp tw P) e)) := InstAt.of_news N (by simp) (by simp)
  refine set_dict (es' := lexD a b c d ln' tn' fp tw P) (n' := e) F X₀ N I rfl hs hp ht hh rfl rfl (Upd.tail n1 (Upd.head ?_)) (by simp) h
  intro p hp
  rcases List.mem_cons.mp hp with rfl | hp
  · exact Ne.symm n3
  · exact hm p hp
end
section
theorem read0_H (w : World) (loose : List Str) (mean : ExcName → Option Value) (mg mb : Str → Option Value) (lx dx P sg x2 tf : Addr) (a b c d : Int × Tok) (ln : Int) (tn : Tok) (tw : Tok) (e e1 e2 : Nat) (xs : List Value) (rest : List (Addr × Obj)) (hF : FeedIn x2 tf rest) (hT : TakeOk w loose mean mg mb tf sg rest) (hap : Apart [lx, dx, P, sg] rest) (hg : sg ≠ lx ∧ sg ≠ dx ∧ sg ≠ P) :
  HC w loose mean mg mb 30 35 [.ref lx] (lexN lx dx P a b c d ln tn (.ref x2) tw e xs e1 ++ (sg, lstO [] e2) :: rest) (fun _ => True)
   (fun r now => (∃ u, r = Value.str (Str.ofString "") u) ∧ now = lexN lx dx P a b c d ln tn (.ref x2) tw e xs e1 ++ (sg, lstO [] e2) :: rest) := by
  k_with "x3" => skip
  k_with "mine all" => ((fail_if_success k_extra "x4"); (refine apart_ne (by assumption) ?_; k_mem))
  k_with "getMethod ref" => ((fail_if_success k_extra "x4"); k_here; k_dflt ((show wpAny _ _ (getMethod (Value.ref _) (Str.ofString "read") _) _ _ _); refine' feed_method (by assumption) (by assumption) (by assumption) (by assumption) (by exact fun p hp => List.mem_append_right _ (List.Mem.tail _ hp)) (by k_is) (by k_is) (by k_is) ?_))
  k_with "callWith ref" => ((fail_if_success k_extra "x4"); k_here; k_dflt (refine' callWith_F (by exact feed_fn (by assumption) (by assumption) (fun p hp => List.mem_append_right _ (List.Mem.tail _ hp))) ?_; k_whole))
  k_with "FnAt" => ((fail_if_success k_extra "x4"); (k_dflt (exact feed_fn (by assumption) (by assumption) (fun p hp => List.mem_append_right _ (List.Mem.tail _ hp)))))
  k_with "call ref" => ((fail_if_success k_extra "x4"); k_here; k_dflt ((show wpAny _ _ (call (Value.ref _) [Value.int 1 _]) _ _ _); refine' useTake (by assumption) ?_ (by assumption) (by assumption) (by assumption) (by assumption) (by assumption) (by exact rfl) (by exact rfl) (by exact rfl) (by exact rfl) (by (simp only [depth_deeper, Ar]; omega)) (by (simp only [units_deeper, Ar]; omega)) (by assumption) (by assumption) ?_; (omega); intro _ _ _ _))
  k_with "call ref" => ((fail_if_success k_extra "x4"); k_here; k_dflt ((show wpAny _ _ (call (Value.ref _) [Value.int 1 _]) _ _ _); refine' useTake0 (by assumption) (by assumption) (by assumption) (by assumption) (by assumption) (by assumption) (by exact rfl) (by exact rfl) (by exact rfl) (by exact rfl) (by (simp only [depth_deeper, Ar]; omega)) (by (simp only [units_deeper, Ar]; omega)) (by assumption) (by assumption) ?_; intro _ _ _ _ _))
  k_with "setAttr ref" => ((fail_if_success k_extra "x4"); k_here; k_dflt (refine' set_lineno (by assumption) (by assumption) (by assumption) (by exact (List.forall_mem_cons.mpr ⟨And.left (And.right (by assumption)), apart_ne (by assumption) (by k_mem)⟩)) (by k_is) (by k_is) (by k_is) (by k_is) ?_; intro _ _ _))
  unfold HC; k_fill
  refine' enterH (pre' := fun _ => True) (binds := [("self", .ref lx)]) ?k6 ?k7 ?k9 ?kB ?kP ?kW ?c5 ?c2 ?c3 ?c4 ?c6
  k_extra "mine enter"
  (case kP => exact fun _ _ h _ => h)
  intro dp un gd outer base g L' s E B F N X T hp hlt hd hu
  k_steps
  exact leaveH (by assumption) (by assumption) ⟨⟨_, rfl⟩, rfl⟩
namespace Z_read1_H_K
noncomputable def zP (w : World) (loose : List Str) (mean : ExcName → Option Value) (mg : Str → Option Value) (mb : Str → Option Value) (lx : Addr) (dx : Addr) (P : Addr) (sg : Addr) (x2 : Addr) (tf : Addr) (a : Int × Tok) (b : Int × Tok) (c : Int × Tok) (d : Int × Tok) (ln : Int) (tn : Tok) (tw : Tok) (e : Nat) (e1 : Nat) (e2 : Nat) (xs : List Value) (rest : List (Addr × Obj)) (c0 : Nat) (t0 : Tok) (ys : List Value) (dp : Nat) (un : Nat) (gd : Option (List Code)) (outer : List Env) (base : Heap) (g : Heap) (L' : Addr) (s : Shared) (E : Value → Shared → Prop) : Prop := ∀ (hF : FeedIn x2 tf rest) (hT : TakeOk w loose mean mg mb tf sg rest) (hap : Apart [lx, dx, P, sg] rest) (hg : sg ≠ lx ∧ sg ≠ dx ∧ sg ≠ P) (hl : ys.length < 999999) (hln : 0 ≤ ln ∧ ln < 1000000) (B : Below (Ar dp un gd outer) base outer g) (F : Fr g L' s.heap (fun y => ([("self", .ref lx)] : List (Str × Value)).reverse.lookup y)) (N : News g L' s.heap ((lexN lx dx P a b c d ln tn (.ref x2) tw e xs e1 ++ (sg, lstO (Value.str ⟨#[c0]⟩ t0 :: ys) e2) :: rest))) (X : (Mine.hd.heap_1 w.params).In g) (T : Top topProg loose mean mg mb g) (hp : (fun _ => True : Heap → Prop) g) (hlt : ∀ p ∈ ((lexN lx dx P a b c d ln tn (.ref x2) tw e xs e1 ++ (sg, lstO (Value.str ⟨#[c0]⟩ t0 :: ys) e2) :: rest) : List (Addr × Obj)), p.1 < L') (hd : dp + 30 < recursionLimit) (hu : un + 10 * 30 < cLine), WalkK w 35 dp un gd outer g L' s (fun r now => r = Value.str ⟨#[c0]⟩ t0 ∧ ∃ tn', now = lexN lx dx P a b c d (if c0 = 10 then ln + 1 else ln) tn' (.ref x2) tw e xs e1 ++ (sg, lstO ys (e2 + 1)) :: rest) E
noncomputable def zk : DD := pickD fun c => zP (c.fW 0) (c.fLs 0) (c.fMe 0) (c.fMp 0) (c.fMp 1) (c.fA 0) (c.fA 1) (c.fA 2) (c.fA 3) (c.fA 4) (c.fA 5) (c.fIt 0) (c.fIt 1) (c.fIt 2) (c.fIt 3) (c.fI 0) (c.fT 0) (c.fT 1) (c.fN 0) (c.fN 1) (c.fN 2) (c.fLv 0) (c.fLed 0) (c.fN 3) (c.fT 2) (c.fLv 1) (c.fN 4) (c.fN 5) (c.fGd 0) (c.fEn 0) (c.fH 0) (c.fH 1) (c.fA 6) (c.fSh 0) (c.fE 0)
noncomputable section
@[irreducible] def w : World := zk.fW 0
@[irreducible] def loose : List Str := zk.fLs 0
@[irreducible] def mean : ExcName → Option Value := zk.fMe 0
@[irreducible] def mg : Str → Option Value := zk.fMp 0
@[irreducible] def mb : Str → Option Value := zk.fMp 1
@[irreducible] def lx : Addr := zk.fA 0
@[irreducible] def dx : Addr := zk.fA 1
@[irreducible] def P : Addr := zk.fA 2
@[irreducible] def sg : Addr := zk.fA 3
@[irreducible] def x2 : Addr := zk.fA 4
@[irreducible] def tf : Addr := zk.fA 5
@[irreducible] def a : Int × Tok := zk.fIt 0
@[irreducible] def b : Int × Tok := zk.fIt 1
@[irreducible] def c : Int × Tok := zk.fIt 2
@[irreducible] def d : Int × Tok := zk.fIt 3
@[irreducible] def ln : Int := zk.fI 0
@[irreducible] def tn : Tok := zk.fT 0
@[irreducible] def tw : Tok := zk.fT 1
@[irreducible] def e : Nat := zk.fN 0
@[irreducible] def e1 : Nat := zk.fN 1
@[irreducible] def e2 : Nat := zk.fN 2
@[irreducible] def xs : List Value := zk.fLv 0
@[irreducible] def rest : List (Addr × Obj) := zk.fLed 0
@[irreducible] def c0 : Nat := zk.fN 3
@[irreducible] def t0 : Tok := zk.fT 2
@[irreducible] def ys : List Value := zk.fLv 1
@[irreducible] def dp : Nat := zk.fN 4
@[irreducible] def un : Nat := zk.fN 5
@[irreducible] def gd : Option (List Code) := zk.fGd 0
@[irreducible] def outer : List Env := zk.fEn 0
@[irreducible] def base : Heap := zk.fH 0
@[irreducible] def g : Heap := zk.fH 1
@[irreducible] def L' : Addr := zk.fA 6
@[irreducible] def s : Shared := zk.fSh 0
@[irreducible] def E : Value → Shared → Prop := zk.fE 0
end
theorem zcore : zP w loose mean mg mb lx dx P sg x2 tf a b c d ln tn tw e e1 e2 xs rest c0 t0 ys dp un gd outer base g L' s E := by
  unfold zP
  intro hF hT hap hg hl hln B F N X T hp hlt hd hu
  have _ : PySem.Challenge.rw_wo0016_01 = PySem.Challenge.rw_wo0016_01 ∧ Mine.hd.heap_1 = Mine.hd.heap_1 := by k_fill; exact ⟨rfl, rfl⟩
  refine' walkK_of ?k6 ?_; (case k6 => k_is)
  have hne := lexN_ne (fun p hp => N p (List.mem_append_left _ hp))
  k_steps
  · have hq0 : ((⟨#[c0]⟩ : Str) == Str.ofString "\n") = true := by assumption
    have hq : (⟨#[c0]⟩ : Str) = Str.ofString "\n" := eq_of_beq hq0
    have hq2 := congrArg (fun x : Str => x.cps.toList) hq
    have hq3 : ([c0] : List Nat) = [10] := hq2
    have h10 : c0 = 10 := by simpa using hq3
    refine leaveH (by assumption) (by assumption) ?_
    exact ⟨rfl, _, by simp only [if_pos h10]; rfl⟩
  · have hq0 : ((⟨#[c0]⟩ : Str) == Str.ofString "\n") = false := by assumption
    have h10 : ¬ c0 = 10 := fun h => by rw [h] at hq0; exact absurd hq0 (by decide)
    refine leaveH (by assumption) (by assumption) ?_
    exact ⟨rfl, tn, by simp only [if_neg h10]; rfl⟩
theorem zall : ∀ c : DD, zP (c.fW 0) (c.fLs 0) (c.fMe 0) (c.fMp 0) (c.fMp 1) (c.fA 0) (c.fA 1) (c.fA 2) (c.fA 3) (c.fA 4) (c.fA 5) (c.fIt 0) (c.fIt 1) (c.fIt 2) (c.fIt 3) (c.fI 0) (c.fT 0) (c.fT 1) (c.fN 0) (c.fN 1) (c.fN 2) (c.fLv 0) (c.fLed 0) (c.fN 3) (c.fT 2) (c.fLv 1) (c.fN 4) (c.fN 5) (c.fGd 0) (c.fEn 0) (c.fH 0) (c.fH 1) (c.fA 6) (c.fSh 0) (c.fE 0) := allD (by with_unfolding_all exact zcore)
end Z_read1_H_K
theorem read1_H_K (w : World) (loose : List Str) (mean : ExcName → Option Value) (mg mb : Str → Option Value) (lx dx P sg x2 tf : Addr) (a b c d : Int × Tok) (ln : Int) (tn : Tok) (tw : Tok) (e e1 e2 : Nat) (xs : List Value) (rest : List (Addr × Obj)) (hF : FeedIn x2 tf rest) (hT : TakeOk w loose mean mg mb tf sg rest) (hap : Apart [lx, dx, P, sg] rest) (hg : sg ≠ lx ∧ sg ≠ dx ∧ sg ≠ P)
  (c0 : Nat) (t0 : Tok) (ys : List Value) (hl : ys.length < 999999) (hln : 0 ≤ ln ∧ ln < 1000000) (dp un : Nat) (gd : Option (List Code)) (outer : List Env) (base g : Heap) (L' : Addr) (s : Shared) (E : Value → Shared → Prop) (B : Below (Ar dp un gd outer) base outer g) (F : Fr g L' s.heap (fun y => ([("self", .ref lx)] : List (Str × Value)).reverse.lookup y)) (N : News g L' s.heap ((lexN lx dx P a b c d ln tn (.ref x2) tw e xs e1 ++ (sg, lstO (Value.str ⟨#[c0]⟩ t0 :: ys) e2) :: rest))) (X : (Mine.hd.heap_1 w.params).In g) (T : Top topProg loose mean mg mb g) (hp : (fun _ => True : Heap → Prop) g) (hlt : ∀ p ∈ ((lexN lx dx P a b c d ln tn (.ref x2) tw e xs e1 ++ (sg, lstO (Value.str ⟨#[c0]⟩ t0 :: ys) e2) :: rest) : List (Addr × Obj)), p.1 < L') (hd : dp + 30 < recursionLimit) (hu : un + 10 * 30 < cLine) : WalkK w 35 dp un gd outer g L' s (fun r now => r = Value.str ⟨#[c0]⟩ t0 ∧ ∃ tn', now = lexN lx dx P a b c d (if c0 = 10 then ln + 1 else ln) tn' (.ref x2) tw e xs e1 ++ (sg, lstO ys (e2 + 1)) :: rest) E := by
  exact Z_read1_H_K.zall ⟨fun _ => w, fun _ => loose, fun _ => mean, fun i => [mg, mb].getD i mg, fun i => [lx, dx, P, sg, x2, tf, L'].getD i lx, fun i => [e, e1, e2, c0, dp, un].getD i e, fun _ => ln, fun i => [tn, tw, t0].getD i tn, anyD.fV, anyD.fS, anyD.fO, fun i => [base, g].getD i base, fun _ => s, fun i => [xs, ys].getD i xs, anyD.fLi, anyD.fLn, anyD.fLb, fun _ => rest, anyD.fQ, fun _ => E, anyD.fB, fun i => [a, b, c, d].getD i a, anyD.fAv, anyD.fB3, fun _ => gd, fun _ => outer, anyD.fAr, anyD.fOv, anyD.fOp, anyD.fLa, anyD.fEnv, anyD.fSs, anyD.fSt, anyD.fSc, anyD.fP, anyD.fEx, anyD.fR, anyD.fPo, anyD.fCl, anyD.fY, anyD.fRR, anyD.fBB, anyD.fNl, anyD.fOa, anyD.fFd, anyD.fAo, anyD.fDe, anyD.fIv⟩ hF hT hap hg hl hln B F N X T hp hlt hd hu

theorem read1_H (w : World) (loose : List Str) (mean : ExcName → Option Value) (mg mb : Str → Option Value) (lx dx P sg x2 tf : Addr) (a b c d : Int × Tok) (ln : Int) (tn : Tok) (tw : Tok) (e e1 e2 : Nat) (xs : List Value) (rest : List (Addr × Obj)) (hF : FeedIn x2 tf rest) (hT : TakeOk w loose mean mg mb tf sg rest) (hap : Apart [lx, dx, P, sg] rest) (hg : sg ≠ lx ∧ sg ≠ dx ∧ sg ≠ P)
  (c0 : Nat) (t0 : Tok) (ys : List Value) (hl : ys.length < 999999) (hln : 0 ≤ ln ∧ ln < 1000000) :
  HC w loose mean mg mb 30 35 [.ref lx] (lexN lx dx P a b c d ln tn (.ref x2) tw e xs e1 ++ (sg, lstO (Value.str ⟨#[c0]⟩ t0 :: ys) e2) :: rest) (fun _ => True)
   (fun r now => r = Value.str ⟨#[c0]⟩ t0 ∧ ∃ tn', now = lexN lx dx P a b c d (if c0 = 10 then ln + 1 else ln) tn' (.ref x2) tw e xs e1 ++ (sg, lstO ys (e2 + 1)) :: rest) := by
  unfold HC; k_fill
  refine' enterH (pre' := fun _ => True) (binds := [("self", .ref lx)]) ?k6 ?k7 ?k9 ?kB ?kP ?kW ?c5 ?c2 ?c3 ?c4 ?c6
  k_extra "mine enter"
  (case kP => exact fun _ _ h _ => h)
  intro dp un gd outer base g L' s E B F N X T hp hlt hd hu
  exact walkB_of (by k_is) (read1_H_K w loose mean mg mb lx dx P sg x2 tf a b c d ln tn tw e e1 e2 xs rest hF hT hap hg c0 t0 ys hl hln dp un gd outer base g L' s E B F N X T hp hlt hd hu)

end
end
section
noncomputable abbrev ciO (bm : Addr) (tt : Tok) : Obj := { cls := .type "callable_iterator", data := .fields #[.ref bm, .str (Str.ofString "") tt, .bool false] }
noncomputable abbrev ciE : Obj := { cls := .type "callable_iterator", data := .fields #[.none, .none, .bool true] }
theorem slot_ci_next : Slot "callable_iterator" "__next__" "callable_iterator.__next__" :=
  .of (owner := "callable_iterator") (n := "__next__") (by rw [typeLookup_type, builtinLookup_eq_fast]; kernel_rfl) (by decide +kernel) (by decide +kernel) (by decide +kernel)
    (by first | exact .inl (by decide +kernel) | exact .inr (by decide +kernel)) (by rw [isSubtype_type]; kernel_rfl)
theorem slot_ci_iter : Slot "callable_iterator" "__iter__" "callable_iterator.__iter__" :=
  .of (owner := "callable_iterator") (n := "__iter__") (by rw [typeLookup_type, builtinLookup_eq_fast]; kernel_rfl) (by decide +kernel) (by decide +kernel) (by decide +kernel)
    (by first | exact .inl (by decide +kernel) | exact .inr (by decide +kernel)) (by rw [isSubtype_type]; kernel_rfl)
theorem entry_ci_next : entryFor table "callable_iterator.__next__" = some Builtin.«callable_iterator.__next__» := entryFor_of_fast (by kernel_rfl)
theorem entry_ci_iter : entryFor table "callable_iterator.__iter__" = some Builtin.«dict_keyiterator.__iter__» :=
  entryFor_alias (id' := "dict_keyiterator.__iter__") (by kernel_rfl) (by first | rfl | decide +kernel | (unfold String.splitOn; simp +decide [String.splitOnAux])) (by decide +kernel) (by kernel_rfl)
theorem args_ci_next (a : Value) : argsOk "callable_iterator.__next__" ⟨[a], []⟩ := by unfold argsOk; kernel_rfl
theorem args_ci_iter (a : Value) : argsOk "callable_iterator.__iter__" ⟨[a], []⟩ := by unfold argsOk; kernel_rfl
section
variable {prog : Program} {w : World} {A : Around} {E : Value → Shared → Prop} {s : Shared} {it bm f lx : Addr} {tt : Tok}
theorem ci_typeIs {o : Obj} (ho : s.heap.get? it = some o) (hc : o.cls = .type "callable_iterator") : s.TypeIs (.ref it) "callable_iterator" := ⟨o, ho, hc⟩
theorem iter_ci {Q : Value → Shared → Prop} {o : Obj} (ho : s.heap.get? it = some o) (hc : o.cls = .type "callable_iterator") (h : Q (.ref it) s) : wpAny (model prog w) A (pyIter (.ref it)) Q E s := by
  refine wpAny_pyIter_slot (ci_typeIs ho hc) slot_ci_iter (wpAny_call_entry slot_ci_iter (ci_typeIs ho hc) entry_ci_iter ?_ (args_ci_iter _))
  show wpAny _ _ (ret (Value.ref it)) _ _ _
  exact wpAny_pure ⟨_, rfl, "callable_iterator", _, ci_typeIs ho hc, slot_ci_next.lookup, h⟩
theorem borrows_method {fo : Addr} (hb : s.heap.get? bm = some (methodObj (.ref fo) (.ref lx))) (hf : FnAt fo s.heap) {Q : Bool → Shared → Prop} (h : Q true s) : wpAny (model prog w) A (borrowsExactly (.ref bm)) Q E s := by
  obtain ⟨oc, od, fd, sl, hf⟩ := hf
  unfold borrowsExactly
  refine wpAny_bind (wpAny_load hb ?_)
  show wpAny _ _ (load fo >>= _) _ _ _
  refine wpAny_bind (wpAny_load hf ?_)
  exact wpAny_pure h
theorem stop_K {α : Type} (hh : A.handled = none) {Q : α → Shared → Prop} (hE : ∀ e h', (∀ b o, s.heap.get? b = some o → h'.get? b = some o) → Shared.TypeIs { s with heap := h' } e "StopIteration" → E e { s with heap := h' }) :
    wpAny (model prog w) A (PySem.Builtin.SmallTypes.stopIteration : Sem α) Q E s := by
  show wpAny _ _ (newExc (.type "StopIteration") [] >>= _) _ _ _
  refine wpAny_bind ?_
  simp only [newExc, newTuple]
  refine wpAny_bind (wpAny_newObj_type ?_ (by size_fits))
  refine wpAny_bind (m := firstArgMember _ _) (wpAny_of_eq (a := Value.none) (by first | rfl | (simp only [firstArgMember]; rfl)) ?_)
  refine wpAny_newObj_type ?_ (by size_fits)
  simp only [raiseNew]
  refine wpAny_bind (wpAny_handled ?_)
  rw [hh]
  refine wpAny_bind (wpAny_pure (wpAny_throw ?_))
  exact hE _ _ (fun b o e => by have := Nat.ne_of_lt (Heap.lt_size e); rw [Heap.get?_push_ne _ _ _ (by rw [Heap.objs_push]; have := Heap.lt_size e; simp only [Array.size_push]; exact Nat.ne_of_lt (Nat.lt_succ_of_lt this)), Heap.get?_push_ne _ _ _ this]; exact e) ⟨_, Heap.get?_push_size _ rfl, rfl⟩
theorem next_ci_ended {Q : Option Value → Shared → Prop} (hh : A.handled = none) (ho : s.heap.get? it = some ciE) (hQ : ∀ h', (∀ b o, s.heap.get? b = some o → h'.get? b = some o) → Q none { s with heap := h' }) :
    wpAny (model prog w) A (pyNext (.ref it)) Q E s := by
  unfold pyNext
  refine wpAny_bind (wpAny_attempt (wpAny_callSpecial?_slot (name := Str.ofString "__next__") (ci_typeIs ho rfl) slot_ci_next
    (wpAny_call_entry slot_ci_next (ci_typeIs ho rfl) entry_ci_next ?_ (args_ci_next _))))
  show wpAny _ _ (field (.ref it) 2 >>= _) _ _ s
  refine wpAny_bind (wpAny_field ho rfl (x := .bool true) rfl ?_)
  show wpAny _ _ (rule _ >>= _) _ _ _
  refine wpAny_bind (wpAny_rule ?_)
  refine wpAny_bind (stop_K (A := A.in1) hh fun e h' k T => ?_)
  refine wpAny_bind (wpAny_isInstance T isSubtype_stop ?_)
  exact wpAny_pure (hQ _ k)
theorem next_ci {Q : Option Value → Shared → Prop} {fo : Addr} (hh : A.handled = none) (ho : s.heap.get? it = some (ciO bm tt)) (hb : s.heap.get? bm = some (methodObj (.ref fo) (.ref lx))) (hf : FnAt fo s.heap)
    (hc : codeAny (model prog w) A.in1 (.call (.ref fo) ⟨[.ref lx], []⟩) (fun r s' => ∃ x t, r = .ok (.ret (.str x t)) ∧ s'.heap.get? it = some (ciO bm tt) ∧ s'.heap.get? bm = some (methodObj (.ref fo) (.ref lx)) ∧ FnAt fo s'.heap ∧
       (x ≠ Str.ofString "" → Q (some (.str x t)) s') ∧ (x = Str.ofString "" → ∀ h', Heap.ExtBut it s'.heap h' → h'.get? it = some ciE → Q none { s' with heap := h' })) s) :
    wpAny (model prog w) A (pyNext (.ref it)) Q E s := by
  k_with "x4" => skip
  unfold pyNext
  refine wpAny_bind (wpAny_attempt (wpAny_callSpecial?_slot (name := Str.ofString "__next__") (ci_typeIs ho rfl) slot_ci_next
    (wpAny_call_entry slot_ci_next (ci_typeIs ho rfl) entry_ci_next ?_ (args_ci_next _))))
  show wpAny _ _ (field (.ref it) 2 >>= _) _ _ s
  refine wpAny_bind (wpAny_field ho rfl (x := .bool false) rfl ?_)
  show wpAny _ _ (field (.ref it) 0 >>= _) _ _ s
  refine wpAny_bind (wpAny_field ho rfl (x := .ref bm) rfl ?_)
  refine wpAny_bind (wpAny_attempt ?_)
  unfold callOutOfASlot
  refine wpAny_bind (borrows_method hb hf ?_)
  show wpAny _ _ (callBorrowed (.ref bm) []) _ _ _
  unfold callBorrowed
  refine X.x_call (A := A.in1) ?_ (by intro x; cases x)
  rw [Around.mark_none]
  refine W.method_call hb ?_
  refine codeAny_mono hc (fun r s' hr => ?_)
  obtain ⟨x, t, rfl, ho', hb', hf', h1, h2⟩ := hr
  refine wpAny_pure ?_
  show wpAny _ _ (field (.ref it) 2 >>= _) _ _ s'
  refine wpAny_bind (wpAny_field ho' rfl (x := .bool false) rfl ?_)
  show wpAny _ _ (field (.ref it) 1 >>= _) _ _ s'
  refine wpAny_bind (wpAny_field ho' rfl (x := .str (Str.ofString "") tt) rfl ?_)
  refine wpAny_bind (wpAny_holding (wpAny_eqBool_str ?_))
  by_cases hx : x = Str.ofString ""
  · rw [decide_eq_true (by rw [hx])]
    show wpAny _ _ (rule _ >>= _) _ _ _
    refine wpAny_bind (wpAny_rule ?_)
    show wpAny _ _ ((field (.ref it) 0 >>= _) >>= _) _ _ _
    refine wpAny_bind (wpAny_bind (wpAny_field ho' rfl (x := .ref bm) rfl ?_))
    refine wpAny_bind ?_
    unfold slotLetsGo
    refine wpAny_bind (borrows_method hb' hf' ?_)
    refine wpAny_pure ?_
    refine wpAny_bind (wpAny_setField_rec ho' (Nat.zero_lt_succ 2) fun h1' e1 k1 => ?_)
    refine wpAny_bind (wpAny_setField_rec (s := { s' with heap := h1' }) e1 (Nat.lt_add_left 1 (Nat.lt_succ_self 1)) fun h2' e2 k2 => ?_)
    refine (wpAny_setField_rec (s := { s' with heap := h2' }) e2 (Nat.lt_succ_self 2) fun h3' e3 k3 => ?_)
    refine stop_K (A := A.in1) hh fun e h' k T => ?_
    refine wpAny_bind (wpAny_isInstance T isSubtype_stop ?_)
    exact wpAny_pure (h2 hx h' (fun b o nb e => k _ _ (k3.extBut b o nb (k2.extBut b o nb (k1.extBut b o nb e)))) (k _ _ e3))
  · rw [decide_eq_false (fun q => hx q.symm)]
    exact wpAny_pure ⟨_, rfl, wpAny_pure (h1 hx)⟩
end
end
section
theorem method_has_call : typeLookup (.type "method") (Str.ofString "__call__") = pure (some (.builtin "method.__call__")) := by
  rw [typeLookup_type, builtinLookup_eq_fast]; kernel_rfl
theorem args_iter2 (a b : Value) : argsOk "iter" ⟨[a, b], []⟩ := by unfold argsOk; kernel_rfl
theorem iter2_K {prog : Program} {w : World} {A : Around} {E : Value → Shared → Prop} {s : Shared} {h₀ : Heap} {L bm : Addr} {m : Str → Option Value} {news : List (Addr × Obj)} {f self : Value} {t : Tok} {x : Str} {Q : Value → Shared → Prop}
    (F : Fr h₀ L s.heap m) (N : News h₀ L s.heap news) (hp : (bm, methodObj f self) ∈ news)
    (h : ∀ (I : Addr) h', Fr h₀ L h' m → News h₀ L h' ((I, ⟨.type "callable_iterator", none, .fields #[.ref bm, .str x t, .bool false], #[]⟩) :: news) → (∀ p ∈ news, p.1 < I) → Q (.ref I) { s with heap := h' }) :
    wpAny (model prog w) A (call (.builtin "iter") [.ref bm, .str x t]) Q E s := by
  refine call_function_entry (by decide +kernel) (by decide +kernel) kdk_entry_iter (args_iter2 _ _) ?_
  unfold Builtin.«iter»
  refine wpAny_bind (m := someArgs "iter" 1 2 _) (wpAny_of_eq (a := [Value.ref bm, Value.str x t]) (by first | rfl | kernel_rfl!) ?_)
  show wpAny _ _ (specialOf (.ref bm) "__call__" >>= _) _ _ _
  refine wpAny_bind (wpAny_specialOf (T := "method") ⟨_, (N _ hp).1, rfl⟩ method_has_call ?_)
  show wpAny _ _ (rule _ >>= _) _ _ _
  refine wpAny_bind (wpAny_rule ?_)
  refine wpAny_bind (wpAny_newObj_type ?_ (by size_fits))
  exact wpAny_pure ⟨_, rfl, h _ _ (F.push _) (News.push F N _ rfl) (fun q hq => Heap.lt_size (N q hq).1)⟩
noncomputable def isWs (c : Nat) : Bool := c == 10 || c == 9 || c == 13 || c == 32
noncomputable def tokP (acc : List Nat) : List Nat → List Nat × List Nat
  | [] => (acc, [])
  | c :: cs => if isWs c then (acc, cs) else if c = 92 then (match cs with | [] => (acc, []) | d :: ds => tokP (acc ++ [d]) ds) else tokP (acc ++ [c]) cs
noncomputable def tokQ (acc : List Nat) : List Nat → List Nat × List Nat
  | [] => (acc, [])
  | c :: cs => if c = 34 then (acc, cs) else if c = 92 then (match cs with | [] => (acc, []) | d :: ds => tokQ (acc ++ [d]) ds) else tokQ (acc ++ [c]) cs
noncomputable def tokA : List Nat → List Nat × List Nat
  | [] => ([], [])
  | c :: cs => if isWs c then tokA cs else if c = 34 then tokQ [] cs else if c = 92 then (match cs with | [] => ([], []) | d :: ds => tokP [d] ds) else tokP [c] cs
section
variable {w : World} {loose : List Str} {mean : ExcName → Option Value} {mg mb : Str → Option Value} {n : Nat} {f : Addr} {vs : List Value} {touch news : List (Addr × Obj)} {pre : Heap → Prop} {Post : Value → List (Addr × Obj) → Prop}
  {A A₀ : Around} {env : Env} {outer : List Env} {base h₀ : Heap} {L : Addr} {m : Str → Option Value} {s : Shared} {R : Result → Shared → Prop}
theorem useHc (C : HC w loose mean mg mb n f vs touch pre Post) (B : Below A₀ base outer h₀) (F : Fr h₀ L s.heap m) (X : (Mine.hd.heap_1 w.params).In h₀) (N : News h₀ L s.heap news) (T : Top topProg loose mean mg mb h₀)
    (hh : A.handled = none) (hA : A.frames = some (env :: outer)) (hf : env.frame = some L) (hk : env.scope.kind = .function) (hd : A.depth + n < recursionLimit) (hu : A.units + 10 * n < cLine) (hsub : ∀ p ∈ touch, p ∈ news) (hp : pre s.heap)
    (h : ∀ v now h' tk', Post v now → Fr h₀ L h' m → (∀ p ∈ news, (∀ q ∈ touch, q.1 ≠ p.1) → h'.get? p.1 = some p.2) →
      (∀ news', (∀ p ∈ news', p ∈ now ∨ (p ∈ news ∧ ∀ q ∈ touch, q.1 ≠ p.1)) → News h₀ L h' news') → R (.ok (.ret v)) { s with heap := h', toks := tk' }) :
    codeAny (model PySem.Challenge.rw_wo0016_01.prog w) A (.call (.ref f) ⟨vs, []⟩) R s := by
  have Nt : News h₀ L s.heap touch := fun p hp => N p (hsub p hp)
  refine C A A₀ env outer base h₀ L m s _ B F X Nt T hh hA hf hk hd hu hp fun v now h' tk' P S => ?_
  have Lne : ∀ p ∈ touch, p.1 ≠ L := fun p hp => (Nt p hp).2.1
  have F' : Fr h₀ L h' m := by
    obtain ⟨oL, es, ep, hL, r⟩ := F.ns
    refine ⟨⟨oL, es, ep, S.keep _ _ hL Lne, r⟩, fun b o e => S.keep b o (F.keep b o e) fun p hp q => ?_, F.above⟩
    have := (Nt p hp).2.2
    rw [q, e] at this
    cases this
  have kp : ∀ p ∈ news, (∀ q ∈ touch, q.1 ≠ p.1) → h'.get? p.1 = some p.2 := fun p hp hn => S.keep _ _ (N p hp).1 hn
  refine h v now h' tk' P F' kp fun news' hn' p hp => ?_
  rcases hn' p hp with hq | ⟨hq, hne⟩
  · refine ⟨S.now p hq, ?_, ?_⟩
    · rcases S.fresh p hq with ⟨q, hqt, hqe⟩ | e
      · rw [← hqe]; exact Lne q hqt
      · intro z
        obtain ⟨oL, _, _, hL, _⟩ := F.ns
        rw [z, hL] at e; cases e
    · rcases S.fresh p hq with ⟨q, hqt, hqe⟩ | e
      · rw [← hqe]; exact (Nt q hqt).2.2
      · cases z : h₀.get? p.1 with
        | none => rfl
        | some o => rw [F.keep _ _ z] at e; cases e
  · exact ⟨kp p hq hne, (N p hq).2⟩
variable {E : Value → Shared → Prop} {rest : List (Addr × Obj)} {x2 tf lx dx P sg I bm : Addr} {a b c d : Int × Tok} {ln : Int} {tn tw tt : Tok} {e e1 e2 : Nat} {xs ys : List Value}
noncomputable abbrev ciN (I bm : Addr) (tt : Tok) (lx : Addr) : List (Addr × Obj) := [(I, ciO bm tt), (bm, methodObj (.ref 35) (.ref lx))]
theorem adr_in {ln : Int} {tn : Tok} {fp : Value} {e e1 : Nat} {xs : List Value} {o : Obj} {p : Addr × Obj} (hp : p ∈ lexN lx dx P a b c d ln tn fp tw e xs e1 ++ (sg, o) :: rest) : p.1 ∈ lx :: dx :: P :: sg :: rest.map Prod.fst := by
  simp only [lexN, List.cons_append, List.nil_append, List.mem_cons] at hp ⊢
  rcases hp with h | h | h | h | h
  · subst h; exact .inl rfl
  · subst h; exact .inr (.inl rfl)
  · subst h; exact .inr (.inr (.inl rfl))
  · subst h; exact .inr (.inr (.inr (.inl rfl)))
  · exact .inr (.inr (.inr (.inr (List.mem_map_of_mem h))))
theorem next_read1 {Q : Option Value → Shared → Prop} {c0 : Nat} {t0 : Tok} (hF : FeedIn x2 tf rest) (hT : TakeOk w loose mean mg mb tf sg rest) (hap : Apart [lx, dx, P, sg] rest) (hg : sg ≠ lx ∧ sg ≠ dx ∧ sg ≠ P) (hl : ys.length < 999999) (hln : 0 ≤ ln ∧ ln < 1000000)
    (h35 : FnAt 35 h₀) (B : Below A₀ base outer h₀) (F : Fr h₀ L s.heap m) (X : (Mine.hd.heap_1 w.params).In h₀)
    (N : News h₀ L s.heap (ciN I bm tt lx ++ (lexN lx dx P a b c d ln tn (.ref x2) tw e xs e1 ++ (sg, lstO (Value.str ⟨#[c0]⟩ t0 :: ys) e2) :: rest)))
    (hI0 : ∀ z ∈ lx :: dx :: P :: sg :: rest.map Prod.fst, z ≠ I ∧ z ≠ bm)
    (T : Top topProg loose mean mg mb h₀)
    (hh : A.handled = none) (hA : A.frames = some (env :: outer)) (hf : env.frame = some L) (hk : env.scope.kind = .function) (hd : A.depth + 30 < recursionLimit) (hu : A.units + 10 * 31 < cLine)
    (h : ∀ tn' h' tk', Fr h₀ L h' m → News h₀ L h' (ciN I bm tt lx ++ (lexN lx dx P a b c d (if c0 = 10 then ln + 1 else ln) tn' (.ref x2) tw e xs e1 ++ (sg, lstO ys (e2 + 1)) :: rest)) → Q (some (.str ⟨#[c0]⟩ t0)) { s with heap := h', toks := tk' }) :
    wpAny (model PySem.Challenge.rw_wo0016_01.prog w) A (pyNext (.ref I)) Q E s := by
  have hI : ∀ p ∈ lexN lx dx P a b c d ln tn (.ref x2) tw e xs e1 ++ (sg, lstO (Value.str ⟨#[c0]⟩ t0 :: ys) e2) :: rest, p.1 ≠ I ∧ p.1 ≠ bm := fun p hp => hI0 _ (adr_in hp)
  have e35 : ∀ h : Heap, (∀ b o, h₀.get? b = some o → h.get? b = some o) → FnAt 35 h := fun h k => by
    obtain ⟨oc, od, fd, sl, hf⟩ := h35
    exact ⟨oc, od, fd, sl, k _ _ hf⟩
  refine next_ci hh (N (I, ciO bm tt) (List.Mem.head _)).1 (N (bm, methodObj (.ref 35) (.ref lx)) (List.Mem.tail _ (List.Mem.head _))).1 (e35 _ F.keep) ?_
  refine useHc (read1_H w loose mean mg mb lx dx P sg x2 tf a b c d ln tn tw e e1 e2 xs rest hF hT hap hg c0 t0 ys hl hln) B F X N T hh hA hf hk (by show A.depth + 30 < recursionLimit; omega) (by show A.units + 1 + 10 * 30 < cLine; omega) (fun p hp => List.mem_append_right _ hp) trivial ?_
  rintro _ now h' tk' ⟨rfl, tn', rfl⟩ F' _ K
  have N' := K (ciN I bm tt lx ++ (lexN lx dx P a b c d (if c0 = 10 then ln + 1 else ln) tn' (.ref x2) tw e xs e1 ++ (sg, lstO ys (e2 + 1)) :: rest)) (fun p hp => by
    rcases List.mem_append.mp hp with q | q
    · refine .inr ⟨List.mem_append_left _ q, fun z hz => ?_⟩
      simp only [ciN, List.mem_cons, List.not_mem_nil, or_false] at q
      rcases q with q | q <;> subst q
      · exact (hI z hz).1
      · exact (hI z hz).2
    · exact .inl q)
  refine ⟨_, t0, rfl, (N' (I, ciO bm tt) (List.Mem.head _)).1, (N' (bm, methodObj (.ref 35) (.ref lx)) (List.Mem.tail _ (List.Mem.head _))).1, e35 _ F'.keep, fun _ => h tn' h' tk' F' N', fun q => ?_⟩
  have := congrArg (fun x : Str => x.cps.size) q
  cases this
theorem next_read0 {Q : Option Value → Shared → Prop} (hF : FeedIn x2 tf rest) (hT : TakeOk w loose mean mg mb tf sg rest) (hap : Apart [lx, dx, P, sg] rest) (hg : sg ≠ lx ∧ sg ≠ dx ∧ sg ≠ P)
    (h35 : FnAt 35 h₀) (B : Below A₀ base outer h₀) (F : Fr h₀ L s.heap m) (X : (Mine.hd.heap_1 w.params).In h₀)
    (N : News h₀ L s.heap (ciN I bm tt lx ++ (lexN lx dx P a b c d ln tn (.ref x2) tw e xs e1 ++ (sg, lstO [] e2) :: rest)))
    (hI0 : ∀ z ∈ lx :: dx :: P :: sg :: rest.map Prod.fst, z ≠ I ∧ z ≠ bm) (hIb : I ≠ bm)
    (T : Top topProg loose mean mg mb h₀)
    (hh : A.handled = none) (hA : A.frames = some (env :: outer)) (hf : env.frame = some L) (hk : env.scope.kind = .function) (hd : A.depth + 30 < recursionLimit) (hu : A.units + 10 * 31 < cLine)
    (h : ∀ h' tk', Fr h₀ L h' m → News h₀ L h' ((I, ciE) :: (bm, methodObj (.ref 35) (.ref lx)) :: (lexN lx dx P a b c d ln tn (.ref x2) tw e xs e1 ++ (sg, lstO [] e2) :: rest)) → Q none { s with heap := h', toks := tk' }) :
    wpAny (model PySem.Challenge.rw_wo0016_01.prog w) A (pyNext (.ref I)) Q E s := by
  have hI : ∀ p ∈ lexN lx dx P a b c d ln tn (.ref x2) tw e xs e1 ++ (sg, lstO [] e2) :: rest, p.1 ≠ I ∧ p.1 ≠ bm := fun p hp => hI0 _ (adr_in hp)
  have e35 : ∀ h : Heap, (∀ b o, h₀.get? b = some o → h.get? b = some o) → FnAt 35 h := fun h k => by
    obtain ⟨oc, od, fd, sl, hf⟩ := h35
    exact ⟨oc, od, fd, sl, k _ _ hf⟩
  refine next_ci hh (N (I, ciO bm tt) (List.Mem.head _)).1 (N (bm, methodObj (.ref 35) (.ref lx)) (List.Mem.tail _ (List.Mem.head _))).1 (e35 _ F.keep) ?_
  refine useHc (read0_H w loose mean mg mb lx dx P sg x2 tf a b c d ln tn tw e e1 e2 xs rest hF hT hap hg) B F X N T hh hA hf hk (by show A.depth + 30 < recursionLimit; omega) (by show A.units + 1 + 10 * 30 < cLine; omega) (fun p hp => List.mem_append_right _ hp) trivial ?_
  rintro _ now h' tk' ⟨⟨u, rfl⟩, rfl⟩ F' _ K
  have N' := K (ciN I bm tt lx ++ (lexN lx dx P a b c d ln tn (.ref x2) tw e xs e1 ++ (sg, lstO [] e2) :: rest)) (fun p hp => by
    rcases List.mem_append.mp hp with q | q
    · refine .inr ⟨List.mem_append_left _ q, fun z hz => ?_⟩
      simp only [ciN, List.mem_cons, List.not_mem_nil, or_false] at q
      rcases q with q | q <;> subst q
      · exact (hI z hz).1
      · exact (hI z hz).2
    · exact .inl q)
  refine ⟨_, u, rfl, (N' (I, ciO bm tt) (List.Mem.head _)).1, (N' (bm, methodObj (.ref 35) (.ref lx)) (List.Mem.tail _ (List.Mem.head _))).1, e35 _ F'.keep, fun q => absurd rfl q, fun _ h'' x1 x2' => ?_⟩
  have NI := N' (I, ciO bm tt) (by simp)
  refine h h'' tk' ⟨?_, fun b o e => x1 b o (fun q => ?_) (F'.keep b o e), F'.above⟩ fun p hp => ?_
  · obtain ⟨oL, es, ep, hL, r⟩ := F'.ns
    exact ⟨oL, es, ep, x1 _ _ (Ne.symm NI.2.1) hL, r⟩
  · have := NI.2.2
    rw [← q, e] at this; cases this
  · rcases List.mem_cons.mp hp with rfl | hp
    · exact ⟨x2', NI.2⟩
    · have hne : p.1 ≠ I := by
        rcases List.mem_cons.mp hp with rfl | hp
        · exact Ne.symm hIb
        · exact (hI p hp).1
      have := N' p (List.mem_append_right [(I, ciO bm tt)] hp)
      exact ⟨x1 _ _ hne this.1, this.2⟩
end
theorem fn35 {w : World} {g : Heap} (X : (Mine.hd.heap_1 w.params).In g) : FnAt 35 g := by
  have h : ∃ oc od fd sl, (Mine.hd.heap_1 w.params).lookup 35 = some ⟨oc, od, .func fd, sl⟩ := ⟨_, _, _, _, rfl⟩
  obtain ⟨oc, od, fd, sl, h⟩ := h
  exact ⟨oc, od, fd, sl, X _ _ h⟩
noncomputable abbrev tkM (ch : Option Value) (I : Addr) (tok : Value) (lx : Addr) : Str → Option Value := fun y => if y = Str.ofString "ch" then ch else if y = Str.ofString "fiter" then some (.ref I) else if y = Str.ofString "token" then some tok else List.lookup y [(Str.ofString "self", Value.ref lx)].reverse
inductive TkS (g : Heap) (L' : Addr) (s : Shared) (lx dx P sg x2 I bm : Addr) (tt : Tok) (a b c d : Int × Tok) (tw : Tok) (e e1 : Nat) (rest : List (Addr × Obj)) (ln : Int) (cs : List Nat) (ended : Bool) (acc cs' : List Nat) (s' : Shared) : Prop
  | mk (ch : Option Value) (h' : Heap) (tk' : Nat) (tt' : Tok) (ys' : List Value) (ln' : Int) (tn' : Tok) (e2' : Nat) (es : s' = { s with heap := h', toks := tk' }) (F' : Fr g L' h' (tkM ch I (.str ⟨acc.toArray⟩ tt') lx))
   (N' : News g L' h' ((I, if ended then ciE else ciO bm tt) :: (bm, methodObj (.ref 35) (.ref lx)) :: (lexN lx dx P a b c d ln' tn' (.ref x2) tw e [] e1 ++ (sg, lstO ys' e2') :: rest))) (S' : SignsAre ys' cs') (c1 : ln' + (cs'.count 10 : Int) = ln + (cs.count 10 : Int)) (c2 : ln ≤ ln') (c3 : acc.length + cs'.length ≤ cs.length) : TkS g L' s lx dx P sg x2 I bm tt a b c d tw e e1 rest ln cs ended acc cs' s'
theorem fr_eq {g h : Heap} {L : Addr} {m m' : Str → Option Value} (F : Fr g L h m) (e : ∀ y, m y = m' y) : Fr g L h m' := by
  have : m = m' := funext e
  exact this ▸ F
theorem out_of {lx dx P sg q I : Addr} {a b c d : Int × Tok} {ln : Int} {tn : Tok} {fp : Value} {tw : Tok} {e e1 : Nat} {xs : List Value} {o : Obj} {rest : List (Addr × Obj)} (h1 : ∀ p ∈ lexN lx dx P a b c d ln tn fp tw e xs e1 ++ (sg, o) :: rest, p.1 < q) (h2 : q < I) : ∀ z ∈ lx :: dx :: P :: sg :: rest.map Prod.fst, z ≠ I ∧ z ≠ q := by
  intro z hz
  have : z < q := by
    simp only [List.mem_cons] at hz
    rcases hz with h | h | h | h | h
    · subst h; exact h1 _ (List.Mem.head _)
    · subst h; exact h1 _ (List.Mem.tail _ (List.Mem.head _))
    · subst h; exact h1 _ (List.Mem.tail _ (List.Mem.tail _ (List.Mem.head _)))
    · subst h; exact h1 _ (List.mem_append_right _ (List.Mem.head _))
    · obtain ⟨p, hp, rfl⟩ := List.mem_map.mp h
      exact h1 p (List.mem_append_right _ (List.Mem.tail _ hp))
  exact ⟨Nat.ne_of_lt (Nat.lt_trans this h2), Nat.ne_of_lt this⟩
theorem beq_quote (c : Nat) : ((⟨#[c]⟩ : Str) == Str.ofString "\"") = (c == 34) := by
  show ((⟨#[c]⟩ : Str) == ⟨#[34]⟩) = (c == 34)
  by_cases h : c = 34
  · subst h; rfl
  · rw [beq_false_of_ne (a := c) h]
    exact beq_false_of_ne fun q => h (by injection q with q; injection q with q; injection q)
theorem beq_back (c : Nat) : ((⟨#[c]⟩ : Str) == Str.ofString "\\") = (c == 92) := by
  show ((⟨#[c]⟩ : Str) == ⟨#[92]⟩) = (c == 92)
  by_cases h : c = 92
  · subst h; rfl
  · rw [beq_false_of_ne (a := c) h]
    exact beq_false_of_ne fun q => h (by injection q with q; injection q with q; injection q)
theorem occ_ws (c : Nat) : (Builtin.Str.occurrences (Str.ofString "\n\t\x0d ") ⟨#[c]⟩ 0 (Str.ofString "\n\t\x0d ").length 1).isEmpty = !isWs c := by
  have e : Str.ofString "\n\t\x0d " = ⟨#[10, 9, 13, 32]⟩ := rfl
  rw [e]
  by_cases h1 : c = 10
  · subst h1; decide +kernel
  by_cases h2 : c = 9
  · subst h2; decide +kernel
  by_cases h3 : c = 13
  · subst h3; decide +kernel
  by_cases h4 : c = 32
  · subst h4; decide +kernel
  have s : ∀ i, Builtin.Str.subAt ⟨#[10, 9, 13, 32]⟩ ⟨#[c]⟩ i = true → False := by
    intro i hi
    have hi : (#[10, 9, 13, 32] : Array Nat).extract i (i + 1) = #[c] := eq_of_beq hi
    have := congrArg (fun a : Array Nat => a.toList) hi
    match i with
    | 0 => simp at this; exact h1 this.symm
    | 1 => simp at this; exact h2 this.symm
    | 2 => simp at this; exact h3 this.symm
    | 3 => simp at this; exact h4 this.symm
    | i + 4 => 
      have := congrArg List.length this
      simp at this
  have w : isWs c = false := by simp [isWs, h1, h2, h3, h4]
  rw [w]
  have s' : ∀ i, Builtin.Str.subAt ⟨#[10, 9, 13, 32]⟩ ⟨#[c]⟩ i = false := fun i => by
    cases h : Builtin.Str.subAt ⟨#[10, 9, 13, 32]⟩ ⟨#[c]⟩ i with
    | false => rfl
    | true => exact (s i h).elim
  unfold Builtin.Str.occurrences
  simp only [s', Bool.and_false, Bool.false_eq_true, if_false]
  have fid : ∀ (l : List Nat) (z : Array Nat × Nat), List.foldl (fun b _ => (b.fst, b.snd)) z l = z := by
    intro l; induction l with
    | nil => intro z; rfl
    | cons x l ih => intro z; exact ih z
  simp [Std.Legacy.Range.forIn_eq_forIn_range', Id.run, fid]
  rfl
theorem str_snoc (acc : List Nat) (c : Nat) : (⟨acc.toArray⟩ : Str) ++ (⟨#[c]⟩ : Str) = ⟨(acc ++ [c]).toArray⟩ := by
  show Str.append _ _ = _
  simp [Str.append]
theorem str_snil (acc : List Nat) : (⟨acc.toArray⟩ : Str) ++ Str.ofString "" = ⟨acc.toArray⟩ := by
  show Str.append _ ⟨#[]⟩ = _
  simp [Str.append]
theorem ws_of {c : Nat} {b : Bool} (h : (Builtin.Str.occurrences (Str.ofString "\n\t\x0d ") ⟨#[c]⟩ 0 (Str.ofString "\n\t\x0d ").length 1).isEmpty = b) : isWs c = !b := by
  rw [occ_ws] at h; rw [← h, Bool.not_not]
section
variable {g h : Heap} {L I lx : Addr} {v v' ch : Option Value} {tok : Value}
theorem fr_ch (F : Fr g L h (fun y => if y = Str.ofString "ch" then v else tkM ch I tok lx y)) : Fr g L h (tkM v I tok lx) := fr_eq F fun y => by
  by_cases hy : y = Str.ofString "ch"
  · subst hy; rfl
  · simp only [tkM, if_neg hy]
theorem fr_tok {x x' : Str} {t : Tok} (F : Fr g L h (fun y => if y = Str.ofString "token" then some (Value.str x t) else if y = Str.ofString "ch" then v else tkM ch I tok lx y)) (hx : x = x') : Fr g L h (tkM v I (.str x' t) lx) := fr_eq F fun y => by
  subst hx
  by_cases hy : y = Str.ofString "token"
  · subst hy; rfl
  · by_cases hz : y = Str.ofString "ch"
    · subst hz; rfl
    · simp only [tkM, if_neg hy, if_neg hz]
theorem fr_tok2 {x x' : Str} {t : Tok} (F : Fr g L h (fun y => if y = Str.ofString "token" then some (Value.str x t) else if y = Str.ofString "ch" then v else if y = Str.ofString "ch" then v' else tkM ch I tok lx y)) (hx : x = x') : Fr g L h (tkM v I (.str x' t) lx) := fr_eq F fun y => by
  subst hx
  by_cases hy : y = Str.ofString "token"
  · subst hy; rfl
  · by_cases hz : y = Str.ofString "ch"
    · subst hz; rfl
    · simp only [tkM, if_neg hy, if_neg hz]
end
theorem str_one (c : Nat) : Str.ofString "" ++ (⟨#[c]⟩ : Str) = ⟨[c].toArray⟩ := rfl
section
variable {w : World} {loose : List Str} {mean : ExcName → Option Value} {mg mb : Str → Option Value}
  {A A₀ : Around} {env : Env} {outer : List Env} {base h₀ : Heap} {L : Addr} {m : Str → Option Value} {s : Shared} {E : Value → Shared → Prop} {rest : List (Addr × Obj)} {x2 tf lx dx P sg I bm : Addr} {a b c d : Int × Tok} {ln : Int} {tn tw tt : Tok} {e e1 e2 : Nat} {xs ys : List Value} {ex : List (Addr × Obj)}
theorem call_read1 {Q : Value → Shared → Prop} {c0 : Nat} {t0 : Tok} (hF : FeedIn x2 tf rest) (hT : TakeOk w loose mean mg mb tf sg rest) (hap : Apart [lx, dx, P, sg] rest) (hg : sg ≠ lx ∧ sg ≠ dx ∧ sg ≠ P) (hl : ys.length < 999999) (hln : 0 ≤ ln ∧ ln < 1000000)
    (B : Below A₀ base outer h₀) (F : Fr h₀ L s.heap m) (X : (Mine.hd.heap_1 w.params).In h₀)
    (N : News h₀ L s.heap (ex ++ (lexN lx dx P a b c d ln tn (.ref x2) tw e xs e1 ++ (sg, lstO (Value.str ⟨#[c0]⟩ t0 :: ys) e2) :: rest)))
    (hI0 : ∀ p ∈ ex, ∀ z ∈ lx :: dx :: P :: sg :: rest.map Prod.fst, z ≠ p.1) (T : Top topProg loose mean mg mb h₀)
    (hh : A.handled = none) (hA : A.frames = some (env :: outer)) (hf : env.frame = some L) (hk : env.scope.kind = .function) (hd : A.depth + 30 < recursionLimit) (hu : A.units + 10 * 30 < cLine)
    (h : ∀ tn' h' tk', Fr h₀ L h' m → News h₀ L h' (ex ++ (lexN lx dx P a b c d (if c0 = 10 then ln + 1 else ln) tn' (.ref x2) tw e xs e1 ++ (sg, lstO ys (e2 + 1)) :: rest)) → Q (.str ⟨#[c0]⟩ t0) { s with heap := h', toks := tk' }) :
    wpAny (model PySem.Challenge.rw_wo0016_01.prog w) A (call (.ref 35) [.ref lx]) Q E s := by
  refine useH (read1_H w loose mean mg mb lx dx P sg x2 tf a b c d ln tn tw e e1 e2 xs rest hF hT hap hg c0 t0 ys hl hln) B F X N T hh hA hf hk hd hu (fun p hp => List.mem_append_right _ hp) trivial ?_
  rintro _ now h' tk' ⟨rfl, tn', rfl⟩ F' _ _ K
  refine h tn' h' tk' F' (K _ (fun p hp => ?_))
  rcases List.mem_append.mp hp with q | q
  · exact .inr ⟨List.mem_append_left _ q, fun z hz => hI0 p q _ (adr_in hz)⟩
  · exact .inl q
theorem call_read0 {Q : Value → Shared → Prop} (hF : FeedIn x2 tf rest) (hT : TakeOk w loose mean mg mb tf sg rest) (hap : Apart [lx, dx, P, sg] rest) (hg : sg ≠ lx ∧ sg ≠ dx ∧ sg ≠ P)
    (B : Below A₀ base outer h₀) (F : Fr h₀ L s.heap m) (X : (Mine.hd.heap_1 w.params).In h₀)
    (N : News h₀ L s.heap (ex ++ (lexN lx dx P a b c d ln tn (.ref x2) tw e xs e1 ++ (sg, lstO [] e2) :: rest)))
    (hI0 : ∀ p ∈ ex, ∀ z ∈ lx :: dx :: P :: sg :: rest.map Prod.fst, z ≠ p.1) (T : Top topProg loose mean mg mb h₀)
    (hh : A.handled = none) (hA : A.frames = some (env :: outer)) (hf : env.frame = some L) (hk : env.scope.kind = .function) (hd : A.depth + 30 < recursionLimit) (hu : A.units + 10 * 30 < cLine)
    (h : ∀ u h' tk', Fr h₀ L h' m → News h₀ L h' (ex ++ (lexN lx dx P a b c d ln tn (.ref x2) tw e xs e1 ++ (sg, lstO [] e2) :: rest)) → Q (.str (Str.ofString "") u) { s with heap := h', toks := tk' }) :
    wpAny (model PySem.Challenge.rw_wo0016_01.prog w) A (call (.ref 35) [.ref lx]) Q E s := by
  refine useH (read0_H w loose mean mg mb lx dx P sg x2 tf a b c d ln tn tw e e1 e2 xs rest hF hT hap hg) B F X N T hh hA hf hk hd hu (fun p hp => List.mem_append_right _ hp) trivial ?_
  rintro _ now h' tk' ⟨⟨u, rfl⟩, rfl⟩ F' _ _ K
  refine h u h' tk' F' (K _ (fun p hp => ?_))
  rcases List.mem_append.mp hp with q | q
  · exact .inr ⟨List.mem_append_left _ q, fun z hz => hI0 p q _ (adr_in hz)⟩
  · exact .inl q
end
theorem dec_of {c : Nat} {cs cs0 : List Nat} {ln ln' : Int} (h : ln' + ((c :: cs).count 10 : Int) = ln + (cs0.count 10 : Int)) (h2 : ln ≤ ln') : (if c = 10 then ln' + 1 else ln') + (cs.count 10 : Int) = ln + (cs0.count 10 : Int) ∧ ln ≤ (if c = 10 then ln' + 1 else ln') := by
  rw [List.count_cons] at h
  by_cases q : c = 10
  · simp [q] at h ⊢; omega
  · simp [q] at h ⊢; omega
noncomputable def Again (I : Nat → Shared → Prop) (n : Nat) (s : Shared) : Prop := ∃ m, m < n ∧ I m s
theorem for_my {prog : Program} {w : World} {A : Around} {s : Shared} {R : Result → Shared → Prop} {target : Expr} {it : Value} {body orelse : List Stmt} {env : Env} (I : Nat → Shared → Prop)
    (turn : ∀ n s, I n s → wpAny (model prog w) A (pyNext it) (fun r s₁ => match r with
      | none => wpAny (model prog w) A (execs orelse env) (fun f s₃ => R (.ok f) s₃) (notedBy (model prog w) A env fun e s' => R (.error e) s') s₁
      | some v => wpAny (model prog w) A (assign target env v) (fun _ s₂ => wpAny (model prog w) A (execs body env) (fun f s₃ => match f with
          | .next | .cont => Again I n s₃
          | .brk => R (.ok .next) s₃
          | .ret v => R (.ok (.ret v)) s₃) (notedBy (model prog w) A env fun e s' => R (.error e) s') s₂) (notedBy (model prog w) A env fun e s' => R (.error e) s') s₁) (notedBy (model prog w) A env fun e s' => R (.error e) s') s)
    (n : Nat) (h : I n s) (ht : ∀ v, letOwnedTupleGo target it v = pure () := by intro _; rfl) : codeAny (model prog w) A (.forLoop target it body orelse env) R s :=
  codeAny_forLoop I turn n h ht
theorem ci_out {lx dx P sg I q : Addr} {tt : Tok} {rest : List (Addr × Obj)} (h : ∀ z ∈ lx :: dx :: P :: sg :: rest.map Prod.fst, z ≠ I ∧ z ≠ q) : ∀ p ∈ ciN I q tt lx, ∀ z ∈ lx :: dx :: P :: sg :: rest.map Prod.fst, z ≠ p.1 := by
  intro p hp z hz
  simp only [ciN, List.mem_cons, List.not_mem_nil, or_false] at hp
  rcases hp with e | e
  · subst e; exact (h z hz).1
  · subst e; exact (h z hz).2
theorem tokP_stop {acc cs : List Nat} {c : Nat} (h : isWs c = true) : tokP acc (c :: cs) = (acc, cs) := by cases cs <;> simp [tokP, h]
theorem tokP_b0 {acc : List Nat} {c : Nat} (h : isWs c = false) (h2 : c = 92) : tokP acc [c] = (acc, []) := by simp [tokP, h2]
theorem tokP_b1 {acc cs : List Nat} {c d : Nat} (h : isWs c = false) (h2 : c = 92) : tokP acc (c :: d :: cs) = tokP (acc ++ [d]) cs := by rw [tokP]; simp only [h]; rw [if_neg Bool.false_ne_true, if_pos h2]
theorem tokP_c {acc cs : List Nat} {c : Nat} (h : isWs c = false) (h2 : c ≠ 92) : tokP acc (c :: cs) = tokP (acc ++ [c]) cs := by cases cs <;> simp [tokP, h, h2]
theorem tokQ_stop {acc cs : List Nat} {c : Nat} (h : c = 34) : tokQ acc (c :: cs) = (acc, cs) := by cases cs <;> simp [tokQ, h]
theorem tokQ_b0 {acc : List Nat} {c : Nat} (h : c ≠ 34) (h2 : c = 92) : tokQ acc [c] = (acc, []) := by simp [tokQ, h, h2]
theorem tokQ_b1 {acc cs : List Nat} {c d : Nat} (h : c ≠ 34) (h2 : c = 92) : tokQ acc (c :: d :: cs) = tokQ (acc ++ [d]) cs := by rw [tokQ]; rw [if_neg h, if_pos h2]
theorem tokQ_c {acc cs : List Nat} {c : Nat} (h : c ≠ 34) (h2 : c ≠ 92) : tokQ acc (c :: cs) = tokQ (acc ++ [c]) cs := by cases cs <;> simp [tokQ, h, h2]
theorem tokA_ws {cs : List Nat} {c : Nat} (h : isWs c = true) : tokA (c :: cs) = tokA cs := by cases cs <;> simp [tokA, h]
theorem tokA_q {cs : List Nat} {c : Nat} (h : isWs c = false) (h2 : c = 34) : tokA (c :: cs) = tokQ [] cs := by cases cs <;> (rw [tokA]; rw [h, if_neg Bool.false_ne_true, if_pos h2])
theorem tokA_b0 {c : Nat} (h : isWs c = false) (h1 : c ≠ 34) (h2 : c = 92) : tokA [c] = ([], []) := by rw [tokA]; rw [h, if_neg Bool.false_ne_true, if_neg h1, if_pos h2]
theorem tokA_b1 {cs : List Nat} {c d : Nat} (h : isWs c = false) (h1 : c ≠ 34) (h2 : c = 92) : tokA (c :: d :: cs) = tokP [d] cs := by rw [tokA]; rw [h, if_neg Bool.false_ne_true, if_neg h1, if_pos h2]
theorem tokA_c {cs : List Nat} {c : Nat} (h : isWs c = false) (h1 : c ≠ 34) (h2 : c ≠ 92) : tokA (c :: cs) = tokP [c] cs := by cases cs <;> (rw [tokA]; rw [h, if_neg Bool.false_ne_true, if_neg h1, if_neg h2])
end
section
theorem lnb {ln ln' : Int} {cs cs' : List Nat} (c1 : ln' + (cs'.count 10 : Int) = ln + (cs.count 10 : Int)) (c2 : ln ≤ ln') (hl : cs.length < 99999) (hln : 0 ≤ ln ∧ ln < 100000) : 0 ≤ ln' ∧ ln' < 1000000 := by
  have := List.count_le_length (a := 10) (l := cs)
  omega
theorem cutFor {σ : Type} {M : Model} {A : Around} {st : Stmt} {env : Env} {Q : Flow → Shared → Prop} {E : Value → Shared → Prop} {pre : σ → Prop} {sh : σ → Shared} {G : Prop}
    (main : (∀ x, pre x → wpAny M A (exec st env) Q E (sh x)) → G) (key : ∀ x, pre x → wpAny M A (exec st env) Q E (sh x)) : G := main key
theorem lenA {acc cs : List Nat} {r c : Nat} (h1 : cs.length < 99999) (h2 : acc.length + (r + 1) ≤ cs.length) : (⟨acc.toArray⟩ : Str).length + (⟨[c].toArray⟩ : Str).length ≤ 16777216 :=
  Nat.le_trans (Nat.add_le_add_left (Nat.le_add_left 1 r) acc.length) (Nat.le_trans h2 (Nat.le_trans (Nat.le_of_lt h1) (by decide)))
theorem lenB1 {α : Type} {vs : List α} {cs : List Nat} {a m : Nat} (h3 : vs.length = m) (h2 : a + (m + 1) ≤ cs.length) (h1 : cs.length < 99999) : vs.length < 999999 := by omega
theorem lenB2 {α : Type} {vs : List α} {cs : List Nat} {a m : Nat} (h3 : vs.length = m) (h2 : a + (m + 1 + 1) ≤ cs.length) (h1 : cs.length < 99999) : vs.length < 999999 := by omega
theorem lenC1 {a x n : Nat} (h : a + (x + 1) ≤ n) : a + (0 + 1) + x ≤ n := by omega
theorem lenC2 {a x n : Nat} (h : a + (x + 1 + 1) ≤ n) : a + (0 + 1) + x ≤ n := by omega
theorem lenD1 {a x n : Nat} (h : a + (x + 1) ≤ n) : a + 1 + x ≤ n := by omega
theorem lenD2 {a x n : Nat} (h : a + (x + 1 + 1) ≤ n) : a + 1 + x ≤ n := by omega
section
namespace Z_tok_H_K
noncomputable def zP (w : World) (loose : List Str) (mean : ExcName → Option Value) (mg : Str → Option Value) (mb : Str → Option Value) (lx : Addr) (dx : Addr) (P : Addr) (sg : Addr) (x2 : Addr) (tf : Addr) (a : Int × Tok) (b : Int × Tok) (c : Int × Tok) (d : Int × Tok) (ln : Int) (tn : Tok) (tw : Tok) (e : Nat) (e1 : Nat) (e2 : Nat) (rest : List (Addr × Obj)) (ys : List Value) (cs : List Nat) (dp : Nat) (un : Nat) (gd : Option (List Code)) (outer : List Env) (base : Heap) (g : Heap) (L' : Addr) (s : Shared) (E : Value → Shared → Prop) : Prop := ∀ (hF : FeedIn x2 tf rest) (hT : TakeOk w loose mean mg mb tf sg rest) (hap : Apart [lx, dx, P, sg] rest) (hg : sg ≠ lx ∧ sg ≠ dx ∧ sg ≠ P) (hys : SignsAre ys cs) (hl : cs.length < 99999) (hln : 0 ≤ ln ∧ ln < 100000) (B : Below (Ar dp un gd outer) base outer g) (F : Fr g L' s.heap (fun y => ([("self", .ref lx)] : List (Str × Value)).reverse.lookup y)) (N : News g L' s.heap ((lexN lx dx P a b c d ln tn (.ref x2) tw e [] e1 ++ (sg, lstO ys e2) :: rest))) (X : (Mine.hd.heap_1 w.params).In g) (T : Top topProg loose mean mg mb g) (hp : (fun _ => True : Heap → Prop) g) (hlt : ∀ p ∈ ((lexN lx dx P a b c d ln tn (.ref x2) tw e [] e1 ++ (sg, lstO ys e2) :: rest) : List (Addr × Obj)), p.1 < L') (hd : dp + 40 < recursionLimit) (hu : un + 10 * 40 < cLine), WalkK w 42 dp un gd outer g L' s (fun r now => (∃ t, r = Value.str ⟨(tokA cs).1.toArray⟩ t) ∧ ∃ ln' tn' ys' e2', now = lexN lx dx P a b c d ln' tn' (.ref x2) tw e [] e1 ++ (sg, lstO ys' e2') :: rest ∧ SignsAre ys' (tokA cs).2 ∧ ln' + ((tokA cs).2.count 10 : Int) = ln + (cs.count 10 : Int) ∧ ln ≤ ln') E
noncomputable def zk : DD := pickD fun c => zP (c.fW 0) (c.fLs 0) (c.fMe 0) (c.fMp 0) (c.fMp 1) (c.fA 0) (c.fA 1) (c.fA 2) (c.fA 3) (c.fA 4) (c.fA 5) (c.fIt 0) (c.fIt 1) (c.fIt 2) (c.fIt 3) (c.fI 0) (c.fT 0) (c.fT 1) (c.fN 0) (c.fN 1) (c.fN 2) (c.fLed 0) (c.fLv 0) (c.fLn 0) (c.fN 3) (c.fN 4) (c.fGd 0) (c.fEn 0) (c.fH 0) (c.fH 1) (c.fA 6) (c.fSh 0) (c.fE 0)
noncomputable section
@[irreducible] def w : World := zk.fW 0
@[irreducible] def loose : List Str := zk.fLs 0
@[irreducible] def mean : ExcName → Option Value := zk.fMe 0
@[irreducible] def mg : Str → Option Value := zk.fMp 0
@[irreducible] def mb : Str → Option Value := zk.fMp 1
@[irreducible] def lx : Addr := zk.fA 0
@[irreducible] def dx : Addr := zk.fA 1
@[irreducible] def P : Addr := zk.fA 2
@[irreducible] def sg : Addr := zk.fA 3
@[irreducible] def x2 : Addr := zk.fA 4
@[irreducible] def tf : Addr := zk.fA 5
@[irreducible] def a : Int × Tok := zk.fIt 0
@[irreducible] def b : Int × Tok := zk.fIt 1
@[irreducible] def c : Int × Tok := zk.fIt 2
@[irreducible] def d : Int × Tok := zk.fIt 3
@[irreducible] def ln : Int := zk.fI 0
@[irreducible] def tn : Tok := zk.fT 0
@[irreducible] def tw : Tok := zk.fT 1
@[irreducible] def e : Nat := zk.fN 0
@[irreducible] def e1 : Nat := zk.fN 1
@[irreducible] def e2 : Nat := zk.fN 2
@[irreducible] def rest : List (Addr × Obj) := zk.fLed 0
@[irreducible] def ys : List Value := zk.fLv 0
@[irreducible] def cs : List Nat := zk.fLn 0
@[irreducible] def dp : Nat := zk.fN 3
@[irreducible] def un : Nat := zk.fN 4
@[irreducible] def gd : Option (List Code) := zk.fGd 0
@[irreducible] def outer : List Env := zk.fEn 0
@[irreducible] def base : Heap := zk.fH 0
@[irreducible] def g : Heap := zk.fH 1
@[irreducible] def L' : Addr := zk.fA 6
@[irreducible] def s : Shared := zk.fSh 0
@[irreducible] def E : Value → Shared → Prop := zk.fE 0
end
theorem zcore : zP w loose mean mg mb lx dx P sg x2 tf a b c d ln tn tw e e1 e2 rest ys cs dp un gd outer base g L' s E := by
  k_with "mine omega" => ((fail_if_success k_extra "x5"); (with_reducible first | exact lenA (by assumption) (by assumption) | exact lenB1 (by assumption) (by assumption) (by assumption) | exact lenB2 (by assumption) (by assumption) (by assumption) | exact lenC1 (by assumption) | exact lenC2 (by assumption) | exact lenD1 (by assumption) | exact lenD2 (by assumption)))
  k_with "exec For Name Name cons nil" => ((fail_if_success k_extra "x5"); k_here; refine hold_of ?_)
  k_with "call builtin:iter" => ((fail_if_success k_extra "x5"); k_here; k_dflt (refine' iter2_K (by assumption) (by assumption) (by k_mem) ?_; intro _ _ _ _ l1; (try k_lt l1); revert l1; intro _))
  k_with "mine iter" => ((fail_if_success k_extra "x5"); k_here; k_dflt (refine' iter_ci (by first | exact (News.get (by assumption) (by k_mem)) | exact ((by assumption : News _ _ _ _) _ (by k_mem)).1) rfl ?_))
  k_with "call ref" => ((fail_if_success k_extra "x5"); k_here; k_dflt ((show wpAny _ _ (call (Value.ref 35) [Value.ref _]) _ _ _); refine' hold_of ?_))
  unfold zP
  intro hF hT hap hg hys hl hln B F N X T hp hlt hd hu
  have _ : PySem.Challenge.rw_wo0016_01 = PySem.Challenge.rw_wo0016_01 ∧ Mine.hd.heap_1 = Mine.hd.heap_1 := by k_fill; exact ⟨rfl, rfl⟩
  refine' walkK_of ?k6 ?_; (case k6 => k_is)
  have hne := lexN_ne (fun p hp => N p (List.mem_append_left _ hp))
  have h35 := fn35 X
  refine execsE ?_
  intro E9
  have uT : UseT1 := trivial
  k_steps
  rename_i h3 _ _ q' h2 lq I h1 lI h0 FF NN _ _
  obtain ⟨tk0, rfl⟩ : ∃ t, t = tk := ⟨tk, rfl⟩
  have hI0 := out_of lq lI.1
  have hIq : I ≠ q' := Nat.ne_of_gt lI.1
  refine wpAny_For ?_
  k_steps
  refine for_my (I := fun n s' => (∃ cs', TkS g L' s lx dx P sg x2 I q' (tk0 + 1 + 1 + 1) a b c d tw e e1 rest ln cs false [] cs' s' ∧ tokA cs' = tokA cs ∧ n = cs'.length + 1) ∨ (∃ acc, TkS g L' s lx dx P sg x2 I q' (tk0 + 1 + 1 + 1) a b c d tw e e1 rest ln cs true acc [] s' ∧ tokA cs = (acc, []) ∧ n = 0)) ?turn (cs.length + 1) ?init
  case init =>
    refine .inl ⟨cs, ⟨none, h0, _, tk0, ys, ln, tn, e2, rfl, fr_eq FF fun y => ?_, NN, hys, rfl, Int.le_refl _, by simp⟩, rfl, rfl⟩
    by_cases hy : y = Str.ofString "ch"
    · subst hy; rfl
    · simp only [tkM, if_neg hy]; rfl
  case turn =>
    intro n s' hI
    rcases hI with ⟨cs', ⟨ch, h', tk', tt', ys', ln', tn', e2', rfl, F', N', S', c1, c2, c3⟩, hta, hn⟩ | ⟨acc, ⟨ch, h', tk', tt', ys', ln', tn', e2', rfl, F', N', S', c1, c2, c3⟩, hta, hn⟩
    · cases S' with
      | nil =>
        refine next_read0 hF hT hap hg h35 B F' X N' hI0 hIq T rfl rfl rfl rfl (by k_room) (by k_units) fun h'' tk'' F1 N1 => ?_
        k_steps
        rename Fr _ _ _ _ => F2
        rename News _ _ _ _ => N2
        refine leaveH (now := lexN lx dx P a b c d ln' tn' (.ref x2) tw e [] e1 ++ (sg, lstO [] e2') :: rest) F2 (fun p hp => N2 p (.tail _ (.tail _ hp))) ?_
        exact ⟨⟨_, by rw [← hta]; rfl⟩, _, _, _, _, rfl, by rw [← hta]; exact .nil, by rw [← hta]; exact c1, c2⟩
      | cons cc ct SS =>
        rename_i vs cs''
        have hlv := SS.length
        simp only [List.length_cons, List.length_nil] at c3 hn
        refine next_read1 hF hT hap hg (by omega) (by first | exact lnb dec2.1 dec2.2 hl hln | exact lnb d1 d2 hl hln | exact lnb dec.1 dec.2 hl hln | exact lnb c1 c2 hl hln) h35 B F' X N' hI0 T rfl rfl rfl rfl (by k_room) (by k_units) fun tn1 h1' tk1 F1 N1 => ?_
        have dec := dec_of c1 c2
        generalize (if cc = 10 then ln' + 1 else ln') = ln1 at *
        refine' cutFor (σ := List Nat × List Nat × Shared) (pre := fun x => TkS g L' s lx dx P sg x2 I q' (tk0 + 1 + 1 + 1) a b c d tw e e1 rest ln cs false x.1 x.2.1 x.2.2 ∧ tokP x.1 x.2.1 = tokA cs) (sh := fun x => x.2.2) ?main ?key
        case main =>
          intro key
          k_steps
          · rename (Builtin.Str.occurrences _ _ _ _ _).isEmpty = _ => hw; have hw := ws_of hw; simp only [Bool.not_false, Bool.not_true] at hw
            rename (_ == Str.ofString "\"") = _ => hq
            rw [beq_quote] at hq
            simp only [beq_iff_eq] at hq
            rename Fr _ _ _ _ => F2
            rename News _ _ _ _ => NC
            have FC := fr_ch F2
            have SS0 := SS
            have k1 := dec.1
            have k2 := dec.2
            have k3 : ([] : List Nat).length + cs''.length ≤ cs.length := by simp only [List.length_nil]; omega
            have k4 : tokQ [] cs'' = tokA cs := by rw [← hta]; exact (tokA_q hw hq).symm
            refine wpAny_For ?_
            k_steps
            refine for_my (I := fun n1 s1 => ∃ acc cs1, TkS g L' s lx dx P sg x2 I q' (tk0 + 1 + 1 + 1) a b c d tw e e1 rest ln cs false acc cs1 s1 ∧ tokQ acc cs1 = tokA cs ∧ n1 = cs1.length) ?turn1 _ ⟨_, _, ⟨_, _, _, _, _, _, _, _, rfl, FC, NC, SS0, k1, k2, k3⟩, k4, rfl⟩
            case turn1 =>
              intro n1 s1 hI1
              obtain ⟨acc1, cs1, ⟨ch1, g1, tk1', tt1, ys1, ln1', tn1', e21, rfl, G1, M1, S1, d1, d2, d3⟩, htb, hn1⟩ := hI1
              cases S1 with
              | nil =>
                refine next_read0 hF hT hap hg h35 B G1 X M1 hI0 hIq T rfl rfl rfl rfl (by k_room) (by k_units) fun g2 tk2 G2 M2 => ?_
                k_steps
                refine ⟨0, by omega, ?_⟩
                · exact .inr ⟨acc1, ⟨_, _, _, _, [], _, _, _, rfl, G2, M2, .nil, d1, d2, by simpa using d3⟩, by rw [← htb]; rfl, rfl⟩
              | cons c2 ct2 SS2 =>
                rename_i vs2 cs2
                have hlv2 := SS2.length
                simp only [List.length_cons] at d3 hn1
                refine next_read1 hF hT hap hg (by omega) (by first | exact lnb dec2.1 dec2.2 hl hln | exact lnb d1 d2 hl hln | exact lnb dec.1 dec.2 hl hln | exact lnb c1 c2 hl hln) h35 B G1 X M1 hI0 T rfl rfl rfl rfl (by k_room) (by k_units) fun tn2 g2 tk2 G2 M2 => ?_
                have dec2 := dec_of d1 d2
                generalize (if c2 = 10 then ln1' + 1 else ln1') = ln2 at *
                k_steps
                · rename (_ == Str.ofString "\"") = _ => hw2; rw [beq_quote] at hw2; simp only [beq_iff_eq, beq_eq_false_iff_ne] at hw2
                  rename Fr _ _ _ _ => G3
                  rename News _ _ _ _ => M3
                  have hT2 : tokA cs = (acc1, cs2) := by rw [← htb]; exact tokQ_stop hw2
                  refine leaveH (now := lexN lx dx P a b c d ln2 tn2 (.ref x2) tw e [] e1 ++ (sg, lstO vs2 (e21 + 1)) :: rest) G3 (fun p hp => M3 p (.tail _ (.tail _ hp))) ?_
                  exact ⟨⟨_, by rw [hT2]⟩, _, _, _, _, rfl, by rw [hT2]; exact SS2, by rw [hT2]; exact dec2.1, dec2.2⟩
                · rename (_ == Str.ofString "\"") = _ => hw2; rw [beq_quote] at hw2; simp only [beq_iff_eq, beq_eq_false_iff_ne] at hw2
                  rename (_ == Str.ofString "\\") = _ => hb2
                  rw [beq_back] at hb2
                  simp only [beq_iff_eq] at hb2
                  rename Fr _ _ _ _ => G3
                  rename News _ _ _ _ => M3
                  unfold Hold
                  cases SS2 with
                  | nil =>
                    refine call_read0 (ex := ciN I q' (tk0 + 1 + 1 + 1) lx) hF hT hap hg B G3 X M3 (ci_out hI0) T rfl rfl rfl rfl (by k_room) (by k_units) fun u4 g4 tk4 G4 M4 => ?_
                    k_steps
                    refine ⟨0, by simp only [List.length_nil] at *; omega, ?_⟩
                    · rename Fr _ _ _ _ => G5
                      rename News _ _ _ _ => M5
                      refine ⟨acc1, [], ⟨_, _, _, _, [], _, _, _, rfl, fr_tok2 G5 (str_snil acc1), M5, .nil, dec2.1, dec2.2, by simpa using Nat.le_of_succ_le d3⟩, ?_, rfl⟩
                      rw [← htb]; exact (tokQ_b0 hw2 hb2).symm
                  | cons c3 ct3 SS3 =>
                    rename_i vs3 cs3
                    have hlv3 := SS3.length
                    simp only [List.length_cons] at d3 hn1
                    refine call_read1 (ex := ciN I q' (tk0 + 1 + 1 + 1) lx) hF hT hap hg (by omega) (by first | exact lnb dec2.1 dec2.2 hl hln | exact lnb d1 d2 hl hln | exact lnb dec.1 dec.2 hl hln | exact lnb c1 c2 hl hln) B G3 X M3 (ci_out hI0) T rfl rfl rfl rfl (by k_room) (by k_units) fun tn4 g4 tk4 G4 M4 => ?_
                    have dec3 := dec_of dec2.1 dec2.2
                    generalize (if c3 = 10 then ln2 + 1 else ln2) = ln3 at *
                    k_steps
                    refine ⟨cs3.length, by omega, ?_⟩
                    · rename Fr _ _ _ _ => G5
                      rename News _ _ _ _ => M5
                      refine ⟨acc1 ++ [c3], cs3, ⟨_, _, _, _, vs3, _, _, _, rfl, fr_tok2 G5 (str_snoc acc1 c3), M5, SS3, dec3.1, dec3.2, by simp only [List.length_append, List.length_cons, List.length_nil]; omega⟩, ?_, rfl⟩
                      rw [← htb]; exact (tokQ_b1 hw2 hb2).symm
                refine ⟨cs2.length, by omega, ?_⟩
                · rename (_ == Str.ofString "\"") = _ => hw2; rw [beq_quote] at hw2; simp only [beq_iff_eq, beq_eq_false_iff_ne] at hw2
                  rename (_ == Str.ofString "\\") = _ => hb2
                  rw [beq_back] at hb2
                  simp only [beq_eq_false_iff_ne] at hb2
                  rename Fr _ _ _ _ => G5
                  rename News _ _ _ _ => M5
                  refine ⟨acc1 ++ [c2], cs2, ⟨_, _, _, _, vs2, _, _, _, rfl, fr_tok G5 (str_snoc acc1 c2), M5, SS2, dec2.1, dec2.2, by simp only [List.length_append, List.length_cons, List.length_nil]; omega⟩, ?_, rfl⟩
                  rw [← htb]; exact (tokQ_c hw2 hb2).symm
          · rename (Builtin.Str.occurrences _ _ _ _ _).isEmpty = _ => hw; have hw := ws_of hw; simp only [Bool.not_false, Bool.not_true] at hw
            rename (_ == Str.ofString "\"") = _ => hq
            rename (_ == Str.ofString "\\") = _ => hb
            rw [beq_quote] at hq
            rw [beq_back] at hb
            simp only [beq_iff_eq, beq_eq_false_iff_ne] at hq hb
            unfold Hold
            rename Fr _ _ _ _ => F2
            rename News _ _ _ _ => N2
            cases SS with
            | nil =>
              refine call_read0 (ex := ciN I q' (tk0 + 1 + 1 + 1) lx) hF hT hap hg B F2 X N2 (ci_out hI0) T rfl rfl rfl rfl (by k_room) (by k_units) fun u4 g4 tk4 G4 M4 => ?_
              k_steps
              rename Fr _ _ _ _ => F3
              rename News _ _ _ _ => NC
              have FC := fr_tok2 (x' := ⟨([] : List Nat).toArray⟩) F3 rfl
              have SS0 := SignsAre.nil
              have k1 := dec.1
              have k2 := dec.2
              have k3 : ([] : List Nat).length + ([] : List Nat).length ≤ cs.length := by simp
              have k4 : tokP [] [] = tokA cs := by rw [← hta]; exact (tokA_b0 hw hq hb).symm
              exact key ([], [], _) ⟨⟨_, _, _, _, _, _, _, _, rfl, FC, NC, SS0, k1, k2, k3⟩, k4⟩
            | cons cd ct3 SS3 =>
              rename_i vs3 cs3
              have hlv3 := SS3.length
              simp only [List.length_cons] at c3 hn
              refine call_read1 (ex := ciN I q' (tk0 + 1 + 1 + 1) lx) hF hT hap hg (by omega) (by first | exact lnb dec2.1 dec2.2 hl hln | exact lnb d1 d2 hl hln | exact lnb dec.1 dec.2 hl hln | exact lnb c1 c2 hl hln) B F2 X N2 (ci_out hI0) T rfl rfl rfl rfl (by k_room) (by k_units) fun tn4 g4 tk4 G4 M4 => ?_
              have dec3 := dec_of dec.1 dec.2
              generalize (if cd = 10 then ln1 + 1 else ln1) = ln3 at *
              k_steps
              rename Fr _ _ _ _ => F3
              rename News _ _ _ _ => NC
              have FC := fr_tok2 F3 (str_one cd)
              have SS0 := SS3
              have k1 := dec3.1
              have k2 := dec3.2
              have k3 : [cd].length + cs3.length ≤ cs.length := by simp only [List.length_cons, List.length_nil]; omega
              have k4 : tokP [cd] cs3 = tokA cs := by rw [← hta]; exact (tokA_b1 hw hq hb).symm
              exact key ([cd], cs3, _) ⟨⟨_, _, _, _, _, _, _, _, rfl, FC, NC, SS0, k1, k2, k3⟩, k4⟩
          · rename (Builtin.Str.occurrences _ _ _ _ _).isEmpty = _ => hw; have hw := ws_of hw; simp only [Bool.not_false, Bool.not_true] at hw
            rename (_ == Str.ofString "\"") = _ => hq
            rename (_ == Str.ofString "\\") = _ => hb
            rw [beq_quote] at hq
            rw [beq_back] at hb
            simp only [beq_eq_false_iff_ne] at hq hb
            rename Fr _ _ _ _ => F3
            rename News _ _ _ _ => NC
            have FC := fr_tok F3 (str_one cc)
            have SS0 := SS
            have k1 := dec.1
            have k2 := dec.2
            have k3 : [cc].length + cs''.length ≤ cs.length := by simp only [List.length_cons, List.length_nil]; omega
            have k4 : tokP [cc] cs'' = tokA cs := by rw [← hta]; exact (tokA_c hw hq hb).symm
            exact key ([cc], cs'', _) ⟨⟨_, _, _, _, _, _, _, _, rfl, FC, NC, SS0, k1, k2, k3⟩, k4⟩
          refine ⟨cs''.length + 1, by omega, ?_⟩
          · rename (Builtin.Str.occurrences _ _ _ _ _).isEmpty = _ => hw; have hw := ws_of hw; simp only [Bool.not_false, Bool.not_true] at hw
            rename Fr _ _ _ _ => F2
            rename News _ _ _ _ => N2
            refine .inl ⟨cs'', ⟨_, _, _, _, vs, _, _, _, rfl, fr_ch F2, N2, SS, dec.1, dec.2, by simp only [List.length_nil]; omega⟩, ?_, rfl⟩
            rw [← hta]; exact (tokA_ws hw).symm
        case key =>
          rintro ⟨acc0, cs0, _⟩ ⟨⟨ch0, h00, tk00, tt0, ys0, ln0, tn0, e20, rfl, FC, NC, SS0, k1, k2, k3⟩, k4⟩
          refine wpAny_For ?_
          k_steps
          refine for_my (I := fun n1 s1 => ∃ acc cs1, TkS g L' s lx dx P sg x2 I q' (tk0 + 1 + 1 + 1) a b c d tw e e1 rest ln cs false acc cs1 s1 ∧ tokP acc cs1 = tokA cs ∧ n1 = cs1.length) ?turn1 _ ⟨_, _, ⟨_, _, _, _, _, _, _, _, rfl, FC, NC, SS0, k1, k2, k3⟩, k4, rfl⟩
          case turn1 =>
            intro n1 s1 hI1
            obtain ⟨acc1, cs1, ⟨ch1, g1, tk1', tt1, ys1, ln1', tn1', e21, rfl, G1, M1, S1, d1, d2, d3⟩, htb, hn1⟩ := hI1
            cases S1 with
            | nil =>
              refine next_read0 hF hT hap hg h35 B G1 X M1 hI0 hIq T rfl rfl rfl rfl (by k_room) (by k_units) fun g2 tk2 G2 M2 => ?_
              k_steps
              refine ⟨0, by omega, ?_⟩
              · exact .inr ⟨acc1, ⟨_, _, _, _, [], _, _, _, rfl, G2, M2, .nil, d1, d2, by simpa using d3⟩, by rw [← htb]; rfl, rfl⟩
            | cons c2 ct2 SS2 =>
              rename_i vs2 cs2
              have hlv2 := SS2.length
              simp only [List.length_cons] at d3 hn1
              refine next_read1 hF hT hap hg (by omega) (by first | exact lnb dec2.1 dec2.2 hl hln | exact lnb d1 d2 hl hln | exact lnb dec.1 dec.2 hl hln | exact lnb c1 c2 hl hln) h35 B G1 X M1 hI0 T rfl rfl rfl rfl (by k_room) (by k_units) fun tn2 g2 tk2 G2 M2 => ?_
              have dec2 := dec_of d1 d2
              generalize (if c2 = 10 then ln1' + 1 else ln1') = ln2 at *
              k_steps
              · rename (Builtin.Str.occurrences _ _ _ _ _).isEmpty = _ => hw2; have hw2 := ws_of hw2; simp only [Bool.not_false, Bool.not_true] at hw2
                rename (_ == Str.ofString "\\") = _ => hb2
                rw [beq_back] at hb2
                simp only [beq_iff_eq] at hb2
                rename Fr _ _ _ _ => G3
                rename News _ _ _ _ => M3
                unfold Hold
                cases SS2 with
                | nil =>
                  refine call_read0 (ex := ciN I q' (tk0 + 1 + 1 + 1) lx) hF hT hap hg B G3 X M3 (ci_out hI0) T rfl rfl rfl rfl (by k_room) (by k_units) fun u4 g4 tk4 G4 M4 => ?_
                  k_steps
                  refine ⟨0, by simp only [List.length_nil] at *; omega, ?_⟩
                  · rename Fr _ _ _ _ => G5
                    rename News _ _ _ _ => M5
                    refine ⟨acc1, [], ⟨_, _, _, _, [], _, _, _, rfl, fr_tok2 G5 (str_snil acc1), M5, .nil, dec2.1, dec2.2, by simpa using Nat.le_of_succ_le d3⟩, ?_, rfl⟩
                    rw [← htb]; exact (tokP_b0 hw2 hb2).symm
                | cons c3 ct3 SS3 =>
                  rename_i vs3 cs3
                  have hlv3 := SS3.length
                  simp only [List.length_cons] at d3 hn1
                  refine call_read1 (ex := ciN I q' (tk0 + 1 + 1 + 1) lx) hF hT hap hg (by omega) (by first | exact lnb dec2.1 dec2.2 hl hln | exact lnb d1 d2 hl hln | exact lnb dec.1 dec.2 hl hln | exact lnb c1 c2 hl hln) B G3 X M3 (ci_out hI0) T rfl rfl rfl rfl (by k_room) (by k_units) fun tn4 g4 tk4 G4 M4 => ?_
                  have dec3 := dec_of dec2.1 dec2.2
                  generalize (if c3 = 10 then ln2 + 1 else ln2) = ln3 at *
                  k_steps
                  refine ⟨cs3.length, by omega, ?_⟩
                  · rename Fr _ _ _ _ => G5
                    rename News _ _ _ _ => M5
                    refine ⟨acc1 ++ [c3], cs3, ⟨_, _, _, _, vs3, _, _, _, rfl, fr_tok2 G5 (str_snoc acc1 c3), M5, SS3, dec3.1, dec3.2, by simp only [List.length_append, List.length_cons, List.length_nil]; omega⟩, ?_, rfl⟩
                    rw [← htb]; exact (tokP_b1 hw2 hb2).symm
              refine ⟨cs2.length, by omega, ?_⟩
              · rename (Builtin.Str.occurrences _ _ _ _ _).isEmpty = _ => hw2; have hw2 := ws_of hw2; simp only [Bool.not_false, Bool.not_true] at hw2
                rename (_ == Str.ofString "\\") = _ => hb2
                rw [beq_back] at hb2
                simp only [beq_eq_false_iff_ne] at hb2
                rename Fr _ _ _ _ => G5
                rename News _ _ _ _ => M5
                refine ⟨acc1 ++ [c2], cs2, ⟨_, _, _, _, vs2, _, _, _, rfl, fr_tok G5 (str_snoc acc1 c2), M5, SS2, dec2.1, dec2.2, by simp only [List.length_append, List.length_cons, List.length_nil]; omega⟩, ?_, rfl⟩
                rw [← htb]; exact (tokP_c hw2 hb2).symm
              · rename (Builtin.Str.occurrences _ _ _ _ _).isEmpty = _ => hw2; have hw2 := ws_of hw2; simp only [Bool.not_false, Bool.not_true] at hw2
                rename Fr _ _ _ _ => G3
                rename News _ _ _ _ => M3
                have hT2 : tokA cs = (acc1, cs2) := by rw [← htb]; exact tokP_stop hw2
                refine leaveH (now := lexN lx dx P a b c d ln2 tn2 (.ref x2) tw e [] e1 ++ (sg, lstO vs2 (e21 + 1)) :: rest) G3 (fun p hp => M3 p (.tail _ (.tail _ hp))) ?_
                exact ⟨⟨_, by rw [hT2]⟩, _, _, _, _, rfl, by rw [hT2]; exact SS2, by rw [hT2]; exact dec2.1, dec2.2⟩
    · refine next_ci_ended rfl (N' (I, ciE) (List.Mem.head _)).1 fun h'' k => ?_
      have F1 := F'.keeps k
      have N1 : News g L' h'' ((I, ciE) :: (q', methodObj (.ref 35) (.ref lx)) :: (lexN lx dx P a b c d ln' tn' (.ref x2) tw e [] e1 ++ (sg, lstO ys' e2') :: rest)) := fun p hp => ⟨k _ _ (N' p hp).1, (N' p hp).2⟩
      k_steps
      rename Fr _ _ _ _ => F2
      rename News _ _ _ _ => N2
      refine leaveH (now := lexN lx dx P a b c d ln' tn' (.ref x2) tw e [] e1 ++ (sg, lstO ys' e2') :: rest) F2 (fun p hp => N2 p (.tail _ (.tail _ hp))) ?_
      exact ⟨⟨_, by rw [hta]⟩, _, _, _, _, rfl, by rw [hta]; exact S', by rw [hta]; exact c1, c2⟩
theorem zall : ∀ c : DD, zP (c.fW 0) (c.fLs 0) (c.fMe 0) (c.fMp 0) (c.fMp 1) (c.fA 0) (c.fA 1) (c.fA 2) (c.fA 3) (c.fA 4) (c.fA 5) (c.fIt 0) (c.fIt 1) (c.fIt 2) (c.fIt 3) (c.fI 0) (c.fT 0) (c.fT 1) (c.fN 0) (c.fN 1) (c.fN 2) (c.fLed 0) (c.fLv 0) (c.fLn 0) (c.fN 3) (c.fN 4) (c.fGd 0) (c.fEn 0) (c.fH 0) (c.fH 1) (c.fA 6) (c.fSh 0) (c.fE 0) := allD (by with_unfolding_all exact zcore)
end Z_tok_H_K
theorem tok_H_K (w : World) (loose : List Str) (mean : ExcName → Option Value) (mg mb : Str → Option Value) (lx dx P sg x2 tf : Addr) (a b c d : Int × Tok) (ln : Int) (tn : Tok) (tw : Tok) (e e1 e2 : Nat) (rest : List (Addr × Obj)) (hF : FeedIn x2 tf rest) (hT : TakeOk w loose mean mg mb tf sg rest) (hap : Apart [lx, dx, P, sg] rest) (hg : sg ≠ lx ∧ sg ≠ dx ∧ sg ≠ P)
  (ys : List Value) (cs : List Nat) (hys : SignsAre ys cs) (hl : cs.length < 99999) (hln : 0 ≤ ln ∧ ln < 100000) (dp un : Nat) (gd : Option (List Code)) (outer : List Env) (base g : Heap) (L' : Addr) (s : Shared) (E : Value → Shared → Prop) (B : Below (Ar dp un gd outer) base outer g) (F : Fr g L' s.heap (fun y => ([("self", .ref lx)] : List (Str × Value)).reverse.lookup y)) (N : News g L' s.heap ((lexN lx dx P a b c d ln tn (.ref x2) tw e [] e1 ++ (sg, lstO ys e2) :: rest))) (X : (Mine.hd.heap_1 w.params).In g) (T : Top topProg loose mean mg mb g) (hp : (fun _ => True : Heap → Prop) g) (hlt : ∀ p ∈ ((lexN lx dx P a b c d ln tn (.ref x2) tw e [] e1 ++ (sg, lstO ys e2) :: rest) : List (Addr × Obj)), p.1 < L') (hd : dp + 40 < recursionLimit) (hu : un + 10 * 40 < cLine) : WalkK w 42 dp un gd outer g L' s (fun r now => (∃ t, r = Value.str ⟨(tokA cs).1.toArray⟩ t) ∧ ∃ ln' tn' ys' e2', now = lexN lx dx P a b c d ln' tn' (.ref x2) tw e [] e1 ++ (sg, lstO ys' e2') :: rest ∧ SignsAre ys' (tokA cs).2 ∧ ln' + ((tokA cs).2.count 10 : Int) = ln + (cs.count 10 : Int) ∧ ln ≤ ln') E := by
  exact Z_tok_H_K.zall ⟨fun _ => w, fun _ => loose, fun _ => mean, fun i => [mg, mb].getD i mg, fun i => [lx, dx, P, sg, x2, tf, L'].getD i lx, fun i => [e, e1, e2, dp, un].getD i e, fun _ => ln, fun i => [tn, tw].getD i tn, anyD.fV, anyD.fS, anyD.fO, fun i => [base, g].getD i base, fun _ => s, fun _ => ys, anyD.fLi, fun _ => cs, anyD.fLb, fun _ => rest, anyD.fQ, fun _ => E, anyD.fB, fun i => [a, b, c, d].getD i a, anyD.fAv, anyD.fB3, fun _ => gd, fun _ => outer, anyD.fAr, anyD.fOv, anyD.fOp, anyD.fLa, anyD.fEnv, anyD.fSs, anyD.fSt, anyD.fSc, anyD.fP, anyD.fEx, anyD.fR, anyD.fPo, anyD.fCl, anyD.fY, anyD.fRR, anyD.fBB, anyD.fNl, anyD.fOa, anyD.fFd, anyD.fAo, anyD.fDe, anyD.fIv⟩ hF hT hap hg hys hl hln B F N X T hp hlt hd hu

theorem tok_H (w : World) (loose : List Str) (mean : ExcName → Option Value) (mg mb : Str → Option Value) (lx dx P sg x2 tf : Addr) (a b c d : Int × Tok) (ln : Int) (tn : Tok) (tw : Tok) (e e1 e2 : Nat) (rest : List (Addr × Obj)) (hF : FeedIn x2 tf rest) (hT : TakeOk w loose mean mg mb tf sg rest) (hap : Apart [lx, dx, P, sg] rest) (hg : sg ≠ lx ∧ sg ≠ dx ∧ sg ≠ P)
  (ys : List Value) (cs : List Nat) (hys : SignsAre ys cs) (hl : cs.length < 99999) (hln : 0 ≤ ln ∧ ln < 100000) :
  HC w loose mean mg mb 40 42 [.ref lx] (lexN lx dx P a b c d ln tn (.ref x2) tw e [] e1 ++ (sg, lstO ys e2) :: rest) (fun _ => True)
   (fun r now => (∃ t, r = Value.str ⟨(tokA cs).1.toArray⟩ t) ∧ ∃ ln' tn' ys' e2', now = lexN lx dx P a b c d ln' tn' (.ref x2) tw e [] e1 ++ (sg, lstO ys' e2') :: rest ∧ SignsAre ys' (tokA cs).2 ∧ ln' + ((tokA cs).2.count 10 : Int) = ln + (cs.count 10 : Int) ∧ ln ≤ ln') := by
  unfold HC; k_fill
  refine' enterH (pre' := fun _ => True) (binds := [("self", .ref lx)]) ?k6 ?k7 ?k9 ?kB ?kP ?kW ?c5 ?c2 ?c3 ?c4 ?c6
  k_extra "mine enter"
  (case kP => exact fun _ _ h _ => h)
  intro dp un gd outer base g L' s E B F N X T hp hlt hd hu
  exact walkB_of (by k_is) (tok_H_K w loose mean mg mb lx dx P sg x2 tf a b c d ln tn tw e e1 e2 rest hF hT hap hg ys cs hys hl hln dp un gd outer base g L' s E B F N X T hp hlt hd hu)

end
end
section
open LCg in
noncomputable def SrcS (prog : Program) (w : World) (A : Around) (h₀ : Heap) (L : Addr) (m : Str → Option Value) (env : Env) (elt : Expr) (x : Str) (scope : Scope) (cl : List (Str × Addr)) (Fin : Shared → List Value → List (Addr × Obj) → Prop) (xv : Value) (s₁ : Shared) : Prop :=
  ∃ z t news, xv = .str z t ∧ A.handled = none ∧ Fr h₀ L s₁.heap m ∧ News h₀ L s₁.heap news ∧ z.cps.size ≤ sizeLine ∧
    ∀ s₂ : Shared, (∃ h, s₂ = { s₁ with heap := h }) → CompRest prog w A h₀ L m env elt x scope cl s₂ (fun _ => True) (SignAt z) (Fin s₂) z.cps.size 0 [] news
open LCg in
noncomputable def SrcB (prog : Program) (w : World) (A : Around) (h₀ : Heap) (L : Addr) (m : Str → Option Value) (env : Env) (elt : Expr) (x : Str) (scope : Scope) (cl : List (Str × Addr)) (Fin : Shared → List Value → List (Addr × Obj) → Prop) (xv : Value) (s₁ : Shared) : Prop :=
  ∃ z t news, xv = .bytes z t ∧ A.handled = none ∧ Fr h₀ L s₁.heap m ∧ News h₀ L s₁.heap news ∧ z.size ≤ sizeLine ∧
    ∀ s₂ : Shared, (∃ h, s₂ = { s₁ with heap := h }) → CompRest prog w A h₀ L m env elt x scope cl s₂ (fun _ => True) (fun i v => ∃ c u, z[i]? = some c ∧ v = .int (c.toNat : Int) u) (Fin s₂) z.size 0 [] news
noncomputable def SrcW (prog : Program) (w : World) (A : Around) (h₀ : Heap) (L : Addr) (m : Str → Option Value) (env : Env) (elt : Expr) (x : Str) (scope : Scope) (cl : List (Str × Addr)) (Fin : Shared → List Value → List (Addr × Obj) → Prop) (xv : Value) (s₁ : Shared) : Prop :=
  SrcS prog w A h₀ L m env elt x scope cl Fin xv s₁ ∨ SrcB prog w A h₀ L m env elt x scope cl Fin xv s₁
section
open LCg
variable {prog : Program} {w : World} {A : Around} {E : Value → Shared → Prop} {s : Shared} {h₀ : Heap} {L : Addr} {m : Str → Option Value} {env : Env}
theorem block_str {elt iter : Expr} {x : Str} {px : Pos} {scope : Scope} {cl : List (Str × Addr)} {pos : Pos} {z : Str} {t : Tok} {T : String} {s₁ : Shared} {news : List (Addr × Obj)} {Q : Value → Shared → Prop} {o : Obj}
    (W : Walks prog w A s₁.heap.objs.size [s₁.heap.objs.size] [s₁.heap.objs.size] z.cps.size (SignAt z) (fun i h => h.IsStrIter s₁.heap.objs.size T z t i)) (hst : (s₁.heap.push o).IsStrIter s₁.heap.objs.size T z t 0) 
    (hcell : ∀ y ∈ scope.names, y.2 ≠ .cell) (hkind : scope.kind = .function) (hx : scope.names.lookup x = some .local)
    (F : Fr h₀ L s₁.heap m) (N : News h₀ L s₁.heap news) (hsz : z.cps.size ≤ sizeLine)
    (R : CompRest prog w A h₀ L m env elt x scope cl { s₁ with heap := s₁.heap.push o } (fun _ => True) (SignAt z) (FinE h₀ L m { s₁ with heap := s₁.heap.push o } Q) z.cps.size 0 [] news) 
    {RR : Value → Addr → Result → Shared → Prop} (hRR : ∀ D C h tk m' ys news', Fr h₀ L h m → News h₀ L h ((D, lst ys) :: news') → Off1 D news' → h.Ns C m' → h₀.get? C = none → h₀.get? D = none → C ≠ L → D ≠ L → C ≠ D → (∀ p ∈ news', p.1 ≠ C) → FinE h₀ L m { s₁ with heap := s₁.heap.push o } Q ys news' → RR (.ref D) C (.ok .next) { s₁ with heap := h, toks := tk }) :
    wpAny (model prog w) A (newList []) (fun acc s₃ => wpAny (model prog w) A (newFunctionEnv scope env.globals cl [] env.qual none .none (some env)) (fun cenv s₄ =>
      codeAny (model prog w) A (.compStart (.ListComp elt [⟨.Name x px, iter, [], 0⟩] scope pos) 0 (.ref s₁.heap.objs.size) acc { cenv with scope := relabel scope env }) (RR acc cenv.locals) s₄) E s₃) E { s₁ with heap := s₁.heap.push o } := by
  k_with "x5" => skip
  refine block_U W hsz (fun i h st => by obtain ⟨o, e, _⟩ := st; exact ⟨o, e⟩) (fun i h h' o nw st e e' _ _ _ => by obtain ⟨o', q, r⟩ := st; rw [e] at q; cases q; exact ⟨o, e', r⟩) hcell hkind hx hst (fun b hb => ?_)
    (F.keeps fun _ _ e => Heap.get?_push_of_some _ e) (N.grown fun _ _ e => Heap.get?_push_of_some _ e) (Nat.ne_of_lt F.ns.lt) (next_is_new F) (fun p hp => Nat.ne_of_lt (Heap.lt_size (N p hp).1)) trivial R ?_
  · rw [List.mem_singleton.mp hb]
    show s₁.heap.objs.size < (s₁.heap.push _).objs.size
    rw [Heap.size_push]; exact Nat.lt_succ_self _
  · intro D C h tk m' ys news' F' N' o1 hn hC₀ hD₀ hCL hDL hCD offC fin
    exact hRR D C h tk m' ys news' F' N' o1 hn hC₀ hD₀ hCL hDL hCD offC fin
theorem ListComp_W {elt iter : Expr} {x : Str} {px : Pos} {scope : Scope} {cl : List (Str × Addr)} {pos : Pos} {Q : Value → Shared → Prop} (F₀ : Fr h₀ L s.heap m)
    (hclos : closureFor scope env = pure cl) (hcell : ∀ y ∈ scope.names, y.2 ≠ .cell) (hkind : scope.kind = .function)
    (hnames : ∀ y ∈ scope.names, y.2 = .local → scope.names.lookup y.1 = some .local) (hx : scope.names.lookup x = some .local)
    (h : wpAny (model prog w) A (eval iter env) (SrcW prog w A h₀ L m env elt x scope cl (fun s₂ => FinE h₀ L m s₂ Q)) E s)
    (hs : ∀ x, foldedSetIterable iter env x = pure x := by intro _; rfl) :
    wpAny (model prog w) A (eval (.ListComp elt [⟨.Name x px, iter, [], 0⟩] scope pos) env) Q E s := by
  rw [eval_ListComp]
  refine wpAny_comprehension_free (use := none) rfl hs hclos hkind hnames (wpAny_mono h (fun xv s₁ h₁ => ?_) fun _ _ e => e)
  have fin : ∀ (o : Obj) (D C : Addr) (h : Heap) (tk : Nat) (m' : Str → Option Value) (ys : List Value) (news' : List (Addr × Obj)), Fr h₀ L h m → News h₀ L h ((D, lst ys) :: news') → Off1 D news' → h.Ns C m' → h₀.get? C = none → h₀.get? D = none → C ≠ L → D ≠ L → C ≠ D → (∀ p ∈ news', p.1 ≠ C) → FinE h₀ L m { s₁ with heap := s₁.heap.push o } Q ys news' → 
     ∃ m', h.Ns C m' ∧ ∀ h'' : Heap, Heap.SameBut C h h'' → Q (.ref D) { s₁ with heap := h'', toks := tk } := by
    intro o D C h tk m' ys news' F' N' o1 hn hC₀ hD₀ hCL hDL hCD offC fin
    refine ⟨m', hn, fun h'' hs'' => fin D h'' tk (F'.change hs'' hCL hC₀) (fun p hp => ?_) o1⟩
    refine ⟨hs''.extBut _ _ ?_ (N' p hp).1, (N' p hp).2⟩
    rcases List.mem_cons.mp hp with rfl | hp
    · exact Ne.symm hCD
    · exact offC p hp
  rcases h₁ with ⟨z, t, news, rfl, hh, F, N, hsz, R⟩ | ⟨z, t, news, rfl, hh, F, N, hsz, R⟩
  · cases ha : z.cps.all (· < 128)
    · refine wpAny_pyIter_wide ha ?_
      exact block_str (Walks.strWide hh _ z t) ⟨_, Heap.get?_push_size _ rfl, rfl, rfl⟩ hcell hkind hx F N hsz (R _ ⟨_, rfl⟩) (fin _)
    · refine wpAny_pyIter_ascii ha ?_
      exact block_str (Walks.strAscii hh _ z t) ⟨_, Heap.get?_push_size _ rfl, rfl, rfl⟩ hcell hkind hx F N hsz (R _ ⟨_, rfl⟩) (fin _)
  · refine KBw.pyIter_bytes ?_
    refine block_U (KBw.walks hh _ z t) hsz (fun i h st => by obtain ⟨o, e, _⟩ := st; exact ⟨o, e⟩) (fun i h h' o nw st e e' _ _ _ => by obtain ⟨o', q, r⟩ := st; rw [e] at q; cases q; exact ⟨o, e', r⟩) hcell hkind hx ⟨_, Heap.get?_push_size _ rfl, rfl, rfl⟩ (fun b hb => ?_)
      (F.keeps fun _ _ e => Heap.get?_push_of_some _ e) (N.grown fun _ _ e => Heap.get?_push_of_some _ e) (Nat.ne_of_lt F.ns.lt) (next_is_new F) (fun p hp => Nat.ne_of_lt (Heap.lt_size (N p hp).1)) trivial (R _ ⟨_, rfl⟩) (fin _)
    rw [List.mem_singleton.mp hb]
    show s₁.heap.objs.size < (s₁.heap.push _).objs.size
    rw [Heap.size_push]; exact Nat.lt_succ_self _
end
end
section
section
variable (w : World) (loose : List Str) (mean : ExcName → Option Value) (mg mb : Str → Option Value)
theorem nt_H (x : Int) (t : Tok) (b : Bool) (hb : decide (256 ≤ x) = b) : HC w loose mean mg mb 10 91 [.int x t] [] (fun _ => True) (fun v now => now = [] ∧ v = .bool b) := by
  unfold HC; k_fill
  refine' enterH (pre' := fun _ => True) (binds := [("x", .int x t)]) ?k6 ?k7 ?k9 ?kB ?kP ?kW ?c5 ?c2 ?c3 ?c4 ?c6
  k_extra "mine enter"
  (case kP => exact fun _ _ h _ => h)
  intro dp un gd outer base g L' s E B F N X T hp hlt hd hu
  k_steps
  exact leaveH (by assumption) (by assumption) ⟨rfl, by rw [← hb]⟩
theorem tm_H (x : Int) (t : Tok) (b : Bool) (hb : decide (x < 256) = b) : HC w loose mean mg mb 10 84 [.int x t] [] (fun _ => True) (fun v now => now = [] ∧ v = .bool b) := by
  unfold HC; k_fill
  refine' enterH (pre' := fun _ => True) (binds := [("x", .int x t)]) ?k6 ?k7 ?k9 ?kB ?kP ?kW ?c5 ?c2 ?c3 ?c4 ?c6
  k_extra "mine enter"
  (case kP => exact fun _ _ h _ => h)
  intro dp un gd outer base g L' s E B F N X T hp hlt hd hu
  k_steps
  exact leaveH (by assumption) (by assumption) ⟨rfl, by rw [← hb]⟩
theorem eof_H (x : Int) (t : Tok) (b : Bool) (hb : (x == 0) = b) : HC w loose mean mg mb 10 98 [.int x t] [] (fun _ => True) (fun v now => now = [] ∧ v = .bool b) := by
  unfold HC; k_fill
  refine' enterH (pre' := fun _ => True) (binds := [("x", .int x t)]) ?k6 ?k7 ?k9 ?kB ?kP ?kW ?c5 ?c2 ?c3 ?c4 ?c6
  k_extra "mine enter"
  (case kP => exact fun _ _ h _ => h)
  intro dp un gd outer base g L' s E B F N X T hp hlt hd hu
  k_steps
  exact leaveH (by assumption) (by assumption) ⟨rfl, by rw [← hb]⟩
theorem goes_H (x : Int) (t : Tok) : HC w loose mean mg mb 30 129 [.int x t] [] (fun _ => True) (fun v now => now = [] ∧ ∃ t, v = .int (if 256 ≤ x then 1 else 0) t) := by
  k_with "call ref" => ((fail_if_success k_extra "x6"); k_here; k_dflt ((show wpAny _ _ (call (Value.ref 91) [Value.int _ _]) _ _ _); refine' useP (nt_H _ _ _ _ _ _ _ true (by exact decide_eq_true (by omega))) (by assumption) (by assumption) (by assumption) (by assumption) (by assumption) (by exact rfl) (by exact rfl) (by exact rfl) (by exact rfl) (by (simp only [depth_deeper, Ar]; omega)) (by (simp only [units_deeper, Ar]; omega)) trivial ?_; intro v' now' h' tk' P' F' N' l'; (obtain ⟨e1', e2'⟩ := P'); subst e1'; subst e2'; clear l'; (try dsimp only [List.nil_append] at N'); revert h' tk' F' N'; intro _ _ _ _))
  k_with "call ref" => ((fail_if_success k_extra "x6"); k_here; k_dflt ((show wpAny _ _ (call (Value.ref 91) [Value.int _ _]) _ _ _); refine' useP (nt_H _ _ _ _ _ _ _ false (by exact decide_eq_false (by omega))) (by assumption) (by assumption) (by assumption) (by assumption) (by assumption) (by exact rfl) (by exact rfl) (by exact rfl) (by exact rfl) (by (simp only [depth_deeper, Ar]; omega)) (by (simp only [units_deeper, Ar]; omega)) trivial ?_; intro v' now' h' tk' P' F' N' l'; (obtain ⟨e1', e2'⟩ := P'); subst e1'; subst e2'; clear l'; (try dsimp only [List.nil_append] at N'); revert h' tk' F' N'; intro _ _ _ _))
  k_with "call ref" => ((fail_if_success k_extra "x6"); k_here; k_dflt ((show wpAny _ _ (call (Value.ref 84) [Value.int _ _]) _ _ _); refine' useP (tm_H _ _ _ _ _ _ _ true (by exact decide_eq_true (by omega))) (by assumption) (by assumption) (by assumption) (by assumption) (by assumption) (by exact rfl) (by exact rfl) (by exact rfl) (by exact rfl) (by (simp only [depth_deeper, Ar]; omega)) (by (simp only [units_deeper, Ar]; omega)) trivial ?_; intro v' now' h' tk' P' F' N' l'; (obtain ⟨e1', e2'⟩ := P'); subst e1'; subst e2'; clear l'; (try dsimp only [List.nil_append] at N'); revert h' tk' F' N'; intro _ _ _ _))
  k_with "call ref" => ((fail_if_success k_extra "x6"); k_here; k_dflt ((show wpAny _ _ (call (Value.ref 84) [Value.int _ _]) _ _ _); refine' useP (tm_H _ _ _ _ _ _ _ false (by exact decide_eq_false (by omega))) (by assumption) (by assumption) (by assumption) (by assumption) (by assumption) (by exact rfl) (by exact rfl) (by exact rfl) (by exact rfl) (by (simp only [depth_deeper, Ar]; omega)) (by (simp only [units_deeper, Ar]; omega)) trivial ?_; intro v' now' h' tk' P' F' N' l'; (obtain ⟨e1', e2'⟩ := P'); subst e1'; subst e2'; clear l'; (try dsimp only [List.nil_append] at N'); revert h' tk' F' N'; intro _ _ _ _))
  unfold HC; k_fill
  refine' enterH (pre' := fun _ => True) (binds := [("symbol", .int x t)]) ?k6 ?k7 ?k9 ?kB ?kP ?kW ?c5 ?c2 ?c3 ?c4 ?c6
  k_extra "mine enter"
  (case kP => exact fun _ _ h _ => h)
  intro dp un gd outer base g L' s E B F N X T hp hlt hd hu
  by_cases hx : 256 ≤ x
  · k_steps
    exact leaveH (by assumption) (by assumption) ⟨rfl, _, by rw [if_pos hx]⟩
  · k_steps
    exact leaveH (by assumption) (by assumption) ⟨rfl, _, by rw [if_neg hx]⟩
end
end
section
section
theorem goes_V (w : World) (loose : List Str) (mean : ExcName → Option Value) (mg mb : Str → Option Value) (x : Int) (t : Tok) (b : Int) (hb : (if 256 ≤ x then (1 : Int) else 0) = b) : HC w loose mean mg mb 30 129 [.int x t] [] (fun _ => True) (fun v now => now = [] ∧ ∃ t, v = .int b t) := by
  subst hb; exact goes_H w loose mean mg mb x t
namespace Z_kind_H_K
noncomputable def zP (w : World) (loose : List Str) (mean : ExcName → Option Value) (mg : Str → Option Value) (mb : Str → Option Value) (x : Int) (t : Tok) (dp : Nat) (un : Nat) (gd : Option (List Code)) (outer : List Env) (base : Heap) (g : Heap) (L' : Addr) (s : Shared) (E : Value → Shared → Prop) : Prop := ∀ (hx : 0 ≤ x ∧ x < 512) (B : Below (Ar dp un gd outer) base outer g) (F : Fr g L' s.heap (fun y => ([("symbol", .int x t)] : List (Str × Value)).reverse.lookup y)) (N : News g L' s.heap ([])) (X : (Mine.hd.heap_1 w.params).In g) (T : Top topProg loose mean mg mb g) (hp : (fun _ => True : Heap → Prop) g) (hlt : ∀ p ∈ ([] : List (Addr × Obj)), p.1 < L') (hd : dp + 50 < recursionLimit) (hu : un + 10 * 50 < cLine), WalkK w 134 dp un gd outer g L' s (fun v now => now = [] ∧ ∃ t, v = .int (if 256 ≤ x then 1 else 0) t) E
noncomputable def zk : DD := pickD fun c => zP (c.fW 0) (c.fLs 0) (c.fMe 0) (c.fMp 0) (c.fMp 1) (c.fI 0) (c.fT 0) (c.fN 0) (c.fN 1) (c.fGd 0) (c.fEn 0) (c.fH 0) (c.fH 1) (c.fA 0) (c.fSh 0) (c.fE 0)
noncomputable section
@[irreducible] def w : World := zk.fW 0
@[irreducible] def loose : List Str := zk.fLs 0
@[irreducible] def mean : ExcName → Option Value := zk.fMe 0
@[irreducible] def mg : Str → Option Value := zk.fMp 0
@[irreducible] def mb : Str → Option Value := zk.fMp 1
@[irreducible] def x : Int := zk.fI 0
@[irreducible] def t : Tok := zk.fT 0
@[irreducible] def dp : Nat := zk.fN 0
@[irreducible] def un : Nat := zk.fN 1
@[irreducible] def gd : Option (List Code) := zk.fGd 0
@[irreducible] def outer : List Env := zk.fEn 0
@[irreducible] def base : Heap := zk.fH 0
@[irreducible] def g : Heap := zk.fH 1
@[irreducible] def L' : Addr := zk.fA 0
@[irreducible] def s : Shared := zk.fSh 0
@[irreducible] def E : Value → Shared → Prop := zk.fE 0
end
theorem zcore : zP w loose mean mg mb x t dp un gd outer base g L' s E := by
  k_with "x6" => skip
  k_with "call ref" => ((fail_if_success k_extra "x7"); k_here; k_dflt ((show wpAny _ _ (call (Value.ref 129) [Value.int _ _]) _ _ _); refine' useP (goes_V _ _ _ _ _ _ _ 0 (by exact if_neg (by omega))) (by assumption) (by assumption) (by assumption) (by assumption) (by assumption) (by exact rfl) (by exact rfl) (by exact rfl) (by exact rfl) (by (simp only [depth_deeper, Ar]; omega)) (by (simp only [units_deeper, Ar]; omega)) trivial ?_; intro v' now' h' tk' P' F' N' l'; (obtain ⟨e1', t', e2'⟩ := P'); subst e1'; subst e2'; clear l'; (try dsimp only [List.nil_append] at N'); revert h' tk' F' N' t'; intro _ _ _ _ _))
  k_with "call ref" => ((fail_if_success k_extra "x7"); k_here; k_dflt ((show wpAny _ _ (call (Value.ref 129) [Value.int _ _]) _ _ _); refine' useP (goes_V _ _ _ _ _ _ _ 1 (by exact if_pos (by omega))) (by assumption) (by assumption) (by assumption) (by assumption) (by assumption) (by exact rfl) (by exact rfl) (by exact rfl) (by exact rfl) (by (simp only [depth_deeper, Ar]; omega)) (by (simp only [units_deeper, Ar]; omega)) trivial ?_; intro v' now' h' tk' P' F' N' l'; (obtain ⟨e1', t', e2'⟩ := P'); subst e1'; subst e2'; clear l'; (try dsimp only [List.nil_append] at N'); revert h' tk' F' N' t'; intro _ _ _ _ _))
  unfold zP
  intro hx B F N X T hp hlt hd hu
  have _ : PySem.Challenge.rw_wo0016_01 = PySem.Challenge.rw_wo0016_01 ∧ Mine.hd.heap_1 = Mine.hd.heap_1 := by k_fill; exact ⟨rfl, rfl⟩
  refine' walkK_of ?k6 ?_; (case k6 => k_is)
  by_cases h6 : 256 ≤ x
  · k_steps
    rename Fr g _ _ _ => F2
    exact leaveH (now := []) F2 (fun p hp => nomatch hp) ⟨rfl, _, by rw [if_pos h6]; rfl⟩
  · k_steps
    rename Fr g _ _ _ => F2
    exact leaveH (now := []) F2 (fun p hp => nomatch hp) ⟨rfl, _, by rw [if_neg h6]; rfl⟩
theorem zall : ∀ c : DD, zP (c.fW 0) (c.fLs 0) (c.fMe 0) (c.fMp 0) (c.fMp 1) (c.fI 0) (c.fT 0) (c.fN 0) (c.fN 1) (c.fGd 0) (c.fEn 0) (c.fH 0) (c.fH 1) (c.fA 0) (c.fSh 0) (c.fE 0) := allD (by with_unfolding_all exact zcore)
end Z_kind_H_K
theorem kind_H_K (w : World) (loose : List Str) (mean : ExcName → Option Value) (mg mb : Str → Option Value) (x : Int) (t : Tok) (hx : 0 ≤ x ∧ x < 512) (dp un : Nat) (gd : Option (List Code)) (outer : List Env) (base g : Heap) (L' : Addr) (s : Shared) (E : Value → Shared → Prop) (B : Below (Ar dp un gd outer) base outer g) (F : Fr g L' s.heap (fun y => ([("symbol", .int x t)] : List (Str × Value)).reverse.lookup y)) (N : News g L' s.heap ([])) (X : (Mine.hd.heap_1 w.params).In g) (T : Top topProg loose mean mg mb g) (hp : (fun _ => True : Heap → Prop) g) (hlt : ∀ p ∈ ([] : List (Addr × Obj)), p.1 < L') (hd : dp + 50 < recursionLimit) (hu : un + 10 * 50 < cLine) : WalkK w 134 dp un gd outer g L' s (fun v now => now = [] ∧ ∃ t, v = .int (if 256 ≤ x then 1 else 0) t) E := by
  exact Z_kind_H_K.zall ⟨fun _ => w, fun _ => loose, fun _ => mean, fun i => [mg, mb].getD i mg, fun _ => L', fun i => [dp, un].getD i dp, fun _ => x, fun _ => t, anyD.fV, anyD.fS, anyD.fO, fun i => [base, g].getD i base, fun _ => s, anyD.fLv, anyD.fLi, anyD.fLn, anyD.fLb, anyD.fLed, anyD.fQ, fun _ => E, anyD.fB, anyD.fIt, anyD.fAv, anyD.fB3, fun _ => gd, fun _ => outer, anyD.fAr, anyD.fOv, anyD.fOp, anyD.fLa, anyD.fEnv, anyD.fSs, anyD.fSt, anyD.fSc, anyD.fP, anyD.fEx, anyD.fR, anyD.fPo, anyD.fCl, anyD.fY, anyD.fRR, anyD.fBB, anyD.fNl, anyD.fOa, anyD.fFd, anyD.fAo, anyD.fDe, anyD.fIv⟩ hx B F N X T hp hlt hd hu

theorem kind_H (w : World) (loose : List Str) (mean : ExcName → Option Value) (mg mb : Str → Option Value) (x : Int) (t : Tok) (hx : 0 ≤ x ∧ x < 512) : HC w loose mean mg mb 50 134 [.int x t] [] (fun _ => True) (fun v now => now = [] ∧ ∃ t, v = .int (if 256 ≤ x then 1 else 0) t) := by
  unfold HC; k_fill
  refine' enterH (pre' := fun _ => True) (binds := [("symbol", .int x t)]) ?k6 ?k7 ?k9 ?kB ?kP ?kW ?c5 ?c2 ?c3 ?c4 ?c6
  k_extra "mine enter"
  (case kP => exact fun _ _ h _ => h)
  intro dp un gd outer base g L' s E B F N X T hp hlt hd hu
  exact walkB_of (by k_is) (kind_H_K w loose mean mg mb x t hx dp un gd outer base g L' s E B F N X T hp hlt hd hu)

end
end
section
noncomputable def zipI (f : Nat → Tok) : Nat → List Int → List Value
  | _, [] => []
  | k, n :: r => .int n (f k) :: zipI f (k + 1) r
theorem zipI_eq {f f' : Nat → Tok} : ∀ (l : List Int) (k : Nat), (∀ i, k ≤ i → f i = f' i) → zipI f k l = zipI f' k l
  | [], _, _ => rfl
  | _ :: r, k, h => by rw [zipI, zipI, h k (Nat.le_refl k), zipI_eq r (k + 1) fun i hi => h i (Nat.le_of_succ_le hi)]
theorem ints_fn {ys : List Value} {ns : List Int} (H : IntsAre ys ns) : ∀ k, ∃ f : Nat → Tok, ys = zipI f k ns := by
  induction H with
  | nil => exact fun k => ⟨fun _ => default, rfl⟩
  | cons n t _ ih =>
    intro k
    obtain ⟨f, e⟩ := ih (k + 1)
    have g : ∀ i, k + 1 ≤ i → (fun i => if i = k then t else f i) i = f i := fun i hi => if_neg (Nat.ne_of_gt hi)
    exact ⟨fun i => if i = k then t else f i, by rw [zipI, zipI_eq _ (k + 1) g, if_pos rfl, e]⟩
theorem ints8 {ys : List Value} {a b c d e f g h : Int} (H : IntsAre ys [a, b, c, d, e, f, g, h]) : ∃ t0 t1 t2 t3 t4 t5 t6 t7, ys = [.int a t0, .int b t1, .int c t2, .int d t3, .int e t4, .int f t5, .int g t6, .int h t7] :=
  let ⟨f, e⟩ := ints_fn H 0
  ⟨f 0, f 1, f 2, f 3, f 4, f 5, f 6, f 7, e⟩
theorem fig_k {k : Int} (h0 : 0 ≤ k) (h8 : k < 8) : k = 0 ∨ k = 1 ∨ k = 2 ∨ k = 3 ∨ k = 4 ∨ k = 5 ∨ k = 6 ∨ k = 7 := by
  obtain ⟨n, rfl⟩ := Int.eq_ofNat_of_zero_le h0
  exact (by decide : ∀ i : Fin 8, ((i.val : Int) = 0 ∨ (i.val : Int) = 1 ∨ (i.val : Int) = 2 ∨ (i.val : Int) = 3 ∨ (i.val : Int) = 4 ∨ (i.val : Int) = 5 ∨ (i.val : Int) = 6 ∨ (i.val : Int) = 7)) ⟨n, Int.ofNat_lt.mp h8⟩
section
theorem figLI_ok {r k : Int} (hr : r = 184) (h0 : 0 ≤ k) (h8 : k < 8) : IntMulOk (r.fmod (2 ^ (k + 1).toNat)) (2 ^ (8 - k).toNat) := by
  subst hr
  rcases fig_k h0 h8 with h | h | h | h | h | h | h | h <;> subst h <;> exact IntMulOk.of_left (by decide)
theorem figLI_rng {r k : Int} (hr : r = 184) (h0 : 0 ≤ k) (h8 : k < 8) : 0 ≤ (r.fmod (2 ^ (k + 1).toNat)) * (2 ^ (8 - k).toNat) ∧ (r.fmod (2 ^ (k + 1).toNat)) * (2 ^ (8 - k).toNat) < 512 := by
  subst hr
  rcases fig_k h0 h8 with h | h | h | h | h | h | h | h <;> subst h <;> decide
namespace Z_fig
noncomputable def zP0 (w : World) (loose : List Str) (mean : ExcName → Option Value) (mg : Str → Option Value) (mb : Str → Option Value) (t : Tok) (dp : Nat) (un : Nat) (gd : Option (List Code)) (outer : List Env) (base : Heap) (g : Heap) (L' : Addr) (s : Shared) (E : Value → Shared → Prop) : Prop := ∀ cells : List (Addr × Obj), WalkC w loose mean mg mb 70 139 [("word", .str (Str.ofString "LI") t)] [] (fun _ => True) (fun v now => ∃ D e t0 t1 t2 t3 t4 t5 t6 t7, v = .ref D ∧ now = [(D, lstO [.int 0 t0, .int 0 t1, .int 0 t2, .int 1 t3, .int 1 t4, .int 1 t5, .int 0 t6, .int 1 t7] e)]) dp un gd outer base g L' s E cells
noncomputable def zP1 (w : World) (loose : List Str) (mean : ExcName → Option Value) (mg : Str → Option Value) (mb : Str → Option Value) (t : Tok) (dp : Nat) (un : Nat) (gd : Option (List Code)) (outer : List Env) (base : Heap) (g : Heap) (L' : Addr) (s : Shared) (E : Value → Shared → Prop) : Prop := ∀ cells : List (Addr × Obj), WalkC w loose mean mg mb 70 139 [("word", .str (Str.ofString "OC") t)] [] (fun _ => True) (fun v now => ∃ D e t0 t1 t2 t3 t4 t5 t6 t7, v = .ref D ∧ now = [(D, lstO [.int 0 t0, .int 1 t1, .int 0 t2, .int 0 t3, .int 0 t4, .int 1 t5, .int 1 t6, .int 1 t7] e)]) dp un gd outer base g L' s E cells
noncomputable def zP2 (w : World) (loose : List Str) (mean : ExcName → Option Value) (mg : Str → Option Value) (mb : Str → Option Value) (t : Tok) (dp : Nat) (un : Nat) (gd : Option (List Code)) (outer : List Env) (base : Heap) (g : Heap) (L' : Addr) (s : Shared) (E : Value → Shared → Prop) : Prop := ∀ cells : List (Addr × Obj), WalkC w loose mean mg mb 70 139 [("word", .str (Str.ofString "OI") t)] [] (fun _ => True) (fun v now => ∃ D e t0 t1 t2 t3 t4 t5 t6 t7, v = .ref D ∧ now = [(D, lstO [.int 0 t0, .int 0 t1, .int 0 t2, .int 1 t3, .int 0 t4, .int 1 t5, .int 1 t6, .int 1 t7] e)]) dp un gd outer base g L' s E cells
noncomputable def zk : DD := pickD fun c => zP0 (c.fW 0) (c.fLs 0) (c.fMe 0) (c.fMp 0) (c.fMp 1) (c.fT 0) (c.fN 0) (c.fN 1) (c.fGd 0) (c.fEn 0) (c.fH 0) (c.fH 1) (c.fA 0) (c.fSh 0) (c.fE 0) ∧ zP1 (c.fW 0) (c.fLs 0) (c.fMe 0) (c.fMp 0) (c.fMp 1) (c.fT 0) (c.fN 0) (c.fN 1) (c.fGd 0) (c.fEn 0) (c.fH 0) (c.fH 1) (c.fA 0) (c.fSh 0) (c.fE 0) ∧ zP2 (c.fW 0) (c.fLs 0) (c.fMe 0) (c.fMp 0) (c.fMp 1) (c.fT 0) (c.fN 0) (c.fN 1) (c.fGd 0) (c.fEn 0) (c.fH 0) (c.fH 1) (c.fA 0) (c.fSh 0) (c.fE 0)
noncomputable section
@[irreducible] def w : World := zk.fW 0
@[irreducible] def loose : List Str := zk.fLs 0
@[irreducible] def mean : ExcName → Option Value := zk.fMe 0
@[irreducible] def mg : Str → Option Value := zk.fMp 0
@[irreducible] def mb : Str → Option Value := zk.fMp 1
@[irreducible] def t : Tok := zk.fT 0
@[irreducible] def dp : Nat := zk.fN 0
@[irreducible] def un : Nat := zk.fN 1
@[irreducible] def gd : Option (List Code) := zk.fGd 0
@[irreducible] def outer : List Env := zk.fEn 0
@[irreducible] def base : Heap := zk.fH 0
@[irreducible] def g : Heap := zk.fH 1
@[irreducible] def L' : Addr := zk.fA 0
@[irreducible] def s : Shared := zk.fSh 0
@[irreducible] def E : Value → Shared → Prop := zk.fE 0
end
theorem zcore0 : zP0 w loose mean mg mb t dp un gd outer base g L' s E := by
  k_with "x7" => skip
  k_with "mine fmods" => ((fail_if_success k_extra "x8"); skip)
  k_with "call ref" => ((fail_if_success k_extra "x8"); k_here; k_dflt ((show wpAny _ _ (call (Value.ref 134) [Value.int _ _]) _ _ _); refine' useP (kind_H _ _ _ _ _ _ _ (by exact figLI_rng rfl (by omega) (by omega))) (by assumption) (by assumption) (by assumption) (by assumption) (by assumption) (by exact rfl) (by exact rfl) (by exact rfl) (by exact rfl) (by (simp only [depth_deeper, Ar]; omega)) (by (simp only [units_deeper, Ar]; omega)) trivial ?_; intro v' now' h' tk' P' F' N' l'; (obtain ⟨e1', t', e2'⟩ := P'); subst e1'; subst e2'; clear l'; (try dsimp only [List.nil_append] at N'); revert h' tk' F' N' t'; intro _ _ _ _ _))
  k_with "binaryOp Mult int int" => ((fail_if_success k_extra "x8"); k_here; (with_reducible show wpAny _ _ (binaryOp _ (Value.int (Int.fmod _ _) _) (Value.int (_ ^ _) _)) _ _ _); k_dflt (refine' mul_int ?_ (figLI_ok rfl (by omega) (by omega))))
  unfold zP0
  intro cells
  have _ : PySem.Challenge.rw_wo0016_01 = PySem.Challenge.rw_wo0016_01 ∧ Mine.hd.heap_1 = Mine.hd.heap_1 := by k_fill; exact ⟨rfl, rfl⟩
  refine' walkC_of ?k6 ?_; (case k6 => k_is)
  intro B F N Y X T hp hlt hd hu
  k_cells Y
  (try simp only [List.cons_append, List.nil_append] at N)
  k_steps
  rename IntsAre _ _ => HI
  rename News _ _ _ _ => NN
  rename Fr g _ _ _ => FF
  have HJ : IntsAre _ [0, 0, 0, 1, 1, 1, 0, 1] := HI
  obtain ⟨t0, t1, t2, t3, t4, t5, t6, t7, hY⟩ := ints8 HJ
  subst hY
  exact leaveH FF (fun p hp => NN p (by rw [List.mem_singleton.mp hp]; exact List.Mem.head _)) ⟨_, _, t0, t1, t2, t3, t4, t5, t6, t7, rfl, rfl⟩
end Z_fig

end
section
theorem figOC_ok {r k : Int} (hr : r = 226) (h0 : 0 ≤ k) (h8 : k < 8) : IntMulOk (r.fmod (2 ^ (k + 1).toNat)) (2 ^ (8 - k).toNat) := by
  subst hr
  rcases fig_k h0 h8 with h | h | h | h | h | h | h | h <;> subst h <;> exact IntMulOk.of_left (by decide)
theorem figOC_rng {r k : Int} (hr : r = 226) (h0 : 0 ≤ k) (h8 : k < 8) : 0 ≤ (r.fmod (2 ^ (k + 1).toNat)) * (2 ^ (8 - k).toNat) ∧ (r.fmod (2 ^ (k + 1).toNat)) * (2 ^ (8 - k).toNat) < 512 := by
  subst hr
  rcases fig_k h0 h8 with h | h | h | h | h | h | h | h <;> subst h <;> decide
namespace Z_fig
theorem zcore1 : zP1 w loose mean mg mb t dp un gd outer base g L' s E := by
  k_with "x8" => skip
  k_with "mine fmods" => ((fail_if_success k_extra "x9"); skip)
  k_with "call ref" => ((fail_if_success k_extra "x9"); k_here; k_dflt ((show wpAny _ _ (call (Value.ref 134) [Value.int _ _]) _ _ _); refine' useP (kind_H _ _ _ _ _ _ _ (by exact figOC_rng rfl (by omega) (by omega))) (by assumption) (by assumption) (by assumption) (by assumption) (by assumption) (by exact rfl) (by exact rfl) (by exact rfl) (by exact rfl) (by (simp only [depth_deeper, Ar]; omega)) (by (simp only [units_deeper, Ar]; omega)) trivial ?_; intro v' now' h' tk' P' F' N' l'; (obtain ⟨e1', t', e2'⟩ := P'); subst e1'; subst e2'; clear l'; (try dsimp only [List.nil_append] at N'); revert h' tk' F' N' t'; intro _ _ _ _ _))
  k_with "binaryOp Mult int int" => ((fail_if_success k_extra "x9"); k_here; (with_reducible show wpAny _ _ (binaryOp _ (Value.int (Int.fmod _ _) _) (Value.int (_ ^ _) _)) _ _ _); k_dflt (refine' mul_int ?_ (figOC_ok rfl (by omega) (by omega))))
  unfold zP1
  intro cells
  have _ : PySem.Challenge.rw_wo0016_01 = PySem.Challenge.rw_wo0016_01 ∧ Mine.hd.heap_1 = Mine.hd.heap_1 := by k_fill; exact ⟨rfl, rfl⟩
  refine' walkC_of ?k6 ?_; (case k6 => k_is)
  intro B F N Y X T hp hlt hd hu
  k_cells Y
  (try simp only [List.cons_append, List.nil_append] at N)
  k_steps
  rename IntsAre _ _ => HI
  rename News _ _ _ _ => NN
  rename Fr g _ _ _ => FF
  have HJ : IntsAre _ [0, 1, 0, 0, 0, 1, 1, 1] := HI
  obtain ⟨t0, t1, t2, t3, t4, t5, t6, t7, hY⟩ := ints8 HJ
  subst hY
  exact leaveH FF (fun p hp => NN p (by rw [List.mem_singleton.mp hp]; exact List.Mem.head _)) ⟨_, _, t0, t1, t2, t3, t4, t5, t6, t7, rfl, rfl⟩
end Z_fig

end
section
theorem figOI_ok {r k : Int} (hr : r = 232) (h0 : 0 ≤ k) (h8 : k < 8) : IntMulOk (r.fmod (2 ^ (k + 1).toNat)) (2 ^ (8 - k).toNat) := by
  subst hr
  rcases fig_k h0 h8 with h | h | h | h | h | h | h | h <;> subst h <;> exact IntMulOk.of_left (by decide)
theorem figOI_rng {r k : Int} (hr : r = 232) (h0 : 0 ≤ k) (h8 : k < 8) : 0 ≤ (r.fmod (2 ^ (k + 1).toNat)) * (2 ^ (8 - k).toNat) ∧ (r.fmod (2 ^ (k + 1).toNat)) * (2 ^ (8 - k).toNat) < 512 := by
  subst hr
  rcases fig_k h0 h8 with h | h | h | h | h | h | h | h <;> subst h <;> decide
namespace Z_fig
theorem zcore2 : zP2 w loose mean mg mb t dp un gd outer base g L' s E := by
  k_with "x9" => skip
  k_with "mine fmods" => ((fail_if_success k_extra "x10"); skip)
  k_with "call ref" => ((fail_if_success k_extra "x10"); k_here; k_dflt ((show wpAny _ _ (call (Value.ref 134) [Value.int _ _]) _ _ _); refine' useP (kind_H _ _ _ _ _ _ _ (by exact figOI_rng rfl (by omega) (by omega))) (by assumption) (by assumption) (by assumption) (by assumption) (by assumption) (by exact rfl) (by exact rfl) (by exact rfl) (by exact rfl) (by (simp only [depth_deeper, Ar]; omega)) (by (simp only [units_deeper, Ar]; omega)) trivial ?_; intro v' now' h' tk' P' F' N' l'; (obtain ⟨e1', t', e2'⟩ := P'); subst e1'; subst e2'; clear l'; (try dsimp only [List.nil_append] at N'); revert h' tk' F' N' t'; intro _ _ _ _ _))
  k_with "binaryOp Mult int int" => ((fail_if_success k_extra "x10"); k_here; (with_reducible show wpAny _ _ (binaryOp _ (Value.int (Int.fmod _ _) _) (Value.int (_ ^ _) _)) _ _ _); k_dflt (refine' mul_int ?_ (figOI_ok rfl (by omega) (by omega))))
  unfold zP2
  intro cells
  have _ : PySem.Challenge.rw_wo0016_01 = PySem.Challenge.rw_wo0016_01 ∧ Mine.hd.heap_1 = Mine.hd.heap_1 := by k_fill; exact ⟨rfl, rfl⟩
  refine' walkC_of ?k6 ?_; (case k6 => k_is)
  intro B F N Y X T hp hlt hd hu
  k_cells Y
  (try simp only [List.cons_append, List.nil_append] at N)
  k_steps
  rename IntsAre _ _ => HI
  rename News _ _ _ _ => NN
  rename Fr g _ _ _ => FF
  have HJ : IntsAre _ [0, 0, 0, 1, 0, 1, 1, 1] := HI
  obtain ⟨t0, t1, t2, t3, t4, t5, t6, t7, hY⟩ := ints8 HJ
  subst hY
  exact leaveH FF (fun p hp => NN p (by rw [List.mem_singleton.mp hp]; exact List.Mem.head _)) ⟨_, _, t0, t1, t2, t3, t4, t5, t6, t7, rfl, rfl⟩
theorem zall : ∀ c : DD, zP0 (c.fW 0) (c.fLs 0) (c.fMe 0) (c.fMp 0) (c.fMp 1) (c.fT 0) (c.fN 0) (c.fN 1) (c.fGd 0) (c.fEn 0) (c.fH 0) (c.fH 1) (c.fA 0) (c.fSh 0) (c.fE 0) ∧ zP1 (c.fW 0) (c.fLs 0) (c.fMe 0) (c.fMp 0) (c.fMp 1) (c.fT 0) (c.fN 0) (c.fN 1) (c.fGd 0) (c.fEn 0) (c.fH 0) (c.fH 1) (c.fA 0) (c.fSh 0) (c.fE 0) ∧ zP2 (c.fW 0) (c.fLs 0) (c.fMe 0) (c.fMp 0) (c.fMp 1) (c.fT 0) (c.fN 0) (c.fN 1) (c.fGd 0) (c.fEn 0) (c.fH 0) (c.fH 1) (c.fA 0) (c.fSh 0) (c.fE 0) := allD (by with_unfolding_all exact ⟨zcore0, zcore1, zcore2⟩)
end Z_fig
theorem figLI_H_K (w : World) (loose : List Str) (mean : ExcName → Option Value) (mg mb : Str → Option Value) (t : Tok) (dp un : Nat) (gd : Option (List Code)) (outer : List Env) (base g : Heap) (L' : Addr) (s : Shared) (E : Value → Shared → Prop) : ∀ cells : List (Addr × Obj), WalkC w loose mean mg mb 70 139 [("word", .str (Str.ofString "LI") t)] [] (fun _ => True) (fun v now => ∃ D e t0 t1 t2 t3 t4 t5 t6 t7, v = .ref D ∧ now = [(D, lstO [.int 0 t0, .int 0 t1, .int 0 t2, .int 1 t3, .int 1 t4, .int 1 t5, .int 0 t6, .int 1 t7] e)]) dp un gd outer base g L' s E cells := by
  exact (Z_fig.zall ⟨fun _ => w, fun _ => loose, fun _ => mean, fun i => [mg, mb].getD i mg, fun _ => L', fun i => [dp, un].getD i dp, anyD.fI, fun _ => t, anyD.fV, anyD.fS, anyD.fO, fun i => [base, g].getD i base, fun _ => s, anyD.fLv, anyD.fLi, anyD.fLn, anyD.fLb, anyD.fLed, anyD.fQ, fun _ => E, anyD.fB, anyD.fIt, anyD.fAv, anyD.fB3, fun _ => gd, fun _ => outer, anyD.fAr, anyD.fOv, anyD.fOp, anyD.fLa, anyD.fEnv, anyD.fSs, anyD.fSt, anyD.fSc, anyD.fP, anyD.fEx, anyD.fR, anyD.fPo, anyD.fCl, anyD.fY, anyD.fRR, anyD.fBB, anyD.fNl, anyD.fOa, anyD.fFd, anyD.fAo, anyD.fDe, anyD.fIv⟩).1 
theorem figLI_H (w : World) (loose : List Str) (mean : ExcName → Option Value) (mg mb : Str → Option Value) (t : Tok) : HC w loose mean mg mb 70 139 [.str (Str.ofString "LI") t] [] (fun _ => True) (fun v now => ∃ D e t0 t1 t2 t3 t4 t5 t6 t7, v = .ref D ∧ now = [(D, lstO [.int 0 t0, .int 0 t1, .int 0 t2, .int 1 t3, .int 1 t4, .int 1 t5, .int 0 t6, .int 1 t7] e)]) := by
  unfold HC; k_fill
  refine' enterC (pre' := fun _ => True) (binds := [("word", .str (Str.ofString "LI") t)]) ?k6 ?k7 ?k9 ?kB ?kD ?kP ?kW ?c2 ?c3 ?c4 ?c6
  (case k6 => k_is); (case k7 => k_is); (case k9 => exact fun _ => BindsTo.of_eq rfl); (case kB => exact rfl); (case kD => decide +kernel); (case c2 => exact rfl); (case c3 => exact rfl); (case c4 => exact rfl); (case c6 => decide); (case kP => exact fun _ _ h _ => h)
  exact fun dp un gd outer base g L' s E cells => bodyC_of (by k_is) (figLI_H_K w loose mean mg mb t dp un gd outer base g L' s E cells)

theorem figOC_H_K (w : World) (loose : List Str) (mean : ExcName → Option Value) (mg mb : Str → Option Value) (t : Tok) (dp un : Nat) (gd : Option (List Code)) (outer : List Env) (base g : Heap) (L' : Addr) (s : Shared) (E : Value → Shared → Prop) : ∀ cells : List (Addr × Obj), WalkC w loose mean mg mb 70 139 [("word", .str (Str.ofString "OC") t)] [] (fun _ => True) (fun v now => ∃ D e t0 t1 t2 t3 t4 t5 t6 t7, v = .ref D ∧ now = [(D, lstO [.int 0 t0, .int 1 t1, .int 0 t2, .int 0 t3, .int 0 t4, .int 1 t5, .int 1 t6, .int 1 t7] e)]) dp un gd outer base g L' s E cells := by
  exact (Z_fig.zall ⟨fun _ => w, fun _ => loose, fun _ => mean, fun i => [mg, mb].getD i mg, fun _ => L', fun i => [dp, un].getD i dp, anyD.fI, fun _ => t, anyD.fV, anyD.fS, anyD.fO, fun i => [base, g].getD i base, fun _ => s, anyD.fLv, anyD.fLi, anyD.fLn, anyD.fLb, anyD.fLed, anyD.fQ, fun _ => E, anyD.fB, anyD.fIt, anyD.fAv, anyD.fB3, fun _ => gd, fun _ => outer, anyD.fAr, anyD.fOv, anyD.fOp, anyD.fLa, anyD.fEnv, anyD.fSs, anyD.fSt, anyD.fSc, anyD.fP, anyD.fEx, anyD.fR, anyD.fPo, anyD.fCl, anyD.fY, anyD.fRR, anyD.fBB, anyD.fNl, anyD.fOa, anyD.fFd, anyD.fAo, anyD.fDe, anyD.fIv⟩).2.1 
theorem figOC_H (w : World) (loose : List Str) (mean : ExcName → Option Value) (mg mb : Str → Option Value) (t : Tok) : HC w loose mean mg mb 70 139 [.str (Str.ofString "OC") t] [] (fun _ => True) (fun v now => ∃ D e t0 t1 t2 t3 t4 t5 t6 t7, v = .ref D ∧ now = [(D, lstO [.int 0 t0, .int 1 t1, .int 0 t2, .int 0 t3, .int 0 t4, .int 1 t5, .int 1 t6, .int 1 t7] e)]) := by
  unfold HC; k_fill
  refine' enterC (pre' := fun _ => True) (binds := [("word", .str (Str.ofString "OC") t)]) ?k6 ?k7 ?k9 ?kB ?kD ?kP ?kW ?c2 ?c3 ?c4 ?c6
  (case k6 => k_is); (case k7 => k_is); (case k9 => exact fun _ => BindsTo.of_eq rfl); (case kB => exact rfl); (case kD => decide +kernel); (case c2 => exact rfl); (case c3 => exact rfl); (case c4 => exact rfl); (case c6 => decide); (case kP => exact fun _ _ h _ => h)
  exact fun dp un gd outer base g L' s E cells => bodyC_of (by k_is) (figOC_H_K w loose mean mg mb t dp un gd outer base g L' s E cells)

theorem figOI_H_K (w : World) (loose : List Str) (mean : ExcName → Option Value) (mg mb : Str → Option Value) (t : Tok) (dp un : Nat) (gd : Option (List Code)) (outer : List Env) (base g : Heap) (L' : Addr) (s : Shared) (E : Value → Shared → Prop) : ∀ cells : List (Addr × Obj), WalkC w loose mean mg mb 70 139 [("word", .str (Str.ofString "OI") t)] [] (fun _ => True) (fun v now => ∃ D e t0 t1 t2 t3 t4 t5 t6 t7, v = .ref D ∧ now = [(D, lstO [.int 0 t0, .int 0 t1, .int 0 t2, .int 1 t3, .int 0 t4, .int 1 t5, .int 1 t6, .int 1 t7] e)]) dp un gd outer base g L' s E cells := by
  exact (Z_fig.zall ⟨fun _ => w, fun _ => loose, fun _ => mean, fun i => [mg, mb].getD i mg, fun _ => L', fun i => [dp, un].getD i dp, anyD.fI, fun _ => t, anyD.fV, anyD.fS, anyD.fO, fun i => [base, g].getD i base, fun _ => s, anyD.fLv, anyD.fLi, anyD.fLn, anyD.fLb, anyD.fLed, anyD.fQ, fun _ => E, anyD.fB, anyD.fIt, anyD.fAv, anyD.fB3, fun _ => gd, fun _ => outer, anyD.fAr, anyD.fOv, anyD.fOp, anyD.fLa, anyD.fEnv, anyD.fSs, anyD.fSt, anyD.fSc, anyD.fP, anyD.fEx, anyD.fR, anyD.fPo, anyD.fCl, anyD.fY, anyD.fRR, anyD.fBB, anyD.fNl, anyD.fOa, anyD.fFd, anyD.fAo, anyD.fDe, anyD.fIv⟩).2.2 
theorem figOI_H (w : World) (loose : List Str) (mean : ExcName → Option Value) (mg mb : Str → Option Value) (t : Tok) : HC w loose mean mg mb 70 139 [.str (Str.ofString "OI") t] [] (fun _ => True) (fun v now => ∃ D e t0 t1 t2 t3 t4 t5 t6 t7, v = .ref D ∧ now = [(D, lstO [.int 0 t0, .int 0 t1, .int 0 t2, .int 1 t3, .int 0 t4, .int 1 t5, .int 1 t6, .int 1 t7] e)]) := by
  unfold HC; k_fill
  refine' enterC (pre' := fun _ => True) (binds := [("word", .str (Str.ofString "OI") t)]) ?k6 ?k7 ?k9 ?kB ?kD ?kP ?kW ?c2 ?c3 ?c4 ?c6
  (case k6 => k_is); (case k7 => k_is); (case k9 => exact fun _ => BindsTo.of_eq rfl); (case kB => exact rfl); (case kD => decide +kernel); (case c2 => exact rfl); (case c3 => exact rfl); (case c4 => exact rfl); (case c6 => decide); (case kP => exact fun _ _ h _ => h)
  exact fun dp un gd outer base g L' s E cells => bodyC_of (by k_is) (figOI_H_K w loose mean mg mb t dp un gd outer base g L' s E cells)


end
end
section
section
namespace Z_ap
noncomputable def zP0 (w : World) (loose : List Str) (mean : ExcName → Option Value) (mg : Str → Option Value) (mb : Str → Option Value) (t : Tok) (dp : Nat) (un : Nat) (gd : Option (List Code)) (outer : List Env) (base : Heap) (g : Heap) (L' : Addr) (s : Shared) (E : Value → Shared → Prop) : Prop := ∀ (B : Below (Ar dp un gd outer) base outer g) (F : Fr g L' s.heap (fun y => ([("num", .int 184 t)] : List (Str × Value)).reverse.lookup y)) (N : News g L' s.heap ([])) (X : (Mine.hd.heap_1 w.params).In g) (T : Top topProg loose mean mg mb g) (hp : (fun _ => True : Heap → Prop) g) (hlt : ∀ p ∈ ([] : List (Addr × Obj)), p.1 < L') (hd : dp + 30 < recursionLimit) (hu : un + 10 * 30 < cLine), WalkK w 63 dp un gd outer g L' s (fun v now => now = [] ∧ ∃ t, v = .bytes #[76, 73] t) E
noncomputable def zP1 (w : World) (loose : List Str) (mean : ExcName → Option Value) (mg : Str → Option Value) (mb : Str → Option Value) (t : Tok) (dp : Nat) (un : Nat) (gd : Option (List Code)) (outer : List Env) (base : Heap) (g : Heap) (L' : Addr) (s : Shared) (E : Value → Shared → Prop) : Prop := ∀ (B : Below (Ar dp un gd outer) base outer g) (F : Fr g L' s.heap (fun y => ([("num", .int 226 t)] : List (Str × Value)).reverse.lookup y)) (N : News g L' s.heap ([])) (X : (Mine.hd.heap_1 w.params).In g) (T : Top topProg loose mean mg mb g) (hp : (fun _ => True : Heap → Prop) g) (hlt : ∀ p ∈ ([] : List (Addr × Obj)), p.1 < L') (hd : dp + 30 < recursionLimit) (hu : un + 10 * 30 < cLine), WalkK w 63 dp un gd outer g L' s (fun v now => now = [] ∧ ∃ t, v = .bytes #[79, 67] t) E
noncomputable def zP2 (w : World) (loose : List Str) (mean : ExcName → Option Value) (mg : Str → Option Value) (mb : Str → Option Value) (t : Tok) (dp : Nat) (un : Nat) (gd : Option (List Code)) (outer : List Env) (base : Heap) (g : Heap) (L' : Addr) (s : Shared) (E : Value → Shared → Prop) : Prop := ∀ (B : Below (Ar dp un gd outer) base outer g) (F : Fr g L' s.heap (fun y => ([("num", .int (-232) t)] : List (Str × Value)).reverse.lookup y)) (N : News g L' s.heap ([])) (X : (Mine.hd.heap_1 w.params).In g) (T : Top topProg loose mean mg mb g) (hp : (fun _ => True : Heap → Prop) g) (hlt : ∀ p ∈ ([] : List (Addr × Obj)), p.1 < L') (hd : dp + 30 < recursionLimit) (hu : un + 10 * 30 < cLine), WalkK w 63 dp un gd outer g L' s (fun v now => now = [] ∧ ∃ t, v = .bytes #[79, 73] t) E
noncomputable def zk : DD := pickD fun c => zP0 (c.fW 0) (c.fLs 0) (c.fMe 0) (c.fMp 0) (c.fMp 1) (c.fT 0) (c.fN 0) (c.fN 1) (c.fGd 0) (c.fEn 0) (c.fH 0) (c.fH 1) (c.fA 0) (c.fSh 0) (c.fE 0) ∧ zP1 (c.fW 0) (c.fLs 0) (c.fMe 0) (c.fMp 0) (c.fMp 1) (c.fT 0) (c.fN 0) (c.fN 1) (c.fGd 0) (c.fEn 0) (c.fH 0) (c.fH 1) (c.fA 0) (c.fSh 0) (c.fE 0) ∧ zP2 (c.fW 0) (c.fLs 0) (c.fMe 0) (c.fMp 0) (c.fMp 1) (c.fT 0) (c.fN 0) (c.fN 1) (c.fGd 0) (c.fEn 0) (c.fH 0) (c.fH 1) (c.fA 0) (c.fSh 0) (c.fE 0)
noncomputable section
@[irreducible] def w : World := zk.fW 0
@[irreducible] def loose : List Str := zk.fLs 0
@[irreducible] def mean : ExcName → Option Value := zk.fMe 0
@[irreducible] def mg : Str → Option Value := zk.fMp 0
@[irreducible] def mb : Str → Option Value := zk.fMp 1
@[irreducible] def t : Tok := zk.fT 0
@[irreducible] def dp : Nat := zk.fN 0
@[irreducible] def un : Nat := zk.fN 1
@[irreducible] def gd : Option (List Code) := zk.fGd 0
@[irreducible] def outer : List Env := zk.fEn 0
@[irreducible] def base : Heap := zk.fH 0
@[irreducible] def g : Heap := zk.fH 1
@[irreducible] def L' : Addr := zk.fA 0
@[irreducible] def s : Shared := zk.fSh 0
@[irreducible] def E : Value → Shared → Prop := zk.fE 0
end
theorem zcore0 : zP0 w loose mean mg mb t dp un gd outer base g L' s E := by
  k_with "x10" => skip
  unfold zP0
  intro B F N X T hp hlt hd hu
  have _ : PySem.Challenge.rw_wo0016_01 = PySem.Challenge.rw_wo0016_01 ∧ Mine.hd.heap_1 = Mine.hd.heap_1 := by k_fill; exact ⟨rfl, rfl⟩
  refine' walkK_of ?k6 ?_; (case k6 => k_is)
  k_steps
  rename Fr g _ _ _ => F2
  exact leaveH (now := []) F2 (fun p hp => nomatch hp) ⟨rfl, _, rfl⟩
end Z_ap

namespace Z_ap
theorem zcore1 : zP1 w loose mean mg mb t dp un gd outer base g L' s E := by
  unfold zP1
  intro B F N X T hp hlt hd hu
  have _ : PySem.Challenge.rw_wo0016_01 = PySem.Challenge.rw_wo0016_01 ∧ Mine.hd.heap_1 = Mine.hd.heap_1 := by k_fill; exact ⟨rfl, rfl⟩
  refine' walkK_of ?k6 ?_; (case k6 => k_is)
  k_steps
  rename Fr g _ _ _ => F2
  exact leaveH (now := []) F2 (fun p hp => nomatch hp) ⟨rfl, _, rfl⟩
end Z_ap

namespace Z_ap
theorem zcore2 : zP2 w loose mean mg mb t dp un gd outer base g L' s E := by
  unfold zP2
  intro B F N X T hp hlt hd hu
  have _ : PySem.Challenge.rw_wo0016_01 = PySem.Challenge.rw_wo0016_01 ∧ Mine.hd.heap_1 = Mine.hd.heap_1 := by k_fill; exact ⟨rfl, rfl⟩
  refine' walkK_of ?k6 ?_; (case k6 => k_is)
  k_steps
  rename Fr g _ _ _ => F2
  exact leaveH (now := []) F2 (fun p hp => nomatch hp) ⟨rfl, _, rfl⟩
theorem zall : ∀ c : DD, zP0 (c.fW 0) (c.fLs 0) (c.fMe 0) (c.fMp 0) (c.fMp 1) (c.fT 0) (c.fN 0) (c.fN 1) (c.fGd 0) (c.fEn 0) (c.fH 0) (c.fH 1) (c.fA 0) (c.fSh 0) (c.fE 0) ∧ zP1 (c.fW 0) (c.fLs 0) (c.fMe 0) (c.fMp 0) (c.fMp 1) (c.fT 0) (c.fN 0) (c.fN 1) (c.fGd 0) (c.fEn 0) (c.fH 0) (c.fH 1) (c.fA 0) (c.fSh 0) (c.fE 0) ∧ zP2 (c.fW 0) (c.fLs 0) (c.fMe 0) (c.fMp 0) (c.fMp 1) (c.fT 0) (c.fN 0) (c.fN 1) (c.fGd 0) (c.fEn 0) (c.fH 0) (c.fH 1) (c.fA 0) (c.fSh 0) (c.fE 0) := allD (by with_unfolding_all exact ⟨zcore0, zcore1, zcore2⟩)
end Z_ap
theorem apLI_H_K (w : World) (loose : List Str) (mean : ExcName → Option Value) (mg mb : Str → Option Value) (t : Tok) (dp un : Nat) (gd : Option (List Code)) (outer : List Env) (base g : Heap) (L' : Addr) (s : Shared) (E : Value → Shared → Prop) (B : Below (Ar dp un gd outer) base outer g) (F : Fr g L' s.heap (fun y => ([("num", .int 184 t)] : List (Str × Value)).reverse.lookup y)) (N : News g L' s.heap ([])) (X : (Mine.hd.heap_1 w.params).In g) (T : Top topProg loose mean mg mb g) (hp : (fun _ => True : Heap → Prop) g) (hlt : ∀ p ∈ ([] : List (Addr × Obj)), p.1 < L') (hd : dp + 30 < recursionLimit) (hu : un + 10 * 30 < cLine) : WalkK w 63 dp un gd outer g L' s (fun v now => now = [] ∧ ∃ t, v = .bytes #[76, 73] t) E := by
  exact (Z_ap.zall ⟨fun _ => w, fun _ => loose, fun _ => mean, fun i => [mg, mb].getD i mg, fun _ => L', fun i => [dp, un].getD i dp, anyD.fI, fun _ => t, anyD.fV, anyD.fS, anyD.fO, fun i => [base, g].getD i base, fun _ => s, anyD.fLv, anyD.fLi, anyD.fLn, anyD.fLb, anyD.fLed, anyD.fQ, fun _ => E, anyD.fB, anyD.fIt, anyD.fAv, anyD.fB3, fun _ => gd, fun _ => outer, anyD.fAr, anyD.fOv, anyD.fOp, anyD.fLa, anyD.fEnv, anyD.fSs, anyD.fSt, anyD.fSc, anyD.fP, anyD.fEx, anyD.fR, anyD.fPo, anyD.fCl, anyD.fY, anyD.fRR, anyD.fBB, anyD.fNl, anyD.fOa, anyD.fFd, anyD.fAo, anyD.fDe, anyD.fIv⟩).1 B F N X T hp hlt hd hu
theorem apLI_H (w : World) (loose : List Str) (mean : ExcName → Option Value) (mg mb : Str → Option Value) (t : Tok) : HC w loose mean mg mb 30 63 [.int 184 t] [] (fun _ => True) (fun v now => now = [] ∧ ∃ t, v = .bytes #[76, 73] t) := by
  unfold HC; k_fill
  refine' enterH (pre' := fun _ => True) (binds := [("num", .int 184 t)]) ?k6 ?k7 ?k9 ?kB ?kP ?kW ?c5 ?c2 ?c3 ?c4 ?c6
  k_extra "mine enter"
  (case kP => exact fun _ _ h _ => h)
  intro dp un gd outer base g L' s E B F N X T hp hlt hd hu
  exact walkB_of (by k_is) (apLI_H_K w loose mean mg mb t dp un gd outer base g L' s E B F N X T hp hlt hd hu)

theorem apOC_H_K (w : World) (loose : List Str) (mean : ExcName → Option Value) (mg mb : Str → Option Value) (t : Tok) (dp un : Nat) (gd : Option (List Code)) (outer : List Env) (base g : Heap) (L' : Addr) (s : Shared) (E : Value → Shared → Prop) (B : Below (Ar dp un gd outer) base outer g) (F : Fr g L' s.heap (fun y => ([("num", .int 226 t)] : List (Str × Value)).reverse.lookup y)) (N : News g L' s.heap ([])) (X : (Mine.hd.heap_1 w.params).In g) (T : Top topProg loose mean mg mb g) (hp : (fun _ => True : Heap → Prop) g) (hlt : ∀ p ∈ ([] : List (Addr × Obj)), p.1 < L') (hd : dp + 30 < recursionLimit) (hu : un + 10 * 30 < cLine) : WalkK w 63 dp un gd outer g L' s (fun v now => now = [] ∧ ∃ t, v = .bytes #[79, 67] t) E := by
  exact (Z_ap.zall ⟨fun _ => w, fun _ => loose, fun _ => mean, fun i => [mg, mb].getD i mg, fun _ => L', fun i => [dp, un].getD i dp, anyD.fI, fun _ => t, anyD.fV, anyD.fS, anyD.fO, fun i => [base, g].getD i base, fun _ => s, anyD.fLv, anyD.fLi, anyD.fLn, anyD.fLb, anyD.fLed, anyD.fQ, fun _ => E, anyD.fB, anyD.fIt, anyD.fAv, anyD.fB3, fun _ => gd, fun _ => outer, anyD.fAr, anyD.fOv, anyD.fOp, anyD.fLa, anyD.fEnv, anyD.fSs, anyD.fSt, anyD.fSc, anyD.fP, anyD.fEx, anyD.fR, anyD.fPo, anyD.fCl, anyD.fY, anyD.fRR, anyD.fBB, anyD.fNl, anyD.fOa, anyD.fFd, anyD.fAo, anyD.fDe, anyD.fIv⟩).2.1 B F N X T hp hlt hd hu
theorem apOC_H (w : World) (loose : List Str) (mean : ExcName → Option Value) (mg mb : Str → Option Value) (t : Tok) : HC w loose mean mg mb 30 63 [.int 226 t] [] (fun _ => True) (fun v now => now = [] ∧ ∃ t, v = .bytes #[79, 67] t) := by
  unfold HC; k_fill
  refine' enterH (pre' := fun _ => True) (binds := [("num", .int 226 t)]) ?k6 ?k7 ?k9 ?kB ?kP ?kW ?c5 ?c2 ?c3 ?c4 ?c6
  k_extra "mine enter"
  (case kP => exact fun _ _ h _ => h)
  intro dp un gd outer base g L' s E B F N X T hp hlt hd hu
  exact walkB_of (by k_is) (apOC_H_K w loose mean mg mb t dp un gd outer base g L' s E B F N X T hp hlt hd hu)

theorem apOI_H_K (w : World) (loose : List Str) (mean : ExcName → Option Value) (mg mb : Str → Option Value) (t : Tok) (dp un : Nat) (gd : Option (List Code)) (outer : List Env) (base g : Heap) (L' : Addr) (s : Shared) (E : Value → Shared → Prop) (B : Below (Ar dp un gd outer) base outer g) (F : Fr g L' s.heap (fun y => ([("num", .int (-232) t)] : List (Str × Value)).reverse.lookup y)) (N : News g L' s.heap ([])) (X : (Mine.hd.heap_1 w.params).In g) (T : Top topProg loose mean mg mb g) (hp : (fun _ => True : Heap → Prop) g) (hlt : ∀ p ∈ ([] : List (Addr × Obj)), p.1 < L') (hd : dp + 30 < recursionLimit) (hu : un + 10 * 30 < cLine) : WalkK w 63 dp un gd outer g L' s (fun v now => now = [] ∧ ∃ t, v = .bytes #[79, 73] t) E := by
  exact (Z_ap.zall ⟨fun _ => w, fun _ => loose, fun _ => mean, fun i => [mg, mb].getD i mg, fun _ => L', fun i => [dp, un].getD i dp, anyD.fI, fun _ => t, anyD.fV, anyD.fS, anyD.fO, fun i => [base, g].getD i base, fun _ => s, anyD.fLv, anyD.fLi, anyD.fLn, anyD.fLb, anyD.fLed, anyD.fQ, fun _ => E, anyD.fB, anyD.fIt, anyD.fAv, anyD.fB3, fun _ => gd, fun _ => outer, anyD.fAr, anyD.fOv, anyD.fOp, anyD.fLa, anyD.fEnv, anyD.fSs, anyD.fSt, anyD.fSc, anyD.fP, anyD.fEx, anyD.fR, anyD.fPo, anyD.fCl, anyD.fY, anyD.fRR, anyD.fBB, anyD.fNl, anyD.fOa, anyD.fFd, anyD.fAo, anyD.fDe, anyD.fIv⟩).2.2 B F N X T hp hlt hd hu
theorem apOI_H (w : World) (loose : List Str) (mean : ExcName → Option Value) (mg mb : Str → Option Value) (t : Tok) : HC w loose mean mg mb 30 63 [.int (-232) t] [] (fun _ => True) (fun v now => now = [] ∧ ∃ t, v = .bytes #[79, 73] t) := by
  unfold HC; k_fill
  refine' enterH (pre' := fun _ => True) (binds := [("num", .int (-232) t)]) ?k6 ?k7 ?k9 ?kB ?kP ?kW ?c5 ?c2 ?c3 ?c4 ?c6
  k_extra "mine enter"
  (case kP => exact fun _ _ h _ => h)
  intro dp un gd outer base g L' s E B F N X T hp hlt hd hu
  exact walkB_of (by k_is) (apOI_H_K w loose mean mg mb t dp un gd outer base g L' s E B F N X T hp hlt hd hu)



namespace Z_let
noncomputable def zP0 (w : World) (loose : List Str) (mean : ExcName → Option Value) (mg : Str → Option Value) (mb : Str → Option Value) (t : Tok) (dp : Nat) (un : Nat) (gd : Option (List Code)) (outer : List Env) (base : Heap) (g : Heap) (L' : Addr) (s : Shared) (E : Value → Shared → Prop) : Prop := ∀ (B : Below (Ar dp un gd outer) base outer g) (F : Fr g L' s.heap (fun y => ([("number", .int 184 t)] : List (Str × Value)).reverse.lookup y)) (N : News g L' s.heap ([])) (X : (Mine.hd.heap_1 w.params).In g) (T : Top topProg loose mean mg mb g) (hp : (fun _ => True : Heap → Prop) g) (hlt : ∀ p ∈ ([] : List (Addr × Obj)), p.1 < L') (hd : dp + 50 < recursionLimit) (hu : un + 10 * 50 < cLine), WalkK w 110 dp un gd outer g L' s (fun v now => now = [] ∧ ∃ t, v = .str (Str.ofString "LI") t) E
noncomputable def zP1 (w : World) (loose : List Str) (mean : ExcName → Option Value) (mg : Str → Option Value) (mb : Str → Option Value) (t : Tok) (dp : Nat) (un : Nat) (gd : Option (List Code)) (outer : List Env) (base : Heap) (g : Heap) (L' : Addr) (s : Shared) (E : Value → Shared → Prop) : Prop := ∀ (B : Below (Ar dp un gd outer) base outer g) (F : Fr g L' s.heap (fun y => ([("number", .int 226 t)] : List (Str × Value)).reverse.lookup y)) (N : News g L' s.heap ([])) (X : (Mine.hd.heap_1 w.params).In g) (T : Top topProg loose mean mg mb g) (hp : (fun _ => True : Heap → Prop) g) (hlt : ∀ p ∈ ([] : List (Addr × Obj)), p.1 < L') (hd : dp + 50 < recursionLimit) (hu : un + 10 * 50 < cLine), WalkK w 110 dp un gd outer g L' s (fun v now => now = [] ∧ ∃ t, v = .str (Str.ofString "OC") t) E
noncomputable def zP2 (w : World) (loose : List Str) (mean : ExcName → Option Value) (mg : Str → Option Value) (mb : Str → Option Value) (t : Tok) (dp : Nat) (un : Nat) (gd : Option (List Code)) (outer : List Env) (base : Heap) (g : Heap) (L' : Addr) (s : Shared) (E : Value → Shared → Prop) : Prop := ∀ (B : Below (Ar dp un gd outer) base outer g) (F : Fr g L' s.heap (fun y => ([("number", .int (-232) t)] : List (Str × Value)).reverse.lookup y)) (N : News g L' s.heap ([])) (X : (Mine.hd.heap_1 w.params).In g) (T : Top topProg loose mean mg mb g) (hp : (fun _ => True : Heap → Prop) g) (hlt : ∀ p ∈ ([] : List (Addr × Obj)), p.1 < L') (hd : dp + 50 < recursionLimit) (hu : un + 10 * 50 < cLine), WalkK w 110 dp un gd outer g L' s (fun v now => now = [] ∧ ∃ t, v = .str (Str.ofString "OI") t) E
noncomputable def zk : DD := pickD fun c => zP0 (c.fW 0) (c.fLs 0) (c.fMe 0) (c.fMp 0) (c.fMp 1) (c.fT 0) (c.fN 0) (c.fN 1) (c.fGd 0) (c.fEn 0) (c.fH 0) (c.fH 1) (c.fA 0) (c.fSh 0) (c.fE 0) ∧ zP1 (c.fW 0) (c.fLs 0) (c.fMe 0) (c.fMp 0) (c.fMp 1) (c.fT 0) (c.fN 0) (c.fN 1) (c.fGd 0) (c.fEn 0) (c.fH 0) (c.fH 1) (c.fA 0) (c.fSh 0) (c.fE 0) ∧ zP2 (c.fW 0) (c.fLs 0) (c.fMe 0) (c.fMp 0) (c.fMp 1) (c.fT 0) (c.fN 0) (c.fN 1) (c.fGd 0) (c.fEn 0) (c.fH 0) (c.fH 1) (c.fA 0) (c.fSh 0) (c.fE 0)
noncomputable section
@[irreducible] def w : World := zk.fW 0
@[irreducible] def loose : List Str := zk.fLs 0
@[irreducible] def mean : ExcName → Option Value := zk.fMe 0
@[irreducible] def mg : Str → Option Value := zk.fMp 0
@[irreducible] def mb : Str → Option Value := zk.fMp 1
@[irreducible] def t : Tok := zk.fT 0
@[irreducible] def dp : Nat := zk.fN 0
@[irreducible] def un : Nat := zk.fN 1
@[irreducible] def gd : Option (List Code) := zk.fGd 0
@[irreducible] def outer : List Env := zk.fEn 0
@[irreducible] def base : Heap := zk.fH 0
@[irreducible] def g : Heap := zk.fH 1
@[irreducible] def L' : Addr := zk.fA 0
@[irreducible] def s : Shared := zk.fSh 0
@[irreducible] def E : Value → Shared → Prop := zk.fE 0
end
theorem zcore0 : zP0 w loose mean mg mb t dp un gd outer base g L' s E := by
  k_with "call ref" => ((fail_if_success k_extra "x11"); k_here; k_dflt ((show wpAny _ _ (call (Value.ref 63) [Value.int _ _]) _ _ _); refine' useP (apLI_H _ _ _ _ _ _) (by assumption) (by assumption) (by assumption) (by assumption) (by assumption) (by exact rfl) (by exact rfl) (by exact rfl) (by exact rfl) (by (simp only [depth_deeper, Ar]; omega)) (by (simp only [units_deeper, Ar]; omega)) trivial ?_; intro v' now' h' tk' P' F' N' l'; (obtain ⟨e1', t', e2'⟩ := P'); subst e1'; subst e2'; clear l'; (try dsimp only [List.nil_append] at N'); revert h' tk' F' N' t'; intro _ _ _ _ _))
  k_with "call ref" => ((fail_if_success k_extra "x11"); k_here; k_dflt ((show wpAny _ _ (call (Value.ref 63) [Value.int _ _]) _ _ _); refine' useP (apOC_H _ _ _ _ _ _) (by assumption) (by assumption) (by assumption) (by assumption) (by assumption) (by exact rfl) (by exact rfl) (by exact rfl) (by exact rfl) (by (simp only [depth_deeper, Ar]; omega)) (by (simp only [units_deeper, Ar]; omega)) trivial ?_; intro v' now' h' tk' P' F' N' l'; (obtain ⟨e1', t', e2'⟩ := P'); subst e1'; subst e2'; clear l'; (try dsimp only [List.nil_append] at N'); revert h' tk' F' N' t'; intro _ _ _ _ _))
  k_with "call ref" => ((fail_if_success k_extra "x11"); k_here; k_dflt ((show wpAny _ _ (call (Value.ref 63) [Value.int _ _]) _ _ _); refine' useP (apOI_H _ _ _ _ _ _) (by assumption) (by assumption) (by assumption) (by assumption) (by assumption) (by exact rfl) (by exact rfl) (by exact rfl) (by exact rfl) (by (simp only [depth_deeper, Ar]; omega)) (by (simp only [units_deeper, Ar]; omega)) trivial ?_; intro v' now' h' tk' P' F' N' l'; (obtain ⟨e1', t', e2'⟩ := P'); subst e1'; subst e2'; clear l'; (try dsimp only [List.nil_append] at N'); revert h' tk' F' N' t'; intro _ _ _ _ _))
  k_with "eval ListComp" => ((fail_if_success k_extra "x11"); k_here; k_dflt (refine ListComp_W (by k_asm) (by with_unfolding_all rfl) (by decide) (by rfl) (by decide) (by rfl) ?_))
  k_with "SrcW" => ((fail_if_success k_extra "x11"); k_here; k_dflt (refine Or.inr ⟨_, _, _, rfl, rfl, by k_asm, by k_asm, by decide, ?_⟩; rintro _ ⟨_, e8'⟩; subst e8'; lcg_lit))
  k_with "CompRest" => ((fail_if_success k_extra "x11"); (with_unfolding_all (refine LCg.CompRest.succ ?_; intro v' I' oI' C' oC' D' m' h' tk' E' hv' hC' hx' F' N' off' ne'; (obtain ⟨c9', t9', e9', hv9'⟩ := hv'; cases e9'; subst hv9'); (try simp only [LCg.Off3, and_true] at off'); revert I' oI' C' oC' D' m' h' tk' E' hC' hx' F' N' off' ne' t9'; intro _ _ _ _ _ _ _ _ _ _ _ _ _ _ _ _)))
  unfold zP0
  intro B F N X T hp hlt hd hu
  have _ : PySem.Challenge.rw_wo0016_01 = PySem.Challenge.rw_wo0016_01 ∧ Mine.hd.heap_1 = Mine.hd.heap_1 := by k_fill; exact ⟨rfl, rfl⟩
  refine' walkK_of ?k6 ?_; (case k6 => k_is)
  k_steps
  rename Fr g _ _ _ => F2
  exact leaveH (now := []) F2 (fun p hp => nomatch hp) ⟨rfl, _, rfl⟩
end Z_let

namespace Z_let
theorem zcore1 : zP1 w loose mean mg mb t dp un gd outer base g L' s E := by
  unfold zP1
  intro B F N X T hp hlt hd hu
  have _ : PySem.Challenge.rw_wo0016_01 = PySem.Challenge.rw_wo0016_01 ∧ Mine.hd.heap_1 = Mine.hd.heap_1 := by k_fill; exact ⟨rfl, rfl⟩
  refine' walkK_of ?k6 ?_; (case k6 => k_is)
  k_steps
  rename Fr g _ _ _ => F2
  exact leaveH (now := []) F2 (fun p hp => nomatch hp) ⟨rfl, _, rfl⟩
end Z_let

namespace Z_let
theorem zcore2 : zP2 w loose mean mg mb t dp un gd outer base g L' s E := by
  unfold zP2
  intro B F N X T hp hlt hd hu
  have _ : PySem.Challenge.rw_wo0016_01 = PySem.Challenge.rw_wo0016_01 ∧ Mine.hd.heap_1 = Mine.hd.heap_1 := by k_fill; exact ⟨rfl, rfl⟩
  refine' walkK_of ?k6 ?_; (case k6 => k_is)
  k_steps
  rename Fr g _ _ _ => F2
  exact leaveH (now := []) F2 (fun p hp => nomatch hp) ⟨rfl, _, rfl⟩
theorem zall : ∀ c : DD, zP0 (c.fW 0) (c.fLs 0) (c.fMe 0) (c.fMp 0) (c.fMp 1) (c.fT 0) (c.fN 0) (c.fN 1) (c.fGd 0) (c.fEn 0) (c.fH 0) (c.fH 1) (c.fA 0) (c.fSh 0) (c.fE 0) ∧ zP1 (c.fW 0) (c.fLs 0) (c.fMe 0) (c.fMp 0) (c.fMp 1) (c.fT 0) (c.fN 0) (c.fN 1) (c.fGd 0) (c.fEn 0) (c.fH 0) (c.fH 1) (c.fA 0) (c.fSh 0) (c.fE 0) ∧ zP2 (c.fW 0) (c.fLs 0) (c.fMe 0) (c.fMp 0) (c.fMp 1) (c.fT 0) (c.fN 0) (c.fN 1) (c.fGd 0) (c.fEn 0) (c.fH 0) (c.fH 1) (c.fA 0) (c.fSh 0) (c.fE 0) := allD (by with_unfolding_all exact ⟨zcore0, zcore1, zcore2⟩)
end Z_let
theorem letLI_H_K (w : World) (loose : List Str) (mean : ExcName → Option Value) (mg mb : Str → Option Value) (t : Tok) (dp un : Nat) (gd : Option (List Code)) (outer : List Env) (base g : Heap) (L' : Addr) (s : Shared) (E : Value → Shared → Prop) (B : Below (Ar dp un gd outer) base outer g) (F : Fr g L' s.heap (fun y => ([("number", .int 184 t)] : List (Str × Value)).reverse.lookup y)) (N : News g L' s.heap ([])) (X : (Mine.hd.heap_1 w.params).In g) (T : Top topProg loose mean mg mb g) (hp : (fun _ => True : Heap → Prop) g) (hlt : ∀ p ∈ ([] : List (Addr × Obj)), p.1 < L') (hd : dp + 50 < recursionLimit) (hu : un + 10 * 50 < cLine) : WalkK w 110 dp un gd outer g L' s (fun v now => now = [] ∧ ∃ t, v = .str (Str.ofString "LI") t) E := by
  exact (Z_let.zall ⟨fun _ => w, fun _ => loose, fun _ => mean, fun i => [mg, mb].getD i mg, fun _ => L', fun i => [dp, un].getD i dp, anyD.fI, fun _ => t, anyD.fV, anyD.fS, anyD.fO, fun i => [base, g].getD i base, fun _ => s, anyD.fLv, anyD.fLi, anyD.fLn, anyD.fLb, anyD.fLed, anyD.fQ, fun _ => E, anyD.fB, anyD.fIt, anyD.fAv, anyD.fB3, fun _ => gd, fun _ => outer, anyD.fAr, anyD.fOv, anyD.fOp, anyD.fLa, anyD.fEnv, anyD.fSs, anyD.fSt, anyD.fSc, anyD.fP, anyD.fEx, anyD.fR, anyD.fPo, anyD.fCl, anyD.fY, anyD.fRR, anyD.fBB, anyD.fNl, anyD.fOa, anyD.fFd, anyD.fAo, anyD.fDe, anyD.fIv⟩).1 B F N X T hp hlt hd hu
theorem letLI_H (w : World) (loose : List Str) (mean : ExcName → Option Value) (mg mb : Str → Option Value) (t : Tok) : HC w loose mean mg mb 50 110 [.int 184 t] [] (fun _ => True) (fun v now => now = [] ∧ ∃ t, v = .str (Str.ofString "LI") t) := by
  unfold HC; k_fill
  refine' enterH (pre' := fun _ => True) (binds := [("number", .int 184 t)]) ?k6 ?k7 ?k9 ?kB ?kP ?kW ?c5 ?c2 ?c3 ?c4 ?c6
  k_extra "mine enter"
  (case kP => exact fun _ _ h _ => h)
  intro dp un gd outer base g L' s E B F N X T hp hlt hd hu
  exact walkB_of (by k_is) (letLI_H_K w loose mean mg mb t dp un gd outer base g L' s E B F N X T hp hlt hd hu)

theorem letOC_H_K (w : World) (loose : List Str) (mean : ExcName → Option Value) (mg mb : Str → Option Value) (t : Tok) (dp un : Nat) (gd : Option (List Code)) (outer : List Env) (base g : Heap) (L' : Addr) (s : Shared) (E : Value → Shared → Prop) (B : Below (Ar dp un gd outer) base outer g) (F : Fr g L' s.heap (fun y => ([("number", .int 226 t)] : List (Str × Value)).reverse.lookup y)) (N : News g L' s.heap ([])) (X : (Mine.hd.heap_1 w.params).In g) (T : Top topProg loose mean mg mb g) (hp : (fun _ => True : Heap → Prop) g) (hlt : ∀ p ∈ ([] : List (Addr × Obj)), p.1 < L') (hd : dp + 50 < recursionLimit) (hu : un + 10 * 50 < cLine) : WalkK w 110 dp un gd outer g L' s (fun v now => now = [] ∧ ∃ t, v = .str (Str.ofString "OC") t) E := by
  exact (Z_let.zall ⟨fun _ => w, fun _ => loose, fun _ => mean, fun i => [mg, mb].getD i mg, fun _ => L', fun i => [dp, un].getD i dp, anyD.fI, fun _ => t, anyD.fV, anyD.fS, anyD.fO, fun i => [base, g].getD i base, fun _ => s, anyD.fLv, anyD.fLi, anyD.fLn, anyD.fLb, anyD.fLed, anyD.fQ, fun _ => E, anyD.fB, anyD.fIt, anyD.fAv, anyD.fB3, fun _ => gd, fun _ => outer, anyD.fAr, anyD.fOv, anyD.fOp, anyD.fLa, anyD.fEnv, anyD.fSs, anyD.fSt, anyD.fSc, anyD.fP, anyD.fEx, anyD.fR, anyD.fPo, anyD.fCl, anyD.fY, anyD.fRR, anyD.fBB, anyD.fNl, anyD.fOa, anyD.fFd, anyD.fAo, anyD.fDe, anyD.fIv⟩).2.1 B F N X T hp hlt hd hu
theorem letOC_H (w : World) (loose : List Str) (mean : ExcName → Option Value) (mg mb : Str → Option Value) (t : Tok) : HC w loose mean mg mb 50 110 [.int 226 t] [] (fun _ => True) (fun v now => now = [] ∧ ∃ t, v = .str (Str.ofString "OC") t) := by
  unfold HC; k_fill
  refine' enterH (pre' := fun _ => True) (binds := [("number", .int 226 t)]) ?k6 ?k7 ?k9 ?kB ?kP ?kW ?c5 ?c2 ?c3 ?c4 ?c6
  k_extra "mine enter"
  (case kP => exact fun _ _ h _ => h)
  intro dp un gd outer base g L' s E B F N X T hp hlt hd hu
  exact walkB_of (by k_is) (letOC_H_K w loose mean mg mb t dp un gd outer base g L' s E B F N X T hp hlt hd hu)

theorem letOI_H_K (w : World) (loose : List Str) (mean : ExcName → Option Value) (mg mb : Str → Option Value) (t : Tok) (dp un : Nat) (gd : Option (List Code)) (outer : List Env) (base g : Heap) (L' : Addr) (s : Shared) (E : Value → Shared → Prop) (B : Below (Ar dp un gd outer) base outer g) (F : Fr g L' s.heap (fun y => ([("number", .int (-232) t)] : List (Str × Value)).reverse.lookup y)) (N : News g L' s.heap ([])) (X : (Mine.hd.heap_1 w.params).In g) (T : Top topProg loose mean mg mb g) (hp : (fun _ => True : Heap → Prop) g) (hlt : ∀ p ∈ ([] : List (Addr × Obj)), p.1 < L') (hd : dp + 50 < recursionLimit) (hu : un + 10 * 50 < cLine) : WalkK w 110 dp un gd outer g L' s (fun v now => now = [] ∧ ∃ t, v = .str (Str.ofString "OI") t) E := by
  exact (Z_let.zall ⟨fun _ => w, fun _ => loose, fun _ => mean, fun i => [mg, mb].getD i mg, fun _ => L', fun i => [dp, un].getD i dp, anyD.fI, fun _ => t, anyD.fV, anyD.fS, anyD.fO, fun i => [base, g].getD i base, fun _ => s, anyD.fLv, anyD.fLi, anyD.fLn, anyD.fLb, anyD.fLed, anyD.fQ, fun _ => E, anyD.fB, anyD.fIt, anyD.fAv, anyD.fB3, fun _ => gd, fun _ => outer, anyD.fAr, anyD.fOv, anyD.fOp, anyD.fLa, anyD.fEnv, anyD.fSs, anyD.fSt, anyD.fSc, anyD.fP, anyD.fEx, anyD.fR, anyD.fPo, anyD.fCl, anyD.fY, anyD.fRR, anyD.fBB, anyD.fNl, anyD.fOa, anyD.fFd, anyD.fAo, anyD.fDe, anyD.fIv⟩).2.2 B F N X T hp hlt hd hu
theorem letOI_H (w : World) (loose : List Str) (mean : ExcName → Option Value) (mg mb : Str → Option Value) (t : Tok) : HC w loose mean mg mb 50 110 [.int (-232) t] [] (fun _ => True) (fun v now => now = [] ∧ ∃ t, v = .str (Str.ofString "OI") t) := by
  unfold HC; k_fill
  refine' enterH (pre' := fun _ => True) (binds := [("number", .int (-232) t)]) ?k6 ?k7 ?k9 ?kB ?kP ?kW ?c5 ?c2 ?c3 ?c4 ?c6
  k_extra "mine enter"
  (case kP => exact fun _ _ h _ => h)
  intro dp un gd outer base g L' s E B F N X T hp hlt hd hu
  exact walkB_of (by k_is) (letOI_H_K w loose mean mg mb t dp un gd outer base g L' s E B F N X T hp hlt hd hu)


end
end
section
theorem str_ext {x y : Str} (h : x.cps.toList = y.cps.toList) : x = y := by
  cases x; cases y
  simpa using h
section
variable {prog : Program} {w : World} {A : Around} {h₀ : Heap} {L : Addr} {m : Str → Option Value} {env : Env} {elt : Expr} {x : Str} {scope : Scope} {cl : List (Str × Addr)} {s : Shared} {S : List (Addr × Obj) → Prop} {P : Nat → Value → Prop} {Fin : List Value → List (Addr × Obj) → Prop} {news : List (Addr × Obj)}
theorem strs_rest {z : Str} (f : Nat → Str)
    (turn : ∀ c u I oI C oC D m₂ ys h tk (E' : Value → Shared → Prop), LCg.NsObj oC m₂ → m₂ x = some (.str ⟨#[c]⟩ u) → Fr h₀ L h m → News h₀ L h ((I, oI) :: (C, oC) :: (D, LCg.lst ys) :: news) → LCg.Off3 I C D news → ((@Ne Nat I C) ∧ (@Ne Nat I D) ∧ (@Ne Nat C D)) →
      wpAny (model prog w) A (eval elt (compEnvC scope cl C env)) (LCg.CompEnd h₀ L m { s with heap := h, toks := tk } I oI C oC D (LCg.lst ys) S (fun y news' => KCtEl news (f c) y news')) E' { s with heap := h, toks := tk })
    (fin : ∀ ys, StrsAre ys (z.cps.toList.map f) → Fin ys news) : LCg.CompRest prog w A h₀ L m env elt x scope cl s S (SignAt z) Fin z.cps.size 0 [] news := by
  have key : ∀ (j i : Nat) (ys : List Value), i + j = z.cps.size → StrsAre ys ((z.cps.toList.take i).map f) → LCg.CompRest prog w A h₀ L m env elt x scope cl s S (SignAt z) Fin j i ys news := by
    intro j
    induction j with
    | zero =>
      intro i ys hi hy
      have e : i = z.cps.toList.length := by rw [Array.length_toList]; omega
      subst e
      rw [List.take_length] at hy
      exact LCg.CompRest.zero (fin ys hy)
    | succ j ih =>
      intro i ys hi hy
      refine LCg.CompRest.succ ?_
      intro v I oI C oC D m₂ h tk E' hv hC hx F N off ne
      obtain ⟨c, u, hk, hv'⟩ := hv
      rw [hv'] at hx
      refine wpAny_mono (turn c u I oI C oC D m₂ ys h tk E' hC hx F N off ne) (fun y s₂ hq => ?_) fun _ _ e => e
      obtain ⟨h', tk', nw, e, F', N', off', hS, hn, t', hy'⟩ := hq
      rw [hn] at N' off' hS
      refine ⟨h', tk', news, e, F', N', off', hS, ?_⟩
      rw [hy']
      refine ih (i + 1) _ (by omega) ?_
      rw [List.take_add_one, show z.cps.toList[i]? = some c from by simpa using hk]
      simpa using kct_snoc (y := f c) (t := t') hy
  exact key z.cps.size 0 [] (by omega) (by simp only [List.take_zero, List.map_nil]; exact .nil)
end
noncomputable def escBy (p : Nat → Bool) (c : Nat) : Str := if p c then ⟨#[92, c]⟩ else ⟨#[c]⟩
theorem join_cps : ∀ ys : List Str, (Str.join (Str.ofString "") ys).cps.toList = ys.flatMap fun y => y.cps.toList
  | [] => rfl
  | [y] => by simp [Str.join]
  | y :: z :: r => by
    have ih := join_cps (z :: r)
    have e : Str.join (Str.ofString "") (y :: z :: r) = y ++ Str.ofString "" ++ Str.join (Str.ofString "") (z :: r) := rfl
    rw [e]
    show (Str.append (Str.append y ⟨#[]⟩) _).cps.toList = _
    simp only [Str.append, Array.toList_append, List.append_nil, ih, List.flatMap_cons]
theorem esc_len (p : Nat → Bool) : ∀ l : List Nat, ((l.map (escBy p)).map (·.length)).sum ≤ 2 * l.length
  | [] => by simp
  | c :: l => by
    have ih := esc_len p l
    simp only [List.map_cons, List.sum_cons, List.length_cons]
    have : (escBy p c).length ≤ 2 := by unfold escBy; split <;> (simp [Str.length])
    omega
theorem esc_bound (p : Nat → Bool) {l : List Nat} (h : l.length ≤ 1000) : ((l.map (escBy p)).map (·.length)).sum + (l.map (escBy p)).length * 64 ≤ 16777216 := by
  have := esc_len p l
  rw [List.length_map]
  omega
theorem cps_app (x y : Str) : (x ++ y).cps.toList = x.cps.toList ++ y.cps.toList := by
  show (Str.append x y).cps.toList = _
  simp [Str.append]
theorem join_esc (p : Nat → Bool) (l : List Nat) : (Txt.join (Str.ofString "") (l.map (escBy p))).cps.toList = l.flatMap fun c => (escBy p c).cps.toList := by
  show (Builtin.Str.glued _ _).cps.toList = _
  rw [StrLaws.glued_eq_join, join_cps, List.flatMap_map]
end
section
noncomputable def escQ (c : Nat) : Bool := c == 34 || c == 92 || c == 65 || c == 67 || c == 79
theorem escQ_occ (c : Nat) : (Builtin.Str.occurrences (Str.ofString "\"\\ACO") ⟨#[c]⟩ 0 (Str.ofString "\"\\ACO").length 1).isEmpty = !escQ c := by
  have e : Str.ofString "\"\\ACO" = ⟨#[34, 92, 65, 67, 79]⟩ := rfl
  rw [e]
  by_cases h0 : c = 34
  · subst h0; decide +kernel
  by_cases h1 : c = 92
  · subst h1; decide +kernel
  by_cases h2 : c = 65
  · subst h2; decide +kernel
  by_cases h3 : c = 67
  · subst h3; decide +kernel
  by_cases h4 : c = 79
  · subst h4; decide +kernel
  have s : ∀ i, Builtin.Str.subAt ⟨#[34, 92, 65, 67, 79]⟩ ⟨#[c]⟩ i = true → False := by
    intro i hi
    have hi : (#[34, 92, 65, 67, 79] : Array Nat).extract i (i + 1) = #[c] := eq_of_beq hi
    have := congrArg (fun a : Array Nat => a.toList) hi
    match i with
    | 0 => simp at this; exact h0 this.symm
    | 1 => simp at this; exact h1 this.symm
    | 2 => simp at this; exact h2 this.symm
    | 3 => simp at this; exact h3 this.symm
    | 4 => simp at this; exact h4 this.symm
    | i + 5 =>
      have := congrArg List.length this
      simp at this
  have w : escQ c = false := by simp [escQ, h0, h1, h2, h3, h4]
  rw [w]
  have s' : ∀ i, Builtin.Str.subAt ⟨#[34, 92, 65, 67, 79]⟩ ⟨#[c]⟩ i = false := fun i => by
    cases h : Builtin.Str.subAt ⟨#[34, 92, 65, 67, 79]⟩ ⟨#[c]⟩ i with
    | false => rfl
    | true => exact (s i h).elim
  unfold Builtin.Str.occurrences
  simp only [s', Bool.and_false, Bool.false_eq_true, if_false]
  have fid : ∀ (l : List Nat) (z : Array Nat × Nat), List.foldl (fun b _ => (b.fst, b.snd)) z l = z := by
    intro l; induction l with
    | nil => intro z; rfl
    | cons x l ih => intro z; exact ih z
  simp [Std.Legacy.Range.forIn_eq_forIn_range', Id.run, fid]
  rfl
noncomputable def escL (c : Nat) : Bool := c == 32 || c == 10 || c == 92
theorem escL_occ (c : Nat) : (Builtin.Str.occurrences (Str.ofString " \n\\") ⟨#[c]⟩ 0 (Str.ofString " \n\\").length 1).isEmpty = !escL c := by
  have e : Str.ofString " \n\\" = ⟨#[32, 10, 92]⟩ := rfl
  rw [e]
  by_cases h0 : c = 32
  · subst h0; decide +kernel
  by_cases h1 : c = 10
  · subst h1; decide +kernel
  by_cases h2 : c = 92
  · subst h2; decide +kernel
  have s : ∀ i, Builtin.Str.subAt ⟨#[32, 10, 92]⟩ ⟨#[c]⟩ i = true → False := by
    intro i hi
    have hi : (#[32, 10, 92] : Array Nat).extract i (i + 1) = #[c] := eq_of_beq hi
    have := congrArg (fun a : Array Nat => a.toList) hi
    match i with
    | 0 => simp at this; exact h0 this.symm
    | 1 => simp at this; exact h1 this.symm
    | 2 => simp at this; exact h2 this.symm
    | i + 3 =>
      have := congrArg List.length this
      simp at this
  have w : escL c = false := by simp [escL, h0, h1, h2]
  rw [w]
  have s' : ∀ i, Builtin.Str.subAt ⟨#[32, 10, 92]⟩ ⟨#[c]⟩ i = false := fun i => by
    cases h : Builtin.Str.subAt ⟨#[32, 10, 92]⟩ ⟨#[c]⟩ i with
    | false => rfl
    | true => exact (s i h).elim
  unfold Builtin.Str.occurrences
  simp only [s', Bool.and_false, Bool.false_eq_true, if_false]
  have fid : ∀ (l : List Nat) (z : Array Nat × Nat), List.foldl (fun b _ => (b.fst, b.snd)) z l = z := by
    intro l; induction l with
    | nil => intro z; rfl
    | cons x l ih => intro z; exact ih z
  simp [Std.Legacy.Range.forIn_eq_forIn_range', Id.run, fid]
  rfl
theorem esc_yes {p : Nat → Bool} {c : Nat} (h : p c = true) : escBy p c = Str.ofString "\\" ++ (⟨#[c]⟩ : Str) := by
  unfold escBy; rw [if_pos h]; rfl
theorem esc_no {p : Nat → Bool} {c : Nat} (h : p c = false) : escBy p c = (⟨#[c]⟩ : Str) := by
  unfold escBy; rw [if_neg (by rw [h]; exact Bool.false_ne_true)]
theorem esc_flat (p : Nat → Bool) : ∀ l : List Nat, (l.flatMap fun c => (escBy p c).cps.toList).length ≤ 2 * l.length
  | [] => by simp
  | c :: l => by
    have ih := esc_flat p l
    simp only [List.flatMap_cons, List.length_append, List.length_cons]
    have : (escBy p c).cps.toList.length ≤ 2 := by unfold escBy; split <;> simp
    omega
section
variable (w : World) (loose : List Str) (mean : ExcName → Option Value) (mg mb : Str → Option Value)
theorem wr1_H (x : Str) (t u : Tok) (hx : x.cps.size ≤ 100) : HC w loose mean mg mb 30 115 [.str x t, .int 1 u] [] (fun _ => True) (fun v now => now = [] ∧ ∃ y t, v = .str y t ∧ y.cps.toList = 34 :: (x.cps.toList.flatMap fun c => (escBy escQ c).cps.toList) ++ [34]) := by
  k_with "x11" => skip
  k_with "eval ListComp" => ((fail_if_success k_extra "x12"); k_here; k_dflt (refine ListComp_W (by k_asm) (by with_unfolding_all rfl) (by decide) (by rfl) (by decide) (by rfl) ?_))
  k_with "SrcW" => ((fail_if_success k_extra "x12"); k_here; k_dflt (refine Or.inl ⟨_, _, _, rfl, rfl, by k_asm, by k_asm, by (rw [PySem.sizeLine_eq]; omega), ?_⟩; rintro _ ⟨_, e8'⟩; subst e8'; refine strs_rest (escBy escQ) (fun c' u' I' oI' C' oC' D' m' ys' h' tk' E' hC' hx' F' N' off' ne' => ?_) (fun _ _ => ?_); (all_goals (try (simp only [LCg.Off3, and_true] at off'; revert c' u' I' oI' C' oC' D' m' ys' h' tk' E' hC' hx' F' N' off' ne'; intro _ _ _ _ _ _ _ _ _ _ _ _ _ _ _ _ _ _)))))
  k_with "KCtEl" => ((fail_if_success k_extra "x12"); k_here; k_dflt (refine hold_of ?_))
  k_with "call builtin:str.join" => ((fail_if_success k_extra "x12"); k_here; k_dflt (refine hold_of ?_))
  unfold HC; k_fill
  refine' enterH (pre' := fun _ => True) (binds := [("word", .str x t), ("way", .int 1 u)]) ?k6 ?k7 ?k9 ?kB ?kP ?kW ?c5 ?c2 ?c3 ?c4 ?c6
  k_extra "mine enter"
  (case kP => exact fun _ _ h _ => h)
  intro dp un gd outer base g L' s E B F N X T hp hlt hd hu
  k_steps
  all_goals try (unfold Hold; refine kct_el ?_ rfl rfl; rename (Builtin.Str.occurrences _ _ _ _ _).isEmpty = _ => ho; rw [escQ_occ] at ho; simp only [Bool.not_not, Bool.not_eq_true', Bool.not_eq_false', Bool.not_true, Bool.not_false] at ho; first | exact esc_yes ho | exact esc_no ho)
  · rename StrsAre _ _ => hys
    rename News _ _ _ _ => NN
    unfold Hold
    refine join_listC (x := Str.ofString "") (ys := x.cps.toList.map (escBy escQ)) ⟨_, (NN _ (List.Mem.head _)).1, rfl, _, rfl⟩ hys (by decide) (esc_bound _ (by rw [Array.length_toList]; omega)) fun t9 k9 => ?_
    have hj := join_esc escQ x.cps.toList
    generalize Txt.join (Str.ofString "") (x.cps.toList.map (escBy escQ)) = J at *
    have hjl : J.length ≤ 200 := by
      show J.cps.size ≤ 200
      rw [← Array.length_toList, hj]
      refine Nat.le_trans (esc_flat _ _) ?_
      rw [Array.length_toList]; omega
    k_steps
    rename Fr g _ _ _ => FF
    refine leaveH (now := []) FF (fun p hp => nomatch hp) ⟨rfl, _, _, rfl, ?_⟩
    simp only [cps_app, hj]; rfl
end
section
variable (w : World) (loose : List Str) (mean : ExcName → Option Value) (mg mb : Str → Option Value)
theorem wr0_H (x : Str) (t u : Tok) (hx : x.cps.size ≤ 100) (hne : (x == Str.ofString "") = false) : HC w loose mean mg mb 30 115 [.str x t, .int 0 u] [] (fun _ => True) (fun v now => now = [] ∧ ∃ y t, v = .str y t ∧ y.cps.toList = (x.cps.toList.flatMap fun c => (escBy (fun _ => true) c).cps.toList) ++ [10]) := by
  k_with "x12" => skip
  k_with "eval ListComp" => ((fail_if_success k_extra "x13"); k_here; k_dflt (refine ListComp_W (by k_asm) (by with_unfolding_all rfl) (by decide) (by rfl) (by decide) (by rfl) ?_))
  k_with "SrcW" => ((fail_if_success k_extra "x13"); k_here; k_dflt (refine Or.inl ⟨_, _, _, rfl, rfl, by k_asm, by k_asm, by (rw [PySem.sizeLine_eq]; omega), ?_⟩; rintro _ ⟨_, e8'⟩; subst e8'; refine strs_rest (escBy (fun _ => true)) (fun c' u' I' oI' C' oC' D' m' ys' h' tk' E' hC' hx' F' N' off' ne' => ?_) (fun _ _ => ?_); (all_goals (try (simp only [LCg.Off3, and_true] at off'; revert c' u' I' oI' C' oC' D' m' ys' h' tk' E' hC' hx' F' N' off' ne'; intro _ _ _ _ _ _ _ _ _ _ _ _ _ _ _ _ _ _)))))
  k_with "KCtEl" => ((fail_if_success k_extra "x13"); k_here; k_dflt (refine hold_of ?_))
  k_with "call builtin:str.join" => ((fail_if_success k_extra "x13"); k_here; k_dflt (refine hold_of ?_))
  unfold HC; k_fill
  refine' enterH (pre' := fun _ => True) (binds := [("word", .str x t), ("way", .int 0 u)]) ?k6 ?k7 ?k9 ?kB ?kP ?kW ?c5 ?c2 ?c3 ?c4 ?c6
  k_extra "mine enter"
  (case kP => exact fun _ _ h _ => h)
  intro dp un gd outer base g L' s E B F N X T hp hlt hd hu
  k_steps
  all_goals try (unfold Hold; refine kct_el ?_ rfl rfl; exact esc_yes rfl)
  · rename StrsAre _ _ => hys
    rename News _ _ _ _ => NN
    unfold Hold
    refine join_listC (x := Str.ofString "") (ys := x.cps.toList.map (escBy (fun _ => true))) ⟨_, (NN _ (List.Mem.head _)).1, rfl, _, rfl⟩ hys (by decide) (esc_bound _ (by rw [Array.length_toList]; omega)) fun t9 k9 => ?_
    have hj := join_esc (fun _ => true) x.cps.toList
    generalize Txt.join (Str.ofString "") (x.cps.toList.map (escBy (fun _ => true))) = J at *
    have hjl : J.length ≤ 200 := by
      show J.cps.size ≤ 200
      rw [← Array.length_toList, hj]
      refine Nat.le_trans (esc_flat _ _) ?_
      rw [Array.length_toList]; omega
    k_steps
    rename Fr g _ _ _ => FF
    refine leaveH (now := []) FF (fun p hp => nomatch hp) ⟨rfl, _, _, rfl, ?_⟩
    simp only [cps_app, hj]; rfl
end
section
variable (w : World) (loose : List Str) (mean : ExcName → Option Value) (mg mb : Str → Option Value)
theorem wrE0_H (x : Str) (t u : Tok) (hx : x.cps.size ≤ 100) (he : (x == Str.ofString "") = true) : HC w loose mean mg mb 30 115 [.str x t, .int 0 u] [] (fun _ => True) (fun v now => now = [] ∧ ∃ y t, v = .str y t ∧ y.cps.toList = [34, 34]) := by
  k_with "x13" => skip
  k_with "eval ListComp" => ((fail_if_success k_extra "x14"); k_here; k_dflt (refine ListComp_W (by k_asm) (by with_unfolding_all rfl) (by decide) (by rfl) (by decide) (by rfl) ?_))
  k_with "SrcW" => ((fail_if_success k_extra "x14"); k_here; k_dflt (refine Or.inl ⟨_, _, _, rfl, rfl, by k_asm, by k_asm, by (rw [PySem.sizeLine_eq]; omega), ?_⟩; rintro _ ⟨_, e8'⟩; subst e8'; refine strs_rest (escBy escQ) (fun c' u' I' oI' C' oC' D' m' ys' h' tk' E' hC' hx' F' N' off' ne' => ?_) (fun _ _ => ?_); (all_goals (try (simp only [LCg.Off3, and_true] at off'; revert c' u' I' oI' C' oC' D' m' ys' h' tk' E' hC' hx' F' N' off' ne'; intro _ _ _ _ _ _ _ _ _ _ _ _ _ _ _ _ _ _)))))
  k_with "KCtEl" => ((fail_if_success k_extra "x14"); k_here; k_dflt (refine hold_of ?_))
  k_with "call builtin:str.join" => ((fail_if_success k_extra "x14"); k_here; k_dflt (refine hold_of ?_))
  unfold HC; k_fill
  refine' enterH (pre' := fun _ => True) (binds := [("word", .str x t), ("way", .int 0 u)]) ?k6 ?k7 ?k9 ?kB ?kP ?kW ?c5 ?c2 ?c3 ?c4 ?c6
  k_extra "mine enter"
  (case kP => exact fun _ _ h _ => h)
  intro dp un gd outer base g L' s E B F N X T hp hlt hd hu
  k_steps
  all_goals try (unfold Hold; refine kct_el ?_ rfl rfl; rename (Builtin.Str.occurrences _ _ _ _ _).isEmpty = _ => ho; rw [escQ_occ] at ho; simp only [Bool.not_not, Bool.not_eq_true', Bool.not_eq_false', Bool.not_true, Bool.not_false] at ho; first | exact esc_yes ho | exact esc_no ho)
  · rename StrsAre _ _ => hys
    rename News _ _ _ _ => NN
    unfold Hold
    refine join_listC (x := Str.ofString "") (ys := x.cps.toList.map (escBy escQ)) ⟨_, (NN _ (List.Mem.head _)).1, rfl, _, rfl⟩ hys (by decide) (esc_bound _ (by rw [Array.length_toList]; omega)) fun t9 k9 => ?_
    have hj := join_esc escQ x.cps.toList
    generalize Txt.join (Str.ofString "") (x.cps.toList.map (escBy escQ)) = J at *
    have hjl : J.length ≤ 200 := by
      show J.cps.size ≤ 200
      rw [← Array.length_toList, hj]
      refine Nat.le_trans (esc_flat _ _) ?_
      rw [Array.length_toList]; omega
    k_steps
    rename Fr g _ _ _ => FF
    refine leaveH (now := []) FF (fun p hp => nomatch hp) ⟨rfl, _, _, rfl, ?_⟩
    have hx0 : x = Str.ofString "" := eq_of_beq he
    subst hx0
    simp only [cps_app, hj]; rfl
end
section
variable (w : World) (loose : List Str) (mean : ExcName → Option Value) (mg mb : Str → Option Value)
theorem wrE2_H (x : Str) (t u : Tok) (hx : x.cps.size ≤ 100) (he : (x == Str.ofString "") = true) : HC w loose mean mg mb 30 115 [.str x t, .int 2 u] [] (fun _ => True) (fun v now => now = [] ∧ ∃ y t, v = .str y t ∧ y.cps.toList = [34, 34]) := by
  k_with "x14" => skip
  k_with "eval ListComp" => ((fail_if_success k_extra "x15"); k_here; k_dflt (refine ListComp_W (by k_asm) (by with_unfolding_all rfl) (by decide) (by rfl) (by decide) (by rfl) ?_))
  k_with "SrcW" => ((fail_if_success k_extra "x15"); k_here; k_dflt (refine Or.inl ⟨_, _, _, rfl, rfl, by k_asm, by k_asm, by (rw [PySem.sizeLine_eq]; omega), ?_⟩; rintro _ ⟨_, e8'⟩; subst e8'; refine strs_rest (escBy escQ) (fun c' u' I' oI' C' oC' D' m' ys' h' tk' E' hC' hx' F' N' off' ne' => ?_) (fun _ _ => ?_); (all_goals (try (simp only [LCg.Off3, and_true] at off'; revert c' u' I' oI' C' oC' D' m' ys' h' tk' E' hC' hx' F' N' off' ne'; intro _ _ _ _ _ _ _ _ _ _ _ _ _ _ _ _ _ _)))))
  k_with "KCtEl" => ((fail_if_success k_extra "x15"); k_here; k_dflt (refine hold_of ?_))
  k_with "call builtin:str.join" => ((fail_if_success k_extra "x15"); k_here; k_dflt (refine hold_of ?_))
  unfold HC; k_fill
  refine' enterH (pre' := fun _ => True) (binds := [("word", .str x t), ("way", .int 2 u)]) ?k6 ?k7 ?k9 ?kB ?kP ?kW ?c5 ?c2 ?c3 ?c4 ?c6
  k_extra "mine enter"
  (case kP => exact fun _ _ h _ => h)
  intro dp un gd outer base g L' s E B F N X T hp hlt hd hu
  k_steps
  all_goals try (unfold Hold; refine kct_el ?_ rfl rfl; rename (Builtin.Str.occurrences _ _ _ _ _).isEmpty = _ => ho; rw [escQ_occ] at ho; simp only [Bool.not_not, Bool.not_eq_true', Bool.not_eq_false', Bool.not_true, Bool.not_false] at ho; first | exact esc_yes ho | exact esc_no ho)
  · rename StrsAre _ _ => hys
    rename News _ _ _ _ => NN
    unfold Hold
    refine join_listC (x := Str.ofString "") (ys := x.cps.toList.map (escBy escQ)) ⟨_, (NN _ (List.Mem.head _)).1, rfl, _, rfl⟩ hys (by decide) (esc_bound _ (by rw [Array.length_toList]; omega)) fun t9 k9 => ?_
    have hj := join_esc escQ x.cps.toList
    generalize Txt.join (Str.ofString "") (x.cps.toList.map (escBy escQ)) = J at *
    have hjl : J.length ≤ 200 := by
      show J.cps.size ≤ 200
      rw [← Array.length_toList, hj]
      refine Nat.le_trans (esc_flat _ _) ?_
      rw [Array.length_toList]; omega
    k_steps
    rename Fr g _ _ _ => FF
    refine leaveH (now := []) FF (fun p hp => nomatch hp) ⟨rfl, _, _, rfl, ?_⟩
    have hx0 : x = Str.ofString "" := eq_of_beq he
    subst hx0
    simp only [cps_app, hj]; rfl
end
section
variable (w : World) (loose : List Str) (mean : ExcName → Option Value) (mg mb : Str → Option Value)
theorem wr2q_H (x : Str) (t u : Tok) (hx : x.cps.size ≤ 100) (hq : (Txt.item x 0 == Str.ofString "\"") = true) (hne : (x == Str.ofString "") = false) : HC w loose mean mg mb 30 115 [.str x t, .int 2 u] [] (fun _ => True) (fun v now => now = [] ∧ ∃ y t, v = .str y t ∧ y.cps.toList = [9, 13, 92] ++ (x.cps.toList.flatMap fun c => (escBy escL c).cps.toList) ++ [32]) := by
  k_with "x15" => skip
  k_with "eval ListComp" => ((fail_if_success k_extra "x16"); k_here; k_dflt (refine ListComp_W (by k_asm) (by with_unfolding_all rfl) (by decide) (by rfl) (by decide) (by rfl) ?_))
  k_with "SrcW" => ((fail_if_success k_extra "x16"); k_here; k_dflt (refine Or.inl ⟨_, _, _, rfl, rfl, by k_asm, by k_asm, by (rw [PySem.sizeLine_eq]; omega), ?_⟩; rintro _ ⟨_, e8'⟩; subst e8'; refine strs_rest (escBy escL) (fun c' u' I' oI' C' oC' D' m' ys' h' tk' E' hC' hx' F' N' off' ne' => ?_) (fun _ _ => ?_); (all_goals (try (simp only [LCg.Off3, and_true] at off'; revert c' u' I' oI' C' oC' D' m' ys' h' tk' E' hC' hx' F' N' off' ne'; intro _ _ _ _ _ _ _ _ _ _ _ _ _ _ _ _ _ _)))))
  k_with "KCtEl" => ((fail_if_success k_extra "x16"); k_here; k_dflt (refine hold_of ?_))
  k_with "call builtin:str.join" => ((fail_if_success k_extra "x16"); k_here; k_dflt (refine hold_of ?_))
  unfold HC; k_fill
  refine' enterH (pre' := fun _ => True) (binds := [("word", .str x t), ("way", .int 2 u)]) ?k6 ?k7 ?k9 ?kB ?kP ?kW ?c5 ?c2 ?c3 ?c4 ?c6
  k_extra "mine enter"
  (case kP => exact fun _ _ h _ => h)
  intro dp un gd outer base g L' s E B F N X T hp hlt hd hu
  k_steps
  all_goals try (unfold Hold; refine kct_el ?_ rfl rfl; rename (Builtin.Str.occurrences _ _ _ _ _).isEmpty = _ => ho; rw [escL_occ] at ho; simp only [Bool.not_not, Bool.not_eq_true', Bool.not_eq_false', Bool.not_true, Bool.not_false] at ho; first | exact esc_yes ho | exact esc_no ho)
  · rename StrsAre _ _ => hys
    rename News _ _ _ _ => NN
    unfold Hold
    refine join_listC (x := Str.ofString "") (ys := x.cps.toList.map (escBy escL)) ⟨_, (NN _ (List.Mem.head _)).1, rfl, _, rfl⟩ hys (by decide) (esc_bound _ (by rw [Array.length_toList]; omega)) fun t9 k9 => ?_
    have hj := join_esc escL x.cps.toList
    generalize Txt.join (Str.ofString "") (x.cps.toList.map (escBy escL)) = J at *
    have hjl : J.length ≤ 200 := by
      show J.cps.size ≤ 200
      rw [← Array.length_toList, hj]
      refine Nat.le_trans (esc_flat _ _) ?_
      rw [Array.length_toList]; omega
    k_steps
    rename Fr g _ _ _ => FF
    refine leaveH (now := []) FF (fun p hp => nomatch hp) ⟨rfl, _, _, rfl, ?_⟩
    simp only [cps_app, hj]; rfl
end
section
variable (w : World) (loose : List Str) (mean : ExcName → Option Value) (mg mb : Str → Option Value)
theorem wr2n_H (x : Str) (t u : Tok) (hx : x.cps.size ≤ 100) (hq : (Txt.item x 0 == Str.ofString "\"") = false) (hne : (x == Str.ofString "") = false) : HC w loose mean mg mb 30 115 [.str x t, .int 2 u] [] (fun _ => True) (fun v now => now = [] ∧ ∃ y t, v = .str y t ∧ y.cps.toList = [9, 13] ++ (x.cps.toList.flatMap fun c => (escBy escL c).cps.toList) ++ [32]) := by
  k_with "x16" => skip
  k_with "eval ListComp" => ((fail_if_success k_extra "x17"); k_here; k_dflt (refine ListComp_W (by k_asm) (by with_unfolding_all rfl) (by decide) (by rfl) (by decide) (by rfl) ?_))
  k_with "SrcW" => ((fail_if_success k_extra "x17"); k_here; k_dflt (refine Or.inl ⟨_, _, _, rfl, rfl, by k_asm, by k_asm, by (rw [PySem.sizeLine_eq]; omega), ?_⟩; rintro _ ⟨_, e8'⟩; subst e8'; refine strs_rest (escBy escL) (fun c' u' I' oI' C' oC' D' m' ys' h' tk' E' hC' hx' F' N' off' ne' => ?_) (fun _ _ => ?_); (all_goals (try (simp only [LCg.Off3, and_true] at off'; revert c' u' I' oI' C' oC' D' m' ys' h' tk' E' hC' hx' F' N' off' ne'; intro _ _ _ _ _ _ _ _ _ _ _ _ _ _ _ _ _ _)))))
  k_with "KCtEl" => ((fail_if_success k_extra "x17"); k_here; k_dflt (refine hold_of ?_))
  k_with "call builtin:str.join" => ((fail_if_success k_extra "x17"); k_here; k_dflt (refine hold_of ?_))
  unfold HC; k_fill
  refine' enterH (pre' := fun _ => True) (binds := [("word", .str x t), ("way", .int 2 u)]) ?k6 ?k7 ?k9 ?kB ?kP ?kW ?c5 ?c2 ?c3 ?c4 ?c6
  k_extra "mine enter"
  (case kP => exact fun _ _ h _ => h)
  intro dp un gd outer base g L' s E B F N X T hp hlt hd hu
  k_steps
  all_goals try (unfold Hold; refine kct_el ?_ rfl rfl; rename (Builtin.Str.occurrences _ _ _ _ _).isEmpty = _ => ho; rw [escL_occ] at ho; simp only [Bool.not_not, Bool.not_eq_true', Bool.not_eq_false', Bool.not_true, Bool.not_false] at ho; first | exact esc_yes ho | exact esc_no ho)
  · rename StrsAre _ _ => hys
    rename News _ _ _ _ => NN
    unfold Hold
    refine join_listC (x := Str.ofString "") (ys := x.cps.toList.map (escBy escL)) ⟨_, (NN _ (List.Mem.head _)).1, rfl, _, rfl⟩ hys (by decide) (esc_bound _ (by rw [Array.length_toList]; omega)) fun t9 k9 => ?_
    have hj := join_esc escL x.cps.toList
    generalize Txt.join (Str.ofString "") (x.cps.toList.map (escBy escL)) = J at *
    have hjl : J.length ≤ 200 := by
      show J.cps.size ≤ 200
      rw [← Array.length_toList, hj]
      refine Nat.le_trans (esc_flat _ _) ?_
      rw [Array.length_toList]; omega
    k_steps
    rename Fr g _ _ _ => FF
    refine leaveH (now := []) FF (fun p hp => nomatch hp) ⟨rfl, _, _, rfl, ?_⟩
    simp only [cps_app, hj]; rfl
end
end
section
section
variable {M : Model} {A : Around} {R : GenEnd} {Y : Protocol} {n : Nat} {s₀ : Shared} {c : Code} {fs : List Frame} {s : Shared} {env : Env}
  {K : Flow → Sem Fin} {H : Value → Sem Fin} {gd : Bool → Bool} {lv : List Value → List Value}
theorem seg_bindw {α β : Type} {m : Sem α} {k : α → Sem β} {K : β → Sem Fin} {H : Value → Sem Fin}
    (h : wpAny M (A.over c fs) m (fun a s' => Seg M A R Y n s₀ c ((k a).wrap K H gd lv) fs s') (fun x s' => Seg M A R Y n s₀ c (H x) fs s') s) :
    Seg M A R Y n s₀ c ((m >>= k).wrap K H gd lv) fs s := by
  rw [Sem.bind_eq_wrap', Sem.wrap_wrap]
  exact seg_wrap h
theorem seg_stmt {st : Stmt} {rest : List Stmt}
    (h : wpAny M (A.over c fs) (exec st env) (fun f s' => match f with
      | .next => Seg M A R Y n s₀ c ((execs rest env).wrap K H gd lv) fs s'
      | f => Seg M A R Y n s₀ c (K f) fs s') (fun x s' => Seg M A R Y n s₀ c (H x) fs s') s) :
    Seg M A R Y n s₀ c ((execs (st :: rest) env).wrap K H gd lv) fs s := by
  refine seg_execs_cons (seg_wrap (wpAny_mono h (fun f s' h' => ?_) fun _ _ x => x))
  cases f <;> exact h'
theorem seg_If_true {test : Expr} {body orelse : List Stmt} {pos : Pos}
    (h : wpAny M (A.over c fs) (isTrue test env (eval test env)) (fun b s' => b = true ∧ Seg M A R Y n s₀ c ((execs body env).wrap K H gd lv) fs s') (fun x s' => Seg M A R Y n s₀ c (H x) fs s') s) :
    Seg M A R Y n s₀ c ((exec (.If test body orelse pos) env).wrap K H gd lv) fs s := by
  rw [exec_If]
  refine seg_bindw (wpAny_standAt ?_)
  refine seg_bindw (wpAny_mono h (fun b s' hb => ?_) fun _ _ x => x)
  obtain ⟨rfl, hb⟩ := hb
  exact hb
theorem seg_If {test : Expr} {body orelse : List Stmt} {pos : Pos}
    (h : wpAny M (A.over c fs) (isTrue test env (eval test env)) (fun b s' => if b = true then Seg M A R Y n s₀ c ((execs body env).wrap K H gd lv) fs s' else Seg M A R Y n s₀ c ((execs orelse env).wrap K H gd lv) fs s') (fun x s' => Seg M A R Y n s₀ c (H x) fs s') s) :
    Seg M A R Y n s₀ c ((exec (.If test body orelse pos) env).wrap K H gd lv) fs s := by
  rw [exec_If]
  refine seg_bindw (wpAny_standAt ?_)
  refine seg_bindw (wpAny_mono h (fun b s' hb => ?_) fun _ _ x => x)
  cases b with
  | true => exact hb
  | false => exact hb
noncomputable abbrev loopK (K : Flow → Sem Fin) (H : Value → Sem Fin) (gd : Bool → Bool) (lv : List Value → List Value) (env : Env) : Result → Sem Fin :=
  fun r => ((match r with | .ok f => (.pure f : Sem Flow) | .error e => .raise e).onRaise fun (x : Value) => do
        if (← field x 1) == Value.none then unsupported "frame.own-activation:exception-without-traceback"
        setFlight x env.frame).wrap K H gd lv
theorem seg_For {target iter : Expr} {body orelse : List Stmt} {pos : Pos} (hfold : ∀ x, foldedSetIterable iter env x = pure x)
    (h : wpAny M (A.over c fs) (eval iter env) (fun x s₁ => wpAny M (A.over c fs) (pyIter x) (fun it s₂ =>
      ∀ p, Seg M A R Y n s₀ (.forLoop target it body orelse env) (M.den (.forLoop target it body orelse env)) (.ret (loopK K H gd lv env) none (gd false) (lv []) c p [] :: fs) s₂)
      (fun x s' => Seg M A R Y n s₀ c (H x) fs s') s₁) (fun x s' => Seg M A R Y n s₀ c (H x) fs s') s) :
    Seg M A R Y n s₀ c ((exec (.For target iter body orelse pos) env).wrap K H gd lv) fs s := by
  rw [exec_For]
  refine seg_bindw (wpAny_standAt ?_)
  refine seg_bindw (wpAny_mono h (fun x s₁ h₁ => ?_) fun _ _ x => x)
  rw [hfold]
  show Seg M A R Y n s₀ c ((standAt iter.pos >>= fun _ => holding [x] (pyIter x) >>= fun it => runOwn (.forLoop target it body orelse env) env).wrap K H gd lv) fs s₁
  refine seg_bindw (wpAny_standAt ?_)
  refine seg_bindw (wpAny_holding (wpAny_mono h₁ (fun it s₂ h₂ => ?_) fun _ _ x => x))
  exact seg_call h₂
theorem seg_rec (Inv : Nat → Nat → Shared → Shared → Prop) {c : Code} {t : Sem Fin} {fs : List Frame}
    (turn : ∀ d, (∀ d' n s₀ s, d' < d → Inv d' n s₀ s → Seg M A R Y n s₀ c t fs s) → ∀ n s₀ s, Inv d n s₀ s → Seg M A R Y n s₀ c t fs s) :
    ∀ d n s₀ s, Inv d n s₀ s → Seg M A R Y n s₀ c t fs s := fun d => Nat.strongRecOn d fun d ih => turn d fun d' n s₀ s hd => ih d' hd n s₀ s
end
section
variable {prog : Program} {w : World} {A : Around} {R : GenEnd} {Y : Protocol} {n : Nat} {s₀ : Shared} {fs : List Frame} {s : Shared} {env : Env}
noncomputable abbrev noteK (env : Env) : Value → Sem Fin := fun e => (do noteFrame e env; theTreesLotGoes e : Sem Unit).wrap (fun _ => .raise e) .raise id id
noncomputable abbrev turnK (c : Code) : Flow → Sem Fin := fun f => match f with
  | .next | .cont => .pure (.again c)
  | .brk => .pure (.done .next)
  | .ret v => .pure (.done (.ret v))
theorem seg_forTurn {target : Expr} {it : Value} {body orelse : List Stmt} (ht : ∀ v, letOwnedTupleGo target it v = pure ())
    (h : wpAny (model prog w) (A.over (.forLoop target it body orelse env) fs) (pyNext it) (fun r s₁ => match r with
      | none => Seg (model prog w) A R Y n s₀ (.forLoop target it body orelse env) (.pure (.again (.block orelse env))) fs s₁
      | some v => wpAny (model prog w) (A.over (.forLoop target it body orelse env) fs) (assign target env v) (fun _ s₂ =>
          Seg (model prog w) A R Y n s₀ (.forLoop target it body orelse env) ((execs body env).wrap (turnK (.forLoop target it body orelse env)) (noteK env) id id) fs s₂)
          (fun x s' => Seg (model prog w) A R Y n s₀ (.forLoop target it body orelse env) (noteK env x) fs s') s₁)
      (fun x s' => Seg (model prog w) A R Y n s₀ (.forLoop target it body orelse env) (noteK env x) fs s') s) :
    Seg (model prog w) A R Y n s₀ (.forLoop target it body orelse env) ((model prog w).den (.forLoop target it body orelse env)) fs s := by
  show Seg _ A R Y n s₀ _ ((forTurn target it body orelse env).onRaise (fun x => do noteFrame x env; theTreesLotGoes x)) fs s
  have hH : ∀ e, ((do noteFrame e env; theTreesLotGoes e : Sem Unit).bind fun _ => (.raise e : Sem Fin)) = noteK env e := fun e => Sem.bind_eq_wrap _ _
  rw [Sem.onRaise_eq_wrap, Sem.wrap_congr _ _ _ (fun _ => rfl) hH]
  unfold forTurn
  refine seg_bindw (wpAny_standAt ?_)
  refine seg_bindw (wpAny_onRaise (wpAny_mono h (fun r s₁ h₁ => ?_) fun _ _ x => wpAny_standAt x))
  cases r with
  | none => exact h₁
  | some v =>
    dsimp only
    rw [ht v]
    refine seg_bindw (wpAny_pure ?_)
    refine seg_bindw (wpAny_mono h₁ (fun _ s₂ h₂ => ?_) fun _ _ x => x)
    rw [Sem.bind_eq_wrap', Sem.wrap_wrap]
    rw [Sem.wrap_congr (execs body env) _ _ (K' := turnK (.forLoop target it body orelse env)) (H' := noteK env) (fun f => by cases f <;> rfl) (fun e => by rfl)]
    exact h₂
theorem seg_again_block {c : Code} {K : Flow → Sem Fin} {H : Value → Sem Fin} {gd : Bool → Bool} {lv : List Value → List Value} {g : Bool} {l : List Value} {c₁ : Code} {p₁ : Pos} {kp : List Value}
    (h : Seg (model prog w) A R Y n s₀ c₁ (K .next) fs s) :
    Seg (model prog w) A R Y n s₀ c (.pure (.again (.block [] env))) (.ret (loopK K H gd lv env) none g l c₁ p₁ kp :: fs) s := by
  refine seg_again rfl ?_
  show Seg _ A R Y n s₀ _ (leafOf (.ok .next)) _ s
  exact seg_leaf _ h
theorem seg_leave_loop {c : Code} {K : Flow → Sem Fin} {H : Value → Sem Fin} {gd : Bool → Bool} {lv : List Value → List Value} {g : Bool} {l : List Value} {c₁ : Code} {p₁ : Pos} {kp : List Value} {v : Value}
    (h : Seg (model prog w) A R Y n s₀ c₁ (K (.ret v)) fs s) :
    Seg (model prog w) A R Y n s₀ c (.pure (.done (.ret v))) (.ret (loopK K H gd lv env) none g l c₁ p₁ kp :: fs) s := by
  show Seg _ A R Y n s₀ _ (leafOf (.ok (.ret v))) _ s
  exact seg_leaf _ h
theorem next_gen {E : Value → Shared → Prop} {a : Addr} {g : Nat} {gs : GenState} {Q : Option Value → Shared → Prop} (hh : A.handled = none)
    (hl : s.heap.NoLimit) (hroom : A.depth < recursionLimit) (hg : s.heap.IsGen a g) (hgs : s.gens[g]? = some gs)
    (hgo : gs.Goes (model prog w) A.in1 R Y n (.send .none) (s.setGen g .running))
    (hR : ∀ r s₁, R n (s.setGen g .running) r s₁ → r = .ok (.ret .none) ∧ ∀ h', (∀ b o, s₁.heap.get? b = some o → h'.get? b = some o) → Q none { s₁.setGen g .finished with heap := h' })
    (hY : ∀ v s₁ gs', gs'.bare = true → Y (n - 1) (s.setGen g .running) v s₁ (fun r' s'' => match n with
        | 0 => False
        | m + 1 => gs'.Goes (model prog w) A.in1 R Y m r' s'') → Q (some v) (s₁.setGen g gs')) :
    wpAny (model prog w) A (pyNext (.ref a)) Q E s := by
  unfold pyNext
  refine wpAny_bind (wpAny_attempt (wpAny_callSpecial?_slot (name := Str.ofString "__next__") hg.typeIs slot_gen_next
    (wpAny_call_entry slot_gen_next hg.typeIs entry_gen_next ?_ (args_gen_next _))))
  show wpAny _ A.in1 (Builtin.Generator.genWake (.ref a) (.send .none)) _ _ s
  unfold Builtin.Generator.genWake
  refine wpAny_bind (wpAny_holding (wpAny_genNumber hg (wpAny_bind (wpAny_genState hgs ?_))))
  cases gs with
  | running => exact hgo.elim
  | finished => exact hgo.elim
  | _ =>
    refine wpAny_bind (wpAny_roomToWake hl hroom ?_)
    show wpAny _ A.in1 (.resume g (.send .none) [] _) _ _ s
    refine wpAny_resumeQ hgs hgo (fun x s₁ hx => ?_) (fun v s₁ gs' hb hv => wpAny_pure ⟨v, rfl, wpAny_pure (hY v s₁ gs' hb hv)⟩)
    obtain ⟨e, k⟩ := hR x s₁ hx
    subst e
    show wpAny _ A.in1 ((newExc (.type "StopIteration") [] >>= fun x => raiseNew x) >>= fun (_ : PUnit) => _) _ _ _
    refine wpAny_bind ?_
    refine stop_K (A := A.in1) hh fun e h' k' T => ?_
    refine wpAny_bind (wpAny_isInstance T isSubtype_stop ?_)
    exact wpAny_pure (k h' k')
end
end
section
noncomputable def giv : Option Int → List Int → Nat → List Int
  | _, _, 0 => []
  | _, [], _ + 1 => []
  | last, x :: xs, n + 1 => if x = 127 then [] else if x = 0 then List.replicate (n + 1) (last.getD 0) else x :: giv (some x) xs n
noncomputable def giOk : Option Int → List Int → Prop
  | _, [] => True
  | last, x :: xs => x = 127 ∨ (x = 0 ∧ ∃ l, last = some l) ∨ (x ≠ 0 ∧ x ≠ 127 ∧ giOk (some x) xs)
noncomputable def GKeep (b₀ : Heap) (ext : List Addr) (s₀ s₁ : Shared) : Prop :=
  ∃ h₁ tk₁, s₁ = { s₀ with heap := h₁, toks := tk₁ } ∧ (∀ b o, b₀.get? b = some o → h₁.get? b = some o) ∧ ∀ b ∈ ext, ∀ o, s₀.heap.get? b = some o → h₁.get? b = some o
noncomputable def GFp (Lg : Addr) (ext : List Addr) (fp : List (Addr × Obj)) (h : Heap) : Prop := ∀ p ∈ fp, h.get? p.1 = some p.2 ∧ @LE.le Nat _ Lg p.1 ∧ p.1 ∉ ext
noncomputable def GReady (b₀ : Heap) (ext : List Addr) (fp : List (Addr × Obj)) (s : Shared) : Prop :=
  (∀ p ∈ fp, s.heap.get? p.1 = some p.2) ∧ (∀ b o, b₀.get? b = some o → s.heap.get? b = some o) ∧ ∀ b ∈ ext, ∃ o, s.heap.get? b = some o
noncomputable def giY (rem : Nat → List Int) (b₀ : Heap) (ext : List Addr) (Lg : Addr) : Protocol := fun j s₀ v s₁ kap =>
  (∃ x t l, rem (j + 1) = x :: l ∧ v = .int x t) ∧ GKeep b₀ ext s₀ s₁ ∧ ∃ fp, GFp Lg ext fp s₁.heap ∧ (0 < j → ∀ s, GReady b₀ ext fp s → kap (.send .none) s)
noncomputable def giR (rem : Nat → List Int) (b₀ : Heap) (ext : List Addr) : GenEnd := fun n s₀ r s₁ => r = .ok (.ret .none) ∧ rem n = [] ∧ GKeep b₀ ext s₀ s₁
theorem ready_objs {b₀ : Heap} : ∀ {ext : List Addr} {s : Shared}, (∀ b ∈ ext, ∃ o, s.heap.get? b = some o) → ∃ xo : List (Addr × Obj), xo.map (·.1) = ext ∧ ∀ p ∈ xo, s.heap.get? p.1 = some p.2
  | [], _, _ => ⟨[], rfl, fun _ h => nomatch h⟩
  | b :: r, s, h => by
    obtain ⟨o, ho⟩ := h b (List.Mem.head _)
    obtain ⟨xo, e, k⟩ := ready_objs (b₀ := b₀) fun b hb => h b (.tail _ hb)
    exact ⟨(b, o) :: xo, by rw [List.map_cons, e], fun p hp => by
      rcases List.mem_cons.mp hp with rfl | hp
      · exact ho
      · exact k p hp⟩
noncomputable abbrev GA (dp un : Nat) (gd : Option (List Code)) (frs : List Env) : Around := { handled := none, depth := dp, frames := some frs, guards := gd, units := un }
theorem over_func {dp un : Nat} {gd : Option (List Code)} {frs : List Env} {body : List Stmt} {env : Env} : (GA dp un gd frs).over (.func body env) [] = GA (dp + 1) (un + 3) gd (env :: frs) := by
  cases gd <;> rfl
theorem over_for {dp un : Nat} {gd : Option (List Code)} {frs : List Env} {body fb : List Stmt} {env : Env} {target : Expr} {it : Value} {k : Result → Sem Fin} {g : Bool} {l : List Value} {p : Pos} {kp : List Value} :
    (GA dp un gd frs).over (.forLoop target it fb [] env) [.ret k none g l (.func body env) p kp] = GA (dp + 1) (un + 3) gd (env :: frs) := by
  cases gd <;> rfl
theorem over_while {dp un : Nat} {gd : Option (List Code)} {frs : List Env} {body fb wb : List Stmt} {env : Env} {target test : Expr} {it : Value} {k k' : Result → Sem Fin} {g g' : Bool} {l l' : List Value} {p p' : Pos} {kp kp' : List Value} :
    (GA dp un gd frs).over (.whileLoop test wb [] env) [.ret k' none g' l' (.forLoop target it fb [] env) p' kp', .ret k none g l (.func body env) p kp] = GA (dp + 1) (un + 3) gd (env :: frs) := by
  cases gd <;> rfl
end
section
noncomputable abbrev genO (gi : Nat) (nm qn : Value) : Obj := { cls := .type "generator", data := .fields #[.int gi 0, nm, qn] }
theorem none_of_size {h : Heap} {a : Addr} (H : @LE.le Nat _ h.objs.size a) : h.get? a = none := by
  cases e : h.get? a with
  | none => rfl
  | some o => exact absurd (Nat.lt_of_lt_of_le (Heap.lt_size e) H) (Nat.lt_irrefl _)
noncomputable abbrev fnK (env : Env) : Flow → Sem Fin := fun f => .pure (.done (.ret (match f with | .ret v => v | _ => .none)))
noncomputable abbrev fnH (env : Env) : Value → Sem Fin := fun e => (leaving env e).wrap (fun _ => .raise e) .raise id id
noncomputable def GBody (w : World) (loose : List Str) (mean : ExcName → Option Value) (mg mb : Str → Option Value) (rem : Nat → List Int) (N₀ : Nat) (rl : Addr) (vs : List Value) (e : Nat) (f : Addr) (qual : Str) (body : List Stmt) (scope : Scope) (cdv : Value) (binds : List (Str × Value)) : Prop :=
  ∀ (dp un : Nat) (gd : Option (List Code)) (frs : List Env) (g : Heap) (Lg : Addr) (s : Shared) (xo : List (Addr × Obj)), dp + 10 < recursionLimit → un + 100 < cLine → (Mine.hd.heap_1 w.params).In g → Top topProg loose mean mg mb g → g.get? rl = some (lstO vs e) →
    Fr g Lg s.heap (fun y => binds.reverse.lookup y) → News g Lg s.heap xo →
    Seg (model PySem.Challenge.rw_wo0016_01.prog w) (GA dp un gd frs) (giR rem g (xo.map (·.1))) (giY rem g (xo.map (·.1)) Lg) N₀ s (.func body (envOf qual scope Lg f cdv)) ((execs body (envOf qual scope Lg f cdv)).wrap (fnK (envOf qual scope Lg f cdv)) (fnH (envOf qual scope Lg f cdv)) id id) [] s
section
variable {w : World} {loose : List Str} {mean : ExcName → Option Value} {mg mb : Str → Option Value} {f rl : Addr} {vs : List Value} {e N₀ : Nat} {rem : Nat → List Int}
  {name qual : Str} {params : Arguments} {body : List Stmt} {scope : Scope} {dV kV doc pm cdv ct oc : Value} {an od : Option Addr} {osl : Array (Option Value)} {binds : List (Str × Value)}
noncomputable def GenC (w : World) (loose : List Str) (mean : ExcName → Option Value) (mg mb : Str → Option Value) (rem : Nat → List Int) (N₀ : Nat) (f rl : Addr) (vs : List Value) (e : Nat) : Prop :=
  ∀ {A : Around} {env : Env} {outer : List Env} {g : Heap} {L : Addr} {m : Str → Option Value} {s : Shared} {led : List (Addr × Obj)} {Q E : Value → Shared → Prop},
    Fr g L s.heap m → (Mine.hd.heap_1 w.params).In g → News g L s.heap led → Top topProg loose mean mg mb g → A.handled = none → A.frames = some (env :: outer) → A.depth + 20 < recursionLimit → A.units + 200 < cLine →
    g.get? rl = some (lstO vs e) →
    (∀ a Lg nm qn oL st h' tk', Fr g L h' m → News g L h' ((a, genO s.gens.size nm qn) :: (Lg, oL) :: led) → @LT.lt Nat _ Lg a → @LT.lt Nat _ L Lg → (∀ p ∈ led, @LT.lt Nat _ p.1 Lg) → st.bare = true →
      (∀ s'', GReady g (a :: L :: led.map (·.1)) [(Lg, oL)] s'' → st.Goes (model PySem.Challenge.rw_wo0016_01.prog w) A.in1 (giR rem g (a :: L :: led.map (·.1))) (giY rem g (a :: L :: led.map (·.1)) Lg) N₀ (.send .none) s'') →
      Q (.ref a) { s with heap := h', toks := tk', gens := s.gens.push st }) →
    wpAny (model PySem.Challenge.rw_wo0016_01.prog w) A (call (.ref f) [.ref rl]) Q E s
theorem enterG (ho : (Mine.hd.heap_1 w.params).lookup f = some ⟨oc, od, .func (fnOf name qual params body scope dV kV doc pm an cdv ct), osl⟩) (hcd : codeIn (Mine.hd.heap_1 w.params) cdv qual = true)
    (hbind : ∀ s, BindsTo s (fnOf name qual params body scope dV kV doc pm an cdv ct) ⟨[.ref rl], []⟩ binds) (hloc : ∀ y ∈ binds, scope.names.lookup y.1 = some .local)
    (hb : GBody w loose mean mg mb rem N₀ rl vs e f qual body scope cdv binds)
    (hcell : ∀ x ∈ scope.names, x.2 ≠ .cell) (hco : scope.isCoroutine = false) (hgen : scope.isGenerator = true) (hk : scope.kind = .function) : GenC w loose mean mg mb rem N₀ f rl vs e := by
  intro A env outer g L m s led Q E F X N T hh hA hd hu hrl hQ
  have ho' := (X.keeps F.keep) _ _ ho
  refine wpAny_call (codeAny_call_generator (by omega) ho' rfl hco hgen rfl (codeRec_of (X.keeps F.keep) hcd) (hbind s _ _ _ _ ?_))
  refine wpAny_newFunctionEnv hcell hloc (fun h₁ hns hsb => ?_) hk
  have hk₁ : ∀ b o, s.heap.get? b = some o → h₁.get? b = some o := fun b o q => hsb.extBut b o (Nat.ne_of_lt (Heap.lt_size q)) (Heap.get?_push_of_some _ q)
  refine ⟨(T.nolimit.keeps F.keep).keeps hk₁, ?_⟩
  have hsz : h₁.objs.size = s.heap.objs.size + 1 := by rw [hsb.1, Heap.size_push]
  obtain ⟨oL, hoL, hnL⟩ := LCg.ns_obj hns
  have hLs : @LT.lt Nat _ L s.heap.objs.size := F.ns.lt
  have hgs : @LE.le Nat _ g.objs.size L := F.above
  have keep : ∀ (o' : Obj) b o, s.heap.get? b = some o → (h₁.push o').get? b = some o := fun o' b o q => Heap.get?_push_of_some _ (hk₁ b o q)
  have NN : News g L (h₁.push (genO s.gens.size (.str name (s.toks + binds.length)) (.str qual (s.toks + binds.length + 1)))) ((h₁.objs.size, genO s.gens.size (.str name (s.toks + binds.length)) (.str qual (s.toks + binds.length + 1))) :: (s.heap.objs.size, oL) :: led) := by
    intro p hp
    rcases List.mem_cons.mp hp with q | hp
    · subst q
      exact ⟨Heap.get?_push_size _ rfl, by show @Ne Nat h₁.objs.size L; omega, none_of_size (by omega)⟩
    · rcases List.mem_cons.mp hp with q | hp
      · subst q
        exact ⟨Heap.get?_push_of_some _ hoL, by show @Ne Nat s.heap.objs.size L; omega, none_of_size (by show @LE.le Nat _ g.objs.size s.heap.objs.size; omega)⟩
      · exact ⟨keep _ _ _ (N p hp).1, (N p hp).2⟩
  refine hQ h₁.objs.size s.heap.objs.size _ _ oL (.fresh (.func body (envOf qual scope s.heap.objs.size f cdv))) _ _ (F.keeps fun b o q => keep _ b o q) NN (by omega) hLs (fun p hp => Heap.lt_size (N p hp).1) rfl ?_
  rintro s'' ⟨r1, r2, r3⟩
  refine ⟨rfl, seg_func ?_⟩
  obtain ⟨xo, hxo, hxk⟩ := ready_objs (b₀ := g) r3
  rw [← hxo]
  have eA : A.in1 = GA A.depth (A.units + 1) A.guards (env :: outer) := by rw [ar_of hh hA]
  rw [eA]
  refine hb A.depth (A.units + 1) A.guards (env :: outer) g s.heap.objs.size s'' xo (by omega) (by omega) X T hrl ⟨hnL.ns (r1 _ (List.Mem.head _)), r2, by omega⟩ fun p hp => ?_
  have hm : p.1 ∈ h₁.objs.size :: L :: led.map (·.1) := hxo ▸ List.mem_map_of_mem hp
  refine ⟨hxk p hp, ?_, ?_⟩
  · rcases List.mem_cons.mp hm with q | hm
    · rw [q]; show @Ne Nat h₁.objs.size s.heap.objs.size; omega
    · rcases List.mem_cons.mp hm with q | hm
      · rw [q]; exact Nat.ne_of_lt hLs
      · obtain ⟨y, hy, e⟩ := List.mem_map.mp hm
        rw [← e]; exact Nat.ne_of_lt (Heap.lt_size (N y hy).1)
  · rcases List.mem_cons.mp hm with q | hm
    · rw [q]; exact none_of_size (by omega)
    · rcases List.mem_cons.mp hm with q | hm
      · rw [q]; exact none_of_size hgs
      · obtain ⟨y, hy, e⟩ := List.mem_map.mp hm
        rw [← e]; exact (N y hy).2.2
end
end
section
noncomputable abbrev giM (iv : Option Value) (lv : Value) (rl : Addr) : Str → Option Value := fun y => if y = Str.ofString "interval" then iv else if y = Str.ofString "last_interval" then some lv else List.lookup y [(Str.ofString "grouping", Value.ref rl)].reverse
noncomputable def LastIs : Option Int → Value → Prop
  | none, v => v = .none
  | some l, v => ∃ t, v = .int l t
noncomputable def ItO (rl : Addr) (i : Nat) (o : Obj) : Prop := o.cls = .type "list_iterator" ∧ o.data = .fields #[.ref rl, .int i 0]
inductive GS6 (g : Heap) (Lg It rl : Addr) (ext : List Addr) (i : Nat) (iv : Option Value) (lv : Value) (s₀ s : Shared) : Prop
  | mk (h : Heap) (tk : Nat) (io : Obj) (xo : List (Addr × Obj)) (es : s = { s₀ with heap := h, toks := tk }) (F : Fr g Lg h (giM iv lv rl)) (N : News g Lg h ((It, io) :: xo)) (hi : ItO rl i io) (e : xo.map (·.1) = ext) (k : ∀ p ∈ xo, s₀.heap.get? p.1 = some p.2) : GS6 g Lg It rl ext i iv lv s₀ s
structure GSt (g : Heap) (Lg It rl : Addr) (ext : List Addr) (i : Nat) (iv : Option Value) (lv : Value) (s₀ s : Shared) : Prop where
  st : GS6 g Lg It rl ext i iv lv s₀ s
theorem fr_ext {g h h' : Heap} {L d : Addr} {m : Str → Option Value} (F : Fr g L h m) (x : Heap.ExtBut d h h') (hd : d ≠ L) (hn : g.get? d = none) : Fr g L h' m := by
  obtain ⟨oL, es, ep, hL, r⟩ := F.ns
  refine ⟨⟨oL, es, ep, x _ _ (Ne.symm hd) hL, r⟩, fun b o e => x b o (fun q => ?_) (F.keep b o e), F.above⟩
  rw [q, hn] at e; cases e
theorem xo_keep {g h : Heap} {L : Addr} {s₀ : Shared} {xo : List (Addr × Obj)} {ext : List Addr} (N : News g L h xo) (e : xo.map (·.1) = ext) (k : ∀ p ∈ xo, s₀.heap.get? p.1 = some p.2) : ∀ b ∈ ext, ∀ o, s₀.heap.get? b = some o → h.get? b = some o := by
  intro b hb o ho
  rw [← e] at hb
  obtain ⟨p, hp, rfl⟩ := List.mem_map.mp hb
  have := k p hp
  rw [ho] at this
  cases this
  exact (N p hp).1
theorem GSt.keep {g : Heap} {Lg It rl : Addr} {ext : List Addr} {i : Nat} {iv : Option Value} {lv : Value} {s₀ s : Shared} (x : GSt g Lg It rl ext i iv lv s₀ s) : GKeep g ext s₀ s := by
  obtain ⟨h, tk, io, xo, rfl, F, N, -, e, k⟩ := x.st
  exact ⟨h, tk, rfl, F.keep, xo_keep (fun p hp => N p (.tail _ hp)) e k⟩
theorem GSt.resume {g : Heap} {Lg It rl : Addr} {ext : List Addr} {i : Nat} {iv : Option Value} {lv : Value} {s₀ s : Shared} (hI : @LE.le Nat _ Lg It ∧ It ∉ ext) (hL : Lg ∉ ext) (x : GSt g Lg It rl ext i iv lv s₀ s) :
    ∃ fp, GFp Lg ext fp s.heap ∧ ∀ s'', GReady g ext fp s'' → GSt g Lg It rl ext i iv lv s'' s'' := by
  obtain ⟨h, tk, io, xo, rfl, F, N, hi, e, k⟩ := x.st
  obtain ⟨oL, hoL, hnL⟩ := LCg.ns_obj F.ns
  have NI := N (It, io) (List.Mem.head _)
  refine ⟨[(Lg, oL), (It, io)], fun p hp => ?_, fun s'' hr => ?_⟩
  · rcases List.mem_cons.mp hp with rfl | hp
    · exact ⟨hoL, Nat.le_refl _, hL⟩
    · rw [List.mem_singleton.mp hp]
      exact ⟨NI.1, hI⟩
  · obtain ⟨r1, r2, r3⟩ := hr
    obtain ⟨xo', e', k'⟩ := ready_objs (b₀ := g) r3
    refine ⟨s''.heap, s''.toks, io, xo', rfl, ⟨hnL.ns (r1 _ (List.Mem.head _)), r2, F.above⟩, fun p hp => ?_, hi, e', k'⟩
    rcases List.mem_cons.mp hp with rfl | hp
    · exact ⟨r1 _ (.tail _ (List.Mem.head _)), NI.2⟩
    · refine ⟨k' p hp, ?_⟩
      have hm : p.1 ∈ ext := e' ▸ List.mem_map_of_mem hp
      rw [← e] at hm
      obtain ⟨q, hq, eq⟩ := List.mem_map.mp hm
      have := N q (.tail _ hq)
      rw [← eq]; exact this.2
theorem GSt.yield {g : Heap} {Lg It rl : Addr} {ext : List Addr} {i j : Nat} {iv : Option Value} {lv : Value} {s₀ s : Shared} {kap : Resume → Shared → Prop} (hI : @LE.le Nat _ Lg It ∧ It ∉ ext) (hL : Lg ∉ ext) (x : GSt g Lg It rl ext i iv lv s₀ s)
    (h : 0 < j → ∀ s'', GSt g Lg It rl ext i iv lv s'' s'' → kap (.send .none) s'') : GKeep g ext s₀ s ∧ ∃ fp, GFp Lg ext fp s.heap ∧ (0 < j → ∀ s, GReady g ext fp s → kap (.send .none) s) := by
  obtain ⟨fp, hfp, hgo⟩ := x.resume hI hL
  exact ⟨x.keep, fp, hfp, fun hj s'' hr => h hj s'' (hgo s'' hr)⟩
theorem ItO.is {g h : Heap} {L It rl : Addr} {i : Nat} {io : Obj} {xo : List (Addr × Obj)} (hi : ItO rl i io) (N : News g L h ((It, io) :: xo)) : h.IsListIter It rl i := ⟨io, (N _ (List.Mem.head _)).1, hi.1, hi.2⟩
theorem giv_tail {last : Option Int} {x : Int} {xs : List Int} {n : Nat} (h1 : x ≠ 0) (h2 : x ≠ 127) : giv last (x :: xs) (n + 1) = x :: giv (some x) xs n := by
  rw [giv, if_neg h2, if_neg h1]
theorem ints_at : ∀ {vs : List Value} {ks : List Int}, IntsAre vs ks → ∀ {i : Nat} {x : Int}, ks[i]? = some x → ∃ t, vs[i]? = some (.int x t)
  | _, _, .nil, _, _, h => by simp at h
  | _, _, .cons n t r, 0, x, h => ⟨t, by simp at h; rw [← h]; rfl⟩
  | _, _, .cons n t r, i + 1, x, h => by
    obtain ⟨t', e⟩ := ints_at r (i := i) (x := x) (by simpa using h)
    exact ⟨t', by simpa using e⟩
section
variable (w : World) (loose : List Str) (mean : ExcName → Option Value) (mg mb : Str → Option Value)
theorem gi_H (rl : Addr) (vs : List Value) (e : Nat) (ks : List Int) (N₀ : Nat) (rem : Nat → List Int) (hv : IntsAre vs ks) (hok : giOk none ks) (hlen : ks.length ≤ 100) (hks : ∀ k ∈ ks, 0 ≤ k ∧ k ≤ 127)
   (h0 : rem N₀ = giv none ks N₀) (ht : ∀ n, n < N₀ → rem n = (rem (n + 1)).tail) (hN : 0 < N₀) : GenC w loose mean mg mb rem N₀ 77 rl vs e := by
  k_with "x17" => skip
  unfold GenC; k_fill
  show GenC w loose mean mg mb rem N₀ 77 rl vs e
  refine' enterG (binds := [("grouping", .ref rl)]) ?k6 ?k7 ?k9 ?kB ?kW ?c5 ?c2 ?c3 ?c4
  (case k6 => k_is); (case k7 => k_is); (case k9 => exact fun _ => BindsTo.of_eq rfl); (case kB => exact locs rfl); (case c5 => decide); (case c2 => exact rfl); (case c3 => exact rfl); (case c4 => exact rfl)
  intro dp un gd frs g Lg s xo hd hu X T hrl F N
  have hxs : ∀ p ∈ xo, s.heap.get? p.1 = some p.2 := fun p hp => (N p hp).1
  refine seg_stmt ?_
  rw [over_func]
  k_steps
  dsimp only
  rename Fr _ _ _ _ => F1
  rename News _ _ _ _ => N1
  refine seg_execs_cons (seg_For (fun _ => rfl) ?_)
  rw [over_func]
  have hl : ∀ h : Heap, (∀ b o, g.get? b = some o → h.get? b = some o) → h.IsList rl vs.toArray := fun h k => ⟨_, k _ _ hrl, rfl, _, rfl⟩
  refine ld F1 rfl ?_
  refine wpAny_pyIter_list (hl _ F1.keep) fun p => ?_
  rename Heap => h1
  generalize hIt : h1.objs.size = It
  have hLI : @LT.lt Nat _ Lg It := hIt ▸ F1.ns.lt
  have hext : It ∉ xo.map (·.1) := fun q => by
    obtain ⟨y, hy, e⟩ := List.mem_map.mp q
    have := Heap.lt_size (N1 y hy).1
    rw [e, ← hIt] at this
    exact Nat.lt_irrefl _ this
  have hLx : Lg ∉ xo.map (·.1) := fun q => by
    obtain ⟨y, hy, e⟩ := List.mem_map.mp q
    exact (N1 y hy).2.1 e
  generalize hex : xo.map (·.1) = ext at *
  have G0 : GSt g Lg It rl ext 0 none .none s { s with heap := h1.push { cls := .type "list_iterator", data := .fields #[.ref rl, .int 0 0] }, toks := s.toks + 1 } := by
    refine ⟨_, _, { cls := .type "list_iterator", data := .fields #[.ref rl, .int 0 0] }, xo, rfl, fr_eq (F1.push _) fun y => ?_, fun p hp => ?_, ⟨rfl, rfl⟩, hex, hxs⟩
    · by_cases hy : y = Str.ofString "interval"
      · subst hy; rfl
      · simp only [giM, if_neg hy]
    · rcases List.mem_cons.mp hp with rfl | hp
      · exact ⟨by rw [← hIt]; exact Heap.get?_push_size _ rfl, Nat.ne_of_gt hLI, none_of_size (Nat.le_trans F1.above (Nat.le_of_lt hLI))⟩
      · exact ⟨Heap.get?_push_of_some _ (N1 p hp).1, (N1 p hp).2⟩
  refine seg_rec (fun d n s₀ s' => ∃ i last iv lv, GSt g Lg It rl ext i iv lv s₀ s' ∧ LastIs last lv ∧ d = (ks.drop i).length ∧ giOk last (ks.drop i) ∧ 0 < n ∧ n ≤ N₀ ∧ rem n = giv last (ks.drop i) n) ?turn ks.length N₀ s _ ⟨0, none, none, .none, G0, rfl, rfl, hok, hN, Nat.le_refl _, h0⟩
  case turn =>
    rintro d ih n s₀ _ ⟨i, last, iv, lv, G, hlast, hdd, hgk, hn0, hnN, hrem⟩
    obtain ⟨n, rfl⟩ : ∃ n', n = n' + 1 := ⟨n - 1, by omega⟩
    have GG := G
    obtain ⟨h, tk, io, xo', rfl, F', N', hio, hxo', hxk'⟩ := G.st
    refine seg_forTurn (fun _ => rfl) ?_
    rw [over_for]
    cases hrest : ks.drop i with
    | nil =>
      have hx : vs.toArray[i]? = none := by
        have h1 := hv.length
        have h2 : ks.length ≤ i := by simpa using hrest
        simp; omega
      rw [hrest] at hrem
      refine wpAny_pyNext_list_end rfl (hio.is N') (hl _ F'.keep) hx fun h' hk => ?_
      have F2 := fr_ext F' hk (Nat.ne_of_gt hLI) (N' _ (List.Mem.head _)).2.2
      refine seg_again_block ?_
      refine seg_execs_nil ?_
      exact seg_end (.ok (.ret .none)) ⟨rfl, by rw [hrem]; rfl, _, _, rfl, F2.keep, fun b hb o ho => by
        have := xo_keep (fun p hp => N' p (.tail _ hp)) hxo' hxk' b hb o ho
        exact hk b o (fun q => hext (q ▸ hb)) this⟩
    | cons x xs =>
      rw [hrest] at hrem hgk hdd
      have hxi : ks[i]? = some x := by
        have := congrArg List.head? hrest
        simpa using this
      have hxm : x ∈ ks := List.mem_of_getElem? hxi
      have hxb := hks x hxm
      have hxs' : ks.drop (i + 1) = xs := by
        have := congrArg List.tail hrest
        simpa using this
      obtain ⟨tx, hvx⟩ := ints_at hv hxi
      refine wpAny_pyNext_list_item (hio.is N') (hl _ F'.keep) (by simpa using hvx) fun h' hli hsb => ?_
      obtain ⟨io', hio1, hio2, hio3⟩ := hli
      have hIn := (N' _ (List.Mem.head _)).2
      have F2 := F'.change hsb hIn.1 hIn.2
      have N2 : News g Lg h' ((It, io') :: xo') := fun p hp => by
        rcases List.mem_cons.mp hp with rfl | hp
        · exact ⟨hio1, hIn⟩
        · refine ⟨hsb.extBut _ _ (fun q => hext ?_) (N' p (.tail _ hp)).1, (N' p (.tail _ hp)).2⟩
          rw [← q, ← hxo']; exact List.mem_map_of_mem hp
      clear N' F' hsb hio1
      have hio4 : ItO rl (i + 1) io' := ⟨hio2, hio3⟩
      clear hio2 hio3
      k_steps
      rename Fr _ _ _ _ => F3
      rename News _ _ _ _ => N3
      have F4 := fr_eq (m' := giM (some (.int x tx)) lv rl) F3 fun y => by
        by_cases hy : y = Str.ofString "interval"
        · subst hy; rfl
        · simp only [giM, if_neg hy]
      clear F3
      refine seg_stmt ?_
      rw [over_for]
      k_steps
      · rename x = 127 => hx127
        dsimp only
        rename Fr _ _ _ _ => F5
        rename News _ _ _ _ => N5
        refine seg_leave_loop ?_
        exact seg_end (.ok (.ret .none)) ⟨rfl, by rw [hrem, giv, if_pos hx127], _, _, rfl, F5.keep, xo_keep (fun p hp => N5 p (.tail _ hp)) hxo' hxk'⟩
      · rename x ≠ 127 => hx127
        dsimp only
        refine seg_execs_cons (seg_If ?_)
        rw [over_for]
        k_steps
        · rename x = 0 => hx0
          obtain ⟨l, tl, hl1, hl2⟩ : ∃ l tl, last = some l ∧ lv = .int l tl := by
            rcases hgk with q | ⟨-, l, q⟩ | ⟨q, -⟩
            · exact absurd q hx127
            · subst q
              obtain ⟨tl, q⟩ := hlast
              exact ⟨l, tl, rfl, q⟩
            · exact absurd hx0 q
          subst hl1
          subst hl2
          have hr0 : rem (n + 1) = List.replicate (n + 1) l := by rw [hrem, giv, if_neg hx127, if_pos hx0]; rfl
          refine seg_stmt ?_
          rw [over_for]
          k_steps
          dsimp only
          rename Fr _ _ _ _ => F5
          rename News _ _ _ _ => N5
          refine seg_execs_cons (seg_While fun p => ?_)
          refine seg_rec (fun d n s₀ s' => d = n ∧ GSt g Lg It rl ext (i + 1) (some (.int x tx)) (.int l tl) s₀ s' ∧ 0 < n ∧ n ≤ N₀ ∧ rem n = List.replicate n l) ?turn2 (n + 1) (n + 1) s₀ _ ⟨rfl, ⟨_, _, _, _, rfl, F5, N5, hio4, hxo', hxk'⟩, hn0, hnN, hr0⟩
          clear F5 N5 hxo' hxk' hr0 ih
          rintro d ih n s₀ _ ⟨rfl, G2, hn0, hnN, hrem⟩
          obtain ⟨n, rfl⟩ : ∃ n', d = n' + 1 := ⟨d - 1, by omega⟩
          obtain ⟨h2, tk2, io2, xo2, rfl, F6, N6, hio6, hxo6, hxk6⟩ := G2.st
          refine seg_whileLoop ?_
          rw [over_while]
          k_steps
          rename Fr _ _ _ _ => F7
          rename News _ _ _ _ => N7
          refine seg_execs_cons (seg_Expr_Yield rfl rfl rfl ?_)
          rw [over_while]
          refine ld F7 rfl ?_
          intro kap hkap
          refine ⟨⟨l, tl, _, hrem, rfl⟩, GSt.yield (i := i + 1) (iv := some (.int x tx)) (lv := .int l tl) (rl := rl) ⟨Nat.le_of_lt hLI, hext⟩ hLx ⟨_, _, _, _, rfl, F7, N7, hio6, hxo6, hxk6⟩ fun hn s'' G6 => hkap _ _ ?_⟩
          show Seg _ _ _ _ n s'' _ _ _ s''
          refine seg_execs_nil ?_
          refine seg_again rfl ?_
          exact ih n n s'' s'' (Nat.lt_succ_self _) ⟨rfl, G6, hn, by omega, by rw [ht n (by omega), hrem]; rfl⟩
        · rename x ≠ 0 => hx0
          rename Fr _ _ _ _ => F5
          rename News _ _ _ _ => N5
          refine seg_execs_nil ?_
          dsimp only
          refine seg_execs_cons (seg_Expr_Yield rfl rfl rfl ?_)
          rw [over_for]
          refine ld F5 rfl ?_
          intro kap hkap
          have hxx : giOk (some x) xs := by
            rcases hgk with q | ⟨q, -⟩ | ⟨-, -, q⟩
            · exact absurd q hx127
            · exact absurd q hx0
            · exact q
          have hrn : rem n = giv (some x) xs n := by rw [ht n (by omega), hrem, giv_tail hx0 hx127]; rfl
          refine ⟨⟨x, tx, _, hrem.trans (giv_tail hx0 hx127), rfl⟩, GSt.yield (i := i + 1) (iv := some (.int x tx)) (lv := lv) (rl := rl) ⟨Nat.le_of_lt hLI, hext⟩ hLx ⟨_, _, _, _, rfl, F5, N5, hio4, hxo', hxk'⟩ fun hn s'' G6 => hkap _ _ ?_⟩
          show Seg _ _ _ _ n s'' _ _ _ s''
          obtain ⟨h6, tk6, io6, xo6, e6, F6, N6, hio6, hxo6, hxk6⟩ := G6.st
          have e7 : s''.heap = h6 := by rw [e6]
          rw [← e7] at F6 N6
          clear e6 e7
          refine seg_stmt ?_
          rw [over_for]
          k_steps
          dsimp only
          rename Fr _ _ _ _ => F7
          rename News _ _ _ _ => N7
          have F8 := fr_eq (m' := giM (some (.int x tx)) (.int x tx) rl) F7 fun y => by
            by_cases hy : y = Str.ofString "last_interval"
            · subst hy; rfl
            · simp only [giM, if_neg hy]
          refine seg_again rfl ?_
          exact ih xs.length n s'' _ (by rw [hdd]; exact Nat.lt_succ_self _) ⟨i + 1, some x, some (.int x tx), .int x tx, ⟨_, _, _, _, rfl, F8, N7, hio6, hxo6, hxk6⟩, ⟨tx, rfl⟩, by rw [hxs'], by rw [hxs']; exact hxx, hn, by omega, by rw [hxs']; exact hrn⟩
end
end
section
noncomputable def HGC (w : World) (loose : List Str) (mean : ExcName → Option Value) (mg mb : Str → Option Value) (n : Nat) (f : Addr) (vs : List Value) (pre : Heap → Prop) (Post : Value → List (Addr × Obj) → Prop) : Prop :=
  ∀ (A A₀ : Around) (env : Env) (outer : List Env) (base h₀ : Heap) (L : Addr) (m : Str → Option Value) (s : Shared) (R : Result → Shared → Prop),
    Below A₀ base outer h₀ → Fr h₀ L s.heap m → (Mine.hd.heap_1 w.params).In h₀ → Top topProg loose mean mg mb h₀ →
    A.handled = none → A.frames = some (env :: outer) → env.frame = some L → env.scope.kind = .function → A.depth + n < recursionLimit → A.units + 10 * n < cLine → pre s.heap →
    (∀ v now h' tk' gs', Post v now → (AllBare s.gens → AllBare gs') → Stp [] now s.heap h' → R (.ok (.ret v)) { s with heap := h', toks := tk', gens := gs' }) →
    codeAny (model PySem.Challenge.rw_wo0016_01.prog w) A (.call (.ref f) ⟨vs, []⟩) R s
noncomputable def LeaveHg (g : Heap) (s₀ : Shared) (Post : Value → List (Addr × Obj) → Prop) (v : Value) (s' : Shared) : Prop :=
  ∃ L' m' now, (∃ h' tk' gs', s' = { s₀ with heap := h', toks := tk', gens := gs' } ∧ (AllBare s₀.gens → AllBare gs')) ∧ Fr g L' s'.heap m' ∧ News g L' s'.heap now ∧ Post v now
noncomputable def BodyHg (w : World) (loose : List Str) (mean : ExcName → Option Value) (mg mb : Str → Option Value) (n : Nat) (f : Addr) (qual : Str) (body : List Stmt) (scope : Scope) (cdv : Value) (binds : List (Str × Value)) (pre : Heap → Prop) (Post : Value → List (Addr × Obj) → Prop) : Prop :=
  ∀ (dp un : Nat) (gd : Option (List Code)) (outer : List Env) (base g : Heap) (L' : Addr) (s : Shared) (E : Value → Shared → Prop),
    Below (Ar dp un gd outer) base outer g → Fr g L' s.heap (fun y => binds.reverse.lookup y) → News g L' s.heap [] → (Mine.hd.heap_1 w.params).In g → Top topProg loose mean mg mb g → pre g →
    dp + n < recursionLimit → un + 10 * n < cLine →
    wpAny (model PySem.Challenge.rw_wo0016_01.prog w) ((Ar dp un gd outer).deeper (envOf qual scope L' f cdv)) (execs body (envOf qual scope L' f cdv))
        (fun fl s' => LeaveHg g s Post (match fl with | .ret v => v | _ => .none) s')
        (fun e s' => wpAny (model PySem.Challenge.rw_wo0016_01.prog w) ((Ar dp un gd outer).deeper (envOf qual scope L' f cdv)) (leaving (envOf qual scope L' f cdv) e) (fun _ s'' => E e s'') (fun e' s'' => E e' s'') s') s
theorem enterHg {w : World} {loose : List Str} {mean : ExcName → Option Value} {mg mb : Str → Option Value} {n : Nat} {f : Addr} {vs : List Value} {pre : Heap → Prop} {Post : Value → List (Addr × Obj) → Prop}
    {name qual : Str} {params : Arguments} {body : List Stmt} {scope : Scope} {dV kV doc pm cdv ct oc : Value} {an od : Option Addr} {osl : Array (Option Value)} {binds : List (Str × Value)}
    (ho : (Mine.hd.heap_1 w.params).lookup f = some ⟨oc, od, .func (fnOf name qual params body scope dV kV doc pm an cdv ct), osl⟩) (hcd : codeIn (Mine.hd.heap_1 w.params) cdv qual = true)
    (hbind : ∀ s, BindsTo s (fnOf name qual params body scope dV kV doc pm an cdv ct) ⟨vs, []⟩ binds) (hloc : ∀ y ∈ binds, scope.names.lookup y.1 = some .local)
    (hb : BodyHg w loose mean mg mb n f qual body scope cdv binds pre Post)
    (hcell : ∀ x ∈ scope.names, x.2 ≠ .cell) (hco : scope.isCoroutine = false) (hgen : scope.isGenerator = false) (hk : scope.kind = .function) (hn : 0 < n) :
    HGC w loose mean mg mb n f vs pre Post := by
  intro A A₀ env outer base h₀ L m s R B F X T hh hA hf hke hdp hun hp hret
  obtain ⟨FG, BG, st, _⟩ := groundX (R := fun _ _ => True) B F News.nil hA hf hke
  have ho' := (X.keeps F.keep) _ _ ho
  refine codeAny_call_def (fd := fnOf name qual params body scope dV kV doc pm an cdv ct) (body := body) (binds := binds) (by omega) ho' rfl (T.nolimit.keeps F.keep) (codeRec_of (X.keeps F.keep) hcd) rfl (hbind s) hcell hloc (fun h₁ hns hk₁ => ?_) hco hgen hk
  have eA := ar_of hh hA
  generalize A.depth = dp at *
  generalize A.units = un at *
  generalize A.guards = gd at *
  subst eA
  refine wpAny_mono (hb dp un gd (env :: outer) base s.heap s.heap.objs.size { s with heap := h₁, toks := s.toks + binds.length } (fun e s'' => R (.error e) s'') BG
    ⟨hns, hk₁, Nat.le_refl _⟩ News.nil (X.keeps (fun b o e => st b o e)) (T.keeps (fun b o e => st b o e)) hp hdp hun) (fun fl s' hl => ?_) (fun _ _ h => h)
  obtain ⟨L', m', now, ⟨h', tk', gs', rfl, hgs⟩, F', N', P⟩ := hl
  dsimp only at F' N'
  refine hret _ now h' tk' gs' P hgs ⟨?_, fun b o e _ => F'.keep b o e, fun p hp => (N' p hp).1, fun p hp => .inr (N' p hp).2.2⟩
  obtain ⟨oL, _, _, hL, _⟩ := F'.ns
  exact Nat.le_trans F'.above (Nat.le_of_lt (Heap.lt_size hL))
section
variable {w : World} {loose : List Str} {mean : ExcName → Option Value} {mg mb : Str → Option Value} {n : Nat} {f : Addr} {vs : List Value} {news : List (Addr × Obj)} {pre : Heap → Prop} {Post : Value → List (Addr × Obj) → Prop}
  {A A₀ : Around} {env : Env} {outer : List Env} {base h₀ : Heap} {L : Addr} {m : Str → Option Value} {s : Shared} {Q E : Value → Shared → Prop}
theorem useG (C : HGC w loose mean mg mb n f vs pre Post) (B : Below A₀ base outer h₀) (F : Fr h₀ L s.heap m) (X : (Mine.hd.heap_1 w.params).In h₀) (N : News h₀ L s.heap news) (T : Top topProg loose mean mg mb h₀)
    (hh : A.handled = none) (hA : A.frames = some (env :: outer)) (hf : env.frame = some L) (hk : env.scope.kind = .function) (hd : A.depth + n < recursionLimit) (hu : A.units + 10 * n < cLine) (hp : pre s.heap)
    (h : ∀ v now h' tk' gs', Post v now → (AllBare s.gens → AllBare gs') → Fr h₀ L h' m → News h₀ L h' (now ++ news) → (∀ p ∈ now, ∀ q ∈ news, q.1 ≠ p.1) → Q v { s with heap := h', toks := tk', gens := gs' }) :
    wpAny (model PySem.Challenge.rw_wo0016_01.prog w) A (call (.ref f) vs) Q E s := by
  refine wpAny_call (C A A₀ env outer base h₀ L m s _ B F X T hh hA hf hk hd hu hp fun v now h' tk' gs' P hb S => ?_)
  have k : ∀ b o, s.heap.get? b = some o → h'.get? b = some o := fun b o e => S.keep b o e fun p hp => nomatch hp
  have fr : ∀ p ∈ now, s.heap.get? p.1 = none := fun p hp => by
    rcases S.fresh p hp with ⟨q, hq, _⟩ | e
    · cases hq
    · exact e
  refine h v now h' tk' gs' P hb (F.keeps k) (fun p hp => ?_) fun p hp q hq z => ?_
  · rcases List.mem_append.mp hp with hq | hq
    · refine ⟨S.now p hq, fun z => ?_, ?_⟩
      · obtain ⟨oL, _, _, hL, _⟩ := F.ns
        have := fr p hq
        rw [z, hL] at this; cases this
      · cases z : h₀.get? p.1 with
        | none => rfl
        | some o => have := fr p hq; rw [F.keep _ _ z] at this; cases this
    · exact ⟨k _ _ (N p hq).1, (N p hq).2⟩
  · have := fr p hp
    rw [← z, (N q hq).1] at this; cases this
end
theorem setGen_get {gens : Array GenState} {g : Nat} {x y : GenState} (h : gens[g]? = some x) : (gens.setIfInBounds g y)[g]? = some y := by
  have : g < gens.size := (Array.getElem?_eq_some_iff.mp h).1
  simp [this]
theorem bare_set {gens : Array GenState} {g : Nat} {y : GenState} (h : AllBare gens) (hy : y.bare = true) : AllBare (gens.setIfInBounds g y) := fun z hz => by
  rw [Array.mem_iff_getElem] at hz
  obtain ⟨i, hi, e⟩ := hz
  have hi' : i < gens.size := by simpa using hi
  rw [Array.getElem_setIfInBounds (by simpa using hi)] at e
  split at e
  · rw [← e]; exact hy
  · rw [← e]; exact h _ (Array.getElem_mem hi')
theorem rep_foldl (v : Value) : ∀ n : Nat, List.foldl (fun x1 x2 : Array Value => x1 ++ x2) #[] (List.replicate n #[v]) = (List.replicate n v).toArray := by
  have key : ∀ (n : Nat) (z : Array Value), List.foldl (fun x1 x2 : Array Value => x1 ++ x2) z (List.replicate n #[v]) = z ++ (List.replicate n v).toArray := by
    intro n
    induction n with
    | zero => intro z; simp
    | succ n ih =>
      intro z
      rw [List.replicate_succ, List.foldl_cons, ih, List.replicate_succ]
      apply Array.toList_inj.mp
      simp
  intro n
  rw [key]; simp
theorem leaveHg {g : Heap} {s₀ : Shared} {Post : Value → List (Addr × Obj) → Prop} {v : Value} {h' : Heap} {tk' : Nat} {gs' : Array GenState} {L' : Addr} {m' : Str → Option Value} {now : List (Addr × Obj)}
    (hb : AllBare s₀.gens → AllBare gs') (F : Fr g L' h' m') (N : News g L' h' now) (p : Post v now) : LeaveHg g s₀ Post v { s₀ with heap := h', toks := tk', gens := gs' } := ⟨L', m', now, ⟨h', tk', gs', rfl, hb⟩, F, N, p⟩
theorem slice_to (xs : List Value) (n : Nat) : ({ cls := .type "list", data := .seq (slicePick xs.toArray none (some (n : Int)) none) } : Obj) = lstO (xs.take n) 0 := by
  rw [kms_pick_eq]
  have : kms_pick xs none (some (n : Int)) = xs.take n := by
    have h : ¬ ((n : Int) < 0) := by omega
    simp [kms_pick, kms_lo, kms_hi, h]
  rw [show xs.toArray.toList = xs from rfl, this]
section
variable {prog : Program} {w : World} {A : Around} {E : Value → Shared → Prop} {s : Shared} {h₀ : Heap} {L : Addr} {m : Str → Option Value} {news news' : List (Addr × Obj)} {Q : Value → Shared → Prop}
theorem mulV {l : Addr} {v : Value} {e : Nat} {x : Int} {u : Tok} (F : Fr h₀ L s.heap m) (N : News h₀ L s.heap news) (hl : (l, lstO [v] e) ∈ news) (h0 : 0 ≤ x) (h1 : x ≤ 1000)
    (h : ∀ D h', Fr h₀ L h' m → News h₀ L h' ((D, lstO (List.replicate x.toNat v) 0) :: news) → (∀ p ∈ news, p.1 < D) → Q (.ref D) { s with heap := h' }) : wpAny (model prog w) A (binaryOp .Mult (.ref l) (.int x u)) Q E s := by
  refine mul_list (items := #[v]) (k := e) F N (N _ hl).1 (by omega) (by omega) (by simp; omega) fun h' F' N' => h _ h' F' ?_ fun p hp => Heap.lt_size (N p hp).1
  have e1 : (if (#[v] : Array Value).isEmpty = true then 0 else x.toNat) = x.toNat := rfl
  rw [e1, rep_foldl] at N'
  exact N'
theorem addV {l b : Addr} {xs ys : List Value} {e e' : Nat} (F : Fr h₀ L s.heap m) (N : News h₀ L s.heap news) (hl : (l, lstO xs e) ∈ news) (hb : (b, lstO ys e') ∈ news) (hx : xs.length ≤ 1000) (hy : ys.length ≤ 1000)
    (h : ∀ D h', Fr h₀ L h' m → News h₀ L h' ((D, lstO (xs ++ ys) 0) :: news) → (∀ p ∈ news, p.1 < D) → Q (.ref D) { s with heap := h' }) : wpAny (model prog w) A (binaryOp .Add (.ref l) (.ref b)) Q E s := by
  refine add_arrays (its := xs.toArray) (its2 := ys.toArray) F N ⟨_, (N _ hl).1, rfl, _, rfl⟩ ⟨_, (N _ hb).1, rfl, _, rfl⟩ (fun h' F' N' => h _ h' F' ?_ fun p hp => Heap.lt_size (N p hp).1) (by rw [PySem.sizeLine_eq]; simp; omega)
  simpa using N'
theorem extendV {D b : Addr} {xs ys : List Value} {e e' : Nat} (F : Fr h₀ L s.heap m) (N : News h₀ L s.heap news) (hb : (b, lstO ys e') ∈ news) (hne : ys ≠ []) (hx : xs.length ≤ 1000) (hy : ys.length ≤ 1000)
    (U : Upd D (lstO xs e) (lstO (xs ++ ys) (e + 1)) news news') (h : ∀ h', Fr h₀ L h' m → News h₀ L h' news' → Q .none { s with heap := h' }) : wpAny (model prog w) A (call (.builtin "list.extend") [.ref D, .ref b]) Q E s := by
  refine kl_extend (its := xs.toArray) (its2 := ys.toArray) (n := e) (n2 := e') (l := xs ++ ys) F N hb (by simp) ?_ U ?_ ?_ ?_ h
  · simpa using hne
  · simp [Builtin.List.listTooLong, PySem.sizeLine_eq]; omega
  · simp [PySem.sizeLine_eq]; omega
  · simp [PySem.sizeLine_eq]; omega
theorem lenV {l : Addr} {xs : List Value} {e : Nat} (N : News h₀ L s.heap news) (hl : (l, lstO xs e) ∈ news) (hx : xs.length ≤ 1000000)
    (h : ∀ t, Q (.int (xs.length : Int) t) { s with toks := s.toks + 1 + 1 }) : wpAny (model prog w) A (call (.builtin "len") [.ref l]) Q E s := by
  have := call_len_list (prog := prog) (w := w) (A := A) (E := E) (Q := Q) (items := xs.toArray) (s := s) (l := l) ⟨_, (N _ hl).1, rfl, _, rfl⟩ (by simp; omega)
  refine this ?_
  simpa using h _
end
end
section
noncomputable abbrev BodyGM (w : World) (loose : List Str) (mean : ExcName → Option Value) (mg mb : Str → Option Value) (n : Nat) (f : Addr) (qual : Str) (body : List Stmt) (scope : Scope) (cdv : Value) (binds : List (Str × Value)) (pre : Heap → Prop) (Post : Value → List (Addr × Obj) → Prop)
  (dp un : Nat) (gd : Option (List Code)) (outer : List Env) (base g : Heap) (L' : Addr) (s : Shared) (E : Value → Shared → Prop) : Prop :=
    Below (Ar dp un gd outer) base outer g → Fr g L' s.heap (fun y => binds.reverse.lookup y) → News g L' s.heap [] → (Mine.hd.heap_1 w.params).In g → Top topProg loose mean mg mb g → pre g →
    dp + n < recursionLimit → un + 10 * n < cLine →
    wpAny (model PySem.Challenge.rw_wo0016_01.prog w) ((Ar dp un gd outer).deeper (envOf qual scope L' f cdv)) (execs body (envOf qual scope L' f cdv))
        (fun fl s' => LeaveHg g s Post (match fl with | .ret v => v | _ => .none) s')
        (fun e s' => wpAny (model PySem.Challenge.rw_wo0016_01.prog w) ((Ar dp un gd outer).deeper (envOf qual scope L' f cdv)) (leaving (envOf qual scope L' f cdv) e) (fun _ s'' => E e s'') (fun e' s'' => E e' s'') s') s
noncomputable def WalkG (w : World) (loose : List Str) (mean : ExcName → Option Value) (mg mb : Str → Option Value) (n : Nat) (f : Addr) (binds : List (Str × Value)) (pre : Heap → Prop) (Post : Value → List (Addr × Obj) → Prop)
  (dp un : Nat) (gd : Option (List Code)) (outer : List Env) (base g : Heap) (L' : Addr) (s : Shared) (E : Value → Shared → Prop) : Prop :=
  match (Mine.hd.heap_1 w.params).lookup f with
  | some o => (match o.data with
    | .func fd => (match fd.body with
      | .stmts body => BodyGM w loose mean mg mb n f fd.qualname body fd.scope fd.code binds pre Post dp un gd outer base g L' s E
      | _ => True)
    | _ => True)
  | none => True
section
variable {w : World} {loose : List Str} {mean : ExcName → Option Value} {mg mb : Str → Option Value} {n : Nat} {f : Addr} {binds : List (Str × Value)} {pre : Heap → Prop} {Post : Value → List (Addr × Obj) → Prop}
  {dp un : Nat} {gd : Option (List Code)} {outer : List Env} {base g : Heap} {L' : Addr} {s : Shared} {E : Value → Shared → Prop}
  {name qual : Str} {params : Arguments} {body : List Stmt} {scope : Scope} {dV kV doc pm cdv ct oc : Value} {an od : Option Addr} {osl : Array (Option Value)}
theorem walkG_of (ho : (Mine.hd.heap_1 w.params).lookup f = some ⟨oc, od, .func (fnOf name qual params body scope dV kV doc pm an cdv ct), osl⟩) (h : BodyGM w loose mean mg mb n f qual body scope cdv binds pre Post dp un gd outer base g L' s E) :
    WalkG w loose mean mg mb n f binds pre Post dp un gd outer base g L' s E := by
  unfold WalkG
  rw [ho]
  exact h
theorem bodyG_of (ho : (Mine.hd.heap_1 w.params).lookup f = some ⟨oc, od, .func (fnOf name qual params body scope dV kV doc pm an cdv ct), osl⟩) (h : WalkG w loose mean mg mb n f binds pre Post dp un gd outer base g L' s E) :
    BodyGM w loose mean mg mb n f qual body scope cdv binds pre Post dp un gd outer base g L' s E := by
  unfold WalkG at h
  rw [ho] at h
  exact h
end
end
section
noncomputable def ringGo (n : Nat) : List Int → Bool → List Bool → List Bool
  | [], _, acc => acc
  | x :: xs, b, acc => if n ≤ (acc ++ List.replicate x.toNat b).length then acc ++ List.replicate x.toNat b else ringGo n xs (!b) (acc ++ List.replicate x.toNat b)
noncomputable def ringP (l : List Int) (n : Nat) : List Bool := (ringGo n l true [] ++ List.replicate n false).take n
noncomputable abbrev rgM (rv : Option Value) (kv : Value) (R : Addr) (rl pl : Addr) (n : Nat) (tz : Tok) : Str → Option Value := fun y =>
  if y = Str.ofString "run" then rv else if y = Str.ofString "kind" then some kv else if y = Str.ofString "ring" then some (.ref R) else List.lookup y [(Str.ofString "ruler", Value.ref rl), (Str.ofString "size", Value.int n tz), (Str.ofString "pair", Value.ref pl)].reverse
theorem mem_rot {α : Type} {x y z p : α} (h : p ∈ [x, y, z]) : p ∈ [y, z, x] := by
  simp only [List.mem_cons, List.not_mem_nil, or_false] at h ⊢
  rcases h with q | q | q
  · exact .inr (.inr q)
  · exact .inl q
  · exact .inr (.inl q)
theorem keep_fr {g h h₁ : Heap} {L' R a : Addr} {m : Str → Option Value} {oR oa : Obj} {fp : List (Addr × Obj)} (F : Fr g L' h m) (N : News g L' h ((R, oR) :: (a, oa) :: fp)) (kg : ∀ b o, g.get? b = some o → h₁.get? b = some o)
    (kx : ∀ b ∈ [a, L', R], ∀ o, h.get? b = some o → h₁.get? b = some o) : Fr g L' h₁ m ∧ News g L' h₁ [(R, oR), (a, oa)] := by
  obtain ⟨oL, es, ep, hL, r⟩ := F.ns
  refine ⟨⟨⟨oL, es, ep, kx _ (by simp) _ hL, r⟩, kg, F.above⟩, fun p hp => ?_⟩
  have hp' : p ∈ (R, oR) :: (a, oa) :: fp := by
    rcases List.mem_cons.mp hp with q | q
    · exact q ▸ List.Mem.head _
    · exact (List.mem_singleton.mp q) ▸ List.Mem.tail _ (List.Mem.head _)
  have := N p hp'
  refine ⟨kx _ ?_ _ this.1, this.2⟩
  rcases List.mem_cons.mp hp with q | q
  · rw [q]; simp
  · rw [List.mem_singleton.mp q]; simp
section
inductive RgS (w : World) (g : Heap) (L' : Addr) (A : Around) (rem : Nat → List Int) (s : Shared) (lo hi : Str) (tl th : Tok) (rl pl R a Lg : Addr) (gi : Nat) (nm qn : Value) (n : Nat) (tz : Tok) (k : Nat) (kind : Bool) (acc : List Bool) (s' : Shared) : Prop
  | mk (rv : Option Value) (tk : Tok) (h' : Heap) (tk' : Nat) (gs' : Array GenState) (st : GenState) (fp : List (Addr × Obj)) (e : Nat) (es : s' = { s with heap := h', toks := tk', gens := gs' }) (ba : AllBare s.gens → AllBare gs') (F' : Fr g L' h' (rgM rv (.int (b2i kind) tk) R rl pl n tz))
    (N' : News g L' h' ((R, lstO (acc.map (Vd lo hi tl th)) e) :: (a, genO gi nm qn) :: fp)) (hst : gs'[gi]? = some st) (hfp : ∀ p ∈ fp, @LE.le Nat _ Lg p.1 ∧ p.1 ∉ [a, L', R])
    (go : ∀ s'', GReady g [a, L', R] fp s'' → st.Goes (model PySem.Challenge.rw_wo0016_01.prog w) A.in1 (giR rem g [a, L', R]) (giY rem g [a, L', R] Lg) k (.send .none) s'') : RgS w g L' A rem s lo hi tl th rl pl R a Lg gi nm qn n tz k kind acc s'
namespace Z_ring_H_K
noncomputable def zP (w : World) (loose : List Str) (mean : ExcName → Option Value) (mg : Str → Option Value) (mb : Str → Option Value) (rl : Addr) (pl : Addr) (vs : List Value) (e : Nat) (e1 : Nat) (ks : List Int) (lo : Str) (hi : Str) (tl : Tok) (th : Tok) (n : Nat) (tz : Tok) (dp : Nat) (un : Nat) (gd : Option (List Code)) (outer : List Env) (base : Heap) (g : Heap) (L' : Addr) (s : Shared) (E : Value → Shared → Prop) : Prop := ∀ (hv : IntsAre vs ks) (hok : giOk none ks) (hlen : ks.length ≤ 100) (hks : ∀ k ∈ ks, 0 ≤ k ∧ k ≤ 127) (hn : 0 < n ∧ n ≤ 10) (hpos : ∀ x ∈ giv none ks 12, 1 ≤ x ∧ x ≤ 3), WalkG w loose mean mg mb 40 122 [("ruler", .ref rl), ("size", .int n tz), ("pair", .ref pl)] (fun h => h.get? rl = some (lstO vs e) ∧ h.get? pl = some (lstO [Vd lo hi tl th false, Vd lo hi tl th true] e1)) (fun v now => ∃ D e', v = .ref D ∧ now = [(D, lstO ((ringP (giv none ks 12) n).map (Vd lo hi tl th)) e')]) dp un gd outer base g L' s E
noncomputable def zk : DD := pickD fun c => zP (c.fW 0) (c.fLs 0) (c.fMe 0) (c.fMp 0) (c.fMp 1) (c.fA 0) (c.fA 1) (c.fLv 0) (c.fN 0) (c.fN 1) (c.fLi 0) (c.fS 0) (c.fS 1) (c.fT 0) (c.fT 1) (c.fN 2) (c.fT 2) (c.fN 3) (c.fN 4) (c.fGd 0) (c.fEn 0) (c.fH 0) (c.fH 1) (c.fA 2) (c.fSh 0) (c.fE 0)
noncomputable section
@[irreducible] def w : World := zk.fW 0
@[irreducible] def loose : List Str := zk.fLs 0
@[irreducible] def mean : ExcName → Option Value := zk.fMe 0
@[irreducible] def mg : Str → Option Value := zk.fMp 0
@[irreducible] def mb : Str → Option Value := zk.fMp 1
@[irreducible] def rl : Addr := zk.fA 0
@[irreducible] def pl : Addr := zk.fA 1
@[irreducible] def vs : List Value := zk.fLv 0
@[irreducible] def e : Nat := zk.fN 0
@[irreducible] def e1 : Nat := zk.fN 1
@[irreducible] def ks : List Int := zk.fLi 0
@[irreducible] def lo : Str := zk.fS 0
@[irreducible] def hi : Str := zk.fS 1
@[irreducible] def tl : Tok := zk.fT 0
@[irreducible] def th : Tok := zk.fT 1
@[irreducible] def n : Nat := zk.fN 2
@[irreducible] def tz : Tok := zk.fT 2
@[irreducible] def dp : Nat := zk.fN 3
@[irreducible] def un : Nat := zk.fN 4
@[irreducible] def gd : Option (List Code) := zk.fGd 0
@[irreducible] def outer : List Env := zk.fEn 0
@[irreducible] def base : Heap := zk.fH 0
@[irreducible] def g : Heap := zk.fH 1
@[irreducible] def L' : Addr := zk.fA 2
@[irreducible] def s : Shared := zk.fSh 0
@[irreducible] def E : Value → Shared → Prop := zk.fE 0
end
theorem zcore : zP w loose mean mg mb rl pl vs e e1 ks lo hi tl th n tz dp un gd outer base g L' s E := by
  k_with "call ref" => ((fail_if_success k_extra "x18"); k_here; k_dflt ((show wpAny _ _ (call (Value.ref 77) [Value.ref _]) _ _ _); refine' hold_of ?_))
  k_with "mine all" => ((fail_if_success k_extra "x18"); assumption)
  k_with "subscriptTail" => ((fail_if_success k_extra "x18"); k_here; (with_reducible show wpAny _ _ (subscriptTail _ _ (Value.ref _) (Value.int _ _)) _ _ _); (with_unfolding_all refine' item_old (by assumption) (by assumption) (by omega) (by omega) (by k_extra "mine item") ?_ (by with_unfolding_all rfl); k_whole))
  k_with "binaryOp Mult ref int" => ((fail_if_success k_extra "x18"); k_here; k_dflt (refine' mulV (by assumption) (by assumption) (by k_mem) (by omega) (by omega) ?_); intro _ _ _ _ l1; (try k_lt l1); revert l1; intro _)
  k_with "binaryOp Add ref ref" => ((fail_if_success k_extra "x18"); k_here; k_dflt (refine' addV (by assumption) (by assumption) (by k_mem) (by k_mem) (by k_extra "mine len") (by k_extra "mine len") ?_); intro _ _ _ _ l1; (try k_lt l1); revert l1; intro _)
  k_with "call builtin:list.extend" => ((fail_if_success k_extra "x18"); k_here; k_dflt (refine' extendV (by assumption) (by assumption) (by k_mem) ?_ ?_ ?_ (by k_upd) ?_; (assumption); (k_extra "mine len"); (k_extra "mine len")); intro _ _ _)
  k_with "call builtin:len" => ((fail_if_success k_extra "x18"); k_here; k_dflt (refine' lenV (by assumption) (by k_mem) (by k_extra "mine len") ?_); intro _)
  k_with "exec For Name Call cons nil" => ((fail_if_success k_extra "x18"); k_here; k_dflt (refine wpAny_For ?_))
  unfold zP
  intro hv hok hlen hks hn hpos
  have _ : PySem.Challenge.rw_wo0016_01 = PySem.Challenge.rw_wo0016_01 ∧ Mine.hd.heap_1 = Mine.hd.heap_1 := by k_fill; exact ⟨rfl, rfl⟩
  refine' walkG_of ?k6 ?_; (case k6 => k_is)
  intro B F N X T hp hd hu
  have uT : UseT1 := trivial
  obtain ⟨hp1, hp2⟩ := hp
  k_steps
  unfold Hold
  rename Fr _ _ _ _ => F1
  rename News _ _ _ _ => N1
  rename_i R _ _ _ _ _ h2 _ _
  have C : GenC w loose mean mg mb (fun j => (giv none ks 12).drop (12 - j)) 12 77 rl vs e := gi_H w loose mean mg mb rl vs e ks 12 (fun j => (giv none ks 12).drop (12 - j)) hv hok hlen hks (by simp) (fun j hj => by
    have : 12 - j = (12 - (j + 1)) + 1 := by omega
    simp only [this, ← List.tail_drop]) (by decide)
  generalize hrem : (fun j => (giv none ks 12).drop (12 - j)) = rem at *
  have hrem0 : rem 12 = giv none ks 12 := by rw [← hrem]; simp
  have hrs : ∀ j, j < 12 → rem j = (rem (j + 1)).tail := fun j hj => by
    rw [← hrem]
    have : 12 - j = (12 - (j + 1)) + 1 := by omega
    simp only [this, ← List.tail_drop]
  have hrp : ∀ j, ∀ x ∈ rem j, 1 ≤ x ∧ x ≤ 3 := fun j x hx => hpos x (by rw [← hrem] at hx; exact List.mem_of_mem_drop hx)
  clear hrem
  refine C F1 X N1 T rfl rfl (by k_room) (by k_units) hp1 fun a Lg nm qn oL st h' tk' F2 N2 l1 l2 l3 hst hgo => ?_
  have hg := (N2 (a, _) (List.Mem.head _)).1
  refine wpAny_pyIter_gen ⟨_, nm, qn, hg, rfl, rfl, rfl⟩ ?_
  have F3 := fr_eq (m' := rgM none (.int (b2i true) _) R rl pl n tz) F2 fun y => by
    by_cases hy : y = Str.ofString "run"
    · subst hy; rfl
    · simp only [rgM, if_neg hy]; rfl
  have hlr := l3 _ (List.Mem.head _)
  refine for_my (I := fun k s' => ∃ kind acc, RgS w g L' _ rem s lo hi tl th rl pl R a Lg s.gens.size nm qn n tz k kind acc s' ∧ ringGo n (rem k) kind acc = ringGo n (giv none ks 12) true [] ∧ acc.length < n ∧ 12 ≤ k + acc.length ∧ k ≤ 12) ?turn 12
    ⟨true, [], ⟨none, _, h', tk', s.gens.push st, st, [(Lg, oL)], 0, rfl, fun h => h.push hst, F3, fun p hp => N2 p (mem_rot hp), by simp, ?hfp, hgo⟩, by rw [hrem0], hn.1, by simp, Nat.le_refl _⟩
  case hfp =>
    intro p hp
    rw [List.mem_singleton.mp hp]
    refine ⟨Nat.le_refl _, fun q => ?_⟩
    dsimp only at q
    have l3' : @LT.lt Nat _ R Lg := hlr
    simp only [List.mem_cons, List.not_mem_nil, or_false] at q
    rcases q with q | q | q
    · exact Nat.ne_of_lt l1 q
    · exact Nat.ne_of_gt l2 q
    · exact Nat.ne_of_gt l3' q
  case turn =>
    have hRa : @LT.lt Nat _ R a := Nat.lt_trans hlr l1
    clear F1 N1 F2 N2 F3 hgo hg hst st oL hlr l3
    rintro k _ ⟨kind, acc, ⟨rv, tk, h', tk', gs', st, fp, e, rfl, hb, F2, N2, hgs, hfp, hgo⟩, hfin, hlt, hk1, hk2⟩
    obtain ⟨k, rfl⟩ : ∃ k', k = k' + 1 := ⟨k - 1, by omega⟩
    have hg := (N2 (a, _) (List.Mem.tail _ (List.Mem.head _))).1
    refine next_gen rfl (T.nolimit.keeps F2.keep) (by k_room) ⟨_, nm, qn, hg, rfl, rfl, rfl⟩ hgs (hgo _ ⟨fun p hp => (N2 p (.tail _ (.tail _ hp))).1, F2.keep, fun b hb => ?_⟩) ?_ ?_
    · simp only [List.mem_cons, List.not_mem_nil, or_false] at hb
      rcases hb with q | q | q
      · rw [q]; exact ⟨_, hg⟩
      · obtain ⟨oL, _, _, hL, _⟩ := F2.ns
        rw [q]; exact ⟨_, hL⟩
      · rw [q]; exact ⟨_, (N2 (R, _) (List.Mem.head _)).1⟩
    · rintro r _ ⟨rfl, hrem, ⟨h₁, tk₁, rfl, kg, kx⟩⟩
      refine ⟨rfl, fun h'' kk => ?_⟩
      obtain ⟨F4, N4⟩ := keep_fr F2 N2 kg kx
      have F5 := F4.keeps kk
      have N5 := N4.grown kk
      clear F2 N2 F4 N4 hgo
      have hbare : AllBare s.gens → AllBare ((gs'.setIfInBounds s.gens.size .running).setIfInBounds s.gens.size .finished) := fun h => bare_set (bare_set (hb h) rfl) rfl
      show wpAny _ _ _ _ _ { s with heap := h'', toks := tk₁, gens := (gs'.setIfInBounds s.gens.size .running).setIfInBounds s.gens.size .finished }
      generalize (gs'.setIfInBounds s.gens.size .running).setIfInBounds s.gens.size .finished = gs2 at *
      have hfa : acc = ringGo n (giv none ks 12) true [] := by rw [← hfin, hrem]; rfl
      dsimp only
      k_steps
      rename Fr g _ _ _ => FF
      rename News _ _ _ _ => NN
      rw [slice_to] at NN
      exact leaveHg hbare FF (now := [(_, _)]) (fun p hp => NN p ((List.mem_singleton.mp hp) ▸ List.Mem.head _)) ⟨_, 0, rfl, by rw [ringP, ← hfa]; simp only [List.map_take, List.map_append, List.map_replicate, Int.toNat_natCast]⟩
    · rintro v _ gs'' hbb ⟨⟨x, t, l, hx, rfl⟩, ⟨h₁, tk₁, rfl, kg, kx⟩, fp', hfp', hgo'⟩
      obtain ⟨F4, N4⟩ := keep_fr F2 N2 kg kx
      have hbare : AllBare s.gens → AllBare ((gs'.setIfInBounds s.gens.size .running).setIfInBounds s.gens.size gs'') := fun h => bare_set (bare_set (hb h) rfl) hbb
      have hgs2 : ((gs'.setIfInBounds s.gens.size .running).setIfInBounds s.gens.size gs'')[s.gens.size]? = some gs'' := setGen_get (setGen_get hgs)
      show wpAny _ _ _ _ _ { s with heap := h₁, toks := tk₁, gens := (gs'.setIfInBounds s.gens.size .running).setIfInBounds s.gens.size gs'' }
      generalize (gs'.setIfInBounds s.gens.size .running).setIfInBounds s.gens.size gs'' = gs2 at *
      have hxb := hrp (k + 1) x (by rw [show rem (k + 1) = x :: l from hx]; exact List.Mem.head _)
      have N5 : News g L' h₁ ((R, lstO (acc.map (Vd lo hi tl th)) e) :: (a, genO s.gens.size nm qn) :: fp') := fun p hp => by
        rcases List.mem_cons.mp hp with q | hp
        · exact N4 p (q ▸ List.Mem.head _)
        · rcases List.mem_cons.mp hp with q | hp
          · exact N4 p (q ▸ List.Mem.tail _ (List.Mem.head _))
          · obtain ⟨q1, q2, q3⟩ := hfp' p hp
            refine ⟨q1, fun z => q3 (z ▸ by simp), none_of_size (Nat.le_trans F2.above (Nat.le_trans (Nat.le_of_lt l2) q2))⟩
      have hfR : ∀ p ∈ fp', p.1 ≠ R := fun p hp z => (hfp' p hp).2.2 (z ▸ by simp)
      clear F2 N2 N4 hgo
      have bk := b2i_bd kind
      have hpr : [Vd lo hi tl th false, Vd lo hi tl th true][(b2i kind).toNat]? = some (Vd lo hi tl th kind) := by cases kind <;> rfl
      have hne : List.replicate x.toNat (Vd lo hi tl th kind) ≠ [] := by
        intro q
        have := congrArg List.length q
        simp at this; omega
      have hxl : x.toNat ≤ 3 := by omega
      have hx' : rem (k + 1) = x :: l := hx
      have hstep : ringGo n (giv none ks 12) true [] = if n ≤ (acc ++ List.replicate x.toNat kind).length then acc ++ List.replicate x.toNat kind else ringGo n l (!kind) (acc ++ List.replicate x.toNat kind) := by
        rw [← hfin, hx']; rfl
      dsimp only
      k_steps
      · rename _ ≤ _ => hle
        have hle' : n ≤ (acc ++ List.replicate x.toNat kind).length := by
          simp only [List.length_append, List.length_map, List.length_replicate] at hle ⊢
          omega
        rw [if_pos hle'] at hstep
        rename Fr g _ _ _ => FF
        rename News _ _ _ _ => NN
        rw [slice_to] at NN
        exact leaveHg hbare FF (now := [(_, _)]) (fun p hp => NN p ((List.mem_singleton.mp hp) ▸ List.Mem.head _)) ⟨_, 0, rfl, by rw [ringP, hstep]; simp only [List.map_take, List.map_append, List.map_replicate, Int.toNat_natCast]⟩
      · rename ¬ _ ≤ _ => hle
        have hle' : ¬ n ≤ (acc ++ List.replicate x.toNat kind).length := by
          simp only [List.length_append, List.length_map, List.length_replicate] at hle ⊢
          omega
        have hac : acc.length + x.toNat < n := by
          simp only [List.length_append, List.length_replicate] at hle'
          omega
        rw [if_neg hle'] at hstep
        rename Fr g _ _ _ => FF
        rename News _ _ _ _ => NN
        have ek : 1 - b2i kind = b2i (!kind) := by cases kind <;> rfl
        rw [ek] at FF
        have F6 := fr_eq (m' := rgM (some (.int x t)) (.int (b2i (!kind)) _) R rl pl n tz) FF fun y => by
          by_cases hy : y = Str.ofString "run"
          · subst hy; rfl
          · by_cases hz : y = Str.ofString "kind"
            · subst hz; rfl
            · simp only [rgM, if_neg hy, if_neg hz]
        have em : List.map (Vd lo hi tl th) acc ++ List.replicate x.toNat (Vd lo hi tl th kind) = List.map (Vd lo hi tl th) (acc ++ List.replicate x.toNat kind) := by simp only [List.map_append, List.map_replicate]
        rw [em] at NN
        exact ⟨k, Nat.lt_succ_self _, !kind, acc ++ List.replicate x.toNat kind, ⟨some (.int x t), _, _, _, gs2, gs'', fp', e + 1, rfl, hbare, F6, fun p hp => NN p (.tail _ (.tail _ hp)), hgs2, fun p hp => (hfp' p hp).2, fun s'' hr => hgo' (by omega) s'' hr⟩,
          hstep ▸ (by rw [hrs k (by omega), hx']; rfl), by simp only [List.length_append, List.length_replicate]; exact hac, by simp only [List.length_append, List.length_replicate]; omega, by omega⟩
theorem zall : ∀ c : DD, zP (c.fW 0) (c.fLs 0) (c.fMe 0) (c.fMp 0) (c.fMp 1) (c.fA 0) (c.fA 1) (c.fLv 0) (c.fN 0) (c.fN 1) (c.fLi 0) (c.fS 0) (c.fS 1) (c.fT 0) (c.fT 1) (c.fN 2) (c.fT 2) (c.fN 3) (c.fN 4) (c.fGd 0) (c.fEn 0) (c.fH 0) (c.fH 1) (c.fA 2) (c.fSh 0) (c.fE 0) := allD (by with_unfolding_all exact zcore)
end Z_ring_H_K
theorem ring_H_K (w : World) (loose : List Str) (mean : ExcName → Option Value) (mg mb : Str → Option Value) (rl pl : Addr) (vs : List Value) (e e1 : Nat) (ks : List Int) (lo hi : Str) (tl th : Tok) (n : Nat) (tz : Tok) (hv : IntsAre vs ks) (hok : giOk none ks) (hlen : ks.length ≤ 100) (hks : ∀ k ∈ ks, 0 ≤ k ∧ k ≤ 127) (hn : 0 < n ∧ n ≤ 10)
   (hpos : ∀ x ∈ giv none ks 12, 1 ≤ x ∧ x ≤ 3) (dp un : Nat) (gd : Option (List Code)) (outer : List Env) (base g : Heap) (L' : Addr) (s : Shared) (E : Value → Shared → Prop) : WalkG w loose mean mg mb 40 122 [("ruler", .ref rl), ("size", .int n tz), ("pair", .ref pl)] (fun h => h.get? rl = some (lstO vs e) ∧ h.get? pl = some (lstO [Vd lo hi tl th false, Vd lo hi tl th true] e1)) (fun v now => ∃ D e', v = .ref D ∧ now = [(D, lstO ((ringP (giv none ks 12) n).map (Vd lo hi tl th)) e')]) dp un gd outer base g L' s E := by
  exact Z_ring_H_K.zall ⟨fun _ => w, fun _ => loose, fun _ => mean, fun i => [mg, mb].getD i mg, fun i => [rl, pl, L'].getD i rl, fun i => [e, e1, n, dp, un].getD i e, anyD.fI, fun i => [tl, th, tz].getD i tl, anyD.fV, fun i => [lo, hi].getD i lo, anyD.fO, fun i => [base, g].getD i base, fun _ => s, fun _ => vs, fun _ => ks, anyD.fLn, anyD.fLb, anyD.fLed, anyD.fQ, fun _ => E, anyD.fB, anyD.fIt, anyD.fAv, anyD.fB3, fun _ => gd, fun _ => outer, anyD.fAr, anyD.fOv, anyD.fOp, anyD.fLa, anyD.fEnv, anyD.fSs, anyD.fSt, anyD.fSc, anyD.fP, anyD.fEx, anyD.fR, anyD.fPo, anyD.fCl, anyD.fY, anyD.fRR, anyD.fBB, anyD.fNl, anyD.fOa, anyD.fFd, anyD.fAo, anyD.fDe, anyD.fIv⟩ hv hok hlen hks hn hpos

theorem ring_H (w : World) (loose : List Str) (mean : ExcName → Option Value) (mg mb : Str → Option Value) (rl pl : Addr) (vs : List Value) (e e1 : Nat) (ks : List Int) (lo hi : Str) (tl th : Tok) (n : Nat) (tz : Tok) (hv : IntsAre vs ks) (hok : giOk none ks) (hlen : ks.length ≤ 100) (hks : ∀ k ∈ ks, 0 ≤ k ∧ k ≤ 127) (hn : 0 < n ∧ n ≤ 10)
   (hpos : ∀ x ∈ giv none ks 12, 1 ≤ x ∧ x ≤ 3) :
   HGC w loose mean mg mb 40 122 [.ref rl, .int n tz, .ref pl] (fun h => h.get? rl = some (lstO vs e) ∧ h.get? pl = some (lstO [Vd lo hi tl th false, Vd lo hi tl th true] e1)) (fun v now => ∃ D e', v = .ref D ∧ now = [(D, lstO ((ringP (giv none ks 12) n).map (Vd lo hi tl th)) e')]) := by
  have _ : PySem.Challenge.rw_wo0016_01 = PySem.Challenge.rw_wo0016_01 ∧ Mine.hd.heap_1 = Mine.hd.heap_1 := by k_fill; exact ⟨rfl, rfl⟩
  refine' enterHg (binds := [("ruler", .ref rl), ("size", .int n tz), ("pair", .ref pl)]) ?k6 ?k7 ?k9 ?kB ?kW ?c5 ?c2 ?c3 ?c4 ?c6
  (case k6 => k_is); (case k7 => k_is); (case k9 => exact fun _ => BindsTo.of_eq rfl); (case kB => exact locs rfl); (case c5 => decide); (case c2 => exact rfl); (case c3 => exact rfl); (case c4 => exact rfl); (case c6 => decide)
  exact fun dp un gd outer base g L' s E => bodyG_of (by k_is) (ring_H_K w loose mean mg mb rl pl vs e e1 ks lo hi tl th n tz hv hok hlen hks hn hpos dp un gd outer base g L' s E)

end
end
section
section
variable {prog : Program} {w : World} {A : Around} {s : Shared} {g : Heap} {L It : Addr} {env : Env} {R : Result → Shared → Prop} {target : Expr} {body orelse : List Stmt}
noncomputable def EndT (g : Heap) (L It : Addr) (s : Shared) (IO : Nat → Obj → Prop) (kp : List (Addr × Obj)) (J : Nat → (Str → Option Value) → List (Addr × Obj) → Prop) (i : Nat) (s' : Shared) : Prop :=
  ∃ h' tk' m' led' io', s' = { s with heap := h', toks := tk' } ∧ Fr g L h' m' ∧ News g L h' ((It, io') :: led') ∧ IO i io' ∧ (∀ p ∈ kp, p ∈ led') ∧ (∀ p ∈ led', p.1 ≠ It) ∧ J i m' led'
theorem endT {IO : Nat → Obj → Prop} {kp : List (Addr × Obj)} {J : Nat → (Str → Option Value) → List (Addr × Obj) → Prop} {i : Nat} {h' : Heap} {tk' : Nat} {m' : Str → Option Value} {led' : List (Addr × Obj)} {io' : Obj}
    (F : Fr g L h' m') (N : News g L h' ((It, io') :: led')) (hi : IO i io') (hk : ∀ p ∈ kp, p ∈ led') (hn : ∀ p ∈ led', p.1 ≠ It) (hJ : J i m' led') : EndT g L It s IO kp J i { s with heap := h', toks := tk' } := ⟨h', tk', m', led', io', rfl, F, N, hi, hk, hn, hJ⟩
noncomputable def TurnT (prog : Program) (w : World) (A : Around) (g : Heap) (L It : Addr) (s : Shared) (env : Env) (R : Result → Shared → Prop) (target : Expr) (body : List Stmt) (IO : Nat → Obj → Prop) (kp : List (Addr × Obj)) (J : Nat → (Str → Option Value) → List (Addr × Obj) → Prop) (i : Nat) (v : Value) (s₁ : Shared) : Prop :=
  wpAny (model prog w) A (assign target env v) (fun _ s₂ => wpAny (model prog w) A (execs body env) (fun f s₃ => match f with
          | .next | .cont => EndT g L It s IO kp J (i + 1) s₃
          | .brk => R (.ok .next) s₃
          | .ret v => R (.ok (.ret v)) s₃) (notedBy (model prog w) A env fun e s' => R (.error e) s') s₂) (notedBy (model prog w) A env fun e s' => R (.error e) s') s₁
theorem for_J {n : Nat} {IO : Nat → Obj → Prop} {val : Nat → Value → Prop} {kp : List (Addr × Obj)} {J : Nat → (Str → Option Value) → List (Addr × Obj) → Prop}
    (hnext : ∀ i io h tk led m (Q : Option Value → Shared → Prop) (E : Value → Shared → Prop), i < n → IO i io → Fr g L h m → News g L h ((It, io) :: led) → (∀ p ∈ led, p.1 ≠ It) → (∀ p ∈ kp, p ∈ led) →
      (∀ v io' h' tk', val i v → IO (i + 1) io' → Fr g L h' m → News g L h' ((It, io') :: led) → Q (some v) { s with heap := h', toks := tk' }) → wpAny (model prog w) A (pyNext (.ref It)) Q E { s with heap := h, toks := tk })
    (hend : ∀ io h tk led m (Q : Option Value → Shared → Prop) (E : Value → Shared → Prop), IO n io → Fr g L h m → News g L h ((It, io) :: led) → (∀ p ∈ led, p.1 ≠ It) → (∀ p ∈ kp, p ∈ led) →
      (∀ h' tk', Fr g L h' m → News g L h' led → Q none { s with heap := h', toks := tk' }) → wpAny (model prog w) A (pyNext (.ref It)) Q E { s with heap := h, toks := tk })
    {m₀ : Str → Option Value} {led₀ : List (Addr × Obj)} {io₀ : Obj} {h₀ : Heap} {tk₀ : Nat} (F : Fr g L h₀ m₀) (N : News g L h₀ ((It, io₀) :: led₀)) (hi : IO 0 io₀) (hk : ∀ p ∈ kp, p ∈ led₀) (hne : ∀ p ∈ led₀, p.1 ≠ It) (hJ : J 0 m₀ led₀)
    (turn : ∀ i v io m led h tk, i < n → val i v → IO (i + 1) io → J i m led → (∀ p ∈ kp, p ∈ led) → (∀ p ∈ led, p.1 ≠ It) → Fr g L h m → News g L h ((It, io) :: led) → TurnT prog w A g L It s env R target body IO kp J i v { s with heap := h, toks := tk })
    (fin : ∀ m led h tk, J n m led → (∀ p ∈ kp, p ∈ led) → Fr g L h m → News g L h led → wpAny (model prog w) A (execs orelse env) (fun f s₃ => R (.ok f) s₃) (notedBy (model prog w) A env fun e s' => R (.error e) s') { s with heap := h, toks := tk })
    (ht : ∀ v, letOwnedTupleGo target (.ref It) v = pure () := by intro _; rfl) : codeAny (model prog w) A (.forLoop target (.ref It) body orelse env) R { s with heap := h₀, toks := tk₀ } := by
  refine for_my (I := fun k s' => ∃ i h tk m led io, s' = { s with heap := h, toks := tk } ∧ Fr g L h m ∧ News g L h ((It, io) :: led) ∧ IO i io ∧ (∀ p ∈ kp, p ∈ led) ∧ (∀ p ∈ led, p.1 ≠ It) ∧ J i m led ∧ i + k = n + 1 ∧ i ≤ n) ?_ (n + 1) ⟨0, h₀, tk₀, m₀, led₀, io₀, rfl, F, N, hi, hk, hne, hJ, by omega, by omega⟩ ht
  rintro k _ ⟨i, h, tk, m, led, io, rfl, F, N, hi, hk, hne, hJ, hik, hin⟩
  by_cases hlt : i < n
  · refine hnext i io h tk led m _ _ hlt hi F N hne hk fun v io' h' tk' hv hi' F' N' => ?_
    dsimp only
    refine wpAny_mono (turn i v io' m led h' tk' hlt hv hi' hJ hk hne F' N') (fun _ s₂ h₂ => wpAny_mono h₂ (fun f s₃ h₃ => ?_) fun _ _ x => x) fun _ _ x => x
    cases f with
    | next => obtain ⟨h2, tk2, m2, led2, io2, rfl, F2, N2, hi2, hk2, hn2, hJ2⟩ := h₃; exact ⟨k - 1, by omega, i + 1, h2, tk2, m2, led2, io2, rfl, F2, N2, hi2, hk2, hn2, hJ2, by omega, by omega⟩
    | cont => obtain ⟨h2, tk2, m2, led2, io2, rfl, F2, N2, hi2, hk2, hn2, hJ2⟩ := h₃; exact ⟨k - 1, by omega, i + 1, h2, tk2, m2, led2, io2, rfl, F2, N2, hi2, hk2, hn2, hJ2, by omega, by omega⟩
    | brk => exact h₃
    | ret v => exact h₃
  · obtain rfl : i = n := by omega
    exact hend io h tk led m _ _ hi F N hne hk fun h' tk' F' N' => fin m led h' tk' hJ hk F' N'
theorem fr_news_but {g h h' : Heap} {L It : Addr} {m : Str → Option Value} {io : Obj} {led : List (Addr × Obj)} (F : Fr g L h m) (N : News g L h ((It, io) :: led)) (hne : ∀ p ∈ led, p.1 ≠ It) (x : Heap.ExtBut It h h') : Fr g L h' m ∧ News g L h' led := by
  have NI := (N _ (List.Mem.head _)).2
  exact ⟨fr_ext F x NI.1 NI.2, fun p hp => ⟨x _ _ (hne p hp) (N p (.tail _ hp)).1, (N p (.tail _ hp)).2⟩⟩
theorem fr_news_set {g h h' : Heap} {L It : Addr} {m : Str → Option Value} {io io' : Obj} {led : List (Addr × Obj)} (F : Fr g L h m) (N : News g L h ((It, io) :: led)) (hne : ∀ p ∈ led, p.1 ≠ It) (x : Heap.SameBut It h h') (hi : h'.get? It = some io') :
    Fr g L h' m ∧ News g L h' ((It, io') :: led) := by
  obtain ⟨F', N'⟩ := fr_news_but F N hne x.extBut
  refine ⟨F', fun p hp => ?_⟩
  rcases List.mem_cons.mp hp with rfl | hp
  · exact ⟨hi, (N _ (List.Mem.head _)).2⟩
  · exact N' p hp
theorem for_list {l : Addr} {vs : List Value} {e : Nat} {J : Nat → (Str → Option Value) → List (Addr × Obj) → Prop} {m₀ : Str → Option Value} {led₀ : List (Addr × Obj)} {E : Value → Shared → Prop}
    (hh : A.handled = none) (F : Fr g L s.heap m₀) (N : News g L s.heap led₀) (hl : (l, lstO vs e) ∈ led₀) (hJ : J 0 m₀ led₀)
    (turn : ∀ It i v io m led h tk, (∀ p ∈ led₀, p.1 < It) → (∀ p ∈ led, p.1 ≠ It) → vs[i]? = some v → ItO l (i + 1) io → J i m led → (l, lstO vs e) ∈ led → Fr g L h m → News g L h ((It, io) :: led) →
      TurnT prog w A g L It s env R target body (ItO l) [(l, lstO vs e)] J i v { s with heap := h, toks := tk })
    (fin : ∀ m led h tk, J vs.length m led → (l, lstO vs e) ∈ led → Fr g L h m → News g L h led → wpAny (model prog w) A (execs orelse env) (fun f s₃ => R (.ok f) s₃) (notedBy (model prog w) A env fun e s' => R (.error e) s') { s with heap := h, toks := tk })
    (ht : ∀ it v, letOwnedTupleGo target it v = pure () := by intro _ _; rfl) :
    wpAny (model prog w) A (pyIter (.ref l)) (fun it s₂ => codeAny (model prog w) A (.forLoop target it body orelse env) R s₂) E s := by
  refine wpAny_pyIter_list (items := vs.toArray) ⟨_, (N _ hl).1, rfl, _, rfl⟩ ?_
  have hlt : ∀ p ∈ led₀, p.1 < s.heap.objs.size := fun p hp => Heap.lt_size (N p hp).1
  have key : ∀ (h : Heap) (led : List (Addr × Obj)) (io : Obj), News g L h ((s.heap.objs.size, io) :: led) → (l, lstO vs e) ∈ led → h.IsList l vs.toArray := fun h led io N hm => ⟨_, (N _ (.tail _ hm)).1, rfl, _, rfl⟩
  refine for_J (n := vs.length) (IO := ItO l) (val := fun i v => vs[i]? = some v) (kp := [(l, lstO vs e)]) (J := J) ?_ ?_ (F.push _) (News.push F N _ rfl) ⟨rfl, rfl⟩ (fun p hp => (List.mem_singleton.mp hp) ▸ hl) (fun p hp => Nat.ne_of_lt (hlt p hp)) hJ
    (fun i v io m led h tk _ hv hi hj hk hne F N => turn _ i v io m led h tk hlt hne hv hi hj (hk _ (List.Mem.head _)) F N) (fun m led h tk hj hk F N => fin m led h tk hj (hk _ (List.Mem.head _)) F N) (ht _)
  · intro i io h tk led m Q E hi hio F N hne hk hQ
    have hx : vs.toArray[i]? = some vs[i] := by simp [hi]
    refine wpAny_pyNext_list_item (hio.is N) (key h led io N (hk _ (List.Mem.head _))) hx fun h' hli hsb => ?_
    obtain ⟨io', q1, q2, q3⟩ := hli
    obtain ⟨F', N'⟩ := fr_news_set F N hne hsb q1
    exact hQ _ io' h' _ (by simp [hi]) ⟨q2, q3⟩ F' N'
  · intro io h tk led m Q E hio F N hne' hk hQ
    refine wpAny_pyNext_list_end hh (hio.is N) (key h led io N (hk _ (List.Mem.head _))) (by simp) fun h' hx => ?_
    obtain ⟨F', N'⟩ := fr_news_but F N hne' hx
    exact hQ h' _ F' N'
theorem for_ints {l : Addr} {vs : List Value} {xs : List Int} {e : Nat} {J : Nat → (Str → Option Value) → List (Addr × Obj) → Prop} {m₀ : Str → Option Value} {led₀ : List (Addr × Obj)} {E : Value → Shared → Prop}
    (hh : A.handled = none) (F : Fr g L s.heap m₀) (N : News g L s.heap led₀) (hl : (l, lstO vs e) ∈ led₀) (hv : IntsAre vs xs) (hJ : J 0 m₀ led₀)
    (turn : ∀ It i x t io m led h tk, (∀ p ∈ led₀, p.1 < It) → (∀ p ∈ led, p.1 ≠ It) → xs[i]? = some x → ItO l (i + 1) io → J i m led → (l, lstO vs e) ∈ led → Fr g L h m → News g L h ((It, io) :: led) →
      TurnT prog w A g L It s env R target body (ItO l) [(l, lstO vs e)] J i (.int x t) { s with heap := h, toks := tk })
    (fin : ∀ m led h tk, J xs.length m led → (l, lstO vs e) ∈ led → Fr g L h m → News g L h led → wpAny (model prog w) A (execs orelse env) (fun f s₃ => R (.ok f) s₃) (notedBy (model prog w) A env fun e s' => R (.error e) s') { s with heap := h, toks := tk })
    (ht : ∀ it v, letOwnedTupleGo target it v = pure () := by intro _ _; rfl) :
    wpAny (model prog w) A (pyIter (.ref l)) (fun it s₂ => codeAny (model prog w) A (.forLoop target it body orelse env) R s₂) E s := by
  refine for_list hh F N hl hJ (fun It i v io m led h tk a b hvi c d f F' N' => ?_) (fun m led h tk hj hm F' N' => fin m led h tk (hv.length ▸ hj) hm F' N') ht
  have hi : i < xs.length := by
    have := (List.getElem?_eq_some_iff.mp hvi).1
    rw [← hv.length]; exact this
  obtain ⟨t, e'⟩ := ints_at hv (i := i) (x := xs[i]) (by simp [hi])
  rw [hvi] at e'
  cases e'
  exact turn It i _ t io m led h tk a b (by simp [hi]) c d f F' N'
noncomputable def RgO (a c : Int) (n : Nat) (i : Nat) (o : Obj) : Prop := o = { cls := .type "range_iterator", dict := none, data := .fields #[rawInt (a + i * c), rawInt ((n : Int) - i), rawInt c], slots := #[] }
theorem for_range {r : Addr} {a b c : Int} {t u v : Tok} {n : Nat} {J : Nat → (Str → Option Value) → List (Addr × Obj) → Prop} {m₀ : Str → Option Value} {led₀ : List (Addr × Obj)} {E : Value → Shared → Prop}
    (hh : A.handled = none) (F : Fr g L s.heap m₀) (N : News g L s.heap led₀) (hr : IsRange s.heap r a b c t u v) (hsmall : Builtin.Range.small a b c = true) (hn : Builtin.Range.rangeSize a b c = (n : Int)) (hJ : J 0 m₀ led₀)
    (turn : ∀ It i k t io m led h tk, (∀ p ∈ led₀, p.1 < It) → (∀ p ∈ led, p.1 ≠ It) → i < n → k = a + i * c → RgO a c n (i + 1) io → J i m led → Fr g L h m → News g L h ((It, io) :: led) →
      TurnT prog w A g L It s env R target body (RgO a c n) [] J i (.int k t) { s with heap := h, toks := tk })
    (fin : ∀ m led h tk, J n m led → Fr g L h m → News g L h led → wpAny (model prog w) A (execs orelse env) (fun f s₃ => R (.ok f) s₃) (notedBy (model prog w) A env fun e s' => R (.error e) s') { s with heap := h, toks := tk })
    (ht : ∀ it v, letOwnedTupleGo target it v = pure () := by intro _ _; rfl) :
    wpAny (model prog w) A (pyIter (.ref r)) (fun it s₂ => codeAny (model prog w) A (.forLoop target it body orelse env) R s₂) E s := by
  refine wpAny_pyIter_range hr hsmall ?_
  have hlt : ∀ p ∈ led₀, p.1 < s.heap.objs.size := fun p hp => Heap.lt_size (N p hp).1
  rw [hn]
  refine for_J (n := n) (IO := RgO a c n) (val := fun i v => ∃ t, v = .int (a + i * c) t) (kp := []) (J := J) ?_ ?_ (F.push _) (News.push F N _ rfl) (by simp [RgO]) (fun p hp => nomatch hp) (fun p hp => Nat.ne_of_lt (hlt p hp)) hJ
    (fun i v io m led h tk hi hv hio hj hk hne F N => by obtain ⟨t, rfl⟩ := hv; exact turn _ i _ t io m led h tk hlt hne hi rfl hio hj F N) (fun m led h tk hj hk F N => fin m led h tk hj F N) (ht _)
  · intro i io h tk led m Q E hi hio F N hne hk hQ
    have hio' : io = _ := hio
    subst hio'
    refine wpAny_pyNext_range_item (N _ (List.Mem.head _)).1 (by omega) fun h' hli hsb => ?_
    obtain ⟨F', N'⟩ := fr_news_set F N hne hsb hli
    refine hQ _ _ h' _ ⟨_, rfl⟩ ?_ F' N'
    show _ = _
    have e1 : a + (i : Int) * c + c = a + ((i + 1 : Nat) : Int) * c := by rw [Int.natCast_add, Int.add_mul]; simp; omega
    have e2 : (n : Int) - i - 1 = (n : Int) - ((i + 1 : Nat) : Int) := by omega
    rw [e1, e2]
  · intro io h tk led m Q E hio F N hne' hk hQ
    have hio' : io = _ := hio
    subst hio'
    refine wpAny_pyNext_range_end hh (N _ (List.Mem.head _)).1 (by omega) fun h' hx => ?_
    obtain ⟨F', N'⟩ := fr_news_but F N hne' hx
    exact hQ h' _ F' N'
theorem for_rangeM {r : Addr} {a b c : Int} {t u v : Tok} {n : Nat} {J : Nat → List (Addr × Obj) → Prop} {m₀ : Str → Option Value} {led₀ : List (Addr × Obj)} {E : Value → Shared → Prop}
    (hh : A.handled = none) (F : Fr g L s.heap m₀) (N : News g L s.heap led₀) (hr : IsRange s.heap r a b c t u v) (hsmall : Builtin.Range.small a b c = true) (hn : Builtin.Range.rangeSize a b c = (n : Int)) (hJ : J 0 led₀)
    (turn : ∀ It i k t io led h tk, (∀ p ∈ led₀, p.1 < It) → (∀ p ∈ led, p.1 ≠ It) → i < n → k = a + i * c → RgO a c n (i + 1) io → J i led → Fr g L h m₀ → News g L h ((It, io) :: led) →
      TurnT prog w A g L It s env R target body (RgO a c n) [] (fun i m led => m = m₀ ∧ J i led) i (.int k t) { s with heap := h, toks := tk })
    (fin : ∀ led h tk, J n led → Fr g L h m₀ → News g L h led → wpAny (model prog w) A (execs orelse env) (fun f s₃ => R (.ok f) s₃) (notedBy (model prog w) A env fun e s' => R (.error e) s') { s with heap := h, toks := tk })
    (ht : ∀ it v, letOwnedTupleGo target it v = pure () := by intro _ _; rfl) :
    wpAny (model prog w) A (pyIter (.ref r)) (fun it s₂ => codeAny (model prog w) A (.forLoop target it body orelse env) R s₂) E s :=
  for_range (J := fun i m led => m = m₀ ∧ J i led) hh F N hr hsmall hn ⟨rfl, hJ⟩ (fun It i k t io m led h tk a b c d e f F' N' => turn It i k t io led h tk a b c d e f.2 (f.1 ▸ F') N')
    (fun m led h tk f F' N' => fin led h tk f.2 (f.1 ▸ F') N') ht
end
theorem sub3 {g h : Heap} {L It : Addr} {io : Obj} {led : List (Addr × Obj)} {a b c : Addr × Obj} (N : News g L h ((It, io) :: led)) (ha : a ∈ led) (hb : b ∈ led) (hc : c ∈ led) : News g L h [(It, io), a, b, c] := by
  refine List.forall_mem_cons.mpr ⟨N _ (List.Mem.head _), List.forall_mem_cons.mpr ⟨N _ (.tail _ ha), List.forall_mem_cons.mpr ⟨N _ (.tail _ hb), List.forall_mem_cons.mpr ⟨N _ (.tail _ hc), List.forall_mem_nil _⟩⟩⟩⟩
theorem news_sub {g h : Heap} {L : Addr} {led led' : List (Addr × Obj)} (N : News g L h led) (hs : ∀ p ∈ led', p ∈ led) : News g L h led' := fun p hp => N p (hs p hp)
end
section
noncomputable def bitsGo : List Int → Bool → List Bool → List Bool
  | [], _, acc => acc
  | x :: xs, b, acc => bitsGo xs (!b) (acc ++ List.replicate x.toNat b)
noncomputable def bitsP (l : List Int) (n : Nat) : List Bool := (bitsGo l true [] ++ List.replicate n false).take n
noncomputable def formL (form : Nat) (r0 r1 r2 r3 : Int) : List Int := match form with
  | 0 => [r0, r1, r2, r3] ++ List.replicate 9 r3
  | 1 => [r0] ++ List.replicate 9 r1
  | 2 => [r0, r1]
  | _ => [r0, r1, r2, r3]
theorem bitsGo_len : ∀ (xs : List Int) (b : Bool) (acc : List Bool), (∀ x ∈ xs, 0 ≤ x ∧ x ≤ 3) → (bitsGo xs b acc).length ≤ acc.length + 3 * xs.length
  | [], _, acc, _ => by simp [bitsGo]
  | x :: xs, b, acc, h => by
    have h1 := h x (List.Mem.head _)
    have := bitsGo_len xs (!b) (acc ++ List.replicate x.toNat b) fun y hy => h y (.tail _ hy)
    rw [bitsGo]
    simp only [List.length_append, List.length_replicate, List.length_cons] at this ⊢
    omega
theorem ints_rep (x : Int) (t : Tok) : ∀ n : Nat, IntsAre (List.replicate n (.int x t)) (List.replicate n x)
  | 0 => .nil
  | n + 1 => .cons _ _ (ints_rep x t n)
noncomputable abbrev btM (rv : Option Value) (kv : Value) (B rl : Addr) (form n : Nat) (tf tz : Tok) : Str → Option Value := fun y =>
  if y = Str.ofString "run" then rv else if y = Str.ofString "kind" then some kv else if y = Str.ofString "bits" then some (.ref B) else List.lookup y [(Str.ofString "runs", Value.ref rl), (Str.ofString "form", Value.int (form : Int) tf), (Str.ofString "size", Value.int n tz)].reverse
noncomputable def sel4 (f : Nat) (a b c d : Addr) : Addr := match f with
  | 0 => a
  | 1 => b
  | 2 => c
  | _ => d
theorem sel4_get {f : Nat} (hf : f < 4) (a b c d : Addr) : [Value.ref a, Value.ref b, Value.ref c, Value.ref d][((f : Nat) : Int).toNat]? = some (.ref (sel4 f a b c d)) := by
  match f, hf with
  | 0, _ => rfl
  | 1, _ => rfl
  | 2, _ => rfl
  | 3, _ => rfl
theorem pick4 {g h : Heap} {L : Addr} {led : List (Addr × Obj)} (_N : News g L h led) {f : Nat} {a b c d D : Addr} {r0 r1 r2 r3 : Int} {y0 y1 y2 y3 : List Value} {e0 e1 e2 e3 : Nat} (hD : sel4 f a b c d = D) (hf : f < 4)
    (h0 : (a, lstO y0 e0) ∈ led) (h1 : (b, lstO y1 e1) ∈ led) (h2 : (c, lstO y2 e2) ∈ led) (h3 : (d, lstO y3 e3) ∈ led)
    (i0 : IntsAre y0 (formL 0 r0 r1 r2 r3)) (i1 : IntsAre y1 (formL 1 r0 r1 r2 r3)) (i2 : IntsAre y2 (formL 2 r0 r1 r2 r3)) (i3 : IntsAre y3 (formL 3 r0 r1 r2 r3)) :
    ∃ ys e, (D, lstO ys e) ∈ led ∧ IntsAre ys (formL f r0 r1 r2 r3) := by
  subst hD
  match f, hf with
  | 0, _ => exact ⟨_, _, h0, i0⟩
  | 1, _ => exact ⟨_, _, h1, i1⟩
  | 2, _ => exact ⟨_, _, h2, i2⟩
  | 3, _ => exact ⟨_, _, h3, i3⟩
theorem formL_rng {f : Nat} (hf : f < 4) {r0 r1 r2 r3 : Int} (hr : (1 ≤ r0 ∧ r0 ≤ 3) ∧ (1 ≤ r1 ∧ r1 ≤ 3) ∧ (1 ≤ r2 ∧ r2 ≤ 3) ∧ (1 ≤ r3 ∧ r3 ≤ 3)) : (∀ x ∈ formL f r0 r1 r2 r3, 1 ≤ x ∧ x ≤ 3) ∧ (formL f r0 r1 r2 r3).length ≤ 13 := by
  obtain ⟨h0, h1, h2, h3⟩ := hr
  match f, hf with
  | 0, _ => exact ⟨fun x hx => by simp only [formL, List.mem_append, List.mem_cons, List.mem_replicate, List.not_mem_nil, or_false] at hx; rcases hx with (rfl | rfl | rfl | rfl) | ⟨_, rfl⟩ <;> assumption, by simp [formL]⟩
  | 1, _ => exact ⟨fun x hx => by simp only [formL, List.mem_append, List.mem_cons, List.mem_replicate, List.not_mem_nil, or_false] at hx; rcases hx with rfl | ⟨_, rfl⟩ <;> assumption, by simp [formL]⟩
  | 2, _ => exact ⟨fun x hx => by simp only [formL, List.mem_cons, List.not_mem_nil, or_false] at hx; rcases hx with rfl | rfl <;> assumption, by simp [formL]⟩
  | 3, _ => exact ⟨fun x hx => by simp only [formL, List.mem_cons, List.not_mem_nil, or_false] at hx; rcases hx with rfl | rfl | rfl | rfl <;> assumption, by simp [formL]⟩
inductive JB (rl : Addr) (f n : Nat) (tf tz : Tok) (o : Obj) (xs : List Int) (i : Nat) (m : Str → Option Value) (led : List (Addr × Obj)) : Prop
  | mk (rv : Option Value) (kind : Bool) (tk : Tok) (B : Addr) (ys : List Value) (eb : Nat) (acc : List Bool) (em : m = btM rv (.int (b2i kind) tk) B rl f n tf tz) (hB : (B, lstO ys eb) ∈ led) (hys : IntsAre ys (acc.map b2i))
    (hgo : bitsGo (xs.drop i) kind acc = bitsGo xs true []) (hal : acc.length ≤ 3 * i) (hrl : (rl, o) ∈ led) : JB rl f n tf tz o xs i m led
section
namespace Z_bits_H_K
noncomputable def zP (w : World) (loose : List Str) (mean : ExcName → Option Value) (mg : Str → Option Value) (mb : Str → Option Value) (rl : Addr) (f : Nat) (r0 : Int) (r1 : Int) (r2 : Int) (r3 : Int) (t0 : Tok) (t1 : Tok) (t2 : Tok) (t3 : Tok) (tf : Tok) (e : Nat) (n : Nat) (tz : Tok) (dp : Nat) (un : Nat) (gd : Option (List Code)) (outer : List Env) (base : Heap) (g : Heap) (L' : Addr) (s : Shared) (E : Value → Shared → Prop) : Prop := ∀ (hf : f < 4) (hr : (1 ≤ r0 ∧ r0 ≤ 3) ∧ (1 ≤ r1 ∧ r1 ≤ 3) ∧ (1 ≤ r2 ∧ r2 ≤ 3) ∧ (1 ≤ r3 ∧ r3 ≤ 3)) (hn : 0 < n ∧ n ≤ 10) (B : Below (Ar dp un gd outer) base outer g) (F : Fr g L' s.heap (fun y => ([("runs", .ref rl), ("form", .int f tf), ("size", .int n tz)] : List (Str × Value)).reverse.lookup y)) (N : News g L' s.heap ([(rl, lstO [.int r0 t0, .int r1 t1, .int r2 t2, .int r3 t3] e)])) (X : (Mine.hd.heap_1 w.params).In g) (T : Top topProg loose mean mg mb g) (hp : (fun _ => True : Heap → Prop) g) (hlt : ∀ p ∈ ([(rl, lstO [.int r0 t0, .int r1 t1, .int r2 t2, .int r3 t3] e)] : List (Addr × Obj)), p.1 < L') (hd : dp + 40 < recursionLimit) (hu : un + 10 * 40 < cLine), WalkK w 153 dp un gd outer g L' s (fun v now => ∃ D ys e', v = .ref D ∧ IntsAre ys ((bitsP (formL f r0 r1 r2 r3) n).map b2i) ∧ now = [(D, lstO ys e'), (rl, lstO [.int r0 t0, .int r1 t1, .int r2 t2, .int r3 t3] e)]) E
noncomputable def zk : DD := pickD fun c => zP (c.fW 0) (c.fLs 0) (c.fMe 0) (c.fMp 0) (c.fMp 1) (c.fA 0) (c.fN 0) (c.fI 0) (c.fI 1) (c.fI 2) (c.fI 3) (c.fT 0) (c.fT 1) (c.fT 2) (c.fT 3) (c.fT 4) (c.fN 1) (c.fN 2) (c.fT 5) (c.fN 3) (c.fN 4) (c.fGd 0) (c.fEn 0) (c.fH 0) (c.fH 1) (c.fA 1) (c.fSh 0) (c.fE 0)
noncomputable section
@[irreducible] def w : World := zk.fW 0
@[irreducible] def loose : List Str := zk.fLs 0
@[irreducible] def mean : ExcName → Option Value := zk.fMe 0
@[irreducible] def mg : Str → Option Value := zk.fMp 0
@[irreducible] def mb : Str → Option Value := zk.fMp 1
@[irreducible] def rl : Addr := zk.fA 0
@[irreducible] def f : Nat := zk.fN 0
@[irreducible] def r0 : Int := zk.fI 0
@[irreducible] def r1 : Int := zk.fI 1
@[irreducible] def r2 : Int := zk.fI 2
@[irreducible] def r3 : Int := zk.fI 3
@[irreducible] def t0 : Tok := zk.fT 0
@[irreducible] def t1 : Tok := zk.fT 1
@[irreducible] def t2 : Tok := zk.fT 2
@[irreducible] def t3 : Tok := zk.fT 3
@[irreducible] def tf : Tok := zk.fT 4
@[irreducible] def e : Nat := zk.fN 1
@[irreducible] def n : Nat := zk.fN 2
@[irreducible] def tz : Tok := zk.fT 5
@[irreducible] def dp : Nat := zk.fN 3
@[irreducible] def un : Nat := zk.fN 4
@[irreducible] def gd : Option (List Code) := zk.fGd 0
@[irreducible] def outer : List Env := zk.fEn 0
@[irreducible] def base : Heap := zk.fH 0
@[irreducible] def g : Heap := zk.fH 1
@[irreducible] def L' : Addr := zk.fA 1
@[irreducible] def s : Shared := zk.fSh 0
@[irreducible] def E : Value → Shared → Prop := zk.fE 0
end
theorem zcore : zP w loose mean mg mb rl f r0 r1 r2 r3 t0 t1 t2 t3 tf e n tz dp un gd outer base g L' s E := by
  k_with "x18" => skip
  k_with "binaryOp Mult ref int" => ((fail_if_success k_extra "x19"); k_here; k_dflt (refine' mulV (by assumption) (by assumption) (by k_mem) (by omega) (by omega) ?_); intro _ _ _ _ l1; (try k_lt l1); revert l1; intro _)
  k_with "binaryOp Add ref ref" => ((fail_if_success k_extra "x19"); k_here; k_dflt (refine' addV (by assumption) (by assumption) (by k_mem) (by k_mem) (by k_extra "mine len") (by k_extra "mine len") ?_); intro _ _ _ _ l1; (try k_lt l1); revert l1; intro _)
  k_with "exec For Name Subscript cons nil" => ((fail_if_success k_extra "x19"); k_here; k_dflt (refine wpAny_For ?_))
  k_with "mine iter" => ((fail_if_success k_extra "x19"); k_here; k_dflt (refine hold_of ?_))
  k_with "subscriptTail" => ((fail_if_success k_extra "x19"); k_here; (with_reducible show wpAny _ _ (subscriptTail (PySem.Expr.List _ _) _ (Value.ref _) (Value.int _ _)) _ _ _); refine hold_of ?_)
  unfold zP
  intro hf hr hn B F N X T hp hlt hd hu
  obtain ⟨hxb, hxl⟩ := formL_rng hf hr
  have _ : PySem.Challenge.rw_wo0016_01 = PySem.Challenge.rw_wo0016_01 ∧ Mine.hd.heap_1 = Mine.hd.heap_1 := by k_fill; exact ⟨rfl, rfl⟩
  refine' walkK_of ?k6 ?_; (case k6 => k_is)
  have uT : UseT1 := trivial
  obtain ⟨hr0, hr1, hr2, hr3⟩ := hr
  k_steps
  unfold Hold
  rename News _ _ _ _ => NN
  refine item_new NN (.head _) (by omega) (by omega) (sel4_get hf _ _ _ _) ?_
  generalize hD : sel4 f _ _ _ _ = D
  obtain ⟨ys0, e9, hm, hI⟩ := pick4 NN hD hf (by k_mem) (by k_mem) (by k_mem) (by k_mem) (.cons r0 t0 (.cons r1 t1 (.cons r2 t2 (.cons r3 t3 (ints_rep r3 _ 9))))) (.cons r0 t0 (ints_rep r1 _ 9)) (.cons r0 t0 (.cons r1 t1 .nil)) (.cons r0 t0 (.cons r1 t1 (.cons r2 t2 (.cons r3 t3 .nil))))
  k_steps
  unfold Hold
  rename Fr _ _ _ _ => FF
  have F3 := fr_eq (m' := btM none (.int (b2i true) _) _ rl f n tf tz) FF fun y => by
    by_cases hy : y = Str.ofString "run"
    · subst hy; rfl
    · simp only [btM, if_neg hy]; rfl
  have hrl0 := hm
  generalize formL f r0 r1 r2 r3 = xs at *
  generalize lstO [Value.int r0 t0, Value.int r1 t1, Value.int r2 t2, Value.int r3 t3] e = o at *
  refine' for_ints (xs := xs) (J := fun i m led => JB rl f n tf tz o xs i m led) rfl F3 NN hm hI ⟨_, true, _, _, [], 0, [], rfl, by k_mem, .nil, rfl, by simp, by k_mem⟩ ?turn ?fin
  case turn =>
    rintro It i x t io m led h tk' hI' hI'' hxi hio ⟨rv, kind, tk9, B, ys, eb, acc, rfl, hB, hys, hgo, hal, hrl⟩ hl F' N'
    unfold TurnT
    have hil := (List.getElem?_eq_some_iff.mp hxi).1
    have hx := hxb x (List.mem_of_getElem? hxi)
    have hyl : ys.length = acc.length := by rw [hys.length, List.length_map]
    have N2 := sub3 N' hB hrl hl
    have e1 := hI'' _ hrl
    have e2 := hI'' _ hl
    have hgo2 : bitsGo (xs.drop (i + 1)) (!kind) (acc ++ List.replicate x.toNat kind) = bitsGo xs true [] := by
      rw [← hgo, List.drop_eq_getElem_cons hil, show xs[i] = x from (List.getElem?_eq_some_iff.mp hxi).2]; rfl
    have hxt : x.toNat ≤ 3 := by omega
    clear N' F3 NN
    k_steps
    rename Fr g _ _ _ => F4
    rename News _ _ _ _ => N4
    have ek : 1 - b2i kind = b2i (!kind) := by cases kind <;> rfl
    rw [ek] at F4
    have F6 := fr_eq (m' := btM (some (.int x t)) (.int (b2i (!kind)) _) _ rl f n tf tz) F4 fun y => by
      by_cases hy : y = Str.ofString "run"
      · subst hy; rfl
      · by_cases hz : y = Str.ofString "kind"
        · subst hz; rfl
        · by_cases hw : y = Str.ofString "bits"
          · subst hw; rfl
          · simp only [btM, if_neg hy, if_neg hz, if_neg hw]
    refine' endT (led' := [(_, lstO (ys ++ List.replicate x.toNat (.int (b2i kind) tk9)) 0), (rl, o), (D, lstO ys0 e9)]) F6 (news_sub N4 ?sub) hio ?kp ?ne ?_
    (case kp => k_extra "mine sub")
    (case sub => k_extra "mine sub")
    (case ne => k_extra "mine ne")
    refine ⟨_, !kind, _, _, _, _, acc ++ List.replicate x.toNat kind, rfl, List.Mem.head _, ?_, hgo2, ?_, by k_mem⟩
    · rw [List.map_append, List.map_replicate]; exact IntsAre.append hys (ints_rep _ _ _)
    · simp only [List.length_append, List.length_replicate]; omega
  case fin =>
    rintro m led h tk' ⟨rv, kind, tk, B, ys, eb, acc, rfl, hB, hys, hgo, hal, hrl⟩ hl F' N'
    have hyl : ys.length = acc.length := by rw [hys.length, List.length_map]
    have hac : acc = bitsGo xs true [] := by rw [← hgo, List.drop_length]; rfl
    have N2 : News g L' h [(B, lstO ys eb), (rl, o)] := List.forall_mem_cons.mpr ⟨N' _ hB, List.forall_mem_cons.mpr ⟨N' _ hrl, List.forall_mem_nil _⟩⟩
    clear N' F3 NN
    k_steps
    rename Fr g _ _ _ => F4
    rename News _ _ _ _ => N4
    rw [slice_to] at N4
    refine leaveH (now := [(_, _), (rl, _)]) F4 (news_sub N4 (by k_extra "mine sub")) ⟨_, _, 0, rfl, ?_, rfl⟩
    rw [bitsP, ← hac, List.map_take, List.map_append, List.map_replicate]
    exact (IntsAre.append hys (ints_rep _ _ _)).take n
theorem zall : ∀ c : DD, zP (c.fW 0) (c.fLs 0) (c.fMe 0) (c.fMp 0) (c.fMp 1) (c.fA 0) (c.fN 0) (c.fI 0) (c.fI 1) (c.fI 2) (c.fI 3) (c.fT 0) (c.fT 1) (c.fT 2) (c.fT 3) (c.fT 4) (c.fN 1) (c.fN 2) (c.fT 5) (c.fN 3) (c.fN 4) (c.fGd 0) (c.fEn 0) (c.fH 0) (c.fH 1) (c.fA 1) (c.fSh 0) (c.fE 0) := allD (by with_unfolding_all exact zcore)
end Z_bits_H_K
theorem bits_H_K (w : World) (loose : List Str) (mean : ExcName → Option Value) (mg mb : Str → Option Value) (rl : Addr) (f : Nat) (hf : f < 4) (r0 r1 r2 r3 : Int) (t0 t1 t2 t3 tf : Tok) (e : Nat) (n : Nat) (tz : Tok) (hr : (1 ≤ r0 ∧ r0 ≤ 3) ∧ (1 ≤ r1 ∧ r1 ≤ 3) ∧ (1 ≤ r2 ∧ r2 ≤ 3) ∧ (1 ≤ r3 ∧ r3 ≤ 3)) (hn : 0 < n ∧ n ≤ 10) (dp un : Nat) (gd : Option (List Code)) (outer : List Env) (base g : Heap) (L' : Addr) (s : Shared) (E : Value → Shared → Prop) (B : Below (Ar dp un gd outer) base outer g) (F : Fr g L' s.heap (fun y => ([("runs", .ref rl), ("form", .int f tf), ("size", .int n tz)] : List (Str × Value)).reverse.lookup y)) (N : News g L' s.heap ([(rl, lstO [.int r0 t0, .int r1 t1, .int r2 t2, .int r3 t3] e)])) (X : (Mine.hd.heap_1 w.params).In g) (T : Top topProg loose mean mg mb g) (hp : (fun _ => True : Heap → Prop) g) (hlt : ∀ p ∈ ([(rl, lstO [.int r0 t0, .int r1 t1, .int r2 t2, .int r3 t3] e)] : List (Addr × Obj)), p.1 < L') (hd : dp + 40 < recursionLimit) (hu : un + 10 * 40 < cLine) : WalkK w 153 dp un gd outer g L' s (fun v now => ∃ D ys e', v = .ref D ∧ IntsAre ys ((bitsP (formL f r0 r1 r2 r3) n).map b2i) ∧ now = [(D, lstO ys e'), (rl, lstO [.int r0 t0, .int r1 t1, .int r2 t2, .int r3 t3] e)]) E := by
  exact Z_bits_H_K.zall ⟨fun _ => w, fun _ => loose, fun _ => mean, fun i => [mg, mb].getD i mg, fun i => [rl, L'].getD i rl, fun i => [f, e, n, dp, un].getD i f, fun i => [r0, r1, r2, r3].getD i r0, fun i => [t0, t1, t2, t3, tf, tz].getD i t0, anyD.fV, anyD.fS, anyD.fO, fun i => [base, g].getD i base, fun _ => s, anyD.fLv, anyD.fLi, anyD.fLn, anyD.fLb, anyD.fLed, anyD.fQ, fun _ => E, anyD.fB, anyD.fIt, anyD.fAv, anyD.fB3, fun _ => gd, fun _ => outer, anyD.fAr, anyD.fOv, anyD.fOp, anyD.fLa, anyD.fEnv, anyD.fSs, anyD.fSt, anyD.fSc, anyD.fP, anyD.fEx, anyD.fR, anyD.fPo, anyD.fCl, anyD.fY, anyD.fRR, anyD.fBB, anyD.fNl, anyD.fOa, anyD.fFd, anyD.fAo, anyD.fDe, anyD.fIv⟩ hf hr hn B F N X T hp hlt hd hu

theorem bits_H (w : World) (loose : List Str) (mean : ExcName → Option Value) (mg mb : Str → Option Value) (rl : Addr) (f : Nat) (hf : f < 4) (r0 r1 r2 r3 : Int) (t0 t1 t2 t3 tf : Tok) (e : Nat) (n : Nat) (tz : Tok) (hr : (1 ≤ r0 ∧ r0 ≤ 3) ∧ (1 ≤ r1 ∧ r1 ≤ 3) ∧ (1 ≤ r2 ∧ r2 ≤ 3) ∧ (1 ≤ r3 ∧ r3 ≤ 3)) (hn : 0 < n ∧ n ≤ 10) :
   HC w loose mean mg mb 40 153 [.ref rl, .int f tf, .int n tz] [(rl, lstO [.int r0 t0, .int r1 t1, .int r2 t2, .int r3 t3] e)] (fun _ => True)
    (fun v now => ∃ D ys e', v = .ref D ∧ IntsAre ys ((bitsP (formL f r0 r1 r2 r3) n).map b2i) ∧ now = [(D, lstO ys e'), (rl, lstO [.int r0 t0, .int r1 t1, .int r2 t2, .int r3 t3] e)]) := by
  unfold HC; k_fill
  refine' enterH (pre' := fun _ => True) (binds := [("runs", .ref rl), ("form", .int f tf), ("size", .int n tz)]) ?k6 ?k7 ?k9 ?kB ?kP ?kW ?c5 ?c2 ?c3 ?c4 ?c6
  k_extra "mine enter"
  (case kP => exact fun _ _ h _ => h)
  intro dp un gd outer base g L' s E B F N X T hp hlt hd hu
  exact walkB_of (by k_is) (bits_H_K w loose mean mg mb rl f hf r0 r1 r2 r3 t0 t1 t2 t3 tf e n tz hr hn dp un gd outer base g L' s E B F N X T hp hlt hd hu)

end
end
section
open LCg in
noncomputable def SrcC (prog : Program) (w : World) (A : Around) (h₀ : Heap) (L : Addr) (m : Str → Option Value) (env : Env) (elt : Expr) (x : Str) (scope : Scope) (cl : List (Str × Addr)) (Fin : Shared → List Value → List (Addr × Obj) → Prop) (xv : Value) (s₁ : Shared) : Prop :=
  ∃ r a b c t u v n news, xv = .ref r ∧ A.handled = none ∧ Fr h₀ L s₁.heap m ∧ News h₀ L s₁.heap news ∧ IsRange s₁.heap r a b c t u v ∧ Builtin.Range.small a b c = true ∧ Builtin.Range.rangeSize a b c = ((n : Nat) : Int) ∧ n ≤ sizeLine ∧
    ∀ s₂ : Shared, (∃ h, s₂ = { s₁ with heap := h }) → CompRest prog w A h₀ L m env elt x scope cl s₂ (fun _ => True) (fun i v => ∃ t, v = .int (a + (i : Int) * c) t) (Fin s₂) n 0 [] news
section
open LCg
variable {prog : Program} {w : World} {A : Around} {E : Value → Shared → Prop} {s : Shared} {h₀ : Heap} {L : Addr} {m : Str → Option Value} {env : Env}
theorem ListComp_R {elt iter : Expr} {x : Str} {px : Pos} {scope : Scope} {cl : List (Str × Addr)} {pos : Pos} {Q : Value → Shared → Prop} (_F₀ : Fr h₀ L s.heap m)
    (hclos : closureFor scope env = pure cl) (hcell : ∀ y ∈ scope.names, y.2 ≠ .cell) (hkind : scope.kind = .function)
    (hnames : ∀ y ∈ scope.names, y.2 = .local → scope.names.lookup y.1 = some .local) (hx : scope.names.lookup x = some .local)
    (h : wpAny (model prog w) A (eval iter env) (SrcC prog w A h₀ L m env elt x scope cl (fun s₂ => FinE h₀ L m s₂ Q)) E s)
    (hs : ∀ x, foldedSetIterable iter env x = pure x := by intro _; rfl) :
    wpAny (model prog w) A (eval (.ListComp elt [⟨.Name x px, iter, [], 0⟩] scope pos) env) Q E s := by
  k_with "x19" => skip
  rw [eval_ListComp]
  refine wpAny_comprehension_free (use := none) rfl hs hclos hkind hnames (wpAny_mono h (fun xv s₁ h₁ => ?_) fun _ _ e => e)
  have fin : ∀ (o : Obj) (D C : Addr) (h : Heap) (tk : Nat) (m' : Str → Option Value) (ys : List Value) (news' : List (Addr × Obj)), Fr h₀ L h m → News h₀ L h ((D, lst ys) :: news') → Off1 D news' → h.Ns C m' → h₀.get? C = none → h₀.get? D = none → C ≠ L → D ≠ L → C ≠ D → (∀ p ∈ news', p.1 ≠ C) → FinE h₀ L m { s₁ with heap := s₁.heap.push o } Q ys news' → 
     ∃ m', h.Ns C m' ∧ ∀ h'' : Heap, Heap.SameBut C h h'' → Q (.ref D) { s₁ with heap := h'', toks := tk } := by
    intro o D C h tk m' ys news' F' N' o1 hn hC₀ hD₀ hCL hDL hCD offC fin
    refine ⟨m', hn, fun h'' hs'' => fin D h'' tk (F'.change hs'' hCL hC₀) (fun p hp => ?_) o1⟩
    refine ⟨hs''.extBut _ _ ?_ (N' p hp).1, (N' p hp).2⟩
    rcases List.mem_cons.mp hp with rfl | hp
    · exact Ne.symm hCD
    · exact offC p hp
  obtain ⟨r, a, b, c, t, u, v, n, news, rfl, hh, F, N, hr, hsm, hn, hsz, R⟩ := h₁
  refine wpAny_pyIter_range hr hsm ?_
  refine block_U (Walks.range hh _ a c n) hsz (fun i h st => ⟨_, st⟩) (fun i h h' o nw st e e' _ _ _ => by
    have st' : h.get? s₁.heap.objs.size = _ := st
    rw [e] at st'
    cases st'
    exact e') hcell hkind hx (by show IsRangeIter _ _ _ _ _; rw [hn]; simpa using Heap.get?_push_size _ rfl) (fun b hb => ?_)
    (F.keeps fun _ _ e => Heap.get?_push_of_some _ e) (N.grown fun _ _ e => Heap.get?_push_of_some _ e) (Nat.ne_of_lt F.ns.lt) (next_is_new F) (fun p hp => Nat.ne_of_lt (Heap.lt_size (N p hp).1)) trivial (R _ ⟨_, rfl⟩) (fin _)
  rw [List.mem_singleton.mp hb]
  show s₁.heap.objs.size < (s₁.heap.push _).objs.size
  rw [Heap.size_push]; exact Nat.lt_succ_self _
end
noncomputable def KIel (news : List (Addr × Obj)) (r : Int) (y : Value) (news' : List (Addr × Obj)) : Prop := news' = news ∧ ∃ t, y = .int r t
theorem kiel {news news' : List (Addr × Obj)} {r r' : Int} {t : Tok} (e : r' = r) (hn : news' = news) : KIel news r (.int r' t) news' := ⟨hn, t, by rw [e]⟩
theorem ints_snoc {y : Int} {t : Tok} : ∀ {vs : List Value} {ys : List Int}, IntsAre vs ys → IntsAre (vs ++ [.int y t]) (ys ++ [y])
  | _, _, .nil => .cons y t .nil
  | _, _, .cons z u r => .cons z u (ints_snoc r)
section
variable {prog : Program} {w : World} {A : Around} {h₀ : Heap} {L : Addr} {m : Str → Option Value} {env : Env} {elt : Expr} {x : Str} {scope : Scope} {cl : List (Str × Addr)} {s : Shared} {S : List (Addr × Obj) → Prop} {Fin : List Value → List (Addr × Obj) → Prop} {news : List (Addr × Obj)}
theorem ints_rest {P : Nat → Value → Prop} {n : Nat} (f : Nat → Int)
    (turn : ∀ i v I oI C oC D m₂ ys h tk (E' : Value → Shared → Prop), i < n → P i v → LCg.NsObj oC m₂ → m₂ x = some v → Fr h₀ L h m → News h₀ L h ((I, oI) :: (C, oC) :: (D, LCg.lst ys) :: news) → LCg.Off3 I C D news → ((@Ne Nat I C) ∧ (@Ne Nat I D) ∧ (@Ne Nat C D)) →
      wpAny (model prog w) A (eval elt (compEnvC scope cl C env)) (LCg.CompEnd h₀ L m { s with heap := h, toks := tk } I oI C oC D (LCg.lst ys) S (fun y news' => KIel news (f i) y news')) E' { s with heap := h, toks := tk })
    (fin : ∀ ys, IntsAre ys ((List.range n).map f) → Fin ys news) : LCg.CompRest prog w A h₀ L m env elt x scope cl s S P Fin n 0 [] news := by
  have key : ∀ (j i : Nat) (ys : List Value), i + j = n → IntsAre ys ((List.range i).map f) → LCg.CompRest prog w A h₀ L m env elt x scope cl s S P Fin j i ys news := by
    intro j
    induction j with
    | zero =>
      intro i ys hi hy
      obtain rfl : i = n := by omega
      exact LCg.CompRest.zero (fin ys hy)
    | succ j ih =>
      intro i ys hi hy
      refine LCg.CompRest.succ ?_
      intro v I oI C oC D m₂ h tk E' hv hC hx F N off ne
      refine wpAny_mono (turn i v I oI C oC D m₂ ys h tk E' (by omega) hv hC hx F N off ne) (fun y s₂ hq => ?_) fun _ _ e => e
      obtain ⟨h', tk', nw, e, F', N', off', hS, hn, t', hy'⟩ := hq
      rw [hn] at N' off' hS
      refine ⟨h', tk', news, e, F', N', off', hS, ?_⟩
      rw [hy']
      refine ih (i + 1) _ (by omega) ?_
      rw [List.range_succ, List.map_append]
      exact ints_snoc hy
  exact key n 0 [] (by omega) .nil
end
theorem news_tl {g h : Heap} {L : Addr} {p : Addr × Obj} {led : List (Addr × Obj)} (N : News g L h (p :: led)) : News g L h led := fun q hq => N q (.tail _ hq)
end
section
noncomputable def htW (way : Int) (bs : List Bool) : Nat → Int
  | 0 => 0
  | j + 1 => htW way bs j + way * (1 - 2 * b2i (bs.getD (j % bs.length) false))
noncomputable def minL : List Int → Int
  | [] => 0
  | x :: xs => xs.foldl min x
noncomputable def leastW (st : Nat) (f : Nat → Int) (p : Nat) : Int := minL ((List.range (st + 1)).map fun i => f (p + 2 * i - st))
noncomputable def laterP (way : Int) (bs : List Bool) (st : Nat) : List Bool := (List.range bs.length).map fun i => decide (way * (leastW st (htW way bs) (bs.length + (i + 1)) - leastW st (htW way bs) (bs.length + i)) < 0)
theorem minL_spec {M : Int} {L : List Int} (hm : M ∈ L) (hl : ∀ x ∈ L, M ≤ x) : M = minL L := by
  cases L with
  | nil => cases hm
  | cons x xs =>
    have key : ∀ (xs : List Int) (x : Int), xs.foldl min x ≤ x ∧ (∀ y ∈ xs, xs.foldl min x ≤ y) ∧ (xs.foldl min x = x ∨ xs.foldl min x ∈ xs) := by
      intro xs
      induction xs with
      | nil => intro x; simp
      | cons y ys ih =>
        intro x
        obtain ⟨a, b, c⟩ := ih (min x y)
        rw [List.foldl_cons]
        refine ⟨by omega, fun z hz => ?_, ?_⟩
        · rcases List.mem_cons.mp hz with rfl | hz
          · omega
          · exact b z hz
        · rcases c with c | c
          · rw [c]
            by_cases h : x ≤ y
            · exact .inl (by omega)
            · exact .inr (by rw [show min x y = y by omega]; exact List.Mem.head _)
          · exact .inr (.tail _ c)
    obtain ⟨a, b, c⟩ := key xs x
    show M = xs.foldl min x
    have h1 : M ≤ xs.foldl min x := by
      rcases c with c | c
      · rw [c]; exact hl _ (List.Mem.head _)
      · exact hl _ (.tail _ c)
    have h2 : xs.foldl min x ≤ M := by
      rcases List.mem_cons.mp hm with rfl | hm
      · exact a
      · exact b _ hm
    omega
theorem lw_eq {way : Int} {bs : List Bool} {n st i : Nat} {k : Int} {H : List Int} (hH : H = List.map (htW way bs) (List.range (3 * n + 1))) (hk : k = (n : Int) + (i : Int) * 1) (hi : i < n + 1) (hn : 6 ≤ n) (hst : st ≤ 3) :
    minL ((List.range (st + 1)).map fun (j : Nat) => H.getD (k + (-(st : Int) + (j : Int) * 2)).toNat 0) = leastW st (htW way bs) (n + i) := by
  subst hH
  unfold leastW
  congr 1
  refine List.map_congr_left fun j hj => ?_
  have hj' := List.mem_range.mp hj
  have e1 : (k + (-(st : Int) + (j : Int) * 2)).toNat = n + i + 2 * j - st := by omega
  rw [e1]
  have h2 : n + i + 2 * j - st < 3 * n + 1 := by omega
  simp [List.getD_eq_getElem?_getD, h2]
theorem later_eq {way : Int} {bs : List Bool} {n st : Nat} {Ls : List Int} (hL : Ls = (List.range (n + 1)).map fun j => leastW st (htW way bs) (n + j)) (hb : bs.length = n) :
    ((List.range n).map fun (i : Nat) => if way * (Ls.getD (0 + (i : Int) * 1 + 1).toNat 0 - Ls.getD (0 + (i : Int) * 1).toNat 0) < 0 then (1 : Int) else 0) = (laterP way bs st).map b2i := by
  subst hL
  unfold laterP
  rw [hb, List.map_map]
  refine List.map_congr_left fun i hi => ?_
  have hi' := List.mem_range.mp hi
  have e1 : (0 + (i : Int) * 1 + 1).toNat = i + 1 := by omega
  have e2 : (0 + (i : Int) * 1).toNat = i := by omega
  rw [e1, e2]
  have g : ∀ j, j < n + 1 → ((List.range (n + 1)).map fun j => leastW st (htW way bs) (n + j)).getD j 0 = leastW st (htW way bs) (n + j) := fun j hj => by
    simp [List.getD_eq_getElem?_getD, hj]
  rw [g _ (by omega), g _ (by omega)]
  simp only [Function.comp]
  by_cases h : way * (leastW st (htW way bs) (n + (i + 1)) - leastW st (htW way bs) (n + i)) < 0
  · rw [if_pos h, decide_eq_true h]; rfl
  · rw [if_neg h, decide_eq_false h]; rfl
section
theorem minV {prog : Program} {w : World} {A : Around} {E : Value → Shared → Prop} {s : Shared} {h₀ : Heap} {L : Addr} {m : Str → Option Value} {news : List (Addr × Obj)} {l : Addr} {vs : List Value} {ns : List Int} {e : Nat} {Q : Value → Shared → Prop} (hh : A.handled = none) (F : Fr h₀ L s.heap m) (N : News h₀ L s.heap news) (hl : (l, lstO vs e) ∈ news) (hi : IntsAre vs ns) (hne : 0 < ns.length)
    (h : ∀ h' (t : Tok) tk, Fr h₀ L h' m → News h₀ L h' news → Q (.int (minL ns) t) { s with heap := h', toks := tk }) : wpAny (model prog w) A (call (.builtin "min") [.ref l]) Q E s :=
  min_list_N hh F N ⟨_, (N _ hl).1, rfl, _, rfl⟩ hi hne fun h' M t tk F' N' a b => by rw [minL_spec a b]; exact h h' t tk F' N'
end
theorem getD_b2i (bs : List Bool) (j : Nat) (h : j < bs.length) : (List.map b2i bs).getD j 0 = b2i (bs.getD j false) := by
  simp [List.getD_eq_getElem?_getD, h]
theorem fmod_nat {k : Int} {i m : Nat} (hk : k = (i : Int)) : (k.fmod (m : Int)).toNat = i % m := by
  subst hk
  rw [Int.fmod_eq_emod_of_nonneg _ (by omega)]
  omega
theorem ht_step {way : Int} {bs : List Bool} {i m : Nat} {k : Int} {H Bl : List Int} (hH : H = List.map (htW way bs) (List.range (i + 1))) (hB : Bl = List.map b2i bs) (hk : k = 0 + (i : Int) * 1) (hm : m = bs.length) (h0 : 0 < m) :
    H.getD k.toNat 0 + way * (1 - 2 * Bl.getD (k.fmod m).toNat 0) = htW way bs (i + 1) := by
  subst hH
  subst hB
  have hk' : k = (i : Int) := by omega
  have e1 : k.toNat = i := by omega
  rw [fmod_nat hk', e1, hm, getD_b2i _ _ (Nat.mod_lt _ (by omega)), htW]
  simp [List.getD_eq_getElem?_getD]
theorem small_r {a b c : Int} {n : Nat} (hc : c = 1) (ha : -1000 ≤ a ∧ a ≤ 1000) (hb : -1000 ≤ b ∧ b ≤ 1000) (hab : a ≤ b) (hn : b - a = n) : Builtin.Range.small a b c = true ∧ Builtin.Range.rangeSize a b c = (n : Int) := by
  subst hc
  have h1 : Builtin.Range.rangeSize a b 1 = (n : Int) := by
    unfold Builtin.Range.rangeSize
    split
    · split
      · simp; omega
      · omega
    · omega
  refine ⟨?_, h1⟩
  have f : ∀ x : Int, -2000 ≤ x → x ≤ 4000 → Builtin.Range.rangeFitsLong x = true := fun x h0 h1 => by
    unfold Builtin.Range.rangeFitsLong
    simp only [Bool.and_eq_true, decide_eq_true_eq]
    omega
  unfold Builtin.Range.small
  rw [h1, f a (by omega) (by omega), f b (by omega) (by omega), f 1 (by omega) (by omega), f n (by omega) (by omega), if_pos (by omega), f _ (by omega) (by omega)]
  simp
theorem st_rng {st : Nat} (h : st = 2 ∨ st = 3) : Builtin.Range.small (-(st : Int)) ((st : Int) + 1) 2 = true ∧ Builtin.Range.rangeSize (-(st : Int)) ((st : Int) + 1) 2 = ((st + 1 : Nat) : Int) := by
  rcases h with h | h <;> subst h <;> decide
theorem way_ok {way x : Int} (h : way = 1 ∨ way = -1) : IntMulOk way x := by
  rcases h with h | h <;> subst h <;> exact IntMulOk.of_left (by decide)
inductive JH (LED : List Value → Nat → Obj → List (Addr × Obj)) (iz : Nat → List Int) (i : Nat) (led : List (Addr × Obj)) : Prop
  | mk (hs : List Value) (eh : Nat) (op : Obj) (v : Option Value) (e : led = LED hs eh op) (d : op.data = .cell v) (hi : IntsAre hs (iz i)) : JH LED iz i led
section
namespace Z_later_H_K
noncomputable def zP (w : World) (loose : List Str) (mean : ExcName → Option Value) (mg : Str → Option Value) (mb : Str → Option Value) (bl : Addr) (ys : List Value) (e : Nat) (bs : List Bool) (n : Nat) (st : Nat) (way : Int) (t0 : Tok) (t1 : Tok) (dp : Nat) (un : Nat) (gd : Option (List Code)) (outer : List Env) (base : Heap) (g : Heap) (L' : Addr) (s : Shared) (E : Value → Shared → Prop) : Prop := ∀ (hys : IntsAre ys (bs.map b2i)) (hb : bs.length = n) (hn : 6 ≤ n ∧ n ≤ 9) (hst : st = 2 ∨ st = 3) (hw : way = 1 ∨ way = -1), ∀ cells : List (Addr × Obj), WalkC w loose mean mg mb 40 158 [("bits", .ref bl), ("steps", .int (st : Int) t0), ("way", .int way t1)] [(bl, lstO ys e)] (fun _ => True) (fun v now => ∃ D zs e', v = .ref D ∧ IntsAre zs ((laterP way bs st).map b2i) ∧ now = [(D, lstO zs e'), (bl, lstO ys e)]) dp un gd outer base g L' s E cells
noncomputable def zk : DD := pickD fun c => zP (c.fW 0) (c.fLs 0) (c.fMe 0) (c.fMp 0) (c.fMp 1) (c.fA 0) (c.fLv 0) (c.fN 0) (c.fLb 0) (c.fN 1) (c.fN 2) (c.fI 0) (c.fT 0) (c.fT 1) (c.fN 3) (c.fN 4) (c.fGd 0) (c.fEn 0) (c.fH 0) (c.fH 1) (c.fA 1) (c.fSh 0) (c.fE 0)
noncomputable section
@[irreducible] def w : World := zk.fW 0
@[irreducible] def loose : List Str := zk.fLs 0
@[irreducible] def mean : ExcName → Option Value := zk.fMe 0
@[irreducible] def mg : Str → Option Value := zk.fMp 0
@[irreducible] def mb : Str → Option Value := zk.fMp 1
@[irreducible] def bl : Addr := zk.fA 0
@[irreducible] def ys : List Value := zk.fLv 0
@[irreducible] def e : Nat := zk.fN 0
@[irreducible] def bs : List Bool := zk.fLb 0
@[irreducible] def n : Nat := zk.fN 1
@[irreducible] def st : Nat := zk.fN 2
@[irreducible] def way : Int := zk.fI 0
@[irreducible] def t0 : Tok := zk.fT 0
@[irreducible] def t1 : Tok := zk.fT 1
@[irreducible] def dp : Nat := zk.fN 3
@[irreducible] def un : Nat := zk.fN 4
@[irreducible] def gd : Option (List Code) := zk.fGd 0
@[irreducible] def outer : List Env := zk.fEn 0
@[irreducible] def base : Heap := zk.fH 0
@[irreducible] def g : Heap := zk.fH 1
@[irreducible] def L' : Addr := zk.fA 1
@[irreducible] def s : Shared := zk.fSh 0
@[irreducible] def E : Value → Shared → Prop := zk.fE 0
end
theorem zcore : zP w loose mean mg mb bl ys e bs n st way t0 t1 dp un gd outer base g L' s E := by
  k_with "exec For Name Call cons nil" => ((fail_if_success k_extra "x20"); k_here; k_dflt (refine wpAny_For ?_))
  k_with "mine iter" => ((fail_if_success k_extra "x20"); k_here; k_dflt ((show wpAny _ _ _ (fun it s₂ => codeAny _ _ (.forLoop _ _ _ _ _) _ _) _ _); refine hold_of ?_))
  k_with "call builtin:len" => ((fail_if_success k_extra "x20"); k_here; k_dflt (refine' lenV (by assumption) (by k_mem) (by k_extra "mine len") ?_); intro _)
  k_with "eval ListComp" => ((fail_if_success k_extra "x20"); k_here; k_dflt (refine ListComp_R (by k_asm) (by with_unfolding_all rfl) (by decide) (by rfl) (by decide) (by rfl) ?_))
  k_with "SrcC" => ((fail_if_success k_extra "x20"); k_here; k_dflt (refine hold_of ?_))
  k_with "binaryOp Mult int int" => ((fail_if_success k_extra "x20"); k_here; k_dflt (refine' mul_int ?_ (way_ok (by assumption))))
  k_with "call builtin:min" => ((fail_if_success k_extra "x20"); k_here; k_dflt (refine' minV (by exact rfl) (by assumption) (by assumption) (by k_mem) (by assumption) (by (simp only [List.length_map, List.length_range]; omega)) ?_); intro _ _ _ _ _)
  k_with "mine fmods" => ((fail_if_success k_extra "x20"); skip)
  unfold zP
  intro hys hb hn hst hw
  intro cells
  have _ : PySem.Challenge.rw_wo0016_01 = PySem.Challenge.rw_wo0016_01 ∧ Mine.hd.heap_1 = Mine.hd.heap_1 := by k_fill; exact ⟨rfl, rfl⟩
  refine' walkC_of ?k6 ?_; (case k6 => k_is)
  intro B F N Y X T hp hlt hd hu
  have uT : UseT1 := trivial
  have hyn : ys.length = n := by rw [hys.length, List.length_map, hb]
  have hbl : @LT.lt Nat _ bl L' := hlt _ (List.Mem.head _)
  have hlm : (List.map b2i bs).length = n := by rw [List.length_map, hb]
  have hst3 : st ≤ 3 := by omega
  generalize hBl : List.map b2i bs = Bl at *
  k_cells Y
  (try simp only [List.cons_append, List.nil_append] at N)
  k_steps
  unfold Hold
  rename Fr _ _ _ _ => FF
  rename News _ _ _ _ => NN
  rename IsRange _ _ _ _ _ _ _ _ => RR
  (try simp only [List.cons_append, List.nil_append] at NN)
  refine' for_rangeM (n := 3 * n) (J := fun i led => JH (fun hs eh op => [(_, lstO hs eh), (L' + 1 + 1 + 1 + 1, _), (L' + 1 + 1 + 1, op), (L' + 1 + 1, _), (L' + 1, _), (bl, lstO ys e)]) (fun i => (List.range (i + 1)).map (htW way bs)) i led) rfl FF NN RR ?sm ?sz ⟨_, _, _, _, rfl, by assumption, .cons 0 _ .nil⟩ ?_ ?_
  case sm => exact (small_r (n := 3 * n) rfl (by omega) (by omega) (by omega) (by omega)).1
  case sz => exact (small_r (n := 3 * n) rfl (by omega) (by omega) (by omega) (by omega)).2
  · rintro It i k t io led h tk' hI hI' hi hk hio ⟨hs, eh, op, v, rfl, hop, hhs⟩ F' N'
    have hil : hs.length = i + 1 := by rw [hhs.length, List.length_map, List.length_range]
    have hHl : (List.map (htW way bs) (List.range (i + 1))).length = i + 1 := by rw [List.length_map, List.length_range]
    generalize hH : List.map (htW way bs) (List.range (i + 1)) = H at *
    unfold TurnT
    clear FF NN RR
    k_lt hI
    k_steps
    rename Fr g _ _ _ => F4
    rename News _ _ _ _ => N4
    rw [List.push_toArray] at N4
    have ez := ht_step (way := way) (bs := bs) (m := ys.length) hH.symm hBl.symm hk (by omega) (by omega)
    rw [ez] at N4
    refine endT F4 N4 hio (fun p hp => nomatch hp) (by k_extra "mine ne") ⟨rfl, _, _, _, _, rfl, by assumption, ?_⟩
    rw [List.range_succ, List.map_append, hH]
    exact hhs.append (.cons _ _ .nil)
  · rintro led h tk' ⟨hs, eh, op, v, rfl, hop, hhs⟩ F' N'
    have hil : hs.length = 3 * n + 1 := by rw [hhs.length, List.length_map, List.length_range]
    have hHl : (List.map (htW way bs) (List.range (3 * n + 1))).length = 3 * n + 1 := by rw [List.length_map, List.length_range]
    generalize hH : List.map (htW way bs) (List.range (3 * n + 1)) = H at *
    clear FF NN RR
    k_steps
    unfold Hold
    rename Fr _ _ _ _ => FF
    rename News _ _ _ _ => NN
    rename IsRange _ _ _ _ _ _ _ _ => RR
    refine' for_rangeM (n := n + 1) (J := fun i led => JH (fun ls el op => [(_, lstO ls el), (_, lstO hs eh), (L' + 1 + 1 + 1 + 1, _), (L' + 1 + 1 + 1, op), (L' + 1 + 1, _), (L' + 1, _), (bl, lstO ys e)]) (fun i => (List.range i).map fun j => leastW st (htW way bs) (n + j)) i led) rfl FF NN RR ?sm ?sz ⟨[], 0, _, _, rfl, by assumption, .nil⟩ ?_ ?_
    case sm => exact (small_r (n := n + 1) rfl (by omega) (by omega) (by omega) (by omega)).1
    case sz => exact (small_r (n := n + 1) rfl (by omega) (by omega) (by omega) (by omega)).2
    · rintro It i k t io led h tk' hI hI' hi hk hio ⟨ls, el, op, v, rfl, hop, hls⟩ F' N'
      have hll : ls.length = i := by rw [hls.length, List.length_map, List.length_range]
      unfold TurnT
      clear FF NN RR
      k_lt hI
      k_steps
      unfold Hold
      rename IsRange _ _ _ _ _ _ _ _ => R2
      refine ⟨_, _, _, _, _, _, _, st + 1, _, rfl, rfl, by k_asm, by k_asm, R2, (st_rng hst).1, (st_rng hst).2, by rw [PySem.sizeLine_eq]; omega, ?_⟩
      rintro s8 ⟨g8, e8⟩
      subst e8
      refine ints_rest (fun i => H.getD (k + (-(st : Int) + i * 2)).toNat 0) (fun i v I oI C oC D m₂ zs h tk E' hi hv hC hx F N off ne => ?_) (fun zs hzs => ?_)
      · obtain ⟨t9, rfl⟩ := hv
        (try simp only [LCg.Off3, and_true] at off); (repeat (obtain ⟨⟨_, _, _⟩, off⟩ := off)); (try obtain ⟨_, _, _⟩ := off)
        k_steps
        exact kiel rfl rfl
      · k_steps
        rename Fr g _ _ _ => F4
        rename News _ _ _ _ => N4
        rw [List.push_toArray, lw_eq hH.symm (by omega) hi hn.1 hst3] at N4
        refine endT F4 (news_tl N4) hio (fun p hp => nomatch hp) (by k_extra "mine ne") ⟨rfl, _, _, _, _, rfl, by assumption, ?_⟩
        rw [List.range_succ, List.map_append]
        exact hls.append (.cons _ _ .nil)
    · rintro led h tk' ⟨ls, el, op, v, rfl, hop, hls⟩ F' N'
      have hll : ls.length = n + 1 := by rw [hls.length, List.length_map, List.length_range]
      have hLl : ((List.range (n + 1)).map fun j => leastW st (htW way bs) (n + j)).length = n + 1 := by rw [List.length_map, List.length_range]
      generalize hLs : ((List.range (n + 1)).map fun j => leastW st (htW way bs) (n + j)) = Ls at *
      clear FF NN RR
      k_steps
      unfold Hold
      rename IsRange _ _ _ _ _ _ _ _ => R2
      refine ⟨_, _, _, _, _, _, _, n, _, rfl, rfl, by k_asm, by k_asm, R2, (small_r (n := n) rfl (by omega) (by omega) (by omega) (by omega)).1, (small_r (n := n) rfl (by omega) (by omega) (by omega) (by omega)).2, by rw [PySem.sizeLine_eq]; omega, ?_⟩
      rintro s8 ⟨g8, e8⟩
      subst e8
      refine ints_rest (fun i => if way * (Ls.getD (0 + (i : Int) * 1 + 1).toNat 0 - Ls.getD (0 + (i : Int) * 1).toNat 0) < 0 then 1 else 0) (fun i v I oI C oC D m₂ zs h tk E' hi hv hC hx F N off ne => ?_) (fun zs hzs => ?_)
      · obtain ⟨t9, rfl⟩ := hv
        (try simp only [LCg.Off3, and_true] at off); (repeat (obtain ⟨⟨_, _, _⟩, off⟩ := off)); (try obtain ⟨_, _, _⟩ := off)
        k_steps
        all_goals first | exact kiel (if_pos (by assumption)).symm rfl | exact kiel (if_neg (by assumption)).symm rfl
      · k_steps
        rename Fr g _ _ _ => F4
        rename News _ _ _ _ => N4
        refine leaveH (now := [(_, LCg.lst zs), (bl, lstO ys e)]) F4 (news_sub N4 (by k_extra "mine sub")) ⟨_, zs, _, rfl, ?_, rfl⟩
        rw [← later_eq hLs.symm hb]
        exact hzs
theorem zall : ∀ c : DD, zP (c.fW 0) (c.fLs 0) (c.fMe 0) (c.fMp 0) (c.fMp 1) (c.fA 0) (c.fLv 0) (c.fN 0) (c.fLb 0) (c.fN 1) (c.fN 2) (c.fI 0) (c.fT 0) (c.fT 1) (c.fN 3) (c.fN 4) (c.fGd 0) (c.fEn 0) (c.fH 0) (c.fH 1) (c.fA 1) (c.fSh 0) (c.fE 0) := allD (by with_unfolding_all exact zcore)
end Z_later_H_K
theorem later_H_K (w : World) (loose : List Str) (mean : ExcName → Option Value) (mg mb : Str → Option Value) (bl : Addr) (ys : List Value) (e : Nat) (bs : List Bool) (n st : Nat) (way : Int) (t0 t1 : Tok) (hys : IntsAre ys (bs.map b2i)) (hb : bs.length = n) (hn : 6 ≤ n ∧ n ≤ 9) (hst : st = 2 ∨ st = 3) (hw : way = 1 ∨ way = -1) (dp un : Nat) (gd : Option (List Code)) (outer : List Env) (base g : Heap) (L' : Addr) (s : Shared) (E : Value → Shared → Prop) : ∀ cells : List (Addr × Obj), WalkC w loose mean mg mb 40 158 [("bits", .ref bl), ("steps", .int (st : Int) t0), ("way", .int way t1)] [(bl, lstO ys e)] (fun _ => True) (fun v now => ∃ D zs e', v = .ref D ∧ IntsAre zs ((laterP way bs st).map b2i) ∧ now = [(D, lstO zs e'), (bl, lstO ys e)]) dp un gd outer base g L' s E cells := by
  exact Z_later_H_K.zall ⟨fun _ => w, fun _ => loose, fun _ => mean, fun i => [mg, mb].getD i mg, fun i => [bl, L'].getD i bl, fun i => [e, n, st, dp, un].getD i e, fun _ => way, fun i => [t0, t1].getD i t0, anyD.fV, anyD.fS, anyD.fO, fun i => [base, g].getD i base, fun _ => s, fun _ => ys, anyD.fLi, anyD.fLn, fun _ => bs, anyD.fLed, anyD.fQ, fun _ => E, anyD.fB, anyD.fIt, anyD.fAv, anyD.fB3, fun _ => gd, fun _ => outer, anyD.fAr, anyD.fOv, anyD.fOp, anyD.fLa, anyD.fEnv, anyD.fSs, anyD.fSt, anyD.fSc, anyD.fP, anyD.fEx, anyD.fR, anyD.fPo, anyD.fCl, anyD.fY, anyD.fRR, anyD.fBB, anyD.fNl, anyD.fOa, anyD.fFd, anyD.fAo, anyD.fDe, anyD.fIv⟩ hys hb hn hst hw

theorem later_H (w : World) (loose : List Str) (mean : ExcName → Option Value) (mg mb : Str → Option Value) (bl : Addr) (ys : List Value) (e : Nat) (bs : List Bool) (n st : Nat) (way : Int) (t0 t1 : Tok) (hys : IntsAre ys (bs.map b2i)) (hb : bs.length = n) (hn : 6 ≤ n ∧ n ≤ 9) (hst : st = 2 ∨ st = 3) (hw : way = 1 ∨ way = -1) :
   HC w loose mean mg mb 40 158 [.ref bl, .int (st : Int) t0, .int way t1] [(bl, lstO ys e)] (fun _ => True)
    (fun v now => ∃ D zs e', v = .ref D ∧ IntsAre zs ((laterP way bs st).map b2i) ∧ now = [(D, lstO zs e'), (bl, lstO ys e)]) := by
  unfold HC; k_fill
  refine' enterC (pre' := fun _ => True) (binds := [("bits", .ref bl), ("steps", .int (st : Int) t0), ("way", .int way t1)]) ?k6 ?k7 ?k9 ?kB ?kD ?kP ?kW ?c2 ?c3 ?c4 ?c6
  (case k6 => k_is); (case k7 => k_is); (case k9 => exact fun _ => BindsTo.of_eq rfl); (case kB => exact rfl); (case kD => decide +kernel); (case c2 => exact rfl); (case c3 => exact rfl); (case c4 => exact rfl); (case c6 => decide); (case kP => exact fun _ _ h _ => h)
  exact fun dp un gd outer base g L' s E cells => bodyC_of (by k_is) (later_H_K w loose mean mg mb bl ys e bs n st way t0 t1 hys hb hn hst hw dp un gd outer base g L' s E cells)

end
end
section
noncomputable def d_of {q : Program} {loose : List Str} {XP : (Str → Option Value) → Heap → Prop} {YP : World → Heap → Prop} {r : RowW} {d : DefRec} {kwd : List (Str × Expr)} {run : Value → List Value → Sem Value} {P : Prop} (_ : WalkO q loose XP YP r d kwd run → P) : DefRec := d
noncomputable def lawD : DefRec := d_of hd
noncomputable def LawEnd (g : Heap) (s : Shared) (v : Value) (s' : Shared) : Prop :=
  v = .bool true ∧ (∀ b o, g.get? b = some o → s'.heap.get? b = some o) ∧ s'.os = s.os ∧ (AllBare s.gens → AllBare s'.gens) ∧ GrownAt 100 s'.heap
noncomputable def LawBody (w : World) (body : List Stmt) (name : Str) (scope : Scope) : Prop :=
  ∀ (loose : List Str) (mean : ExcName → Option Value) (mg mb : Str → Option Value) (cd : Value) (fa : Addr) (g : Heap) (L : Addr) (s : Shared) (W : Addr) (ws : List Value) (ns : List Int) (cells : List (Addr × Obj)) (E : Value → Shared → Prop),
    Below callerA g [] g → (Mine.hd.heap_1 w.params).In g → Top topProg loose mean mg mb g → CodeHd g 104 100 → g.IsList W ws.toArray → IntsAre ws ns → ns.length ≤ 63 → (PyData.list (ns.map PyData.int)).layable0 = true → @LT.lt Nat _ 100 L →
    Fr g L s.heap (bindL (envOfC name scope L fa cd).kindOf [(Str.ofString "script", .ref W)] fun _ => none) → News g L s.heap (cells ++ [(100, tabObj #[])]) →
    CellsAre (bindC (envOfC name scope L fa cd).kindOf [(Str.ofString "script", .ref W)] fun _ => none) (cellsFrom (L + 1) scope.names []) cells →
    wpAny (model PySem.Challenge.rw_wo0016_01.prog w) (callerA.deeper (envOfC name scope L fa cd)) (execs body (envOfC name scope L fa cd))
      (fun f s' => LawEnd g s (match f with | .ret v => v | _ => .none) s')
      (fun e s' => wpAny (model PySem.Challenge.rw_wo0016_01.prog w) (callerA.deeper (envOfC name scope L fa cd)) (leaving (envOfC name scope L fa cd) e) (fun _ s'' => E e s'') (fun e' s'' => E e' s'') s') s
theorem kn_postG {M : Model} {A : Around} {cd : Code} {s s₁ : Shared} {cw : ClaimW} {cl : Str → Option Addr} {mean : ExcName → Option Value} {args : List WData} {tabs : List (Addr × Addr)} (hT : TabsAt tabs s₁.heap) (hr : ∀ a x, cw.raises a x = false)
    (hp : cw.post args (.bool true) args = true)
    (h : codeAny M A cd (fun r s' => r = .ok (.ret (.bool true)) ∧ (∀ b o, (ghostOf s₁.heap tabs).get? b = some o → s'.heap.get? b = some o) ∧ s'.os = s₁.os ∧ AllBare s'.gens ∧ GrownAll tabs s'.heap) s) : codeAny M A cd (GoodWG cw cl mean args s₁) s :=
  codeAny_mono h fun r s' ⟨hc, hk, hos, hg, hgr⟩ => by
    have keep : ∀ b o, b ∉ tabs.map (·.2) → s₁.heap.get? b = some o → s'.heap.get? b = some o := fun b o hb e => hk b o (ghost_ne e hb)
    have grown : ∀ b o, b ∈ tabs.map (·.2) → s₁.heap.get? b = some o → isCodeTable s₁.heap b ∧ o = tabObj #[] ∧ ∃ ps, s'.heap.get? b = some (tabObj ps) := fun b o hb e => by
      obtain ⟨q, hq, rfl⟩ := List.mem_map.mp hb
      have e2 := (hT q hq).2
      rw [e] at e2
      exact ⟨((hT q hq).1.tab (hT q hq).2).isCodeTable, Option.some.inj e2, hgr.get q hq⟩
    refine ⟨.inl ⟨.bool true, _, [], hc, fun x => hr _ x, .bool true, hp, unshared_nil⟩, ⟨fun b o e => ?_, fun b o e => ?_⟩, hos, hg⟩
    · by_cases hb : b ∈ tabs.map (·.2)
      · obtain ⟨ht, rfl, ps, hP⟩ := grown b o hb e
        exact .inr (.inl ⟨ht, rfl, #[], ps, rfl, by rw [Array.empty_append]; exact hP⟩)
      · exact .inl (keep b o hb e)
    · by_cases hb : b ∈ tabs.map (·.2)
      · obtain ⟨_, _, ps, hP⟩ := grown b o hb e
        exact ⟨_, hP⟩
      · exact ⟨o, keep b o hb e⟩
theorem law_of (h : ∀ w, LawBody w lawD.body lawD.name lawD.scope) : PySem.Challenge.rw_wo0016_01.Holds := hd (by
  k_with "x20" => skip
  k_fill
  intro w s₀ s₁ mg mb G Y fa o pm cd doc dV kV ho hd hcd hD hmg hg args vals as hpre hlay hrd hwl hlo
  have KX := km_in_of Y
  km_tabs Y
  have X := (Ground.X G).1
  have V := (Ground.X G).2
  refine Ground.open G ?_
  intro T B D TE TW
  try (refine guard_noD D (by decide +kernel) ?_; clear D)
  km_lay T hmg ho hd cd
  clear hmg
  wrow_args hpre hlay hrd hwl hlo
  refine enter_call ?_
  refine kn_postG hT9 (fun _ _ => rfl) ?hp ?_
  case hp => first | exact postW_of (X := true) (by rfl) (by rfl) rfl | wrow_post
  (have he := Dflts.none hD rfl; subst he; have he := Dflts.noKw hD; subst he)
  refine' call_cellsN (binds := [(Str.ofString "script", .ref _)]) (by decide) ho (fd_plain hd) (Top.nolimit T) hcd ?k1 (kinds_of ?k2) ?k3 fun h₁ tk₁ cells F N0 X0 => ?_
  case k1 => exact rfl
  case k2 => kinds_ok
  case k3 => decide
  have l0 := ghost_lt hT9 F
  have C' := ghost_code hT9
  have X' := ghost_K hT9 KX (by kernel_rfl)
  have T' := ghost_top hT9 T
  have K' := ghost_below hT9
  have N' := ghost_news hT9 F N0
  have F' := ghost_fr hT9 F
  have hlen : ∀ {ns : List Int}, ¬ ((63 : Int) < (ns.length : Int)) → ns.length ≤ 63 := fun h => by omega
  refine wpAny_mono (h w _ _ mg mb cd fa _ _ _ _ _ _ cells (fun _ _ => False) K' X' T' C'.1 (ghost_list hT9 (by assumption)) (by assumption) (hlen (by assumption)) (by assumption) (l0 _ (List.Mem.head _)) F' N' X0) (fun f s' he => ?_) (fun e s' he => ?_)
  · obtain ⟨hv, hk, hos, hb, hg'⟩ := he
    exact ⟨congrArg (fun v => (Except.ok (Flow.ret v) : Result)) hv, hk, hos, hb (hg ▸ AllBare.empty), hg', trivial⟩
  · exact wpAny_mono he (fun _ _ q => q.elim) (fun _ _ q => q.elim))
end
section
theorem unhold {P : Prop} (h : P) : Hold P := h
noncomputable def zipF (f : Nat → Obj) : Nat → List (Str × Addr) → List (Addr × Obj)
  | _, [] => []
  | k, p :: r => (p.2, f k) :: zipF f (k + 1) r
noncomputable def DatF (cm : Str → Option Value) (f : Nat → Obj) : Nat → List (Str × Addr) → Prop
  | _, [] => True
  | k, p :: r => (f k).data = .cell (cm p.1) ∧ DatF cm f (k + 1) r
theorem zipF_eq {f f' : Nat → Obj} : ∀ (l : List (Str × Addr)) (k : Nat), (∀ i, k ≤ i → f i = f' i) → zipF f k l = zipF f' k l
  | [], _, _ => rfl
  | p :: r, k, h => by rw [zipF, zipF, h k (Nat.le_refl k), zipF_eq r (k + 1) fun i hi => h i (Nat.le_of_succ_le hi)]
theorem datF_eq {cm : Str → Option Value} {f f' : Nat → Obj} : ∀ (l : List (Str × Addr)) (k : Nat), (∀ i, k ≤ i → f i = f' i) → DatF cm f' k l → DatF cm f k l
  | [], _, _, _ => trivial
  | p :: r, k, h, d => ⟨by rw [h k (Nat.le_refl k)]; exact d.1, datF_eq r (k + 1) (fun i hi => h i (Nat.le_of_succ_le hi)) d.2⟩
theorem cells_fn {cm : Str → Option Value} {l : List (Str × Addr)} {cells : List (Addr × Obj)} (x : CellsAre cm l cells) : ∀ k, ∃ f : Nat → Obj, cells = zipF f k l ∧ DatF cm f k l := by
  induction x with
  | nil => exact fun k => ⟨fun _ => default, rfl, trivial⟩
  | @cons n c o cs cells h _ ih =>
    intro k
    obtain ⟨f, e, d⟩ := ih (k + 1)
    have g : ∀ i, k + 1 ≤ i → (fun i => if i = k then o else f i) i = f i := fun i hi => if_neg (Nat.ne_of_gt hi)
    exact ⟨fun i => if i = k then o else f i, by rw [zipF, zipF_eq cs (k + 1) g, if_pos rfl, e], by simp only [if_true]; exact h, datF_eq cs (k + 1) g d⟩
section
variable {M : Model} {A : Around} {E : Value → Shared → Prop} {s : Shared} {env : Env}
theorem step1 {st : Stmt} {rest : List Stmt} {Q : Flow → Shared → Prop} (h : wpAny M A (exec st env) (fun f s' => match f with | .next => Hold (wpAny M A (execs rest env) Q E s') | f => Q f s') E s) : wpAny M A (execs (st :: rest) env) Q E s := by
  rw [execs_cons]
  refine wpAny_bind (wpAny_mono h (fun f s' h' => ?_) fun _ _ x => x)
  cases f with
  | next => exact h'
  | cont => exact wpAny_pure h'
  | brk => exact wpAny_pure h'
  | ret v => exact wpAny_pure h'
end
noncomputable def LawS (w : World) (g : Heap) (L fa : Addr) (cd : Value) (s₀ : Shared) (E : Value → Shared → Prop) (k : Nat) (s : Shared) : Prop :=
  wpAny (model PySem.Challenge.rw_wo0016_01.prog w) (callerA.deeper (envOfC lawD.name lawD.scope L fa cd)) (execs (lawD.body.drop k) (envOfC lawD.name lawD.scope L fa cd)) (fun f s' => LawEnd g s₀ (match f with | .ret v => v | _ => .none) s') E s
structure LawG (w : World) (loose : List Str) (mean : ExcName → Option Value) (mg mb : Str → Option Value) (g : Heap) (L : Addr) (s₀ s : Shared) : Prop where
  B : Below callerA g [] g
  X : (Mine.hd.heap_1 w.params).In g
  T : Top topProg loose mean mg mb g
  h100 : @LT.lt Nat _ 100 L
  os : s.os = s₀.os
  ba : AllBare s₀.gens → AllBare s.gens
noncomputable abbrev CL (L : Addr) (o1 o2 o3 o4 o5 o6 o7 o8 o9 o10 o11 o12 o13 o14 : Obj) : List (Addr × Obj) :=
  [(L + 1 + 1 + 1 + 1 + 1 + 1 + 1 + 1 + 1 + 1 + 1 + 1 + 1 + 1, o14), (L + 1 + 1 + 1 + 1 + 1 + 1 + 1 + 1 + 1 + 1 + 1 + 1 + 1, o13), (L + 1 + 1 + 1 + 1 + 1 + 1 + 1 + 1 + 1 + 1 + 1 + 1, o12), (L + 1 + 1 + 1 + 1 + 1 + 1 + 1 + 1 + 1 + 1 + 1, o11),
   (L + 1 + 1 + 1 + 1 + 1 + 1 + 1 + 1 + 1 + 1, o10), (L + 1 + 1 + 1 + 1 + 1 + 1 + 1 + 1 + 1, o9), (L + 1 + 1 + 1 + 1 + 1 + 1 + 1 + 1, o8), (L + 1 + 1 + 1 + 1 + 1 + 1 + 1, o7), (L + 1 + 1 + 1 + 1 + 1 + 1, o6), (L + 1 + 1 + 1 + 1 + 1, o5),
   (L + 1 + 1 + 1 + 1, o4), (L + 1 + 1 + 1, o3), (L + 1 + 1, o2), (L + 1, o1)]
noncomputable def IsC (o : Obj) (v : Option Value) : Prop := o.data = .cell v
theorem law_start {w : World} (h : ∀ (loose : List Str) (mean : ExcName → Option Value) (mg mb : Str → Option Value) (cd : Value) (fa : Addr) (g : Heap) (L : Addr) (s : Shared) (W : Addr) (ws : List Value) (ns : List Int) (o1 o2 o3 o4 o5 o6 o7 o8 o9 o10 o11 o12 o13 o14 : Obj),
    LawG w loose mean mg mb g L s s → CodeHd g 104 100 → g.IsList W ws.toArray → IntsAre ws ns → ns.length ≤ 63 → Fr g L s.heap (fun _ => none) → News g L s.heap (CL L o1 o2 o3 o4 o5 o6 o7 o8 o9 o10 o11 o12 o13 o14 ++ [(100, tabObj #[])]) →
    o1.data = .cell (some (.ref W)) → (∀ o ∈ [o2, o3, o4, o5, o6, o7, o8, o9, o10, o11, o12, o13, o14], o.data = .cell none) → LawS w g L fa cd s (fun _ _ => False) 0 s) : LawBody w lawD.body lawD.name lawD.scope := by
  intro loose mean mg mb cd fa g L s W ws ns cells E B X T hCH hW hws hlen hlay h100 F N Y
  have hY := Y
  unfold lawD d_of at hY
  dsimp only at hY
  obtain ⟨f, hc, hd⟩ := cells_fn hY 0
  obtain rfl : cells = CL L (f 13) (f 12) (f 11) (f 10) (f 9) (f 8) (f 7) (f 6) (f 5) (f 4) (f 3) (f 2) (f 1) (f 0) := hc
  have h0 := hd
  have h1 := h0.2
  have h2 := h1.2
  have h3 := h2.2
  have h4 := h3.2
  have h5 := h4.2
  have h6 := h5.2
  have h7 := h6.2
  have h8 := h7.2
  have h9 := h8.2
  have h10 := h9.2
  have h11 := h10.2
  have h12 := h11.2
  have h13 := h12.2
  exact wpAny_mono (Q := _) (E := fun _ _ => False) (h loose mean mg mb cd fa g L s W ws ns (f 13) (f 12) (f 11) (f 10) (f 9) (f 8) (f 7) (f 6) (f 5) (f 4) (f 3) (f 2) (f 1) (f 0) ⟨B, X, T, h100, rfl, id⟩ hCH hW hws hlen (fr_eq F fun y => rfl) N h13.1 (List.forall_mem_cons.mpr ⟨h12.1, List.forall_mem_cons.mpr ⟨h11.1, List.forall_mem_cons.mpr ⟨h10.1, List.forall_mem_cons.mpr ⟨h9.1, List.forall_mem_cons.mpr ⟨h8.1, List.forall_mem_cons.mpr ⟨h7.1, List.forall_mem_cons.mpr ⟨h6.1, List.forall_mem_cons.mpr ⟨h5.1, List.forall_mem_cons.mpr ⟨h4.1, List.forall_mem_cons.mpr ⟨h3.1, List.forall_mem_cons.mpr ⟨h2.1, List.forall_mem_cons.mpr ⟨h1.1, List.forall_mem_cons.mpr ⟨h0.1, List.forall_mem_nil _⟩⟩⟩⟩⟩⟩⟩⟩⟩⟩⟩⟩⟩)) (fun _ _ x => x) fun _ _ x => x.elim
noncomputable def LawX (w : World) (L fa : Addr) (cd : Value) (k : Nat) (Q : Flow → Shared → Prop) (E : Value → Shared → Prop) (s : Shared) : Prop :=
  wpAny (model PySem.Challenge.rw_wo0016_01.prog w) (callerA.deeper (envOfC lawD.name lawD.scope L fa cd)) (exec (lawD.body.getD k (.Pass ⟨0, 0, 0, 0⟩)) (envOfC lawD.name lawD.scope L fa cd)) Q E s
theorem lawS_step {w : World} {g : Heap} {L fa : Addr} {cd : Value} {s₀ : Shared} {E : Value → Shared → Prop} {k : Nat} {s : Shared} (hk : k < lawD.body.length)
    (h : LawX w L fa cd k (fun f s' => match f with | .next => LawS w g L fa cd s₀ E (k + 1) s' | f => LawEnd g s₀ (match f with | .ret v => v | _ => .none) s') E s) : LawS w g L fa cd s₀ E k s := by
  unfold LawS
  rw [List.drop_eq_getElem_cons hk]
  refine step1 ?_
  unfold LawX at h
  rw [show lawD.body.getD k (.Pass ⟨0, 0, 0, 0⟩) = lawD.body[k] by rw [List.getD_eq_getElem?_getD, List.getElem?_eq_getElem hk]; rfl] at h
  exact wpAny_mono h (fun f s' h' => by cases f <;> exact h') fun _ _ x => x
noncomputable def lawName : Str := lawD.name
theorem lawX_of {w : World} {L fa : Addr} {cd : Value} {k : Nat} {Q : Flow → Shared → Prop} {E : Value → Shared → Prop} {s : Shared} {st : Stmt} {rest : List Stmt} (h0 : lawD.body.drop k = st :: rest)
    (h : wpAny (model PySem.Challenge.rw_wo0016_01.prog w) (callerA.deeper (envOfC lawD.name lawD.scope L fa cd)) (exec st (envOfC lawD.name lawD.scope L fa cd)) Q E s) : LawX w L fa cd k Q E s := by
  unfold LawX
  have e : lawD.body.getD k (.Pass ⟨0, 0, 0, 0⟩) = st := by
    have h1 := congrArg List.head? h0
    rw [List.head?_drop] at h1
    rw [List.getD_eq_getElem?_getD, h1]
    rfl
  rw [e]
  exact h
noncomputable abbrev upd (m : Str → Option Value) (x : Str) (v : Value) : Str → Option Value := fun y => if y = x then some v else m y
theorem upd_known {m : Str → Option Value} {x : Str} {v : Value} (h : m x = some v) : upd m x v = m := funext fun y => by
  by_cases hy : y = x
  · subst hy; simp only [upd, if_true, h]
  · simp only [upd, if_neg hy]
theorem fr_know {g h : Heap} {L : Addr} {m : Str → Option Value} {x : Str} {v : Value} (F : Fr g L h m) (hx : m x = some v) : Fr g L h (upd m x v) := fr_eq F fun y => by rw [upd_known hx]
noncomputable abbrev k1 (L : Addr) : Addr := L + 1
noncomputable abbrev k2 (L : Addr) : Addr := L + 1 + 1
noncomputable abbrev k3 (L : Addr) : Addr := L + 1 + 1 + 1
noncomputable abbrev k4 (L : Addr) : Addr := L + 1 + 1 + 1 + 1
noncomputable abbrev k5 (L : Addr) : Addr := L + 1 + 1 + 1 + 1 + 1
noncomputable abbrev k6 (L : Addr) : Addr := L + 1 + 1 + 1 + 1 + 1 + 1
noncomputable abbrev k7 (L : Addr) : Addr := L + 1 + 1 + 1 + 1 + 1 + 1 + 1
noncomputable abbrev k8 (L : Addr) : Addr := L + 1 + 1 + 1 + 1 + 1 + 1 + 1 + 1
noncomputable abbrev k9 (L : Addr) : Addr := L + 1 + 1 + 1 + 1 + 1 + 1 + 1 + 1 + 1
noncomputable abbrev k10 (L : Addr) : Addr := L + 1 + 1 + 1 + 1 + 1 + 1 + 1 + 1 + 1 + 1
noncomputable abbrev k11 (L : Addr) : Addr := L + 1 + 1 + 1 + 1 + 1 + 1 + 1 + 1 + 1 + 1 + 1
noncomputable abbrev k12 (L : Addr) : Addr := L + 1 + 1 + 1 + 1 + 1 + 1 + 1 + 1 + 1 + 1 + 1 + 1
noncomputable abbrev k13 (L : Addr) : Addr := L + 1 + 1 + 1 + 1 + 1 + 1 + 1 + 1 + 1 + 1 + 1 + 1 + 1
noncomputable abbrev k14 (L : Addr) : Addr := L + 1 + 1 + 1 + 1 + 1 + 1 + 1 + 1 + 1 + 1 + 1 + 1 + 1 + 1
theorem allLt_all {D : Addr} {l : List (Addr × Obj)} (h : AllLt D l) : ∀ p ∈ l, @LT.lt Nat _ p.1 D := by
  induction l with
  | nil => intro p hp; cases hp
  | cons q l ih =>
    intro p hp
    cases hp with
    | head => exact h.1
    | tail _ hp => exact ih h.2 p hp
theorem off1_all {D : Addr} {l : List (Addr × Obj)} (h : LCg.Off1 D l) : ∀ p ∈ l, p.1 ≠ D := by
  induction l with
  | nil => intro p hp; cases hp
  | cons q l ih =>
    intro p hp
    cases hp with
    | head => exact h.1
    | tail _ hp => exact ih h.2 p hp
section
variable {g h : Heap} {L : Addr} {a b c d e : Addr × Obj} {l : List (Addr × Obj)}
theorem nd1 (N : News g L h (a :: l)) : News g L h l := fun p hp => N p (.tail _ hp)
theorem nd2 (N : News g L h (a :: b :: l)) : News g L h (a :: l) := fun p hp => by
  cases hp with
  | head => exact N _ (.head _)
  | tail _ hp => exact N p (.tail _ (.tail _ hp))
theorem nd3 (N : News g L h (a :: b :: c :: l)) : News g L h (a :: b :: l) := fun p hp => by
  cases hp with
  | head => exact N _ (.head _)
  | tail _ hp => cases hp with
    | head => exact N _ (.tail _ (.head _))
    | tail _ hp => exact N p (.tail _ (.tail _ (.tail _ hp)))
theorem nd4 (N : News g L h (a :: b :: c :: d :: l)) : News g L h (a :: b :: c :: l) := fun p hp => by
  cases hp with
  | head => exact N _ (.head _)
  | tail _ hp => cases hp with
    | head => exact N _ (.tail _ (.head _))
    | tail _ hp => cases hp with
      | head => exact N _ (.tail _ (.tail _ (.head _)))
      | tail _ hp => exact N p (.tail _ (.tail _ (.tail _ (.tail _ hp))))
end
noncomputable abbrev namesV (u0 u1 u2 u3 u4 u5 : Tok) : List Value := [.str (Str.ofString "") u0, .str (Str.ofString " A\n") u1, .str (Str.ofString "\"") u2, .str (Str.ofString " A") u3, .str (Str.ofString "#n") u4, .str (Str.ofString "\\") u5]
end
section
noncomputable def wayW (wy : Int) : Str := if wy = 1 then Str.ofString "LI" else Str.ofString "OC"
noncomputable def fgW (wy : Int) (i : Nat) : Int := (if wy = 1 then [0, 0, 0, 1, 1, 1, 0, 1] else [0, 1, 0, 0, 0, 1, 1, 1]).getD i 0
noncomputable def fgO (i : Nat) : Int := [0, 0, 0, 1, 0, 1, 1, 1].getD i 0
noncomputable abbrev fig8 (f : Nat → Int) (t0 t1 t2 t3 t4 t5 t6 t7 : Tok) : List Value := [.int (f 0) t0, .int (f 1) t1, .int (f 2) t2, .int (f 3) t3, .int (f 4) t4, .int (f 5) t5, .int (f 6) t6, .int (f 7) t7]
noncomputable def wrt (x : Str) (u : Int) : List Nat :=
  if u = 1 then 34 :: (x.cps.toList.flatMap fun c => (escBy escQ c).cps.toList) ++ [34]
  else if x == Str.ofString "" then [34, 34]
  else if u = 0 then (x.cps.toList.flatMap fun c => (escBy (fun _ => true) c).cps.toList) ++ [10]
  else (if Txt.item x 0 == Str.ofString "\"" then [9, 13, 92] else [9, 13]) ++ (x.cps.toList.flatMap fun c => (escBy escL c).cps.toList) ++ [32]
section
variable (w : World) (loose : List Str) (mean : ExcName → Option Value) (mg mb : Str → Option Value)
theorem let_H (wy : Int) (h : wy = 1 ∨ wy = -1) (t : Tok) : HC w loose mean mg mb 50 110 [.int (205 - 21 * wy) t] [] (fun _ => True) (fun v now => now = [] ∧ ∃ t, v = .str (wayW wy) t) := by
  rcases h with rfl | rfl
  · exact letLI_H w loose mean mg mb t
  · exact letOC_H w loose mean mg mb t
theorem fig_H (wy : Int) (h : wy = 1 ∨ wy = -1) (t : Tok) : HC w loose mean mg mb 70 139 [.str (wayW wy) t] [] (fun _ => True) (fun v now => ∃ D e t0 t1 t2 t3 t4 t5 t6 t7, v = .ref D ∧ now = [(D, lstO (fig8 (fgW wy) t0 t1 t2 t3 t4 t5 t6 t7) e)]) := by
  rcases h with rfl | rfl
  · exact figLI_H w loose mean mg mb t
  · exact figOC_H w loose mean mg mb t
theorem figO_H (t : Tok) : HC w loose mean mg mb 70 139 [.str (Str.ofString "OI") t] [] (fun _ => True) (fun v now => ∃ D e t0 t1 t2 t3 t4 t5 t6 t7, v = .ref D ∧ now = [(D, lstO (fig8 fgO t0 t1 t2 t3 t4 t5 t6 t7) e)]) := figOI_H w loose mean mg mb t
theorem wr_H (x : Str) (u : Int) (hu : u = 0 ∨ u = 1 ∨ u = 2) (t tu : Tok) (hx : x.cps.size ≤ 100) : HC w loose mean mg mb 30 115 [.str x t, .int u tu] [] (fun _ => True) (fun v now => now = [] ∧ ∃ y t, v = .str y t ∧ y.cps.toList = wrt x u) := by
  unfold wrt
  rcases hu with rfl | rfl | rfl
  · by_cases he : x == Str.ofString ""
    · simp only [he, if_true, show ¬ ((0 : Int) = 1) by decide, if_false]
      exact wrE0_H w loose mean mg mb x t tu hx he
    · simp only [he, if_true, show ¬ ((0 : Int) = 1) by decide, if_false]
      exact wr0_H w loose mean mg mb x t tu hx (by simpa using he)
  · simp only [if_true]
    exact wr1_H w loose mean mg mb x t tu hx
  · by_cases he : x == Str.ofString ""
    · simp only [he, if_true, show ¬ ((2 : Int) = 1) by decide, if_false]
      exact wrE2_H w loose mean mg mb x t tu hx he
    · by_cases hq : Txt.item x 0 == Str.ofString "\""
      · simp only [he, hq, if_true, show ¬ ((2 : Int) = 1) by decide, show ¬ ((2 : Int) = 0) by decide, if_false]
        exact wr2q_H w loose mean mg mb x t tu hx hq (by simpa using he)
      · simp only [he, hq, if_true, show ¬ ((2 : Int) = 1) by decide, show ¬ ((2 : Int) = 0) by decide, if_false]
        exact wr2n_H w loose mean mg mb x t tu hx (by simpa using hq) (by simpa using he)
end
theorem fr_unk {g h : Heap} {L : Addr} {m : Str → Option Value} {x : Str} {v : Value} (F : Fr g L h (upd m x v)) (hx : m x = some v) : Fr g L h m := by rwa [upd_known hx] at F
theorem fr_unk1 {g h : Heap} {L : Addr} {m : Str → Option Value} {x a : Str} {v va : Value} (F : Fr g L h (upd (upd m x v) a va)) (hx : m x = some v) : Fr g L h (upd m a va) := by rwa [upd_known hx] at F
theorem fr_unk2 {g h : Heap} {L : Addr} {m : Str → Option Value} {x x2 a : Str} {v v2 va : Value} (F : Fr g L h (upd (upd (upd m x v) x2 v2) a va)) (hx : m x = some v) (hx2 : m x2 = some v2) : Fr g L h (upd m a va) := by
  rw [upd_known hx, upd_known hx2] at F
  exact F
theorem fr_unk02 {g h : Heap} {L : Addr} {m : Str → Option Value} {x x2 : Str} {v v2 : Value} (F : Fr g L h (upd (upd m x v) x2 v2)) (hx : m x = some v) (hx2 : m x2 = some v2) : Fr g L h m := by
  rw [upd_known hx, upd_known hx2] at F
  exact F
theorem fr_know2 {g h : Heap} {L : Addr} {m : Str → Option Value} {x x2 : Str} {v v2 : Value} (F : Fr g L h m) (hx : m x = some v) (hx2 : m x2 = some v2) : Fr g L h (upd (upd m x v) x2 v2) := by
  rw [upd_known hx, upd_known hx2]
  exact F
theorem fr_know3 {g h : Heap} {L : Addr} {m : Str → Option Value} {x x2 x3 : Str} {v v2 v3 : Value} (F : Fr g L h m) (hx : m x = some v) (hx2 : m x2 = some v2) (hx3 : m x3 = some v3) : Fr g L h (upd (upd (upd m x v) x2 v2) x3 v3) := by
  rw [upd_known hx, upd_known hx2, upd_known hx3]
  exact F
theorem fr_unk3 {g h : Heap} {L : Addr} {m : Str → Option Value} {x x2 x3 a : Str} {v v2 v3 va : Value} (F : Fr g L h (upd (upd (upd (upd m x v) x2 v2) x3 v3) a va)) (hx : m x = some v) (hx2 : m x2 = some v2) (hx3 : m x3 = some v3) : Fr g L h (upd m a va) := by
  rw [upd_known hx, upd_known hx2, upd_known hx3] at F
  exact F
theorem fr_unk03 {g h : Heap} {L : Addr} {m : Str → Option Value} {x x2 x3 : Str} {v v2 v3 : Value} (F : Fr g L h (upd (upd (upd m x v) x2 v2) x3 v3)) (hx : m x = some v) (hx2 : m x2 = some v2) (hx3 : m x3 = some v3) : Fr g L h m := by
  rw [upd_known hx, upd_known hx2, upd_known hx3] at F
  exact F
theorem fr_know4 {g h : Heap} {L : Addr} {m : Str → Option Value} {x x2 x3 x4 : Str} {v v2 v3 v4 : Value} (F : Fr g L h m) (hx : m x = some v) (hx2 : m x2 = some v2) (hx3 : m x3 = some v3) (hx4 : m x4 = some v4) : Fr g L h (upd (upd (upd (upd m x v) x2 v2) x3 v3) x4 v4) := by
  rw [upd_known hx, upd_known hx2, upd_known hx3, upd_known hx4]
  exact F
theorem fr_unk4 {g h : Heap} {L : Addr} {m : Str → Option Value} {x x2 x3 x4 a : Str} {v v2 v3 v4 va : Value} (F : Fr g L h (upd (upd (upd (upd (upd m x v) x2 v2) x3 v3) x4 v4) a va)) (hx : m x = some v) (hx2 : m x2 = some v2) (hx3 : m x3 = some v3) (hx4 : m x4 = some v4) : Fr g L h (upd m a va) := by
  rw [upd_known hx, upd_known hx2, upd_known hx3, upd_known hx4] at F
  exact F
theorem fr_unk04 {g h : Heap} {L : Addr} {m : Str → Option Value} {x x2 x3 x4 : Str} {v v2 v3 v4 : Value} (F : Fr g L h (upd (upd (upd (upd m x v) x2 v2) x3 v3) x4 v4)) (hx : m x = some v) (hx2 : m x2 = some v2) (hx3 : m x3 = some v3) (hx4 : m x4 = some v4) : Fr g L h m := by
  rw [upd_known hx, upd_known hx2, upd_known hx3, upd_known hx4] at F
  exact F
theorem mod3 (x : Int) : x.fmod 3 = 0 ∨ x.fmod 3 = 1 ∨ x.fmod 3 = 2 := by
  have h1 := Int.fmod_nonneg_of_pos x (show (0 : Int) < 3 by decide)
  have h2 := Int.fmod_lt_of_pos x (show (0 : Int) < 3 by decide)
  omega
theorem esc_lenW (p : Nat → Bool) : ∀ l : List Nat, (l.flatMap fun c => (escBy p c).cps.toList).length ≤ 2 * l.length
  | [] => Nat.le_refl _
  | c :: l => by
    have := esc_lenW p l
    have h1 : (escBy p c).cps.toList.length ≤ 2 := by unfold escBy; split <;> simp
    simp only [List.flatMap_cons, List.length_append, List.length_cons]
    omega
theorem wrt_len (x : Str) (u : Int) : (wrt x u).length ≤ 2 * x.cps.size + 4 := by
  have h1 := esc_lenW escQ x.cps.toList
  have h2 := esc_lenW (fun _ => true) x.cps.toList
  have h3 := esc_lenW escL x.cps.toList
  have e9 : x.cps.toList.length = x.cps.size := Array.length_toList
  unfold wrt
  split
  · simp only [List.length_append, List.length_cons, List.length_nil]; omega
  · split
    · simp only [List.length_cons, List.length_nil]; omega
    · split
      · simp only [List.length_append, List.length_cons, List.length_nil]; omega
      · split <;> (simp only [List.length_append, List.length_cons, List.length_nil]; omega)
section
variable {prog : Program} {w : World} {A : Around} {E : Value → Shared → Prop} {s : Shared} {Q : Value → Shared → Prop}
theorem join_J {D : Addr} {items : Array Value} {ys : List Str} {t : Tok} (hl : s.heap.IsList D items) (hi : StrsAre items.toList ys) (hok : (ys.map (·.length)).sum + ys.length * 64 ≤ 16777216)
    (h : ∀ J t' k, J.cps.toList = (ys.flatMap fun y => y.cps.toList) → Q (.str J t') { s with toks := k }) : wpAny (model prog w) A (call (.builtin "str.join") [.str (Str.ofString "") t, .ref D]) Q E s :=
  join_listC hl hi (by decide) hok fun t' k => h _ t' k (by show (Builtin.Str.glued _ _).cps.toList = _; rw [StrLaws.glued_eq_join, join_cps])
end
theorem wrt_ne (x : Str) (u : Int) : 1 ≤ (wrt x u).length := by
  unfold wrt
  repeat' split
  all_goals (simp only [List.length_append, List.length_cons, List.length_nil]; omega)
theorem cut_last {J : Str} (h : 1 ≤ J.length) : (Txt.slice J none (some (-1))).cps.toList = J.cps.toList.dropLast := by
  show (StrLaws.sliceText J none (some (-1))).cps.toList = _
  rw [StrLaws.sliceText_to_neg (by decide) (by omega)]
  have e9 : J.cps.toList.length = J.length := Array.length_toList
  simp only [List.drop_zero]
  rw [List.dropLast_eq_take, e9]
  congr 1
  omega
structure LexOk (w : World) (loose : List Str) (mean : ExcName → Option Value) (mg mb : Str → Option Value) (lx dx P sg x2 tf : Addr) (rest : List (Addr × Obj)) : Prop where
  feed : FeedIn x2 tf rest
  take : TakeOk w loose mean mg mb tf sg rest
  apart : Apart [lx, dx, P, sg] rest
  sgne : sg ≠ lx ∧ sg ≠ dx ∧ sg ≠ P
noncomputable def OffLex (lx dx P sg : Addr) (l : List (Addr × Obj)) : Prop := ∀ p ∈ l, p.1 ≠ lx ∧ p.1 ≠ dx ∧ p.1 ≠ P ∧ p.1 ≠ sg
section
variable {w : World} {loose : List Str} {mean : ExcName → Option Value} {mg mb : Str → Option Value} {news : List (Addr × Obj)}
  {A A₀ : Around} {env : Env} {outer : List Env} {base h₀ : Heap} {L : Addr} {m : Str → Option Value} {s : Shared} {Q E : Value → Shared → Prop}
theorem useTok {lx dx P sg x2 tf : Addr} {a b c d : Int × Tok} {ln : Int} {tn tw : Tok} {e e1 e2 : Nat} {rest : List (Addr × Obj)} {ys : List Value} {cs : List Nat} (fut : List (Addr × Obj)) (K : LexOk w loose mean mg mb lx dx P sg x2 tf rest) (hys : SignsAre ys cs) (hl : cs.length < 99999) (hln : 0 ≤ ln ∧ ln < 100000)
    (B : Below A₀ base outer h₀) (F : Fr h₀ L s.heap m) (X : (Mine.hd.heap_1 w.params).In h₀) (N : News h₀ L s.heap news) (T : Top topProg loose mean mg mb h₀)
    (hh : A.handled = none) (hA : A.frames = some (env :: outer)) (hf : env.frame = some L) (hk : env.scope.kind = .function) (hd : A.depth + 40 < recursionLimit) (hu : A.units + 10 * 40 < cLine)
    (hsub : ∀ p ∈ lexN lx dx P a b c d ln tn (.ref x2) tw e [] e1 ++ (sg, lstO ys e2) :: rest, p ∈ news) (hfut : ∀ p ∈ fut, p ∈ news) (hoff : OffLex lx dx P sg fut)
    (h : ∀ h' tk' t ln' tn' ys' e2', Fr h₀ L h' m → News h₀ L h' (lexN lx dx P a b c d ln' tn' (.ref x2) tw e [] e1 ++ (sg, lstO ys' e2') :: fut) → SignsAre ys' (tokA cs).2 → ln' + ((tokA cs).2.count 10 : Int) = ln + (cs.count 10 : Int) → ln ≤ ln' → Q (.str ⟨(tokA cs).1.toArray⟩ t) { s with heap := h', toks := tk' }) :
    wpAny (model PySem.Challenge.rw_wo0016_01.prog w) A (call (.ref 42) [.ref lx]) Q E s := by
  refine useH (tok_H w loose mean mg mb lx dx P sg x2 tf a b c d ln tn tw e e1 e2 rest K.feed K.take K.apart K.sgne ys cs hys hl hln) B F X N T hh hA hf hk hd hu hsub trivial ?_
  rintro v now h' tk' ⟨⟨t, rfl⟩, ln', tn', ys', e2', rfl, hy', hc, hle⟩ F' kp fr KK
  refine h h' tk' t ln' tn' ys' e2' F' (KK _ fun p hp => ?_) hy' hc hle
  rcases List.mem_append.mp hp with q | q
  · exact .inl (List.mem_append_left _ q)
  rcases List.mem_cons.mp q with rfl | q
  · exact .inl (List.mem_append_right _ (List.Mem.head _))
  by_cases hr : ∃ z ∈ rest, z.1 = p.1
  · obtain ⟨z, hz, hzp⟩ := hr
    have e1 := (N _ (hsub z (List.mem_append_right _ (List.Mem.tail _ hz)))).1
    have e2 := (N _ (hfut p q)).1
    rw [hzp, e2] at e1
    have : p = z := Prod.ext hzp.symm (Option.some.inj e1)
    rw [this]
    exact .inl (List.mem_append_right _ (List.Mem.tail _ hz))
  · refine .inr ⟨hfut p q, fun z hz hzp => ?_⟩
    obtain ⟨n1, n2, n3, n4⟩ := hoff p q
    rcases List.mem_append.mp hz with z1 | z1
    · simp only [lexN, List.mem_cons, List.not_mem_nil, or_false] at z1
      rcases z1 with rfl | rfl | rfl
      · exact n1 hzp.symm
      · exact n2 hzp.symm
      · exact n3 hzp.symm
    · rcases List.mem_cons.mp z1 with rfl | z1
      · exact n4 hzp.symm
      · exact hr ⟨z, z1, hzp⟩
theorem useK {n : Nat} {f : Addr} {vs : List Value} {touch : List (Addr × Obj)} {pre : Heap → Prop} {Post : Value → List (Addr × Obj) → Prop} (C : HC w loose mean mg mb n f vs touch pre Post) (B : Below A₀ base outer h₀) (F : Fr h₀ L s.heap m) (X : (Mine.hd.heap_1 w.params).In h₀) (N : News h₀ L s.heap news) (T : Top topProg loose mean mg mb h₀)
    (hh : A.handled = none) (hA : A.frames = some (env :: outer)) (hf : env.frame = some L) (hk : env.scope.kind = .function) (hd : A.depth + n < recursionLimit) (hu : A.units + 10 * n < cLine) (hsub : ∀ p ∈ touch, p ∈ news) (hp : pre s.heap)
    (h : ∀ v now nw h' tk', Post v now → now = nw ++ touch → Fr h₀ L h' m → News h₀ L h' (nw ++ news) → (∀ p ∈ nw, (∀ q ∈ touch, q.1 ≠ p.1) → ∀ q ∈ news, q.1 ≠ p.1) → Q v { s with heap := h', toks := tk' })
    (hpost : ∀ v now, Post v now → ∃ nw, now = nw ++ touch) :
    wpAny (model PySem.Challenge.rw_wo0016_01.prog w) A (call (.ref f) vs) Q E s := by
  refine useH C B F X N T hh hA hf hk hd hu hsub hp ?_
  intro v now h' tk' P F' kp fr KK
  obtain ⟨nw, rfl⟩ := hpost v now P
  refine h v _ nw h' tk' P rfl F' (KK _ fun p hp => ?_) fun p hp hq => ?_
  · rcases List.mem_append.mp hp with q | q
    · exact .inl (List.mem_append_left _ q)
    by_cases hr : ∃ z ∈ touch, z.1 = p.1
    · obtain ⟨z, hz, hzp⟩ := hr
      have e1 := (N _ (hsub z hz)).1
      have e2 := (N _ q).1
      rw [hzp, e2] at e1
      have : p = z := Prod.ext hzp.symm (Option.some.inj e1)
      rw [this]
      exact .inl (List.mem_append_right _ hz)
    · exact .inr ⟨q, fun z hz hzp => hr ⟨z, hz, hzp⟩⟩
  · rcases fr p (List.mem_append_left _ hp) with ⟨z, hz, hzp⟩ | h
    · exact absurd hzp (hq z hz)
    · exact h
end
section
variable {I C D lx dx P sg : Addr} {oI oC oD ol od oP os oX : Obj} {c : Addr} {fut rest : List (Addr × Obj)}
theorem tsub (hrest : ∀ p ∈ rest, p ∈ fut) : ∀ p ∈ [(lx, ol), (dx, od), (P, oP)] ++ (sg, os) :: rest, p ∈ (I, oI) :: (C, oC) :: (D, oD) :: (lx, ol) :: (dx, od) :: (P, oP) :: (sg, os) :: (c, oX) :: fut := fun p hp => by
  rcases List.mem_cons.mp hp with rfl | hp
  · simp
  rcases List.mem_cons.mp hp with rfl | hp
  · simp
  rcases List.mem_cons.mp hp with rfl | hp
  · simp
  rcases List.mem_cons.mp hp with rfl | hp
  · simp
  have := hrest p hp
  simp [this]
theorem tfut : ∀ p ∈ (I, oI) :: (C, oC) :: (D, oD) :: (c, oX) :: fut, p ∈ (I, oI) :: (C, oC) :: (D, oD) :: (lx, ol) :: (dx, od) :: (P, oP) :: (sg, os) :: (c, oX) :: fut := fun p hp => by
  rcases List.mem_cons.mp hp with rfl | hp
  · simp
  rcases List.mem_cons.mp hp with rfl | hp
  · simp
  rcases List.mem_cons.mp hp with rfl | hp
  · simp
  rcases List.mem_cons.mp hp with rfl | hp
  · simp
  simp [hp]
theorem toff (off : LCg.Off3 I C D ((lx, ol) :: (dx, od) :: (P, oP) :: (sg, os) :: (c, oX) :: fut)) (ho : OffLex lx dx P sg ((c, oX) :: fut)) : OffLex lx dx P sg ((I, oI) :: (C, oC) :: (D, oD) :: (c, oX) :: fut) := fun p hp => by
  obtain ⟨⟨a1, a2, a3⟩, ⟨b1, b2, b3⟩, ⟨c1, c2, c3⟩, ⟨d1, d2, d3⟩, _⟩ := off
  rcases List.mem_cons.mp hp with rfl | hp
  · exact ⟨Ne.symm a1, Ne.symm b1, Ne.symm c1, Ne.symm d1⟩
  rcases List.mem_cons.mp hp with rfl | hp
  · exact ⟨Ne.symm a2, Ne.symm b2, Ne.symm c2, Ne.symm d2⟩
  rcases List.mem_cons.mp hp with rfl | hp
  · exact ⟨Ne.symm a3, Ne.symm b3, Ne.symm c3, Ne.symm d3⟩
  exact ho p hp
theorem tend {p : Addr × Obj} (hp : p ∈ (I, oI) :: (C, oC) :: (D, oD) :: (lx, ol) :: (dx, od) :: (P, oP) :: (sg, os) :: (c, oX) :: fut) : p ∈ [(lx, ol), (dx, od), (P, oP)] ++ (sg, os) :: (I, oI) :: (C, oC) :: (D, oD) :: (c, oX) :: fut := by
  simp only [List.mem_cons, List.cons_append, List.nil_append] at hp ⊢
  rcases hp with h | h | h | h | h | h | h | h | h <;> simp [h]
theorem tend2 {p : Addr × Obj} (hp : p ∈ (I, oI) :: (C, oC) :: (D, oD) :: (lx, ol) :: (dx, od) :: (P, oP) :: (sg, os) :: (c, oX) :: fut) : p ∈ (lx, ol) :: (dx, od) :: (P, oP) :: (sg, os) :: (I, oI) :: (C, oC) :: (D, oD) :: (c, oX) :: fut := tend hp
end
theorem tokP_len : ∀ (n : Nat) (cs acc : List Nat), cs.length ≤ n → (tokP acc cs).2.length ≤ cs.length
  | 0, [], acc, _ => by simp [tokP]
  | 0, _ :: _, _, h => by simp at h
  | n + 1, [], acc, _ => by simp [tokP]
  | n + 1, [c], acc, _ => by
    rw [tokP]
    split
    · simp
    split
    · simp
    · exact Nat.le_succ_of_le (tokP_len n [] _ (Nat.zero_le _))
  | n + 1, c :: d :: cs, acc, h => by
    rw [tokP]
    have h1 : cs.length ≤ n := by simp only [List.length_cons] at h; omega
    have h2 : (d :: cs).length ≤ n := by simp only [List.length_cons] at h ⊢; omega
    split
    · simp
    split
    · have := tokP_len n cs (acc ++ [d]) h1
      simp only [List.length_cons]; omega
    · have := tokP_len n (d :: cs) (acc ++ [c]) h2
      simp only [List.length_cons] at this ⊢; omega
theorem tokQ_len : ∀ (n : Nat) (cs acc : List Nat), cs.length ≤ n → (tokQ acc cs).2.length ≤ cs.length
  | 0, [], acc, _ => by simp [tokQ]
  | 0, _ :: _, _, h => by simp at h
  | n + 1, [], acc, _ => by simp [tokQ]
  | n + 1, [c], acc, _ => by
    rw [tokQ]
    split
    · simp
    split
    · simp
    · exact Nat.le_succ_of_le (tokQ_len n [] _ (Nat.zero_le _))
  | n + 1, c :: d :: cs, acc, h => by
    rw [tokQ]
    have h1 : cs.length ≤ n := by simp only [List.length_cons] at h; omega
    have h2 : (d :: cs).length ≤ n := by simp only [List.length_cons] at h ⊢; omega
    split
    · simp
    split
    · have := tokQ_len n cs (acc ++ [d]) h1
      simp only [List.length_cons]; omega
    · have := tokQ_len n (d :: cs) (acc ++ [c]) h2
      simp only [List.length_cons] at this ⊢; omega
theorem tokA_len (cs : List Nat) : (tokA cs).2.length ≤ cs.length := by
  induction cs with
  | nil => simp [tokA]
  | cons c cs ih =>
    cases hw : isWs c with
    | true => rw [tokA_ws hw]; simp only [List.length_cons]; omega
    | false =>
      by_cases h1 : c = 34
      · rw [tokA_q hw h1]
        have := tokQ_len _ cs [] (Nat.le_refl _)
        simp only [List.length_cons]; omega
      · by_cases h2 : c = 92
        · cases cs with
          | nil => rw [tokA_b0 hw h1 h2]; simp
          | cons d ds =>
            rw [tokA_b1 hw h1 h2]
            have := tokP_len _ ds [d] (Nat.le_refl _)
            simp only [List.length_cons]; omega
        · rw [tokA_c hw h1 h2]
          have := tokP_len _ cs [c] (Nat.le_refl _)
          simp only [List.length_cons]; omega
theorem fr_know5 {g h : Heap} {L : Addr} {m : Str → Option Value} {x x2 x3 x4 x5 : Str} {v v2 v3 v4 v5 : Value} (F : Fr g L h m) (hx : m x = some v) (hx2 : m x2 = some v2) (hx3 : m x3 = some v3) (hx4 : m x4 = some v4) (hx5 : m x5 = some v5) : Fr g L h (upd (upd (upd (upd (upd m x v) x2 v2) x3 v3) x4 v4) x5 v5) := by
  rw [upd_known hx, upd_known hx2, upd_known hx3, upd_known hx4, upd_known hx5]
  exact F
theorem fr_unk05 {g h : Heap} {L : Addr} {m : Str → Option Value} {x x2 x3 x4 x5 : Str} {v v2 v3 v4 v5 : Value} (F : Fr g L h (upd (upd (upd (upd (upd m x v) x2 v2) x3 v3) x4 v4) x5 v5)) (hx : m x = some v) (hx2 : m x2 = some v2) (hx3 : m x3 = some v3) (hx4 : m x4 = some v4) (hx5 : m x5 = some v5) : Fr g L h m := by
  rw [upd_known hx, upd_known hx2, upd_known hx3, upd_known hx4, upd_known hx5] at F
  exact F
end
section
section
open PySem.Spec PyProof.V PySem.SeqAt
theorem readsAll_of_strs {h : Heap} : ∀ {vs : List Value} {ns : List Str}, StrsAre vs ns → ReadsAll h vs (ns.map PyData.str) []
  | _, _, .nil => .nil
  | _, _, .cons k t r => by
    have := ReadsAll.cons (Reads.str (h := h) k t) (readsAll_of_strs (h := h) r)
    simpa using this
theorem reads_of_strs {h : Heap} {a : Addr} {vs : List Value} {ns : List Str} (hl : h.IsList a vs.toArray) (hi : StrsAre vs ns) : Reads h (.ref a) (.list (ns.map PyData.str)) [a] := by
  obtain ⟨o, ho, hc, n, hd⟩ := hl
  exact Reads.list ho hc hd (by simpa using readsAll_of_strs hi)
theorem canLayAll0_strs : ∀ ns : List Str, (∀ x ∈ ns, PyData.strOk x = true) → PyData.canLayAll0 (ns.map PyData.str) = true
  | [], _ => by simp [PyData.canLayAll0]
  | n :: r, h => by simp [PyData.canLayAll0, PyData.canLay0, canLayAll0_strs r fun x hx => h x (.tail _ hx), h n (.head _)]
theorem depthAll_strs : ∀ ns : List Str, PyData.depthAll (ns.map PyData.str) ≤ 1
  | [] => by simp [PyData.depthAll]
  | n :: r => by
    have := depthAll_strs r
    simp only [List.map_cons, PyData.depthAll, PyData.depth]
    omega
theorem shaped_strs (ns : List Str) (h : ∀ x ∈ ns, PyData.strOk x = true) : shaped (.list (ns.map PyData.str)) = true := by
  have h1 := depthAll_strs ns
  have h2 : PyData.depth (.list (ns.map PyData.str)) ≤ 64 := by simp only [PyData.depth]; omega
  show (PyData.canLay0 (.list (ns.map PyData.str)) && decide (PyData.depth (.list (ns.map PyData.str)) ≤ 64)) = true
  rw [Bool.and_eq_true]
  exact ⟨by simp only [PyData.canLay0]; exact canLayAll0_strs ns h, decide_eq_true h2⟩
theorem noMix_strs : ∀ ns ms : List Str, noMixAll (ns.map PyData.str) (ms.map PyData.str) = true
  | [], [] => by simp [noMixAll]
  | [], _ :: _ => by simp [noMixAll]
  | _ :: _, [] => by simp [noMixAll]
  | _ :: r, _ :: q => by simp [noMixAll, noMix, noMix_strs r q]
theorem same_strs : ∀ ns ms : List Str, PySem.Spec.sameAll (ns.map PyData.str) (ms.map PyData.str) = decide (ns = ms)
  | [], [] => by simp [PySem.Spec.sameAll]
  | [], _ :: _ => by simp [PySem.Spec.sameAll]
  | _ :: _, [] => by simp [PySem.Spec.sameAll]
  | n :: r, k :: q => by
    simp only [List.map_cons, PySem.Spec.sameAll, PySem.Spec.same, same_strs r q]
    by_cases h : n = k <;> simp [h]
variable {prog : Program} {w : World} {A : Around} {E : Value → Shared → Prop} {s : Shared}
theorem ne_strs {a b : Addr} {vs us : List Value} {ns ms : List Str} {Q : Value → Shared → Prop} (hl : s.heap.IsList a vs.toArray) (hi : StrsAre vs ns) (hl' : s.heap.IsList b us.toArray) (hi' : StrsAre us ms) (h1 : ∀ x ∈ ns, PyData.strOk x = true) (h2 : ∀ x ∈ ms, PyData.strOk x = true) (hu : A.units + 64 < cLine)
    (h : Q (.bool (!decide (ns = ms))) s) : wpAny (model prog w) A (compareOp .NotEq (.ref a) (.ref b)) Q E s :=
  ne_dataH_same (reads_of_strs hl hi) (reads_of_strs hl' hi') (shaped_strs ns h1) (shaped_strs ms h2) hu (by simp only [noMix]; exact noMix_strs ns ms) (by simp only [PySem.Spec.same]; rw [same_strs]; exact h)
theorem eq_strs {a b : Addr} {vs us : List Value} {ns ms : List Str} {Q : Value → Shared → Prop} (hl : s.heap.IsList a vs.toArray) (hi : StrsAre vs ns) (hl' : s.heap.IsList b us.toArray) (hi' : StrsAre us ms) (h1 : ∀ x ∈ ns, PyData.strOk x = true) (h2 : ∀ x ∈ ms, PyData.strOk x = true) (hu : A.units + 64 < cLine)
    (h : Q (.bool (decide (ns = ms))) s) : wpAny (model prog w) A (compareOp .Eq (.ref a) (.ref b)) Q E s :=
  eq_dataH_same (reads_of_strs hl hi) (reads_of_strs hl' hi') (shaped_strs ns h1) (shaped_strs ms h2) hu (by simp only [noMix]; exact noMix_strs ns ms) (by simp only [PySem.Spec.same]; rw [same_strs]; exact h)
theorem ne_strs_no {a b : Addr} {vs us : List Value} {ns : List Str} {Q : Value → Shared → Prop} (hl : s.heap.IsList a vs.toArray) (hi : StrsAre vs ns) (hl' : s.heap.IsList b us.toArray) (hi' : StrsAre us ns) (h1 : ∀ x ∈ ns, PyData.strOk x = true) (hu : A.units + 64 < cLine)
    (h : Q (.bool false) s) : wpAny (model prog w) A (compareOp .NotEq (.ref a) (.ref b)) Q E s := ne_strs hl hi hl' hi' h1 h1 hu (by simpa using h)
theorem eq_strs_yes {a b : Addr} {vs us : List Value} {ns : List Str} {Q : Value → Shared → Prop} (hl : s.heap.IsList a vs.toArray) (hi : StrsAre vs ns) (hl' : s.heap.IsList b us.toArray) (hi' : StrsAre us ns) (h1 : ∀ x ∈ ns, PyData.strOk x = true) (hu : A.units + 64 < cLine)
    (h : Q (.bool true) s) : wpAny (model prog w) A (compareOp .Eq (.ref a) (.ref b)) Q E s := eq_strs hl hi hl' hi' h1 h1 hu (by simpa using h)
end
section
variable {prog : Program} {w : World} {A : Around} {E : Value → Shared → Prop} {s : Shared} {h₀ : Heap} {L : Addr} {news : List (Addr × Obj)}
theorem ne_strsN {a b : Addr} {e1 e2 : Nat} {vs us : List Value} {ns : List Str} {Q : Value → Shared → Prop} (N : News h₀ L s.heap news) (m1 : (a, lstO vs e1) ∈ news) (m2 : (b, lstO us e2) ∈ news) (hi : StrsAre vs ns) (hi' : StrsAre us ns) (h1 : ∀ x ∈ ns, PyData.strOk x = true) (hu : A.units + 64 < cLine)
    (h : Q (.bool false) s) : wpAny (model prog w) A (compareOp .NotEq (.ref a) (.ref b)) Q E s := ne_strs_no ⟨_, (N _ m1).1, rfl, _, rfl⟩ hi ⟨_, (N _ m2).1, rfl, _, rfl⟩ hi' h1 hu h
theorem eq_strsN {a b : Addr} {e1 e2 : Nat} {vs us : List Value} {ns : List Str} {Q : Value → Shared → Prop} (N : News h₀ L s.heap news) (m1 : (a, lstO vs e1) ∈ news) (m2 : (b, lstO us e2) ∈ news) (hi : StrsAre vs ns) (hi' : StrsAre us ns) (h1 : ∀ x ∈ ns, PyData.strOk x = true) (hu : A.units + 64 < cLine)
    (h : Q (.bool true) s) : wpAny (model prog w) A (compareOp .Eq (.ref a) (.ref b)) Q E s := eq_strs_yes ⟨_, (N _ m1).1, rfl, _, rfl⟩ hi ⟨_, (N _ m2).1, rfl, _, rfl⟩ hi' h1 hu h
end
theorem lt_or {x y : Str} (h : x ≠ y) : LtS x y ∨ LtS y x := by
  have hn : x.cps.toList ≠ y.cps.toList := fun e => h (by cases x; cases y; simp only [Str.mk.injEq]; exact Array.toList_inj.mp e)
  unfold LtS
  by_cases h1 : x.cps.toList < y.cps.toList
  · exact .inl h1
  · by_cases h2 : y.cps.toList < x.cps.toList
    · exact .inr h2
    · exact absurd (List.le_antisymm (List.not_lt.mp h2) (List.not_lt.mp h1)) hn
section
variable (w : World) (loose : List Str) (mean : ExcName → Option Value) (mg mb : Str → Option Value)
theorem scLt (x y : Str) (tx ty : Tok) (h : LtS x y) : HC w loose mean mg mb 10 70 [.str x tx, .str y ty] [] (fun _ => True) (fun v now => now = [] ∧ ∃ t, v = .int (-1) t) := by
  have := strcoll_H w loose mean mg mb x y tx ty
  rw [decide_eq_true (show x.cps.toList < y.cps.toList from h), decide_eq_false (show ¬ y.cps.toList < x.cps.toList from List.lt_asymm h)] at this
  exact this
theorem scGt (x y : Str) (tx ty : Tok) (h : LtS y x) : HC w loose mean mg mb 10 70 [.str x tx, .str y ty] [] (fun _ => True) (fun v now => now = [] ∧ ∃ t, v = .int 1 t) := by
  have := strcoll_H w loose mean mg mb x y tx ty
  rw [decide_eq_true (show y.cps.toList < x.cps.toList from h), decide_eq_false (show ¬ x.cps.toList < y.cps.toList from List.lt_asymm h)] at this
  exact this
end
end
section
section
open LCg
noncomputable def CondEnd (h₀ : Heap) (L : Addr) (m : Str → Option Value) (s₁ : Shared) (I : Addr) (oI : Obj) (C : Addr) (oC : Obj) (D : Addr) (Nx : List (Addr × Obj) → Prop) (ok : Bool) (s₂ : Shared) : Prop :=
  ok = false ∧ ∃ h' tk news', s₂ = { s₁ with heap := h', toks := tk } ∧ Fr h₀ L h' m ∧ News h₀ L h' ((I, oI) :: (C, oC) :: (D, lst []) :: news') ∧ Off3 I C D news' ∧ Nx news'
noncomputable def CondTurn (prog : Program) (w : World) (A : Around) (h₀ : Heap) (L : Addr) (m : Str → Option Value) (env : Env) (c : Expr) (x : Str) (scope : Scope) (cl : List (Str × Addr)) (s : Shared) (Inv : Nat → List (Addr × Obj) → Prop) (i : Nat) (k : Int) : Prop :=
  ∀ news v t I oI C oC D m₂ h tk (E' : Value → Shared → Prop), v = .int k t → NsObj oC m₂ → m₂ x = some v → Fr h₀ L h m → News h₀ L h ((I, oI) :: (C, oC) :: (D, lst []) :: news) → Off3 I C D news → ((@Ne Nat I C) ∧ (@Ne Nat I D) ∧ (@Ne Nat C D)) → Inv i news →
    wpAny (model prog w) A (isTrue c (compEnvC scope cl C env) (eval c (compEnvC scope cl C env))) (CondEnd h₀ L m { s with heap := h, toks := tk } I oI C oC D (Inv (i + 1))) E' { s with heap := h, toks := tk }
variable {prog : Program} {w : World} {A : Around} {E : Value → Shared → Prop} {s : Shared} {h₀ : Heap} {L : Addr} {m : Str → Option Value} {env : Env}
end
section
open LCg
namespace Z_block_I
noncomputable def zP (prog : Program) (w : World) (A : Around) (E : Value → Shared → Prop) (s : Shared) (h₀ : Heap) (L : Addr) (m : Str → Option Value) (env : Env) (elt : Expr) (iter : Expr) (c : Expr) (x : Str) (px : Pos) (scope : Scope) (cl : List (Str × Addr)) (pos : Pos) (I : Addr) (a : Int) (st : Int) (n : Nat) (news : List (Addr × Obj)) (Inv : Nat → List (Addr × Obj) → Prop) (RR : Value → Addr → Result → Shared → Prop) : Prop := ∀ (hh : A.handled = none) (hit : IsRangeIter s.heap I a n st) (hcell : ∀ y ∈ scope.names, y.2 ≠ .cell) (hkind : scope.kind = .function) (hx : scope.names.lookup x = some .local) (F : Fr h₀ L s.heap m) (N : News h₀ L s.heap news) (hIL : L ≠ I) (hI₀ : h₀.get? I = none) (off : ∀ p ∈ news, p.1 ≠ I) (h0 : Inv 0 news) (turn : ∀ i, i < n → CondTurn prog w A h₀ L m env c x scope cl s Inv i (a + i * st)) (fin : ∀ D C h tk m' news', Fr h₀ L h m → News h₀ L h ((D, lst []) :: news') → Off1 D news' → h.Ns C m' → h₀.get? C = none → h₀.get? D = none → C ≠ L → D ≠ L → C ≠ D → (∀ p ∈ news', p.1 ≠ C) → Inv n news' → RR (.ref D) C (.ok .next) { s with heap := h, toks := tk }), wpAny (model prog w) A (newList []) (fun acc s₃ => wpAny (model prog w) A (newFunctionEnv scope env.globals cl [] env.qual none .none (some env)) (fun cenv s₄ =>
      codeAny (model prog w) A (.compStart (.ListComp elt [⟨.Name x px, iter, [c], 0⟩] scope pos) 0 (.ref I) acc { cenv with scope := relabel scope env }) (RR acc cenv.locals) s₄) E s₃) E s
noncomputable def zk : DD := pickD fun c => zP (c.fP 0) (c.fW 0) (c.fAr 0) (c.fE 0) (c.fSh 0) (c.fH 0) (c.fA 0) (c.fMp 0) (c.fEnv 0) (c.fEx 0) (c.fEx 1) (c.fEx 2) (c.fS 0) (c.fPo 0) (c.fSc 0) (c.fCl 0) (c.fPo 1) (c.fA 1) (c.fI 0) (c.fI 1) (c.fN 0) (c.fLed 0) (c.fIv 0) (c.fRR 0)
noncomputable section
@[irreducible] def prog : Program := zk.fP 0
@[irreducible] def w : World := zk.fW 0
@[irreducible] def A : Around := zk.fAr 0
@[irreducible] def E : Value → Shared → Prop := zk.fE 0
@[irreducible] def s : Shared := zk.fSh 0
@[irreducible] def h₀ : Heap := zk.fH 0
@[irreducible] def L : Addr := zk.fA 0
@[irreducible] def m : Str → Option Value := zk.fMp 0
@[irreducible] def env : Env := zk.fEnv 0
@[irreducible] def elt : Expr := zk.fEx 0
@[irreducible] def iter : Expr := zk.fEx 1
@[irreducible] def c : Expr := zk.fEx 2
@[irreducible] def x : Str := zk.fS 0
@[irreducible] def px : Pos := zk.fPo 0
@[irreducible] def scope : Scope := zk.fSc 0
@[irreducible] def cl : List (Str × Addr) := zk.fCl 0
@[irreducible] def pos : Pos := zk.fPo 1
@[irreducible] def I : Addr := zk.fA 1
@[irreducible] def a : Int := zk.fI 0
@[irreducible] def st : Int := zk.fI 1
@[irreducible] def n : Nat := zk.fN 0
@[irreducible] def news : List (Addr × Obj) := zk.fLed 0
@[irreducible] def Inv : Nat → List (Addr × Obj) → Prop := zk.fIv 0
@[irreducible] def RR : Value → Addr → Result → Shared → Prop := zk.fRR 0
end
theorem zcore : zP prog w A E s h₀ L m env elt iter c x px scope cl pos I a st n news Inv RR := by
  unfold zP
  intro hh hit hcell hkind hx F N hIL hI₀ off h0 turn fin
  have W := Walks.range (prog := prog) (w := w) (A := A) hh I a st n
  have lt_of : ∀ {b o}, s.heap.get? b = some o → b < s.heap.objs.size := fun e => Heap.lt_size e
  have none_of : ∀ b, s.heap.objs.size ≤ b → h₀.get? b = none := fun b hb => by
    cases e : h₀.get? b with
    | none => rfl
    | some o => exact absurd (lt_of (F.keep b o e)) (Nat.not_lt.mpr hb)
  have hLlt : L < s.heap.objs.size := F.ns.lt
  have hIlt : I < s.heap.objs.size := lt_of hit
  refine wpAny_newObj_type (wpAny_newFunctionEnv hcell (by intro y hy; simp at hy) (fun hp hns hsb => ?_) hkind)
  dsimp only at hns hsb ⊢
  obtain ⟨H, hH⟩ : ∃ H, s.heap.push { cls := .type "list", dict := none, data := .seq ([] : List Value).toArray } = H := ⟨_, rfl⟩
  rw [hH] at hns hsb ⊢
  have hsz : H.objs.size = s.heap.objs.size + 1 := by rw [← hH, Heap.size_push]
  have toH : ∀ b o, s.heap.get? b = some o → H.get? b = some o := fun b o e => hH ▸ Heap.get?_push_of_some _ e
  generalize hD : s.heap.objs.size = D at *
  generalize hC : H.objs.size = C at *
  have hCD : C ≠ D := by rw [hsz]; exact Nat.succ_ne_self D
  have neC : ∀ b, b < D → b ≠ C := fun b hb => by rw [hsz]; exact Nat.ne_of_lt (Nat.lt_succ_of_lt hb)
  have up : ∀ b o, s.heap.get? b = some o → hp.get? b = some o := fun b o e => hsb.extBut b o (neC b (lt_of e)) (Heap.get?_push_of_some _ (toH b o e))
  have hacc : hp.get? D = some (lst []) := hsb.extBut _ _ (Ne.symm hCD) (Heap.get?_push_of_some _ (by rw [← hH, ← hD]; exact Heap.get?_push_size (o := lst []) _ rfl))
  have C₀ : h₀.get? C = none := none_of _ (by rw [hsz]; exact Nat.le_succ D)
  have D₀ : h₀.get? D = none := none_of _ (Nat.le_refl D)
  have hCL : C ≠ L := Ne.symm (neC L hLlt)
  have hDL : D ≠ L := Ne.symm (Nat.ne_of_lt hLlt)
  have hIC : I ≠ C := neC I hIlt
  have hID : I ≠ D := Nat.ne_of_lt hIlt
  have it₁ : IsRangeIter hp I (a + ((0 : Nat) : Int) * st) ((n : Int) - ((0 : Nat) : Int)) st := by
    have : IsRangeIter hp I a n st := up _ _ hit
    simpa using this
  have main : codeAny (model prog w) A (.compLoop (.ListComp elt [⟨.Name x px, iter, [c], 0⟩] scope pos) 0 (.ref I) (.ref D) (compEnvC scope cl C env)) (RR (.ref D) C) { s with heap := hp, toks := s.toks + ([] : List (Str × Value)).length } := by
    refine codeAny_compLoop_tests (fun k s' => ∃ h' tk i m' nw, s' = { s with heap := h', toks := tk } ∧ i ≤ n ∧ k = n - i ∧ IsRangeIter h' I (a + (i : Int) * st) ((n : Int) - (i : Int)) st ∧ Fr h₀ L h' m ∧ h'.Ns C m' ∧ News h₀ L h' ((D, lst []) :: nw) ∧ Off3 I C D nw ∧ Inv i nw) ?_ n
      ⟨hp, _, 0, _, news, rfl, Nat.zero_le _, rfl, it₁, F.keeps up, hns, fun p hm => ?_, Off3.of fun p hm => ⟨off p hm, neC _ (lt_of (N p hm).1), Nat.ne_of_lt (lt_of (N p hm).1)⟩, h0⟩
    · rintro k s' ⟨h', tk, i, m', nw, rfl, hi, rfl, it, F', n', N', off', inv⟩
      have o3 := off'.mem
      have N₁ : ∀ h₂, (∀ b o, b ∉ [I] → h'.get? b = some o → h₂.get? b = some o) → News h₀ L h₂ ((D, lst []) :: nw) := fun h₂ hk => news_but N' hk fun p hm => by
        rcases List.mem_cons.mp hm with rfl | hm
        · exact Ne.symm hID
        · exact (o3 p hm).1
      rcases Nat.lt_or_ge i n with lt | ge
      · refine W.item i _ _ _ lt it fun v h₂ tk₂ hv it₂ hk => ?_
        refine wpAny_assign_Name (wpAny_storeName_local (lookup_relabel_local hx) (n'.at' fun o e => hk _ o (by simpa using Ne.symm hIC) e) (fun h₃ n₃ sb => ?_) (by simp [compEnvC, relabel, hkind]))
        have F₃ : Fr h₀ L h₃ m := (fr_but F' hk hIL hI₀).change sb hCL C₀
        have it₃ : IsRangeIter h₃ I (a + ((i + 1 : Nat) : Int) * st) ((n : Int) - ((i + 1 : Nat) : Int)) st := sb.extBut _ _ hIC it₂
        obtain ⟨oC, eC, hoC⟩ := ns_obj n₃
        obtain ⟨oI, eI, hoI⟩ : ∃ oI, h₃.get? I = some oI ∧ ∀ g : Heap, g.get? I = some oI → IsRangeIter g I (a + ((i + 1 : Nat) : Int) * st) ((n : Int) - ((i + 1 : Nat) : Int)) st := ⟨_, it₃, fun g e => e⟩
        have N₃ : News h₀ L h₃ ((I, oI) :: (C, oC) :: (D, lst []) :: nw) := fun p hm => by
          rcases List.mem_cons.mp hm with rfl | hm
          · exact ⟨eI, Ne.symm hIL, hI₀⟩
          rcases List.mem_cons.mp hm with rfl | hm
          · exact ⟨eC, hCL, C₀⟩
          have z := N₁ h₂ hk p hm
          refine ⟨sb.extBut _ _ ?_ z.1, z.2⟩
          rcases List.mem_cons.mp hm with rfl | hm
          · exact Ne.symm hCD
          · exact (o3 p hm).2.1
        obtain ⟨t, rfl⟩ := hv
        refine wpAny_tests_one (wpAny_mono (turn i lt nw _ t I oI C oC D _ h₃ _ _ rfl hoC (by simp) F₃ N₃ off' ⟨hIC, hID, hCD⟩ inv) (fun ok s₄ e4 => ?_) fun _ _ e => e)
        obtain ⟨rfl, h₄, tk₄, nw₄, rfl, F₄, N₄, off₄, inv₄⟩ := e4
        refine ⟨n - (i + 1), by omega, h₄, tk₄, i + 1, _, nw₄, rfl, lt, rfl, hoI _ (N₄ _ (.head _)).1, F₄, hoC.ns (N₄ _ (.tail _ (.head _))).1, fun p hm => N₄ p (.tail _ (.tail _ hm)), off₄, inv₄⟩
      · obtain rfl : i = n := Nat.le_antisymm hi ge
        refine W.done _ _ _ it fun h₂ tk₂ hk => ?_
        exact fin D C h₂ tk₂ _ nw (fr_but F' hk hIL hI₀) (N₁ h₂ hk) off'.one (n'.at' fun o e => hk _ o (by simpa using Ne.symm hIC) e) C₀ D₀ hCL hDL hCD (fun p hm => (o3 p hm).2.1) inv
    · rcases List.mem_cons.mp hm with rfl | hm
      · exact ⟨hacc, hDL, D₀⟩
      · exact ⟨up _ _ (N p hm).1, (N p hm).2⟩
  exact codeAny_compStart_list main (W.self 0 _ _ _ it₁ main)
theorem zall : ∀ c : DD, zP (c.fP 0) (c.fW 0) (c.fAr 0) (c.fE 0) (c.fSh 0) (c.fH 0) (c.fA 0) (c.fMp 0) (c.fEnv 0) (c.fEx 0) (c.fEx 1) (c.fEx 2) (c.fS 0) (c.fPo 0) (c.fSc 0) (c.fCl 0) (c.fPo 1) (c.fA 1) (c.fI 0) (c.fI 1) (c.fN 0) (c.fLed 0) (c.fIv 0) (c.fRR 0) := allD (by with_unfolding_all exact zcore)
end Z_block_I
theorem block_I {prog : Program} {w : World} {A : Around} {E : Value → Shared → Prop} {s : Shared} {h₀ : Heap} {L : Addr} {m : Str → Option Value} {env : Env} {elt iter c : Expr} {x : Str} {px : Pos} {scope : Scope} {cl : List (Str × Addr)} {pos : Pos} {I : Addr} {a st : Int} {n : Nat} {news : List (Addr × Obj)} {Inv : Nat → List (Addr × Obj) → Prop} {RR : Value → Addr → Result → Shared → Prop}
    (hh : A.handled = none) (hit : IsRangeIter s.heap I a n st) (hcell : ∀ y ∈ scope.names, y.2 ≠ .cell) (hkind : scope.kind = .function) (hx : scope.names.lookup x = some .local)
    (F : Fr h₀ L s.heap m) (N : News h₀ L s.heap news) (hIL : L ≠ I) (hI₀ : h₀.get? I = none) (off : ∀ p ∈ news, p.1 ≠ I) (h0 : Inv 0 news)
    (turn : ∀ i, i < n → CondTurn prog w A h₀ L m env c x scope cl s Inv i (a + i * st))
    (fin : ∀ D C h tk m' news', Fr h₀ L h m → News h₀ L h ((D, lst []) :: news') → Off1 D news' → h.Ns C m' → h₀.get? C = none → h₀.get? D = none → C ≠ L → D ≠ L → C ≠ D → (∀ p ∈ news', p.1 ≠ C) → Inv n news' → RR (.ref D) C (.ok .next) { s with heap := h, toks := tk }) :
    wpAny (model prog w) A (newList []) (fun acc s₃ => wpAny (model prog w) A (newFunctionEnv scope env.globals cl [] env.qual none .none (some env)) (fun cenv s₄ =>
      codeAny (model prog w) A (.compStart (.ListComp elt [⟨.Name x px, iter, [c], 0⟩] scope pos) 0 (.ref I) acc { cenv with scope := relabel scope env }) (RR acc cenv.locals) s₄) E s₃) E s := by
  exact Z_block_I.zall ⟨fun _ => w, anyD.fLs, anyD.fMe, fun _ => m, fun i => [L, I].getD i L, fun _ => n, fun i => [a, st].getD i a, anyD.fT, anyD.fV, fun _ => x, anyD.fO, fun _ => h₀, fun _ => s, anyD.fLv, anyD.fLi, anyD.fLn, anyD.fLb, fun _ => news, anyD.fQ, fun _ => E, anyD.fB, anyD.fIt, anyD.fAv, anyD.fB3, anyD.fGd, anyD.fEn, fun _ => A, anyD.fOv, anyD.fOp, anyD.fLa, fun _ => env, anyD.fSs, anyD.fSt, fun _ => scope, fun _ => prog, fun i => [elt, iter, c].getD i elt, anyD.fR, fun i => [px, pos].getD i px, fun _ => cl, anyD.fY, fun _ => RR, anyD.fBB, anyD.fNl, anyD.fOa, anyD.fFd, anyD.fAo, anyD.fDe, fun _ => Inv⟩ hh hit hcell hkind hx F N hIL hI₀ off h0 turn fin

variable {prog : Program} {w : World} {A : Around} {E : Value → Shared → Prop} {s : Shared} {h₀ : Heap} {L : Addr} {m : Str → Option Value} {env : Env}
noncomputable def SrcI (prog : Program) (w : World) (A : Around) (h₀ : Heap) (L : Addr) (m : Str → Option Value) (env : Env) (c : Expr) (x : Str) (scope : Scope) (cl : List (Str × Addr)) (Q : Value → Shared → Prop) (xv : Value) (s₁ : Shared) : Prop :=
  ∃ r a b st t u v n news Inv, xv = .ref r ∧ A.handled = none ∧ Fr h₀ L s₁.heap m ∧ News h₀ L s₁.heap news ∧ IsRange s₁.heap r a b st t u v ∧ Builtin.Range.small a b st = true ∧ Builtin.Range.rangeSize a b st = ((n : Nat) : Int) ∧ Inv 0 news ∧
    (∀ s₂ : Shared, (∃ h, s₂ = { s₁ with heap := h }) → ∀ i, i < n → CondTurn prog w A h₀ L m env c x scope cl s₂ Inv i (a + (i : Int) * st)) ∧
    ∀ nw D h tk, Inv n nw → Fr h₀ L h m → News h₀ L h ((D, lst []) :: nw) → Off1 D nw → Q (.ref D) { s₁ with heap := h, toks := tk }
theorem ListComp_I {elt iter c : Expr} {x : Str} {px : Pos} {scope : Scope} {cl : List (Str × Addr)} {pos : Pos} {Q : Value → Shared → Prop} (_F₀ : Fr h₀ L s.heap m)
    (hclos : closureFor scope env = pure cl) (hcell : ∀ y ∈ scope.names, y.2 ≠ .cell) (hkind : scope.kind = .function)
    (hnames : ∀ y ∈ scope.names, y.2 = .local → scope.names.lookup y.1 = some .local) (hx : scope.names.lookup x = some .local)
    (h : wpAny (model prog w) A (eval iter env) (SrcI prog w A h₀ L m env c x scope cl Q) E s)
    (hs : ∀ x, foldedSetIterable iter env x = pure x := by intro _; rfl) :
    wpAny (model prog w) A (eval (.ListComp elt [⟨.Name x px, iter, [c], 0⟩] scope pos) env) Q E s := by
  rw [eval_ListComp]
  refine wpAny_comprehension_free (use := none) rfl hs hclos hkind hnames (wpAny_mono h (fun xv s₁ h₁ => ?_) fun _ _ e => e)
  obtain ⟨r, a, b, st, t, u, v, n, news, Inv, rfl, hh, F, N, hr, hsm, hn, h0, turn, fin⟩ := h₁
  refine wpAny_pyIter_range hr hsm ?_
  refine block_I (Inv := Inv) (n := n) hh (by show IsRangeIter _ _ _ _ _; rw [hn]; exact Heap.get?_push_size _ rfl) hcell hkind hx (F.keeps fun _ _ e => Heap.get?_push_of_some _ e) (N.grown fun _ _ e => Heap.get?_push_of_some _ e)
    (Nat.ne_of_lt F.ns.lt) (next_is_new F) (fun p hp => Nat.ne_of_lt (Heap.lt_size (N p hp).1)) h0 (turn _ ⟨_, rfl⟩) ?_
  intro D C h tk m' nw F' N' o1 hn' C₀ D₀ hCL hDL hCD offC inv
  refine ⟨m', hn', fun h'' hs'' => fin nw D h'' tk inv (F'.change hs'' hCL C₀) (fun p hp => ?_) o1⟩
  refine ⟨hs''.extBut _ _ ?_ (N' p hp).1, (N' p hp).2⟩
  rcases List.mem_cons.mp hp with rfl | hp
  · exact Ne.symm hCD
  · exact offC p hp
end
end
section
section
variable {prog : Program} {w : World} {A : Around} {R : Result → Shared → Prop} {s : Shared}
noncomputable abbrev comp2 (elt : Expr) (x y : Str) (px py : Pos) (i0 i1 : Expr) (scope : Scope) (pos : Pos) : Expr := .ListComp elt [⟨.Name x px, i0, [], 0⟩, ⟨.Name y py, i1, [], 0⟩] scope pos
theorem turn_in (elt : Expr) (x y : Str) (px py : Pos) (i0 i1 : Expr) (scope : Scope) (pos : Pos) (it acc : Value) (env : Env) :
    compTurn (comp2 elt x y px py i0 i1 scope pos) 1 it acc env = (standAt i1.pos >>= fun _ => pyNext it >>= fun r => match r with
      | none => pure (.done .next)
      | some v => letOwnedTupleGo (.Name y py) it v >>= fun _ => assign (.Name y py) env v >>= fun _ =>
        (eval elt env >>= fun x => call (.builtin "list.append") [acc, x] >>= fun _ => pure ()) >>= fun _ =>
          again (.compLoop (comp2 elt x y px py i0 i1 scope pos) 1 it acc env)) := by rfl
theorem turn_out (elt : Expr) (x y : Str) (px py : Pos) (i0 i1 : Expr) (scope : Scope) (pos : Pos) (it acc : Value) (env : Env) :
    compTurn (comp2 elt x y px py i0 i1 scope pos) 0 it acc env = (standAt i0.pos >>= fun _ => pyNext it >>= fun r => match r with
      | none => pure (.done .next)
      | some v => letOwnedTupleGo (.Name x px) it v >>= fun _ => assign (.Name x px) env v >>= fun _ =>
        eval i1 env >>= fun z => standAt i1.pos >>= fun _ => foldedSetIterable i1 env z >>= fun z => holding [z] (pyIter z) >>= fun it' => runOwn (.compStart (comp2 elt x y px py i0 i1 scope pos) 1 it' acc env) env >>= fun _ =>
          again (.compLoop (comp2 elt x y px py i0 i1 scope pos) 0 it acc env)) := by rfl
theorem loop_in {elt : Expr} {x y : Str} {px py : Pos} {i0 i1 : Expr} {scope : Scope} {pos : Pos} {it acc : Value} {env : Env} (I : Nat → Shared → Prop)
    (turn : ∀ n s, I n s → ∀ E', wpAny (model prog w) A (pyNext it) (fun r s₁ => match r with
      | none => R (.ok .next) s₁
      | some v => ∀ E', wpAny (model prog w) A (assign (.Name y py) env v) (fun _ s₂ => ∀ E', wpAny (model prog w) A (eval elt env) (fun x s₃ => ∀ E', 
          wpAny (model prog w) A (call (.builtin "list.append") [acc, x]) (fun _ s₄ => ∃ m, m < n ∧ I m s₄) E' s₃) E' s₂) E' s₁) E' s)
    (n : Nat) (h : I n s) : codeAny (model prog w) A (.compLoop (comp2 elt x y px py i0 i1 scope pos) 1 it acc env) R s := by
  refine codeAny_loop rfl I (fun n s hI => ?_) n h
  show wpAny _ A ((compTurn (comp2 elt x y px py i0 i1 scope pos) 1 it acc env).onRaise (fun x => do noteFrame x env; theTreesLotGoes x)) _ _ s
  refine wpAny_noted ?_
  rw [turn_in]
  refine wpAny_bind (wpAny_standAt (wpAny_bind (wpAny_mono (turn n s hI _) (fun r s₁ h₁ => ?_) fun _ _ h' => h')))
  cases r with
  | none => exact wpAny_pure h₁
  | some v =>
    refine wpAny_bind (wpAny_of_eq (a := ()) (by rfl) ?_)
    exact wpAny_bind (wpAny_mono (h₁ _) (fun _ s₂ h₂ => wpAny_bind (wpAny_bind (wpAny_mono (h₂ _) (fun x s₃ h₃ => wpAny_bind (wpAny_mono (h₃ _)
      (fun _ s₄ h₄ => wpAny_pure (wpAny_pure ⟨rfl, h₄⟩)) fun _ _ h' => h')) fun _ _ h' => h'))) fun _ _ h' => h')
theorem loop_out {elt : Expr} {x y : Str} {px py : Pos} {i0 i1 : Expr} {scope : Scope} {pos : Pos} {it acc : Value} {env : Env} (I : Nat → Shared → Prop)
    (turn : ∀ n s, I n s → ∀ E', wpAny (model prog w) A (pyNext it) (fun r s₁ => match r with
      | none => R (.ok .next) s₁
      | some v => ∀ E', wpAny (model prog w) A (assign (.Name x px) env v) (fun _ s₂ => ∀ E', wpAny (model prog w) A (eval i1 env) (fun z s₃ => ∀ E',
          wpAny (model prog w) A (pyIter z) (fun it' s₄ => ∀ RE : Value → Shared → Prop, codeAny (model prog w) A (.compStart (comp2 elt x y px py i0 i1 scope pos) 1 it' acc env) (fun r s₅ => match r with | .ok _ => ∃ m, m < n ∧ I m s₅ | .error e => RE e s₅) s₄) E' s₃) E' s₂) E' s₁) E' s)
    (n : Nat) (h : I n s) (hs : ∀ z, foldedSetIterable i1 env z = pure z) : codeAny (model prog w) A (.compLoop (comp2 elt x y px py i0 i1 scope pos) 0 it acc env) R s := by
  refine codeAny_loop rfl I (fun n s hI => ?_) n h
  show wpAny _ A ((compTurn (comp2 elt x y px py i0 i1 scope pos) 0 it acc env).onRaise (fun x => do noteFrame x env; theTreesLotGoes x)) _ _ s
  refine wpAny_noted ?_
  rw [turn_out]
  refine wpAny_bind (wpAny_standAt (wpAny_bind (wpAny_mono (turn n s hI _) (fun r s₁ h₁ => ?_) fun _ _ h' => h')))
  cases r with
  | none => exact wpAny_pure h₁
  | some v =>
    refine wpAny_bind (wpAny_of_eq (a := ()) (by rfl) ?_)
    refine wpAny_bind (wpAny_mono (h₁ _) (fun _ s₂ h₂ => wpAny_bind (wpAny_mono (h₂ _) (fun z s₃ h₃ => ?_) fun _ _ h' => h')) fun _ _ h' => h')
    refine wpAny_bind (wpAny_standAt ?_)
    rw [hs]
    refine wpAny_bind (wpAny_pure (wpAny_bind (wpAny_holding (wpAny_mono (h₃ _) (fun it' s₄ h₄ => ?_) fun _ _ h' => h'))))
    refine wpAny_bind (wpAny_runOwn (h := none) ?_)
    rw [Around.mark_none]
    refine codeAny_mono (h₄ (cameBackBy (model prog w) A env (notedBy (model prog w) A env fun e s' => R (.error e) s'))) fun r s₅ h₅ => ?_
    cases r with
    | ok f => exact wpAny_pure ⟨rfl, h₅⟩
    | error e => exact h₅
end
section
open LCg
variable {prog : Program} {w : World} {A : Around} {R : Result → Shared → Prop} {E : Value → Shared → Prop} {s : Shared} {h₀ : Heap} {L : Addr} {m : Str → Option Value} {env : Env}
theorem start_in {elt : Expr} {x y : Str} {px py : Pos} {i0 i1 : Expr} {scope : Scope} {pos : Pos} {it acc : Value} {cenv : Env}
    (h0 : codeAny (model prog w) A (.compLoop (comp2 elt x y px py i0 i1 scope pos) 1 it acc cenv) R s)
    (h : ∀ E', wpAny (model prog w) A (pyIter it) (fun it' s' => codeAny (model prog w) A (.compLoop (comp2 elt x y px py i0 i1 scope pos) 1 it' acc cenv) R s') E' s) :
    codeAny (model prog w) A (.compStart (comp2 elt x y px py i0 i1 scope pos) 1 it acc cenv) R s := by
  refine codeAny_of_tree ?_
  show wpAny _ _ ((compStart (comp2 elt x y px py i0 i1 scope pos) 1 it acc cenv).onRaise (fun x => do noteFrame x cenv; standAt theWindowsPlace)) _ _ s
  refine wpAny_notedAt ?_
  unfold compStart
  show wpAny _ _ (ask >>= _) _ _ s
  refine wpAny_bind (wpAny_askSetting (wpAny_ite ?_))
  split
  · exact wpAny_pure (And.intro rfl h0)
  · refine wpAny_bind (wpAny_rule ?_)
    show wpAny _ _ (standAt i1.pos >>= _) _ _ s
    exact wpAny_bind (wpAny_standAt (wpAny_bind (wpAny_mono (h _) (fun it' s' h' => wpAny_pure (And.intro rfl h')) fun _ _ x => x)))
noncomputable def Same (h₀ : Heap) (L : Addr) (m : Str → Option Value) (s : Shared) (led : List (Addr × Obj)) (ok : Prop) (s₂ : Shared) : Prop :=
  ok ∧ ∃ h' tk, s₂ = { s with heap := h', toks := tk } ∧ Fr h₀ L h' m ∧ News h₀ L h' led
noncomputable def YAll (Y : Nat → Value → Prop) (ys : List Value) : Prop := ∀ k v, ys[k]? = some v → Y k v
theorem YAll.snoc {Y : Nat → Value → Prop} {ys : List Value} {v : Value} (h : YAll Y ys) (hv : Y ys.length v) : YAll Y (ys ++ [v]) := fun k u hu => by
  rcases Nat.lt_trichotomy k ys.length with lt | rfl | gt
  · rw [List.getElem?_append_left lt] at hu
    exact h k u hu
  · rw [List.getElem?_append_right (Nat.le_refl _), Nat.sub_self] at hu
    cases hu
    exact hv
  · rw [List.getElem?_append_right (Nat.le_of_lt gt)] at hu
    have : k - ys.length ≠ 0 := by omega
    cases hk : k - ys.length with
    | zero => exact absurd hk this
    | succ q => rw [hk] at hu; cases hu
end
section
open LCg
variable {prog : Program} {w : World} {A : Around} {E : Value → Shared → Prop} {s : Shared} {h₀ : Heap} {L : Addr} {m : Str → Option Value} {env : Env}
theorem news_same {h h' : Heap} {D : Addr} {l : List (Addr × Obj)} (N : News h₀ L h l) (sb : Heap.SameBut D h h') (off : ∀ p ∈ l, p.1 ≠ D) : News h₀ L h' l := fun p hp => ⟨sb.extBut _ _ (off p hp) (N p hp).1, (N p hp).2⟩
noncomputable def Src2in (prog : Program) (w : World) (A : Around) (h₀ : Heap) (L : Addr) (m : Str → Option Value) (env : Env) (i1 : Expr) (scope : Scope) (cl : List (Str × Addr)) (ax : Addr) (news : List (Addr × Obj)) (s : Shared) : Prop :=
  ∀ I oI C oC D ys m₂ h tk (E' : Value → Shared → Prop), NsObj oC m₂ → Fr h₀ L h m → News h₀ L h ((I, oI) :: (C, oC) :: (D, lst ys) :: news) → Off3 I C D news →
    wpAny (model prog w) A (eval i1 (compEnvC scope cl C env)) (fun z => Same h₀ L m { s with heap := h, toks := tk } ((I, oI) :: (C, oC) :: (D, lst ys) :: news) (z = .ref ax)) E' { s with heap := h, toks := tk }
noncomputable def Src2el (prog : Program) (w : World) (A : Around) (h₀ : Heap) (L : Addr) (m : Str → Option Value) (env : Env) (elt : Expr) (x y : Str) (scope : Scope) (cl : List (Str × Addr)) (its : Array Value) (Y : Nat → Value → Prop) (news : List (Addr × Obj)) (s : Shared) : Prop :=
  ∀ i j v u I oI J oJ C oC D ys m₂ h tk (E' : Value → Shared → Prop), its[i]? = some v → its[j]? = some u → NsObj oC m₂ → m₂ x = some v → m₂ y = some u → Fr h₀ L h m → News h₀ L h ((I, oI) :: (J, oJ) :: (C, oC) :: (D, lst ys) :: news) → Off3 I C D news → (∀ p ∈ news, p.1 ≠ J) →
    wpAny (model prog w) A (eval elt (compEnvC scope cl C env)) (fun z => Same h₀ L m { s with heap := h, toks := tk } ((I, oI) :: (J, oJ) :: (C, oC) :: (D, lst ys) :: news) (Y (i * its.size + j) z)) E' { s with heap := h, toks := tk }
end
section
open LCg
namespace Z_block_2
noncomputable def zP (prog : Program) (w : World) (A : Around) (E : Value → Shared → Prop) (s : Shared) (h₀ : Heap) (L : Addr) (m : Str → Option Value) (env : Env) (elt : Expr) (i0 : Expr) (i1 : Expr) (x : Str) (y : Str) (px : Pos) (py : Pos) (scope : Scope) (cl : List (Str × Addr)) (pos : Pos) (I : Addr) (ax : Addr) (oA : Obj) (kA : Nat) (its : Array Value) (news : List (Addr × Obj)) (Y : Nat → Value → Prop) (RR : Value → Addr → Result → Shared → Prop) : Prop := ∀ (hh : A.handled = none) (hit : s.heap.IsListIter I ax 0) (hA : (ax, oA) ∈ news) (hcA : oA.cls = .type "list") (hdA : oA.data = .seq its kA) (hsz : its.size * its.size ≤ sizeLine) (hcell : ∀ y ∈ scope.names, y.2 ≠ .cell) (hkind : scope.kind = .function) (hx : scope.names.lookup x = some .local) (hy : scope.names.lookup y = some .local) (hxy : x ≠ y) (hs : ∀ e z, foldedSetIterable i1 e z = pure z) (F : Fr h₀ L s.heap m) (N : News h₀ L s.heap news) (hIL : L ≠ I) (hI₀ : h₀.get? I = none) (off : ∀ p ∈ news, p.1 ≠ I) (inn : Src2in prog w A h₀ L m env i1 scope cl ax news s) (el : Src2el prog w A h₀ L m env elt x y scope cl its Y news s) (fin : ∀ D C h tk m' ys, Fr h₀ L h m → News h₀ L h ((D, lst ys) :: news) → Off1 D news → h.Ns C m' → h₀.get? C = none → h₀.get? D = none → C ≠ L → D ≠ L → C ≠ D → (∀ p ∈ news, p.1 ≠ C) → ys.length = its.size * its.size → YAll Y ys → RR (.ref D) C (.ok .next) { s with heap := h, toks := tk }), wpAny (model prog w) A (newList []) (fun acc s₃ => wpAny (model prog w) A (newFunctionEnv scope env.globals cl [] env.qual none .none (some env)) (fun cenv s₄ =>
      codeAny (model prog w) A (.compStart (comp2 elt x y px py i0 i1 scope pos) 0 (.ref I) acc { cenv with scope := relabel scope env }) (RR acc cenv.locals) s₄) E s₃) E s
noncomputable def zk : DD := pickD fun c => zP (c.fP 0) (c.fW 0) (c.fAr 0) (c.fE 0) (c.fSh 0) (c.fH 0) (c.fA 0) (c.fMp 0) (c.fEnv 0) (c.fEx 0) (c.fEx 1) (c.fEx 2) (c.fS 0) (c.fS 1) (c.fPo 0) (c.fPo 1) (c.fSc 0) (c.fCl 0) (c.fPo 2) (c.fA 1) (c.fA 2) (c.fO 0) (c.fN 0) (c.fAv 0) (c.fLed 0) (c.fY 0) (c.fRR 0)
noncomputable section
@[irreducible] def prog : Program := zk.fP 0
@[irreducible] def w : World := zk.fW 0
@[irreducible] def A : Around := zk.fAr 0
@[irreducible] def E : Value → Shared → Prop := zk.fE 0
@[irreducible] def s : Shared := zk.fSh 0
@[irreducible] def h₀ : Heap := zk.fH 0
@[irreducible] def L : Addr := zk.fA 0
@[irreducible] def m : Str → Option Value := zk.fMp 0
@[irreducible] def env : Env := zk.fEnv 0
@[irreducible] def elt : Expr := zk.fEx 0
@[irreducible] def i0 : Expr := zk.fEx 1
@[irreducible] def i1 : Expr := zk.fEx 2
@[irreducible] def x : Str := zk.fS 0
@[irreducible] def y : Str := zk.fS 1
@[irreducible] def px : Pos := zk.fPo 0
@[irreducible] def py : Pos := zk.fPo 1
@[irreducible] def scope : Scope := zk.fSc 0
@[irreducible] def cl : List (Str × Addr) := zk.fCl 0
@[irreducible] def pos : Pos := zk.fPo 2
@[irreducible] def I : Addr := zk.fA 1
@[irreducible] def ax : Addr := zk.fA 2
@[irreducible] def oA : Obj := zk.fO 0
@[irreducible] def kA : Nat := zk.fN 0
@[irreducible] def its : Array Value := zk.fAv 0
@[irreducible] def news : List (Addr × Obj) := zk.fLed 0
@[irreducible] def Y : Nat → Value → Prop := zk.fY 0
@[irreducible] def RR : Value → Addr → Result → Shared → Prop := zk.fRR 0
end
theorem zcore : zP prog w A E s h₀ L m env elt i0 i1 x y px py scope cl pos I ax oA kA its news Y RR := by
  unfold zP
  intro hh hit hA hcA hdA hsz hcell hkind hx hy hxy hs F N hIL hI₀ off inn el fin
  have isl : ∀ {h : Heap} {nw}, News h₀ L h nw → (ax, oA) ∈ nw → h.IsList ax its := fun N hm => ⟨oA, (N _ hm).1, hcA, _, hdA⟩
  have hAI : ax ≠ I := off _ hA
  have W := Walks.list (prog := prog) (w := w) (A := A) hh I ax hAI its
  have lt_of : ∀ {b o}, s.heap.get? b = some o → b < s.heap.objs.size := fun e => Heap.lt_size e
  have none_of : ∀ b, s.heap.objs.size ≤ b → h₀.get? b = none := fun b hb => by
    cases e : h₀.get? b with
    | none => rfl
    | some o => exact absurd (lt_of (F.keep b o e)) (Nat.not_lt.mpr hb)
  have hLlt : L < s.heap.objs.size := F.ns.lt
  have hIlt : I < s.heap.objs.size := by obtain ⟨o, e, _⟩ := hit; exact lt_of e
  refine wpAny_newObj_type (wpAny_newFunctionEnv hcell (by intro y hy; simp at hy) (fun hp hns hsb => ?_) hkind)
  dsimp only at hns hsb ⊢
  obtain ⟨H, hH⟩ : ∃ H, s.heap.push { cls := .type "list", dict := none, data := .seq ([] : List Value).toArray } = H := ⟨_, rfl⟩
  rw [hH] at hns hsb ⊢
  have hsz' : H.objs.size = s.heap.objs.size + 1 := by rw [← hH, Heap.size_push]
  have toH : ∀ b o, s.heap.get? b = some o → H.get? b = some o := fun b o e => hH ▸ Heap.get?_push_of_some _ e
  generalize hD : s.heap.objs.size = D at *
  generalize hC : H.objs.size = C at *
  have hCD : C ≠ D := by rw [hsz']; exact Nat.succ_ne_self D
  have neC : ∀ b, b < D → b ≠ C := fun b hb => by rw [hsz']; exact Nat.ne_of_lt (Nat.lt_succ_of_lt hb)
  have up : ∀ b o, s.heap.get? b = some o → hp.get? b = some o := fun b o e => hsb.extBut b o (neC b (lt_of e)) (Heap.get?_push_of_some _ (toH b o e))
  have hacc : hp.get? D = some (lst []) := hsb.extBut _ _ (Ne.symm hCD) (Heap.get?_push_of_some _ (by rw [← hH, ← hD]; exact Heap.get?_push_size (o := lst []) _ rfl))
  have C₀ : h₀.get? C = none := none_of _ (by rw [hsz']; exact Nat.le_succ D)
  have D₀ : h₀.get? D = none := none_of _ (Nat.le_refl D)
  have hCL : C ≠ L := Ne.symm (neC L hLlt)
  have hDL : D ≠ L := Ne.symm (Nat.ne_of_lt hLlt)
  have hIC : I ≠ C := neC I hIlt
  have hID : I ≠ D := Nat.ne_of_lt hIlt
  have off3 : Off3 I C D news := Off3.of fun p hm => ⟨off p hm, neC _ (lt_of (N p hm).1), Nat.ne_of_lt (lt_of (N p hm).1)⟩
  have o3 := off3.mem
  have it₁ : hp.IsListIter I ax 0 := hit.at fun o e => up _ _ e
  have N₀ : News h₀ L hp ((D, lst []) :: news) := fun p hm => by
    rcases List.mem_cons.mp hm with rfl | hm
    · exact ⟨hacc, hDL, D₀⟩
    · exact ⟨up _ _ (N p hm).1, (N p hm).2⟩
  have offD : ∀ p ∈ news, p.1 ≠ D := fun p hm => (o3 p hm).2.2
  have main : codeAny (model prog w) A (.compLoop (comp2 elt x y px py i0 i1 scope pos) 0 (.ref I) (.ref D) (compEnvC scope cl C env)) (RR (.ref D) C) { s with heap := hp, toks := s.toks + ([] : List (Str × Value)).length } := by
    refine loop_out (fun k s' => ∃ h' tk i m' ys, s' = { s with heap := h', toks := tk } ∧ i ≤ its.size ∧ k = its.size - i ∧ h'.IsListIter I ax i ∧ Fr h₀ L h' m ∧ h'.Ns C m' ∧ News h₀ L h' ((D, lst ys) :: news) ∧ ys.length = i * its.size ∧ YAll Y ys) ?_ its.size
      ⟨hp, _, 0, _, [], rfl, Nat.zero_le _, rfl, it₁, F.keeps up, hns, N₀, by simp, fun k v h => by simp at h⟩ (hs _)
    rintro k s' ⟨h', tk, i, m', ys, rfl, hi, rfl, it, F', n', N', hlen, hY⟩ E1
    have nb : ∀ h₂, (∀ b o, b ∉ [I] → h'.get? b = some o → h₂.get? b = some o) → News h₀ L h₂ ((D, lst ys) :: news) := fun h₂ hk => news_but N' hk fun p hm => by
      rcases List.mem_cons.mp hm with rfl | hm
      · exact Ne.symm hID
      · exact (o3 p hm).1
    rcases Nat.lt_or_ge i its.size with lt | ge
    · refine W.item i _ _ _ lt ⟨it, isl N' (.tail _ hA)⟩ fun v h₂ tk₂ hv it₂ hk => ?_
      intro E2
      refine wpAny_assign_Name (wpAny_storeName_local (lookup_relabel_local hx) (n'.at' fun o e => hk _ o (by simpa using Ne.symm hIC) e) (fun h₃ n₃ sb => ?_) (by simp [compEnvC, relabel, hkind]))
      have F₃ : Fr h₀ L h₃ m := (fr_but F' hk hIL hI₀).change sb hCL C₀
      obtain ⟨oC, eC, hoC⟩ := ns_obj n₃
      obtain ⟨oI, eI, hoI⟩ : ∃ oI, h₃.get? I = some oI ∧ ∀ g : Heap, g.get? I = some oI → g.IsListIter I ax (i + 1) := by
        obtain ⟨o, e, r⟩ := it₂.1
        exact ⟨o, sb.extBut _ _ hIC e, fun g e' => ⟨o, e', r⟩⟩
      have N₃ : News h₀ L h₃ ((I, oI) :: (C, oC) :: (D, lst ys) :: news) := fun p hm => by
        rcases List.mem_cons.mp hm with rfl | hm
        · exact ⟨eI, Ne.symm hIL, hI₀⟩
        rcases List.mem_cons.mp hm with rfl | hm
        · exact ⟨eC, hCL, C₀⟩
        refine news_same (nb h₂ hk) sb (fun p hm => ?_) p hm
        rcases List.mem_cons.mp hm with rfl | hm
        · exact Ne.symm hCD
        · exact (o3 p hm).2.1
      intro E3
      refine wpAny_mono (inn I oI C oC D ys _ h₃ _ _ hoC F₃ N₃ off3) (fun z s₄ hz => ?_) fun _ _ e => e
      obtain ⟨rfl, h₄, tk₄, rfl, F₄, N₄⟩ := hz
      intro E4
      refine wpAny_pyIter_list (isl N₄ (.tail _ (.tail _ (.tail _ hA)))) ?_
      intro RE
      obtain ⟨J, hJ⟩ : ∃ J, h₄.objs.size = J := ⟨_, rfl⟩
      obtain ⟨h₅, hh5⟩ : ∃ h₅, h₄.push { cls := .type "list_iterator", data := .fields #[.ref ax, .int 0 0] } = h₅ := ⟨_, rfl⟩
      dsimp only
      rw [hJ, hh5]
      have up5 : ∀ b o, h₄.get? b = some o → h₅.get? b = some o := fun b o e => hh5 ▸ Heap.get?_push_of_some _ e
      have N₅ : News h₀ L h₅ ((I, oI) :: (C, oC) :: (D, lst ys) :: news) := N₄.grown up5
      have F₅ := F₄.keeps up5
      have ltJ : ∀ {b o}, h₄.get? b = some o → b ≠ J := fun e => by rw [← hJ]; exact Nat.ne_of_lt (Heap.lt_size e)
      have J₀ : h₀.get? J = none := by
        cases e : h₀.get? J with
        | none => rfl
        | some o => exact absurd rfl (ltJ (F₄.keep _ _ e))
      have hLJ : L ≠ J := by
        obtain ⟨oL, _, _, eL, _⟩ := F₄.ns
        exact ltJ eL
      have hIJ : I ≠ J := ltJ (N₄ _ (.head _)).1
      have hCJ : C ≠ J := ltJ (N₄ _ (.tail _ (.head _))).1
      have hDJ : D ≠ J := ltJ (N₄ _ (.tail _ (.tail _ (.head _)))).1
      have offJ : ∀ p ∈ news, p.1 ≠ J := fun p hm => ltJ (N₄ p (.tail _ (.tail _ (.tail _ hm)))).1
      have hAJ : ax ≠ J := offJ _ hA
      have W2 := Walks.list (prog := prog) (w := w) (A := A) hh J ax hAJ its
      have it₅ : h₅.IsListIter J ax 0 := ⟨_, by rw [← hh5, ← hJ]; exact Heap.get?_push_size _ rfl, rfl, rfl⟩
      have inner : codeAny (model prog w) A (.compLoop (comp2 elt x y px py i0 i1 scope pos) 1 (.ref J) (.ref D) (compEnvC scope cl C env))
          (fun r s₅ => match r with | .ok _ => ∃ k, k < its.size - i ∧ ∃ h' tk i m' ys, s₅ = { s with heap := h', toks := tk } ∧ i ≤ its.size ∧ k = its.size - i ∧ h'.IsListIter I ax i ∧ Fr h₀ L h' m ∧ h'.Ns C m' ∧ News h₀ L h' ((D, lst ys) :: news) ∧ ys.length = i * its.size ∧ YAll Y ys | .error e => RE e s₅)
          { s with heap := h₅, toks := tk₄ } := by
        refine loop_in (fun k s' => ∃ h' tk j m' ys, s' = { s with heap := h', toks := tk } ∧ j ≤ its.size ∧ k = its.size - j ∧ h'.IsListIter J ax j ∧ Fr h₀ L h' m ∧ h'.Ns C m' ∧ m' x = some v ∧ News h₀ L h' ((I, oI) :: (D, lst ys) :: news) ∧ ys.length = i * its.size + j ∧ YAll Y ys) ?_ its.size
          ⟨h₅, _, 0, _, ys, rfl, Nat.zero_le _, rfl, it₅, F₅, hoC.ns (N₅ _ (.tail _ (.head _))).1, by simp, nd2 N₅, by simpa using hlen, hY⟩
        rintro k s' ⟨h', tk, j, m₆, ys₆, rfl, hj, rfl, it₆, F₆, n₆, hm₆, N₆, hlen₆, hY₆⟩ E5
        have nb6 : ∀ h₂, (∀ b o, b ∉ [J] → h'.get? b = some o → h₂.get? b = some o) → News h₀ L h₂ ((I, oI) :: (D, lst ys₆) :: news) := fun h₂ hk => news_but N₆ hk fun p hm => by
          rcases List.mem_cons.mp hm with rfl | hm
          · exact hIJ
          rcases List.mem_cons.mp hm with rfl | hm
          · exact hDJ
          · exact offJ p hm
        rcases Nat.lt_or_ge j its.size with ltj | gej
        · refine W2.item j _ _ _ ltj ⟨it₆, isl N₆ (.tail _ (.tail _ hA))⟩ fun u h₇ tk₇ hu it₇ hk₇ => ?_
          intro E6
          refine wpAny_assign_Name (wpAny_storeName_local (lookup_relabel_local hy) (n₆.at' fun o e => hk₇ _ o (by simpa using hCJ) e) (fun h₈ n₈ sb₈ => ?_) (by simp [compEnvC, relabel, hkind]))
          have F₈ : Fr h₀ L h₈ m := (fr_but F₆ hk₇ hLJ J₀).change sb₈ hCL C₀
          obtain ⟨oC8, eC8, hoC8⟩ := ns_obj n₈
          obtain ⟨oJ, eJ, hoJ⟩ : ∃ oJ, h₈.get? J = some oJ ∧ ∀ g : Heap, g.get? J = some oJ → g.IsListIter J ax (j + 1) := by
            obtain ⟨o, e, r⟩ := it₇.1
            exact ⟨o, sb₈.extBut _ _ (Ne.symm hCJ) e, fun g e' => ⟨o, e', r⟩⟩
          have N8' : News h₀ L h₈ ((I, oI) :: (D, lst ys₆) :: news) := news_same (nb6 h₇ hk₇) sb₈ fun p hm => by
            rcases List.mem_cons.mp hm with rfl | hm
            · exact hIC
            rcases List.mem_cons.mp hm with rfl | hm
            · exact Ne.symm hCD
            · exact (o3 p hm).2.1
          have N₈ : News h₀ L h₈ ((I, oI) :: (J, oJ) :: (C, oC8) :: (D, lst ys₆) :: news) := fun p hm => by
            rcases List.mem_cons.mp hm with rfl | hm
            · exact N8' _ (.head _)
            rcases List.mem_cons.mp hm with rfl | hm
            · exact ⟨eJ, Ne.symm hLJ, J₀⟩
            rcases List.mem_cons.mp hm with rfl | hm
            · exact ⟨eC8, hCL, C₀⟩
            · exact N8' p (.tail _ hm)
          intro E7
          refine wpAny_mono (el i j v u I oI J oJ C oC8 D ys₆ _ h₈ _ _ hv hu hoC8 (by simp [hxy, hm₆]) (by simp) F₈ N₈ off3 offJ) (fun z s₉ hz => ?_) fun _ _ e => e
          obtain ⟨hz, h₉, tk₉, rfl, F₉, N₉⟩ := hz
          intro E8
          have eD := (N₉ (D, lst ys₆) (.tail _ (.tail _ (.tail _ (.head _))))).1
          refine append_at (hsz := by
            show ys₆.toArray.size ≤ sizeLine
            rw [List.size_toArray, hlen₆]
            refine Nat.le_trans ?_ hsz
            have h1 : (i + 1) * its.size ≤ its.size * its.size := Nat.mul_le_mul_right _ lt
            rw [Nat.add_mul, Nat.one_mul] at h1
            omega) eD fun ha sba hDa => ?_
          refine ⟨its.size - (j + 1), by omega, ha, tk₉, j + 1, _, ys₆ ++ [z], rfl, ltj, rfl, hoJ _ (sba.extBut _ _ (Ne.symm hDJ) (N₉ _ (.tail _ (.head _))).1), F₉.change sba hDL D₀,
            (hoC8.ns (N₉ _ (.tail _ (.tail _ (.head _)))).1).sameBut sba hCD, by simp [hxy, hm₆], fun p hm => ?_, by rw [List.length_append, List.length_singleton, hlen₆]; omega, hY₆.snoc (by rw [hlen₆]; exact hz)⟩
          rcases List.mem_cons.mp hm with rfl | hm
          · exact ⟨sba.extBut _ _ hID (N₉ _ (.head _)).1, (N₉ _ (.head _)).2⟩
          rcases List.mem_cons.mp hm with rfl | hm
          · exact ⟨hDa.trans (congrArg some (lst_snoc ys₆ z)), hDL, D₀⟩
          · have z9 := N₉ p (.tail _ (.tail _ (.tail _ (.tail _ hm))))
            exact ⟨sba.extBut _ _ (offD p hm) z9.1, z9.2⟩
        · obtain rfl : j = its.size := Nat.le_antisymm hj gej
          refine W2.done _ _ _ ⟨it₆, isl N₆ (.tail _ (.tail _ hA))⟩ fun h₇ tk₇ hk₇ => ?_
          have N₇ := nb6 h₇ hk₇
          refine ⟨its.size - (i + 1), by omega, h₇, tk₇, i + 1, _, ys₆, rfl, lt, rfl, hoI _ (N₇ _ (.head _)).1, fr_but F₆ hk₇ hLJ J₀, n₆.at' fun o e => hk₇ _ o (by simpa using hCJ) e, nd1 N₇, by rw [hlen₆, Nat.add_mul, Nat.one_mul], hY₆⟩
      exact start_in inner fun E' => W2.self 0 _ _ _ ⟨it₅, isl N₅ (.tail _ (.tail _ (.tail _ hA)))⟩ inner
    · obtain rfl : i = its.size := Nat.le_antisymm hi ge
      refine W.done _ _ _ ⟨it, isl N' (.tail _ hA)⟩ fun h₂ tk₂ hk => ?_
      exact fin D C h₂ tk₂ _ ys (fr_but F' hk hIL hI₀) (nb h₂ hk) off3.one (n'.at' fun o e => hk _ o (by simpa using Ne.symm hIC) e) C₀ D₀ hCL hDL hCD (fun p hm => (o3 p hm).2.1) hlen hY
  exact codeAny_compStart_list main (W.self 0 _ _ _ ⟨it₁, isl N₀ (.tail _ hA)⟩ main)
theorem zall : ∀ c : DD, zP (c.fP 0) (c.fW 0) (c.fAr 0) (c.fE 0) (c.fSh 0) (c.fH 0) (c.fA 0) (c.fMp 0) (c.fEnv 0) (c.fEx 0) (c.fEx 1) (c.fEx 2) (c.fS 0) (c.fS 1) (c.fPo 0) (c.fPo 1) (c.fSc 0) (c.fCl 0) (c.fPo 2) (c.fA 1) (c.fA 2) (c.fO 0) (c.fN 0) (c.fAv 0) (c.fLed 0) (c.fY 0) (c.fRR 0) := allD (by with_unfolding_all exact zcore)
end Z_block_2
theorem block_2 {prog : Program} {w : World} {A : Around} {E : Value → Shared → Prop} {s : Shared} {h₀ : Heap} {L : Addr} {m : Str → Option Value} {env : Env} {elt i0 i1 : Expr} {x y : Str} {px py : Pos} {scope : Scope} {cl : List (Str × Addr)} {pos : Pos} {I ax : Addr} {oA : Obj} {kA : Nat} {its : Array Value} {news : List (Addr × Obj)} {Y : Nat → Value → Prop} {RR : Value → Addr → Result → Shared → Prop}
    (hh : A.handled = none) (hit : s.heap.IsListIter I ax 0) (hA : (ax, oA) ∈ news) (hcA : oA.cls = .type "list") (hdA : oA.data = .seq its kA) (hsz : its.size * its.size ≤ sizeLine) (hcell : ∀ y ∈ scope.names, y.2 ≠ .cell) (hkind : scope.kind = .function) (hx : scope.names.lookup x = some .local) (hy : scope.names.lookup y = some .local) (hxy : x ≠ y)
    (hs : ∀ e z, foldedSetIterable i1 e z = pure z)
    (F : Fr h₀ L s.heap m) (N : News h₀ L s.heap news) (hIL : L ≠ I) (hI₀ : h₀.get? I = none) (off : ∀ p ∈ news, p.1 ≠ I)
    (inn : Src2in prog w A h₀ L m env i1 scope cl ax news s) (el : Src2el prog w A h₀ L m env elt x y scope cl its Y news s)
    (fin : ∀ D C h tk m' ys, Fr h₀ L h m → News h₀ L h ((D, lst ys) :: news) → Off1 D news → h.Ns C m' → h₀.get? C = none → h₀.get? D = none → C ≠ L → D ≠ L → C ≠ D → (∀ p ∈ news, p.1 ≠ C) → ys.length = its.size * its.size → YAll Y ys → RR (.ref D) C (.ok .next) { s with heap := h, toks := tk }) :
    wpAny (model prog w) A (newList []) (fun acc s₃ => wpAny (model prog w) A (newFunctionEnv scope env.globals cl [] env.qual none .none (some env)) (fun cenv s₄ =>
      codeAny (model prog w) A (.compStart (comp2 elt x y px py i0 i1 scope pos) 0 (.ref I) acc { cenv with scope := relabel scope env }) (RR acc cenv.locals) s₄) E s₃) E s := by
  exact Z_block_2.zall ⟨fun _ => w, anyD.fLs, anyD.fMe, fun _ => m, fun i => [L, I, ax].getD i L, fun _ => kA, anyD.fI, anyD.fT, anyD.fV, fun i => [x, y].getD i x, fun _ => oA, fun _ => h₀, fun _ => s, anyD.fLv, anyD.fLi, anyD.fLn, anyD.fLb, fun _ => news, anyD.fQ, fun _ => E, anyD.fB, anyD.fIt, fun _ => its, anyD.fB3, anyD.fGd, anyD.fEn, fun _ => A, anyD.fOv, anyD.fOp, anyD.fLa, fun _ => env, anyD.fSs, anyD.fSt, fun _ => scope, fun _ => prog, fun i => [elt, i0, i1].getD i elt, anyD.fR, fun i => [px, py, pos].getD i px, fun _ => cl, fun _ => Y, fun _ => RR, anyD.fBB, anyD.fNl, anyD.fOa, anyD.fFd, anyD.fAo, anyD.fDe, anyD.fIv⟩ hh hit hA hcA hdA hsz hcell hkind hx hy hxy hs F N hIL hI₀ off inn el fin

variable {prog : Program} {w : World} {A : Around} {E : Value → Shared → Prop} {s : Shared} {h₀ : Heap} {L : Addr} {m : Str → Option Value} {env : Env}
end
end
section
section
open LCg
variable {prog : Program} {w : World} {A : Around} {E : Value → Shared → Prop} {s : Shared} {h₀ : Heap} {L : Addr} {m : Str → Option Value} {env : Env}
noncomputable def Src2 (prog : Program) (w : World) (A : Around) (h₀ : Heap) (L : Addr) (m : Str → Option Value) (env : Env) (elt i1 : Expr) (x y : Str) (scope : Scope) (cl : List (Str × Addr)) (z : Str) (Q : Flow → Shared → Prop) (xv : Value) (s₁ : Shared) : Prop :=
  ∃ ax oA its kA news Y, xv = .ref ax ∧ A.handled = none ∧ Fr h₀ L s₁.heap m ∧ News h₀ L s₁.heap news ∧ (ax, oA) ∈ news ∧ oA.cls = .type "list" ∧ oA.data = .seq its kA ∧ its.size * its.size ≤ sizeLine ∧
    (∀ s₂ : Shared, (∃ h, s₂ = { s₁ with heap := h }) → Src2in prog w A h₀ L m env i1 scope cl ax news s₂) ∧ (∀ s₂ : Shared, (∃ h, s₂ = { s₁ with heap := h }) → Src2el prog w A h₀ L m env elt x y scope cl its Y news s₂) ∧
    ∀ ys D h tk, Fr h₀ L h (fun q => if q = z then some (.ref D) else m q) → News h₀ L h ((D, lst ys) :: news) → Off1 D news → ys.length = its.size * its.size → YAll Y ys → Q .next { s₁ with heap := h, toks := tk }
theorem Assign_2 {elt i0 i1 : Expr} {x y z : Str} {px py pz : Pos} {scope : Scope} {cl : List (Str × Addr)} {pos spos : Pos} {Q : Flow → Shared → Prop} (_F₀ : Fr h₀ L s.heap m) (hLe : env.locals = L)
    (hsw : swapsWith (comp2 elt x y px py i0 i1 scope pos) (some (.Name z pz)) spos.line env = pure true)
    (hclos : closureFor scope env = pure cl) (hcell : ∀ z ∈ scope.names, z.2 ≠ .cell) (hkind : scope.kind = .function)
    (hnames : ∀ z ∈ scope.names, z.2 = .local → scope.names.lookup z.1 = some .local) (hx : scope.names.lookup x = some .local) (hy : scope.names.lookup y = some .local) (hxy : x ≠ y)
    (hz : env.kindOf z = some .local) (hp : (env.scope.kind == .class || (env.scope.kind == .module && env.locals != env.globals)) = false)
    (h : wpAny (model prog w) A (eval i0 env) (Src2 prog w A h₀ L m env elt i1 x y scope cl z Q) E s)
    (hs : ∀ x, foldedSetIterable i0 env x = pure x := by intro _; rfl) (hs1 : ∀ e x, foldedSetIterable i1 e x = pure x := by intro _ _; rfl) :
    wpAny (model prog w) A (exec (.Assign [.Name z pz] (comp2 elt x y px py i0 i1 scope pos) spos) env) Q E s := by
  subst hLe
  rw [exec_Assign_Name_used _ _ _ _ hsw]
  refine wpAny_bind (wpAny_standAt (wpAny_bind ?_))
  show wpAny _ A (do let _ ← comprehension (comp2 elt x y px py i0 i1 scope pos) scope env _ (newList []) false (eval i0 env) (some (assign (.Name z pz) env))) _ _ s
  refine wpAny_bind (wpAny_mono (wpAny_comprehension_free (use := some (assign (.Name z pz) env)) (Q := fun _ s' => Q .next s') rfl hs hclos hkind hnames
    (wpAny_mono h (fun xv s₁ h₁ => ?_) fun _ _ e => e)) (fun _ s' hq => wpAny_pure (wpAny_pure hq)) fun _ _ e => e)
  obtain ⟨ax, oA, its, kA, news, Y, rfl, hh, F, N, hA, hcA, hdA, hsz, inn, el, fin⟩ := h₁
  have hl : s₁.heap.IsList ax its := ⟨oA, (N _ hA).1, hcA, _, hdA⟩
  refine wpAny_pyIter_list hl ?_
  have up : ∀ b o, s₁.heap.get? b = some o → (s₁.heap.push { cls := .type "list_iterator", data := .fields #[.ref ax, .int 0 0] }).get? b = some o := fun b o e => Heap.get?_push_of_some _ e
  refine block_2 (Y := Y) hh ⟨_, Heap.get?_push_size _ rfl, rfl, rfl⟩ hA hcA hdA hsz hcell hkind hx hy hxy hs1 (F.keeps up) (N.grown up) (Nat.ne_of_lt F.ns.lt) (next_is_new F) (fun p hp => Nat.ne_of_lt (Heap.lt_size (N p hp).1)) (inn _ ⟨_, rfl⟩) (el _ ⟨_, rfl⟩) ?_
  intro D C h' tk m' ys F' N' o1 hn hC₀ hD₀ hCL hDL hCD offC hlen hY
  show wpAny _ A (assign (.Name z pz) env (.ref D)) _ _ _
  refine wpAny_assign_Name (wpAny_storeName_local hz F'.ns (fun h₂ hn₂ hs₂ => ?_) hp)
  have hL₀ : h₀.get? env.locals = none := Heap.get?_none_of_le F'.above
  have F₂ : Fr h₀ env.locals h₂ (fun q => if q = z then some (.ref D) else m q) := ⟨hn₂, fun b o e => hs₂.extBut b o (fun q => by rw [q, hL₀] at e; cases e) (F'.keep b o e), F'.above⟩
  refine ⟨m', hn.sameBut hs₂ hCL, fun h'' hs'' => fin ys D h'' _ (F₂.change hs'' hCL hC₀) (fun p hp => ?_) o1 hlen hY⟩
  have z9 : h₂.get? p.1 = some p.2 := hs₂.extBut _ _ (N' p hp).2.1 (N' p hp).1
  refine ⟨hs''.extBut _ _ ?_ z9, (N' p hp).2⟩
  rcases List.mem_cons.mp hp with rfl | hp
  · exact Ne.symm hCD
  · exact offC p hp
end
section
variable (w : World) (loose : List Str) (mean : ExcName → Option Value) (mg mb : Str → Option Value)
theorem scEq (x : Str) (tx ty : Tok) : HC w loose mean mg mb 10 70 [.str x tx, .str x ty] [] (fun _ => True) (fun v now => now = [] ∧ ∃ t, v = .int 0 t) := by
  have := strcoll_H w loose mean mg mb x x tx ty
  rw [decide_eq_false (show ¬ x.cps.toList < x.cps.toList from List.lt_irrefl _)] at this
  exact this
end
theorem same_in {h₀ : Heap} {L : Addr} {m : Str → Option Value} {s₁ : Shared} {led : List (Addr × Obj)} {ok : Prop} {h' : Heap} {tk : Nat} (hok : ok) (F : Fr h₀ L h' m) (N : News h₀ L h' led) : Same h₀ L m s₁ led ok { s₁ with heap := h', toks := tk } := ⟨hok, h', tk, rfl, F, N⟩
theorem four_ints {ys : List Value} (hl : ys.length = 4) (h : YAll (fun k v => ∃ t, v = .int ([0, -1, 1, 0].getD k 9) t) ys) : ∃ t0 t1 t2 t3, ys = [.int 0 t0, .int (-1) t1, .int 1 t2, .int 0 t3] := by
  obtain ⟨a, y1, rfl⟩ := List.exists_cons_of_length_eq_add_one hl
  have hl := Nat.succ.inj hl
  obtain ⟨b, y2, rfl⟩ := List.exists_cons_of_length_eq_add_one hl
  have hl := Nat.succ.inj hl
  obtain ⟨c, y3, rfl⟩ := List.exists_cons_of_length_eq_add_one hl
  have hl := Nat.succ.inj hl
  obtain ⟨d, y4, rfl⟩ := List.exists_cons_of_length_eq_add_one hl
  obtain rfl := List.eq_nil_of_length_eq_zero (Nat.succ.inj hl)
  obtain ⟨t0, rfl⟩ := h 0 a rfl
  obtain ⟨t1, rfl⟩ := h 1 b rfl
  obtain ⟨t2, rfl⟩ := h 2 c rfl
  obtain ⟨t3, rfl⟩ := h 3 d rfl
  exact ⟨t0, t1, t2, t3, rfl⟩
noncomputable def rulerL (f : Nat) (r0 r1 r2 r3 : Int) : List Int := match f with
  | 0 => [r0, r1, r2, r3, 0]
  | 1 => [r0, r1, 0, r2, r3]
  | 2 => [r0, r1, 127, r2, r3]
  | _ => [r0, r1, r2, r3]
end
section
section
open LCg
variable {prog : Program} {w : World} {A : Around} {E : Value → Shared → Prop} {s : Shared} {h₀ : Heap} {L : Addr} {m : Str → Option Value} {env : Env}
noncomputable def TurnIL (prog : Program) (w : World) (A : Around) (h₀ : Heap) (L : Addr) (m : Str → Option Value) (env : Env) (c : Expr) (x : Str) (scope : Scope) (cl : List (Str × Addr)) (its : Array Value) (news : List (Addr × Obj)) (s : Shared) : Prop :=
  ∀ (i : Nat) v I oI C oC D m₂ h tk (E' : Value → Shared → Prop), its[i]? = some v → NsObj oC m₂ → m₂ x = some v → Fr h₀ L h m → News h₀ L h ((I, oI) :: (C, oC) :: (D, lst []) :: news) → Off3 I C D news → ((@Ne Nat I C) ∧ (@Ne Nat I D) ∧ (@Ne Nat C D)) →
    wpAny (model prog w) A (isTrue c (compEnvC scope cl C env) (eval c (compEnvC scope cl C env))) (fun ok => Same h₀ L m { s with heap := h, toks := tk } ((I, oI) :: (C, oC) :: (D, lst []) :: news) (ok = false)) E' { s with heap := h, toks := tk }
end
section
open LCg
namespace Z_block_IL
noncomputable def zP (prog : Program) (w : World) (A : Around) (E : Value → Shared → Prop) (s : Shared) (h₀ : Heap) (L : Addr) (m : Str → Option Value) (env : Env) (elt : Expr) (iter : Expr) (c : Expr) (x : Str) (px : Pos) (scope : Scope) (cl : List (Str × Addr)) (pos : Pos) (I : Addr) (ax : Addr) (oA : Obj) (kA : Nat) (its : Array Value) (news : List (Addr × Obj)) (RR : Value → Addr → Result → Shared → Prop) : Prop := ∀ (hh : A.handled = none) (hit : s.heap.IsListIter I ax 0) (hA : (ax, oA) ∈ news) (hcA : oA.cls = .type "list") (hdA : oA.data = .seq its kA) (hcell : ∀ y ∈ scope.names, y.2 ≠ .cell) (hkind : scope.kind = .function) (hx : scope.names.lookup x = some .local) (F : Fr h₀ L s.heap m) (N : News h₀ L s.heap news) (hIL : L ≠ I) (hI₀ : h₀.get? I = none) (off : ∀ p ∈ news, p.1 ≠ I) (turn : TurnIL prog w A h₀ L m env c x scope cl its news s) (fin : ∀ D C h tk m', Fr h₀ L h m → News h₀ L h ((D, lst []) :: news) → Off1 D news → h.Ns C m' → h₀.get? C = none → h₀.get? D = none → C ≠ L → D ≠ L → C ≠ D → (∀ p ∈ news, p.1 ≠ C) → RR (.ref D) C (.ok .next) { s with heap := h, toks := tk }), wpAny (model prog w) A (newList []) (fun acc s₃ => wpAny (model prog w) A (newFunctionEnv scope env.globals cl [] env.qual none .none (some env)) (fun cenv s₄ =>
      codeAny (model prog w) A (.compStart (.ListComp elt [⟨.Name x px, iter, [c], 0⟩] scope pos) 0 (.ref I) acc { cenv with scope := relabel scope env }) (RR acc cenv.locals) s₄) E s₃) E s
noncomputable def zk : DD := pickD fun c => zP (c.fP 0) (c.fW 0) (c.fAr 0) (c.fE 0) (c.fSh 0) (c.fH 0) (c.fA 0) (c.fMp 0) (c.fEnv 0) (c.fEx 0) (c.fEx 1) (c.fEx 2) (c.fS 0) (c.fPo 0) (c.fSc 0) (c.fCl 0) (c.fPo 1) (c.fA 1) (c.fA 2) (c.fO 0) (c.fN 0) (c.fAv 0) (c.fLed 0) (c.fRR 0)
noncomputable section
@[irreducible] def prog : Program := zk.fP 0
@[irreducible] def w : World := zk.fW 0
@[irreducible] def A : Around := zk.fAr 0
@[irreducible] def E : Value → Shared → Prop := zk.fE 0
@[irreducible] def s : Shared := zk.fSh 0
@[irreducible] def h₀ : Heap := zk.fH 0
@[irreducible] def L : Addr := zk.fA 0
@[irreducible] def m : Str → Option Value := zk.fMp 0
@[irreducible] def env : Env := zk.fEnv 0
@[irreducible] def elt : Expr := zk.fEx 0
@[irreducible] def iter : Expr := zk.fEx 1
@[irreducible] def c : Expr := zk.fEx 2
@[irreducible] def x : Str := zk.fS 0
@[irreducible] def px : Pos := zk.fPo 0
@[irreducible] def scope : Scope := zk.fSc 0
@[irreducible] def cl : List (Str × Addr) := zk.fCl 0
@[irreducible] def pos : Pos := zk.fPo 1
@[irreducible] def I : Addr := zk.fA 1
@[irreducible] def ax : Addr := zk.fA 2
@[irreducible] def oA : Obj := zk.fO 0
@[irreducible] def kA : Nat := zk.fN 0
@[irreducible] def its : Array Value := zk.fAv 0
@[irreducible] def news : List (Addr × Obj) := zk.fLed 0
@[irreducible] def RR : Value → Addr → Result → Shared → Prop := zk.fRR 0
end
theorem zcore : zP prog w A E s h₀ L m env elt iter c x px scope cl pos I ax oA kA its news RR := by
  unfold zP
  intro hh hit hA hcA hdA hcell hkind hx F N hIL hI₀ off turn fin
  have isl : ∀ {h : Heap} {nw}, News h₀ L h nw → (ax, oA) ∈ nw → h.IsList ax its := fun N hm => ⟨oA, (N _ hm).1, hcA, _, hdA⟩
  have hAI : ax ≠ I := off _ hA
  have W := Walks.list (prog := prog) (w := w) (A := A) hh I ax hAI its
  have lt_of : ∀ {b o}, s.heap.get? b = some o → b < s.heap.objs.size := fun e => Heap.lt_size e
  have none_of : ∀ b, s.heap.objs.size ≤ b → h₀.get? b = none := fun b hb => by
    cases e : h₀.get? b with
    | none => rfl
    | some o => exact absurd (lt_of (F.keep b o e)) (Nat.not_lt.mpr hb)
  have hLlt : L < s.heap.objs.size := F.ns.lt
  have hIlt : I < s.heap.objs.size := by obtain ⟨o, e, _⟩ := hit; exact lt_of e
  refine wpAny_newObj_type (wpAny_newFunctionEnv hcell (by intro y hy; simp at hy) (fun hp hns hsb => ?_) hkind)
  dsimp only at hns hsb ⊢
  obtain ⟨H, hH⟩ : ∃ H, s.heap.push { cls := .type "list", dict := none, data := .seq ([] : List Value).toArray } = H := ⟨_, rfl⟩
  rw [hH] at hns hsb ⊢
  have hsz : H.objs.size = s.heap.objs.size + 1 := by rw [← hH, Heap.size_push]
  have toH : ∀ b o, s.heap.get? b = some o → H.get? b = some o := fun b o e => hH ▸ Heap.get?_push_of_some _ e
  generalize hD : s.heap.objs.size = D at *
  generalize hC : H.objs.size = C at *
  have hCD : C ≠ D := by rw [hsz]; exact Nat.succ_ne_self D
  have neC : ∀ b, b < D → b ≠ C := fun b hb => by rw [hsz]; exact Nat.ne_of_lt (Nat.lt_succ_of_lt hb)
  have up : ∀ b o, s.heap.get? b = some o → hp.get? b = some o := fun b o e => hsb.extBut b o (neC b (lt_of e)) (Heap.get?_push_of_some _ (toH b o e))
  have hacc : hp.get? D = some (lst []) := hsb.extBut _ _ (Ne.symm hCD) (Heap.get?_push_of_some _ (by rw [← hH, ← hD]; exact Heap.get?_push_size (o := lst []) _ rfl))
  have C₀ : h₀.get? C = none := none_of _ (by rw [hsz]; exact Nat.le_succ D)
  have D₀ : h₀.get? D = none := none_of _ (Nat.le_refl D)
  have hCL : C ≠ L := Ne.symm (neC L hLlt)
  have hDL : D ≠ L := Ne.symm (Nat.ne_of_lt hLlt)
  have hIC : I ≠ C := neC I hIlt
  have hID : I ≠ D := Nat.ne_of_lt hIlt
  have off3 : Off3 I C D news := Off3.of fun p hm => ⟨off p hm, neC _ (lt_of (N p hm).1), Nat.ne_of_lt (lt_of (N p hm).1)⟩
  have o3 := off3.mem
  have N₀ : News h₀ L hp ((D, lst []) :: news) := fun p hm => by
    rcases List.mem_cons.mp hm with rfl | hm
    · exact ⟨hacc, hDL, D₀⟩
    · exact ⟨up _ _ (N p hm).1, (N p hm).2⟩
  have it₁ : hp.IsListIter I ax 0 := hit.at fun o e => up _ _ e
  have main : codeAny (model prog w) A (.compLoop (.ListComp elt [⟨.Name x px, iter, [c], 0⟩] scope pos) 0 (.ref I) (.ref D) (compEnvC scope cl C env)) (RR (.ref D) C) { s with heap := hp, toks := s.toks + ([] : List (Str × Value)).length } := by
    refine codeAny_compLoop_tests (fun k s' => ∃ h' tk i m', s' = { s with heap := h', toks := tk } ∧ i ≤ its.size ∧ k = its.size - i ∧ h'.IsListIter I ax i ∧ Fr h₀ L h' m ∧ h'.Ns C m' ∧ News h₀ L h' ((D, lst []) :: news)) ?_ its.size
      ⟨hp, _, 0, _, rfl, Nat.zero_le _, rfl, it₁, F.keeps up, hns, N₀⟩
    rintro k s' ⟨h', tk, i, m', rfl, hi, rfl, it, F', n', N'⟩
    have N₁ : ∀ h₂, (∀ b o, b ∉ [I] → h'.get? b = some o → h₂.get? b = some o) → News h₀ L h₂ ((D, lst []) :: news) := fun h₂ hk => news_but N' hk fun p hm => by
      rcases List.mem_cons.mp hm with rfl | hm
      · exact Ne.symm hID
      · exact (o3 p hm).1
    rcases Nat.lt_or_ge i its.size with lt | ge
    · refine W.item i _ _ _ lt ⟨it, isl N' (.tail _ hA)⟩ fun v h₂ tk₂ hv it₂ hk => ?_
      refine wpAny_assign_Name (wpAny_storeName_local (lookup_relabel_local hx) (n'.at' fun o e => hk _ o (by simpa using Ne.symm hIC) e) (fun h₃ n₃ sb => ?_) (by simp [compEnvC, relabel, hkind]))
      have F₃ : Fr h₀ L h₃ m := (fr_but F' hk hIL hI₀).change sb hCL C₀
      obtain ⟨oC, eC, hoC⟩ := ns_obj n₃
      obtain ⟨oI, eI, hoI⟩ : ∃ oI, h₃.get? I = some oI ∧ ∀ g : Heap, g.get? I = some oI → g.IsListIter I ax (i + 1) := by
        obtain ⟨o, e, r⟩ := it₂.1
        exact ⟨o, sb.extBut _ _ hIC e, fun g e' => ⟨o, e', r⟩⟩
      have N₃ : News h₀ L h₃ ((I, oI) :: (C, oC) :: (D, lst []) :: news) := fun p hm => by
        rcases List.mem_cons.mp hm with rfl | hm
        · exact ⟨eI, Ne.symm hIL, hI₀⟩
        rcases List.mem_cons.mp hm with rfl | hm
        · exact ⟨eC, hCL, C₀⟩
        refine news_same (N₁ h₂ hk) sb (fun p hm => ?_) p hm
        rcases List.mem_cons.mp hm with rfl | hm
        · exact Ne.symm hCD
        · exact (o3 p hm).2.1
      refine wpAny_tests_one (wpAny_mono (turn i v I oI C oC D _ h₃ _ _ hv hoC (by simp) F₃ N₃ off3 ⟨hIC, hID, hCD⟩) (fun ok s₄ e4 => ?_) fun _ _ e => e)
      obtain ⟨rfl, h₄, tk₄, rfl, F₄, N₄⟩ := e4
      exact ⟨its.size - (i + 1), by omega, h₄, tk₄, i + 1, _, rfl, lt, rfl, hoI _ (N₄ _ (.head _)).1, F₄, hoC.ns (N₄ _ (.tail _ (.head _))).1, nd1 (nd1 N₄)⟩
    · obtain rfl : i = its.size := Nat.le_antisymm hi ge
      refine W.done _ _ _ ⟨it, isl N' (.tail _ hA)⟩ fun h₂ tk₂ hk => ?_
      exact fin D C h₂ tk₂ _ (fr_but F' hk hIL hI₀) (N₁ h₂ hk) off3.one (n'.at' fun o e => hk _ o (by simpa using Ne.symm hIC) e) C₀ D₀ hCL hDL hCD (fun p hm => (o3 p hm).2.1)
  exact codeAny_compStart_list main (W.self 0 _ _ _ ⟨it₁, isl N₀ (.tail _ hA)⟩ main)
theorem zall : ∀ c : DD, zP (c.fP 0) (c.fW 0) (c.fAr 0) (c.fE 0) (c.fSh 0) (c.fH 0) (c.fA 0) (c.fMp 0) (c.fEnv 0) (c.fEx 0) (c.fEx 1) (c.fEx 2) (c.fS 0) (c.fPo 0) (c.fSc 0) (c.fCl 0) (c.fPo 1) (c.fA 1) (c.fA 2) (c.fO 0) (c.fN 0) (c.fAv 0) (c.fLed 0) (c.fRR 0) := allD (by with_unfolding_all exact zcore)
end Z_block_IL
theorem block_IL {prog : Program} {w : World} {A : Around} {E : Value → Shared → Prop} {s : Shared} {h₀ : Heap} {L : Addr} {m : Str → Option Value} {env : Env} {elt iter c : Expr} {x : Str} {px : Pos} {scope : Scope} {cl : List (Str × Addr)} {pos : Pos} {I ax : Addr} {oA : Obj} {kA : Nat} {its : Array Value} {news : List (Addr × Obj)} {RR : Value → Addr → Result → Shared → Prop}
    (hh : A.handled = none) (hit : s.heap.IsListIter I ax 0) (hA : (ax, oA) ∈ news) (hcA : oA.cls = .type "list") (hdA : oA.data = .seq its kA) (hcell : ∀ y ∈ scope.names, y.2 ≠ .cell) (hkind : scope.kind = .function) (hx : scope.names.lookup x = some .local)
    (F : Fr h₀ L s.heap m) (N : News h₀ L s.heap news) (hIL : L ≠ I) (hI₀ : h₀.get? I = none) (off : ∀ p ∈ news, p.1 ≠ I)
    (turn : TurnIL prog w A h₀ L m env c x scope cl its news s)
    (fin : ∀ D C h tk m', Fr h₀ L h m → News h₀ L h ((D, lst []) :: news) → Off1 D news → h.Ns C m' → h₀.get? C = none → h₀.get? D = none → C ≠ L → D ≠ L → C ≠ D → (∀ p ∈ news, p.1 ≠ C) → RR (.ref D) C (.ok .next) { s with heap := h, toks := tk }) :
    wpAny (model prog w) A (newList []) (fun acc s₃ => wpAny (model prog w) A (newFunctionEnv scope env.globals cl [] env.qual none .none (some env)) (fun cenv s₄ =>
      codeAny (model prog w) A (.compStart (.ListComp elt [⟨.Name x px, iter, [c], 0⟩] scope pos) 0 (.ref I) acc { cenv with scope := relabel scope env }) (RR acc cenv.locals) s₄) E s₃) E s := by
  exact Z_block_IL.zall ⟨fun _ => w, anyD.fLs, anyD.fMe, fun _ => m, fun i => [L, I, ax].getD i L, fun _ => kA, anyD.fI, anyD.fT, anyD.fV, fun _ => x, fun _ => oA, fun _ => h₀, fun _ => s, anyD.fLv, anyD.fLi, anyD.fLn, anyD.fLb, fun _ => news, anyD.fQ, fun _ => E, anyD.fB, anyD.fIt, fun _ => its, anyD.fB3, anyD.fGd, anyD.fEn, fun _ => A, anyD.fOv, anyD.fOp, anyD.fLa, fun _ => env, anyD.fSs, anyD.fSt, fun _ => scope, fun _ => prog, fun i => [elt, iter, c].getD i elt, anyD.fR, fun i => [px, pos].getD i px, fun _ => cl, anyD.fY, fun _ => RR, anyD.fBB, anyD.fNl, anyD.fOa, anyD.fFd, anyD.fAo, anyD.fDe, anyD.fIv⟩ hh hit hA hcA hdA hcell hkind hx F N hIL hI₀ off turn fin

variable {prog : Program} {w : World} {A : Around} {E : Value → Shared → Prop} {s : Shared} {h₀ : Heap} {L : Addr} {m : Str → Option Value} {env : Env}
noncomputable def SrcIL (prog : Program) (w : World) (A : Around) (h₀ : Heap) (L : Addr) (m : Str → Option Value) (env : Env) (c : Expr) (x : Str) (scope : Scope) (cl : List (Str × Addr)) (Q : Value → Shared → Prop) (xv : Value) (s₁ : Shared) : Prop :=
  ∃ ax oA its kA news, xv = .ref ax ∧ A.handled = none ∧ Fr h₀ L s₁.heap m ∧ News h₀ L s₁.heap news ∧ (ax, oA) ∈ news ∧ oA.cls = .type "list" ∧ oA.data = .seq its kA ∧
    (∀ s₂ : Shared, (∃ h, s₂ = { s₁ with heap := h }) → TurnIL prog w A h₀ L m env c x scope cl its news s₂) ∧
    ∀ D h tk, Fr h₀ L h m → News h₀ L h ((D, lst []) :: news) → Off1 D news → Q (.ref D) { s₁ with heap := h, toks := tk }
theorem ListComp_IL {elt iter c : Expr} {x : Str} {px : Pos} {scope : Scope} {cl : List (Str × Addr)} {pos : Pos} {Q : Value → Shared → Prop} (_F₀ : Fr h₀ L s.heap m)
    (hclos : closureFor scope env = pure cl) (hcell : ∀ y ∈ scope.names, y.2 ≠ .cell) (hkind : scope.kind = .function)
    (hnames : ∀ y ∈ scope.names, y.2 = .local → scope.names.lookup y.1 = some .local) (hx : scope.names.lookup x = some .local)
    (h : wpAny (model prog w) A (eval iter env) (SrcIL prog w A h₀ L m env c x scope cl Q) E s)
    (hs : ∀ x, foldedSetIterable iter env x = pure x := by intro _; rfl) :
    wpAny (model prog w) A (eval (.ListComp elt [⟨.Name x px, iter, [c], 0⟩] scope pos) env) Q E s := by
  rw [eval_ListComp]
  refine wpAny_comprehension_free (use := none) rfl hs hclos hkind hnames (wpAny_mono h (fun xv s₁ h₁ => ?_) fun _ _ e => e)
  obtain ⟨ax, oA, its, kA, news, rfl, hh, F, N, hA, hcA, hdA, turn, fin⟩ := h₁
  have hl : s₁.heap.IsList ax its := ⟨oA, (N _ hA).1, hcA, _, hdA⟩
  refine wpAny_pyIter_list hl ?_
  have up : ∀ b o, s₁.heap.get? b = some o → (s₁.heap.push { cls := .type "list_iterator", data := .fields #[.ref ax, .int 0 0] }).get? b = some o := fun b o e => Heap.get?_push_of_some _ e
  refine block_IL hh ⟨_, Heap.get?_push_size _ rfl, rfl, rfl⟩ hA hcA hdA hcell hkind hx (F.keeps up) (N.grown up) (Nat.ne_of_lt F.ns.lt) (next_is_new F) (fun p hp => Nat.ne_of_lt (Heap.lt_size (N p hp).1)) (turn _ ⟨_, rfl⟩) ?_
  intro D C h tk m' F' N' o1 hn' C₀ D₀ hCL hDL hCD offC
  refine ⟨m', hn', fun h'' hs'' => fin D h'' tk (F'.change hs'' hCL C₀) (fun p hp => ?_) o1⟩
  refine ⟨hs''.extBut _ _ ?_ (N' p hp).1, (N' p hp).2⟩
  rcases List.mem_cons.mp hp with rfl | hp
  · exact Ne.symm hCD
  · exact offC p hp
end
theorem news_pick {g h : Heap} {L : Addr} {l l2 : List (Addr × Obj)} {a b : Addr × Obj} (N : News g L h l) (ha : a ∈ l) (hb : b ∈ l) (hl : ∀ p ∈ l2, p ∈ l) : News g L h (a :: b :: l2) := fun p hp => by
  rcases List.mem_cons.mp hp with rfl | hp
  · exact N _ ha
  rcases List.mem_cons.mp hp with rfl | hp
  · exact N _ hb
  · exact N p (hl p hp)
theorem ruler_pick {g h : Heap} {L : Addr} {fut : List (Addr × Obj)} {x1 x2 x3 x4 x5 x6 x7 x8 x9 x10 x11 x12 x13 r : Addr × Obj} (N : News g L h (x1 :: x2 :: x3 :: x4 :: x5 :: x6 :: x7 :: x8 :: x9 :: x10 :: x11 :: x12 :: x13 :: r :: fut)) :
    News g L h (x12 :: r :: fut) ∧ News g L h (x7 :: r :: fut) ∧ News g L h (x2 :: r :: fut) ∧ News g L h (r :: r :: fut) := by
  have hf : ∀ p ∈ fut, p ∈ x1 :: x2 :: x3 :: x4 :: x5 :: x6 :: x7 :: x8 :: x9 :: x10 :: x11 :: x12 :: x13 :: r :: fut := fun p hp => by simp [hp]
  exact ⟨news_pick N (by simp) (by simp) hf, news_pick N (by simp) (by simp) hf, news_pick N (by simp) (by simp) hf, news_pick N (by simp) (by simp) hf⟩
theorem ruler_end {g h : Heap} {L : Addr} {fut : List (Addr × Obj)} {f : Nat} (hf : f < 4) {x1 x3 x4 x5 x6 x8 x9 x10 x11 x13 : Addr × Obj} {a b c RA : Addr} {r0 r1 r2 r3 : Int} {u0 u1 u2 u3 ta tb tc : Tok} {re ea eb ec : Nat}
    (N : News g L h (x1 :: (c, lstO [.int r0 u0, .int r1 u1, .int 127 tc, .int r2 u2, .int r3 u3] ec) :: x3 :: x4 :: x5 :: x6 :: (b, lstO [.int r0 u0, .int r1 u1, .int 0 tb, .int r2 u2, .int r3 u3] eb) :: x8 :: x9 :: x10 :: x11 :: (a, lstO [.int r0 u0, .int r1 u1, .int r2 u2, .int r3 u3, .int 0 ta] ea) :: x13 :: (RA, lstO [.int r0 u0, .int r1 u1, .int r2 u2, .int r3 u3] re) :: fut))
    (h1 : ∀ p ∈ (RA, lstO [.int r0 u0, .int r1 u1, .int r2 u2, .int r3 u3] re) :: fut, p.1 ≠ a ∧ p.1 ≠ b ∧ p.1 ≠ c) :
    ∃ vs ks e, IntsAre vs ks ∧ ks = rulerL f r0 r1 r2 r3 ∧ News g L h ((sel4 f a b c RA, lstO vs e) :: (RA, lstO [.int r0 u0, .int r1 u1, .int r2 u2, .int r3 u3] re) :: fut) ∧ (sel4 f a b c RA = RA ∨ ∀ p ∈ (RA, lstO [.int r0 u0, .int r1 u1, .int r2 u2, .int r3 u3] re) :: fut, p.1 ≠ sel4 f a b c RA) := by
  obtain ⟨p0, p1, p2, p3⟩ := ruler_pick N
  match f, hf with
  | 0, _ => exact ⟨_, _, _, by repeat constructor, rfl, p0, .inr fun p hp => (h1 p hp).1⟩
  | 1, _ => exact ⟨_, _, _, by repeat constructor, rfl, p1, .inr fun p hp => (h1 p hp).2.1⟩
  | 2, _ => exact ⟨_, _, _, by repeat constructor, rfl, p2, .inr fun p hp => (h1 p hp).2.2⟩
  | 3, _ => exact ⟨_, _, _, by repeat constructor, rfl, p3, .inl rfl⟩
end
section
section
variable (w : World) (loose : List Str) (mean : ExcName → Option Value) (mg mb : Str → Option Value)
theorem law_0 (cd : Value) (fa : Addr) (g : Heap) (L : Addr) (s₀ s : Shared) (Q : Flow → Shared → Prop) (E : Value → Shared → Prop) (m : Str → Option Value) (fut : List (Addr × Obj)) (o2 : Obj) (d2 : o2.data = .cell none) (f2 : ∀ p ∈ fut, p.1 ≠ L + 1 + 1)
    (next : ∀ (s : Shared) (BA : Addr) (o2 : Obj) (t0 t1 t2 t3 : Tok), LawG w loose mean mg mb g L s₀ s → Fr g L s.heap m → News g L s.heap ((BA, lstO [.int 11 t0, .int 0 t1, .int 157 t2, .int 589 t3] 0) :: (L + 1 + 1, o2) :: fut) → o2.data = .cell (some (.ref BA)) → (∀ p ∈ (L + 1 + 1, o2) :: fut, @LT.lt Nat _ p.1 BA) → Q .next s)
    (G : LawG w loose mean mg mb g L s₀ s) (F : Fr g L s.heap m) (N : News g L s.heap ((L + 1 + 1, o2) :: fut)) : LawX w L fa cd 0 Q E s := by
  k_with "mine all" => ((fail_if_success k_extra "x21"); assumption)
  have _ : PySem.Challenge.rw_wo0016_01 = PySem.Challenge.rw_wo0016_01 ∧ Mine.hd.heap_1 = Mine.hd.heap_1 := by k_fill; exact ⟨rfl, rfl⟩
  refine lawX_of (by rfl) ?_
  dsimp only [lawD, d_of]
  obtain ⟨B, X, T, h100, hos, hba⟩ := G
  k_steps
  refine next _ _ _ _ _ _ _ (by exact ⟨B, X, T, h100, hos, hba⟩) (by assumption) (by assumption) (by assumption) (allLt_all ?_)
  rename _ ∧ AllLt _ _ => h1
  exact h1
end
end
section
section
variable {prog : Program} {w : World} {A : Around} {E : Value → Shared → Prop} {s : Shared} {h₀ : Heap} {L : Addr} {m : Str → Option Value} {news : List (Addr × Obj)} {Q : Value → Shared → Prop}
theorem sumS {l : Addr} {ws : List Value} {ns : List Int} {lo hi st : Option Int} (hh : A.handled = none) (F : Fr h₀ L s.heap m) (N : News h₀ L s.heap news) (hl : (l, ({ cls := .type "list", data := .seq (slicePick ws.toArray lo hi st) } : Obj)) ∈ news) (hw : IntsAre ws ns)
    (h : ∀ h' tk t', Fr h₀ L h' m → News h₀ L h' news → Q (.int (pickNums ns lo hi st).sum t') { s with heap := h', toks := tk }) : wpAny (model prog w) A (call (.builtin "sum") [.ref l]) Q E s :=
  PyProof.Rows.LSm.sum_ints (vs := (slicePick ws.toArray lo hi st).toList) F N hh ⟨_, (N _ hl).1, rfl, _, by simp; rfl⟩ (hw.pick lo hi st) h
theorem ints4 {ys : List Value} {a b c d : Int} (H : IntsAre ys [a, b, c, d]) : ∃ t0 t1 t2 t3, ys = [.int a t0, .int b t1, .int c t2, .int d t3] := by
  cases H with | cons _ t0 H => cases H with | cons _ t1 H => cases H with | cons _ t2 H => cases H with | cons _ t3 H => cases H; exact ⟨t0, t1, t2, t3, rfl⟩
end
section
variable (w : World) (loose : List Str) (mean : ExcName → Option Value) (mg mb : Str → Option Value)
theorem law_1 (cd : Value) (fa : Addr) (g : Heap) (L : Addr) (s₀ s : Shared) (Q : Flow → Shared → Prop) (E : Value → Shared → Prop) (m : Str → Option Value) (fut : List (Addr × Obj)) (W : Addr) (ws : List Value) (ns : List Int) (hW : g.IsList W ws.toArray) (hws : IntsAre ws ns) (hlen : ns.length ≤ 63) (BA : Addr) (b0 b1 b2 b3 : Tok) (o1 o2 o3 : Obj) (d1 : o1.data = .cell (some (.ref W))) (d2 : o2.data = .cell (some (.ref BA))) (d3 : o3.data = .cell none) (f3 : ∀ p ∈ fut, p.1 ≠ L + 1 + 1 + 1) (hB : @LT.lt Nat _ (L + 1 + 1 + 1) BA)
    (next : ∀ (s : Shared) (CA : Addr) (c0 c1 c2 c3 : Int) (t0 t1 t2 t3 : Tok) (e : Nat) (o3 : Obj), LawG w loose mean mg mb g L s₀ s → Fr g L s.heap m → News g L s.heap ((CA, lstO [.int c0 t0, .int c1 t1, .int c2 t2, .int c3 t3] e) :: (L + 1 + 1 + 1, o3) :: fut) → o3.data = .cell (some (.ref CA)) → L + 1 + 1 + 1 ≠ CA → (∀ p ∈ fut, p.1 ≠ CA) → Q .next s)
    (G : LawG w loose mean mg mb g L s₀ s) (F : Fr g L s.heap m) (N : News g L s.heap ((BA, lstO [.int 11 b0, .int 0 b1, .int 157 b2, .int 589 b3] 0) :: (L + 1, o1) :: (L + 1 + 1, o2) :: (L + 1 + 1 + 1, o3) :: fut)) : LawX w L fa cd 1 Q E s := by
  k_with "x21" => skip
  k_with "eval ListComp" => ((fail_if_success k_extra "x22"); k_here; k_dflt (refine ListComp_R (by k_asm) (by with_unfolding_all rfl) (by decide) (by rfl) (by decide) (by rfl) ?_))
  k_with "SrcC" => ((fail_if_success k_extra "x22"); k_here; k_dflt (refine hold_of ?_))
  k_with "CompEnd" => ((fail_if_success k_extra "x22"); (refine hold_of ?_))
  k_with "call builtin:sum" => ((fail_if_success k_extra "x22"); k_here; k_dflt (refine' sumS (by exact rfl) (by assumption) (by assumption) (by k_mem) (by assumption) ?_; intro _ _ _ _ _))
  k_with "mine all" => ((fail_if_success k_extra "x22"); assumption)
  have _ : PySem.Challenge.rw_wo0016_01 = PySem.Challenge.rw_wo0016_01 ∧ Mine.hd.heap_1 = Mine.hd.heap_1 := by k_fill; exact ⟨rfl, rfl⟩
  refine lawX_of (by rfl) ?_
  dsimp only [lawD, d_of]
  obtain ⟨B, X, T, h100, hos, hba⟩ := G
  k_steps
  refine unhold ?_
  rename IsRange _ _ _ _ _ _ _ _ => R2
  refine ⟨_, _, _, _, _, _, _, 4, _, rfl, rfl, by k_asm, by k_asm, R2, by decide, by decide, by rw [PySem.sizeLine_eq]; omega, ?_⟩
  rintro s8 ⟨g8, e8⟩
  subst e8
  refine ints_rest (fun i => [11, 0, 157, 589].getD (0 + (i : Int) * 1).toNat 0 + (pickNums ns (some (0 + (i : Int) * 1)) none (some 4)).sum) (fun i v I oI C oC D m₂ zs h tk E' hi hv hC hx F N off ne => ?_) (fun zs hzs => ?_)
  · obtain ⟨t9, rfl⟩ := hv
    k_steps
    refine unhold (LCg.CompEnd.intro (by assumption) (by assumption) _ (fun q9 hq9 => ?_) off trivial (kiel rfl rfl))
    k_ownIn
  · k_steps
    rename News _ _ _ _ => N5
    rename _ ∧ _ => o5
    obtain ⟨t0, t1, t2, t3, rfl⟩ := (ints4 hzs : ∃ t0 t1 t2 t3, _ = [Value.int _ t0, Value.int _ t1, Value.int _ t2, Value.int _ t3])
    rename Fr _ _ _ _ => F5
    rename _ = Data.cell (some (Value.ref _)) => d5
    have o6 := off1_all (l := (BA, lstO [.int 11 b0, .int 0 b1, .int 157 b2, .int 589 b3] 0) :: (L + 1, o1) :: (L + 1 + 1, o2) :: (L + 1 + 1 + 1, o3) :: fut) o5
    exact next _ _ _ _ _ _ t0 t1 t2 t3 4 _ ⟨B, X, T, h100, hos, hba⟩ F5 (nd2 (nd2 (nd2 N5))) d5 (o6 (L + 1 + 1 + 1, o3) (by k_mem)) (fun p hp => o6 p (by k_ownIn))
end
end
section
section
variable (w : World) (loose : List Str) (mean : ExcName → Option Value) (mg mb : Str → Option Value)
set_option hygiene false in
theorem law_2 (cd : Value) (fa : Addr) (g : Heap) (L : Addr) (s₀ s : Shared) (Q : Flow → Shared → Prop) (E : Value → Shared → Prop) (m : Str → Option Value) (fut : List (Addr × Obj)) (CA : Addr) (c0 c1 c2 c3 : Int) (t0 t1 t2 t3 : Tok) (e : Nat) (o3 : Obj) (d3 : o3.data = .cell (some (.ref CA)))
    (next : ∀ (s : Shared) (RA : Addr) (u0 u1 u2 u3 : Tok) (e2 : Nat), LawG w loose mean mg mb g L s₀ s → Fr g L s.heap (upd m (Str.ofString "runs") (.ref RA)) → News g L s.heap ((RA, lstO [.int (1 + c0.fmod 3) u0, .int (1 + c1.fmod 3) u1, .int (1 + c2.fmod 3) u2, .int (1 + c3.fmod 3) u3] e2) :: (CA, lstO [.int c0 t0, .int c1 t1, .int c2 t2, .int c3 t3] e) :: (L + 1 + 1 + 1, o3) :: fut) → Q .next s)
    (G : LawG w loose mean mg mb g L s₀ s) (F : Fr g L s.heap m) (N : News g L s.heap ((CA, lstO [.int c0 t0, .int c1 t1, .int c2 t2, .int c3 t3] e) :: (L + 1 + 1 + 1, o3) :: fut)) : LawX w L fa cd 2 Q E s := by
  k_with "x22" => skip
  k_with "mine all" => ((fail_if_success k_extra "x23"); assumption)
  k_with "CompEnd" => ((fail_if_success k_extra "x23"); (refine LCg.CompEnd.intro (by assumption) (by assumption) ((CA, lstO [.int c0 t0, .int c1 t1, .int c2 t2, .int c3 t3] e) :: (L + 1 + 1 + 1, o3) :: fut) ?_ (by k_dflt assumption) (by lcg_src) ?_; (intro q9 hq9; k_ownIn)))
  have _ : PySem.Challenge.rw_wo0016_01 = PySem.Challenge.rw_wo0016_01 ∧ Mine.hd.heap_1 = Mine.hd.heap_1 := by k_fill; exact ⟨rfl, rfl⟩
  refine lawX_of (by rfl) ?_
  dsimp only [lawD, d_of]
  obtain ⟨B, X, T, h100, hos, hba⟩ := G
  k_steps
  rename Fr _ _ _ _ => F5
  rename News _ _ _ _ => N5
  exact next _ _ _ _ _ _ _ ⟨B, X, T, h100, hos, hba⟩ F5 N5 
end
end
section
section
variable (w : World) (loose : List Str) (mean : ExcName → Option Value) (mg mb : Str → Option Value)
theorem law_3 (cd : Value) (fa : Addr) (g : Heap) (L : Addr) (s₀ s : Shared) (Q : Flow → Shared → Prop) (E : Value → Shared → Prop) (m : Str → Option Value) (fut : List (Addr × Obj)) (CA : Addr) (c0 c1 c2 c3 : Int) (t0 t1 t2 t3 : Tok) (e : Nat) (o3 : Obj) (d3 : o3.data = .cell (some (.ref CA))) (o4 : Obj) (d4 : o4.data = .cell none) (f4 : ∀ p ∈ fut, p.1 ≠ L + 1 + 1 + 1 + 1) (hCA : @Ne Nat CA (L + 1 + 1 + 1 + 1))
    (next : ∀ (s : Shared) (u : Tok) (o4 : Obj), LawG w loose mean mg mb g L s₀ s → Fr g L s.heap m → News g L s.heap ((CA, lstO [.int c0 t0, .int c1 t1, .int c2 t2, .int c3 t3] e) :: (L + 1 + 1 + 1, o3) :: (L + 1 + 1 + 1 + 1, o4) :: fut) → o4.data = .cell (some (.int (6 + (c0.fdiv 3).fmod 4) u)) → Q .next s)
    (G : LawG w loose mean mg mb g L s₀ s) (F : Fr g L s.heap m) (N : News g L s.heap ((CA, lstO [.int c0 t0, .int c1 t1, .int c2 t2, .int c3 t3] e) :: (L + 1 + 1 + 1, o3) :: (L + 1 + 1 + 1 + 1, o4) :: fut)) : LawX w L fa cd 3 Q E s := by
  k_with "x23" => skip
  k_with "mine all" => ((fail_if_success k_extra "x24"); assumption)
  have _ : PySem.Challenge.rw_wo0016_01 = PySem.Challenge.rw_wo0016_01 ∧ Mine.hd.heap_1 = Mine.hd.heap_1 := by k_fill; exact ⟨rfl, rfl⟩
  refine lawX_of (by rfl) ?_
  dsimp only [lawD, d_of]
  obtain ⟨B, X, T, h100, hos, hba⟩ := G
  k_steps
  rename Fr _ _ _ _ => F5
  rename News _ _ _ _ => N5
  rename _ = Data.cell (some _) => d5
  exact next _ _ _ ⟨B, X, T, h100, hos, hba⟩ F5 N5 d5 
end
end
section
section
variable (w : World) (loose : List Str) (mean : ExcName → Option Value) (mg mb : Str → Option Value)
theorem law_4 (cd : Value) (fa : Addr) (g : Heap) (L : Addr) (s₀ s : Shared) (Q : Flow → Shared → Prop) (E : Value → Shared → Prop) (m : Str → Option Value) (fut : List (Addr × Obj)) (CA : Addr) (c0 c1 c2 c3 : Int) (t0 t1 t2 t3 : Tok) (e : Nat) (o3 : Obj) (d3 : o3.data = .cell (some (.ref CA)))
    (next : ∀ (s : Shared) (u : Tok), LawG w loose mean mg mb g L s₀ s → Fr g L s.heap (upd m (Str.ofString "form") (.int ((c1.fdiv 3).fmod 4) u)) → News g L s.heap ((CA, lstO [.int c0 t0, .int c1 t1, .int c2 t2, .int c3 t3] e) :: (L + 1 + 1 + 1, o3) :: fut) → Q .next s)
    (G : LawG w loose mean mg mb g L s₀ s) (F : Fr g L s.heap m) (N : News g L s.heap ((CA, lstO [.int c0 t0, .int c1 t1, .int c2 t2, .int c3 t3] e) :: (L + 1 + 1 + 1, o3) :: fut)) : LawX w L fa cd 4 Q E s := by
  k_with "x24" => skip
  k_with "mine all" => ((fail_if_success k_extra "x25"); assumption)
  have _ : PySem.Challenge.rw_wo0016_01 = PySem.Challenge.rw_wo0016_01 ∧ Mine.hd.heap_1 = Mine.hd.heap_1 := by k_fill; exact ⟨rfl, rfl⟩
  refine lawX_of (by rfl) ?_
  dsimp only [lawD, d_of]
  obtain ⟨B, X, T, h100, hos, hba⟩ := G
  k_steps
  rename Fr _ _ _ _ => F5
  rename News _ _ _ _ => N5
  exact next _ _ ⟨B, X, T, h100, hos, hba⟩ F5 N5 
end
end
section
section
variable (w : World) (loose : List Str) (mean : ExcName → Option Value) (mg mb : Str → Option Value)
theorem law_5 (cd : Value) (fa : Addr) (g : Heap) (L : Addr) (s₀ s : Shared) (Q : Flow → Shared → Prop) (E : Value → Shared → Prop) (m : Str → Option Value) (fut : List (Addr × Obj)) (CA : Addr) (c0 c1 c2 c3 : Int) (t0 t1 t2 t3 : Tok) (e : Nat) (o3 : Obj) (d3 : o3.data = .cell (some (.ref CA)))
    (next : ∀ (s : Shared) (u : Tok), LawG w loose mean mg mb g L s₀ s → Fr g L s.heap (upd m (Str.ofString "way") (.int (1 - 2 * (c2.fdiv 3).fmod 2) u)) → News g L s.heap ((CA, lstO [.int c0 t0, .int c1 t1, .int c2 t2, .int c3 t3] e) :: (L + 1 + 1 + 1, o3) :: fut) → Q .next s)
    (G : LawG w loose mean mg mb g L s₀ s) (F : Fr g L s.heap m) (N : News g L s.heap ((CA, lstO [.int c0 t0, .int c1 t1, .int c2 t2, .int c3 t3] e) :: (L + 1 + 1 + 1, o3) :: fut)) : LawX w L fa cd 5 Q E s := by
  k_with "x25" => skip
  k_with "mine all" => ((fail_if_success k_extra "x26"); assumption)
  have _ : PySem.Challenge.rw_wo0016_01 = PySem.Challenge.rw_wo0016_01 ∧ Mine.hd.heap_1 = Mine.hd.heap_1 := by k_fill; exact ⟨rfl, rfl⟩
  refine lawX_of (by rfl) ?_
  dsimp only [lawD, d_of]
  obtain ⟨B, X, T, h100, hos, hba⟩ := G
  k_steps
  rename Fr _ _ _ _ => F5
  rename News _ _ _ _ => N5
  exact next _ _ ⟨B, X, T, h100, hos, hba⟩ F5 N5 
end
end
section
section
variable (w : World) (loose : List Str) (mean : ExcName → Option Value) (mg mb : Str → Option Value)
theorem law_6 (cd : Value) (fa : Addr) (g : Heap) (L : Addr) (s₀ s : Shared) (Q : Flow → Shared → Prop) (E : Value → Shared → Prop) (m : Str → Option Value) (fut : List (Addr × Obj)) 
    (next : ∀ (s : Shared) (NA : Addr) (u0 u1 u2 u3 u4 u5 : Tok), LawG w loose mean mg mb g L s₀ s → Fr g L s.heap (upd m (Str.ofString "names") (.ref NA)) → News g L s.heap ((NA, lstO (namesV u0 u1 u2 u3 u4 u5) 0) :: fut) → Q .next s)
    (G : LawG w loose mean mg mb g L s₀ s) (F : Fr g L s.heap m) (N : News g L s.heap (fut)) : LawX w L fa cd 6 Q E s := by
  k_with "x26" => skip
  k_with "mine all" => ((fail_if_success k_extra "x27"); assumption)
  have _ : PySem.Challenge.rw_wo0016_01 = PySem.Challenge.rw_wo0016_01 ∧ Mine.hd.heap_1 = Mine.hd.heap_1 := by k_fill; exact ⟨rfl, rfl⟩
  refine lawX_of (by rfl) ?_
  dsimp only [lawD, d_of]
  obtain ⟨B, X, T, h100, hos, hba⟩ := G
  k_steps
  rename Fr _ _ _ _ => F5
  rename News _ _ _ _ => N5
  exact next _ _ _ _ _ _ _ _ ⟨B, X, T, h100, hos, hba⟩ F5 N5 
end
end
section
section
variable (w : World) (loose : List Str) (mean : ExcName → Option Value) (mg mb : Str → Option Value)
theorem law_7 (cd : Value) (fa : Addr) (g : Heap) (L : Addr) (s₀ s : Shared) (Q : Flow → Shared → Prop) (E : Value → Shared → Prop) (m : Str → Option Value) (fut : List (Addr × Obj)) (CA : Addr) (c0 c1 c2 c3 : Int) (t0 t1 t2 t3 : Tok) (e : Nat) (o3 : Obj) (d3 : o3.data = .cell (some (.ref CA)))
    (next : ∀ (s : Shared) (u : Tok), LawG w loose mean mg mb g L s₀ s → Fr g L s.heap (upd m (Str.ofString "one") (.int ((c2.fdiv 6).fmod 6) u)) → News g L s.heap ((CA, lstO [.int c0 t0, .int c1 t1, .int c2 t2, .int c3 t3] e) :: (L + 1 + 1 + 1, o3) :: fut) → Q .next s)
    (G : LawG w loose mean mg mb g L s₀ s) (F : Fr g L s.heap m) (N : News g L s.heap ((CA, lstO [.int c0 t0, .int c1 t1, .int c2 t2, .int c3 t3] e) :: (L + 1 + 1 + 1, o3) :: fut)) : LawX w L fa cd 7 Q E s := by
  k_with "x27" => skip
  k_with "mine all" => ((fail_if_success k_extra "x28"); assumption)
  have _ : PySem.Challenge.rw_wo0016_01 = PySem.Challenge.rw_wo0016_01 ∧ Mine.hd.heap_1 = Mine.hd.heap_1 := by k_fill; exact ⟨rfl, rfl⟩
  refine lawX_of (by rfl) ?_
  dsimp only [lawD, d_of]
  obtain ⟨B, X, T, h100, hos, hba⟩ := G
  k_steps
  rename Fr _ _ _ _ => F5
  rename News _ _ _ _ => N5
  exact next _ _ ⟨B, X, T, h100, hos, hba⟩ F5 N5 
end
end
section
section
variable (w : World) (loose : List Str) (mean : ExcName → Option Value) (mg mb : Str → Option Value)
theorem law_8 (cd : Value) (fa : Addr) (g : Heap) (L : Addr) (s₀ s : Shared) (Q : Flow → Shared → Prop) (E : Value → Shared → Prop) (m : Str → Option Value) (fut : List (Addr × Obj)) (CA : Addr) (c0 c1 c2 c3 : Int) (t0 t1 t2 t3 : Tok) (e : Nat) (o3 : Obj) (d3 : o3.data = .cell (some (.ref CA))) (o1 : Int) (v1 : Tok) (m1 : m (Str.ofString "one") = some (.int o1 v1))
    (next : ∀ (s : Shared) (u : Tok), LawG w loose mean mg mb g L s₀ s → Fr g L s.heap (upd m (Str.ofString "other") (.int ((o1 + 1 + (c2.fdiv 36).fmod 5).fmod 6) u)) → News g L s.heap ((CA, lstO [.int c0 t0, .int c1 t1, .int c2 t2, .int c3 t3] e) :: (L + 1 + 1 + 1, o3) :: fut) → Q .next s)
    (G : LawG w loose mean mg mb g L s₀ s) (F : Fr g L s.heap m) (N : News g L s.heap ((CA, lstO [.int c0 t0, .int c1 t1, .int c2 t2, .int c3 t3] e) :: (L + 1 + 1 + 1, o3) :: fut)) : LawX w L fa cd 8 Q E s := by
  k_with "x28" => skip
  k_with "mine all" => ((fail_if_success k_extra "x29"); assumption)
  have _ : PySem.Challenge.rw_wo0016_01 = PySem.Challenge.rw_wo0016_01 ∧ Mine.hd.heap_1 = Mine.hd.heap_1 := by k_fill; exact ⟨rfl, rfl⟩
  refine lawX_of (by rfl) ?_
  dsimp only [lawD, d_of]
  obtain ⟨B, X, T, h100, hos, hba⟩ := G
  have F := fr_know F m1
  k_steps
  rename Fr _ _ _ _ => F5
  rename News _ _ _ _ => N5
  exact next _ _ ⟨B, X, T, h100, hos, hba⟩ (fr_unk1 F5 m1) N5 
end
end
section
section
variable (w : World) (loose : List Str) (mean : ExcName → Option Value) (mg mb : Str → Option Value)
theorem law_9 (cd : Value) (fa : Addr) (g : Heap) (L : Addr) (s₀ s : Shared) (Q : Flow → Shared → Prop) (E : Value → Shared → Prop) (m : Str → Option Value) (fut : List (Addr × Obj)) (NA : Addr) (nv : List Value) (ne : Nat) (hnv : nv.length = 6) (o5 : Obj) (d5 : o5.data = .cell none) (f5 : ∀ p ∈ fut, p.1 ≠ L + 1 + 1 + 1 + 1 + 1) (hNA : @Ne Nat NA (L + 1 + 1 + 1 + 1 + 1)) (i1 i2 wy : Int) (hwy : wy = 1 ∨ wy = -1) (hi1 : 0 ≤ i1 ∧ i1 < 6) (hi2 : 0 ≤ i2 ∧ i2 < 6) (x1 x2 : Str) (q1 q2 : Tok) (hx1 : nv[i1.toNat]? = some (.str x1 q1)) (hx2 : nv[i2.toNat]? = some (.str x2 q2)) (v1 v2 v3 : Tok) (m0 : m (Str.ofString "names") = some (.ref NA)) (m1 : m (Str.ofString "one") = some (.int i1 v1)) (m2 : m (Str.ofString "other") = some (.int i2 v2)) (m3 : m (Str.ofString "way") = some (.int wy v3))
    (next : ∀ (s : Shared) (WA : Addr) (o5 : Obj) (u3 u4 u5 : Tok), LawG w loose mean mg mb g L s₀ s → Fr g L s.heap m → News g L s.heap ((WA, lstO [.str x1 q1, .str x2 q2, .str (wayW wy) u3, .str (Str.ofString "OI") u4, .str (Str.ofString "#n \"\n\x0b\\") u5] 0) :: (NA, lstO nv ne) :: (L + 1 + 1 + 1 + 1 + 1, o5) :: fut) → o5.data = .cell (some (.ref WA)) → Q .next s)
    (G : LawG w loose mean mg mb g L s₀ s) (F : Fr g L s.heap m) (N : News g L s.heap ((NA, lstO nv ne) :: (L + 1 + 1 + 1 + 1 + 1, o5) :: fut)) : LawX w L fa cd 9 Q E s := by
  k_with "x29" => skip
  k_with "mine all" => ((fail_if_success k_extra "x30"); assumption)
  k_with "subscriptTail" => ((fail_if_success k_extra "x30"); k_here; (with_reducible show wpAny _ _ (subscriptTail _ _ (Value.ref _) (Value.int _ _)) _ _ _); (first | (with_unfolding_all refine' item_new (by assumption) (by k_mem) (by omega) (by omega) (by k_extra "mine item") ?_ (by with_unfolding_all rfl); k_whole)))
  k_with "call ref" => ((fail_if_success k_extra "x30"); k_here; k_dflt ((show wpAny _ _ (call (Value.ref 110) [_]) _ _ _); refine' useP (let_H _ _ _ _ _ _ ?_ _) (by assumption) (by assumption) (by assumption) (by assumption) (by assumption) (by exact rfl) (by exact rfl) (by exact rfl) (by exact rfl) (by (simp only [depth_deeper, depth_caller, recursionLimit]; omega)) (by (simp only [units_deeper, units_caller, cLine]; omega)) trivial ?_; (assumption); intro v' now' h' tk' hP' F' N' l'; (obtain ⟨e1', t', e2'⟩ := hP'); subst e1'; subst e2'; clear l'; (try dsimp only [List.nil_append] at N'); revert h' tk' F' N' t'; intro _ _ _ _ _))
  k_with "call ref" => ((fail_if_success k_extra "x30"); k_here; k_dflt ((show wpAny _ _ (call (Value.ref 110) [_]) _ _ _); refine' useP (letOI_H _ _ _ _ _ _) (by assumption) (by assumption) (by assumption) (by assumption) (by assumption) (by exact rfl) (by exact rfl) (by exact rfl) (by exact rfl) (by (simp only [depth_deeper, depth_caller, recursionLimit]; omega)) (by (simp only [units_deeper, units_caller, cLine]; omega)) trivial ?_; intro v' now' h' tk' hP' F' N' l'; (obtain ⟨e1', t', e2'⟩ := hP'); subst e1'; subst e2'; clear l'; (try dsimp only [List.nil_append] at N'); revert h' tk' F' N' t'; intro _ _ _ _ _))
  have _ : PySem.Challenge.rw_wo0016_01 = PySem.Challenge.rw_wo0016_01 ∧ Mine.hd.heap_1 = Mine.hd.heap_1 := by k_fill; exact ⟨rfl, rfl⟩
  refine lawX_of (by rfl) ?_
  dsimp only [lawD, d_of]
  obtain ⟨B, X, T, h100, hos, hba⟩ := G
  have F := fr_know4 F m0 m1 m2 m3
  k_steps
  rename Fr _ _ _ _ => F5
  rename News _ _ _ _ => N5
  rename _ = Data.cell (some _) => d5
  exact next _ _ _ _ _ _ ⟨B, X, T, h100, hos, hba⟩ (fr_unk04 F5 m0 m1 m2 m3) N5 d5 
end
end
section
section
namespace Z_law_10
noncomputable def zP (w : World) (loose : List Str) (mean : ExcName → Option Value) (mg : Str → Option Value) (mb : Str → Option Value) (cd : Value) (fa : Addr) (g : Heap) (L : Addr) (s₀ : Shared) (s : Shared) (Q : Flow → Shared → Prop) (E : Value → Shared → Prop) (m : Str → Option Value) (fut : List (Addr × Obj)) (WA : Addr) (x1 : Str) (x2 : Str) (x3 : Str) (x4 : Str) (x5 : Str) (q1 : Tok) (q2 : Tok) (q3 : Tok) (q4 : Tok) (q5 : Tok) (we : Nat) (CA : Addr) (c0 : Int) (c1 : Int) (c2 : Int) (c3 : Int) (t0 : Tok) (t1 : Tok) (t2 : Tok) (t3 : Tok) (e : Nat) (o5 : Obj) (o3 : Obj) : Prop := ∀ (d5 : o5.data = .cell (some (.ref WA))) (d3 : o3.data = .cell (some (.ref CA))) (hz1 : x1.cps.size ≤ 100) (hz2 : x2.cps.size ≤ 100) (hz3 : x3.cps.size ≤ 100) (hz4 : x4.cps.size ≤ 100) (hz5 : x5.cps.size ≤ 100) (next : ∀ (s : Shared) (x : Str) (u : Tok), LawG w loose mean mg mb g L s₀ s → Fr g L s.heap (upd m (Str.ofString "text") (.str x u)) → News g L s.heap ((WA, lstO [.str x1 q1, .str x2 q2, .str x3 q3, .str x4 q4, .str x5 q5] we) :: (L + 1 + 1 + 1 + 1 + 1, o5) :: (CA, lstO [.int c0 t0, .int c1 t1, .int c2 t2, .int c3 t3] e) :: (L + 1 + 1 + 1, o3) :: fut) → x.cps.toList = (wrt x1 ((c3.fdiv 3).fmod 3) ++ wrt x2 ((c3.fdiv 9).fmod 3) ++ wrt x3 ((c3.fdiv 27).fmod 3) ++ wrt x4 ((c3.fdiv 81).fmod 3) ++ wrt x5 ((c3.fdiv 243).fmod 3)).dropLast → Q .next s) (G : LawG w loose mean mg mb g L s₀ s) (F : Fr g L s.heap m) (N : News g L s.heap ((WA, lstO [.str x1 q1, .str x2 q2, .str x3 q3, .str x4 q4, .str x5 q5] we) :: (L + 1 + 1 + 1 + 1 + 1, o5) :: (CA, lstO [.int c0 t0, .int c1 t1, .int c2 t2, .int c3 t3] e) :: (L + 1 + 1 + 1, o3) :: fut)), LawX w L fa cd 10 Q E s
noncomputable def zk : DD := pickD fun c => zP (c.fW 0) (c.fLs 0) (c.fMe 0) (c.fMp 0) (c.fMp 1) (c.fV 0) (c.fA 0) (c.fH 0) (c.fA 1) (c.fSh 0) (c.fSh 1) (c.fQ 0) (c.fE 0) (c.fMp 2) (c.fLed 0) (c.fA 2) (c.fS 0) (c.fS 1) (c.fS 2) (c.fS 3) (c.fS 4) (c.fT 0) (c.fT 1) (c.fT 2) (c.fT 3) (c.fT 4) (c.fN 0) (c.fA 3) (c.fI 0) (c.fI 1) (c.fI 2) (c.fI 3) (c.fT 5) (c.fT 6) (c.fT 7) (c.fT 8) (c.fN 1) (c.fO 0) (c.fO 1)
noncomputable section
@[irreducible] def w : World := zk.fW 0
@[irreducible] def loose : List Str := zk.fLs 0
@[irreducible] def mean : ExcName → Option Value := zk.fMe 0
@[irreducible] def mg : Str → Option Value := zk.fMp 0
@[irreducible] def mb : Str → Option Value := zk.fMp 1
@[irreducible] def cd : Value := zk.fV 0
@[irreducible] def fa : Addr := zk.fA 0
@[irreducible] def g : Heap := zk.fH 0
@[irreducible] def L : Addr := zk.fA 1
@[irreducible] def s₀ : Shared := zk.fSh 0
@[irreducible] def s : Shared := zk.fSh 1
@[irreducible] def Q : Flow → Shared → Prop := zk.fQ 0
@[irreducible] def E : Value → Shared → Prop := zk.fE 0
@[irreducible] def m : Str → Option Value := zk.fMp 2
@[irreducible] def fut : List (Addr × Obj) := zk.fLed 0
@[irreducible] def WA : Addr := zk.fA 2
@[irreducible] def x1 : Str := zk.fS 0
@[irreducible] def x2 : Str := zk.fS 1
@[irreducible] def x3 : Str := zk.fS 2
@[irreducible] def x4 : Str := zk.fS 3
@[irreducible] def x5 : Str := zk.fS 4
@[irreducible] def q1 : Tok := zk.fT 0
@[irreducible] def q2 : Tok := zk.fT 1
@[irreducible] def q3 : Tok := zk.fT 2
@[irreducible] def q4 : Tok := zk.fT 3
@[irreducible] def q5 : Tok := zk.fT 4
@[irreducible] def we : Nat := zk.fN 0
@[irreducible] def CA : Addr := zk.fA 3
@[irreducible] def c0 : Int := zk.fI 0
@[irreducible] def c1 : Int := zk.fI 1
@[irreducible] def c2 : Int := zk.fI 2
@[irreducible] def c3 : Int := zk.fI 3
@[irreducible] def t0 : Tok := zk.fT 5
@[irreducible] def t1 : Tok := zk.fT 6
@[irreducible] def t2 : Tok := zk.fT 7
@[irreducible] def t3 : Tok := zk.fT 8
@[irreducible] def e : Nat := zk.fN 1
@[irreducible] def o5 : Obj := zk.fO 0
@[irreducible] def o3 : Obj := zk.fO 1
end
theorem zcore : zP w loose mean mg mb cd fa g L s₀ s Q E m fut WA x1 x2 x3 x4 x5 q1 q2 q3 q4 q5 we CA c0 c1 c2 c3 t0 t1 t2 t3 e o5 o3 := by
  k_with "x30" => skip
  k_with "mine fmods" => ((fail_if_success k_extra "x31"); skip)
  k_with "mine all" => ((fail_if_success k_extra "x31"); assumption)
  k_with "eval ListComp" => ((fail_if_success k_extra "x31"); k_here; k_dflt (refine ListComp_R (by k_asm) (by with_unfolding_all rfl) (by decide) (by rfl) (by decide) (by rfl) ?_))
  k_with "SrcC" => ((fail_if_success k_extra "x31"); k_here; k_dflt (refine hold_of ?_))
  k_with "CompEnd" => ((fail_if_success k_extra "x31"); (refine hold_of ?_))
  k_with "call builtin:str.join" => ((fail_if_success k_extra "x31"); k_here; k_dflt (refine hold_of ?_))
  k_with "subscriptTail" => ((fail_if_success k_extra "x31"); k_here; (with_reducible show wpAny _ _ (subscriptTail _ _ (Value.ref _) (Value.int _ _)) _ _ _); (first | (with_unfolding_all refine' item_new (by assumption) (by k_mem) (by omega) (by omega) (by k_extra "mine item") ?_ (by with_unfolding_all rfl); k_whole)))
  k_with "call ref" => ((fail_if_success k_extra "x31"); k_here; k_dflt ((show wpAny _ _ (call (Value.ref 115) [_, _]) _ _ _); refine' useP (wr_H _ _ _ _ _ _ _ ?_ _ _ ?_) (by assumption) (by assumption) (by assumption) (by assumption) (by assumption) (by exact rfl) (by exact rfl) (by exact rfl) (by exact rfl) (by (simp only [depth_deeper, depth_caller, recursionLimit]; omega)) (by (simp only [units_deeper, units_caller, cLine]; omega)) trivial ?_; ((k_extra "mine mod3")); (assumption); intro v' now' h' tk' hP' F' N' l'; (obtain ⟨e1', y', t', e2', e3'⟩ := hP'); subst e1'; subst e2'; clear l'; (try dsimp only [List.nil_append] at N'); revert h' tk' F' N' y' t' e3'; intro _ _ _ _ _ _ _))
  k_with "mine mod3" => ((fail_if_success k_extra "x31"); exact mod3 _)
  unfold zP
  intro d5 d3 hz1 hz2 hz3 hz4 hz5 next G F N
  have _ : PySem.Challenge.rw_wo0016_01 = PySem.Challenge.rw_wo0016_01 ∧ Mine.hd.heap_1 = Mine.hd.heap_1 := by k_fill; exact ⟨rfl, rfl⟩
  refine lawX_of (by rfl) ?_
  dsimp only [lawD, d_of]
  obtain ⟨B, X, T, h100, hos, hba⟩ := G
  k_steps
  refine unhold ?_
  rename IsRange _ _ _ _ _ _ _ _ => R2
  refine ⟨_, _, _, _, _, _, _, 5, _, rfl, rfl, by k_asm, by k_asm, R2, by decide, by decide, by rw [PySem.sizeLine_eq]; omega, ?_⟩
  rintro s8 ⟨g8, e8⟩
  subst e8
  refine LCg.CompRest.succ ?_
  intro v I oI C oC D m₂ h tk E1 hv hC hx F N off ne
  obtain ⟨t9, hv⟩ := hv
  have hv : v = .int 0 t9 := hv
  subst hv
  k_steps
  refine unhold (LCg.CompEnd.intro (by assumption) (by assumption) ((WA, lstO [.str x1 q1, .str x2 q2, .str x3 q3, .str x4 q4, .str x5 q5] we) :: (L + 1 + 1 + 1 + 1 + 1, o5) :: (CA, lstO [.int c0 t0, .int c1 t1, .int c2 t2, .int c3 t3] e) :: (L + 1 + 1 + 1, o3) :: fut) (fun q9 hq9 => by k_ownIn) (by k_dflt assumption) trivial ?_)
  refine LCg.CompRest.succ ?_
  intro v I oI C oC D m₂ h tk E1 hv hC hx F N off ne
  obtain ⟨t9, hv⟩ := hv
  have hv : v = .int 1 t9 := hv
  subst hv
  k_steps
  refine unhold (LCg.CompEnd.intro (by assumption) (by assumption) ((WA, lstO [.str x1 q1, .str x2 q2, .str x3 q3, .str x4 q4, .str x5 q5] we) :: (L + 1 + 1 + 1 + 1 + 1, o5) :: (CA, lstO [.int c0 t0, .int c1 t1, .int c2 t2, .int c3 t3] e) :: (L + 1 + 1 + 1, o3) :: fut) (fun q9 hq9 => by k_ownIn) (by k_dflt assumption) trivial ?_)
  refine LCg.CompRest.succ ?_
  intro v I oI C oC D m₂ h tk E1 hv hC hx F N off ne
  obtain ⟨t9, hv⟩ := hv
  have hv : v = .int 2 t9 := hv
  subst hv
  k_steps
  refine unhold (LCg.CompEnd.intro (by assumption) (by assumption) ((WA, lstO [.str x1 q1, .str x2 q2, .str x3 q3, .str x4 q4, .str x5 q5] we) :: (L + 1 + 1 + 1 + 1 + 1, o5) :: (CA, lstO [.int c0 t0, .int c1 t1, .int c2 t2, .int c3 t3] e) :: (L + 1 + 1 + 1, o3) :: fut) (fun q9 hq9 => by k_ownIn) (by k_dflt assumption) trivial ?_)
  refine LCg.CompRest.succ ?_
  intro v I oI C oC D m₂ h tk E1 hv hC hx F N off ne
  obtain ⟨t9, hv⟩ := hv
  have hv : v = .int 3 t9 := hv
  subst hv
  k_steps
  refine unhold (LCg.CompEnd.intro (by assumption) (by assumption) ((WA, lstO [.str x1 q1, .str x2 q2, .str x3 q3, .str x4 q4, .str x5 q5] we) :: (L + 1 + 1 + 1 + 1 + 1, o5) :: (CA, lstO [.int c0 t0, .int c1 t1, .int c2 t2, .int c3 t3] e) :: (L + 1 + 1 + 1, o3) :: fut) (fun q9 hq9 => by k_ownIn) (by k_dflt assumption) trivial ?_)
  refine LCg.CompRest.succ ?_
  intro v I oI C oC D m₂ h tk E1 hv hC hx F N off ne
  obtain ⟨t9, hv⟩ := hv
  have hv : v = .int 4 t9 := hv
  subst hv
  k_steps
  refine unhold (LCg.CompEnd.intro (by assumption) (by assumption) ((WA, lstO [.str x1 q1, .str x2 q2, .str x3 q3, .str x4 q4, .str x5 q5] we) :: (L + 1 + 1 + 1 + 1 + 1, o5) :: (CA, lstO [.int c0 t0, .int c1 t1, .int c2 t2, .int c3 t3] e) :: (L + 1 + 1 + 1, o3) :: fut) (fun q9 hq9 => by k_ownIn) (by k_dflt assumption) trivial ?_)
  refine LCg.CompRest.zero ?_
  k_steps
  refine unhold ?_
  rename News _ _ _ _ => N5
  rename _ = wrt x1 _ => w1
  rename _ = wrt x2 _ => w2
  rename _ = wrt x3 _ => w3
  rename _ = wrt x4 _ => w4
  rename _ = wrt x5 _ => w5
  have hL : ∀ (a : Str) (b : Int), a.cps.size ≤ 100 → (wrt a b).length ≤ 204 := fun a b h => by have := wrt_len a b; omega
  refine join_J ⟨_, (N5 _ (List.Mem.head _)).1, rfl, _, rfl⟩ (by repeat constructor) ?_ fun J t9 k9 hJ => ?_
  · simp only [List.map_cons, List.map_nil, List.sum_cons, List.sum_nil, List.length_cons, List.length_nil, Str.length, ← Array.length_toList, w1, w2, w3, w4, w5]
    have b1 := hL x1 ((c3.fdiv 3).fmod 3) hz1
    have b2 := hL x2 ((c3.fdiv 9).fmod 3) hz2
    have b3 := hL x3 ((c3.fdiv 27).fmod 3) hz3
    have b4 := hL x4 ((c3.fdiv 81).fmod 3) hz4
    have b5 := hL x5 ((c3.fdiv 243).fmod 3) hz5
    have e1 : (3 : Int) ^ (0 + 1 : Int).toNat = 3 := rfl
    have e2 : (3 : Int) ^ (1 + 1 : Int).toNat = 9 := rfl
    have e3 : (3 : Int) ^ (2 + 1 : Int).toNat = 27 := rfl
    have e4 : (3 : Int) ^ (3 + 1 : Int).toNat = 81 := rfl
    have e5 : (3 : Int) ^ (4 + 1 : Int).toNat = 243 := rfl
    have e6 : [c0, c1, c2, c3].getD (Int.toNat 3) 0 = c3 := rfl
    simp only [e1, e2, e3, e4, e5, e6]
    omega
  · have hc : J.cps.toList = wrt x1 ((c3.fdiv 3).fmod 3) ++ wrt x2 ((c3.fdiv 9).fmod 3) ++ wrt x3 ((c3.fdiv 27).fmod 3) ++ wrt x4 ((c3.fdiv 81).fmod 3) ++ wrt x5 ((c3.fdiv 243).fmod 3) := by
      rw [hJ]
      simp only [List.flatMap_cons, List.flatMap_nil, w1, w2, w3, w4, w5, List.append_nil, List.append_assoc]
      rfl
    have hJs : J.length ≤ 2000 := by
      have b1 := hL x1 ((c3.fdiv 3).fmod 3) hz1
      have b2 := hL x2 ((c3.fdiv 9).fmod 3) hz2
      have b3 := hL x3 ((c3.fdiv 27).fmod 3) hz3
      have b4 := hL x4 ((c3.fdiv 81).fmod 3) hz4
      have b5 := hL x5 ((c3.fdiv 243).fmod 3) hz5
      rw [Str.length, ← Array.length_toList, hc]
      simp only [List.length_append]
      omega
    clear hJ
    k_steps
    have hn : 1 ≤ J.length := by
      have b1 := wrt_ne x1 ((c3.fdiv 3).fmod 3)
      rw [Str.length, ← Array.length_toList, hc]
      simp only [List.length_append]
      omega
    rename Fr _ _ _ _ => F5
    rename News _ _ _ _ => N6
    exact next _ _ _ ⟨B, X, T, h100, hos, hba⟩ F5 (nd1 N6) (by rw [cut_last hn, hc])
theorem zall : ∀ c : DD, zP (c.fW 0) (c.fLs 0) (c.fMe 0) (c.fMp 0) (c.fMp 1) (c.fV 0) (c.fA 0) (c.fH 0) (c.fA 1) (c.fSh 0) (c.fSh 1) (c.fQ 0) (c.fE 0) (c.fMp 2) (c.fLed 0) (c.fA 2) (c.fS 0) (c.fS 1) (c.fS 2) (c.fS 3) (c.fS 4) (c.fT 0) (c.fT 1) (c.fT 2) (c.fT 3) (c.fT 4) (c.fN 0) (c.fA 3) (c.fI 0) (c.fI 1) (c.fI 2) (c.fI 3) (c.fT 5) (c.fT 6) (c.fT 7) (c.fT 8) (c.fN 1) (c.fO 0) (c.fO 1) := allD (by with_unfolding_all exact zcore)
end Z_law_10
theorem law_10 (w : World) (loose : List Str) (mean : ExcName → Option Value) (mg mb : Str → Option Value) (cd : Value) (fa : Addr) (g : Heap) (L : Addr) (s₀ s : Shared) (Q : Flow → Shared → Prop) (E : Value → Shared → Prop) (m : Str → Option Value) (fut : List (Addr × Obj)) (WA : Addr) (x1 x2 x3 x4 x5 : Str) (q1 q2 q3 q4 q5 : Tok) (we : Nat) (CA : Addr) (c0 c1 c2 c3 : Int) (t0 t1 t2 t3 : Tok) (e : Nat) (o5 : Obj) (d5 : o5.data = .cell (some (.ref WA))) (o3 : Obj) (d3 : o3.data = .cell (some (.ref CA))) (hz1 : x1.cps.size ≤ 100) (hz2 : x2.cps.size ≤ 100) (hz3 : x3.cps.size ≤ 100) (hz4 : x4.cps.size ≤ 100) (hz5 : x5.cps.size ≤ 100)
    (next : ∀ (s : Shared) (x : Str) (u : Tok), LawG w loose mean mg mb g L s₀ s → Fr g L s.heap (upd m (Str.ofString "text") (.str x u)) → News g L s.heap ((WA, lstO [.str x1 q1, .str x2 q2, .str x3 q3, .str x4 q4, .str x5 q5] we) :: (L + 1 + 1 + 1 + 1 + 1, o5) :: (CA, lstO [.int c0 t0, .int c1 t1, .int c2 t2, .int c3 t3] e) :: (L + 1 + 1 + 1, o3) :: fut) → x.cps.toList = (wrt x1 ((c3.fdiv 3).fmod 3) ++ wrt x2 ((c3.fdiv 9).fmod 3) ++ wrt x3 ((c3.fdiv 27).fmod 3) ++ wrt x4 ((c3.fdiv 81).fmod 3) ++ wrt x5 ((c3.fdiv 243).fmod 3)).dropLast → Q .next s)
    (G : LawG w loose mean mg mb g L s₀ s) (F : Fr g L s.heap m) (N : News g L s.heap ((WA, lstO [.str x1 q1, .str x2 q2, .str x3 q3, .str x4 q4, .str x5 q5] we) :: (L + 1 + 1 + 1 + 1 + 1, o5) :: (CA, lstO [.int c0 t0, .int c1 t1, .int c2 t2, .int c3 t3] e) :: (L + 1 + 1 + 1, o3) :: fut)) : LawX w L fa cd 10 Q E s := by
  exact Z_law_10.zall ⟨fun _ => w, fun _ => loose, fun _ => mean, fun i => [mg, mb, m].getD i mg, fun i => [fa, L, WA, CA].getD i fa, fun i => [we, e].getD i we, fun i => [c0, c1, c2, c3].getD i c0, fun i => [q1, q2, q3, q4, q5, t0, t1, t2, t3].getD i q1, fun _ => cd, fun i => [x1, x2, x3, x4, x5].getD i x1, fun i => [o5, o3].getD i o5, fun _ => g, fun i => [s₀, s].getD i s₀, anyD.fLv, anyD.fLi, anyD.fLn, anyD.fLb, fun _ => fut, fun _ => Q, fun _ => E, anyD.fB, anyD.fIt, anyD.fAv, anyD.fB3, anyD.fGd, anyD.fEn, anyD.fAr, anyD.fOv, anyD.fOp, anyD.fLa, anyD.fEnv, anyD.fSs, anyD.fSt, anyD.fSc, anyD.fP, anyD.fEx, anyD.fR, anyD.fPo, anyD.fCl, anyD.fY, anyD.fRR, anyD.fBB, anyD.fNl, anyD.fOa, anyD.fFd, anyD.fAo, anyD.fDe, anyD.fIv⟩ d5 d3 hz1 hz2 hz3 hz4 hz5 next G F N

end
end
section
section
variable (w : World) (loose : List Str) (mean : ExcName → Option Value) (mg mb : Str → Option Value)
theorem law_11 (cd : Value) (fa : Addr) (g : Heap) (L : Addr) (s₀ s : Shared) (Q : Flow → Shared → Prop) (E : Value → Shared → Prop) (m : Str → Option Value) (fut : List (Addr × Obj)) (x : Str) (u : Tok) (hx : x.cps.size ≤ 1000000) (o6 : Obj) (d6 : o6.data = .cell none) (hCH : CodeHd g 104 100) (m1 : m (Str.ofString "text") = some (.str x u)) (f6 : ∀ p ∈ fut, p.1 ≠ L + 1 + 1 + 1 + 1 + 1 + 1) (f100 : ∀ p ∈ fut, p.1 ≠ 100)
    (next : ∀ (s : Shared) (lx dx P : Addr) (a b c d : Int × Tok) (tn tw : Tok) (x2 tf : Addr) (ys : List Value) (c9 : Nat) (sg : Addr) (rest : List (Addr × Obj)) (o6 : Obj), LawG w loose mean mg mb g L s₀ s → Fr g L s.heap m → News g L s.heap ((lx, instObj 52 dx) :: (dx, dictOf (lexD a b c d 1 tn (.ref x2) tw P) 4) :: (P, lstO [] 0) :: (sg, lstO ys c9) :: (L + 1 + 1 + 1 + 1 + 1 + 1, o6) :: (rest ++ fut)) → o6.data = .cell (some (.ref lx)) → SignsAre ys x.cps.toList → LexOk w loose mean mg mb lx dx P sg x2 tf rest → OffLex lx dx P sg ((L + 1 + 1 + 1 + 1 + 1 + 1, o6) :: fut) → (∃ ps, (100, tabObj ps) ∈ rest) → (∀ p ∈ rest, p.1 = 100 ∨ ∀ q ∈ (L + 1 + 1 + 1 + 1 + 1 + 1, o6) :: fut, q.1 ≠ p.1) → Q .next s)
    (G : LawG w loose mean mg mb g L s₀ s) (F : Fr g L s.heap m) (N : News g L s.heap ((100, tabObj #[]) :: (L + 1 + 1 + 1 + 1 + 1 + 1, o6) :: fut)) : LawX w L fa cd 11 Q E s := by
  k_with "x31" => skip
  k_with "mine all" => ((fail_if_success k_extra "x32"); assumption)
  k_with "call ref" => ((fail_if_success k_extra "x32"); k_here; k_dflt (refine hold_of ?_))
  have _ : PySem.Challenge.rw_wo0016_01 = PySem.Challenge.rw_wo0016_01 ∧ Mine.hd.heap_1 = Mine.hd.heap_1 := by k_fill; exact ⟨rfl, rfl⟩
  refine lawX_of (by rfl) ?_
  dsimp only [lawD, d_of]
  obtain ⟨B, X, T, h100, hos, hba⟩ := G
  have F := fr_know F m1
  k_steps
  refine unhold ?_
  refine' useH (lexer_H w loose mean mg mb x u hx) ?B ?F ?X ?N ?T ?hh ?hA ?hf ?hk ?hd ?hu ?hsub ?hp ?_
  (case B => assumption)
  (case F => assumption)
  (case X => assumption)
  (case N => assumption)
  (case T => assumption)
  (case hh => exact rfl)
  (case hA => exact rfl)
  (case hf => exact rfl)
  (case hk => exact rfl)
  (case hd => (simp only [depth_deeper, depth_caller, recursionLimit]; omega))
  (case hu => (simp only [units_deeper, units_caller, cLine]; omega))
  (case hsub => (intro p hp; rw [List.mem_singleton.mp hp]; exact List.Mem.head _))
  (case hp => (obtain ⟨o, vs, file, tf, flags, tg, inF, text, tt, e1, r1, r2, r3, r4, r5, r6, r7, r8, hne⟩ := hCH; exact ⟨o, vs, file, tf, flags, tg, inF, text, tt, F.keep _ _ e1, r1, r2, r3, r4, r5, r6, r7, r8, hne⟩))
  rintro v now h' tk' ⟨lx, dx, P, a, b, c, d, tn, tw, x2, tf, ys, c', sg, rest, rfl, hys, rfl, hfeed, htake, hap, hsg, ps, hps⟩ F' kp fr KK
  have hk6 : ∀ p ∈ lexN lx dx P a b c d 1 tn (.ref x2) tw 4 [] 0 ++ (sg, lstO ys c') :: rest, p.1 = 100 ∨ ∀ q ∈ (L + 1 + 1 + 1 + 1 + 1 + 1, o6) :: fut, q.1 ≠ p.1 := fun p hp => by
    rcases fr p hp with ⟨q, hq, hqp⟩ | h
    · rw [List.mem_singleton.mp hq] at hqp
      exact .inl hqp.symm
    · exact .inr fun q hq => h q (.tail _ hq)
  have h100' : ∀ q ∈ (L + 1 + 1 + 1 + 1 + 1 + 1, o6) :: fut, q.1 ≠ 100 := fun q hq => by
    rcases List.mem_cons.mp hq with rfl | hq
    · exact (by omega : @Ne Nat (L + 1 + 1 + 1 + 1 + 1 + 1) 100)
    · exact f100 q hq
  have hne : ∀ z ∈ [lx, dx, P, sg], z ≠ 100 := fun z hz => Ne.symm (hap _ hps z hz)
  have hoff : OffLex lx dx P sg ((L + 1 + 1 + 1 + 1 + 1 + 1, o6) :: fut) := fun q hq => by
    have h9 : ∀ p ∈ lexN lx dx P a b c d 1 tn (.ref x2) tw 4 [] 0 ++ (sg, lstO ys c') :: rest, p.1 ≠ 100 → q.1 ≠ p.1 := fun p hp hn => by
      rcases hk6 p hp with h | h
      · exact absurd h hn
      · exact h q hq
    exact ⟨h9 _ (.head _) (hne lx (by simp)), h9 _ (.tail _ (.head _)) (hne dx (by simp)), h9 _ (.tail _ (.tail _ (.head _))) (hne P (by simp)), h9 _ (.tail _ (.tail _ (.tail _ (.head _)))) (hne sg (by simp))⟩
  have hrest : ∀ p ∈ rest, p.1 = 100 ∨ ∀ q ∈ (L + 1 + 1 + 1 + 1 + 1 + 1, o6) :: fut, q.1 ≠ p.1 := fun p hp => hk6 p (List.mem_append_right _ (.tail _ hp))
  have fall : ∀ p ∈ rest ++ fut, p.1 ≠ L + 1 + 1 + 1 + 1 + 1 + 1 := fun p hp => by
    rcases List.mem_append.mp hp with q | q
    · rcases hrest p q with h | h
      · intro hq
        rw [h] at hq
        exact absurd hq (by omega : ¬ @Eq Nat 100 (L + 1 + 1 + 1 + 1 + 1 + 1))
      · exact (h _ (List.Mem.head _)).symm
    · exact f6 p q
  have k1 : lx ≠ L + 1 + 1 + 1 + 1 + 1 + 1 := (hoff _ (List.Mem.head _)).1.symm
  have k2 : dx ≠ L + 1 + 1 + 1 + 1 + 1 + 1 := (hoff _ (List.Mem.head _)).2.1.symm
  have k3 : P ≠ L + 1 + 1 + 1 + 1 + 1 + 1 := (hoff _ (List.Mem.head _)).2.2.1.symm
  have k4 : sg ≠ L + 1 + 1 + 1 + 1 + 1 + 1 := (hoff _ (List.Mem.head _)).2.2.2.symm
  have N9 : News g L h' ((lx, instObj 52 dx) :: (dx, dictOf (lexD a b c d 1 tn (.ref x2) tw P) 4) :: (P, lstO [] 0) :: (sg, lstO ys c') :: (L + 1 + 1 + 1 + 1 + 1 + 1, o6) :: (rest ++ fut)) := by
    refine KK _ fun p hp => ?_
    have h8 : p ∈ lexN lx dx P a b c d 1 tn (.ref x2) tw 4 [] 0 ++ (sg, lstO ys c') :: rest ∨ p ∈ (L + 1 + 1 + 1 + 1 + 1 + 1, o6) :: fut := by
      rcases List.mem_cons.mp hp with rfl | hp
      · exact .inl (.head _)
      rcases List.mem_cons.mp hp with rfl | hp
      · exact .inl (.tail _ (.head _))
      rcases List.mem_cons.mp hp with rfl | hp
      · exact .inl (.tail _ (.tail _ (.head _)))
      rcases List.mem_cons.mp hp with rfl | hp
      · exact .inl (.tail _ (.tail _ (.tail _ (.head _))))
      rcases List.mem_cons.mp hp with rfl | hp
      · exact .inr (.head _)
      rcases List.mem_append.mp hp with hp | hp
      · exact .inl (.tail _ (.tail _ (.tail _ (.tail _ hp))))
      · exact .inr (.tail _ hp)
    rcases h8 with h | h
    · exact .inl h
    · refine .inr ⟨.tail _ h, fun z hz => ?_⟩
      rw [List.mem_singleton.mp hz]
      exact (h100' p h).symm
  have KX : LexOk w loose mean mg mb lx dx P sg x2 tf rest := ⟨hfeed, htake, hap, hsg⟩
  clear KK kp fr hfeed htake hap hsg N F hk6 hne
  k_steps
  rename Fr _ _ _ _ => F5
  rename News _ _ _ _ => N5
  rename _ = Data.cell (some _) => d5
  exact next _ lx dx P a b c d tn tw x2 tf ys c' sg rest _ ⟨B, X, T, h100, hos, hba⟩ (fr_unk F5 m1) N5 d5 hys KX (fun q hq => by
    rcases List.mem_cons.mp hq with rfl | hq
    · exact hoff (L + 1 + 1 + 1 + 1 + 1 + 1, o6) (.head _)
    · exact hoff q (.tail _ hq)) ⟨ps, hps⟩ (fun p hp => (hrest p hp).imp id fun h q hq => by
    rcases List.mem_cons.mp hq with rfl | hq
    · exact h (L + 1 + 1 + 1 + 1 + 1 + 1, o6) (.head _)
    · exact h q (.tail _ hq))
end
end
section
section
namespace Z_law_12
noncomputable def zP (w : World) (loose : List Str) (mean : ExcName → Option Value) (mg : Str → Option Value) (mb : Str → Option Value) (cd : Value) (fa : Addr) (g : Heap) (L : Addr) (s₀ : Shared) (s : Shared) (Q : Flow → Shared → Prop) (E : Value → Shared → Prop) (m : Str → Option Value) (fut : List (Addr × Obj)) (lx : Addr) (dx : Addr) (P : Addr) (a : Int × Tok) (b : Int × Tok) (c : Int × Tok) (d : Int × Tok) (ln0 : Int) (tn : Tok) (tw : Tok) (x2 : Addr) (tf : Addr) (le1 : Nat) (le2 : Nat) (ys : List Value) (c9 : Nat) (sg : Addr) (rest : List (Addr × Obj)) (cs : List Nat) (o6 : Obj) : Prop := ∀ (hys : SignsAre ys cs) (hl : cs.length < 9999) (hln : 0 ≤ ln0 ∧ ln0 < 9999) (KX : LexOk w loose mean mg mb lx dx P sg x2 tf rest) (d6 : o6.data = .cell (some (.ref lx))) (hoff : OffLex lx dx P sg ((L + 1 + 1 + 1 + 1 + 1 + 1, o6) :: fut)) (hrest : ∀ p ∈ rest, p ∈ fut) (next : ∀ (s : Shared) (TA : Addr) (e : Nat) (t1 t2 t3 t4 : Tok) (ln : Int) (tn : Tok) (ys : List Value) (c9 : Nat), LawG w loose mean mg mb g L s₀ s → Fr g L s.heap (upd m (Str.ofString "told") (.ref TA)) → News g L s.heap ((TA, lstO [.str ⟨(tokA cs).1.toArray⟩ t1, .str ⟨(tokA (tokA cs).2).1.toArray⟩ t2, .str ⟨(tokA (tokA (tokA cs).2).2).1.toArray⟩ t3, .str ⟨(tokA (tokA (tokA (tokA cs).2).2).2).1.toArray⟩ t4] e) :: (lx, instObj 52 dx) :: (dx, dictOf (lexD a b c d ln tn (.ref x2) tw P) le1) :: (P, lstO [] le2) :: (sg, lstO ys c9) :: (L + 1 + 1 + 1 + 1 + 1 + 1, o6) :: fut) → SignsAre ys (tokA (tokA (tokA (tokA cs).2).2).2).2 → ln + ((tokA (tokA (tokA (tokA cs).2).2).2).2.count 10 : Int) = ln0 + (cs.count 10 : Int) → ln0 ≤ ln → (TA ≠ lx ∧ TA ≠ dx ∧ TA ≠ P ∧ TA ≠ sg) → (∀ p ∈ fut, p.1 ≠ TA) → Q .next s) (G : LawG w loose mean mg mb g L s₀ s) (F : Fr g L s.heap m) (N : News g L s.heap ((lx, instObj 52 dx) :: (dx, dictOf (lexD a b c d ln0 tn (.ref x2) tw P) le1) :: (P, lstO [] le2) :: (sg, lstO ys c9) :: (L + 1 + 1 + 1 + 1 + 1 + 1, o6) :: fut)), LawX w L fa cd 12 Q E s
noncomputable def zk : DD := pickD fun c => zP (c.fW 0) (c.fLs 0) (c.fMe 0) (c.fMp 0) (c.fMp 1) (c.fV 0) (c.fA 0) (c.fH 0) (c.fA 1) (c.fSh 0) (c.fSh 1) (c.fQ 0) (c.fE 0) (c.fMp 2) (c.fLed 0) (c.fA 2) (c.fA 3) (c.fA 4) (c.fIt 0) (c.fIt 1) (c.fIt 2) (c.fIt 3) (c.fI 0) (c.fT 0) (c.fT 1) (c.fA 5) (c.fA 6) (c.fN 0) (c.fN 1) (c.fLv 0) (c.fN 2) (c.fA 7) (c.fLed 1) (c.fLn 0) (c.fO 0)
noncomputable section
@[irreducible] def w : World := zk.fW 0
@[irreducible] def loose : List Str := zk.fLs 0
@[irreducible] def mean : ExcName → Option Value := zk.fMe 0
@[irreducible] def mg : Str → Option Value := zk.fMp 0
@[irreducible] def mb : Str → Option Value := zk.fMp 1
@[irreducible] def cd : Value := zk.fV 0
@[irreducible] def fa : Addr := zk.fA 0
@[irreducible] def g : Heap := zk.fH 0
@[irreducible] def L : Addr := zk.fA 1
@[irreducible] def s₀ : Shared := zk.fSh 0
@[irreducible] def s : Shared := zk.fSh 1
@[irreducible] def Q : Flow → Shared → Prop := zk.fQ 0
@[irreducible] def E : Value → Shared → Prop := zk.fE 0
@[irreducible] def m : Str → Option Value := zk.fMp 2
@[irreducible] def fut : List (Addr × Obj) := zk.fLed 0
@[irreducible] def lx : Addr := zk.fA 2
@[irreducible] def dx : Addr := zk.fA 3
@[irreducible] def P : Addr := zk.fA 4
@[irreducible] def a : Int × Tok := zk.fIt 0
@[irreducible] def b : Int × Tok := zk.fIt 1
@[irreducible] def c : Int × Tok := zk.fIt 2
@[irreducible] def d : Int × Tok := zk.fIt 3
@[irreducible] def ln0 : Int := zk.fI 0
@[irreducible] def tn : Tok := zk.fT 0
@[irreducible] def tw : Tok := zk.fT 1
@[irreducible] def x2 : Addr := zk.fA 5
@[irreducible] def tf : Addr := zk.fA 6
@[irreducible] def le1 : Nat := zk.fN 0
@[irreducible] def le2 : Nat := zk.fN 1
@[irreducible] def ys : List Value := zk.fLv 0
@[irreducible] def c9 : Nat := zk.fN 2
@[irreducible] def sg : Addr := zk.fA 7
@[irreducible] def rest : List (Addr × Obj) := zk.fLed 1
@[irreducible] def cs : List Nat := zk.fLn 0
@[irreducible] def o6 : Obj := zk.fO 0
end
theorem zcore : zP w loose mean mg mb cd fa g L s₀ s Q E m fut lx dx P a b c d ln0 tn tw x2 tf le1 le2 ys c9 sg rest cs o6 := by
  k_with "x32" => skip
  k_with "mine all" => ((fail_if_success k_extra "x33"); assumption)
  k_with "CompSrc" => ((fail_if_success k_extra "x33"); k_here; k_dflt (refine hold_of ?_))
  k_with "CompEnd" => ((fail_if_success k_extra "x33"); (refine hold_of ?_))
  k_with "call ref" => ((fail_if_success k_extra "x33"); k_here; k_dflt (refine hold_of ?_))
  unfold zP
  intro hys hl hln KX d6 hoff hrest next G F N
  have _ : PySem.Challenge.rw_wo0016_01 = PySem.Challenge.rw_wo0016_01 ∧ Mine.hd.heap_1 = Mine.hd.heap_1 := by k_fill; exact ⟨rfl, rfl⟩
  refine lawX_of (by rfl) ?_
  dsimp only [lawD, d_of]
  obtain ⟨B, X, T, h100, hos, hba⟩ := G
  k_steps
  refine unhold ?_
  refine LCg.CompSrc.range (by rfl) (by k_asm) (by k_asm) (by assumption) (by first | decide | rfl) (by first | rfl | decide) (by first | size_fits | exact Nat.le_of_ble_eq_true rfl) ?_
  intro g9
  lcg_lit
  have hys0 := hys
  have hl0 : cs.length < 99999 := by omega
  have hcc : cs.count 10 ≤ cs.length := List.count_le_length
  have hln0 : 0 ≤ ln0 ∧ ln0 < 100000 := by omega
  refine LCg.CompRest.succ ?_
  intro v I oI C oC D m₂ h tk E1 hv hC hx F N off ne
  k_steps
  refine unhold ?_
  refine' useTok (a := a) (b := b) (c := c) (d := d) (ln := ln0) (tn := tn) (tw := tw) (e := le1) (e1 := le2) (e2 := c9) (ys := ys) (cs := cs) ((I, oI) :: (C, oC) :: (D, LCg.lst _) :: (L + 1 + 1 + 1 + 1 + 1 + 1, o6) :: fut) KX hys0 hl0 hln0 ?B ?F ?X ?N ?T ?hh ?hA ?hf ?hk ?hd ?hu ?hsub ?hfut ?hoff ?_
  (case B => assumption)
  (case F => assumption)
  (case X => assumption)
  (case N => assumption)
  (case T => assumption)
  (case hh => exact rfl)
  (case hA => exact rfl)
  (case hf => exact rfl)
  (case hk => exact rfl)
  (case hd => (simp only [depth_deeper, depth_caller, recursionLimit]; omega))
  (case hu => (simp only [units_deeper, units_caller, cLine]; omega))
  (case hsub => exact tsub hrest)
  (case hfut => exact tfut)
  (case hoff => exact toff off hoff)
  intro h' tk' t1 ln1 tn1 ys1 e1 F' N' hys1 hc1 hle1
  have hl1 := Nat.lt_of_le_of_lt (tokA_len cs) hl0
  have hln1 : 0 ≤ ln1 ∧ ln1 < 100000 := by omega
  k_steps
  refine unhold (LCg.CompEnd.intro F' N' ((lx, instObj 52 dx) :: (dx, dictOf (lexD a b c d ln1 tn1 (.ref x2) tw P) le1) :: (P, lstO [] le2) :: (sg, lstO ys1 e1) :: (L + 1 + 1 + 1 + 1 + 1 + 1, o6) :: fut) (fun p hp => tend hp) off trivial ?_)
  refine LCg.CompRest.succ ?_
  intro v I oI C oC D m₂ h tk E1 hv hC hx F N off ne
  k_steps
  refine unhold ?_
  refine' useTok (a := a) (b := b) (c := c) (d := d) (ln := ln1) (tn := tn1) (tw := tw) (e := le1) (e1 := le2) (e2 := e1) (ys := ys1) (cs := (tokA cs).2) ((I, oI) :: (C, oC) :: (D, LCg.lst _) :: (L + 1 + 1 + 1 + 1 + 1 + 1, o6) :: fut) KX hys1 hl1 hln1 ?B ?F ?X ?N ?T ?hh ?hA ?hf ?hk ?hd ?hu ?hsub ?hfut ?hoff ?_
  (case B => assumption)
  (case F => assumption)
  (case X => assumption)
  (case N => assumption)
  (case T => assumption)
  (case hh => exact rfl)
  (case hA => exact rfl)
  (case hf => exact rfl)
  (case hk => exact rfl)
  (case hd => (simp only [depth_deeper, depth_caller, recursionLimit]; omega))
  (case hu => (simp only [units_deeper, units_caller, cLine]; omega))
  (case hsub => exact tsub hrest)
  (case hfut => exact tfut)
  (case hoff => exact toff off hoff)
  intro h' tk' t2 ln2 tn2 ys2 e2 F' N' hys2 hc2 hle2
  have hl2 := Nat.lt_of_le_of_lt (tokA_len (tokA cs).2) hl1
  have hln2 : 0 ≤ ln2 ∧ ln2 < 100000 := by omega
  k_steps
  refine unhold (LCg.CompEnd.intro F' N' ((lx, instObj 52 dx) :: (dx, dictOf (lexD a b c d ln2 tn2 (.ref x2) tw P) le1) :: (P, lstO [] le2) :: (sg, lstO ys2 e2) :: (L + 1 + 1 + 1 + 1 + 1 + 1, o6) :: fut) (fun p hp => tend hp) off trivial ?_)
  refine LCg.CompRest.succ ?_
  intro v I oI C oC D m₂ h tk E1 hv hC hx F N off ne
  k_steps
  refine unhold ?_
  refine' useTok (a := a) (b := b) (c := c) (d := d) (ln := ln2) (tn := tn2) (tw := tw) (e := le1) (e1 := le2) (e2 := e2) (ys := ys2) (cs := (tokA (tokA cs).2).2) ((I, oI) :: (C, oC) :: (D, LCg.lst _) :: (L + 1 + 1 + 1 + 1 + 1 + 1, o6) :: fut) KX hys2 hl2 hln2 ?B ?F ?X ?N ?T ?hh ?hA ?hf ?hk ?hd ?hu ?hsub ?hfut ?hoff ?_
  (case B => assumption)
  (case F => assumption)
  (case X => assumption)
  (case N => assumption)
  (case T => assumption)
  (case hh => exact rfl)
  (case hA => exact rfl)
  (case hf => exact rfl)
  (case hk => exact rfl)
  (case hd => (simp only [depth_deeper, depth_caller, recursionLimit]; omega))
  (case hu => (simp only [units_deeper, units_caller, cLine]; omega))
  (case hsub => exact tsub hrest)
  (case hfut => exact tfut)
  (case hoff => exact toff off hoff)
  intro h' tk' t3 ln3 tn3 ys3 e3 F' N' hys3 hc3 hle3
  have hl3 := Nat.lt_of_le_of_lt (tokA_len (tokA (tokA cs).2).2) hl2
  have hln3 : 0 ≤ ln3 ∧ ln3 < 100000 := by omega
  k_steps
  refine unhold (LCg.CompEnd.intro F' N' ((lx, instObj 52 dx) :: (dx, dictOf (lexD a b c d ln3 tn3 (.ref x2) tw P) le1) :: (P, lstO [] le2) :: (sg, lstO ys3 e3) :: (L + 1 + 1 + 1 + 1 + 1 + 1, o6) :: fut) (fun p hp => tend hp) off trivial ?_)
  refine LCg.CompRest.succ ?_
  intro v I oI C oC D m₂ h tk E1 hv hC hx F N off ne
  k_steps
  refine unhold ?_
  refine' useTok (a := a) (b := b) (c := c) (d := d) (ln := ln3) (tn := tn3) (tw := tw) (e := le1) (e1 := le2) (e2 := e3) (ys := ys3) (cs := (tokA (tokA (tokA cs).2).2).2) ((I, oI) :: (C, oC) :: (D, LCg.lst _) :: (L + 1 + 1 + 1 + 1 + 1 + 1, o6) :: fut) KX hys3 hl3 hln3 ?B ?F ?X ?N ?T ?hh ?hA ?hf ?hk ?hd ?hu ?hsub ?hfut ?hoff ?_
  (case B => assumption)
  (case F => assumption)
  (case X => assumption)
  (case N => assumption)
  (case T => assumption)
  (case hh => exact rfl)
  (case hA => exact rfl)
  (case hf => exact rfl)
  (case hk => exact rfl)
  (case hd => (simp only [depth_deeper, depth_caller, recursionLimit]; omega))
  (case hu => (simp only [units_deeper, units_caller, cLine]; omega))
  (case hsub => exact tsub hrest)
  (case hfut => exact tfut)
  (case hoff => exact toff off hoff)
  intro h' tk' t4 ln4 tn4 ys4 e4 F' N' hys4 hc4 hle4
  have hl4 := Nat.lt_of_le_of_lt (tokA_len (tokA (tokA (tokA cs).2).2).2) hl3
  have hln4 : 0 ≤ ln4 ∧ ln4 < 100000 := by omega
  k_steps
  refine unhold (LCg.CompEnd.intro F' N' ((lx, instObj 52 dx) :: (dx, dictOf (lexD a b c d ln4 tn4 (.ref x2) tw P) le1) :: (P, lstO [] le2) :: (sg, lstO ys4 e4) :: (L + 1 + 1 + 1 + 1 + 1 + 1, o6) :: fut) (fun p hp => tend hp) off trivial ?_)
  refine LCg.CompRest.zero ?_
  k_steps
  rename Fr _ _ _ _ => F5
  rename News _ _ _ _ => N5
  rename lx ≠ _ ∧ _ => o5
  exact next _ _ _ t1 t2 t3 t4 ln4 tn4 ys4 e4 ⟨B, X, T, h100, hos, hba⟩ F5 N5 hys4 (by omega) (by omega) ⟨o5.1.symm, o5.2.1.symm, o5.2.2.1.symm, o5.2.2.2.1.symm⟩ (off1_all o5.2.2.2.2.2)
theorem zall : ∀ c : DD, zP (c.fW 0) (c.fLs 0) (c.fMe 0) (c.fMp 0) (c.fMp 1) (c.fV 0) (c.fA 0) (c.fH 0) (c.fA 1) (c.fSh 0) (c.fSh 1) (c.fQ 0) (c.fE 0) (c.fMp 2) (c.fLed 0) (c.fA 2) (c.fA 3) (c.fA 4) (c.fIt 0) (c.fIt 1) (c.fIt 2) (c.fIt 3) (c.fI 0) (c.fT 0) (c.fT 1) (c.fA 5) (c.fA 6) (c.fN 0) (c.fN 1) (c.fLv 0) (c.fN 2) (c.fA 7) (c.fLed 1) (c.fLn 0) (c.fO 0) := allD (by with_unfolding_all exact zcore)
end Z_law_12
theorem law_12 (w : World) (loose : List Str) (mean : ExcName → Option Value) (mg mb : Str → Option Value) (cd : Value) (fa : Addr) (g : Heap) (L : Addr) (s₀ s : Shared) (Q : Flow → Shared → Prop) (E : Value → Shared → Prop) (m : Str → Option Value) (fut : List (Addr × Obj)) (lx dx P : Addr) (a b c d : Int × Tok) (ln0 : Int) (tn tw : Tok) (x2 tf : Addr) (le1 le2 : Nat) (ys : List Value) (c9 : Nat) (sg : Addr) (rest : List (Addr × Obj)) (cs : List Nat) (hys : SignsAre ys cs) (hl : cs.length < 9999) (hln : 0 ≤ ln0 ∧ ln0 < 9999) (KX : LexOk w loose mean mg mb lx dx P sg x2 tf rest) (o6 : Obj) (d6 : o6.data = .cell (some (.ref lx))) (hoff : OffLex lx dx P sg ((L + 1 + 1 + 1 + 1 + 1 + 1, o6) :: fut)) (hrest : ∀ p ∈ rest, p ∈ fut)
    (next : ∀ (s : Shared) (TA : Addr) (e : Nat) (t1 t2 t3 t4 : Tok) (ln : Int) (tn : Tok) (ys : List Value) (c9 : Nat), LawG w loose mean mg mb g L s₀ s → Fr g L s.heap (upd m (Str.ofString "told") (.ref TA)) → News g L s.heap ((TA, lstO [.str ⟨(tokA cs).1.toArray⟩ t1, .str ⟨(tokA (tokA cs).2).1.toArray⟩ t2, .str ⟨(tokA (tokA (tokA cs).2).2).1.toArray⟩ t3, .str ⟨(tokA (tokA (tokA (tokA cs).2).2).2).1.toArray⟩ t4] e) :: (lx, instObj 52 dx) :: (dx, dictOf (lexD a b c d ln tn (.ref x2) tw P) le1) :: (P, lstO [] le2) :: (sg, lstO ys c9) :: (L + 1 + 1 + 1 + 1 + 1 + 1, o6) :: fut) → SignsAre ys (tokA (tokA (tokA (tokA cs).2).2).2).2 → ln + ((tokA (tokA (tokA (tokA cs).2).2).2).2.count 10 : Int) = ln0 + (cs.count 10 : Int) → ln0 ≤ ln → (TA ≠ lx ∧ TA ≠ dx ∧ TA ≠ P ∧ TA ≠ sg) → (∀ p ∈ fut, p.1 ≠ TA) → Q .next s)
    (G : LawG w loose mean mg mb g L s₀ s) (F : Fr g L s.heap m) (N : News g L s.heap ((lx, instObj 52 dx) :: (dx, dictOf (lexD a b c d ln0 tn (.ref x2) tw P) le1) :: (P, lstO [] le2) :: (sg, lstO ys c9) :: (L + 1 + 1 + 1 + 1 + 1 + 1, o6) :: fut)) : LawX w L fa cd 12 Q E s := by
  exact Z_law_12.zall ⟨fun _ => w, fun _ => loose, fun _ => mean, fun i => [mg, mb, m].getD i mg, fun i => [fa, L, lx, dx, P, x2, tf, sg].getD i fa, fun i => [le1, le2, c9].getD i le1, fun _ => ln0, fun i => [tn, tw].getD i tn, fun _ => cd, anyD.fS, fun _ => o6, fun _ => g, fun i => [s₀, s].getD i s₀, fun _ => ys, anyD.fLi, fun _ => cs, anyD.fLb, fun i => [fut, rest].getD i fut, fun _ => Q, fun _ => E, anyD.fB, fun i => [a, b, c, d].getD i a, anyD.fAv, anyD.fB3, anyD.fGd, anyD.fEn, anyD.fAr, anyD.fOv, anyD.fOp, anyD.fLa, anyD.fEnv, anyD.fSs, anyD.fSt, anyD.fSc, anyD.fP, anyD.fEx, anyD.fR, anyD.fPo, anyD.fCl, anyD.fY, anyD.fRR, anyD.fBB, anyD.fNl, anyD.fOa, anyD.fFd, anyD.fAo, anyD.fDe, anyD.fIv⟩ hys hl hln KX d6 hoff hrest next G F N

end
end
section
section
variable (w : World) (loose : List Str) (mean : ExcName → Option Value) (mg mb : Str → Option Value)
theorem law_13 (cd : Value) (fa : Addr) (g : Heap) (L : Addr) (s₀ s : Shared) (Q : Flow → Shared → Prop) (E : Value → Shared → Prop) (m : Str → Option Value) (fut : List (Addr × Obj)) (TA : Addr) (te : Nat) (x1 x2 : Str) (wy : Int) (hwy : wy = 1 ∨ wy = -1) (t1 t2 t3 t4 : Tok) (ok1 : PyData.strOk x1 = true) (ok2 : PyData.strOk x2 = true) (NA : Addr) (nv : List Value) (ne : Nat) (hnv : nv.length = 6) (i1 i2 : Int) (hi1 : 0 ≤ i1 ∧ i1 < 6) (hi2 : 0 ≤ i2 ∧ i2 < 6) (q1 q2 : Tok) (hx1 : nv[i1.toNat]? = some (.str x1 q1)) (hx2 : nv[i2.toNat]? = some (.str x2 q2)) (v1 v2 v3 : Tok) (m0 : m (Str.ofString "names") = some (.ref NA)) (m1 : m (Str.ofString "one") = some (.int i1 v1)) (m2 : m (Str.ofString "other") = some (.int i2 v2)) (m3 : m (Str.ofString "way") = some (.int wy v3)) (m4 : m (Str.ofString "told") = some (.ref TA))
    (next : ∀ (s : Shared) , LawG w loose mean mg mb g L s₀ s → Fr g L s.heap m → News g L s.heap ((TA, lstO [.str x1 t1, .str x2 t2, .str (wayW wy) t3, .str (Str.ofString "OI") t4] te) :: (NA, lstO nv ne) :: fut) → Q .next s)
    (G : LawG w loose mean mg mb g L s₀ s) (F : Fr g L s.heap m) (N : News g L s.heap ((TA, lstO [.str x1 t1, .str x2 t2, .str (wayW wy) t3, .str (Str.ofString "OI") t4] te) :: (NA, lstO nv ne) :: fut)) : LawX w L fa cd 13 Q E s := by
  k_with "x33" => skip
  k_with "mine all" => ((fail_if_success k_extra "x34"); assumption)
  k_with "subscriptTail" => ((fail_if_success k_extra "x34"); k_here; (with_reducible show wpAny _ _ (subscriptTail _ _ (Value.ref _) (Value.int _ _)) _ _ _); (first | (with_unfolding_all refine' item_new (by assumption) (by k_mem) (by omega) (by omega) (by k_extra "mine item") ?_ (by with_unfolding_all rfl); k_whole)))
  k_with "mine oks" => ((fail_if_success k_extra "x34"); first | exact List.forall_mem_nil _ | (refine List.forall_mem_cons.mpr ⟨by first | assumption | decide +kernel, ?_⟩; k_extra "mine oks"))
  k_with "compareOp NotEq ref ref" => ((fail_if_success k_extra "x34"); k_here; k_dflt (refine' ne_strsN (by assumption) (by k_mem) (by k_mem) (by repeat constructor) (by repeat constructor) (by k_extra "mine oks") (by (simp only [units_deeper, units_caller, cLine]; omega)) ?_))
  have _ : PySem.Challenge.rw_wo0016_01 = PySem.Challenge.rw_wo0016_01 ∧ Mine.hd.heap_1 = Mine.hd.heap_1 := by k_fill; exact ⟨rfl, rfl⟩
  refine lawX_of (by rfl) ?_
  dsimp only [lawD, d_of]
  obtain ⟨B, X, T, h100, hos, hba⟩ := G
  have F := fr_know5 F m0 m1 m2 m3 m4
  rcases hwy with rfl | rfl
  · have e9 : wayW 1 = Str.ofString "LI" := rfl
    rw [e9] at N next
    k_steps
    rename Fr _ _ _ _ => F5
    rename News _ _ _ _ => N5
    refine next _ ?_ ?_ ?_
    · exact ⟨B, X, T, h100, hos, hba⟩
    · exact fr_unk05 F5 m0 m1 m2 m3 m4
    · exact nd1 N5
  · have e9 : wayW (-1) = Str.ofString "OC" := rfl
    rw [e9] at N next
    k_steps
    rename Fr _ _ _ _ => F5
    rename News _ _ _ _ => N5
    refine next _ ?_ ?_ ?_
    · exact ⟨B, X, T, h100, hos, hba⟩
    · exact fr_unk05 F5 m0 m1 m2 m3 m4
    · exact nd1 N5
end
end
section
section
variable (w : World) (loose : List Str) (mean : ExcName → Option Value) (mg mb : Str → Option Value)
theorem law_14 (cd : Value) (fa : Addr) (g : Heap) (L : Addr) (s₀ s : Shared) (Q : Flow → Shared → Prop) (E : Value → Shared → Prop) (m : Str → Option Value) (fut : List (Addr × Obj)) (TA : Addr) (te : Nat) (x1 x2 : Str) (wy : Int) (hwy : wy = 1 ∨ wy = -1) (t1 t2 t3 t4 : Tok) (hx : x1 ≠ x2) (o7 : Obj) (d7 : o7.data = .cell none) (f7 : ∀ p ∈ fut, p.1 ≠ L + 1 + 1 + 1 + 1 + 1 + 1 + 1) (hTA : @Ne Nat TA (L + 1 + 1 + 1 + 1 + 1 + 1 + 1)) (m4 : m (Str.ofString "told") = some (.ref TA))
    (next : ∀ (s : Shared) (PA : Addr) (pe : Nat) (lo hi : Str) (tl th : Tok) (o7 : Obj), LawG w loose mean mg mb g L s₀ s → Fr g L s.heap m → News g L s.heap ((PA, lstO [.str lo tl, .str hi th] pe) :: (TA, lstO [.str x1 t1, .str x2 t2, .str (wayW wy) t3, .str (Str.ofString "OI") t4] te) :: (L + 1 + 1 + 1 + 1 + 1 + 1 + 1, o7) :: fut) → o7.data = .cell (some (.ref PA)) → LtS lo hi → ((lo = x1 ∧ hi = x2) ∨ (lo = x2 ∧ hi = x1)) → (∀ p ∈ (TA, lstO [.str x1 t1, .str x2 t2, .str (wayW wy) t3, .str (Str.ofString "OI") t4] te) :: (L + 1 + 1 + 1 + 1 + 1 + 1 + 1, o7) :: fut, p.1 ≠ PA) → Q .next s)
    (G : LawG w loose mean mg mb g L s₀ s) (F : Fr g L s.heap m) (N : News g L s.heap ((TA, lstO [.str x1 t1, .str x2 t2, .str (wayW wy) t3, .str (Str.ofString "OI") t4] te) :: (L + 1 + 1 + 1 + 1 + 1 + 1 + 1, o7) :: fut)) : LawX w L fa cd 14 Q E s := by
  k_with "x34" => skip
  k_with "mine all" => ((fail_if_success k_extra "x35"); assumption)
  k_with "call ref" => ((fail_if_success k_extra "x35"); k_here; k_dflt ((show wpAny _ _ (call (Value.ref 70) [_, _]) _ _ _); refine' useP (scLt _ _ _ _ _ _ _ _ _ ?_) (by assumption) (by assumption) (by assumption) (by assumption) (by assumption) (by exact rfl) (by exact rfl) (by exact rfl) (by exact rfl) (by (simp only [depth_deeper, depth_caller, recursionLimit]; omega)) (by (simp only [units_deeper, units_caller, cLine]; omega)) trivial ?_; (assumption); intro v' now' h' tk' hP' F' N' l'; (obtain ⟨e1', t', e2'⟩ := hP'); subst e1'; subst e2'; clear l'; (try dsimp only [List.nil_append] at N'); revert h' tk' F' N' t'; intro _ _ _ _ _))
  k_with "call ref" => ((fail_if_success k_extra "x35"); k_here; k_dflt ((show wpAny _ _ (call (Value.ref 70) [_, _]) _ _ _); refine' useP (scGt _ _ _ _ _ _ _ _ _ ?_) (by assumption) (by assumption) (by assumption) (by assumption) (by assumption) (by exact rfl) (by exact rfl) (by exact rfl) (by exact rfl) (by (simp only [depth_deeper, depth_caller, recursionLimit]; omega)) (by (simp only [units_deeper, units_caller, cLine]; omega)) trivial ?_; (assumption); intro v' now' h' tk' hP' F' N' l'; (obtain ⟨e1', t', e2'⟩ := hP'); subst e1'; subst e2'; clear l'; (try dsimp only [List.nil_append] at N'); revert h' tk' F' N' t'; intro _ _ _ _ _))
  have _ : PySem.Challenge.rw_wo0016_01 = PySem.Challenge.rw_wo0016_01 ∧ Mine.hd.heap_1 = Mine.hd.heap_1 := by k_fill; exact ⟨rfl, rfl⟩
  refine lawX_of (by rfl) ?_
  dsimp only [lawD, d_of]
  obtain ⟨B, X, T, h100, hos, hba⟩ := G
  have F := fr_know F m4
  rcases lt_or hx with hlt | hlt
  · skip
    k_steps
    rename Fr _ _ _ _ => F5
    rename News _ _ _ _ => N5
    rename _ = Data.cell (some _) => d5
    rename TA < _ ∧ _ => l5
    exact next _ _ _ x1 x2 t1 t2 _ (by exact ⟨B, X, T, h100, hos, hba⟩) (fr_unk F5 m4) N5 d5 (by assumption) (.inl ⟨rfl, rfl⟩) (fun p hp => Nat.ne_of_lt (allLt_all (l := (TA, lstO [.str x1 t1, .str x2 t2, .str (wayW wy) t3, .str (Str.ofString "OI") t4] te) :: (L + 1 + 1 + 1 + 1 + 1 + 1 + 1, _) :: fut) l5 p hp))
  · skip
    k_steps
    rename Fr _ _ _ _ => F5
    rename News _ _ _ _ => N5
    rename _ = Data.cell (some _) => d5
    rename TA < _ ∧ _ => l5
    exact next _ _ _ x2 x1 t2 t1 _ (by exact ⟨B, X, T, h100, hos, hba⟩) (fr_unk F5 m4) N5 d5 (by assumption) (.inr ⟨rfl, rfl⟩) (fun p hp => Nat.ne_of_lt (allLt_all (l := (TA, lstO [.str x1 t1, .str x2 t2, .str (wayW wy) t3, .str (Str.ofString "OI") t4] te) :: (L + 1 + 1 + 1 + 1 + 1 + 1 + 1, _) :: fut) l5 p hp))
end
end
section
section
variable (w : World) (loose : List Str) (mean : ExcName → Option Value) (mg mb : Str → Option Value)
theorem law_15 (cd : Value) (fa : Addr) (g : Heap) (L : Addr) (s₀ s : Shared) (Q : Flow → Shared → Prop) (E : Value → Shared → Prop) (m : Str → Option Value) (fut : List (Addr × Obj)) (PA : Addr) (pe : Nat) (lo hi : Str) (tl th : Tok) (hlt : LtS lo hi) (o7 : Obj) (d7 : o7.data = .cell (some (.ref PA)))
    (next : ∀ (s : Shared) (OA : Addr) (oe : Nat) (u0 u1 u2 u3 : Tok), LawG w loose mean mg mb g L s₀ s → Fr g L s.heap (upd m (Str.ofString "orders") (.ref OA)) → News g L s.heap ((OA, lstO [.int 0 u0, .int (-1) u1, .int 1 u2, .int 0 u3] oe) :: (PA, lstO [.str lo tl, .str hi th] pe) :: (L + 1 + 1 + 1 + 1 + 1 + 1 + 1, o7) :: fut) → (∀ p ∈ (PA, lstO [.str lo tl, .str hi th] pe) :: (L + 1 + 1 + 1 + 1 + 1 + 1 + 1, o7) :: fut, p.1 ≠ OA) → Q .next s)
    (G : LawG w loose mean mg mb g L s₀ s) (F : Fr g L s.heap m) (N : News g L s.heap ((PA, lstO [.str lo tl, .str hi th] pe) :: (L + 1 + 1 + 1 + 1 + 1 + 1 + 1, o7) :: fut)) : LawX w L fa cd 15 Q E s := by
  k_with "x35" => skip
  k_with "mine all" => ((fail_if_success k_extra "x36"); assumption)
  k_with "exec Assign cons ListComp" => ((fail_if_success k_extra "x36"); k_here; k_dflt (refine Assign_2 (by k_asm) (by rfl) (by with_unfolding_all rfl) (by with_unfolding_all rfl) (by decide) (by rfl) (by decide) (by rfl) (by rfl) (by decide) (by rfl) (by rfl) ?_))
  k_with "Src2" => ((fail_if_success k_extra "x36"); (refine hold_of ?_))
  k_with "Same" => ((fail_if_success k_extra "x36"); (refine hold_of ?_))
  k_with "call ref" => ((fail_if_success k_extra "x36"); k_here; k_dflt ((show wpAny _ _ (call (Value.ref 70) [_, _]) _ _ _); refine' useP (scEq _ _ _ _ _ _ _ _) (by assumption) (by assumption) (by assumption) (by assumption) (by assumption) (by exact rfl) (by exact rfl) (by exact rfl) (by exact rfl) (by (simp only [depth_deeper, depth_caller, recursionLimit]; omega)) (by (simp only [units_deeper, units_caller, cLine]; omega)) trivial ?_; intro v' now' h' tk' hP' F' N' l'; (obtain ⟨e1', t', e2'⟩ := hP'); subst e1'; subst e2'; clear l'; (try dsimp only [List.nil_append] at N'); revert h' tk' F' N' t'; intro _ _ _ _ _))
  k_with "call ref" => ((fail_if_success k_extra "x36"); k_here; k_dflt ((show wpAny _ _ (call (Value.ref 70) [_, _]) _ _ _); refine' useP (scLt _ _ _ _ _ _ _ _ _ ?_) (by assumption) (by assumption) (by assumption) (by assumption) (by assumption) (by exact rfl) (by exact rfl) (by exact rfl) (by exact rfl) (by (simp only [depth_deeper, depth_caller, recursionLimit]; omega)) (by (simp only [units_deeper, units_caller, cLine]; omega)) trivial ?_; (assumption); intro v' now' h' tk' hP' F' N' l'; (obtain ⟨e1', t', e2'⟩ := hP'); subst e1'; subst e2'; clear l'; (try dsimp only [List.nil_append] at N'); revert h' tk' F' N' t'; intro _ _ _ _ _))
  k_with "call ref" => ((fail_if_success k_extra "x36"); k_here; k_dflt ((show wpAny _ _ (call (Value.ref 70) [_, _]) _ _ _); refine' useP (scGt _ _ _ _ _ _ _ _ _ ?_) (by assumption) (by assumption) (by assumption) (by assumption) (by assumption) (by exact rfl) (by exact rfl) (by exact rfl) (by exact rfl) (by (simp only [depth_deeper, depth_caller, recursionLimit]; omega)) (by (simp only [units_deeper, units_caller, cLine]; omega)) trivial ?_; (assumption); intro v' now' h' tk' hP' F' N' l'; (obtain ⟨e1', t', e2'⟩ := hP'); subst e1'; subst e2'; clear l'; (try dsimp only [List.nil_append] at N'); revert h' tk' F' N' t'; intro _ _ _ _ _))
  have _ : PySem.Challenge.rw_wo0016_01 = PySem.Challenge.rw_wo0016_01 ∧ Mine.hd.heap_1 = Mine.hd.heap_1 := by k_fill; exact ⟨rfl, rfl⟩
  refine lawX_of (by rfl) ?_
  dsimp only [lawD, d_of]
  obtain ⟨B, X, T, h100, hos, hba⟩ := G
  k_steps
  refine unhold ?_
  refine ⟨PA, _, _, _, _, fun k v => ∃ t, v = .int ([0, -1, 1, 0].getD k 9) t, rfl, rfl, by k_asm, by k_asm, by k_mem, rfl, rfl, (by show (2 : Nat) * 2 ≤ sizeLine; decide), ?_, ?_, ?_⟩
  · rintro s2 ⟨h2, rfl⟩ I oI C oC D ys m₂ h tk E1 hC F N off
    k_steps
    refine unhold (same_in rfl (by assumption) (by assumption))
  · rintro s2 ⟨h2, rfl⟩ i j v u I oI J oJ C oC D ys m₂ h tk E1 hv hu hC hx hy F N off offJ
    match i, j, hv, hu with
    | 0, 0, hv, hu =>
      cases hv
      cases hu
      k_steps
      refine unhold (same_in ⟨_, rfl⟩ (by assumption) (by assumption))
    | 0, 1, hv, hu =>
      cases hv
      cases hu
      k_steps
      refine unhold (same_in ⟨_, rfl⟩ (by assumption) (by assumption))
    | 1, 0, hv, hu =>
      cases hv
      cases hu
      k_steps
      refine unhold (same_in ⟨_, rfl⟩ (by assumption) (by assumption))
    | 1, 1, hv, hu =>
      cases hv
      cases hu
      k_steps
      refine unhold (same_in ⟨_, rfl⟩ (by assumption) (by assumption))
    | 0, j + 2, hv, hu => simp at hu
    | 1, j + 2, hv, hu => simp at hu
    | i + 2, _, hv, hu => simp at hv
  · intro ys D h tk F N o1 hlen hY
    obtain ⟨t0, t1, t2, t3, rfl⟩ := four_ints (hlen : ys.length = 2 * 2) hY
    refine next _ D _ t0 t1 t2 t3 ?_ F N (fun p hp => off1_all (l := (PA, lstO [.str lo tl, .str hi th] pe) :: (L + 1 + 1 + 1 + 1 + 1 + 1 + 1, o7) :: fut) o1 p hp)
    exact ⟨B, X, T, h100, hos, hba⟩
end
end
section
section
variable (w : World) (loose : List Str) (mean : ExcName → Option Value) (mg mb : Str → Option Value)
theorem law_16 (cd : Value) (fa : Addr) (g : Heap) (L : Addr) (s₀ s : Shared) (Q : Flow → Shared → Prop) (E : Value → Shared → Prop) (m : Str → Option Value) (fut : List (Addr × Obj)) (OA : Addr) (oe : Nat) (u0 u1 u2 u3 : Tok) (m4 : m (Str.ofString "orders") = some (.ref OA))
    (next : ∀ (s : Shared) , LawG w loose mean mg mb g L s₀ s → Fr g L s.heap m → News g L s.heap ((OA, lstO [.int 0 u0, .int (-1) u1, .int 1 u2, .int 0 u3] oe) :: fut) → Q .next s)
    (G : LawG w loose mean mg mb g L s₀ s) (F : Fr g L s.heap m) (N : News g L s.heap ((OA, lstO [.int 0 u0, .int (-1) u1, .int 1 u2, .int 0 u3] oe) :: fut)) : LawX w L fa cd 16 Q E s := by
  k_with "x36" => skip
  k_with "mine all" => ((fail_if_success k_extra "x37"); assumption)
  k_with "eval ListComp" => ((fail_if_success k_extra "x37"); k_here; k_dflt (refine ListComp_IL (by k_asm) (by with_unfolding_all rfl) (by decide) (by rfl) (by decide) (by rfl) ?_))
  k_with "SrcIL" => ((fail_if_success k_extra "x37"); (refine hold_of ?_))
  k_with "Same" => ((fail_if_success k_extra "x37"); (refine hold_of ?_))
  have _ : PySem.Challenge.rw_wo0016_01 = PySem.Challenge.rw_wo0016_01 ∧ Mine.hd.heap_1 = Mine.hd.heap_1 := by k_fill; exact ⟨rfl, rfl⟩
  refine lawX_of (by rfl) ?_
  dsimp only [lawD, d_of]
  obtain ⟨B, X, T, h100, hos, hba⟩ := G
  have F := fr_know F m4
  k_steps
  refine unhold ?_
  refine ⟨OA, _, _, _, _, rfl, rfl, by k_asm, by k_asm, by k_mem, rfl, rfl, ?_, ?_⟩
  · rintro s2 ⟨h2, rfl⟩ i v I oI C oC D m₂ h tk E1 hv hC hx F N off ne
    match i, hv with
    | 0, hv =>
      have hv : v = .int 0 u0 := (Option.some.inj (hv : some (Value.int 0 u0) = some v)).symm
      subst hv
      k_steps
      refine unhold (same_in rfl (by assumption) (by assumption))
    | 1, hv =>
      have hv : v = .int (-1) u1 := (Option.some.inj (hv : some (Value.int (-1) u1) = some v)).symm
      subst hv
      k_steps
      refine unhold (same_in rfl (by assumption) (by assumption))
    | 2, hv =>
      have hv : v = .int 1 u2 := (Option.some.inj (hv : some (Value.int 1 u2) = some v)).symm
      subst hv
      k_steps
      refine unhold (same_in rfl (by assumption) (by assumption))
    | 3, hv =>
      have hv : v = .int 0 u3 := (Option.some.inj (hv : some (Value.int 0 u3) = some v)).symm
      subst hv
      k_steps
      refine unhold (same_in rfl (by assumption) (by assumption))
    | i + 4, hv => simp at hv
  · intro D h tk F N o1
    k_steps
    rename Fr _ _ _ _ => F5
    rename News _ _ _ _ => N5
    refine next _ ?_ ?_ ?_
    · exact ⟨B, X, T, h100, hos, hba⟩
    · exact fr_unk F5 m4
    · exact nd1 (nd1 (nd1 N5))
end
end
section
section
variable (w : World) (loose : List Str) (mean : ExcName → Option Value) (mg mb : Str → Option Value)
theorem law_17 (cd : Value) (fa : Addr) (g : Heap) (L : Addr) (s₀ s : Shared) (Q : Flow → Shared → Prop) (E : Value → Shared → Prop) (m : Str → Option Value) (fut : List (Addr × Obj)) (TA : Addr) (te : Nat) (x1 x2 : Str) (wy : Int) (hwy : wy = 1 ∨ wy = -1) (t1 t2 t3 t4 : Tok) (o8 : Obj) (d8 : o8.data = .cell none) (f8 : ∀ p ∈ fut, p.1 ≠ L + 1 + 1 + 1 + 1 + 1 + 1 + 1 + 1) (hTA : @Ne Nat TA (L + 1 + 1 + 1 + 1 + 1 + 1 + 1 + 1)) (m4 : m (Str.ofString "told") = some (.ref TA))
    (next : ∀ (s : Shared) (FA : Addr) (fe : Nat) (u0 u1 u2 u3 u4 u5 u6 u7 : Tok) (o8 : Obj), LawG w loose mean mg mb g L s₀ s → Fr g L s.heap m → News g L s.heap ((FA, lstO (fig8 (fgW wy) u0 u1 u2 u3 u4 u5 u6 u7) fe) :: (TA, lstO [.str x1 t1, .str x2 t2, .str (wayW wy) t3, .str (Str.ofString "OI") t4] te) :: (L + 1 + 1 + 1 + 1 + 1 + 1 + 1 + 1, o8) :: fut) → o8.data = .cell (some (.ref FA)) → (∀ p ∈ (TA, lstO [.str x1 t1, .str x2 t2, .str (wayW wy) t3, .str (Str.ofString "OI") t4] te) :: (L + 1 + 1 + 1 + 1 + 1 + 1 + 1 + 1, o8) :: fut, p.1 ≠ FA) → Q .next s)
    (G : LawG w loose mean mg mb g L s₀ s) (F : Fr g L s.heap m) (N : News g L s.heap ((TA, lstO [.str x1 t1, .str x2 t2, .str (wayW wy) t3, .str (Str.ofString "OI") t4] te) :: (L + 1 + 1 + 1 + 1 + 1 + 1 + 1 + 1, o8) :: fut)) : LawX w L fa cd 17 Q E s := by
  k_with "x37" => skip
  k_with "mine all" => ((fail_if_success k_extra "x38"); assumption)
  k_with "call ref" => ((fail_if_success k_extra "x38"); k_here; k_dflt (refine hold_of ?_))
  have _ : PySem.Challenge.rw_wo0016_01 = PySem.Challenge.rw_wo0016_01 ∧ Mine.hd.heap_1 = Mine.hd.heap_1 := by k_fill; exact ⟨rfl, rfl⟩
  refine lawX_of (by rfl) ?_
  dsimp only [lawD, d_of]
  obtain ⟨B, X, T, h100, hos, hba⟩ := G
  have F := fr_know F m4
  k_steps
  refine unhold ?_
  refine' useP (fig_H w loose mean mg mb wy hwy t3) ?B ?F ?X ?N ?T ?hh ?hA ?hf ?hk ?hd ?hu trivial ?_
  (case B => assumption)
  (case F => assumption)
  (case X => assumption)
  (case N => assumption)
  (case T => assumption)
  (case hh => exact rfl)
  (case hA => exact rfl)
  (case hf => exact rfl)
  (case hk => exact rfl)
  (case hd => (simp only [depth_deeper, depth_caller, recursionLimit]; omega))
  (case hu => (simp only [units_deeper, units_caller, cLine]; omega))
  rintro v now h' tk' ⟨D, e, u0, u1, u2, u3, u4, u5, u6, u7, rfl, rfl⟩ F' N' l'
  have hall : ∀ q ∈ (TA, lstO [.str x1 t1, .str x2 t2, .str (wayW wy) t3, .str (Str.ofString "OI") t4] te) :: (L + 1 + 1 + 1 + 1 + 1 + 1 + 1 + 1, o8) :: fut, q.1 ≠ D := l' _ (.head _)
  have kd : D ≠ L + 1 + 1 + 1 + 1 + 1 + 1 + 1 + 1 := (hall (L + 1 + 1 + 1 + 1 + 1 + 1 + 1 + 1, o8) (by k_mem)).symm
  have kt : TA ≠ D := hall (TA, lstO [.str x1 t1, .str x2 t2, .str (wayW wy) t3, .str (Str.ofString "OI") t4] te) (by k_mem)
  simp only [List.cons_append, List.nil_append] at N'
  clear N F l'
  k_steps
  rename Fr _ _ _ _ => F5
  rename News _ _ _ _ => N5
  rename _ = Data.cell (some _) => d5
  refine next _ D e u0 u1 u2 u3 u4 u5 u6 u7 _ ?_ (fr_unk F5 m4) N5 d5 (fun p hp => ?_)
  · exact ⟨B, X, T, h100, hos, hba⟩
  · rcases List.mem_cons.mp hp with rfl | hp
    · exact kt
    rcases List.mem_cons.mp hp with rfl | hp
    · exact kd.symm
    · exact hall p (.tail _ (.tail _ hp))
end
end
section
section
variable (w : World) (loose : List Str) (mean : ExcName → Option Value) (mg mb : Str → Option Value)
theorem law_18 (cd : Value) (fa : Addr) (g : Heap) (L : Addr) (s₀ s : Shared) (Q : Flow → Shared → Prop) (E : Value → Shared → Prop) (m : Str → Option Value) (fut : List (Addr × Obj)) (TA : Addr) (te : Nat) (x1 x2 : Str) (wy : Int) (hwy : wy = 1 ∨ wy = -1) (t1 t2 t3 t4 : Tok) (o9 : Obj) (d9 : o9.data = .cell none) (f9 : ∀ p ∈ fut, p.1 ≠ L + 1 + 1 + 1 + 1 + 1 + 1 + 1 + 1 + 1) (hTA : @Ne Nat TA (L + 1 + 1 + 1 + 1 + 1 + 1 + 1 + 1 + 1)) (m4 : m (Str.ofString "told") = some (.ref TA))
    (next : ∀ (s : Shared) (FA : Addr) (fe : Nat) (u0 u1 u2 u3 u4 u5 u6 u7 : Tok) (o9 : Obj), LawG w loose mean mg mb g L s₀ s → Fr g L s.heap m → News g L s.heap ((FA, lstO (fig8 fgO u0 u1 u2 u3 u4 u5 u6 u7) fe) :: (TA, lstO [.str x1 t1, .str x2 t2, .str (wayW wy) t3, .str (Str.ofString "OI") t4] te) :: (L + 1 + 1 + 1 + 1 + 1 + 1 + 1 + 1 + 1, o9) :: fut) → o9.data = .cell (some (.ref FA)) → (∀ p ∈ (TA, lstO [.str x1 t1, .str x2 t2, .str (wayW wy) t3, .str (Str.ofString "OI") t4] te) :: (L + 1 + 1 + 1 + 1 + 1 + 1 + 1 + 1 + 1, o9) :: fut, p.1 ≠ FA) → Q .next s)
    (G : LawG w loose mean mg mb g L s₀ s) (F : Fr g L s.heap m) (N : News g L s.heap ((TA, lstO [.str x1 t1, .str x2 t2, .str (wayW wy) t3, .str (Str.ofString "OI") t4] te) :: (L + 1 + 1 + 1 + 1 + 1 + 1 + 1 + 1 + 1, o9) :: fut)) : LawX w L fa cd 18 Q E s := by
  k_with "x38" => skip
  k_with "mine all" => ((fail_if_success k_extra "x39"); assumption)
  k_with "call ref" => ((fail_if_success k_extra "x39"); k_here; k_dflt (refine hold_of ?_))
  have _ : PySem.Challenge.rw_wo0016_01 = PySem.Challenge.rw_wo0016_01 ∧ Mine.hd.heap_1 = Mine.hd.heap_1 := by k_fill; exact ⟨rfl, rfl⟩
  refine lawX_of (by rfl) ?_
  dsimp only [lawD, d_of]
  obtain ⟨B, X, T, h100, hos, hba⟩ := G
  have F := fr_know F m4
  k_steps
  refine unhold ?_
  refine' useP (figO_H w loose mean mg mb t4) ?B ?F ?X ?N ?T ?hh ?hA ?hf ?hk ?hd ?hu trivial ?_
  (case B => assumption)
  (case F => assumption)
  (case X => assumption)
  (case N => assumption)
  (case T => assumption)
  (case hh => exact rfl)
  (case hA => exact rfl)
  (case hf => exact rfl)
  (case hk => exact rfl)
  (case hd => (simp only [depth_deeper, depth_caller, recursionLimit]; omega))
  (case hu => (simp only [units_deeper, units_caller, cLine]; omega))
  rintro v now h' tk' ⟨D, e, u0, u1, u2, u3, u4, u5, u6, u7, rfl, rfl⟩ F' N' l'
  have hall : ∀ q ∈ (TA, lstO [.str x1 t1, .str x2 t2, .str (wayW wy) t3, .str (Str.ofString "OI") t4] te) :: (L + 1 + 1 + 1 + 1 + 1 + 1 + 1 + 1 + 1, o9) :: fut, q.1 ≠ D := l' _ (.head _)
  have kd : D ≠ L + 1 + 1 + 1 + 1 + 1 + 1 + 1 + 1 + 1 := (hall (L + 1 + 1 + 1 + 1 + 1 + 1 + 1 + 1 + 1, o9) (by k_mem)).symm
  have kt : TA ≠ D := hall (TA, lstO [.str x1 t1, .str x2 t2, .str (wayW wy) t3, .str (Str.ofString "OI") t4] te) (by k_mem)
  simp only [List.cons_append, List.nil_append] at N'
  clear N F l'
  k_steps
  rename Fr _ _ _ _ => F5
  rename News _ _ _ _ => N5
  rename _ = Data.cell (some _) => d5
  refine next _ D e u0 u1 u2 u3 u4 u5 u6 u7 _ ?_ (fr_unk F5 m4) N5 d5 (fun p hp => ?_)
  · exact ⟨B, X, T, h100, hos, hba⟩
  · rcases List.mem_cons.mp hp with rfl | hp
    · exact kt
    rcases List.mem_cons.mp hp with rfl | hp
    · exact kd.symm
    · exact hall p (.tail _ (.tail _ hp))
end
end
section
section
variable (w : World) (loose : List Str) (mean : ExcName → Option Value) (mg mb : Str → Option Value)
theorem law_19 (cd : Value) (fa : Addr) (g : Heap) (L : Addr) (s₀ s : Shared) (Q : Flow → Shared → Prop) (E : Value → Shared → Prop) (m : Str → Option Value) (fut : List (Addr × Obj)) (FA SA : Addr) (wy : Int) (hwy : wy = 1 ∨ wy = -1) (u0 u1 u2 u3 u4 u5 u6 u7 v0 v1 v2 v3 v4 v5 v6 v7 : Tok) (fe se : Nat) (o8 o9 : Obj) (d8 : o8.data = .cell (some (.ref FA))) (d9 : o9.data = .cell (some (.ref SA)))
    (next : ∀ (s : Shared) , LawG w loose mean mg mb g L s₀ s → Fr g L s.heap m → News g L s.heap ((FA, lstO (fig8 (fgW wy) u0 u1 u2 u3 u4 u5 u6 u7) fe) :: (SA, lstO (fig8 fgO v0 v1 v2 v3 v4 v5 v6 v7) se) :: (L + 1 + 1 + 1 + 1 + 1 + 1 + 1 + 1, o8) :: (L + 1 + 1 + 1 + 1 + 1 + 1 + 1 + 1 + 1, o9) :: fut) → Q .next s)
    (G : LawG w loose mean mg mb g L s₀ s) (F : Fr g L s.heap m) (N : News g L s.heap ((FA, lstO (fig8 (fgW wy) u0 u1 u2 u3 u4 u5 u6 u7) fe) :: (SA, lstO (fig8 fgO v0 v1 v2 v3 v4 v5 v6 v7) se) :: (L + 1 + 1 + 1 + 1 + 1 + 1 + 1 + 1, o8) :: (L + 1 + 1 + 1 + 1 + 1 + 1 + 1 + 1 + 1, o9) :: fut)) : LawX w L fa cd 19 Q E s := by
  k_with "x39" => skip
  k_with "mine all" => ((fail_if_success k_extra "x40"); assumption)
  have _ : PySem.Challenge.rw_wo0016_01 = PySem.Challenge.rw_wo0016_01 ∧ Mine.hd.heap_1 = Mine.hd.heap_1 := by k_fill; exact ⟨rfl, rfl⟩
  refine lawX_of (by rfl) ?_
  dsimp only [lawD, d_of]
  obtain ⟨B, X, T, h100, hos, hba⟩ := G
  k_steps
  · exfalso
    rename List.any _ _ = _ => hq
    rcases hwy with rfl | rfl
    · exact absurd hq (by decide)
    · exact absurd hq (by decide)
  · rename Fr _ _ _ _ => F5
    rename News _ _ _ _ => N5
    refine next _ ?_ ?_ ?_
    · exact ⟨B, X, T, h100, hos, hba⟩
    · exact F5
    · exact nd1 N5
end
end
section
section
namespace Z_law_20
noncomputable def zP (w : World) (loose : List Str) (mean : ExcName → Option Value) (mg : Str → Option Value) (mb : Str → Option Value) (cd : Value) (fa : Addr) (g : Heap) (L : Addr) (s₀ : Shared) (s : Shared) (Q : Flow → Shared → Prop) (E : Value → Shared → Prop) (m : Str → Option Value) (fut : List (Addr × Obj)) (RA : Addr) (r0 : Int) (r1 : Int) (r2 : Int) (r3 : Int) (u0 : Tok) (u1 : Tok) (u2 : Tok) (u3 : Tok) (re : Nat) (f : Nat) (vf : Tok) : Prop := ∀ (hf : f < 4) (m1 : m (Str.ofString "runs") = some (.ref RA)) (m2 : m (Str.ofString "form") = some (.int (f : Int) vf)) (next : ∀ (s : Shared) (RU : Addr) (vs : List Value) (ks : List Int) (ue : Nat), LawG w loose mean mg mb g L s₀ s → Fr g L s.heap (upd m (Str.ofString "ruler") (.ref RU)) → News g L s.heap ((RU, lstO vs ue) :: (RA, lstO [.int r0 u0, .int r1 u1, .int r2 u2, .int r3 u3] re) :: fut) → IntsAre vs ks → ks = rulerL f r0 r1 r2 r3 → (RU = RA ∨ ∀ p ∈ (RA, lstO [.int r0 u0, .int r1 u1, .int r2 u2, .int r3 u3] re) :: fut, p.1 ≠ RU) → Q .next s) (G : LawG w loose mean mg mb g L s₀ s) (F : Fr g L s.heap m) (N : News g L s.heap ((RA, lstO [.int r0 u0, .int r1 u1, .int r2 u2, .int r3 u3] re) :: fut)), LawX w L fa cd 20 Q E s
noncomputable def zk : DD := pickD fun c => zP (c.fW 0) (c.fLs 0) (c.fMe 0) (c.fMp 0) (c.fMp 1) (c.fV 0) (c.fA 0) (c.fH 0) (c.fA 1) (c.fSh 0) (c.fSh 1) (c.fQ 0) (c.fE 0) (c.fMp 2) (c.fLed 0) (c.fA 2) (c.fI 0) (c.fI 1) (c.fI 2) (c.fI 3) (c.fT 0) (c.fT 1) (c.fT 2) (c.fT 3) (c.fN 0) (c.fN 1) (c.fT 4)
noncomputable section
@[irreducible] def w : World := zk.fW 0
@[irreducible] def loose : List Str := zk.fLs 0
@[irreducible] def mean : ExcName → Option Value := zk.fMe 0
@[irreducible] def mg : Str → Option Value := zk.fMp 0
@[irreducible] def mb : Str → Option Value := zk.fMp 1
@[irreducible] def cd : Value := zk.fV 0
@[irreducible] def fa : Addr := zk.fA 0
@[irreducible] def g : Heap := zk.fH 0
@[irreducible] def L : Addr := zk.fA 1
@[irreducible] def s₀ : Shared := zk.fSh 0
@[irreducible] def s : Shared := zk.fSh 1
@[irreducible] def Q : Flow → Shared → Prop := zk.fQ 0
@[irreducible] def E : Value → Shared → Prop := zk.fE 0
@[irreducible] def m : Str → Option Value := zk.fMp 2
@[irreducible] def fut : List (Addr × Obj) := zk.fLed 0
@[irreducible] def RA : Addr := zk.fA 2
@[irreducible] def r0 : Int := zk.fI 0
@[irreducible] def r1 : Int := zk.fI 1
@[irreducible] def r2 : Int := zk.fI 2
@[irreducible] def r3 : Int := zk.fI 3
@[irreducible] def u0 : Tok := zk.fT 0
@[irreducible] def u1 : Tok := zk.fT 1
@[irreducible] def u2 : Tok := zk.fT 2
@[irreducible] def u3 : Tok := zk.fT 3
@[irreducible] def re : Nat := zk.fN 0
@[irreducible] def f : Nat := zk.fN 1
@[irreducible] def vf : Tok := zk.fT 4
end
theorem zcore : zP w loose mean mg mb cd fa g L s₀ s Q E m fut RA r0 r1 r2 r3 u0 u1 u2 u3 re f vf := by
  k_with "x40" => skip
  k_with "mine all" => ((fail_if_success k_extra "x41"); assumption)
  k_with "subscriptTail" => ((fail_if_success k_extra "x41"); k_here; (with_reducible show wpAny _ _ (subscriptTail _ (PySem.Expr.Name _ _) (Value.ref _) (Value.int _ _)) _ _ _); refine hold_of ?_)
  unfold zP
  intro hf m1 m2 next G F N
  have _ : PySem.Challenge.rw_wo0016_01 = PySem.Challenge.rw_wo0016_01 ∧ Mine.hd.heap_1 = Mine.hd.heap_1 := by k_fill; exact ⟨rfl, rfl⟩
  refine lawX_of (by rfl) ?_
  dsimp only [lawD, d_of]
  obtain ⟨B, X, T, h100, hos, hba⟩ := G
  have F := fr_know2 F m1 m2
  k_steps
  refine unhold ?_
  rename News _ _ _ _ => N5
  refine item_new N5 (.head _) (by omega) (by omega) (sel4_get hf _ _ _ _) ?_
  k_steps
  rename Fr _ _ _ _ => F6
  rename News _ _ _ _ => N6
  have F7 := fr_unk2 F6 m1 m2
  obtain ⟨vs, ks, e, hi, hk, N7, hsep⟩ := ruler_end hf N6 (fun p hp => by
    rcases List.mem_cons.mp hp with rfl | hp
    · exact ⟨Nat.ne_of_lt (by dsimp only; omega), Nat.ne_of_lt (by dsimp only; omega), Nat.ne_of_lt (by dsimp only; omega)⟩
    · exact ⟨Nat.ne_of_lt (allLt_all (And.right (And.right (by assumption))) p hp), Nat.ne_of_lt (allLt_all (And.right (And.right (And.right (And.right (And.right (And.right (And.right (by assumption)))))))) p hp), Nat.ne_of_lt (allLt_all (And.right (And.right (And.right (And.right (And.right (And.right (And.right (And.right (And.right (And.right (And.right (And.right (by assumption))))))))))))) p hp)⟩)
  refine next _ _ vs ks e ?_ F7 N7 hi hk hsep
  exact ⟨B, X, T, h100, hos, hba⟩
theorem zall : ∀ c : DD, zP (c.fW 0) (c.fLs 0) (c.fMe 0) (c.fMp 0) (c.fMp 1) (c.fV 0) (c.fA 0) (c.fH 0) (c.fA 1) (c.fSh 0) (c.fSh 1) (c.fQ 0) (c.fE 0) (c.fMp 2) (c.fLed 0) (c.fA 2) (c.fI 0) (c.fI 1) (c.fI 2) (c.fI 3) (c.fT 0) (c.fT 1) (c.fT 2) (c.fT 3) (c.fN 0) (c.fN 1) (c.fT 4) := allD (by with_unfolding_all exact zcore)
end Z_law_20
theorem law_20 (w : World) (loose : List Str) (mean : ExcName → Option Value) (mg mb : Str → Option Value) (cd : Value) (fa : Addr) (g : Heap) (L : Addr) (s₀ s : Shared) (Q : Flow → Shared → Prop) (E : Value → Shared → Prop) (m : Str → Option Value) (fut : List (Addr × Obj)) (RA : Addr) (r0 r1 r2 r3 : Int) (u0 u1 u2 u3 : Tok) (re : Nat) (f : Nat) (hf : f < 4) (vf : Tok) (m1 : m (Str.ofString "runs") = some (.ref RA)) (m2 : m (Str.ofString "form") = some (.int (f : Int) vf))
    (next : ∀ (s : Shared) (RU : Addr) (vs : List Value) (ks : List Int) (ue : Nat), LawG w loose mean mg mb g L s₀ s → Fr g L s.heap (upd m (Str.ofString "ruler") (.ref RU)) → News g L s.heap ((RU, lstO vs ue) :: (RA, lstO [.int r0 u0, .int r1 u1, .int r2 u2, .int r3 u3] re) :: fut) → IntsAre vs ks → ks = rulerL f r0 r1 r2 r3 → (RU = RA ∨ ∀ p ∈ (RA, lstO [.int r0 u0, .int r1 u1, .int r2 u2, .int r3 u3] re) :: fut, p.1 ≠ RU) → Q .next s)
    (G : LawG w loose mean mg mb g L s₀ s) (F : Fr g L s.heap m) (N : News g L s.heap ((RA, lstO [.int r0 u0, .int r1 u1, .int r2 u2, .int r3 u3] re) :: fut)) : LawX w L fa cd 20 Q E s := by
  exact Z_law_20.zall ⟨fun _ => w, fun _ => loose, fun _ => mean, fun i => [mg, mb, m].getD i mg, fun i => [fa, L, RA].getD i fa, fun i => [re, f].getD i re, fun i => [r0, r1, r2, r3].getD i r0, fun i => [u0, u1, u2, u3, vf].getD i u0, fun _ => cd, anyD.fS, anyD.fO, fun _ => g, fun i => [s₀, s].getD i s₀, anyD.fLv, anyD.fLi, anyD.fLn, anyD.fLb, fun _ => fut, fun _ => Q, fun _ => E, anyD.fB, anyD.fIt, anyD.fAv, anyD.fB3, anyD.fGd, anyD.fEn, anyD.fAr, anyD.fOv, anyD.fOp, anyD.fLa, anyD.fEnv, anyD.fSs, anyD.fSt, anyD.fSc, anyD.fP, anyD.fEx, anyD.fR, anyD.fPo, anyD.fCl, anyD.fY, anyD.fRR, anyD.fBB, anyD.fNl, anyD.fOa, anyD.fFd, anyD.fAo, anyD.fDe, anyD.fIv⟩ hf m1 m2 next G F N

end
end
section
theorem news_cons {g h : Heap} {L : Addr} {a : Addr × Obj} {l l' : List (Addr × Obj)} (N : News g L h l) (ha : a ∈ l) (hl : ∀ p ∈ l', p ∈ l) : News g L h (a :: l') := fun p hp => by
  rcases List.mem_cons.mp hp with rfl | hp
  · exact N _ ha
  · exact N p (hl p hp)
theorem strs_cons {vs : List Value} {ss : List Str} {n : Nat} (h : StrsAre vs ss) (hl : ss.length = n + 1) : ∃ a t vs' ss', ss = a :: ss' ∧ vs = .str a t :: vs' ∧ StrsAre vs' ss' ∧ ss'.length = n := by
  cases h with
  | nil => cases hl
  | cons a t h => exact ⟨a, t, _, _, rfl, rfl, h, Nat.succ.inj hl⟩
theorem strs_two {vs : List Value} {ss : List Str} (h : StrsAre vs ss) (hl : ss.length = 2) : ∃ a b t u, ss = [a, b] ∧ vs = [.str a t, .str b u] := by
  obtain ⟨a, t, v1, s1, rfl, rfl, h, hl⟩ := strs_cons h hl
  obtain ⟨b, u, v2, s2, rfl, rfl, h, hl⟩ := strs_cons h hl
  obtain rfl := List.eq_nil_of_length_eq_zero hl
  cases h
  exact ⟨a, b, t, u, rfl, rfl⟩
theorem two_sorted {lo hi x1 x2 : Str} {vs : List Value} {ss : List Str} (hlt : LtS lo hi) (hx : (lo = x1 ∧ hi = x2) ∨ (lo = x2 ∧ hi = x1)) (hs : StrsAre vs ss) (hp : ss.Perm [x1, x2]) (hr : sortedS ss = true) : ∃ t u, vs = [.str lo t, .str hi u] := by
  have hp2 : ss.Perm [lo, hi] := by
    rcases hx with ⟨rfl, rfl⟩ | ⟨rfl, rfl⟩
    · exact hp
    · exact hp.trans (List.Perm.swap _ _ _)
  have hl := hp2.length_eq
  obtain ⟨a, b, t, u, rfl, rfl⟩ := strs_two hs hl
  have hab : (a = lo ∧ b = hi) ∨ (a = hi ∧ b = lo) := by
    have ha : a ∈ [lo, hi] := hp2.mem_iff.mp (List.Mem.head _)
    have hne : lo ≠ hi := fun e => by subst e; exact List.lt_irrefl _ hlt
    rcases List.mem_cons.mp ha with rfl | ha
    · have := (List.perm_cons _).mp hp2
      exact .inl ⟨rfl, by simpa using this⟩
    · rw [List.mem_singleton] at ha
      subst ha
      have h3 := (List.perm_cons _).mp (hp2.trans (List.Perm.swap _ _ _))
      exact .inr ⟨rfl, by simpa using h3⟩
  rcases hab with ⟨rfl, rfl⟩ | ⟨rfl, rfl⟩
  · exact ⟨t, u, rfl⟩
  · exfalso
    have : (!ltCps b.cps.toList a.cps.toList && true) = true := hr
    rw [Bool.and_true, Bool.not_eq_true', ltCps_eq] at this
    exact absurd (show b.cps.toList < a.cps.toList from hlt) (of_decide_eq_false this)
section
variable {prog : Program} {w : World} {A : Around} {E : Value → Shared → Prop} {s : Shared} {h₀ : Heap} {L : Addr} {m : Str → Option Value} {news : List (Addr × Obj)} {Q : Value → Shared → Prop}
theorem sorted_two {l : Addr} {e : Nat} {x1 x2 lo hi : Str} {t1 t2 : Tok} (F : Fr h₀ L s.heap m) (N : News h₀ L s.heap news) (hm : (l, lstO [.str x1 t1, .str x2 t2] e) ∈ news) (hlt : LtS lo hi) (hx : (lo = x1 ∧ hi = x2) ∨ (lo = x2 ∧ hi = x1))
    (h : ∀ D h' e' t u, Fr h₀ L h' m → News h₀ L h' ((D, lstO [.str lo t, .str hi u] e') :: news) → (∀ p ∈ news, p.1 < D) → Q (.ref D) { s with heap := h' }) : wpAny (model prog w) A (call (.builtin "sorted") [.ref l]) Q E s := by
  refine sorted_N_str F N ⟨_, (N _ hm).1, rfl, _, rfl⟩ (.cons x1 t1 (.cons x2 t2 .nil)) (show 2 < 64 by decide) fun h' vs' ss' e' F' N' hs hp hr => ?_
  obtain ⟨t, u, rfl⟩ := two_sorted hlt hx hs hp hr
  exact h _ h' e' t u F' N' fun p hp => Nat.lt_succ_of_lt (Heap.lt_size (N p hp).1)
end
section
variable {I C D lx dx P : Addr} {oI oC oD o1 o2 o3 : Obj} {rs : List (Addr × Obj)}
theorem off_lex (off : LCg.Off3 I C D ((lx, o1) :: (dx, o2) :: (P, o3) :: rs)) (hoff : ∀ p ∈ rs, p.1 ≠ lx ∧ p.1 ≠ dx ∧ p.1 ≠ P) : ∀ p ∈ (I, oI) :: (C, oC) :: (D, oD) :: rs, p.1 ≠ lx ∧ p.1 ≠ dx ∧ p.1 ≠ P := fun p hp => by
  obtain ⟨⟨a1, a2, a3⟩, ⟨b1, b2, b3⟩, ⟨c1, c2, c3⟩, _⟩ := off
  rcases List.mem_cons.mp hp with rfl | hp
  · exact ⟨Ne.symm a1, Ne.symm b1, Ne.symm c1⟩
  rcases List.mem_cons.mp hp with rfl | hp
  · exact ⟨Ne.symm a2, Ne.symm b2, Ne.symm c2⟩
  rcases List.mem_cons.mp hp with rfl | hp
  · exact ⟨Ne.symm a3, Ne.symm b3, Ne.symm c3⟩
  exact hoff p hp
variable {a b c d : Int × Tok} {ln : Int} {tn tw : Tok} {fp : Value} {e e1 e2 : Nat} {xs xs' : List Value}
theorem sub_lexN : ∀ p ∈ lexN lx dx P a b c d ln tn fp tw e xs e1, p ∈ (I, oI) :: (C, oC) :: (D, oD) :: (lx, instObj 52 dx) :: (dx, dictOf (lexD a b c d ln tn fp tw P) e) :: (P, lstO xs e1) :: rs := fun p hp => by
  simp only [lexN, List.mem_cons, List.not_mem_nil, or_false] at hp
  rcases hp with rfl | rfl | rfl <;> simp
theorem lex_kept {ys : List Value} (hy : xs' = ys) (hro : ∀ p ∈ (I, oI) :: (C, oC) :: (D, oD) :: rs, p.1 ≠ lx ∧ p.1 ≠ dx ∧ p.1 ≠ P) :
    ∀ p ∈ (I, oI) :: (C, oC) :: (D, oD) :: (lx, instObj 52 dx) :: (dx, dictOf (lexD a b c d ln tn fp tw P) e) :: (P, lstO xs' e2) :: rs,
      p ∈ lexN lx dx P a b c d ln tn fp tw e ys e2 ∨ (p ∈ (I, oI) :: (C, oC) :: (D, oD) :: (lx, instObj 52 dx) :: (dx, dictOf (lexD a b c d ln tn fp tw P) e) :: (P, lstO xs e1) :: rs ∧ ∀ q ∈ lexN lx dx P a b c d ln tn fp tw e xs e1, q.1 ≠ p.1) := fun p hp => by
  subst hy
  have key : p ∈ (I, oI) :: (C, oC) :: (D, oD) :: rs → (p ∈ (I, oI) :: (C, oC) :: (D, oD) :: (lx, instObj 52 dx) :: (dx, dictOf (lexD a b c d ln tn fp tw P) e) :: (P, lstO xs e1) :: rs ∧ ∀ q ∈ lexN lx dx P a b c d ln tn fp tw e xs e1, q.1 ≠ p.1) := fun hq => by
    obtain ⟨n1, n2, n3⟩ := hro p hq
    refine ⟨?_, fun q hz => ?_⟩
    · simp only [List.mem_cons] at hq ⊢
      rcases hq with h | h | h | h <;> simp [h]
    · simp only [lexN, List.mem_cons, List.not_mem_nil, or_false] at hz
      rcases hz with rfl | rfl | rfl
      · exact Ne.symm n1
      · exact Ne.symm n2
      · exact Ne.symm n3
  rcases List.mem_cons.mp hp with rfl | hp
  · exact .inr (key (.head _))
  rcases List.mem_cons.mp hp with rfl | hp
  · exact .inr (key (.tail _ (.head _)))
  rcases List.mem_cons.mp hp with rfl | hp
  · exact .inr (key (.tail _ (.tail _ (.head _))))
  rcases List.mem_cons.mp hp with rfl | hp
  · exact .inl (.head _)
  rcases List.mem_cons.mp hp with rfl | hp
  · exact .inl (.tail _ (.head _))
  rcases List.mem_cons.mp hp with rfl | hp
  · exact .inl (.tail _ (.tail _ (.head _)))
  · exact .inr (key (.tail _ (.tail _ (.tail _ hp))))
end
section
variable {prog : Program} {w : World} {A : Around} {h₀ : Heap} {L : Addr} {m : Str → Option Value} {env : Env} {elt : Expr} {x : Str} {scope : Scope} {cl : List (Str × Addr)} {s : Shared} {S : List (Addr × Obj) → Prop} {Fin : List Value → List (Addr × Obj) → Prop} {news : List (Addr × Obj)}
theorem inv_rest {P : Nat → Value → Prop} {n : Nat} (Inv : Nat → List Value → List (Addr × Obj) → Prop) (h0 : Inv 0 [] news)
    (turn : ∀ i v I oI C oC D m₂ ys news h tk (E' : Value → Shared → Prop), i < n → Inv i ys news → P i v → LCg.NsObj oC m₂ → m₂ x = some v → Fr h₀ L h m → News h₀ L h ((I, oI) :: (C, oC) :: (D, LCg.lst ys) :: news) → LCg.Off3 I C D news → ((@Ne Nat I C) ∧ (@Ne Nat I D) ∧ (@Ne Nat C D)) →
      wpAny (model prog w) A (eval elt (compEnvC scope cl C env)) (LCg.CompEnd h₀ L m { s with heap := h, toks := tk } I oI C oC D (LCg.lst ys) S (fun y news' => Inv (i + 1) (ys ++ [y]) news')) E' { s with heap := h, toks := tk })
    (fin : ∀ ys news, Inv n ys news → Fin ys news) : LCg.CompRest prog w A h₀ L m env elt x scope cl s S P Fin n 0 [] news := by
  have key : ∀ (j i : Nat) (ys : List Value) (news : List (Addr × Obj)), i + j = n → Inv i ys news → LCg.CompRest prog w A h₀ L m env elt x scope cl s S P Fin j i ys news := by
    intro j
    induction j with
    | zero =>
      intro i ys news hi hy
      obtain rfl : i = n := by omega
      exact LCg.CompRest.zero (fin ys news hy)
    | succ j ih =>
      intro i ys news hi hy
      refine LCg.CompRest.succ ?_
      intro v I oI C oC D m₂ h tk E' hv hC hx F N off ne
      refine wpAny_mono (turn i v I oI C oC D m₂ ys news h tk E' (by omega) hy hv hC hx F N off ne) (fun y s₂ hq => ?_) fun _ _ e => e
      obtain ⟨h', tk', nw, e, F', N', off', hS, hI⟩ := hq
      exact ⟨h', tk', nw, e, F', N', off', hS, ih (i + 1) _ nw (by omega) hI⟩
  exact key n 0 [] news (by omega) h0
end
section
variable {I C D lx dx P : Addr} {oI oC oD o1 o2 : Obj} {rs : List (Addr × Obj)} {a b c d : Int × Tok} {ln : Int} {tn tw : Tok} {fp : Value} {e e1 : Nat} {xs : List Value} {p : Addr × Obj}
theorem lex_first (hp : p ∈ lexN lx dx P a b c d ln tn fp tw e xs e1 ++ ((I, oI) :: (C, oC) :: (D, oD) :: rs)) : p ∈ (I, oI) :: (C, oC) :: (D, oD) :: (lx, instObj 52 dx) :: (dx, dictOf (lexD a b c d ln tn fp tw P) e) :: (P, lstO xs e1) :: rs := by
  simp only [lexN, List.cons_append, List.nil_append, List.mem_cons] at hp ⊢
  rcases hp with h | h | h | h | h | h | h <;> simp [h]
theorem lex_last (hp : p ∈ (I, oI) :: (C, oC) :: (D, oD) :: (lx, instObj 52 dx) :: (dx, dictOf (lexD a b c d ln tn fp tw P) e) :: (P, lstO xs e1) :: rs) : p ∈ lexN lx dx P a b c d ln tn fp tw e xs e1 ++ ((I, oI) :: (C, oC) :: (D, oD) :: rs) := by
  simp only [lexN, List.cons_append, List.nil_append, List.mem_cons] at hp ⊢
  rcases hp with h | h | h | h | h | h | h <;> simp [h]
end
theorem strs_map {lo hi : Str} {tl th : Tok} : ∀ r : List Bool, StrsAre (r.map (Vd lo hi tl th)) (r.map (Wd lo hi))
  | [] => .nil
  | b :: r => .cons _ _ (strs_map r)
theorem strs_snoc {y : Str} {t : Tok} : ∀ {vs : List Value} {ys : List Str}, StrsAre vs ys → StrsAre (vs ++ [.str y t]) (ys ++ [y])
  | _, _, .nil => .cons y t .nil
  | _, _, .cons z u r => .cons z u (strs_snoc r)
theorem wd_ok {lo hi : Str} (h1 : PyData.strOk lo = true) (h2 : PyData.strOk hi = true) {l : List Bool} : ∀ x ∈ l.map (Wd lo hi), PyData.strOk x = true := fun x hx => by
  obtain ⟨b, _, rfl⟩ := List.mem_map.mp hx
  cases b
  · exact h1
  · exact h2
theorem pick_two {lo hi : Str} {tl th : Tok} (b : Bool) : [Value.str lo tl, Value.str hi th][(b2i b).toNat]? = some (.str (Wd lo hi b) (Td tl th b)) := by cases b <;> rfl
theorem at_ints {vs : List Value} {la : List Bool} (h : IntsAre vs (la.map b2i)) (hl : 0 < la.length) {k : Int} (j : Nat) (hk : k = ((j % la.length : Nat) : Int)) : ∃ t, vs[k.toNat]? = some (.int (b2i (atR la j)) t) := by
  subst hk
  have hj : j % la.length < la.length := Nat.mod_lt _ hl
  obtain ⟨t, e⟩ := ints_at h (i := j % la.length) (x := b2i (atR la j)) (by simp [atR, List.getD_eq_getElem?_getD, hj])
  exact ⟨t, e⟩
theorem getD_bits {la : List Bool} (hl : 0 < la.length) {k : Int} (j : Nat) (hk : k = ((j % la.length : Nat) : Int)) : (la.map b2i).getD k.toNat 0 = b2i (atR la j) := by
  subst hk
  have hj : j % la.length < la.length := Nat.mod_lt _ hl
  simp only [atR, List.getD_eq_getElem?_getD, List.getElem?_map, Int.toNat_natCast, List.getElem?_eq_getElem hj, Option.map_some, Option.getD_some]
theorem sum_bits : ∀ bs : List Bool, (bs.map b2i).sum = (bs.countP id : Int)
  | [] => rfl
  | true :: bs => by
    have := sum_bits bs
    simp only [List.map_cons, List.sum_cons, this, b2i, if_true, List.countP_cons, id]
    omega
  | false :: bs => by
    have := sum_bits bs
    simp only [List.map_cons, List.sum_cons, this, b2i, Bool.false_eq_true, if_false, List.countP_cons, id]
    omega
end
section
noncomputable def fW (wy : Int) (x y z : Bool) : Bool := decide (fgW wy (4 * b2i x + 2 * b2i y + b2i z).toNat = 1)
noncomputable def fO (x y z : Bool) : Bool := decide (fgO (4 * b2i x + 2 * b2i y + b2i z).toNat = 1)
theorem fW_fg {wy : Int} (h : wy = 1 ∨ wy = -1) (x y z : Bool) : fgW wy (4 * b2i x + 2 * b2i y + b2i z).toNat = b2i (fW wy x y z) := by
  rcases h with rfl | rfl <;> cases x <;> cases y <;> cases z <;> rfl
theorem fO_fg (x y z : Bool) : fgO (4 * b2i x + 2 * b2i y + b2i z).toNat = b2i (fO x y z) := by
  cases x <;> cases y <;> cases z <;> rfl
noncomputable def swN (f : Bool → Bool → Bool → Bool) (r : List Bool) : Nat → List Bool
  | 0 => r
  | k + 1 => outs f (swN f r k) r.length
theorem outs_len (f : Bool → Bool → Bool → Bool) (r : List Bool) (n : Nat) : (outs f r n).length = n := by simp [outs]
theorem swN_len (f : Bool → Bool → Bool → Bool) (r : List Bool) : ∀ k, (swN f r k).length = r.length
  | 0 => rfl
  | k + 1 => outs_len _ _ _
theorem atR_mod (r : List Bool) (j : Nat) : atR r (j % r.length) = atR r j := by simp [atR]
theorem atR_outs (f : Bool → Bool → Bool → Bool) (r : List Bool) (hr : 0 < r.length) (j : Nat) : atR (outs f r r.length) j = f (atR r j) (atR r (j + 1)) (atR r (j + 2)) := by
  have h1 : j % r.length < r.length := Nat.mod_lt _ hr
  have e1 : atR r (j % r.length + 1) = atR r (j + 1) := by rw [← atR_mod r (j % r.length + 1), ← atR_mod r (j + 1), Nat.mod_add_mod]
  have e2 : atR r (j % r.length + 2) = atR r (j + 2) := by rw [← atR_mod r (j % r.length + 2), ← atR_mod r (j + 2), Nat.mod_add_mod]
  have e0 : atR (outs f r r.length) j = f (atR r (j % r.length)) (atR r (j % r.length + 1)) (atR r (j % r.length + 2)) := by
    show (outs f r r.length).getD (j % (outs f r r.length).length) false = _
    rw [outs_len]
    simp [outs, List.getD_eq_getElem?_getD, h1]
  rw [e0, e1, e2, atR_mod]
noncomputable def stp (h : Nat → Int) : Nat → Int := fun j => min (h j) (h (j + 2))
theorem stp_ok {wy : Int} (hw : wy = 1 ∨ wy = -1) {h : Nat → Int} {B : Nat → Bool} (H : ∀ j, h (j + 1) = h j + wy * (1 - 2 * b2i (B j))) (j : Nat) :
    stp h (j + 1) = stp h j + wy * (1 - 2 * b2i (fW wy (B j) (B (j + 1)) (B (j + 2)))) := by
  have h0 := H j
  have h1 := H (j + 1)
  have h2 := H (j + 2)
  have e1 : h (j + 1 + 2) = h (j + 2 + 1) := rfl
  have e2 : h (j + 1 + 1) = h (j + 2) := rfl
  unfold stp
  rw [e1]
  rw [e2] at h1
  have w1 : ∀ b : Bool, b2i b = if b then 1 else 0 := fun b => by cases b <;> rfl
  rcases hw with rfl | rfl <;> cases hx : B j <;> cases hy : B (j + 1) <;> cases hz : B (j + 2) <;> rw [hx] at h0 <;> rw [hy] at h1 <;> rw [hz] at h2 <;>
    (simp only [fW, fgW, w1] at h0 h1 h2 ⊢; simp at h0 h1 h2 ⊢; omega)
theorem dec_bit {wy : Int} (hw : wy = 1 ∨ wy = -1) {x y : Int} {b : Bool} (h : x = y + wy * (1 - 2 * b2i b)) : decide (wy * (x - y) < 0) = b := by
  subst h
  rcases hw with rfl | rfl <;> cases b <;> simp [b2i] <;> omega
theorem htW_step (way : Int) (bs : List Bool) (j : Nat) : htW way bs (j + 1) = htW way bs j + way * (1 - 2 * b2i (atR bs j)) := rfl
theorem min3 (a b c : Int) : min (min a b) (min b c) = min (min a b) c := by rw [← Int.min_assoc, Int.min_assoc a b b, Int.min_self]
theorem minA {x y d : Int} (h : x ≤ y) : min x (min y d) = min x d := by rw [← Int.min_assoc, Int.min_eq_left h]
theorem least2 (h : Nat → Int) (q : Nat) : leastW 2 h (q + 2) = stp (stp h) q := by
  have e : leastW 2 h (q + 2) = min (min (h (q + 2 + 2 * 0 - 2)) (h (q + 2 + 2 * 1 - 2))) (h (q + 2 + 2 * 2 - 2)) := rfl
  have e0 : q + 2 + 2 * 0 - 2 = q := rfl
  have e1 : q + 2 + 2 * 1 - 2 = q + 2 := rfl
  have e2 : q + 2 + 2 * 2 - 2 = q + 2 + 2 := rfl
  rw [e, e0, e1, e2]
  unfold stp
  exact (min3 _ _ _).symm
theorem least3 (h : Nat → Int) (q : Nat) : leastW 3 h (q + 3) = stp (stp (stp h)) q := by
  have e : leastW 3 h (q + 3) = min (min (min (h (q + 3 + 2 * 0 - 3)) (h (q + 3 + 2 * 1 - 3))) (h (q + 3 + 2 * 2 - 3))) (h (q + 3 + 2 * 3 - 3)) := rfl
  have e0 : q + 3 + 2 * 0 - 3 = q := rfl
  have e1 : q + 3 + 2 * 1 - 3 = q + 2 := rfl
  have e2 : q + 3 + 2 * 2 - 3 = q + 2 + 2 := rfl
  have e3 : q + 3 + 2 * 3 - 3 = q + 2 + 2 + 2 := rfl
  rw [e, e0, e1, e2, e3]
  unfold stp
  rw [min3, min3]
  exact (minA (Int.min_le_right _ _)).symm
theorem later_at {wy : Int} (hw : wy = 1 ∨ wy = -1) (bs : List Bool) (hb : 6 ≤ bs.length) (st : Nat) (hst : st = 2 ∨ st = 3) (q : Nat) :
    decide (wy * (leastW st (htW wy bs) (q + 1 + st) - leastW st (htW wy bs) (q + st)) < 0) = atR (swN (fW wy) bs st) q := by
  have l0 : ∀ k, 0 < (swN (fW wy) bs k).length := fun k => by rw [swN_len]; omega
  have s1 : ∀ j, stp (htW wy bs) (j + 1) = stp (htW wy bs) j + wy * (1 - 2 * b2i (atR (swN (fW wy) bs 1) j)) := fun j => by
    have e : swN (fW wy) bs 1 = outs (fW wy) bs bs.length := rfl
    rw [e, atR_outs (fW wy) bs (by omega)]
    exact stp_ok hw (htW_step wy bs) j
  have s2 : ∀ j, stp (stp (htW wy bs)) (j + 1) = stp (stp (htW wy bs)) j + wy * (1 - 2 * b2i (atR (swN (fW wy) bs 2) j)) := fun j => by
    have e : swN (fW wy) bs 2 = outs (fW wy) (swN (fW wy) bs 1) (swN (fW wy) bs 1).length := by rw [swN_len]; rfl
    rw [e, atR_outs _ _ (l0 1)]
    exact stp_ok hw s1 j
  have s3 : ∀ j, stp (stp (stp (htW wy bs))) (j + 1) = stp (stp (stp (htW wy bs))) j + wy * (1 - 2 * b2i (atR (swN (fW wy) bs 3) j)) := fun j => by
    have e : swN (fW wy) bs 3 = outs (fW wy) (swN (fW wy) bs 2) (swN (fW wy) bs 2).length := by rw [swN_len]; rfl
    rw [e, atR_outs _ _ (l0 2)]
    exact stp_ok hw s2 j
  rcases hst with rfl | rfl
  · rw [least2, least2]
    exact dec_bit hw (s2 q)
  · rw [least3, least3]
    exact dec_bit hw (s3 q)
theorem laterP_len (wy : Int) (bs : List Bool) (st : Nat) : (laterP wy bs st).length = bs.length := by simp [laterP]
theorem laterP_at {wy : Int} (hw : wy = 1 ∨ wy = -1) (bs : List Bool) (hb : 6 ≤ bs.length) (st : Nat) (hst : st = 2 ∨ st = 3) (j : Nat) :
    atR (laterP wy bs st) (j + st) = atR (swN (fW wy) bs st) j := by
  have hl : (swN (fW wy) bs st).length = bs.length := swN_len _ _ _
  have hm : (j + st) % bs.length < bs.length := Nat.mod_lt _ (by omega)
  have e : atR (laterP wy bs st) (j + st) = decide (wy * (leastW st (htW wy bs) (bs.length + ((j + st) % bs.length + 1)) - leastW st (htW wy bs) (bs.length + (j + st) % bs.length)) < 0) := by
    show (laterP wy bs st).getD ((j + st) % (laterP wy bs st).length) false = _
    rw [laterP_len]
    simp only [laterP, List.getD_eq_getElem?_getD]
    rw [List.getElem?_map, List.getElem?_range hm]
    rfl
  rw [e]
  have e1 : bs.length + ((j + st) % bs.length + 1) = (bs.length + (j + st) % bs.length - st) + 1 + st := by omega
  have e2 : bs.length + (j + st) % bs.length = (bs.length + (j + st) % bs.length - st) + st := by omega
  rw [e1]
  rw [show leastW st (htW wy bs) (bs.length + (j + st) % bs.length) = leastW st (htW wy bs) ((bs.length + (j + st) % bs.length - st) + st) by rw [← e2]]
  rw [later_at hw bs hb st hst]
  rw [← atR_mod _ (bs.length + (j + st) % bs.length - st), ← atR_mod _ j, hl]
  congr 1
  have h5 : ((bs.length + (j + st) % bs.length - st) + st) % bs.length = (j + st) % bs.length := by rw [← e2, Nat.add_mod_left, Nat.mod_mod]
  have h6 : st < bs.length := by omega
  have h7 : (((bs.length + (j + st) % bs.length - st) + st) + (bs.length - st)) % bs.length = ((j + st) + (bs.length - st)) % bs.length := by
    rw [Nat.add_mod, h5, ← Nat.add_mod]
  have h8 : ((bs.length + (j + st) % bs.length - st) + st) + (bs.length - st) = (bs.length + (j + st) % bs.length - st) + bs.length := by omega
  have h9 : (j + st) + (bs.length - st) = j + bs.length := by omega
  rw [h8, h9, Nat.add_mod_right, Nat.add_mod_right] at h7
  exact h7
theorem list_at (l : List Bool) : l = (List.range l.length).map fun k => atR l k := by
  refine List.ext_getElem (by simp) fun i h1 h2 => ?_
  simp [atR, Nat.mod_eq_of_lt h1, List.getD_eq_getElem?_getD, h1]
theorem ring_1 {wy : Int} (hw : wy = 1 ∨ wy = -1) (bs : List Bool) (hb : 6 ≤ bs.length) (st : Nat) (hst : st = 2 ∨ st = 3) :
    swN (fW wy) bs st = (List.range bs.length).map fun k => atR (laterP wy bs st) (k + st) := by
  have h := list_at (swN (fW wy) bs st)
  rw [swN_len] at h
  exact h.trans (List.map_congr_left fun k _ => (laterP_at hw bs hb st hst k).symm)
noncomputable def go3 (f : Bool → Bool → Bool → Bool) (c d : Bool) : Bool → Bool → List Bool → List Bool
  | a, b, [] => [f a b c, f b c d]
  | a, b, z :: t => f a b z :: go3 f c d b z t
noncomputable def goR (f : Bool → Bool → Bool → Bool) : List Bool → List Bool
  | a :: b :: t => go3 f a b a b t
  | l => l
noncomputable def itR (f : Bool → Bool → Bool → Bool) : Nat → List Bool → List Bool
  | 0, x => x
  | n + 1, x => itR f n (goR f x)
noncomputable def r184 : Bool → Bool → Bool → Bool
  | true, false, _ => true
  | true, true, z => z
  | false, true, z => z
  | false, false, _ => false
noncomputable def r226 : Bool → Bool → Bool → Bool
  | true, true, _ => true
  | true, false, z => z
  | false, false, z => z
  | false, true, _ => false
noncomputable def r232 : Bool → Bool → Bool → Bool
  | true, true, _ => true
  | true, false, z => z
  | false, true, z => z
  | false, false, _ => false
noncomputable def eqB : List Bool → List Bool → Bool
  | [], [] => true
  | true :: a, true :: b => eqB a b
  | false :: a, false :: b => eqB a b
  | _, _ => false
noncomputable def allT : List Bool → Bool
  | [] => true
  | true :: l => allT l
  | _ => false
noncomputable def allF : List Bool → Bool
  | [] => true
  | false :: l => allF l
  | _ => false
noncomputable def cntB : List Bool → Nat
  | [] => 0
  | true :: l => Nat.succ (cntB l)
  | false :: l => cntB l
noncomputable def notL : List Bool → List Bool
  | [] => []
  | true :: l => false :: notL l
  | false :: l => true :: notL l
noncomputable def pM (n mo st : Nat) (g : Bool → Bool → Bool → Bool) (odd : Bool) (l : List Bool) : Bool :=
  let r1 := itR g st l
  let r2 := itR r232 mo r1
  let c := cntB l
  if 2 * c < n then allF r2 else if n < 2 * c then allT r2 else eqB r2 (let q := r1.drop mo ++ r1.take mo; if odd then notL q else q)
noncomputable def allB : Nat → (List Bool → Bool) → Bool
  | 0, p => p []
  | n + 1, p => allB n (fun l => p (true :: l)) && allB n (fun l => p (false :: l))
theorem allB_ok : ∀ (n : Nat) (p : List Bool → Bool), allB n p = true → ∀ l : List Bool, l.length = n → p l = true
  | 0, p, h, l, hl => by rw [List.length_eq_zero_iff.mp hl]; exact h
  | n + 1, p, h, [], hl => by simp at hl
  | n + 1, p, h, true :: l, hl => allB_ok n _ (Bool.and_eq_true_iff.mp h).1 l (by simpa using hl)
  | n + 1, p, h, false :: l, hl => allB_ok n _ (Bool.and_eq_true_iff.mp h).2 l (by simpa using hl)
theorem k6a : allB 6 (pM 6 2 2 r184 false) = true := by decide +kernel
theorem k6b : allB 6 (pM 6 2 2 r226 false) = true := by decide +kernel
theorem k7a : allB 7 (pM 7 3 2 r184 true) = true := by decide +kernel
theorem k7b : allB 7 (pM 7 3 2 r226 true) = true := by decide +kernel
theorem k8a1 : allB 7 (fun l => pM 8 3 3 r184 true (true :: l)) = true := by decide +kernel
theorem k8a2 : allB 7 (fun l => pM 8 3 3 r184 true (false :: l)) = true := by decide +kernel
theorem k8b1 : allB 7 (fun l => pM 8 3 3 r226 true (true :: l)) = true := by decide +kernel
theorem k8b2 : allB 7 (fun l => pM 8 3 3 r226 true (false :: l)) = true := by decide +kernel
theorem k9a1 : allB 7 (fun l => pM 9 4 3 r184 false (true :: true :: l)) = true := by decide +kernel
theorem k9a2 : allB 7 (fun l => pM 9 4 3 r184 false (true :: false :: l)) = true := by decide +kernel
theorem k9a3 : allB 7 (fun l => pM 9 4 3 r184 false (false :: true :: l)) = true := by decide +kernel
theorem k9a4 : allB 7 (fun l => pM 9 4 3 r184 false (false :: false :: l)) = true := by decide +kernel
theorem k9b1 : allB 7 (fun l => pM 9 4 3 r226 false (true :: true :: l)) = true := by decide +kernel
theorem k9b2 : allB 7 (fun l => pM 9 4 3 r226 false (true :: false :: l)) = true := by decide +kernel
theorem k9b3 : allB 7 (fun l => pM 9 4 3 r226 false (false :: true :: l)) = true := by decide +kernel
theorem k9b4 : allB 7 (fun l => pM 9 4 3 r226 false (false :: false :: l)) = true := by decide +kernel
theorem allB_2 {n : Nat} {p : List Bool → Bool} (h1 : allB n (fun l => p (true :: l)) = true) (h2 : allB n (fun l => p (false :: l)) = true) : allB (n + 1) p = true := Bool.and_eq_true_iff.mpr ⟨h1, h2⟩
theorem k8a : allB 8 (pM 8 3 3 r184 true) = true := allB_2 k8a1 k8a2
theorem k8b : allB 8 (pM 8 3 3 r226 true) = true := allB_2 k8b1 k8b2
theorem k9a : allB 9 (pM 9 4 3 r184 false) = true := allB_2 (allB_2 (p := fun l => pM 9 4 3 r184 false (true :: l)) k9a1 k9a2) (allB_2 (p := fun l => pM 9 4 3 r184 false (false :: l)) k9a3 k9a4)
theorem k9b : allB 9 (pM 9 4 3 r226 false) = true := allB_2 (allB_2 (p := fun l => pM 9 4 3 r226 false (true :: l)) k9b1 k9b2) (allB_2 (p := fun l => pM 9 4 3 r226 false (false :: l)) k9b3 k9b4)
theorem fW_1 : fW 1 = r184 := by funext x y z; cases x <;> cases y <;> cases z <;> rfl
theorem fW_m : fW (-1) = r226 := by funext x y z; cases x <;> cases y <;> cases z <;> rfl
theorem fO_r : fO = r232 := by funext x y z; cases x <;> cases y <;> cases z <;> rfl
theorem go3_eq (f : Bool → Bool → Bool → Bool) (c d : Bool) : ∀ (t : List Bool) (a b : Bool), go3 f c d a b t = (List.range (t.length + 2)).map fun j => f ((a :: b :: t ++ [c, d]).getD j false) ((a :: b :: t ++ [c, d]).getD (j + 1) false) ((a :: b :: t ++ [c, d]).getD (j + 2) false)
  | [], a, b => rfl
  | z :: t, a, b => by
    rw [go3, go3_eq f c d t b z]
    have e : (z :: t).length + 2 = (t.length + 2) + 1 := rfl
    conv => rhs; rw [e, List.range_succ_eq_map, List.map_cons, List.map_map]
    rfl
theorem get_at {l : List Bool} {a b : Bool} {t : List Bool} (hl : l = a :: b :: t) {j : Nat} (hj : j < l.length + 2) : (l ++ [a, b]).getD j false = atR l j := by
  have h2 : 2 ≤ l.length := by rw [hl]; simp
  unfold atR
  simp only [List.getD_eq_getElem?_getD]
  by_cases h : j < l.length
  · rw [Nat.mod_eq_of_lt h, List.getElem?_append_left h]
  · rw [List.getElem?_append_right (by omega)]
    rcases (by omega : j = l.length ∨ j = l.length + 1) with rfl | rfl
    · rw [Nat.mod_self, Nat.sub_self, hl]; rfl
    · rw [Nat.add_mod_left, Nat.mod_eq_of_lt (by omega : 1 < l.length), Nat.add_sub_cancel_left, hl]; rfl
theorem goR_eq (f : Bool → Bool → Bool → Bool) {l : List Bool} (h : 2 ≤ l.length) : outs f l l.length = goR f l := by
  match l, h with
  | a :: b :: t, _ =>
    show _ = go3 f a b a b t
    rw [go3_eq]
    unfold outs
    refine List.map_congr_left fun j hj => ?_
    have hj' := List.mem_range.mp hj
    have hh : ∀ k, k < (a :: b :: t).length + 2 → (a :: b :: t ++ [a, b]).getD k false = atR (a :: b :: t) k := fun k hk => get_at rfl hk
    rw [hh j (by omega), hh (j + 1) (by omega), hh (j + 2) (by omega)]
theorem swN_succ (f : Bool → Bool → Bool → Bool) (r : List Bool) : ∀ k, swN f r (k + 1) = swN f (outs f r r.length) k
  | 0 => rfl
  | k + 1 => by
    show outs f (swN f r (k + 1)) r.length = outs f (swN f (outs f r r.length) k) (outs f r r.length).length
    rw [swN_succ f r k, outs_len]
theorem itR_eq (f : Bool → Bool → Bool → Bool) : ∀ (k : Nat) (r : List Bool), 2 ≤ r.length → swN f r k = itR f k r
  | 0, r, h => rfl
  | k + 1, r, h => by
    rw [swN_succ, itR, ← goR_eq f h]
    exact itR_eq f k _ (by rw [outs_len]; exact h)
theorem eqB_ok : ∀ {a b : List Bool}, eqB a b = true → a = b
  | [], [], _ => rfl
  | true :: a, true :: b, h => congrArg _ (eqB_ok (a := a) (b := b) h)
  | false :: a, false :: b, h => congrArg _ (eqB_ok (a := a) (b := b) h)
  | [], _ :: _, h => by simp [eqB] at h
  | _ :: _, [], h => by simp [eqB] at h
  | true :: _, false :: _, h => by simp [eqB] at h
  | false :: _, true :: _, h => by simp [eqB] at h
theorem allT_ok : ∀ {a : List Bool}, allT a = true → a = List.replicate a.length true
  | [], _ => rfl
  | true :: a, h => congrArg (true :: ·) (allT_ok (a := a) h)
  | false :: _, h => by simp [allT] at h
theorem allF_ok : ∀ {a : List Bool}, allF a = true → a = List.replicate a.length false
  | [], _ => rfl
  | false :: a, h => congrArg (false :: ·) (allF_ok (a := a) h)
  | true :: _, h => by simp [allF] at h
theorem notL_eq : ∀ a : List Bool, notL a = a.map fun b => b != true
  | [] => rfl
  | true :: a => congrArg (false :: ·) (notL_eq a)
  | false :: a => congrArg (true :: ·) (notL_eq a)
theorem rot_at (r : List Bool) (mo : Nat) (hm : mo ≤ r.length) : r.drop mo ++ r.take mo = (List.range r.length).map fun k => atR r (k + mo) := by
  refine List.ext_getElem (by simp; omega) fun i h1 h2 => ?_
  have hi : i < r.length := by simpa using h2
  simp only [List.getElem_map, List.getElem_range, atR]
  rw [List.getD_eq_getElem?_getD]
  by_cases h : i + mo < r.length
  · rw [List.getElem_append_left (by simp; omega), Nat.mod_eq_of_lt h]
    have h' : mo + i < r.length := by omega
    simp [Nat.add_comm i mo, h']
  · rw [List.getElem_append_right (by simp; omega), Nat.mod_eq_sub_mod (by omega), Nat.mod_eq_of_lt (by omega)]
    have : i + mo - r.length < r.length := by omega
    simp only [List.getElem_take, List.length_drop, List.getElem?_eq_getElem this, Option.getD_some]
    congr 1
    omega
noncomputable def finP (n : Nat) (bs la : List Bool) (mo : Nat) : List Bool := if 2 * cntB bs = n then la.map (fun b => b != decide (mo % 2 = 1)) else List.replicate n (decide (n < 2 * cntB bs))
theorem finP_len {n : Nat} {bs la : List Bool} (h : la.length = n) (mo : Nat) : (finP n bs la mo).length = n := by
  unfold finP
  split <;> simp [h]
theorem rep_at (n : Nat) (hn : 0 < n) (b : Bool) (j : Nat) : atR (List.replicate n b) j = b := by
  have := Nat.mod_lt j hn
  simp [atR, List.getD_eq_getElem?_getD, this]
theorem map_at (f : Bool → Bool) (l : List Bool) (h : 0 < l.length) (j : Nat) : atR (l.map f) j = f (atR l j) := by
  have := Nat.mod_lt j h
  simp [atR, List.getD_eq_getElem?_getD, this]
theorem ring_of {n mo st : Nat} {wy : Int} (hw : wy = 1 ∨ wy = -1) {bs : List Bool} (hb : bs.length = n) (hn : 6 ≤ n) (hst : st = 2 ∨ st = 3) (hm : mo ≤ n) (h : pM n mo st (fW wy) (decide (mo % 2 = 1)) bs = true) :
    swN fO (swN (fW wy) bs st) mo = (List.range n).map fun k => atR (finP n bs (laterP wy bs st) mo) (k + st + mo) := by
  have l1 : (swN (fW wy) bs st).length = n := by rw [swN_len, hb]
  have e1 : itR (fW wy) st bs = swN (fW wy) bs st := (itR_eq _ _ _ (by omega)).symm
  have e2 : itR r232 mo (swN (fW wy) bs st) = swN fO (swN (fW wy) bs st) mo := by rw [← fO_r]; exact (itR_eq _ _ _ (by omega)).symm
  have l2 : (swN fO (swN (fW wy) bs st) mo).length = n := by rw [swN_len, l1]
  simp only [pM, e1, e2] at h
  have ll := laterP_len wy bs st
  unfold finP
  by_cases c1 : 2 * cntB bs < n
  · rw [if_pos c1] at h
    have := allF_ok h
    rw [l2] at this
    rw [this, if_neg (by omega), decide_eq_false (by omega)]
    refine List.ext_getElem (by simp) fun i _ _ => ?_
    simp [rep_at n (by omega)]
  · rw [if_neg c1] at h
    by_cases c2 : n < 2 * cntB bs
    · rw [if_pos c2] at h
      have := allT_ok h
      rw [l2] at this
      rw [this, if_neg (by omega), decide_eq_true c2]
      refine List.ext_getElem (by simp) fun i _ _ => ?_
      simp [rep_at n (by omega)]
    · rw [if_neg c2] at h
      have h' := eqB_ok h
      have hc : 2 * cntB bs = n := by omega
      have hf : ∀ x y : List Bool, (if 2 * cntB bs = n then x else y) = x := fun x y => if_pos hc
      rw [h', rot_at _ _ (by omega), l1]
      simp only [hf]
      have key : ∀ k, atR (laterP wy bs st) (k + st + mo) = atR (swN (fW wy) bs st) (k + mo) := fun k => by
        rw [show k + st + mo = (k + mo) + st by omega]
        exact laterP_at hw bs (by omega) st hst _
      by_cases c3 : mo % 2 = 1
      · rw [if_pos (decide_eq_true c3), notL_eq, List.map_map, decide_eq_true c3]
        refine List.map_congr_left fun k _ => ?_
        rw [map_at _ _ (by omega), key]
        rfl
      · rw [decide_eq_false c3, if_neg (by decide)]
        refine List.map_congr_left fun k _ => ?_
        rw [map_at _ _ (by omega), key]
        cases atR (swN (fW wy) bs st) (k + mo) <;> rfl
theorem ring_2 {n : Nat} {wy : Int} (hw : wy = 1 ∨ wy = -1) {bs : List Bool} (hb : bs.length = n) (hn : 6 ≤ n ∧ n ≤ 9) :
    swN fO (swN (fW wy) bs ((n - 2) / 2)) ((n - 1) / 2) = (List.range n).map fun k => atR (finP n bs (laterP wy bs ((n - 2) / 2)) ((n - 1) / 2)) (k + (n - 2) / 2 + (n - 1) / 2) := by
  rcases (by omega : n = 6 ∨ n = 7 ∨ n = 8 ∨ n = 9) with rfl | rfl | rfl | rfl <;> rcases hw with rfl | rfl
  · exact ring_of (.inl rfl) hb (by omega) (.inl rfl) (by omega) (by rw [fW_1]; exact allB_ok _ _ k6a _ hb)
  · exact ring_of (.inr rfl) hb (by omega) (.inl rfl) (by omega) (by rw [fW_m]; exact allB_ok _ _ k6b _ hb)
  · exact ring_of (.inl rfl) hb (by omega) (.inl rfl) (by omega) (by rw [fW_1]; exact allB_ok _ _ k7a _ hb)
  · exact ring_of (.inr rfl) hb (by omega) (.inl rfl) (by omega) (by rw [fW_m]; exact allB_ok _ _ k7b _ hb)
  · exact ring_of (.inl rfl) hb (by omega) (.inr rfl) (by omega) (by rw [fW_1]; exact allB_ok _ _ k8a _ hb)
  · exact ring_of (.inr rfl) hb (by omega) (.inr rfl) (by omega) (by rw [fW_m]; exact allB_ok _ _ k8b _ hb)
  · exact ring_of (.inl rfl) hb (by omega) (.inr rfl) (by omega) (by rw [fW_1]; exact allB_ok _ _ k9a _ hb)
  · exact ring_of (.inr rfl) hb (by omega) (.inr rfl) (by omega) (by rw [fW_m]; exact allB_ok _ _ k9b _ hb)
theorem bitsGo_pre : ∀ (l : List Int) (b : Bool) (acc : List Bool), ∃ t, bitsGo l b acc = acc ++ t
  | [], _, acc => ⟨[], by simp [bitsGo]⟩
  | x :: xs, b, acc => by
    obtain ⟨t, ht⟩ := bitsGo_pre xs (!b) (acc ++ List.replicate x.toNat b)
    exact ⟨List.replicate x.toNat b ++ t, by rw [bitsGo, ht, List.append_assoc]⟩
theorem ring_bits (n : Nat) : ∀ (l : List Int) (b : Bool) (acc : List Bool), (ringGo n l b acc ++ List.replicate n false).take n = (bitsGo l b acc ++ List.replicate n false).take n
  | [], _, _ => rfl
  | x :: xs, b, acc => by
    rw [ringGo, bitsGo]
    split
    · rename_i h
      obtain ⟨t, ht⟩ := bitsGo_pre xs (!b) (acc ++ List.replicate x.toNat b)
      rw [ht, List.take_append_of_le_length h, List.append_assoc, List.take_append_of_le_length h]
    · exact ring_bits n xs _ _
theorem bitsGo_cut (n : Nat) : ∀ (l l' : List Int) (b : Bool) (acc : List Bool), n ≤ (bitsGo l b acc).length → (bitsGo (l ++ l') b acc ++ List.replicate n false).take n = (bitsGo l b acc ++ List.replicate n false).take n
  | [], l', b, acc, h => by
    obtain ⟨t, ht⟩ := bitsGo_pre l' b acc
    have h' : n ≤ acc.length := h
    show (bitsGo l' b acc ++ _).take n = (acc ++ _).take n
    rw [ht, List.append_assoc, List.take_append_of_le_length h', List.take_append_of_le_length h']
  | x :: xs, l', b, acc, h => bitsGo_cut n xs l' _ _ h
theorem bitsGo_ge : ∀ (l : List Int) (b : Bool) (acc : List Bool), (∀ x ∈ l, 1 ≤ x) → acc.length + l.length ≤ (bitsGo l b acc).length
  | [], _, acc, _ => by simp [bitsGo]
  | x :: xs, b, acc, h => by
    have h1 := h x (List.Mem.head _)
    have := bitsGo_ge xs (!b) (acc ++ List.replicate x.toNat b) fun y hy => h y (.tail _ hy)
    rw [bitsGo]
    simp only [List.length_append, List.length_replicate, List.length_cons] at this ⊢
    omega
theorem giv_ruler {f : Nat} {r0 r1 r2 r3 : Int} (hr : (1 ≤ r0 ∧ r0 ≤ 3) ∧ (1 ≤ r1 ∧ r1 ≤ 3) ∧ (1 ≤ r2 ∧ r2 ≤ 3) ∧ (1 ≤ r3 ∧ r3 ≤ 3)) :
    giv none (rulerL f r0 r1 r2 r3) 12 = match f with
      | 0 => [r0, r1, r2, r3] ++ List.replicate 8 r3
      | 1 => [r0] ++ List.replicate 11 r1
      | 2 => [r0, r1]
      | _ => [r0, r1, r2, r3] := by
  have n0 : r0 ≠ 127 ∧ r0 ≠ 0 := by omega
  have n1 : r1 ≠ 127 ∧ r1 ≠ 0 := by omega
  have n2 : r2 ≠ 127 ∧ r2 ≠ 0 := by omega
  have n3 : r3 ≠ 127 ∧ r3 ≠ 0 := by omega
  match f with
  | 0 => simp [rulerL, giv, n0, n1, n2, n3]
  | 1 => simp [rulerL, giv, n0, n1, n2, n3]
  | 2 => simp [rulerL, giv, n0, n1, n2, n3]
  | f + 3 => simp [rulerL, giv, n0, n1, n2, n3]
theorem ruler_ok {f : Nat} {r0 r1 r2 r3 : Int} (hr : (1 ≤ r0 ∧ r0 ≤ 3) ∧ (1 ≤ r1 ∧ r1 ≤ 3) ∧ (1 ≤ r2 ∧ r2 ≤ 3) ∧ (1 ≤ r3 ∧ r3 ≤ 3)) :
    giOk none (rulerL f r0 r1 r2 r3) ∧ (rulerL f r0 r1 r2 r3).length ≤ 100 ∧ (∀ k ∈ rulerL f r0 r1 r2 r3, 0 ≤ k ∧ k ≤ 127) ∧ ∀ x ∈ giv none (rulerL f r0 r1 r2 r3) 12, 1 ≤ x ∧ x ≤ 3 := by
  have n0 : r0 ≠ 127 ∧ r0 ≠ 0 := by omega
  have n1 : r1 ≠ 127 ∧ r1 ≠ 0 := by omega
  have n2 : r2 ≠ 127 ∧ r2 ≠ 0 := by omega
  have n3 : r3 ≠ 127 ∧ r3 ≠ 0 := by omega
  refine ⟨?_, ?_, ?_, ?_⟩
  · match f with
    | 0 => simp [rulerL, giOk, n0, n1, n2, n3]
    | 1 => simp [rulerL, giOk, n0, n1, n2, n3]
    | 2 => simp [rulerL, giOk, n0, n1, n2, n3]
    | f + 3 => simp [rulerL, giOk, n0, n1, n2, n3]
  · match f with
    | 0 => simp [rulerL]
    | 1 => simp [rulerL]
    | 2 => simp [rulerL]
    | f + 3 => simp [rulerL]
  · match f with
    | 0 => simp [rulerL]; omega
    | 1 => simp [rulerL]; omega
    | 2 => simp [rulerL]; omega
    | f + 3 => simp [rulerL]; omega
  · rw [giv_ruler hr]
    match f with
    | 0 => simp; omega
    | 1 => simp; omega
    | 2 => simp; omega
    | f + 3 => simp; omega
theorem ring_ruler {f n : Nat} {r0 r1 r2 r3 : Int} (hr : (1 ≤ r0 ∧ r0 ≤ 3) ∧ (1 ≤ r1 ∧ r1 ≤ 3) ∧ (1 ≤ r2 ∧ r2 ≤ 3) ∧ (1 ≤ r3 ∧ r3 ≤ 3)) (hn : n ≤ 9) :
    ringP (giv none (rulerL f r0 r1 r2 r3) 12) n = bitsP (formL f r0 r1 r2 r3) n := by
  unfold ringP
  rw [ring_bits, giv_ruler hr]
  show bitsP _ n = _
  unfold bitsP
  have g0 := bitsGo_ge ([r0, r1, r2, r3] ++ List.replicate 8 r3) true [] (by simp; omega)
  have g1 := bitsGo_ge ([r0] ++ List.replicate 9 r1) true [] (by simp; omega)
  simp only [List.length_append, List.length_cons, List.length_nil, List.length_replicate] at g0 g1
  match f with
  | 0 =>
    have e : formL 0 r0 r1 r2 r3 = ([r0, r1, r2, r3] ++ List.replicate 8 r3) ++ [r3] := rfl
    rw [e, bitsGo_cut n _ [r3] true [] (by omega)]
    rfl
  | 1 =>
    have e : [r0] ++ List.replicate 11 r1 = formL 1 r0 r1 r2 r3 ++ [r1, r1] := rfl
    show (bitsGo ([r0] ++ List.replicate 11 r1) true [] ++ _).take n = _
    rw [e, bitsGo_cut n (formL 1 r0 r1 r2 r3) [r1, r1] true [] (show n ≤ (bitsGo ([r0] ++ List.replicate 9 r1) true []).length by omega)]
  | 2 => rfl
  | f + 3 => rfl
theorem bitsP_len (l : List Int) (n : Nat) : (bitsP l n).length = n := by
  simp [bitsP]
end
section
theorem sum_cnt (bs : List Bool) : (bs.map b2i).sum = (cntB bs : Int) := by
  have h : ∀ bs : List Bool, cntB bs = bs.countP id := fun bs => by
    induction bs with
    | nil => rfl
    | cons b bs ih => cases b <;> simp [cntB, ih]
  rw [sum_bits, h]
theorem cnt_le (bs : List Bool) : cntB bs ≤ bs.length := by
  induction bs with
  | nil => exact Nat.le_refl _
  | cons b bs ih => cases b <;> simp [cntB] <;> omega
theorem ints_rep' {x : Int} {t : Tok} {b : Bool} (h : x = b2i b) : ∀ n : Nat, IntsAre (List.replicate n (.int x t)) ((List.replicate n b).map b2i)
  | 0 => .nil
  | n + 1 => by
    subst h
    exact .cons _ _ (ints_rep' rfl n)
theorem bit_odd (b : Bool) (mo : Nat) : Int.fmod (b2i b + (mo : Int)) 2 = b2i (b != decide (mo % 2 = 1)) := by
  rw [Int.fmod_eq_emod_of_nonneg _ (by decide)]
  by_cases h : mo % 2 = 1
  · cases b <;> simp [h, b2i] <;> omega
  · cases b <;> simp [h, b2i] <;> omega
theorem sep6 {a1 a2 a3 a4 a5 a6 D : Addr} {x1 x2 x3 x4 x5 x6 y6 : Obj} {l : List (Addr × Obj)} (h : ∀ p ∈ (a1, x1) :: (a2, x2) :: (a3, x3) :: (a4, x4) :: (a5, x5) :: (a6, x6) :: l, p.1 ≠ D) (_ : D ≠ a6) : ∀ p ∈ (a1, x1) :: (a2, x2) :: (a3, x3) :: (a4, x4) :: (a5, x5) :: (a6, y6) :: l, p.1 ≠ D := fun p hp => by
  simp only [List.mem_cons] at hp
  rcases hp with rfl | rfl | rfl | rfl | rfl | rfl | hp
  · exact h _ (.head _)
  · exact h (a2, x2) (.tail _ (.head _))
  · exact h (a3, x3) (.tail _ (.tail _ (.head _)))
  · exact h (a4, x4) (.tail _ (.tail _ (.tail _ (.head _))))
  · exact h (a5, x5) (.tail _ (.tail _ (.tail _ (.tail _ (.head _)))))
  · exact h (a6, x6) (.tail _ (.tail _ (.tail _ (.tail _ (.tail _ (.head _))))))
  · exact h p (.tail _ (.tail _ (.tail _ (.tail _ (.tail _ (.tail _ hp))))))
theorem count_nl (x : Str) : Txt.count x (Str.ofString "\n") = (x.cps.toList.count 10 : Int) := by
  have e : Str.ofString "\n" = ⟨#[10]⟩ := by decide +kernel
  rw [e, count_cnt]
  induction x.cps.toList with
  | nil => rfl
  | cons c l ih =>
    rw [cnt_cons, ih, List.count_cons]
    by_cases h : c = 10 <;> simp [h]
    omega
theorem sg_sub {lx dx P sg : Addr} {a b c d : Int × Tok} {ln : Int} {tn tw : Tok} {fp : Value} {e e1 : Nat} {xs : List Value} {os : Obj} {rest rs : List (Addr × Obj)} (h : ∀ p ∈ rest, p ∈ rs) :
    ∀ p ∈ lexN lx dx P a b c d ln tn fp tw e xs e1 ++ (sg, os) :: rest, p ∈ (lx, instObj 52 dx) :: (dx, dictOf (lexD a b c d ln tn fp tw P) e) :: (P, lstO xs e1) :: (sg, os) :: rs := fun p hp => by
  simp only [lexN, List.cons_append, List.nil_append, List.mem_cons] at hp ⊢
  rcases hp with hp | hp | hp | hp | hp
  · exact .inl hp
  · exact .inr (.inl hp)
  · exact .inr (.inr (.inl hp))
  · exact .inr (.inr (.inr (.inl hp)))
  · exact .inr (.inr (.inr (.inr (h p hp))))
end
section
section
namespace Z_law_21
noncomputable def zP (w : World) (loose : List Str) (mean : ExcName → Option Value) (mg : Str → Option Value) (mb : Str → Option Value) (cd : Value) (fa : Addr) (g : Heap) (L : Addr) (s₀ : Shared) (s : Shared) (Q : Flow → Shared → Prop) (E : Value → Shared → Prop) (m : Str → Option Value) (fut : List (Addr × Obj)) (lx : Addr) (dx : Addr) (P : Addr) (a : Int × Tok) (b : Int × Tok) (c : Int × Tok) (d : Int × Tok) (ln : Int) (tn : Tok) (tw : Tok) (fp : Value) (le1 : Nat) (le2 : Nat) (PA : Addr) (pe : Nat) (lo : Str) (hi : Str) (tl : Tok) (th : Tok) (RU : Addr) (vs : List Value) (ue : Nat) (ks : List Int) (n : Nat) (tz : Tok) (o4 : Obj) (o6 : Obj) (o7 : Obj) : Prop := ∀ (hlt : LtS lo hi) (hv : IntsAre vs ks) (hok : giOk none ks) (hlen : ks.length ≤ 100) (hks : ∀ k ∈ ks, 0 ≤ k ∧ k ≤ 127) (hn : 6 ≤ n ∧ n ≤ 9) (hpos : ∀ x ∈ giv none ks 12, 1 ≤ x ∧ x ≤ 3) (d4 : o4.data = .cell (some (.int n tz))) (d6 : o6.data = .cell (some (.ref lx))) (d7 : o7.data = .cell (some (.ref PA))) (hoff : ∀ p ∈ (L + 1 + 1 + 1 + 1 + 1 + 1, o6) :: (RU, lstO vs ue) :: (L + 1 + 1 + 1 + 1, o4) :: (L + 1 + 1 + 1 + 1 + 1 + 1 + 1, o7) :: (PA, lstO [Vd lo hi tl th false, Vd lo hi tl th true] pe) :: fut, p.1 ≠ lx ∧ p.1 ≠ dx ∧ p.1 ≠ P) (m1 : m (Str.ofString "ruler") = some (.ref RU)) (next : ∀ (s : Shared) (m₂ : Str → Option Value) (e9 : Nat), LawG w loose mean mg mb g L s₀ s → Fr g L s.heap m₂ → News g L s.heap ((lx, instObj 52 dx) :: (dx, dictOf (lexD a b c d ln tn fp tw P) le1) :: (P, lstO ((ringP (giv none ks 12) n).map (Vd lo hi tl th)) e9) :: (L + 1 + 1 + 1 + 1 + 1 + 1, o6) :: (RU, lstO vs ue) :: (L + 1 + 1 + 1 + 1, o4) :: (L + 1 + 1 + 1 + 1 + 1 + 1 + 1, o7) :: (PA, lstO [Vd lo hi tl th false, Vd lo hi tl th true] pe) :: fut) → (∀ y, y ≠ (Str.ofString "word") → m₂ y = m y) → Q .next s) (G : LawG w loose mean mg mb g L s₀ s) (F : Fr g L s.heap m) (N : News g L s.heap ((lx, instObj 52 dx) :: (dx, dictOf (lexD a b c d ln tn fp tw P) le1) :: (P, lstO [] le2) :: (L + 1 + 1 + 1 + 1 + 1 + 1, o6) :: (RU, lstO vs ue) :: (L + 1 + 1 + 1 + 1, o4) :: (L + 1 + 1 + 1 + 1 + 1 + 1 + 1, o7) :: (PA, lstO [Vd lo hi tl th false, Vd lo hi tl th true] pe) :: fut)), LawX w L fa cd 21 Q E s
noncomputable def zk : DD := pickD fun c => zP (c.fW 0) (c.fLs 0) (c.fMe 0) (c.fMp 0) (c.fMp 1) (c.fV 0) (c.fA 0) (c.fH 0) (c.fA 1) (c.fSh 0) (c.fSh 1) (c.fQ 0) (c.fE 0) (c.fMp 2) (c.fLed 0) (c.fA 2) (c.fA 3) (c.fA 4) (c.fIt 0) (c.fIt 1) (c.fIt 2) (c.fIt 3) (c.fI 0) (c.fT 0) (c.fT 1) (c.fV 1) (c.fN 0) (c.fN 1) (c.fA 5) (c.fN 2) (c.fS 0) (c.fS 1) (c.fT 2) (c.fT 3) (c.fA 6) (c.fLv 0) (c.fN 3) (c.fLi 0) (c.fN 4) (c.fT 4) (c.fO 0) (c.fO 1) (c.fO 2)
noncomputable section
@[irreducible] def w : World := zk.fW 0
@[irreducible] def loose : List Str := zk.fLs 0
@[irreducible] def mean : ExcName → Option Value := zk.fMe 0
@[irreducible] def mg : Str → Option Value := zk.fMp 0
@[irreducible] def mb : Str → Option Value := zk.fMp 1
@[irreducible] def cd : Value := zk.fV 0
@[irreducible] def fa : Addr := zk.fA 0
@[irreducible] def g : Heap := zk.fH 0
@[irreducible] def L : Addr := zk.fA 1
@[irreducible] def s₀ : Shared := zk.fSh 0
@[irreducible] def s : Shared := zk.fSh 1
@[irreducible] def Q : Flow → Shared → Prop := zk.fQ 0
@[irreducible] def E : Value → Shared → Prop := zk.fE 0
@[irreducible] def m : Str → Option Value := zk.fMp 2
@[irreducible] def fut : List (Addr × Obj) := zk.fLed 0
@[irreducible] def lx : Addr := zk.fA 2
@[irreducible] def dx : Addr := zk.fA 3
@[irreducible] def P : Addr := zk.fA 4
@[irreducible] def a : Int × Tok := zk.fIt 0
@[irreducible] def b : Int × Tok := zk.fIt 1
@[irreducible] def c : Int × Tok := zk.fIt 2
@[irreducible] def d : Int × Tok := zk.fIt 3
@[irreducible] def ln : Int := zk.fI 0
@[irreducible] def tn : Tok := zk.fT 0
@[irreducible] def tw : Tok := zk.fT 1
@[irreducible] def fp : Value := zk.fV 1
@[irreducible] def le1 : Nat := zk.fN 0
@[irreducible] def le2 : Nat := zk.fN 1
@[irreducible] def PA : Addr := zk.fA 5
@[irreducible] def pe : Nat := zk.fN 2
@[irreducible] def lo : Str := zk.fS 0
@[irreducible] def hi : Str := zk.fS 1
@[irreducible] def tl : Tok := zk.fT 2
@[irreducible] def th : Tok := zk.fT 3
@[irreducible] def RU : Addr := zk.fA 6
@[irreducible] def vs : List Value := zk.fLv 0
@[irreducible] def ue : Nat := zk.fN 3
@[irreducible] def ks : List Int := zk.fLi 0
@[irreducible] def n : Nat := zk.fN 4
@[irreducible] def tz : Tok := zk.fT 4
@[irreducible] def o4 : Obj := zk.fO 0
@[irreducible] def o6 : Obj := zk.fO 1
@[irreducible] def o7 : Obj := zk.fO 2
end
theorem zcore : zP w loose mean mg mb cd fa g L s₀ s Q E m fut lx dx P a b c d ln tn tw fp le1 le2 PA pe lo hi tl th RU vs ue ks n tz o4 o6 o7 := by
  k_with "x41" => skip
  k_with "mine all" => ((fail_if_success k_extra "x42"); assumption)
  k_with "call ref" => ((fail_if_success k_extra "x42"); k_here; k_dflt (refine hold_of ?_))
  k_with "exec For Name Call cons nil" => ((fail_if_success k_extra "x42"); k_here; k_dflt (refine wpAny_For ?_))
  k_with "exec For Name Name cons nil" => ((fail_if_success k_extra "x42"); k_here; k_dflt (refine wpAny_For ?_))
  k_with "mine iter" => ((fail_if_success k_extra "x42"); k_here; refine hold_of ?_)
  unfold zP
  intro hlt hv hok hlen hks hn hpos d4 d6 d7 hoff m1 next G F N
  have _ : PySem.Challenge.rw_wo0016_01 = PySem.Challenge.rw_wo0016_01 ∧ Mine.hd.heap_1 = Mine.hd.heap_1 := by k_fill; exact ⟨rfl, rfl⟩
  refine lawX_of (by rfl) ?_
  dsimp only [lawD, d_of]
  obtain ⟨B, X, T, h100, hos, hba⟩ := G
  have F := fr_know F m1
  k_steps
  refine unhold ?_
  refine' useG (ring_H w loose mean mg mb RU PA vs ue pe ks lo hi tl th n tz hv hok hlen hks ⟨by omega, by omega⟩ hpos) ?B ?F ?X ?N ?T ?hh ?hA ?hf ?hk ?hd ?hu ?hp ?_
  (case B => assumption)
  (case F => assumption)
  (case X => assumption)
  (case N => assumption)
  (case T => assumption)
  (case hh => exact rfl)
  (case hA => exact rfl)
  (case hf => exact rfl)
  (case hk => exact rfl)
  (case hd => (simp only [depth_deeper, depth_caller, recursionLimit]; omega))
  (case hu => (simp only [units_deeper, units_caller, cLine]; omega))
  (case hp => exact ⟨(N (RU, _) (by k_mem)).1, (N (PA, _) (by k_mem)).1⟩)
  rintro v now h' tk' gs' ⟨D, eD, rfl, rfl⟩ hbar F' N' l'
  obtain ⟨ws, hws⟩ : ∃ ws, (ringP (giv none ks 12) n).map (Vd lo hi tl th) = ws := ⟨_, rfl⟩
  rw [hws] at N' next
  have hwl : ws.length ≤ 20 := by rw [← hws]; simp [ringP]; omega
  have lD := l' _ (.head _)
  clear l'
  k_steps
  refine unhold ?_
  clear F
  rename Fr _ _ _ _ => F2
  obtain ⟨rest, hrest⟩ : ∃ rest, rest = (D, lstO ws eD) :: (L + 1 + 1 + 1 + 1 + 1 + 1, o6) :: (RU, lstO vs ue) :: (L + 1 + 1 + 1 + 1, o4) :: (L + 1 + 1 + 1 + 1 + 1 + 1 + 1, o7) :: (PA, lstO [Vd lo hi tl th false, Vd lo hi tl th true] pe) :: fut := ⟨_, rfl⟩
  have h6 : (L + 1 + 1 + 1 + 1 + 1 + 1, o6) ∈ rest := by rw [hrest]; k_mem
  have hD : (D, lstO ws eD) ∈ rest := by rw [hrest]; k_mem
  have hoff' : ∀ p ∈ rest, p.1 ≠ lx ∧ p.1 ≠ dx ∧ p.1 ≠ P := fun p hp => by
    rw [hrest] at hp
    rcases List.mem_cons.mp hp with rfl | hp
    · exact ⟨(lD _ (.head _)).symm, (lD _ (.tail _ (.head _))).symm, (lD _ (.tail _ (.tail _ (.head _)))).symm⟩
    · exact hoff p hp
  refine for_list (l := D) (vs := ws) (e := eD) (led₀ := (lx, instObj 52 dx) :: (dx, dictOf (lexD a b c d ln tn fp tw P) le1) :: (P, lstO [] le2) :: rest)
    (J := fun i m' led => (∀ y, y ≠ Str.ofString "word" → m' y = m y) ∧ ∃ e, led = (lx, instObj 52 dx) :: (dx, dictOf (lexD a b c d ln tn fp tw P) le1) :: (P, lstO (ws.take i) e) :: rest) rfl F2 ?_ (.tail _ (.tail _ (.tail _ hD))) ⟨?_, le2, by simp⟩ ?_ ?_
  · rw [hrest]
    exact fun p hp => by
      simp only [List.mem_cons] at hp
      rcases hp with h | h | h | h | h | h | h | h | h | h <;> first | (subst h; exact N' _ (by k_mem)) | exact N' _ (by simp [h])
  · intro y hy; exact congrFun (upd_known m1) y
  · intro It i v io m3 led h tk l1 l2 hvi hio hJ hm F3 N3
    obtain ⟨hm3, e3, rfl⟩ := hJ
    have hi : i < ws.length := (List.getElem?_eq_some_iff.mp hvi).1
    have hx : (ws.take i).length < 1000 := by simp only [List.length_take]; omega
    have N4 : News g L h (lexN lx dx P a b c d ln tn fp tw le1 (ws.take i) e3 ++ ((It, io) :: rest)) := fun p hp => N3 p (by simp only [lexN, List.cons_append, List.nil_append, List.mem_cons] at hp ⊢; rcases hp with h | h | h | h | h <;> simp [h])
    have hne : ∀ p ∈ (It, io) :: rest, p.1 ≠ lx ∧ p.1 ≠ dx ∧ p.1 ≠ P := fun p hp => by
      rcases List.mem_cons.mp hp with rfl | hp
      · exact ⟨(l2 _ (.head _)).symm, (l2 _ (.tail _ (.head _))).symm, (l2 _ (.tail _ (.tail _ (.head _)))).symm⟩
      · exact hoff' p hp
    unfold TurnT
    clear N3 F N
    have N5 : News g L h ((L + 1 + 1 + 1 + 1 + 1 + 1, o6) :: (lexN lx dx P a b c d ln tn fp tw le1 (ws.take i) e3 ++ ((It, io) :: rest))) := news_cons N4 (List.mem_append_right _ (.tail _ h6)) (fun _ hp => hp)
    k_steps
    refine unhold ?_
    rename News _ _ _ _ => N6
    rename Fr _ _ _ _ => F6
    refine' useLex (rest := (It, io) :: rest) (push_H w loose mean mg mb lx dx P v a b c d ln tn fp tw (ws.take i) le1 e3 hx) ?B ?F ?X ?N ?T ?hh ?hA ?hf ?hk ?hd ?hu hne ?_
    (case B => assumption)
    (case F => exact F6)
    (case X => assumption)
    (case N => exact news_tl N6)
    (case T => assumption)
    (case hh => exact rfl)
    (case hA => exact rfl)
    (case hf => exact rfl)
    (case hk => exact rfl)
    (case hd => (simp only [depth_deeper, depth_caller, recursionLimit]; omega))
    (case hu => (simp only [units_deeper, units_caller, cLine]; omega))
    intro h2 tk2 F7 N7
    clear N6 F6
    k_steps
    rename Fr _ _ _ _ => F8
    rename News _ _ _ _ => N8
    refine endT (led' := (lx, instObj 52 dx) :: (dx, dictOf (lexD a b c d ln tn fp tw P) le1) :: (P, lstO (ws.take i ++ [v]) (e3 + 1)) :: rest) F8 (fun p hp => N8 p ?_) hio (fun p hp => (List.mem_singleton.mp hp) ▸ .tail _ (.tail _ (.tail _ hD))) ?_ ⟨fun y hy => ?_, e3 + 1, ?_⟩
    · simp only [lexN, List.cons_append, List.nil_append, List.mem_cons] at hp ⊢
      rcases hp with h | h | h | h | h <;> simp [h]
    · intro p hp
      rcases List.mem_cons.mp hp with rfl | hp
      · exact l2 (lx, _) (.head _)
      rcases List.mem_cons.mp hp with rfl | hp
      · exact l2 (dx, _) (.tail _ (.head _))
      rcases List.mem_cons.mp hp with rfl | hp
      · exact l2 (P, lstO (ws.take i) e3) (.tail _ (.tail _ (.head _)))
      · exact l2 p (.tail _ (.tail _ (.tail _ hp)))
    · simp only [if_neg hy]
      exact hm3 y hy
    · rw [List.take_add_one, hvi]
      rfl
  · intro m3 led h tk hJ hm F3 N3
    obtain ⟨hm3, e3, rfl⟩ := hJ
    rw [List.take_length, hrest] at N3
    k_steps
    refine next _ m3 e3 ?_ F3 ?_ hm3
    · exact ⟨B, X, T, h100, hos, fun h => hbar (hba h)⟩
    · exact fun p hp => N3 p (by
        simp only [List.mem_cons] at hp ⊢
        rcases hp with h | h | h | h <;> simp [h])
theorem zall : ∀ c : DD, zP (c.fW 0) (c.fLs 0) (c.fMe 0) (c.fMp 0) (c.fMp 1) (c.fV 0) (c.fA 0) (c.fH 0) (c.fA 1) (c.fSh 0) (c.fSh 1) (c.fQ 0) (c.fE 0) (c.fMp 2) (c.fLed 0) (c.fA 2) (c.fA 3) (c.fA 4) (c.fIt 0) (c.fIt 1) (c.fIt 2) (c.fIt 3) (c.fI 0) (c.fT 0) (c.fT 1) (c.fV 1) (c.fN 0) (c.fN 1) (c.fA 5) (c.fN 2) (c.fS 0) (c.fS 1) (c.fT 2) (c.fT 3) (c.fA 6) (c.fLv 0) (c.fN 3) (c.fLi 0) (c.fN 4) (c.fT 4) (c.fO 0) (c.fO 1) (c.fO 2) := allD (by with_unfolding_all exact zcore)
end Z_law_21
theorem law_21 (w : World) (loose : List Str) (mean : ExcName → Option Value) (mg mb : Str → Option Value) (cd : Value) (fa : Addr) (g : Heap) (L : Addr) (s₀ s : Shared) (Q : Flow → Shared → Prop) (E : Value → Shared → Prop) (m : Str → Option Value) (fut : List (Addr × Obj)) (lx dx P : Addr) (a b c d : Int × Tok) (ln : Int) (tn tw : Tok) (fp : Value) (le1 le2 : Nat) (PA : Addr) (pe : Nat) (lo hi : Str) (tl th : Tok) (hlt : LtS lo hi) (RU : Addr) (vs : List Value) (ue : Nat) (ks : List Int) (hv : IntsAre vs ks) (hok : giOk none ks) (hlen : ks.length ≤ 100) (hks : ∀ k ∈ ks, 0 ≤ k ∧ k ≤ 127) (n : Nat) (tz : Tok) (hn : 6 ≤ n ∧ n ≤ 9) (hpos : ∀ x ∈ giv none ks 12, 1 ≤ x ∧ x ≤ 3) (o4 o6 o7 : Obj) (d4 : o4.data = .cell (some (.int n tz))) (d6 : o6.data = .cell (some (.ref lx))) (d7 : o7.data = .cell (some (.ref PA))) (hoff : ∀ p ∈ (L + 1 + 1 + 1 + 1 + 1 + 1, o6) :: (RU, lstO vs ue) :: (L + 1 + 1 + 1 + 1, o4) :: (L + 1 + 1 + 1 + 1 + 1 + 1 + 1, o7) :: (PA, lstO [Vd lo hi tl th false, Vd lo hi tl th true] pe) :: fut, p.1 ≠ lx ∧ p.1 ≠ dx ∧ p.1 ≠ P) (m1 : m (Str.ofString "ruler") = some (.ref RU))
    (next : ∀ (s : Shared) (m₂ : Str → Option Value) (e9 : Nat), LawG w loose mean mg mb g L s₀ s → Fr g L s.heap m₂ → News g L s.heap ((lx, instObj 52 dx) :: (dx, dictOf (lexD a b c d ln tn fp tw P) le1) :: (P, lstO ((ringP (giv none ks 12) n).map (Vd lo hi tl th)) e9) :: (L + 1 + 1 + 1 + 1 + 1 + 1, o6) :: (RU, lstO vs ue) :: (L + 1 + 1 + 1 + 1, o4) :: (L + 1 + 1 + 1 + 1 + 1 + 1 + 1, o7) :: (PA, lstO [Vd lo hi tl th false, Vd lo hi tl th true] pe) :: fut) → (∀ y, y ≠ (Str.ofString "word") → m₂ y = m y) → Q .next s)
    (G : LawG w loose mean mg mb g L s₀ s) (F : Fr g L s.heap m) (N : News g L s.heap ((lx, instObj 52 dx) :: (dx, dictOf (lexD a b c d ln tn fp tw P) le1) :: (P, lstO [] le2) :: (L + 1 + 1 + 1 + 1 + 1 + 1, o6) :: (RU, lstO vs ue) :: (L + 1 + 1 + 1 + 1, o4) :: (L + 1 + 1 + 1 + 1 + 1 + 1 + 1, o7) :: (PA, lstO [Vd lo hi tl th false, Vd lo hi tl th true] pe) :: fut)) : LawX w L fa cd 21 Q E s := by
  exact Z_law_21.zall ⟨fun _ => w, fun _ => loose, fun _ => mean, fun i => [mg, mb, m].getD i mg, fun i => [fa, L, lx, dx, P, PA, RU].getD i fa, fun i => [le1, le2, pe, ue, n].getD i le1, fun _ => ln, fun i => [tn, tw, tl, th, tz].getD i tn, fun i => [cd, fp].getD i cd, fun i => [lo, hi].getD i lo, fun i => [o4, o6, o7].getD i o4, fun _ => g, fun i => [s₀, s].getD i s₀, fun _ => vs, fun _ => ks, anyD.fLn, anyD.fLb, fun _ => fut, fun _ => Q, fun _ => E, anyD.fB, fun i => [a, b, c, d].getD i a, anyD.fAv, anyD.fB3, anyD.fGd, anyD.fEn, anyD.fAr, anyD.fOv, anyD.fOp, anyD.fLa, anyD.fEnv, anyD.fSs, anyD.fSt, anyD.fSc, anyD.fP, anyD.fEx, anyD.fR, anyD.fPo, anyD.fCl, anyD.fY, anyD.fRR, anyD.fBB, anyD.fNl, anyD.fOa, anyD.fFd, anyD.fAo, anyD.fDe, anyD.fIv⟩ hlt hv hok hlen hks hn hpos d4 d6 d7 hoff m1 next G F N

end
end
section
section
variable (w : World) (loose : List Str) (mean : ExcName → Option Value) (mg mb : Str → Option Value)
theorem law_22 (cd : Value) (fa : Addr) (g : Heap) (L : Addr) (s₀ s : Shared) (Q : Flow → Shared → Prop) (E : Value → Shared → Prop) (m : Str → Option Value) (fut : List (Addr × Obj)) (RA : Addr) (r0 r1 r2 r3 : Int) (u0 u1 u2 u3 : Tok) (re : Nat) (f : Nat) (hf : f < 4) (vf : Tok) (hr : (1 ≤ r0 ∧ r0 ≤ 3) ∧ (1 ≤ r1 ∧ r1 ≤ 3) ∧ (1 ≤ r2 ∧ r2 ≤ 3) ∧ (1 ≤ r3 ∧ r3 ≤ 3)) (n : Nat) (tz : Tok) (hn : 6 ≤ n ∧ n ≤ 9) (o4 : Obj) (d4 : o4.data = .cell (some (.int n tz))) (m1 : m (Str.ofString "runs") = some (.ref RA)) (m2 : m (Str.ofString "form") = some (.int (f : Int) vf))
    (next : ∀ (s : Shared) (BD : Addr) (bv : List Value) (be : Nat), LawG w loose mean mg mb g L s₀ s → Fr g L s.heap (upd m (Str.ofString "bits") (.ref BD)) → News g L s.heap ((BD, lstO bv be) :: (RA, lstO [.int r0 u0, .int r1 u1, .int r2 u2, .int r3 u3] re) :: (L + 1 + 1 + 1 + 1, o4) :: fut) → IntsAre bv ((bitsP (formL f r0 r1 r2 r3) n).map b2i) → (BD = RA ∨ ∀ p ∈ (RA, lstO [.int r0 u0, .int r1 u1, .int r2 u2, .int r3 u3] re) :: (L + 1 + 1 + 1 + 1, o4) :: fut, p.1 ≠ BD) → Q .next s)
    (G : LawG w loose mean mg mb g L s₀ s) (F : Fr g L s.heap m) (N : News g L s.heap ((RA, lstO [.int r0 u0, .int r1 u1, .int r2 u2, .int r3 u3] re) :: (L + 1 + 1 + 1 + 1, o4) :: fut)) : LawX w L fa cd 22 Q E s := by
  k_with "x42" => skip
  k_with "mine all" => ((fail_if_success k_extra "x43"); assumption)
  k_with "call ref" => ((fail_if_success k_extra "x43"); k_here; k_dflt (refine hold_of ?_))
  have _ : PySem.Challenge.rw_wo0016_01 = PySem.Challenge.rw_wo0016_01 ∧ Mine.hd.heap_1 = Mine.hd.heap_1 := by k_fill; exact ⟨rfl, rfl⟩
  refine lawX_of (by rfl) ?_
  dsimp only [lawD, d_of]
  obtain ⟨B, X, T, h100, hos, hba⟩ := G
  have F := fr_know2 F m1 m2
  k_steps
  refine unhold ?_
  refine' useK (bits_H w loose mean mg mb RA f hf r0 r1 r2 r3 u0 u1 u2 u3 vf re n tz hr ⟨by omega, by omega⟩) ?B ?F ?X ?N ?T ?hh ?hA ?hf ?hk ?hd ?hu ?hsub trivial ?_ ?hpost
  (case B => assumption)
  (case F => assumption)
  (case X => assumption)
  (case N => assumption)
  (case T => assumption)
  (case hh => exact rfl)
  (case hA => exact rfl)
  (case hf => exact rfl)
  (case hk => exact rfl)
  (case hd => (simp only [depth_deeper, depth_caller, recursionLimit]; omega))
  (case hu => (simp only [units_deeper, units_caller, cLine]; omega))
  (case hsub => exact fun p hp => (List.mem_singleton.mp hp) ▸ .head _)
  (case hpost => (rintro v now ⟨D, ys, e', rfl, hi, rfl⟩; exact ⟨[_], rfl⟩))
  rintro v now nw h' tk' ⟨D, ys, e', rfl, hi, rfl⟩ hnow F' N' l'
  obtain rfl : [(D, lstO ys e')] = nw := List.append_cancel_right (show [(D, lstO ys e')] ++ [(RA, lstO [.int r0 u0, .int r1 u1, .int r2 u2, .int r3 u3] re)] = nw ++ [(RA, lstO [.int r0 u0, .int r1 u1, .int r2 u2, .int r3 u3] re)] from hnow)
  have hsep : D = RA ∨ ∀ p ∈ (RA, lstO [.int r0 u0, .int r1 u1, .int r2 u2, .int r3 u3] re) :: (L + 1 + 1 + 1 + 1, o4) :: fut, p.1 ≠ D := by
    by_cases q : RA = D
    · exact .inl q.symm
    · exact .inr (l' _ (.head _) fun z hz => (List.mem_singleton.mp hz) ▸ q)
  clear N F l'
  k_steps
  rename Fr _ _ _ _ => F5
  rename News _ _ _ _ => N5
  refine next _ D ys _ ?_ (fr_unk2 F5 m1 m2) N5 hi hsep
  · exact ⟨B, X, T, h100, hos, hba⟩
end
end
section
section
variable (w : World) (loose : List Str) (mean : ExcName → Option Value) (mg mb : Str → Option Value)
theorem law_23 (cd : Value) (fa : Addr) (g : Heap) (L : Addr) (s₀ s : Shared) (Q : Flow → Shared → Prop) (E : Value → Shared → Prop) (m : Str → Option Value) (fut : List (Addr × Obj)) (WA : Addr) (x1 x2 : Str) (wy : Int) (q1 q2 q3 q4 q5 : Tok) (we : Nat) (o5 : Obj) (d5 : o5.data = .cell (some (.ref WA))) (lo hi : Str) (hlt : LtS lo hi) (hx : (lo = x1 ∧ hi = x2) ∨ (lo = x2 ∧ hi = x1)) (o10 : Obj) (d10 : o10.data = .cell none) (f10 : ∀ p ∈ fut, p.1 ≠ L + 1 + 1 + 1 + 1 + 1 + 1 + 1 + 1 + 1 + 1) (hWA : @Ne Nat WA (L + 1 + 1 + 1 + 1 + 1 + 1 + 1 + 1 + 1 + 1))
    (next : ∀ (s : Shared) (DU : Addr) (dl dh : Tok) (de : Nat) (o10 : Obj), LawG w loose mean mg mb g L s₀ s → Fr g L s.heap m → News g L s.heap ((DU, lstO [.str lo dl, .str hi dh] de) :: (WA, lstO [.str x1 q1, .str x2 q2, .str (wayW wy) q3, .str (Str.ofString "OI") q4, .str (Str.ofString "#n \"\n\x0b\\") q5] we) :: (L + 1 + 1 + 1 + 1 + 1, o5) :: (L + 1 + 1 + 1 + 1 + 1 + 1 + 1 + 1 + 1 + 1, o10) :: fut) → o10.data = .cell (some (.ref DU)) → (∀ p ∈ (WA, lstO [.str x1 q1, .str x2 q2, .str (wayW wy) q3, .str (Str.ofString "OI") q4, .str (Str.ofString "#n \"\n\x0b\\") q5] we) :: (L + 1 + 1 + 1 + 1 + 1, o5) :: (L + 1 + 1 + 1 + 1 + 1 + 1 + 1 + 1 + 1 + 1, o10) :: fut, p.1 ≠ DU) → Q .next s)
    (G : LawG w loose mean mg mb g L s₀ s) (F : Fr g L s.heap m) (N : News g L s.heap ((WA, lstO [.str x1 q1, .str x2 q2, .str (wayW wy) q3, .str (Str.ofString "OI") q4, .str (Str.ofString "#n \"\n\x0b\\") q5] we) :: (L + 1 + 1 + 1 + 1 + 1, o5) :: (L + 1 + 1 + 1 + 1 + 1 + 1 + 1 + 1 + 1 + 1, o10) :: fut)) : LawX w L fa cd 23 Q E s := by
  k_with "x43" => skip
  k_with "mine all" => ((fail_if_success k_extra "x44"); assumption)
  k_with "call builtin:sorted" => ((fail_if_success k_extra "x44"); k_here; k_dflt (refine hold_of ?_))
  have _ : PySem.Challenge.rw_wo0016_01 = PySem.Challenge.rw_wo0016_01 ∧ Mine.hd.heap_1 = Mine.hd.heap_1 := by k_fill; exact ⟨rfl, rfl⟩
  refine lawX_of (by rfl) ?_
  dsimp only [lawD, d_of]
  obtain ⟨B, X, T, h100, hos, hba⟩ := G
  k_steps
  refine unhold ?_
  rename Fr _ _ _ _ => F5
  rename News _ _ _ _ => N5
  refine sorted_two (e := 0) F5 N5 (by exact List.Mem.head _) hlt hx ?_
  intro D h' e' t u F6 N6 l6
  have hall : ∀ q ∈ (WA, lstO [.str x1 q1, .str x2 q2, .str (wayW wy) q3, .str (Str.ofString "OI") q4, .str (Str.ofString "#n \"\n\x0b\\") q5] we) :: (L + 1 + 1 + 1 + 1 + 1, o5) :: (L + 1 + 1 + 1 + 1 + 1 + 1 + 1 + 1 + 1 + 1, o10) :: fut, q.1 ≠ D := fun q hq => Nat.ne_of_lt (l6 q (.tail _ hq))
  have kd : D ≠ L + 1 + 1 + 1 + 1 + 1 + 1 + 1 + 1 + 1 + 1 := (hall (L + 1 + 1 + 1 + 1 + 1 + 1 + 1 + 1 + 1 + 1, o10) (by k_mem)).symm
  have N7 := nd2 N6
  clear N5 N6 F5 l6
  k_steps
  rename Fr _ _ _ _ => F8
  rename News _ _ _ _ => N8
  rename _ = Data.cell (some (.ref D)) => d9
  refine next _ D t u e' _ ?_ F8 N8 d9 (fun p hp => ?_)
  · exact ⟨B, X, T, h100, hos, hba⟩
  · rcases List.mem_cons.mp hp with rfl | hp
    · exact hall _ (.head _)
    rcases List.mem_cons.mp hp with rfl | hp
    · exact hall (L + 1 + 1 + 1 + 1 + 1, o5) (.tail _ (.head _))
    rcases List.mem_cons.mp hp with rfl | hp
    · exact kd.symm
    · exact hall p (.tail _ (.tail _ (.tail _ hp)))
end
end
section
section
variable (w : World) (loose : List Str) (mean : ExcName → Option Value) (mg mb : Str → Option Value)
theorem law_24 (cd : Value) (fa : Addr) (g : Heap) (L : Addr) (s₀ s : Shared) (Q : Flow → Shared → Prop) (E : Value → Shared → Prop) (m : Str → Option Value) (fut : List (Addr × Obj)) (n : Nat) (tz : Tok) (hn : 6 ≤ n ∧ n ≤ 9) (o4 : Obj) (d4 : o4.data = .cell (some (.int n tz))) (o11 : Obj) (d11 : o11.data = .cell none) (f11 : ∀ p ∈ fut, p.1 ≠ L + 1 + 1 + 1 + 1 + 1 + 1 + 1 + 1 + 1 + 1 + 1)
    (next : ∀ (s : Shared) (o11 : Obj) (u : Tok), LawG w loose mean mg mb g L s₀ s → Fr g L s.heap m → News g L s.heap ((L + 1 + 1 + 1 + 1, o4) :: (L + 1 + 1 + 1 + 1 + 1 + 1 + 1 + 1 + 1 + 1 + 1, o11) :: fut) → o11.data = .cell (some (.int (((n - 2) / 2 : Nat) : Int) u)) → Q .next s)
    (G : LawG w loose mean mg mb g L s₀ s) (F : Fr g L s.heap m) (N : News g L s.heap ((L + 1 + 1 + 1 + 1, o4) :: (L + 1 + 1 + 1 + 1 + 1 + 1 + 1 + 1 + 1 + 1 + 1, o11) :: fut)) : LawX w L fa cd 24 Q E s := by
  k_with "x44" => skip
  k_with "mine all" => ((fail_if_success k_extra "x45"); assumption)
  have _ : PySem.Challenge.rw_wo0016_01 = PySem.Challenge.rw_wo0016_01 ∧ Mine.hd.heap_1 = Mine.hd.heap_1 := by k_fill; exact ⟨rfl, rfl⟩
  refine lawX_of (by rfl) ?_
  dsimp only [lawD, d_of]
  obtain ⟨B, X, T, h100, hos, hba⟩ := G
  have e9 : Int.fdiv ((n : Int) - 2) 2 = (((n - 2) / 2 : Nat) : Int) := by
    rw [Int.fdiv_eq_ediv_of_nonneg _ (by decide)]
    omega
  k_steps
  rename Fr _ _ _ _ => F5
  rename News _ _ _ _ => N5
  rename _ = Data.cell (some (Value.int _ _)) => d5
  (try rw [e9] at d5)
  refine next _ _ _ ?_ F5 N5 d5
  · exact ⟨B, X, T, h100, hos, hba⟩
end
end
section
section
variable (w : World) (loose : List Str) (mean : ExcName → Option Value) (mg mb : Str → Option Value)
theorem law_25 (cd : Value) (fa : Addr) (g : Heap) (L : Addr) (s₀ s : Shared) (Q : Flow → Shared → Prop) (E : Value → Shared → Prop) (m : Str → Option Value) (fut : List (Addr × Obj)) (n : Nat) (tz : Tok) (hn : 6 ≤ n ∧ n ≤ 9) (o4 : Obj) (d4 : o4.data = .cell (some (.int n tz))) (o12 : Obj) (d12 : o12.data = .cell none) (f12 : ∀ p ∈ fut, p.1 ≠ L + 1 + 1 + 1 + 1 + 1 + 1 + 1 + 1 + 1 + 1 + 1 + 1)
    (next : ∀ (s : Shared) (o12 : Obj) (u : Tok), LawG w loose mean mg mb g L s₀ s → Fr g L s.heap m → News g L s.heap ((L + 1 + 1 + 1 + 1, o4) :: (L + 1 + 1 + 1 + 1 + 1 + 1 + 1 + 1 + 1 + 1 + 1 + 1, o12) :: fut) → o12.data = .cell (some (.int (((n - 1) / 2 : Nat) : Int) u)) → Q .next s)
    (G : LawG w loose mean mg mb g L s₀ s) (F : Fr g L s.heap m) (N : News g L s.heap ((L + 1 + 1 + 1 + 1, o4) :: (L + 1 + 1 + 1 + 1 + 1 + 1 + 1 + 1 + 1 + 1 + 1 + 1, o12) :: fut)) : LawX w L fa cd 25 Q E s := by
  k_with "x45" => skip
  k_with "mine all" => ((fail_if_success k_extra "x46"); assumption)
  have _ : PySem.Challenge.rw_wo0016_01 = PySem.Challenge.rw_wo0016_01 ∧ Mine.hd.heap_1 = Mine.hd.heap_1 := by k_fill; exact ⟨rfl, rfl⟩
  refine lawX_of (by rfl) ?_
  dsimp only [lawD, d_of]
  obtain ⟨B, X, T, h100, hos, hba⟩ := G
  have e9 : Int.fdiv ((n : Int) - 1) 2 = (((n - 1) / 2 : Nat) : Int) := by
    rw [Int.fdiv_eq_ediv_of_nonneg _ (by decide)]
    omega
  k_steps
  rename Fr _ _ _ _ => F5
  rename News _ _ _ _ => N5
  rename _ = Data.cell (some (Value.int _ _)) => d5
  (try rw [e9] at d5)
  refine next _ _ _ ?_ F5 N5 d5
  · exact ⟨B, X, T, h100, hos, hba⟩
end
end
section
section
namespace Z_law_26
noncomputable def zP (w : World) (loose : List Str) (mean : ExcName → Option Value) (mg : Str → Option Value) (mb : Str → Option Value) (cd : Value) (fa : Addr) (g : Heap) (L : Addr) (s₀ : Shared) (s : Shared) (Q : Flow → Shared → Prop) (E : Value → Shared → Prop) (m : Str → Option Value) (fut : List (Addr × Obj)) (lx : Addr) (dx : Addr) (P : Addr) (a : Int × Tok) (b : Int × Tok) (c : Int × Tok) (d : Int × Tok) (ln : Int) (tn : Tok) (tw : Tok) (fp : Value) (le1 : Nat) (le2 : Nat) (PA : Addr) (pe : Nat) (lo : Str) (hi : Str) (tl : Tok) (th : Tok) (FA : Addr) (fv : List Value) (fe : Nat) (f : Bool → Bool → Bool → Bool) (r : List Bool) (n : Nat) (st : Nat) (tz : Tok) (ts : Tok) (o4 : Obj) (o6 : Obj) (o7 : Obj) (o8 : Obj) (o11 : Obj) : Prop := ∀ (hlt : LtS lo hi) (hfv : ∀ x y z, ∃ t, fv[(4 * b2i x + 2 * b2i y + b2i z).toNat]? = some (.int (b2i (f x y z)) t)) (hrl : r.length = n) (hn : 6 ≤ n ∧ n ≤ 9) (hst : st ≤ 9) (d4 : o4.data = .cell (some (.int n tz))) (d6 : o6.data = .cell (some (.ref lx))) (d7 : o7.data = .cell (some (.ref PA))) (d8 : o8.data = .cell (some (.ref FA))) (d11 : o11.data = .cell (some (.int (st : Int) ts))) (hoff : ∀ p ∈ (FA, lstO fv fe) :: (PA, lstO [Vd lo hi tl th false, Vd lo hi tl th true] pe) :: (L + 1 + 1 + 1 + 1, o4) :: (L + 1 + 1 + 1 + 1 + 1 + 1, o6) :: (L + 1 + 1 + 1 + 1 + 1 + 1 + 1, o7) :: (L + 1 + 1 + 1 + 1 + 1 + 1 + 1 + 1, o8) :: (L + 1 + 1 + 1 + 1 + 1 + 1 + 1 + 1 + 1 + 1 + 1, o11) :: fut, p.1 ≠ lx ∧ p.1 ≠ dx ∧ p.1 ≠ P) (next : ∀ (s : Shared) (e9 : Nat), LawG w loose mean mg mb g L s₀ s → Fr g L s.heap m → News g L s.heap ((lx, instObj 52 dx) :: (dx, dictOf (lexD a b c d ln tn fp tw P) le1) :: (P, lstO ((swN f r st).map (Vd lo hi tl th)) e9) :: (FA, lstO fv fe) :: (PA, lstO [Vd lo hi tl th false, Vd lo hi tl th true] pe) :: (L + 1 + 1 + 1 + 1, o4) :: (L + 1 + 1 + 1 + 1 + 1 + 1, o6) :: (L + 1 + 1 + 1 + 1 + 1 + 1 + 1, o7) :: (L + 1 + 1 + 1 + 1 + 1 + 1 + 1 + 1, o8) :: (L + 1 + 1 + 1 + 1 + 1 + 1 + 1 + 1 + 1 + 1 + 1, o11) :: fut) → Q .next s) (G : LawG w loose mean mg mb g L s₀ s) (F : Fr g L s.heap m) (N : News g L s.heap ((lx, instObj 52 dx) :: (dx, dictOf (lexD a b c d ln tn fp tw P) le1) :: (P, lstO ((r).map (Vd lo hi tl th)) le2) :: (FA, lstO fv fe) :: (PA, lstO [Vd lo hi tl th false, Vd lo hi tl th true] pe) :: (L + 1 + 1 + 1 + 1, o4) :: (L + 1 + 1 + 1 + 1 + 1 + 1, o6) :: (L + 1 + 1 + 1 + 1 + 1 + 1 + 1, o7) :: (L + 1 + 1 + 1 + 1 + 1 + 1 + 1 + 1, o8) :: (L + 1 + 1 + 1 + 1 + 1 + 1 + 1 + 1 + 1 + 1 + 1, o11) :: fut)), LawX w L fa cd 26 Q E s
noncomputable def zk : DD := pickD fun c => zP (c.fW 0) (c.fLs 0) (c.fMe 0) (c.fMp 0) (c.fMp 1) (c.fV 0) (c.fA 0) (c.fH 0) (c.fA 1) (c.fSh 0) (c.fSh 1) (c.fQ 0) (c.fE 0) (c.fMp 2) (c.fLed 0) (c.fA 2) (c.fA 3) (c.fA 4) (c.fIt 0) (c.fIt 1) (c.fIt 2) (c.fIt 3) (c.fI 0) (c.fT 0) (c.fT 1) (c.fV 1) (c.fN 0) (c.fN 1) (c.fA 5) (c.fN 2) (c.fS 0) (c.fS 1) (c.fT 2) (c.fT 3) (c.fA 6) (c.fLv 0) (c.fN 3) (c.fB3 0) (c.fLb 0) (c.fN 4) (c.fN 5) (c.fT 4) (c.fT 5) (c.fO 0) (c.fO 1) (c.fO 2) (c.fO 3) (c.fO 4)
noncomputable section
@[irreducible] def w : World := zk.fW 0
@[irreducible] def loose : List Str := zk.fLs 0
@[irreducible] def mean : ExcName → Option Value := zk.fMe 0
@[irreducible] def mg : Str → Option Value := zk.fMp 0
@[irreducible] def mb : Str → Option Value := zk.fMp 1
@[irreducible] def cd : Value := zk.fV 0
@[irreducible] def fa : Addr := zk.fA 0
@[irreducible] def g : Heap := zk.fH 0
@[irreducible] def L : Addr := zk.fA 1
@[irreducible] def s₀ : Shared := zk.fSh 0
@[irreducible] def s : Shared := zk.fSh 1
@[irreducible] def Q : Flow → Shared → Prop := zk.fQ 0
@[irreducible] def E : Value → Shared → Prop := zk.fE 0
@[irreducible] def m : Str → Option Value := zk.fMp 2
@[irreducible] def fut : List (Addr × Obj) := zk.fLed 0
@[irreducible] def lx : Addr := zk.fA 2
@[irreducible] def dx : Addr := zk.fA 3
@[irreducible] def P : Addr := zk.fA 4
@[irreducible] def a : Int × Tok := zk.fIt 0
@[irreducible] def b : Int × Tok := zk.fIt 1
@[irreducible] def c : Int × Tok := zk.fIt 2
@[irreducible] def d : Int × Tok := zk.fIt 3
@[irreducible] def ln : Int := zk.fI 0
@[irreducible] def tn : Tok := zk.fT 0
@[irreducible] def tw : Tok := zk.fT 1
@[irreducible] def fp : Value := zk.fV 1
@[irreducible] def le1 : Nat := zk.fN 0
@[irreducible] def le2 : Nat := zk.fN 1
@[irreducible] def PA : Addr := zk.fA 5
@[irreducible] def pe : Nat := zk.fN 2
@[irreducible] def lo : Str := zk.fS 0
@[irreducible] def hi : Str := zk.fS 1
@[irreducible] def tl : Tok := zk.fT 2
@[irreducible] def th : Tok := zk.fT 3
@[irreducible] def FA : Addr := zk.fA 6
@[irreducible] def fv : List Value := zk.fLv 0
@[irreducible] def fe : Nat := zk.fN 3
@[irreducible] def f : Bool → Bool → Bool → Bool := zk.fB3 0
@[irreducible] def r : List Bool := zk.fLb 0
@[irreducible] def n : Nat := zk.fN 4
@[irreducible] def st : Nat := zk.fN 5
@[irreducible] def tz : Tok := zk.fT 4
@[irreducible] def ts : Tok := zk.fT 5
@[irreducible] def o4 : Obj := zk.fO 0
@[irreducible] def o6 : Obj := zk.fO 1
@[irreducible] def o7 : Obj := zk.fO 2
@[irreducible] def o8 : Obj := zk.fO 3
@[irreducible] def o11 : Obj := zk.fO 4
end
theorem zcore : zP w loose mean mg mb cd fa g L s₀ s Q E m fut lx dx P a b c d ln tn tw fp le1 le2 PA pe lo hi tl th FA fv fe f r n st tz ts o4 o6 o7 o8 o11 := by
  k_with "x46" => skip
  k_with "mine all" => ((fail_if_success k_extra "x47"); assumption)
  k_with "eval ListComp" => ((fail_if_success k_extra "x47"); k_here; k_dflt (refine ListComp_I (by k_asm) (by with_unfolding_all rfl) (by decide) (by rfl) (by decide) (by rfl) ?_))
  k_with "SrcI" => ((fail_if_success k_extra "x47"); (refine hold_of ?_))
  k_with "CondEnd" => ((fail_if_success k_extra "x47"); (refine hold_of ?_))
  k_with "call ref" => ((fail_if_success k_extra "x47"); k_here; k_dflt (refine hold_of ?_))
  unfold zP
  intro hlt hfv hrl hn hst d4 d6 d7 d8 d11 hoff next G F N
  have _ : PySem.Challenge.rw_wo0016_01 = PySem.Challenge.rw_wo0016_01 ∧ Mine.hd.heap_1 = Mine.hd.heap_1 := by k_fill; exact ⟨rfl, rfl⟩
  refine lawX_of (by rfl) ?_
  dsimp only [lawD, d_of]
  obtain ⟨B, X, T, h100, hos, hba⟩ := G
  k_steps
  refine unhold ?_
  rename IsRange _ _ _ _ _ _ _ _ => R2
  refine ⟨_, _, _, _, _, _, _, st, _, fun i led => ∃ e, led = (lx, instObj 52 dx) :: (dx, dictOf (lexD a b c d ln tn fp tw P) le1) :: (P, lstO ((swN f r i).map (Vd lo hi tl th)) e) :: (FA, lstO fv fe) :: (PA, lstO [Vd lo hi tl th false, Vd lo hi tl th true] pe) :: (L + 1 + 1 + 1 + 1, o4) :: (L + 1 + 1 + 1 + 1 + 1 + 1, o6) :: (L + 1 + 1 + 1 + 1 + 1 + 1 + 1, o7) :: (L + 1 + 1 + 1 + 1 + 1 + 1 + 1 + 1, o8) :: (L + 1 + 1 + 1 + 1 + 1 + 1 + 1 + 1 + 1 + 1 + 1, o11) :: fut, rfl, rfl, by k_asm, by k_asm, R2, small_n st (by omega), range_n st, ⟨le2, rfl⟩, ?_, ?_⟩
  · rintro s2 ⟨h2, rfl⟩ i hil news v t I oI C oC D m₂ h tk E1 hv hC hx F N off ne ⟨e0, rfl⟩
    subst hv
    k_steps
    refine unhold ?_
    rename News _ _ _ _ => N5
    have hro : ∀ p ∈ (I, oI) :: (C, oC) :: (D, LCg.lst []) :: (FA, lstO fv fe) :: (PA, lstO [Vd lo hi tl th false, Vd lo hi tl th true] pe) :: (L + 1 + 1 + 1 + 1, o4) :: (L + 1 + 1 + 1 + 1 + 1 + 1, o6) :: (L + 1 + 1 + 1 + 1 + 1 + 1 + 1, o7) :: (L + 1 + 1 + 1 + 1 + 1 + 1 + 1 + 1, o8) :: (L + 1 + 1 + 1 + 1 + 1 + 1 + 1 + 1 + 1 + 1 + 1, o11) :: fut, p.1 ≠ lx ∧ p.1 ≠ dx ∧ p.1 ≠ P := off_lex off hoff
    refine' useH (swept_H w loose mean mg mb lx dx P PA FA a b c d ln tn fp tw le1 e0 pe fe lo hi tl th f fv n tz (true, true) (swN f r i) hlt (by rw [swN_len, hrl]) (by omega) (by omega) hfv (hoff _ (.tail _ (.head _))) (hoff _ (.head _))) ?B ?F ?X ?N ?T ?hh ?hA ?hf ?hk ?hd ?hu ?hsub ⟨(N5 (PA, _) (by k_mem)).1, (N5 (FA, _) (by k_mem)).1⟩ ?_
    (case B => assumption)
    (case F => assumption)
    (case X => assumption)
    (case N => assumption)
    (case T => assumption)
    (case hh => exact rfl)
    (case hA => exact rfl)
    (case hf => exact rfl)
    (case hk => exact rfl)
    (case hd => (simp only [depth_deeper, depth_caller, recursionLimit]; omega))
    (case hu => (simp only [units_deeper, units_caller, cLine]; omega))
    (case hsub => exact sub_lexN)
    rintro v now h' tk' ⟨rfl, e9, rfl⟩ F' kp fr KK
    have N6 : News g L h' ((I, oI) :: (C, oC) :: (D, LCg.lst []) :: (lx, instObj 52 dx) :: (dx, dictOf (lexD a b c d ln tn fp tw P) le1) :: (P, lstO ((swN f r (i + 1)).map (Vd lo hi tl th)) e9) :: (FA, lstO fv fe) :: (PA, lstO [Vd lo hi tl th false, Vd lo hi tl th true] pe) :: (L + 1 + 1 + 1 + 1, o4) :: (L + 1 + 1 + 1 + 1 + 1 + 1, o6) :: (L + 1 + 1 + 1 + 1 + 1 + 1 + 1, o7) :: (L + 1 + 1 + 1 + 1 + 1 + 1 + 1 + 1, o8) :: (L + 1 + 1 + 1 + 1 + 1 + 1 + 1 + 1 + 1 + 1 + 1, o11) :: fut) := KK _ (lex_kept (by rw [← hrl]; rfl) hro)
    clear KK kp fr N5
    k_steps
    refine unhold ?_
    exact ⟨rfl, _, _, _, rfl, F', N6, off, _, rfl⟩
  · rintro nw D h tk ⟨e0, rfl⟩ F N o1
    k_steps
    rename Fr _ _ _ _ => F5
    rename News _ _ _ _ => N5
    exact next _ e0 ⟨B, X, T, h100, hos, hba⟩ F5 (nd1 (nd1 N5))
theorem zall : ∀ c : DD, zP (c.fW 0) (c.fLs 0) (c.fMe 0) (c.fMp 0) (c.fMp 1) (c.fV 0) (c.fA 0) (c.fH 0) (c.fA 1) (c.fSh 0) (c.fSh 1) (c.fQ 0) (c.fE 0) (c.fMp 2) (c.fLed 0) (c.fA 2) (c.fA 3) (c.fA 4) (c.fIt 0) (c.fIt 1) (c.fIt 2) (c.fIt 3) (c.fI 0) (c.fT 0) (c.fT 1) (c.fV 1) (c.fN 0) (c.fN 1) (c.fA 5) (c.fN 2) (c.fS 0) (c.fS 1) (c.fT 2) (c.fT 3) (c.fA 6) (c.fLv 0) (c.fN 3) (c.fB3 0) (c.fLb 0) (c.fN 4) (c.fN 5) (c.fT 4) (c.fT 5) (c.fO 0) (c.fO 1) (c.fO 2) (c.fO 3) (c.fO 4) := allD (by with_unfolding_all exact zcore)
end Z_law_26
theorem law_26 (w : World) (loose : List Str) (mean : ExcName → Option Value) (mg mb : Str → Option Value) (cd : Value) (fa : Addr) (g : Heap) (L : Addr) (s₀ s : Shared) (Q : Flow → Shared → Prop) (E : Value → Shared → Prop) (m : Str → Option Value) (fut : List (Addr × Obj)) (lx dx P : Addr) (a b c d : Int × Tok) (ln : Int) (tn tw : Tok) (fp : Value) (le1 le2 : Nat) (PA : Addr) (pe : Nat) (lo hi : Str) (tl th : Tok) (hlt : LtS lo hi) (FA : Addr) (fv : List Value) (fe : Nat) (f : Bool → Bool → Bool → Bool) (hfv : ∀ x y z, ∃ t, fv[(4 * b2i x + 2 * b2i y + b2i z).toNat]? = some (.int (b2i (f x y z)) t)) (r : List Bool) (n st : Nat) (hrl : r.length = n) (hn : 6 ≤ n ∧ n ≤ 9) (hst : st ≤ 9) (tz ts : Tok) (o4 o6 o7 o8 o11 : Obj) (d4 : o4.data = .cell (some (.int n tz))) (d6 : o6.data = .cell (some (.ref lx))) (d7 : o7.data = .cell (some (.ref PA))) (d8 : o8.data = .cell (some (.ref FA))) (d11 : o11.data = .cell (some (.int (st : Int) ts))) (hoff : ∀ p ∈ (FA, lstO fv fe) :: (PA, lstO [Vd lo hi tl th false, Vd lo hi tl th true] pe) :: (L + 1 + 1 + 1 + 1, o4) :: (L + 1 + 1 + 1 + 1 + 1 + 1, o6) :: (L + 1 + 1 + 1 + 1 + 1 + 1 + 1, o7) :: (L + 1 + 1 + 1 + 1 + 1 + 1 + 1 + 1, o8) :: (L + 1 + 1 + 1 + 1 + 1 + 1 + 1 + 1 + 1 + 1 + 1, o11) :: fut, p.1 ≠ lx ∧ p.1 ≠ dx ∧ p.1 ≠ P)
    (next : ∀ (s : Shared) (e9 : Nat), LawG w loose mean mg mb g L s₀ s → Fr g L s.heap m → News g L s.heap ((lx, instObj 52 dx) :: (dx, dictOf (lexD a b c d ln tn fp tw P) le1) :: (P, lstO ((swN f r st).map (Vd lo hi tl th)) e9) :: (FA, lstO fv fe) :: (PA, lstO [Vd lo hi tl th false, Vd lo hi tl th true] pe) :: (L + 1 + 1 + 1 + 1, o4) :: (L + 1 + 1 + 1 + 1 + 1 + 1, o6) :: (L + 1 + 1 + 1 + 1 + 1 + 1 + 1, o7) :: (L + 1 + 1 + 1 + 1 + 1 + 1 + 1 + 1, o8) :: (L + 1 + 1 + 1 + 1 + 1 + 1 + 1 + 1 + 1 + 1 + 1, o11) :: fut) → Q .next s)
    (G : LawG w loose mean mg mb g L s₀ s) (F : Fr g L s.heap m) (N : News g L s.heap ((lx, instObj 52 dx) :: (dx, dictOf (lexD a b c d ln tn fp tw P) le1) :: (P, lstO ((r).map (Vd lo hi tl th)) le2) :: (FA, lstO fv fe) :: (PA, lstO [Vd lo hi tl th false, Vd lo hi tl th true] pe) :: (L + 1 + 1 + 1 + 1, o4) :: (L + 1 + 1 + 1 + 1 + 1 + 1, o6) :: (L + 1 + 1 + 1 + 1 + 1 + 1 + 1, o7) :: (L + 1 + 1 + 1 + 1 + 1 + 1 + 1 + 1, o8) :: (L + 1 + 1 + 1 + 1 + 1 + 1 + 1 + 1 + 1 + 1 + 1, o11) :: fut)) : LawX w L fa cd 26 Q E s := by
  exact Z_law_26.zall ⟨fun _ => w, fun _ => loose, fun _ => mean, fun i => [mg, mb, m].getD i mg, fun i => [fa, L, lx, dx, P, PA, FA].getD i fa, fun i => [le1, le2, pe, fe, n, st].getD i le1, fun _ => ln, fun i => [tn, tw, tl, th, tz, ts].getD i tn, fun i => [cd, fp].getD i cd, fun i => [lo, hi].getD i lo, fun i => [o4, o6, o7, o8, o11].getD i o4, fun _ => g, fun i => [s₀, s].getD i s₀, fun _ => fv, anyD.fLi, anyD.fLn, fun _ => r, fun _ => fut, fun _ => Q, fun _ => E, anyD.fB, fun i => [a, b, c, d].getD i a, anyD.fAv, fun _ => f, anyD.fGd, anyD.fEn, anyD.fAr, anyD.fOv, anyD.fOp, anyD.fLa, anyD.fEnv, anyD.fSs, anyD.fSt, anyD.fSc, anyD.fP, anyD.fEx, anyD.fR, anyD.fPo, anyD.fCl, anyD.fY, anyD.fRR, anyD.fBB, anyD.fNl, anyD.fOa, anyD.fFd, anyD.fAo, anyD.fDe, anyD.fIv⟩ hlt hfv hrl hn hst d4 d6 d7 d8 d11 hoff next G F N

end
end
section
section
variable (w : World) (loose : List Str) (mean : ExcName → Option Value) (mg mb : Str → Option Value)
theorem law_27 (cd : Value) (fa : Addr) (g : Heap) (L : Addr) (s₀ s : Shared) (Q : Flow → Shared → Prop) (E : Value → Shared → Prop) (m : Str → Option Value) (fut : List (Addr × Obj)) (BD : Addr) (bv : List Value) (be : Nat) (bs : List Bool) (hb : IntsAre bv (bs.map b2i)) (n st : Nat) (hbl : bs.length = n) (hn : 6 ≤ n ∧ n ≤ 9) (hst : st = 2 ∨ st = 3) (wy : Int) (hwy : wy = 1 ∨ wy = -1) (tw ts : Tok) (o11 o13 : Obj) (d11 : o11.data = .cell (some (.int (st : Int) ts))) (d13 : o13.data = .cell none) (f13 : ∀ p ∈ fut, p.1 ≠ L + 1 + 1 + 1 + 1 + 1 + 1 + 1 + 1 + 1 + 1 + 1 + 1 + 1) (hBD : @Ne Nat BD (L + 1 + 1 + 1 + 1 + 1 + 1 + 1 + 1 + 1 + 1 + 1 + 1 + 1)) (m1 : m (Str.ofString "bits") = some (.ref BD)) (m2 : m (Str.ofString "way") = some (.int wy tw))
    (next : ∀ (s : Shared) (LA : Addr) (lv : List Value) (le : Nat) (o13 : Obj), LawG w loose mean mg mb g L s₀ s → Fr g L s.heap m → News g L s.heap ((LA, lstO lv le) :: (BD, lstO bv be) :: (L + 1 + 1 + 1 + 1 + 1 + 1 + 1 + 1 + 1 + 1 + 1, o11) :: (L + 1 + 1 + 1 + 1 + 1 + 1 + 1 + 1 + 1 + 1 + 1 + 1 + 1, o13) :: fut) → o13.data = .cell (some (.ref LA)) → IntsAre lv ((laterP wy bs st).map b2i) → (LA = BD ∨ ∀ p ∈ (BD, lstO bv be) :: (L + 1 + 1 + 1 + 1 + 1 + 1 + 1 + 1 + 1 + 1 + 1, o11) :: (L + 1 + 1 + 1 + 1 + 1 + 1 + 1 + 1 + 1 + 1 + 1 + 1 + 1, o13) :: fut, p.1 ≠ LA) → Q .next s)
    (G : LawG w loose mean mg mb g L s₀ s) (F : Fr g L s.heap m) (N : News g L s.heap ((BD, lstO bv be) :: (L + 1 + 1 + 1 + 1 + 1 + 1 + 1 + 1 + 1 + 1 + 1, o11) :: (L + 1 + 1 + 1 + 1 + 1 + 1 + 1 + 1 + 1 + 1 + 1 + 1 + 1, o13) :: fut)) : LawX w L fa cd 27 Q E s := by
  k_with "x47" => skip
  k_with "mine all" => ((fail_if_success k_extra "x48"); assumption)
  k_with "call ref" => ((fail_if_success k_extra "x48"); k_here; k_dflt (refine hold_of ?_))
  have _ : PySem.Challenge.rw_wo0016_01 = PySem.Challenge.rw_wo0016_01 ∧ Mine.hd.heap_1 = Mine.hd.heap_1 := by k_fill; exact ⟨rfl, rfl⟩
  refine lawX_of (by rfl) ?_
  dsimp only [lawD, d_of]
  obtain ⟨B, X, T, h100, hos, hba⟩ := G
  have F := fr_know2 F m1 m2
  k_steps
  refine unhold ?_
  refine' useK (later_H w loose mean mg mb BD bv be bs n st wy ts tw hb hbl hn hst hwy) ?B ?F ?X ?N ?T ?hh ?hA ?hf ?hk ?hd ?hu ?hsub trivial ?_ ?hpost
  (case B => assumption)
  (case F => assumption)
  (case X => assumption)
  (case N => assumption)
  (case T => assumption)
  (case hh => exact rfl)
  (case hA => exact rfl)
  (case hf => exact rfl)
  (case hk => exact rfl)
  (case hd => (simp only [depth_deeper, depth_caller, recursionLimit]; omega))
  (case hu => (simp only [units_deeper, units_caller, cLine]; omega))
  (case hsub => exact fun p hp => (List.mem_singleton.mp hp) ▸ .head _)
  (case hpost => (rintro v now ⟨D, ys, e', rfl, hi, rfl⟩; exact ⟨[_], rfl⟩))
  rintro v now nw h' tk' ⟨D, ys, e', rfl, hi, rfl⟩ hnow F' N' l'
  obtain rfl : [(D, lstO ys e')] = nw := List.append_cancel_right (show [(D, lstO ys e')] ++ [(BD, lstO bv be)] = nw ++ [(BD, lstO bv be)] from hnow)
  have hsep : D = BD ∨ ∀ p ∈ (BD, lstO bv be) :: (L + 1 + 1 + 1 + 1 + 1 + 1 + 1 + 1 + 1 + 1 + 1, o11) :: (L + 1 + 1 + 1 + 1 + 1 + 1 + 1 + 1 + 1 + 1 + 1 + 1 + 1, o13) :: fut, p.1 ≠ D := by
    by_cases q : BD = D
    · exact .inl q.symm
    · exact .inr (l' _ (.head _) fun z hz => (List.mem_singleton.mp hz) ▸ q)
  have kd : D ≠ L + 1 + 1 + 1 + 1 + 1 + 1 + 1 + 1 + 1 + 1 + 1 + 1 + 1 := by
    rcases hsep with rfl | q
    · exact hBD
    · exact (q (L + 1 + 1 + 1 + 1 + 1 + 1 + 1 + 1 + 1 + 1 + 1 + 1 + 1, o13) (by k_mem)).symm
  simp only [List.cons_append, List.nil_append] at N'
  clear N F l'
  k_steps
  rename Fr _ _ _ _ => F5
  rename News _ _ _ _ => N5
  rename _ = Data.cell (some (Value.ref D)) => d5
  refine next _ D ys _ _ ?_ (fr_unk02 F5 m1 m2) N5 d5 hi ?_
  · exact ⟨B, X, T, h100, hos, hba⟩
  · rcases hsep with q | q
    · exact .inl q
    · refine .inr fun p hp => ?_
      rcases List.mem_cons.mp hp with rfl | hp
      · exact q _ (.head _)
      rcases List.mem_cons.mp hp with rfl | hp
      · exact q (L + 1 + 1 + 1 + 1 + 1 + 1 + 1 + 1 + 1 + 1 + 1, o11) (.tail _ (.head _))
      rcases List.mem_cons.mp hp with rfl | hp
      · exact kd.symm
      · exact q p (.tail _ (.tail _ (.tail _ hp)))
end
end
section
section
variable (w : World) (loose : List Str) (mean : ExcName → Option Value) (mg mb : Str → Option Value)
theorem law_28 (cd : Value) (fa : Addr) (g : Heap) (L : Addr) (s₀ s : Shared) (Q : Flow → Shared → Prop) (E : Value → Shared → Prop) (m : Str → Option Value) (fut : List (Addr × Obj)) (lx dx P : Addr) (a b c d : Int × Tok) (ln : Int) (tn tw : Tok) (fp : Value) (le1 le2 : Nat) (lo hi : Str) (tl th : Tok) (r : List Bool) (n : Nat) (hrl : r.length = n) (hn : 6 ≤ n ∧ n ≤ 9) (tz : Tok) (o4 o6 : Obj) (d4 : o4.data = .cell (some (.int n tz))) (d6 : o6.data = .cell (some (.ref lx))) (hoff : ∀ p ∈ (L + 1 + 1 + 1 + 1, o4) :: (L + 1 + 1 + 1 + 1 + 1 + 1, o6) :: fut, p.1 ≠ lx ∧ p.1 ≠ dx ∧ p.1 ≠ P)
    (next : ∀ (s : Shared) (SA : Addr) (se e9 : Nat), LawG w loose mean mg mb g L s₀ s → Fr g L s.heap (upd m (Str.ofString "shown") (.ref SA)) → News g L s.heap ((SA, lstO (r.map (Vd lo hi tl th)) se) :: (lx, instObj 52 dx) :: (dx, dictOf (lexD a b c d ln tn fp tw P) le1) :: (P, lstO [] e9) :: (L + 1 + 1 + 1 + 1, o4) :: (L + 1 + 1 + 1 + 1 + 1 + 1, o6) :: fut) → (∀ p ∈ (lx, instObj 52 dx) :: (dx, dictOf (lexD a b c d ln tn fp tw P) le1) :: (P, lstO [] e9) :: (L + 1 + 1 + 1 + 1, o4) :: (L + 1 + 1 + 1 + 1 + 1 + 1, o6) :: fut, p.1 ≠ SA) → Q .next s)
    (G : LawG w loose mean mg mb g L s₀ s) (F : Fr g L s.heap m) (N : News g L s.heap ((lx, instObj 52 dx) :: (dx, dictOf (lexD a b c d ln tn fp tw P) le1) :: (P, lstO ((r).map (Vd lo hi tl th)) le2) :: (L + 1 + 1 + 1 + 1, o4) :: (L + 1 + 1 + 1 + 1 + 1 + 1, o6) :: fut)) : LawX w L fa cd 28 Q E s := by
  k_with "x48" => skip
  k_with "mine all" => ((fail_if_success k_extra "x49"); assumption)
  k_with "CompSrc" => ((fail_if_success k_extra "x49"); k_here; k_dflt (refine hold_of ?_))
  k_with "CompEnd" => ((fail_if_success k_extra "x49"); (refine hold_of ?_))
  k_with "call ref" => ((fail_if_success k_extra "x49"); k_here; k_dflt (refine hold_of ?_))
  have _ : PySem.Challenge.rw_wo0016_01 = PySem.Challenge.rw_wo0016_01 ∧ Mine.hd.heap_1 = Mine.hd.heap_1 := by k_fill; exact ⟨rfl, rfl⟩
  refine lawX_of (by rfl) ?_
  dsimp only [lawD, d_of]
  obtain ⟨B, X, T, h100, hos, hba⟩ := G
  k_steps
  refine unhold ?_
  refine LCg.CompSrc.range (n := n) (by rfl) (by k_asm) (by k_asm) (by assumption) (small_n n (by omega)) (range_n n) (by rw [PySem.sizeLine_eq]; omega) ?_
  intro g9
  refine inv_rest (fun i ys led => ys = (r.take i).map (Vd lo hi tl th) ∧ ∃ e, led = (lx, instObj 52 dx) :: (dx, dictOf (lexD a b c d ln tn fp tw P) le1) :: (P, lstO ((r.drop i).map (Vd lo hi tl th)) e) :: (L + 1 + 1 + 1 + 1, o4) :: (L + 1 + 1 + 1 + 1 + 1 + 1, o6) :: fut) ⟨rfl, le2, rfl⟩ ?_ ?_
  · intro i v I oI C oC D m₂ ys led h tk E1 hil hI hv hC hx F N off ne
    obtain ⟨rfl, e0, rfl⟩ := hI
    obtain ⟨x9, hx9⟩ : ∃ x9, r.drop i = x9 :: r.drop (i + 1) := ⟨_, List.drop_eq_getElem_cons (by omega)⟩
    have hx8 : r.take (i + 1) = r.take i ++ [x9] := by
      rw [List.take_add_one]
      congr 1
      have := congrArg List.head? hx9
      rw [List.head?_drop] at this
      rw [this]; rfl
    have hx7 : ((r.drop (i + 1)).map (Vd lo hi tl th)).length < 1000 := by simp; omega
    have hro : ∀ p ∈ (I, oI) :: (C, oC) :: (D, LCg.lst ((r.take i).map (Vd lo hi tl th))) :: (L + 1 + 1 + 1 + 1, o4) :: (L + 1 + 1 + 1 + 1 + 1 + 1, o6) :: fut, p.1 ≠ lx ∧ p.1 ≠ dx ∧ p.1 ≠ P := off_lex off hoff
    rw [hx9, List.map_cons] at N off
    k_steps
    refine unhold ?_
    rename News _ _ _ _ => N5
    refine' useLex (rest := (I, oI) :: (C, oC) :: (D, LCg.lst ((r.take i).map (Vd lo hi tl th))) :: (L + 1 + 1 + 1 + 1, o4) :: (L + 1 + 1 + 1 + 1 + 1 + 1, o6) :: fut) (get_H w loose mean mg mb lx dx P (Vd lo hi tl th x9) a b c d ln tn fp tw ((r.drop (i + 1)).map (Vd lo hi tl th)) le1 e0 hx7) ?B ?F ?X ?N ?T ?hh ?hA ?hf ?hk ?hd ?hu hro ?_
    (case B => assumption)
    (case F => assumption)
    (case X => assumption)
    (case N => exact fun p hp => N5 p (lex_first hp))
    (case T => assumption)
    (case hh => exact rfl)
    (case hA => exact rfl)
    (case hf => exact rfl)
    (case hk => exact rfl)
    (case hd => (simp only [depth_deeper, depth_caller, recursionLimit]; omega))
    (case hu => (simp only [units_deeper, units_caller, cLine]; omega))
    intro h' tk' F' N'
    k_steps
    refine unhold (LCg.CompEnd.intro F' N' ((lx, instObj 52 dx) :: (dx, dictOf (lexD a b c d ln tn fp tw P) le1) :: (P, lstO ((r.drop (i + 1)).map (Vd lo hi tl th)) (e0 + 1)) :: (L + 1 + 1 + 1 + 1, o4) :: (L + 1 + 1 + 1 + 1 + 1 + 1, o6) :: fut) (fun p hp => lex_last hp) off trivial ?_)
    exact ⟨by rw [hx8, List.map_append]; rfl, _, rfl⟩
  · rintro ys led ⟨rfl, e0, rfl⟩
    intro D h tk F N o1
    rw [List.take_of_length_le (by omega)] at N
    rw [List.drop_of_length_le (by omega)] at N o1
    refine next _ D _ e0 ?_ F N (off1_all o1)
    exact ⟨B, X, T, h100, hos, hba⟩
end
end
section
section
namespace Z_law_29
noncomputable def zP (w : World) (loose : List Str) (mean : ExcName → Option Value) (mg : Str → Option Value) (mb : Str → Option Value) (cd : Value) (fa : Addr) (g : Heap) (L : Addr) (s₀ : Shared) (s : Shared) (Q : Flow → Shared → Prop) (E : Value → Shared → Prop) (m : Str → Option Value) (fut : List (Addr × Obj)) (SA : Addr) (LA : Addr) (DU : Addr) (se : Nat) (le : Nat) (de : Nat) (lo : Str) (hi : Str) (tl : Tok) (th : Tok) (dl : Tok) (dh : Tok) (r : List Bool) (la : List Bool) (lv : List Value) (n : Nat) (st : Nat) (tz : Tok) (ts : Tok) (o4 : Obj) (o10 : Obj) (o11 : Obj) (o13 : Obj) : Prop := ∀ (hla : IntsAre lv (la.map b2i)) (hlal : la.length = n) (hn : 6 ≤ n ∧ n ≤ 9) (hst : st ≤ 9) (hring : r = (List.range n).map fun k => atR la (k + st)) (ok1 : PyData.strOk lo = true) (ok2 : PyData.strOk hi = true) (d4 : o4.data = .cell (some (.int n tz))) (d10 : o10.data = .cell (some (.ref DU))) (d11 : o11.data = .cell (some (.int (st : Int) ts))) (d13 : o13.data = .cell (some (.ref LA))) (m1 : m (Str.ofString "shown") = some (.ref SA)) (next : ∀ (s : Shared) , LawG w loose mean mg mb g L s₀ s → Fr g L s.heap m → News g L s.heap ((SA, lstO (r.map (Vd lo hi tl th)) se) :: (LA, lstO lv le) :: (DU, lstO [.str lo dl, .str hi dh] de) :: (L + 1 + 1 + 1 + 1, o4) :: (L + 1 + 1 + 1 + 1 + 1 + 1 + 1 + 1 + 1 + 1, o10) :: (L + 1 + 1 + 1 + 1 + 1 + 1 + 1 + 1 + 1 + 1 + 1, o11) :: (L + 1 + 1 + 1 + 1 + 1 + 1 + 1 + 1 + 1 + 1 + 1 + 1 + 1, o13) :: fut) → Q .next s) (G : LawG w loose mean mg mb g L s₀ s) (F : Fr g L s.heap m) (N : News g L s.heap ((SA, lstO (r.map (Vd lo hi tl th)) se) :: (LA, lstO lv le) :: (DU, lstO [.str lo dl, .str hi dh] de) :: (L + 1 + 1 + 1 + 1, o4) :: (L + 1 + 1 + 1 + 1 + 1 + 1 + 1 + 1 + 1 + 1, o10) :: (L + 1 + 1 + 1 + 1 + 1 + 1 + 1 + 1 + 1 + 1 + 1, o11) :: (L + 1 + 1 + 1 + 1 + 1 + 1 + 1 + 1 + 1 + 1 + 1 + 1 + 1, o13) :: fut)), LawX w L fa cd 29 Q E s
noncomputable def zk : DD := pickD fun c => zP (c.fW 0) (c.fLs 0) (c.fMe 0) (c.fMp 0) (c.fMp 1) (c.fV 0) (c.fA 0) (c.fH 0) (c.fA 1) (c.fSh 0) (c.fSh 1) (c.fQ 0) (c.fE 0) (c.fMp 2) (c.fLed 0) (c.fA 2) (c.fA 3) (c.fA 4) (c.fN 0) (c.fN 1) (c.fN 2) (c.fS 0) (c.fS 1) (c.fT 0) (c.fT 1) (c.fT 2) (c.fT 3) (c.fLb 0) (c.fLb 1) (c.fLv 0) (c.fN 3) (c.fN 4) (c.fT 4) (c.fT 5) (c.fO 0) (c.fO 1) (c.fO 2) (c.fO 3)
noncomputable section
@[irreducible] def w : World := zk.fW 0
@[irreducible] def loose : List Str := zk.fLs 0
@[irreducible] def mean : ExcName → Option Value := zk.fMe 0
@[irreducible] def mg : Str → Option Value := zk.fMp 0
@[irreducible] def mb : Str → Option Value := zk.fMp 1
@[irreducible] def cd : Value := zk.fV 0
@[irreducible] def fa : Addr := zk.fA 0
@[irreducible] def g : Heap := zk.fH 0
@[irreducible] def L : Addr := zk.fA 1
@[irreducible] def s₀ : Shared := zk.fSh 0
@[irreducible] def s : Shared := zk.fSh 1
@[irreducible] def Q : Flow → Shared → Prop := zk.fQ 0
@[irreducible] def E : Value → Shared → Prop := zk.fE 0
@[irreducible] def m : Str → Option Value := zk.fMp 2
@[irreducible] def fut : List (Addr × Obj) := zk.fLed 0
@[irreducible] def SA : Addr := zk.fA 2
@[irreducible] def LA : Addr := zk.fA 3
@[irreducible] def DU : Addr := zk.fA 4
@[irreducible] def se : Nat := zk.fN 0
@[irreducible] def le : Nat := zk.fN 1
@[irreducible] def de : Nat := zk.fN 2
@[irreducible] def lo : Str := zk.fS 0
@[irreducible] def hi : Str := zk.fS 1
@[irreducible] def tl : Tok := zk.fT 0
@[irreducible] def th : Tok := zk.fT 1
@[irreducible] def dl : Tok := zk.fT 2
@[irreducible] def dh : Tok := zk.fT 3
@[irreducible] def r : List Bool := zk.fLb 0
@[irreducible] def la : List Bool := zk.fLb 1
@[irreducible] def lv : List Value := zk.fLv 0
@[irreducible] def n : Nat := zk.fN 3
@[irreducible] def st : Nat := zk.fN 4
@[irreducible] def tz : Tok := zk.fT 4
@[irreducible] def ts : Tok := zk.fT 5
@[irreducible] def o4 : Obj := zk.fO 0
@[irreducible] def o10 : Obj := zk.fO 1
@[irreducible] def o11 : Obj := zk.fO 2
@[irreducible] def o13 : Obj := zk.fO 3
end
theorem zcore : zP w loose mean mg mb cd fa g L s₀ s Q E m fut SA LA DU se le de lo hi tl th dl dh r la lv n st tz ts o4 o10 o11 o13 := by
  k_with "x49" => skip
  k_with "mine all" => ((fail_if_success k_extra "x50"); assumption)
  k_with "eval ListComp" => ((fail_if_success k_extra "x50"); k_here; k_dflt (refine ListComp_R (by k_asm) (by with_unfolding_all rfl) (by decide) (by rfl) (by decide) (by rfl) ?_))
  k_with "SrcC" => ((fail_if_success k_extra "x50"); k_here; k_dflt (refine hold_of ?_))
  k_with "CompEnd" => ((fail_if_success k_extra "x50"); (refine hold_of ?_))
  k_with "subscriptTail" => ((fail_if_success k_extra "x50"); k_here; (with_reducible show wpAny _ _ (subscriptTail _ _ (Value.ref _) (Value.int _ _)) _ _ _); (first | (with_unfolding_all refine' item_new (by assumption) (by k_mem) (by omega) (by omega) (by k_extra "mine item") ?_ (by with_unfolding_all rfl); k_whole)))
  k_with "compareOp NotEq ref ref" => ((fail_if_success k_extra "x50"); k_here; k_dflt (refine hold_of ?_))
  unfold zP
  intro hla hlal hn hst hring ok1 ok2 d4 d10 d11 d13 m1 next G F N
  have _ : PySem.Challenge.rw_wo0016_01 = PySem.Challenge.rw_wo0016_01 ∧ Mine.hd.heap_1 = Mine.hd.heap_1 := by k_fill; exact ⟨rfl, rfl⟩
  refine lawX_of (by rfl) ?_
  dsimp only [lawD, d_of]
  obtain ⟨B, X, T, h100, hos, hba⟩ := G
  have F := fr_know F m1
  k_steps
  refine unhold ?_
  rename IsRange _ _ _ _ _ _ _ _ => R2
  refine ⟨_, _, _, _, _, _, _, n, _, rfl, rfl, by k_asm, by k_asm, R2, small_n n (by omega), range_n n, by rw [PySem.sizeLine_eq]; omega, ?_⟩
  rintro s8 ⟨g8, e8⟩
  subst e8
  refine inv_rest (fun i ys led => StrsAre ys ((List.range i).map fun k => Wd lo hi (atR la (k + st))) ∧ led = (SA, lstO (r.map (Vd lo hi tl th)) se) :: (LA, lstO lv le) :: (DU, lstO [.str lo dl, .str hi dh] de) :: (L + 1 + 1 + 1 + 1, o4) :: (L + 1 + 1 + 1 + 1 + 1 + 1 + 1 + 1 + 1 + 1, o10) :: (L + 1 + 1 + 1 + 1 + 1 + 1 + 1 + 1 + 1 + 1 + 1, o11) :: (L + 1 + 1 + 1 + 1 + 1 + 1 + 1 + 1 + 1 + 1 + 1 + 1 + 1, o13) :: fut) ⟨.nil, rfl⟩ ?_ ?_
  · intro i v I oI C oC D m₂ ys led h tk E1 hil hI hv hC hx F N off ne
    obtain ⟨hI, rfl⟩ := hI
    obtain ⟨t9, rfl⟩ := hv
    have ek : Int.fmod (0 + (i : Int) * 1 + (st : Int)) (n : Int) = (((i + st) % la.length : Nat) : Int) := by rw [hlal, show (0 + (i : Int) * 1 + (st : Int)) = ((i + st : Nat) : Int) by omega, Int.fmod_eq_emod_of_nonneg _ (by omega)]; rfl
    have eg := getD_bits (la := la) (by omega) (i + st) ek
    have hb1 : 0 ≤ Int.fmod (0 + (i : Int) * 1 + (st : Int)) (n : Int) := by rw [ek]; omega
    have hb2 : Int.fmod (0 + (i : Int) * 1 + (st : Int)) (n : Int) < 10 := by
      have := Nat.mod_lt (i + st) (show 0 < la.length by omega)
      rw [ek]; omega
    have hb3 := b2i_bd (atR la (i + st))
    have hpk : [Value.str lo dl, Value.str hi dh][((la.map b2i).getD (Int.fmod (0 + (i : Int) * 1 + (st : Int)) (n : Int)).toNat 0).toNat]? = some (.str (Wd lo hi (atR la (i + st))) (Td dl dh (atR la (i + st)))) := by rw [eg]; exact pick_two _
    k_steps
    refine unhold (LCg.CompEnd.intro (by assumption) (by assumption) ((SA, lstO (r.map (Vd lo hi tl th)) se) :: (LA, lstO lv le) :: (DU, lstO [.str lo dl, .str hi dh] de) :: (L + 1 + 1 + 1 + 1, o4) :: (L + 1 + 1 + 1 + 1 + 1 + 1 + 1 + 1 + 1 + 1, o10) :: (L + 1 + 1 + 1 + 1 + 1 + 1 + 1 + 1 + 1 + 1 + 1, o11) :: (L + 1 + 1 + 1 + 1 + 1 + 1 + 1 + 1 + 1 + 1 + 1 + 1 + 1, o13) :: fut) (fun q9 hq9 => by k_ownIn) off trivial ⟨?_, rfl⟩)
    rw [List.range_succ, List.map_append]
    exact strs_snoc hI
  · rintro ys led ⟨hys, rfl⟩
    intro D h tk F N o1
    k_steps
    refine unhold ?_
    rename News _ _ _ _ => N5
    have e5 : (List.range n).map (fun k => Wd lo hi (atR la (k + st))) = r.map (Wd lo hi) := by rw [hring, List.map_map]; rfl
    rw [e5] at hys
    refine ne_strsN N5 (a := SA) (b := D) (by k_mem) (.head _) (strs_map r) hys (wd_ok ok1 ok2) (by simp only [units_deeper, units_caller, cLine]; omega) ?_
    k_steps
    rename Fr _ _ _ _ => F6
    rename News _ _ _ _ => N6
    refine next _ ?_ (fr_unk F6 m1) (nd1 N6)
    exact ⟨B, X, T, h100, hos, hba⟩
theorem zall : ∀ c : DD, zP (c.fW 0) (c.fLs 0) (c.fMe 0) (c.fMp 0) (c.fMp 1) (c.fV 0) (c.fA 0) (c.fH 0) (c.fA 1) (c.fSh 0) (c.fSh 1) (c.fQ 0) (c.fE 0) (c.fMp 2) (c.fLed 0) (c.fA 2) (c.fA 3) (c.fA 4) (c.fN 0) (c.fN 1) (c.fN 2) (c.fS 0) (c.fS 1) (c.fT 0) (c.fT 1) (c.fT 2) (c.fT 3) (c.fLb 0) (c.fLb 1) (c.fLv 0) (c.fN 3) (c.fN 4) (c.fT 4) (c.fT 5) (c.fO 0) (c.fO 1) (c.fO 2) (c.fO 3) := allD (by with_unfolding_all exact zcore)
end Z_law_29
theorem law_29 (w : World) (loose : List Str) (mean : ExcName → Option Value) (mg mb : Str → Option Value) (cd : Value) (fa : Addr) (g : Heap) (L : Addr) (s₀ s : Shared) (Q : Flow → Shared → Prop) (E : Value → Shared → Prop) (m : Str → Option Value) (fut : List (Addr × Obj)) (SA LA DU : Addr) (se le de : Nat) (lo hi : Str) (tl th dl dh : Tok) (r la : List Bool) (lv : List Value) (hla : IntsAre lv (la.map b2i)) (n st : Nat) (hlal : la.length = n) (hn : 6 ≤ n ∧ n ≤ 9) (hst : st ≤ 9) (hring : r = (List.range n).map fun k => atR la (k + st)) (ok1 : PyData.strOk lo = true) (ok2 : PyData.strOk hi = true) (tz ts : Tok) (o4 o10 o11 o13 : Obj) (d4 : o4.data = .cell (some (.int n tz))) (d10 : o10.data = .cell (some (.ref DU))) (d11 : o11.data = .cell (some (.int (st : Int) ts))) (d13 : o13.data = .cell (some (.ref LA))) (m1 : m (Str.ofString "shown") = some (.ref SA))
    (next : ∀ (s : Shared) , LawG w loose mean mg mb g L s₀ s → Fr g L s.heap m → News g L s.heap ((SA, lstO (r.map (Vd lo hi tl th)) se) :: (LA, lstO lv le) :: (DU, lstO [.str lo dl, .str hi dh] de) :: (L + 1 + 1 + 1 + 1, o4) :: (L + 1 + 1 + 1 + 1 + 1 + 1 + 1 + 1 + 1 + 1, o10) :: (L + 1 + 1 + 1 + 1 + 1 + 1 + 1 + 1 + 1 + 1 + 1, o11) :: (L + 1 + 1 + 1 + 1 + 1 + 1 + 1 + 1 + 1 + 1 + 1 + 1 + 1, o13) :: fut) → Q .next s)
    (G : LawG w loose mean mg mb g L s₀ s) (F : Fr g L s.heap m) (N : News g L s.heap ((SA, lstO (r.map (Vd lo hi tl th)) se) :: (LA, lstO lv le) :: (DU, lstO [.str lo dl, .str hi dh] de) :: (L + 1 + 1 + 1 + 1, o4) :: (L + 1 + 1 + 1 + 1 + 1 + 1 + 1 + 1 + 1 + 1, o10) :: (L + 1 + 1 + 1 + 1 + 1 + 1 + 1 + 1 + 1 + 1 + 1, o11) :: (L + 1 + 1 + 1 + 1 + 1 + 1 + 1 + 1 + 1 + 1 + 1 + 1 + 1, o13) :: fut)) : LawX w L fa cd 29 Q E s := by
  exact Z_law_29.zall ⟨fun _ => w, fun _ => loose, fun _ => mean, fun i => [mg, mb, m].getD i mg, fun i => [fa, L, SA, LA, DU].getD i fa, fun i => [se, le, de, n, st].getD i se, anyD.fI, fun i => [tl, th, dl, dh, tz, ts].getD i tl, fun _ => cd, fun i => [lo, hi].getD i lo, fun i => [o4, o10, o11, o13].getD i o4, fun _ => g, fun i => [s₀, s].getD i s₀, fun _ => lv, anyD.fLi, anyD.fLn, fun i => [r, la].getD i r, fun _ => fut, fun _ => Q, fun _ => E, anyD.fB, anyD.fIt, anyD.fAv, anyD.fB3, anyD.fGd, anyD.fEn, anyD.fAr, anyD.fOv, anyD.fOp, anyD.fLa, anyD.fEnv, anyD.fSs, anyD.fSt, anyD.fSc, anyD.fP, anyD.fEx, anyD.fR, anyD.fPo, anyD.fCl, anyD.fY, anyD.fRR, anyD.fBB, anyD.fNl, anyD.fOa, anyD.fFd, anyD.fAo, anyD.fDe, anyD.fIv⟩ hla hlal hn hst hring ok1 ok2 d4 d10 d11 d13 m1 next G F N

end
end
section
section
namespace Z_law_30
noncomputable def zP (w : World) (loose : List Str) (mean : ExcName → Option Value) (mg : Str → Option Value) (mb : Str → Option Value) (cd : Value) (fa : Addr) (g : Heap) (L : Addr) (s₀ : Shared) (s : Shared) (Q : Flow → Shared → Prop) (E : Value → Shared → Prop) (m : Str → Option Value) (fut : List (Addr × Obj)) (lx : Addr) (dx : Addr) (P : Addr) (a : Int × Tok) (b : Int × Tok) (c : Int × Tok) (d : Int × Tok) (ln : Int) (tn : Tok) (tw : Tok) (fp : Value) (le1 : Nat) (le2 : Nat) (lo : Str) (hi : Str) (tl : Tok) (th : Tok) (SA : Addr) (se : Nat) (r : List Bool) (o6 : Obj) : Prop := ∀ (hrl : r.length ≤ 9) (d6 : o6.data = .cell (some (.ref lx))) (hoff : ∀ p ∈ (SA, lstO (r.map (Vd lo hi tl th)) se) :: (L + 1 + 1 + 1 + 1 + 1 + 1, o6) :: fut, p.1 ≠ lx ∧ p.1 ≠ dx ∧ p.1 ≠ P) (m1 : m (Str.ofString "shown") = some (.ref SA)) (next : ∀ (s : Shared) (m₂ : Str → Option Value) (e9 : Nat), LawG w loose mean mg mb g L s₀ s → Fr g L s.heap m₂ → News g L s.heap ((lx, instObj 52 dx) :: (dx, dictOf (lexD a b c d ln tn fp tw P) le1) :: (P, lstO ((r).map (Vd lo hi tl th)) e9) :: (SA, lstO (r.map (Vd lo hi tl th)) se) :: (L + 1 + 1 + 1 + 1 + 1 + 1, o6) :: fut) → (∀ y, y ≠ (Str.ofString "word") → m₂ y = m y) → Q .next s) (G : LawG w loose mean mg mb g L s₀ s) (F : Fr g L s.heap m) (N : News g L s.heap ((lx, instObj 52 dx) :: (dx, dictOf (lexD a b c d ln tn fp tw P) le1) :: (P, lstO [] le2) :: (SA, lstO (r.map (Vd lo hi tl th)) se) :: (L + 1 + 1 + 1 + 1 + 1 + 1, o6) :: fut)), LawX w L fa cd 30 Q E s
noncomputable def zk : DD := pickD fun c => zP (c.fW 0) (c.fLs 0) (c.fMe 0) (c.fMp 0) (c.fMp 1) (c.fV 0) (c.fA 0) (c.fH 0) (c.fA 1) (c.fSh 0) (c.fSh 1) (c.fQ 0) (c.fE 0) (c.fMp 2) (c.fLed 0) (c.fA 2) (c.fA 3) (c.fA 4) (c.fIt 0) (c.fIt 1) (c.fIt 2) (c.fIt 3) (c.fI 0) (c.fT 0) (c.fT 1) (c.fV 1) (c.fN 0) (c.fN 1) (c.fS 0) (c.fS 1) (c.fT 2) (c.fT 3) (c.fA 5) (c.fN 2) (c.fLb 0) (c.fO 0)
noncomputable section
@[irreducible] def w : World := zk.fW 0
@[irreducible] def loose : List Str := zk.fLs 0
@[irreducible] def mean : ExcName → Option Value := zk.fMe 0
@[irreducible] def mg : Str → Option Value := zk.fMp 0
@[irreducible] def mb : Str → Option Value := zk.fMp 1
@[irreducible] def cd : Value := zk.fV 0
@[irreducible] def fa : Addr := zk.fA 0
@[irreducible] def g : Heap := zk.fH 0
@[irreducible] def L : Addr := zk.fA 1
@[irreducible] def s₀ : Shared := zk.fSh 0
@[irreducible] def s : Shared := zk.fSh 1
@[irreducible] def Q : Flow → Shared → Prop := zk.fQ 0
@[irreducible] def E : Value → Shared → Prop := zk.fE 0
@[irreducible] def m : Str → Option Value := zk.fMp 2
@[irreducible] def fut : List (Addr × Obj) := zk.fLed 0
@[irreducible] def lx : Addr := zk.fA 2
@[irreducible] def dx : Addr := zk.fA 3
@[irreducible] def P : Addr := zk.fA 4
@[irreducible] def a : Int × Tok := zk.fIt 0
@[irreducible] def b : Int × Tok := zk.fIt 1
@[irreducible] def c : Int × Tok := zk.fIt 2
@[irreducible] def d : Int × Tok := zk.fIt 3
@[irreducible] def ln : Int := zk.fI 0
@[irreducible] def tn : Tok := zk.fT 0
@[irreducible] def tw : Tok := zk.fT 1
@[irreducible] def fp : Value := zk.fV 1
@[irreducible] def le1 : Nat := zk.fN 0
@[irreducible] def le2 : Nat := zk.fN 1
@[irreducible] def lo : Str := zk.fS 0
@[irreducible] def hi : Str := zk.fS 1
@[irreducible] def tl : Tok := zk.fT 2
@[irreducible] def th : Tok := zk.fT 3
@[irreducible] def SA : Addr := zk.fA 5
@[irreducible] def se : Nat := zk.fN 2
@[irreducible] def r : List Bool := zk.fLb 0
@[irreducible] def o6 : Obj := zk.fO 0
end
theorem zcore : zP w loose mean mg mb cd fa g L s₀ s Q E m fut lx dx P a b c d ln tn tw fp le1 le2 lo hi tl th SA se r o6 := by
  k_with "x50" => skip
  k_with "mine all" => ((fail_if_success k_extra "x51"); assumption)
  k_with "call ref" => ((fail_if_success k_extra "x51"); k_here; k_dflt (refine hold_of ?_))
  k_with "exec For Name Call cons nil" => ((fail_if_success k_extra "x51"); k_here; k_dflt (refine wpAny_For ?_))
  k_with "exec For Name Name cons nil" => ((fail_if_success k_extra "x51"); k_here; k_dflt (refine wpAny_For ?_))
  k_with "mine iter" => ((fail_if_success k_extra "x51"); k_here; refine hold_of ?_)
  unfold zP
  intro hrl d6 hoff m1 next G F N
  have _ : PySem.Challenge.rw_wo0016_01 = PySem.Challenge.rw_wo0016_01 ∧ Mine.hd.heap_1 = Mine.hd.heap_1 := by k_fill; exact ⟨rfl, rfl⟩
  refine lawX_of (by rfl) ?_
  dsimp only [lawD, d_of]
  obtain ⟨B, X, T, h100, hos, hba⟩ := G
  have F := fr_know F m1
  k_steps
  refine unhold ?_
  have F2 := F
  obtain ⟨ws, hws⟩ : ∃ ws, r.map (Vd lo hi tl th) = ws := ⟨_, rfl⟩
  rw [hws] at N next hoff
  have hwl : ws.length ≤ 20 := by rw [← hws]; simp; omega
  obtain ⟨rest, hrest⟩ : ∃ rest, rest = (SA, lstO ws se) :: (L + 1 + 1 + 1 + 1 + 1 + 1, o6) :: fut := ⟨_, rfl⟩
  have h6 : (L + 1 + 1 + 1 + 1 + 1 + 1, o6) ∈ rest := by rw [hrest]; k_mem
  have hD : (SA, lstO ws se) ∈ rest := by rw [hrest]; k_mem
  have hoff' : ∀ p ∈ rest, p.1 ≠ lx ∧ p.1 ≠ dx ∧ p.1 ≠ P := fun p hp => by
    rw [hrest] at hp
    rcases List.mem_cons.mp hp with rfl | hp
    · exact hoff _ (.head _)
    · exact hoff p (.tail _ hp)
  rw [← hrest] at N
  refine for_list (l := SA) (vs := ws) (e := se) (led₀ := (lx, instObj 52 dx) :: (dx, dictOf (lexD a b c d ln tn fp tw P) le1) :: (P, lstO [] le2) :: rest)
    (J := fun i m' led => (∀ y, y ≠ Str.ofString "word" → m' y = m y) ∧ ∃ e, led = (lx, instObj 52 dx) :: (dx, dictOf (lexD a b c d ln tn fp tw P) le1) :: (P, lstO (ws.take i) e) :: rest) rfl F2 N (.tail _ (.tail _ (.tail _ hD))) ⟨?_, le2, by simp⟩ ?_ ?_
  · intro y hy; exact congrFun (upd_known m1) y
  · intro It i v io m3 led h tk l1 l2 hvi hio hJ hm F3 N3
    obtain ⟨hm3, e3, rfl⟩ := hJ
    have hi : i < ws.length := (List.getElem?_eq_some_iff.mp hvi).1
    have hx : (ws.take i).length < 1000 := by simp only [List.length_take]; omega
    have N4 : News g L h (lexN lx dx P a b c d ln tn fp tw le1 (ws.take i) e3 ++ ((It, io) :: rest)) := fun p hp => N3 p (by simp only [lexN, List.cons_append, List.nil_append, List.mem_cons] at hp ⊢; rcases hp with h | h | h | h | h <;> simp [h])
    have hne : ∀ p ∈ (It, io) :: rest, p.1 ≠ lx ∧ p.1 ≠ dx ∧ p.1 ≠ P := fun p hp => by
      rcases List.mem_cons.mp hp with rfl | hp
      · exact ⟨(l2 _ (.head _)).symm, (l2 _ (.tail _ (.head _))).symm, (l2 _ (.tail _ (.tail _ (.head _)))).symm⟩
      · exact hoff' p hp
    unfold TurnT
    clear N3 F N
    have N5 : News g L h ((L + 1 + 1 + 1 + 1 + 1 + 1, o6) :: (lexN lx dx P a b c d ln tn fp tw le1 (ws.take i) e3 ++ ((It, io) :: rest))) := news_cons N4 (List.mem_append_right _ (.tail _ h6)) (fun _ hp => hp)
    k_steps
    refine unhold ?_
    rename News _ _ _ _ => N6
    rename Fr _ _ _ _ => F6
    refine' useLex (rest := (It, io) :: rest) (push_H w loose mean mg mb lx dx P v a b c d ln tn fp tw (ws.take i) le1 e3 hx) ?B ?F ?X ?N ?T ?hh ?hA ?hf ?hk ?hd ?hu hne ?_
    (case B => assumption)
    (case F => exact F6)
    (case X => assumption)
    (case N => exact news_tl N6)
    (case T => assumption)
    (case hh => exact rfl)
    (case hA => exact rfl)
    (case hf => exact rfl)
    (case hk => exact rfl)
    (case hd => (simp only [depth_deeper, depth_caller, recursionLimit]; omega))
    (case hu => (simp only [units_deeper, units_caller, cLine]; omega))
    intro h2 tk2 F7 N7
    clear N6 F6
    k_steps
    rename Fr _ _ _ _ => F8
    rename News _ _ _ _ => N8
    refine endT (led' := (lx, instObj 52 dx) :: (dx, dictOf (lexD a b c d ln tn fp tw P) le1) :: (P, lstO (ws.take i ++ [v]) (e3 + 1)) :: rest) F8 (fun p hp => N8 p ?_) hio (fun p hp => (List.mem_singleton.mp hp) ▸ .tail _ (.tail _ (.tail _ hD))) ?_ ⟨fun y hy => ?_, e3 + 1, ?_⟩
    · simp only [lexN, List.cons_append, List.nil_append, List.mem_cons] at hp ⊢
      rcases hp with h | h | h | h | h <;> simp [h]
    · intro p hp
      rcases List.mem_cons.mp hp with rfl | hp
      · exact l2 (lx, _) (.head _)
      rcases List.mem_cons.mp hp with rfl | hp
      · exact l2 (dx, _) (.tail _ (.head _))
      rcases List.mem_cons.mp hp with rfl | hp
      · exact l2 (P, lstO (ws.take i) e3) (.tail _ (.tail _ (.head _)))
      · exact l2 p (.tail _ (.tail _ (.tail _ hp)))
    · simp only [if_neg hy]
      exact hm3 y hy
    · rw [List.take_add_one, hvi]
      rfl
  · intro m3 led h tk hJ hm F3 N3
    obtain ⟨hm3, e3, rfl⟩ := hJ
    rw [List.take_length, hrest] at N3
    k_steps
    refine next _ m3 e3 ?_ F3 N3 hm3
    exact ⟨B, X, T, h100, hos, hba⟩
theorem zall : ∀ c : DD, zP (c.fW 0) (c.fLs 0) (c.fMe 0) (c.fMp 0) (c.fMp 1) (c.fV 0) (c.fA 0) (c.fH 0) (c.fA 1) (c.fSh 0) (c.fSh 1) (c.fQ 0) (c.fE 0) (c.fMp 2) (c.fLed 0) (c.fA 2) (c.fA 3) (c.fA 4) (c.fIt 0) (c.fIt 1) (c.fIt 2) (c.fIt 3) (c.fI 0) (c.fT 0) (c.fT 1) (c.fV 1) (c.fN 0) (c.fN 1) (c.fS 0) (c.fS 1) (c.fT 2) (c.fT 3) (c.fA 5) (c.fN 2) (c.fLb 0) (c.fO 0) := allD (by with_unfolding_all exact zcore)
end Z_law_30
theorem law_30 (w : World) (loose : List Str) (mean : ExcName → Option Value) (mg mb : Str → Option Value) (cd : Value) (fa : Addr) (g : Heap) (L : Addr) (s₀ s : Shared) (Q : Flow → Shared → Prop) (E : Value → Shared → Prop) (m : Str → Option Value) (fut : List (Addr × Obj)) (lx dx P : Addr) (a b c d : Int × Tok) (ln : Int) (tn tw : Tok) (fp : Value) (le1 le2 : Nat) (lo hi : Str) (tl th : Tok) (SA : Addr) (se : Nat) (r : List Bool) (hrl : r.length ≤ 9) (o6 : Obj) (d6 : o6.data = .cell (some (.ref lx))) (hoff : ∀ p ∈ (SA, lstO (r.map (Vd lo hi tl th)) se) :: (L + 1 + 1 + 1 + 1 + 1 + 1, o6) :: fut, p.1 ≠ lx ∧ p.1 ≠ dx ∧ p.1 ≠ P) (m1 : m (Str.ofString "shown") = some (.ref SA))
    (next : ∀ (s : Shared) (m₂ : Str → Option Value) (e9 : Nat), LawG w loose mean mg mb g L s₀ s → Fr g L s.heap m₂ → News g L s.heap ((lx, instObj 52 dx) :: (dx, dictOf (lexD a b c d ln tn fp tw P) le1) :: (P, lstO ((r).map (Vd lo hi tl th)) e9) :: (SA, lstO (r.map (Vd lo hi tl th)) se) :: (L + 1 + 1 + 1 + 1 + 1 + 1, o6) :: fut) → (∀ y, y ≠ (Str.ofString "word") → m₂ y = m y) → Q .next s)
    (G : LawG w loose mean mg mb g L s₀ s) (F : Fr g L s.heap m) (N : News g L s.heap ((lx, instObj 52 dx) :: (dx, dictOf (lexD a b c d ln tn fp tw P) le1) :: (P, lstO [] le2) :: (SA, lstO (r.map (Vd lo hi tl th)) se) :: (L + 1 + 1 + 1 + 1 + 1 + 1, o6) :: fut)) : LawX w L fa cd 30 Q E s := by
  exact Z_law_30.zall ⟨fun _ => w, fun _ => loose, fun _ => mean, fun i => [mg, mb, m].getD i mg, fun i => [fa, L, lx, dx, P, SA].getD i fa, fun i => [le1, le2, se].getD i le1, fun _ => ln, fun i => [tn, tw, tl, th].getD i tn, fun i => [cd, fp].getD i cd, fun i => [lo, hi].getD i lo, fun _ => o6, fun _ => g, fun i => [s₀, s].getD i s₀, anyD.fLv, anyD.fLi, anyD.fLn, fun _ => r, fun _ => fut, fun _ => Q, fun _ => E, anyD.fB, fun i => [a, b, c, d].getD i a, anyD.fAv, anyD.fB3, anyD.fGd, anyD.fEn, anyD.fAr, anyD.fOv, anyD.fOp, anyD.fLa, anyD.fEnv, anyD.fSs, anyD.fSt, anyD.fSc, anyD.fP, anyD.fEx, anyD.fR, anyD.fPo, anyD.fCl, anyD.fY, anyD.fRR, anyD.fBB, anyD.fNl, anyD.fOa, anyD.fFd, anyD.fAo, anyD.fDe, anyD.fIv⟩ hrl d6 hoff m1 next G F N

end
end
section
section
namespace Z_law_31
noncomputable def zP (w : World) (loose : List Str) (mean : ExcName → Option Value) (mg : Str → Option Value) (mb : Str → Option Value) (cd : Value) (fa : Addr) (g : Heap) (L : Addr) (s₀ : Shared) (s : Shared) (Q : Flow → Shared → Prop) (E : Value → Shared → Prop) (m : Str → Option Value) (fut : List (Addr × Obj)) (lx : Addr) (dx : Addr) (P : Addr) (a : Int × Tok) (b : Int × Tok) (c : Int × Tok) (d : Int × Tok) (ln : Int) (tn : Tok) (tw : Tok) (fp : Value) (le1 : Nat) (le2 : Nat) (PA : Addr) (pe : Nat) (lo : Str) (hi : Str) (tl : Tok) (th : Tok) (FA : Addr) (fv : List Value) (fe : Nat) (f : Bool → Bool → Bool → Bool) (r : List Bool) (n : Nat) (st : Nat) (tz : Tok) (ts : Tok) (o4 : Obj) (o6 : Obj) (o7 : Obj) (o9 : Obj) (o12 : Obj) : Prop := ∀ (hlt : LtS lo hi) (hfv : ∀ x y z, ∃ t, fv[(4 * b2i x + 2 * b2i y + b2i z).toNat]? = some (.int (b2i (f x y z)) t)) (hrl : r.length = n) (hn : 6 ≤ n ∧ n ≤ 9) (hst : st ≤ 9) (d4 : o4.data = .cell (some (.int n tz))) (d6 : o6.data = .cell (some (.ref lx))) (d7 : o7.data = .cell (some (.ref PA))) (d9 : o9.data = .cell (some (.ref FA))) (d12 : o12.data = .cell (some (.int (st : Int) ts))) (hoff : ∀ p ∈ (FA, lstO fv fe) :: (PA, lstO [Vd lo hi tl th false, Vd lo hi tl th true] pe) :: (L + 1 + 1 + 1 + 1, o4) :: (L + 1 + 1 + 1 + 1 + 1 + 1, o6) :: (L + 1 + 1 + 1 + 1 + 1 + 1 + 1, o7) :: (L + 1 + 1 + 1 + 1 + 1 + 1 + 1 + 1 + 1, o9) :: (L + 1 + 1 + 1 + 1 + 1 + 1 + 1 + 1 + 1 + 1 + 1 + 1, o12) :: fut, p.1 ≠ lx ∧ p.1 ≠ dx ∧ p.1 ≠ P) (next : ∀ (s : Shared) (e9 : Nat), LawG w loose mean mg mb g L s₀ s → Fr g L s.heap m → News g L s.heap ((lx, instObj 52 dx) :: (dx, dictOf (lexD a b c d ln tn fp tw P) le1) :: (P, lstO ((swN f r st).map (Vd lo hi tl th)) e9) :: (FA, lstO fv fe) :: (PA, lstO [Vd lo hi tl th false, Vd lo hi tl th true] pe) :: (L + 1 + 1 + 1 + 1, o4) :: (L + 1 + 1 + 1 + 1 + 1 + 1, o6) :: (L + 1 + 1 + 1 + 1 + 1 + 1 + 1, o7) :: (L + 1 + 1 + 1 + 1 + 1 + 1 + 1 + 1 + 1, o9) :: (L + 1 + 1 + 1 + 1 + 1 + 1 + 1 + 1 + 1 + 1 + 1 + 1, o12) :: fut) → Q .next s) (G : LawG w loose mean mg mb g L s₀ s) (F : Fr g L s.heap m) (N : News g L s.heap ((lx, instObj 52 dx) :: (dx, dictOf (lexD a b c d ln tn fp tw P) le1) :: (P, lstO ((r).map (Vd lo hi tl th)) le2) :: (FA, lstO fv fe) :: (PA, lstO [Vd lo hi tl th false, Vd lo hi tl th true] pe) :: (L + 1 + 1 + 1 + 1, o4) :: (L + 1 + 1 + 1 + 1 + 1 + 1, o6) :: (L + 1 + 1 + 1 + 1 + 1 + 1 + 1, o7) :: (L + 1 + 1 + 1 + 1 + 1 + 1 + 1 + 1 + 1, o9) :: (L + 1 + 1 + 1 + 1 + 1 + 1 + 1 + 1 + 1 + 1 + 1 + 1, o12) :: fut)), LawX w L fa cd 31 Q E s
noncomputable def zk : DD := pickD fun c => zP (c.fW 0) (c.fLs 0) (c.fMe 0) (c.fMp 0) (c.fMp 1) (c.fV 0) (c.fA 0) (c.fH 0) (c.fA 1) (c.fSh 0) (c.fSh 1) (c.fQ 0) (c.fE 0) (c.fMp 2) (c.fLed 0) (c.fA 2) (c.fA 3) (c.fA 4) (c.fIt 0) (c.fIt 1) (c.fIt 2) (c.fIt 3) (c.fI 0) (c.fT 0) (c.fT 1) (c.fV 1) (c.fN 0) (c.fN 1) (c.fA 5) (c.fN 2) (c.fS 0) (c.fS 1) (c.fT 2) (c.fT 3) (c.fA 6) (c.fLv 0) (c.fN 3) (c.fB3 0) (c.fLb 0) (c.fN 4) (c.fN 5) (c.fT 4) (c.fT 5) (c.fO 0) (c.fO 1) (c.fO 2) (c.fO 3) (c.fO 4)
noncomputable section
@[irreducible] def w : World := zk.fW 0
@[irreducible] def loose : List Str := zk.fLs 0
@[irreducible] def mean : ExcName → Option Value := zk.fMe 0
@[irreducible] def mg : Str → Option Value := zk.fMp 0
@[irreducible] def mb : Str → Option Value := zk.fMp 1
@[irreducible] def cd : Value := zk.fV 0
@[irreducible] def fa : Addr := zk.fA 0
@[irreducible] def g : Heap := zk.fH 0
@[irreducible] def L : Addr := zk.fA 1
@[irreducible] def s₀ : Shared := zk.fSh 0
@[irreducible] def s : Shared := zk.fSh 1
@[irreducible] def Q : Flow → Shared → Prop := zk.fQ 0
@[irreducible] def E : Value → Shared → Prop := zk.fE 0
@[irreducible] def m : Str → Option Value := zk.fMp 2
@[irreducible] def fut : List (Addr × Obj) := zk.fLed 0
@[irreducible] def lx : Addr := zk.fA 2
@[irreducible] def dx : Addr := zk.fA 3
@[irreducible] def P : Addr := zk.fA 4
@[irreducible] def a : Int × Tok := zk.fIt 0
@[irreducible] def b : Int × Tok := zk.fIt 1
@[irreducible] def c : Int × Tok := zk.fIt 2
@[irreducible] def d : Int × Tok := zk.fIt 3
@[irreducible] def ln : Int := zk.fI 0
@[irreducible] def tn : Tok := zk.fT 0
@[irreducible] def tw : Tok := zk.fT 1
@[irreducible] def fp : Value := zk.fV 1
@[irreducible] def le1 : Nat := zk.fN 0
@[irreducible] def le2 : Nat := zk.fN 1
@[irreducible] def PA : Addr := zk.fA 5
@[irreducible] def pe : Nat := zk.fN 2
@[irreducible] def lo : Str := zk.fS 0
@[irreducible] def hi : Str := zk.fS 1
@[irreducible] def tl : Tok := zk.fT 2
@[irreducible] def th : Tok := zk.fT 3
@[irreducible] def FA : Addr := zk.fA 6
@[irreducible] def fv : List Value := zk.fLv 0
@[irreducible] def fe : Nat := zk.fN 3
@[irreducible] def f : Bool → Bool → Bool → Bool := zk.fB3 0
@[irreducible] def r : List Bool := zk.fLb 0
@[irreducible] def n : Nat := zk.fN 4
@[irreducible] def st : Nat := zk.fN 5
@[irreducible] def tz : Tok := zk.fT 4
@[irreducible] def ts : Tok := zk.fT 5
@[irreducible] def o4 : Obj := zk.fO 0
@[irreducible] def o6 : Obj := zk.fO 1
@[irreducible] def o7 : Obj := zk.fO 2
@[irreducible] def o9 : Obj := zk.fO 3
@[irreducible] def o12 : Obj := zk.fO 4
end
theorem zcore : zP w loose mean mg mb cd fa g L s₀ s Q E m fut lx dx P a b c d ln tn tw fp le1 le2 PA pe lo hi tl th FA fv fe f r n st tz ts o4 o6 o7 o9 o12 := by
  k_with "x51" => skip
  k_with "mine all" => ((fail_if_success k_extra "x52"); assumption)
  k_with "eval ListComp" => ((fail_if_success k_extra "x52"); k_here; k_dflt (refine ListComp_I (by k_asm) (by with_unfolding_all rfl) (by decide) (by rfl) (by decide) (by rfl) ?_))
  k_with "SrcI" => ((fail_if_success k_extra "x52"); (refine hold_of ?_))
  k_with "CondEnd" => ((fail_if_success k_extra "x52"); (refine hold_of ?_))
  k_with "call ref" => ((fail_if_success k_extra "x52"); k_here; k_dflt (refine hold_of ?_))
  unfold zP
  intro hlt hfv hrl hn hst d4 d6 d7 d9 d12 hoff next G F N
  have _ : PySem.Challenge.rw_wo0016_01 = PySem.Challenge.rw_wo0016_01 ∧ Mine.hd.heap_1 = Mine.hd.heap_1 := by k_fill; exact ⟨rfl, rfl⟩
  refine lawX_of (by rfl) ?_
  dsimp only [lawD, d_of]
  obtain ⟨B, X, T, h100, hos, hba⟩ := G
  k_steps
  refine unhold ?_
  rename IsRange _ _ _ _ _ _ _ _ => R2
  refine ⟨_, _, _, _, _, _, _, st, _, fun i led => ∃ e, led = (lx, instObj 52 dx) :: (dx, dictOf (lexD a b c d ln tn fp tw P) le1) :: (P, lstO ((swN f r i).map (Vd lo hi tl th)) e) :: (FA, lstO fv fe) :: (PA, lstO [Vd lo hi tl th false, Vd lo hi tl th true] pe) :: (L + 1 + 1 + 1 + 1, o4) :: (L + 1 + 1 + 1 + 1 + 1 + 1, o6) :: (L + 1 + 1 + 1 + 1 + 1 + 1 + 1, o7) :: (L + 1 + 1 + 1 + 1 + 1 + 1 + 1 + 1 + 1, o9) :: (L + 1 + 1 + 1 + 1 + 1 + 1 + 1 + 1 + 1 + 1 + 1 + 1, o12) :: fut, rfl, rfl, by k_asm, by k_asm, R2, small_n st (by omega), range_n st, ⟨le2, rfl⟩, ?_, ?_⟩
  · rintro s2 ⟨h2, rfl⟩ i hil news v t I oI C oC D m₂ h tk E1 hv hC hx F N off ne ⟨e0, rfl⟩
    subst hv
    k_steps
    refine unhold ?_
    rename News _ _ _ _ => N5
    have hro : ∀ p ∈ (I, oI) :: (C, oC) :: (D, LCg.lst []) :: (FA, lstO fv fe) :: (PA, lstO [Vd lo hi tl th false, Vd lo hi tl th true] pe) :: (L + 1 + 1 + 1 + 1, o4) :: (L + 1 + 1 + 1 + 1 + 1 + 1, o6) :: (L + 1 + 1 + 1 + 1 + 1 + 1 + 1, o7) :: (L + 1 + 1 + 1 + 1 + 1 + 1 + 1 + 1 + 1, o9) :: (L + 1 + 1 + 1 + 1 + 1 + 1 + 1 + 1 + 1 + 1 + 1 + 1, o12) :: fut, p.1 ≠ lx ∧ p.1 ≠ dx ∧ p.1 ≠ P := off_lex off hoff
    refine' useH (swept_H w loose mean mg mb lx dx P PA FA a b c d ln tn fp tw le1 e0 pe fe lo hi tl th f fv n tz (true, true) (swN f r i) hlt (by rw [swN_len, hrl]) (by omega) (by omega) hfv (hoff _ (.tail _ (.head _))) (hoff _ (.head _))) ?B ?F ?X ?N ?T ?hh ?hA ?hf ?hk ?hd ?hu ?hsub ⟨(N5 (PA, _) (by k_mem)).1, (N5 (FA, _) (by k_mem)).1⟩ ?_
    (case B => assumption)
    (case F => assumption)
    (case X => assumption)
    (case N => assumption)
    (case T => assumption)
    (case hh => exact rfl)
    (case hA => exact rfl)
    (case hf => exact rfl)
    (case hk => exact rfl)
    (case hd => (simp only [depth_deeper, depth_caller, recursionLimit]; omega))
    (case hu => (simp only [units_deeper, units_caller, cLine]; omega))
    (case hsub => exact sub_lexN)
    rintro v now h' tk' ⟨rfl, e9, rfl⟩ F' kp fr KK
    have N6 : News g L h' ((I, oI) :: (C, oC) :: (D, LCg.lst []) :: (lx, instObj 52 dx) :: (dx, dictOf (lexD a b c d ln tn fp tw P) le1) :: (P, lstO ((swN f r (i + 1)).map (Vd lo hi tl th)) e9) :: (FA, lstO fv fe) :: (PA, lstO [Vd lo hi tl th false, Vd lo hi tl th true] pe) :: (L + 1 + 1 + 1 + 1, o4) :: (L + 1 + 1 + 1 + 1 + 1 + 1, o6) :: (L + 1 + 1 + 1 + 1 + 1 + 1 + 1, o7) :: (L + 1 + 1 + 1 + 1 + 1 + 1 + 1 + 1 + 1, o9) :: (L + 1 + 1 + 1 + 1 + 1 + 1 + 1 + 1 + 1 + 1 + 1 + 1, o12) :: fut) := KK _ (lex_kept (by rw [← hrl]; rfl) hro)
    clear KK kp fr N5
    k_steps
    refine unhold ?_
    exact ⟨rfl, _, _, _, rfl, F', N6, off, _, rfl⟩
  · rintro nw D h tk ⟨e0, rfl⟩ F N o1
    k_steps
    rename Fr _ _ _ _ => F5
    rename News _ _ _ _ => N5
    exact next _ e0 ⟨B, X, T, h100, hos, hba⟩ F5 (nd1 (nd1 N5))
theorem zall : ∀ c : DD, zP (c.fW 0) (c.fLs 0) (c.fMe 0) (c.fMp 0) (c.fMp 1) (c.fV 0) (c.fA 0) (c.fH 0) (c.fA 1) (c.fSh 0) (c.fSh 1) (c.fQ 0) (c.fE 0) (c.fMp 2) (c.fLed 0) (c.fA 2) (c.fA 3) (c.fA 4) (c.fIt 0) (c.fIt 1) (c.fIt 2) (c.fIt 3) (c.fI 0) (c.fT 0) (c.fT 1) (c.fV 1) (c.fN 0) (c.fN 1) (c.fA 5) (c.fN 2) (c.fS 0) (c.fS 1) (c.fT 2) (c.fT 3) (c.fA 6) (c.fLv 0) (c.fN 3) (c.fB3 0) (c.fLb 0) (c.fN 4) (c.fN 5) (c.fT 4) (c.fT 5) (c.fO 0) (c.fO 1) (c.fO 2) (c.fO 3) (c.fO 4) := allD (by with_unfolding_all exact zcore)
end Z_law_31
theorem law_31 (w : World) (loose : List Str) (mean : ExcName → Option Value) (mg mb : Str → Option Value) (cd : Value) (fa : Addr) (g : Heap) (L : Addr) (s₀ s : Shared) (Q : Flow → Shared → Prop) (E : Value → Shared → Prop) (m : Str → Option Value) (fut : List (Addr × Obj)) (lx dx P : Addr) (a b c d : Int × Tok) (ln : Int) (tn tw : Tok) (fp : Value) (le1 le2 : Nat) (PA : Addr) (pe : Nat) (lo hi : Str) (tl th : Tok) (hlt : LtS lo hi) (FA : Addr) (fv : List Value) (fe : Nat) (f : Bool → Bool → Bool → Bool) (hfv : ∀ x y z, ∃ t, fv[(4 * b2i x + 2 * b2i y + b2i z).toNat]? = some (.int (b2i (f x y z)) t)) (r : List Bool) (n st : Nat) (hrl : r.length = n) (hn : 6 ≤ n ∧ n ≤ 9) (hst : st ≤ 9) (tz ts : Tok) (o4 o6 o7 o9 o12 : Obj) (d4 : o4.data = .cell (some (.int n tz))) (d6 : o6.data = .cell (some (.ref lx))) (d7 : o7.data = .cell (some (.ref PA))) (d9 : o9.data = .cell (some (.ref FA))) (d12 : o12.data = .cell (some (.int (st : Int) ts))) (hoff : ∀ p ∈ (FA, lstO fv fe) :: (PA, lstO [Vd lo hi tl th false, Vd lo hi tl th true] pe) :: (L + 1 + 1 + 1 + 1, o4) :: (L + 1 + 1 + 1 + 1 + 1 + 1, o6) :: (L + 1 + 1 + 1 + 1 + 1 + 1 + 1, o7) :: (L + 1 + 1 + 1 + 1 + 1 + 1 + 1 + 1 + 1, o9) :: (L + 1 + 1 + 1 + 1 + 1 + 1 + 1 + 1 + 1 + 1 + 1 + 1, o12) :: fut, p.1 ≠ lx ∧ p.1 ≠ dx ∧ p.1 ≠ P)
    (next : ∀ (s : Shared) (e9 : Nat), LawG w loose mean mg mb g L s₀ s → Fr g L s.heap m → News g L s.heap ((lx, instObj 52 dx) :: (dx, dictOf (lexD a b c d ln tn fp tw P) le1) :: (P, lstO ((swN f r st).map (Vd lo hi tl th)) e9) :: (FA, lstO fv fe) :: (PA, lstO [Vd lo hi tl th false, Vd lo hi tl th true] pe) :: (L + 1 + 1 + 1 + 1, o4) :: (L + 1 + 1 + 1 + 1 + 1 + 1, o6) :: (L + 1 + 1 + 1 + 1 + 1 + 1 + 1, o7) :: (L + 1 + 1 + 1 + 1 + 1 + 1 + 1 + 1 + 1, o9) :: (L + 1 + 1 + 1 + 1 + 1 + 1 + 1 + 1 + 1 + 1 + 1 + 1, o12) :: fut) → Q .next s)
    (G : LawG w loose mean mg mb g L s₀ s) (F : Fr g L s.heap m) (N : News g L s.heap ((lx, instObj 52 dx) :: (dx, dictOf (lexD a b c d ln tn fp tw P) le1) :: (P, lstO ((r).map (Vd lo hi tl th)) le2) :: (FA, lstO fv fe) :: (PA, lstO [Vd lo hi tl th false, Vd lo hi tl th true] pe) :: (L + 1 + 1 + 1 + 1, o4) :: (L + 1 + 1 + 1 + 1 + 1 + 1, o6) :: (L + 1 + 1 + 1 + 1 + 1 + 1 + 1, o7) :: (L + 1 + 1 + 1 + 1 + 1 + 1 + 1 + 1 + 1, o9) :: (L + 1 + 1 + 1 + 1 + 1 + 1 + 1 + 1 + 1 + 1 + 1 + 1, o12) :: fut)) : LawX w L fa cd 31 Q E s := by
  exact Z_law_31.zall ⟨fun _ => w, fun _ => loose, fun _ => mean, fun i => [mg, mb, m].getD i mg, fun i => [fa, L, lx, dx, P, PA, FA].getD i fa, fun i => [le1, le2, pe, fe, n, st].getD i le1, fun _ => ln, fun i => [tn, tw, tl, th, tz, ts].getD i tn, fun i => [cd, fp].getD i cd, fun i => [lo, hi].getD i lo, fun i => [o4, o6, o7, o9, o12].getD i o4, fun _ => g, fun i => [s₀, s].getD i s₀, fun _ => fv, anyD.fLi, anyD.fLn, fun _ => r, fun _ => fut, fun _ => Q, fun _ => E, anyD.fB, fun i => [a, b, c, d].getD i a, anyD.fAv, fun _ => f, anyD.fGd, anyD.fEn, anyD.fAr, anyD.fOv, anyD.fOp, anyD.fLa, anyD.fEnv, anyD.fSs, anyD.fSt, anyD.fSc, anyD.fP, anyD.fEx, anyD.fR, anyD.fPo, anyD.fCl, anyD.fY, anyD.fRR, anyD.fBB, anyD.fNl, anyD.fOa, anyD.fFd, anyD.fAo, anyD.fDe, anyD.fIv⟩ hlt hfv hrl hn hst d4 d6 d7 d9 d12 hoff next G F N

end
end
section
section
variable (w : World) (loose : List Str) (mean : ExcName → Option Value) (mg mb : Str → Option Value)
theorem law_32 (cd : Value) (fa : Addr) (g : Heap) (L : Addr) (s₀ s : Shared) (Q : Flow → Shared → Prop) (E : Value → Shared → Prop) (m : Str → Option Value) (fut : List (Addr × Obj)) (BD : Addr) (bv : List Value) (be : Nat) (bs : List Bool) (hb : IntsAre bv (bs.map b2i)) (n : Nat) (tz : Tok) (hn : 6 ≤ n ∧ n ≤ 9) (o4 : Obj) (d4 : o4.data = .cell (some (.int n tz))) (hbl : bs.length = n) (m1 : m (Str.ofString "bits") = some (.ref BD))
    (next : ∀ (s : Shared) , LawG w loose mean mg mb g L s₀ s → Fr g L s.heap (upd m (Str.ofString "tie") (.bool (decide ((n : Int) - 2 * (bs.map b2i).sum = 0)) )) → News g L s.heap ((BD, lstO bv be) :: (L + 1 + 1 + 1 + 1, o4) :: fut) → Q .next s)
    (G : LawG w loose mean mg mb g L s₀ s) (F : Fr g L s.heap m) (N : News g L s.heap ((BD, lstO bv be) :: (L + 1 + 1 + 1 + 1, o4) :: fut)) : LawX w L fa cd 32 Q E s := by
  k_with "x52" => skip
  k_with "mine all" => ((fail_if_success k_extra "x53"); assumption)
  k_with "call ref" => ((fail_if_success k_extra "x53"); k_here; k_dflt (refine hold_of ?_))
  k_with "call builtin:sum" => ((fail_if_success k_extra "x53"); k_here; k_dflt (refine hold_of ?_))
  have _ : PySem.Challenge.rw_wo0016_01 = PySem.Challenge.rw_wo0016_01 ∧ Mine.hd.heap_1 = Mine.hd.heap_1 := by k_fill; exact ⟨rfl, rfl⟩
  refine lawX_of (by rfl) ?_
  dsimp only [lawD, d_of]
  obtain ⟨B, X, T, h100, hos, hba⟩ := G
  have F := fr_know F m1
  have hs0 := sum_bits bs
  have hs1 := List.countP_le_length (p := id) (l := bs)
  k_steps
  refine unhold ?_
  rename Fr _ _ _ _ => F5
  rename News _ _ _ _ => N5
  refine PyProof.Rows.LSm.sum_ints (vs := bv) F5 N5 rfl ⟨_, (N5 _ (.head _)).1, rfl, _, rfl⟩ hb ?_
  intro h' tk' t' F6 N6
  generalize (bs.map b2i).sum = z at *
  k_steps
  refine unhold ?_
  rename Fr _ _ _ _ => F7
  rename News _ _ _ _ => N7
  refine' useP (eof_H w loose mean mg mb ((n : Int) - 2 * z) _ (decide ((n : Int) - 2 * z = 0)) ?hb) ?B ?F ?X ?N ?T ?hh ?hA ?hf ?hk ?hd ?hu trivial ?_
  (case B => assumption)
  (case F => exact F7)
  (case X => assumption)
  (case N => exact N7)
  (case T => assumption)
  (case hh => exact rfl)
  (case hA => exact rfl)
  (case hf => exact rfl)
  (case hk => exact rfl)
  (case hd => (simp only [depth_deeper, depth_caller, recursionLimit]; omega))
  (case hu => (simp only [units_deeper, units_caller, cLine]; omega))
  (case hb => rfl)
  rintro v now h8 tk8 ⟨rfl, rfl⟩ F8 N8 l8
  clear l8
  k_steps
  rename Fr _ _ _ _ => F9
  rename News _ _ _ _ => N9
  refine next _ ?_ (fr_unk1 F9 m1) N9
  · exact ⟨B, X, T, h100, hos, hba⟩
end
end
section
section
variable (w : World) (loose : List Str) (mean : ExcName → Option Value) (mg mb : Str → Option Value)
theorem law_33 (cd : Value) (fa : Addr) (g : Heap) (L : Addr) (s₀ s : Shared) (Q : Flow → Shared → Prop) (E : Value → Shared → Prop) (m : Str → Option Value) (fut : List (Addr × Obj)) (BD LA : Addr) (bv lv : List Value) (be le : Nat) (bs la : List Bool) (hb : IntsAre bv (bs.map b2i)) (hla : IntsAre lv (la.map b2i)) (mo : Nat) (hmo : mo ≤ 9) (tm : Tok) (n : Nat) (tz : Tok) (hn : 6 ≤ n ∧ n ≤ 9) (o4 : Obj) (d4 : o4.data = .cell (some (.int n tz))) (hbl : bs.length = n) (hlal : la.length = n) (o12 o13 o14 : Obj) (d12 : o12.data = .cell (some (.int (mo : Int) tm))) (d13 : o13.data = .cell (some (.ref LA))) (d14 : o14.data = .cell none) (f14 : ∀ p ∈ fut, p.1 ≠ L + 1 + 1 + 1 + 1 + 1 + 1 + 1 + 1 + 1 + 1 + 1 + 1 + 1 + 1) (hBD : @Ne Nat BD (L + 1 + 1 + 1 + 1 + 1 + 1 + 1 + 1 + 1 + 1 + 1 + 1 + 1 + 1)) (hLA : @Ne Nat LA (L + 1 + 1 + 1 + 1 + 1 + 1 + 1 + 1 + 1 + 1 + 1 + 1 + 1 + 1)) (m1 : m (Str.ofString "tie") = some (.bool (decide ((n : Int) - 2 * (bs.map b2i).sum = 0)))) (m2 : m (Str.ofString "bits") = some (.ref BD))
    (next : ∀ (s : Shared) (FI : Addr) (fv : List Value) (fe : Nat) (o14 : Obj), LawG w loose mean mg mb g L s₀ s → Fr g L s.heap m → News g L s.heap ((FI, lstO fv fe) :: (BD, lstO bv be) :: (LA, lstO lv le) :: (L + 1 + 1 + 1 + 1, o4) :: (L + 1 + 1 + 1 + 1 + 1 + 1 + 1 + 1 + 1 + 1 + 1 + 1, o12) :: (L + 1 + 1 + 1 + 1 + 1 + 1 + 1 + 1 + 1 + 1 + 1 + 1 + 1, o13) :: (L + 1 + 1 + 1 + 1 + 1 + 1 + 1 + 1 + 1 + 1 + 1 + 1 + 1 + 1, o14) :: fut) → IntsAre fv ((finP n bs la mo).map b2i) → o14.data = .cell (some (.ref FI)) → (∀ p ∈ (BD, lstO bv be) :: (LA, lstO lv le) :: (L + 1 + 1 + 1 + 1, o4) :: (L + 1 + 1 + 1 + 1 + 1 + 1 + 1 + 1 + 1 + 1 + 1 + 1, o12) :: (L + 1 + 1 + 1 + 1 + 1 + 1 + 1 + 1 + 1 + 1 + 1 + 1 + 1, o13) :: (L + 1 + 1 + 1 + 1 + 1 + 1 + 1 + 1 + 1 + 1 + 1 + 1 + 1 + 1, o14) :: fut, p.1 ≠ FI) → Q .next s)
    (G : LawG w loose mean mg mb g L s₀ s) (F : Fr g L s.heap m) (N : News g L s.heap ((BD, lstO bv be) :: (LA, lstO lv le) :: (L + 1 + 1 + 1 + 1, o4) :: (L + 1 + 1 + 1 + 1 + 1 + 1 + 1 + 1 + 1 + 1 + 1 + 1, o12) :: (L + 1 + 1 + 1 + 1 + 1 + 1 + 1 + 1 + 1 + 1 + 1 + 1 + 1, o13) :: (L + 1 + 1 + 1 + 1 + 1 + 1 + 1 + 1 + 1 + 1 + 1 + 1 + 1 + 1, o14) :: fut)) : LawX w L fa cd 33 Q E s := by
  k_with "x53" => skip
  k_with "mine all" => ((fail_if_success k_extra "x54"); assumption)
  k_with "CompSrc" => ((fail_if_success k_extra "x54"); k_here; k_dflt (refine hold_of ?_))
  k_with "CompEnd" => ((fail_if_success k_extra "x54"); (refine hold_of ?_))
  k_with "call builtin:sum" => ((fail_if_success k_extra "x54"); k_here; k_dflt (refine hold_of ?_))
  k_with "binaryOp Mult ref int" => ((fail_if_success k_extra "x54"); k_here; k_dflt (refine hold_of ?_))
  have _ : PySem.Challenge.rw_wo0016_01 = PySem.Challenge.rw_wo0016_01 ∧ Mine.hd.heap_1 = Mine.hd.heap_1 := by k_fill; exact ⟨rfl, rfl⟩
  refine lawX_of (by rfl) ?_
  dsimp only [lawD, d_of]
  obtain ⟨B, X, T, h100, hos, hba⟩ := G
  have hz := sum_cnt bs
  have hc := cnt_le bs
  have hlv := hla.length
  rw [List.length_map] at hlv
  by_cases htb : 2 * cntB bs = n
  · have e9 : decide ((n : Int) - 2 * (bs.map b2i).sum = 0) = true := decide_eq_true (by omega)
    rw [e9] at m1
    have ef : finP n bs la mo = la.map fun b => b != decide (mo % 2 = 1) := if_pos htb
    have F := fr_know F m1
    k_steps
    refine unhold ?_
    rename Fr _ _ _ _ => F5
    rename News _ _ _ _ => N5
    refine LCg.CompSrc.ledger (its := lv.toArray) (k := le) rfl F5 N5 (by k_mem) (by rw [PySem.sizeLine_eq]; simp; omega) ?_
    intro g9
    refine inv_rest (fun i ys led => IntsAre ys ((la.take i).map fun b => b2i (b != decide (mo % 2 = 1))) ∧ led = (BD, lstO bv be) :: (LA, lstO lv le) :: (L + 1 + 1 + 1 + 1, o4) :: (L + 1 + 1 + 1 + 1 + 1 + 1 + 1 + 1 + 1 + 1 + 1 + 1, o12) :: (L + 1 + 1 + 1 + 1 + 1 + 1 + 1 + 1 + 1 + 1 + 1 + 1 + 1, o13) :: (L + 1 + 1 + 1 + 1 + 1 + 1 + 1 + 1 + 1 + 1 + 1 + 1 + 1 + 1, o14) :: fut) ⟨.nil, rfl⟩ ?_ ?_
    · intro i v I oI C oC D m₂ ys led h tk E1 hil hI hv hC hx F N off ne
      obtain ⟨hI, rfl⟩ := hI
      have hi9 : i < la.length := by rw [← hlv]; simpa using hil
      obtain ⟨t9, hv9⟩ := ints_at hla (i := i) (x := b2i la[i]) (by simp [hi9])
      rw [List.getElem?_toArray, hv9] at hv
      obtain rfl := (Option.some.inj hv).symm
      have hb3 := b2i_bd la[i]
      have hbo := bit_odd la[i] mo
      have hb4 := b2i_bd (la[i] != decide (mo % 2 = 1))
      generalize hq8 : la[i] = b8 at *
      k_steps
      rename Fr _ _ _ _ => F6
      rename News _ _ _ _ => N6
      refine unhold (LCg.CompEnd.intro F6 N6 ((BD, lstO bv be) :: (LA, lstO lv le) :: (L + 1 + 1 + 1 + 1, o4) :: (L + 1 + 1 + 1 + 1 + 1 + 1 + 1 + 1 + 1 + 1 + 1 + 1, o12) :: (L + 1 + 1 + 1 + 1 + 1 + 1 + 1 + 1 + 1 + 1 + 1 + 1 + 1, o13) :: (L + 1 + 1 + 1 + 1 + 1 + 1 + 1 + 1 + 1 + 1 + 1 + 1 + 1 + 1, o14) :: fut) (fun q9 hq9 => by k_ownIn) off (.inr ⟨_, by k_mem, rfl, _, rfl⟩) ⟨?_, rfl⟩)
      rw [List.take_add_one, List.map_append, List.getElem?_eq_getElem hi9, hq8, hbo]
      exact hI.append (.cons _ _ .nil)
    · rintro ys led ⟨hys, rfl⟩
      rw [show lv.toArray.size = la.length by simpa using hlv, List.take_length] at hys
      intro D h tk F N o1
      have hall := off1_all o1
      have kd : D ≠ L + 1 + 1 + 1 + 1 + 1 + 1 + 1 + 1 + 1 + 1 + 1 + 1 + 1 + 1 := (hall (L + 1 + 1 + 1 + 1 + 1 + 1 + 1 + 1 + 1 + 1 + 1 + 1 + 1 + 1, o14) (by k_mem)).symm
      k_steps
      rename Fr _ _ _ _ => F10
      rename News _ _ _ _ => N10
      rename _ = Data.cell (some (Value.ref D)) => d9
      refine next _ D _ _ _ ?_ (fr_unk F10 m1) N10 (by rw [ef, List.map_map]; exact hys) d9 (sep6 hall kd)
      exact ⟨B, X, T, h100, hos, hba⟩
  · have e9 : decide ((n : Int) - 2 * (bs.map b2i).sum = 0) = false := decide_eq_false (by omega)
    rw [e9] at m1
    have F := fr_know2 F m1 m2
    rcases Nat.lt_or_ge n (2 * cntB bs) with hlt | hge
    · have ef : List.replicate n true = finP n bs la mo := by unfold finP; rw [if_neg htb, decide_eq_true hlt]
      k_steps
      refine unhold ?_
      rename Fr _ _ _ _ => F5
      rename News _ _ _ _ => N5
      refine PyProof.Rows.LSm.sum_ints (vs := bv) F5 N5 rfl ⟨_, (N5 _ (.head _)).1, rfl, _, rfl⟩ hb ?_
      intro h' tk' t' F6 N6
      rw [hz]
      k_steps
      refine unhold ?_
      rename Fr _ _ _ _ => F7
      rename News _ _ _ _ => N7
      refine mulV F7 N7 (.head _) (by omega) (by omega) fun D h8 F8 N8 l8 => ?_
      have hall : ∀ q ∈ (BD, lstO bv be) :: (LA, lstO lv le) :: (L + 1 + 1 + 1 + 1, o4) :: (L + 1 + 1 + 1 + 1 + 1 + 1 + 1 + 1 + 1 + 1 + 1 + 1, o12) :: (L + 1 + 1 + 1 + 1 + 1 + 1 + 1 + 1 + 1 + 1 + 1 + 1 + 1, o13) :: (L + 1 + 1 + 1 + 1 + 1 + 1 + 1 + 1 + 1 + 1 + 1 + 1 + 1 + 1, o14) :: fut, q.1 ≠ D := fun q hq => Nat.ne_of_lt (l8 q (.tail _ hq))
      have kd : D ≠ L + 1 + 1 + 1 + 1 + 1 + 1 + 1 + 1 + 1 + 1 + 1 + 1 + 1 + 1 := (hall (L + 1 + 1 + 1 + 1 + 1 + 1 + 1 + 1 + 1 + 1 + 1 + 1 + 1 + 1, o14) (by k_mem)).symm
      have N9 := nd2 N8
      clear N8 N7 F7 l8
      k_steps
      rename Fr _ _ _ _ => F10
      rename News _ _ _ _ => N10
      rename _ = Data.cell (some (Value.ref D)) => d9
      refine next _ D _ _ _ ?_ (fr_unk02 F10 m1 m2) N10 (ef ▸ ints_rep' (b := true) rfl _) d9 (sep6 hall kd)
      exact ⟨B, X, T, h100, hos, hba⟩
    · have ef : List.replicate n false = finP n bs la mo := by unfold finP; rw [if_neg htb, decide_eq_false (by omega)]
      k_steps
      refine unhold ?_
      rename Fr _ _ _ _ => F5
      rename News _ _ _ _ => N5
      refine PyProof.Rows.LSm.sum_ints (vs := bv) F5 N5 rfl ⟨_, (N5 _ (.head _)).1, rfl, _, rfl⟩ hb ?_
      intro h' tk' t' F6 N6
      rw [hz]
      k_steps
      refine unhold ?_
      rename Fr _ _ _ _ => F7
      rename News _ _ _ _ => N7
      refine mulV F7 N7 (.head _) (by omega) (by omega) fun D h8 F8 N8 l8 => ?_
      have hall : ∀ q ∈ (BD, lstO bv be) :: (LA, lstO lv le) :: (L + 1 + 1 + 1 + 1, o4) :: (L + 1 + 1 + 1 + 1 + 1 + 1 + 1 + 1 + 1 + 1 + 1 + 1, o12) :: (L + 1 + 1 + 1 + 1 + 1 + 1 + 1 + 1 + 1 + 1 + 1 + 1 + 1, o13) :: (L + 1 + 1 + 1 + 1 + 1 + 1 + 1 + 1 + 1 + 1 + 1 + 1 + 1 + 1, o14) :: fut, q.1 ≠ D := fun q hq => Nat.ne_of_lt (l8 q (.tail _ hq))
      have kd : D ≠ L + 1 + 1 + 1 + 1 + 1 + 1 + 1 + 1 + 1 + 1 + 1 + 1 + 1 + 1 := (hall (L + 1 + 1 + 1 + 1 + 1 + 1 + 1 + 1 + 1 + 1 + 1 + 1 + 1 + 1, o14) (by k_mem)).symm
      have N9 := nd2 N8
      clear N8 N7 F7 l8
      k_steps
      rename Fr _ _ _ _ => F10
      rename News _ _ _ _ => N10
      rename _ = Data.cell (some (Value.ref D)) => d9
      refine next _ D _ _ _ ?_ (fr_unk02 F10 m1 m2) N10 (ef ▸ ints_rep' (b := false) rfl _) d9 (sep6 hall kd)
      exact ⟨B, X, T, h100, hos, hba⟩
end
end
section
section
namespace Z_law_34
noncomputable def zP (w : World) (loose : List Str) (mean : ExcName → Option Value) (mg : Str → Option Value) (mb : Str → Option Value) (cd : Value) (fa : Addr) (g : Heap) (L : Addr) (s₀ : Shared) (s : Shared) (Q : Flow → Shared → Prop) (E : Value → Shared → Prop) (m : Str → Option Value) (fut : List (Addr × Obj)) (lx : Addr) (dx : Addr) (P : Addr) (a : Int × Tok) (b : Int × Tok) (c : Int × Tok) (d : Int × Tok) (ln : Int) (tn : Tok) (tw : Tok) (fp : Value) (le1 : Nat) (le2 : Nat) (FI : Addr) (DU : Addr) (fe : Nat) (de : Nat) (lo : Str) (hi : Str) (tl : Tok) (th : Tok) (dl : Tok) (dh : Tok) (r : List Bool) (fl : List Bool) (fv : List Value) (n : Nat) (st : Nat) (mo : Nat) (tz : Tok) (ts : Tok) (tm : Tok) (o4 : Obj) (o6 : Obj) (o10 : Obj) (o11 : Obj) (o12 : Obj) (o14 : Obj) : Prop := ∀ (hfl : IntsAre fv (fl.map b2i)) (hrl : r.length = n) (hfll : fl.length = n) (hn : 6 ≤ n ∧ n ≤ 9) (hst : st ≤ 9) (hmo : mo ≤ 9) (hring : r = (List.range n).map fun k => atR fl (k + st + mo)) (ok1 : PyData.strOk lo = true) (ok2 : PyData.strOk hi = true) (d4 : o4.data = .cell (some (.int n tz))) (d6 : o6.data = .cell (some (.ref lx))) (d10 : o10.data = .cell (some (.ref DU))) (d11 : o11.data = .cell (some (.int (st : Int) ts))) (d12 : o12.data = .cell (some (.int (mo : Int) tm))) (d14 : o14.data = .cell (some (.ref FI))) (hoff : ∀ p ∈ (FI, lstO fv fe) :: (DU, lstO [.str lo dl, .str hi dh] de) :: (L + 1 + 1 + 1 + 1, o4) :: (L + 1 + 1 + 1 + 1 + 1 + 1, o6) :: (L + 1 + 1 + 1 + 1 + 1 + 1 + 1 + 1 + 1 + 1, o10) :: (L + 1 + 1 + 1 + 1 + 1 + 1 + 1 + 1 + 1 + 1 + 1, o11) :: (L + 1 + 1 + 1 + 1 + 1 + 1 + 1 + 1 + 1 + 1 + 1 + 1, o12) :: (L + 1 + 1 + 1 + 1 + 1 + 1 + 1 + 1 + 1 + 1 + 1 + 1 + 1 + 1, o14) :: fut, p.1 ≠ lx ∧ p.1 ≠ dx ∧ p.1 ≠ P) (next : ∀ (s : Shared) (e9 : Nat), LawG w loose mean mg mb g L s₀ s → Fr g L s.heap m → News g L s.heap ((lx, instObj 52 dx) :: (dx, dictOf (lexD a b c d ln tn fp tw P) le1) :: (P, lstO [] e9) :: (FI, lstO fv fe) :: (DU, lstO [.str lo dl, .str hi dh] de) :: (L + 1 + 1 + 1 + 1, o4) :: (L + 1 + 1 + 1 + 1 + 1 + 1, o6) :: (L + 1 + 1 + 1 + 1 + 1 + 1 + 1 + 1 + 1 + 1, o10) :: (L + 1 + 1 + 1 + 1 + 1 + 1 + 1 + 1 + 1 + 1 + 1, o11) :: (L + 1 + 1 + 1 + 1 + 1 + 1 + 1 + 1 + 1 + 1 + 1 + 1, o12) :: (L + 1 + 1 + 1 + 1 + 1 + 1 + 1 + 1 + 1 + 1 + 1 + 1 + 1 + 1, o14) :: fut) → Q .next s) (G : LawG w loose mean mg mb g L s₀ s) (F : Fr g L s.heap m) (N : News g L s.heap ((lx, instObj 52 dx) :: (dx, dictOf (lexD a b c d ln tn fp tw P) le1) :: (P, lstO ((r).map (Vd lo hi tl th)) le2) :: (FI, lstO fv fe) :: (DU, lstO [.str lo dl, .str hi dh] de) :: (L + 1 + 1 + 1 + 1, o4) :: (L + 1 + 1 + 1 + 1 + 1 + 1, o6) :: (L + 1 + 1 + 1 + 1 + 1 + 1 + 1 + 1 + 1 + 1, o10) :: (L + 1 + 1 + 1 + 1 + 1 + 1 + 1 + 1 + 1 + 1 + 1, o11) :: (L + 1 + 1 + 1 + 1 + 1 + 1 + 1 + 1 + 1 + 1 + 1 + 1, o12) :: (L + 1 + 1 + 1 + 1 + 1 + 1 + 1 + 1 + 1 + 1 + 1 + 1 + 1 + 1, o14) :: fut)), LawX w L fa cd 34 Q E s
noncomputable def zk : DD := pickD fun c => zP (c.fW 0) (c.fLs 0) (c.fMe 0) (c.fMp 0) (c.fMp 1) (c.fV 0) (c.fA 0) (c.fH 0) (c.fA 1) (c.fSh 0) (c.fSh 1) (c.fQ 0) (c.fE 0) (c.fMp 2) (c.fLed 0) (c.fA 2) (c.fA 3) (c.fA 4) (c.fIt 0) (c.fIt 1) (c.fIt 2) (c.fIt 3) (c.fI 0) (c.fT 0) (c.fT 1) (c.fV 1) (c.fN 0) (c.fN 1) (c.fA 5) (c.fA 6) (c.fN 2) (c.fN 3) (c.fS 0) (c.fS 1) (c.fT 2) (c.fT 3) (c.fT 4) (c.fT 5) (c.fLb 0) (c.fLb 1) (c.fLv 0) (c.fN 4) (c.fN 5) (c.fN 6) (c.fT 6) (c.fT 7) (c.fT 8) (c.fO 0) (c.fO 1) (c.fO 2) (c.fO 3) (c.fO 4) (c.fO 5)
noncomputable section
@[irreducible] def w : World := zk.fW 0
@[irreducible] def loose : List Str := zk.fLs 0
@[irreducible] def mean : ExcName → Option Value := zk.fMe 0
@[irreducible] def mg : Str → Option Value := zk.fMp 0
@[irreducible] def mb : Str → Option Value := zk.fMp 1
@[irreducible] def cd : Value := zk.fV 0
@[irreducible] def fa : Addr := zk.fA 0
@[irreducible] def g : Heap := zk.fH 0
@[irreducible] def L : Addr := zk.fA 1
@[irreducible] def s₀ : Shared := zk.fSh 0
@[irreducible] def s : Shared := zk.fSh 1
@[irreducible] def Q : Flow → Shared → Prop := zk.fQ 0
@[irreducible] def E : Value → Shared → Prop := zk.fE 0
@[irreducible] def m : Str → Option Value := zk.fMp 2
@[irreducible] def fut : List (Addr × Obj) := zk.fLed 0
@[irreducible] def lx : Addr := zk.fA 2
@[irreducible] def dx : Addr := zk.fA 3
@[irreducible] def P : Addr := zk.fA 4
@[irreducible] def a : Int × Tok := zk.fIt 0
@[irreducible] def b : Int × Tok := zk.fIt 1
@[irreducible] def c : Int × Tok := zk.fIt 2
@[irreducible] def d : Int × Tok := zk.fIt 3
@[irreducible] def ln : Int := zk.fI 0
@[irreducible] def tn : Tok := zk.fT 0
@[irreducible] def tw : Tok := zk.fT 1
@[irreducible] def fp : Value := zk.fV 1
@[irreducible] def le1 : Nat := zk.fN 0
@[irreducible] def le2 : Nat := zk.fN 1
@[irreducible] def FI : Addr := zk.fA 5
@[irreducible] def DU : Addr := zk.fA 6
@[irreducible] def fe : Nat := zk.fN 2
@[irreducible] def de : Nat := zk.fN 3
@[irreducible] def lo : Str := zk.fS 0
@[irreducible] def hi : Str := zk.fS 1
@[irreducible] def tl : Tok := zk.fT 2
@[irreducible] def th : Tok := zk.fT 3
@[irreducible] def dl : Tok := zk.fT 4
@[irreducible] def dh : Tok := zk.fT 5
@[irreducible] def r : List Bool := zk.fLb 0
@[irreducible] def fl : List Bool := zk.fLb 1
@[irreducible] def fv : List Value := zk.fLv 0
@[irreducible] def n : Nat := zk.fN 4
@[irreducible] def st : Nat := zk.fN 5
@[irreducible] def mo : Nat := zk.fN 6
@[irreducible] def tz : Tok := zk.fT 6
@[irreducible] def ts : Tok := zk.fT 7
@[irreducible] def tm : Tok := zk.fT 8
@[irreducible] def o4 : Obj := zk.fO 0
@[irreducible] def o6 : Obj := zk.fO 1
@[irreducible] def o10 : Obj := zk.fO 2
@[irreducible] def o11 : Obj := zk.fO 3
@[irreducible] def o12 : Obj := zk.fO 4
@[irreducible] def o14 : Obj := zk.fO 5
end
theorem zcore : zP w loose mean mg mb cd fa g L s₀ s Q E m fut lx dx P a b c d ln tn tw fp le1 le2 FI DU fe de lo hi tl th dl dh r fl fv n st mo tz ts tm o4 o6 o10 o11 o12 o14 := by
  k_with "x54" => skip
  k_with "mine all" => ((fail_if_success k_extra "x55"); assumption)
  k_with "eval ListComp" => ((fail_if_success k_extra "x55"); k_here; k_dflt (refine ListComp_R (by k_asm) (by with_unfolding_all rfl) (by decide) (by rfl) (by decide) (by rfl) ?_))
  k_with "SrcC" => ((fail_if_success k_extra "x55"); k_here; k_dflt (refine hold_of ?_))
  k_with "CompEnd" => ((fail_if_success k_extra "x55"); (refine hold_of ?_))
  k_with "subscriptTail" => ((fail_if_success k_extra "x55"); k_here; (with_reducible show wpAny _ _ (subscriptTail _ _ (Value.ref _) (Value.int _ _)) _ _ _); (first | (with_unfolding_all refine' item_new (by assumption) (by k_mem) (by omega) (by omega) (by k_extra "mine item") ?_ (by with_unfolding_all rfl); k_whole)))
  k_with "compareOp NotEq ref ref" => ((fail_if_success k_extra "x55"); k_here; k_dflt (refine hold_of ?_))
  k_with "call ref" => ((fail_if_success k_extra "x55"); k_here; k_dflt (refine hold_of ?_))
  unfold zP
  intro hfl hrl hfll hn hst hmo hring ok1 ok2 d4 d6 d10 d11 d12 d14 hoff next G F N
  have _ : PySem.Challenge.rw_wo0016_01 = PySem.Challenge.rw_wo0016_01 ∧ Mine.hd.heap_1 = Mine.hd.heap_1 := by k_fill; exact ⟨rfl, rfl⟩
  refine lawX_of (by rfl) ?_
  dsimp only [lawD, d_of]
  obtain ⟨B, X, T, h100, hos, hba⟩ := G
  k_steps
  refine unhold ?_
  rename IsRange _ _ _ _ _ _ _ _ => R2
  refine ⟨_, _, _, _, _, _, _, n, _, rfl, rfl, by k_asm, by k_asm, R2, small_n n (by omega), range_n n, by rw [PySem.sizeLine_eq]; omega, ?_⟩
  rintro s8 ⟨g8, e8⟩
  subst e8
  refine inv_rest (fun i ys led => ys = (r.take i).map (Vd lo hi tl th) ∧ ∃ e, led = (lx, instObj 52 dx) :: (dx, dictOf (lexD a b c d ln tn fp tw P) le1) :: (P, lstO ((r.drop i).map (Vd lo hi tl th)) e) :: (FI, lstO fv fe) :: (DU, lstO [.str lo dl, .str hi dh] de) :: (L + 1 + 1 + 1 + 1, o4) :: (L + 1 + 1 + 1 + 1 + 1 + 1, o6) :: (L + 1 + 1 + 1 + 1 + 1 + 1 + 1 + 1 + 1 + 1, o10) :: (L + 1 + 1 + 1 + 1 + 1 + 1 + 1 + 1 + 1 + 1 + 1, o11) :: (L + 1 + 1 + 1 + 1 + 1 + 1 + 1 + 1 + 1 + 1 + 1 + 1, o12) :: (L + 1 + 1 + 1 + 1 + 1 + 1 + 1 + 1 + 1 + 1 + 1 + 1 + 1 + 1, o14) :: fut) ⟨rfl, le2, rfl⟩ ?_ ?_
  · intro i v I oI C oC D m₂ ys led h tk E1 hil hI hv hC hx F N off ne
    obtain ⟨rfl, e0, rfl⟩ := hI
    obtain ⟨x9, hx9⟩ : ∃ x9, r.drop i = x9 :: r.drop (i + 1) := ⟨_, List.drop_eq_getElem_cons (by omega)⟩
    have hx8 : r.take (i + 1) = r.take i ++ [x9] := by
      rw [List.take_add_one]
      congr 1
      have := congrArg List.head? hx9
      rw [List.head?_drop] at this
      rw [this]; rfl
    have hx7 : ((r.drop (i + 1)).map (Vd lo hi tl th)).length < 1000 := by simp; omega
    have hro : ∀ p ∈ (I, oI) :: (C, oC) :: (D, LCg.lst ((r.take i).map (Vd lo hi tl th))) :: (FI, lstO fv fe) :: (DU, lstO [.str lo dl, .str hi dh] de) :: (L + 1 + 1 + 1 + 1, o4) :: (L + 1 + 1 + 1 + 1 + 1 + 1, o6) :: (L + 1 + 1 + 1 + 1 + 1 + 1 + 1 + 1 + 1 + 1, o10) :: (L + 1 + 1 + 1 + 1 + 1 + 1 + 1 + 1 + 1 + 1 + 1, o11) :: (L + 1 + 1 + 1 + 1 + 1 + 1 + 1 + 1 + 1 + 1 + 1 + 1, o12) :: (L + 1 + 1 + 1 + 1 + 1 + 1 + 1 + 1 + 1 + 1 + 1 + 1 + 1 + 1, o14) :: fut, p.1 ≠ lx ∧ p.1 ≠ dx ∧ p.1 ≠ P := off_lex off hoff
    rw [hx9, List.map_cons] at N off
    k_steps
    refine unhold ?_
    rename News _ _ _ _ => N5
    refine' useLex (rest := (I, oI) :: (C, oC) :: (D, LCg.lst ((r.take i).map (Vd lo hi tl th))) :: (FI, lstO fv fe) :: (DU, lstO [.str lo dl, .str hi dh] de) :: (L + 1 + 1 + 1 + 1, o4) :: (L + 1 + 1 + 1 + 1 + 1 + 1, o6) :: (L + 1 + 1 + 1 + 1 + 1 + 1 + 1 + 1 + 1 + 1, o10) :: (L + 1 + 1 + 1 + 1 + 1 + 1 + 1 + 1 + 1 + 1 + 1, o11) :: (L + 1 + 1 + 1 + 1 + 1 + 1 + 1 + 1 + 1 + 1 + 1 + 1, o12) :: (L + 1 + 1 + 1 + 1 + 1 + 1 + 1 + 1 + 1 + 1 + 1 + 1 + 1 + 1, o14) :: fut) (get_H w loose mean mg mb lx dx P (Vd lo hi tl th x9) a b c d ln tn fp tw ((r.drop (i + 1)).map (Vd lo hi tl th)) le1 e0 hx7) ?B ?F ?X ?N ?T ?hh ?hA ?hf ?hk ?hd ?hu hro ?_
    (case B => assumption)
    (case F => assumption)
    (case X => assumption)
    (case N => exact fun p hp => N5 p (lex_first hp))
    (case T => assumption)
    (case hh => exact rfl)
    (case hA => exact rfl)
    (case hf => exact rfl)
    (case hk => exact rfl)
    (case hd => (simp only [depth_deeper, depth_caller, recursionLimit]; omega))
    (case hu => (simp only [units_deeper, units_caller, cLine]; omega))
    intro h' tk' F' N'
    k_steps
    refine unhold (LCg.CompEnd.intro F' N' ((lx, instObj 52 dx) :: (dx, dictOf (lexD a b c d ln tn fp tw P) le1) :: (P, lstO ((r.drop (i + 1)).map (Vd lo hi tl th)) (e0 + 1)) :: (FI, lstO fv fe) :: (DU, lstO [.str lo dl, .str hi dh] de) :: (L + 1 + 1 + 1 + 1, o4) :: (L + 1 + 1 + 1 + 1 + 1 + 1, o6) :: (L + 1 + 1 + 1 + 1 + 1 + 1 + 1 + 1 + 1 + 1, o10) :: (L + 1 + 1 + 1 + 1 + 1 + 1 + 1 + 1 + 1 + 1 + 1, o11) :: (L + 1 + 1 + 1 + 1 + 1 + 1 + 1 + 1 + 1 + 1 + 1 + 1, o12) :: (L + 1 + 1 + 1 + 1 + 1 + 1 + 1 + 1 + 1 + 1 + 1 + 1 + 1 + 1, o14) :: fut) (fun p hp => lex_last hp) off trivial ?_)
    exact ⟨by rw [hx8, List.map_append]; rfl, _, rfl⟩
  · rintro ys led ⟨rfl, e0, rfl⟩
    clear R2
    intro D₁ h tk F N o1
    rw [List.take_of_length_le (by omega)] at N
    rw [List.drop_of_length_le (by omega)] at N o1
    rw [List.map_nil] at N o1
    k_steps
    refine unhold ?_
    rename IsRange _ _ _ _ _ _ _ _ => R2
    refine ⟨_, _, _, _, _, _, _, n, _, rfl, rfl, by k_asm, by k_asm, R2, small_n n (by omega), range_n n, by rw [PySem.sizeLine_eq]; omega, ?_⟩
    rintro s8 ⟨g8, e8⟩
    subst e8
    refine inv_rest (fun i ys led => StrsAre ys ((List.range i).map fun k => Wd lo hi (atR fl (k + st + mo))) ∧ led = (D₁, LCg.lst (r.map (Vd lo hi tl th))) :: (lx, instObj 52 dx) :: (dx, dictOf (lexD a b c d ln tn fp tw P) le1) :: (P, lstO [] e0) :: (FI, lstO fv fe) :: (DU, lstO [.str lo dl, .str hi dh] de) :: (L + 1 + 1 + 1 + 1, o4) :: (L + 1 + 1 + 1 + 1 + 1 + 1, o6) :: (L + 1 + 1 + 1 + 1 + 1 + 1 + 1 + 1 + 1 + 1, o10) :: (L + 1 + 1 + 1 + 1 + 1 + 1 + 1 + 1 + 1 + 1 + 1, o11) :: (L + 1 + 1 + 1 + 1 + 1 + 1 + 1 + 1 + 1 + 1 + 1 + 1, o12) :: (L + 1 + 1 + 1 + 1 + 1 + 1 + 1 + 1 + 1 + 1 + 1 + 1 + 1 + 1, o14) :: fut) ⟨.nil, rfl⟩ ?_ ?_
    · intro i v I oI C oC D m₂ ys led h tk E1 hil hI hv hC hx F N off ne
      obtain ⟨hI, rfl⟩ := hI
      obtain ⟨t9, rfl⟩ := hv
      have ek : Int.fmod (0 + (i : Int) * 1 + (st : Int) + (mo : Int)) (n : Int) = (((i + st + mo) % fl.length : Nat) : Int) := by rw [hfll, show (0 + (i : Int) * 1 + (st : Int) + (mo : Int)) = ((i + st + mo : Nat) : Int) by omega, Int.fmod_eq_emod_of_nonneg _ (by omega)]; rfl
      have eg := getD_bits (la := fl) (by omega) (i + st + mo) ek
      have hb1 : 0 ≤ Int.fmod (0 + (i : Int) * 1 + (st : Int) + (mo : Int)) (n : Int) := by rw [ek]; omega
      have hb2 : Int.fmod (0 + (i : Int) * 1 + (st : Int) + (mo : Int)) (n : Int) < 10 := by
        have := Nat.mod_lt (i + st + mo) (show 0 < fl.length by omega)
        rw [ek]; omega
      have hb3 := b2i_bd (atR fl (i + st + mo))
      have hpk : [Value.str lo dl, Value.str hi dh][((fl.map b2i).getD (Int.fmod (0 + (i : Int) * 1 + (st : Int) + (mo : Int)) (n : Int)).toNat 0).toNat]? = some (.str (Wd lo hi (atR fl (i + st + mo))) (Td dl dh (atR fl (i + st + mo)))) := by rw [eg]; exact pick_two _
      k_steps
      refine unhold (LCg.CompEnd.intro (by assumption) (by assumption) ((D₁, LCg.lst (r.map (Vd lo hi tl th))) :: (lx, instObj 52 dx) :: (dx, dictOf (lexD a b c d ln tn fp tw P) le1) :: (P, lstO [] e0) :: (FI, lstO fv fe) :: (DU, lstO [.str lo dl, .str hi dh] de) :: (L + 1 + 1 + 1 + 1, o4) :: (L + 1 + 1 + 1 + 1 + 1 + 1, o6) :: (L + 1 + 1 + 1 + 1 + 1 + 1 + 1 + 1 + 1 + 1, o10) :: (L + 1 + 1 + 1 + 1 + 1 + 1 + 1 + 1 + 1 + 1 + 1, o11) :: (L + 1 + 1 + 1 + 1 + 1 + 1 + 1 + 1 + 1 + 1 + 1 + 1, o12) :: (L + 1 + 1 + 1 + 1 + 1 + 1 + 1 + 1 + 1 + 1 + 1 + 1 + 1 + 1, o14) :: fut) (fun q9 hq9 => by k_ownIn) off trivial ⟨?_, rfl⟩)
      rw [List.range_succ, List.map_append]
      exact strs_snoc hI
    · rintro ys led ⟨hys, rfl⟩

      intro D h tk F N o2
      k_steps
      refine unhold ?_
      rename News _ _ _ _ => N5
      have e5 : (List.range n).map (fun k => Wd lo hi (atR fl (k + st + mo))) = r.map (Wd lo hi) := by rw [hring, List.map_map]; rfl
      rw [e5] at hys
      refine ne_strsN N5 (a := D₁) (b := D) (.tail _ (.head _)) (.head _) (strs_map r) hys (wd_ok ok1 ok2) (by simp only [units_deeper, units_caller, cLine]; omega) ?_
      k_steps
      rename Fr _ _ _ _ => F6
      rename News _ _ _ _ => N6
      refine next _ e0 ?_ F6 (nd1 (nd1 N6))
      exact ⟨B, X, T, h100, hos, hba⟩
theorem zall : ∀ c : DD, zP (c.fW 0) (c.fLs 0) (c.fMe 0) (c.fMp 0) (c.fMp 1) (c.fV 0) (c.fA 0) (c.fH 0) (c.fA 1) (c.fSh 0) (c.fSh 1) (c.fQ 0) (c.fE 0) (c.fMp 2) (c.fLed 0) (c.fA 2) (c.fA 3) (c.fA 4) (c.fIt 0) (c.fIt 1) (c.fIt 2) (c.fIt 3) (c.fI 0) (c.fT 0) (c.fT 1) (c.fV 1) (c.fN 0) (c.fN 1) (c.fA 5) (c.fA 6) (c.fN 2) (c.fN 3) (c.fS 0) (c.fS 1) (c.fT 2) (c.fT 3) (c.fT 4) (c.fT 5) (c.fLb 0) (c.fLb 1) (c.fLv 0) (c.fN 4) (c.fN 5) (c.fN 6) (c.fT 6) (c.fT 7) (c.fT 8) (c.fO 0) (c.fO 1) (c.fO 2) (c.fO 3) (c.fO 4) (c.fO 5) := allD (by with_unfolding_all exact zcore)
end Z_law_34
theorem law_34 (w : World) (loose : List Str) (mean : ExcName → Option Value) (mg mb : Str → Option Value) (cd : Value) (fa : Addr) (g : Heap) (L : Addr) (s₀ s : Shared) (Q : Flow → Shared → Prop) (E : Value → Shared → Prop) (m : Str → Option Value) (fut : List (Addr × Obj)) (lx dx P : Addr) (a b c d : Int × Tok) (ln : Int) (tn tw : Tok) (fp : Value) (le1 le2 : Nat) (FI DU : Addr) (fe de : Nat) (lo hi : Str) (tl th dl dh : Tok) (r fl : List Bool) (fv : List Value) (hfl : IntsAre fv (fl.map b2i)) (n st mo : Nat) (hrl : r.length = n) (hfll : fl.length = n) (hn : 6 ≤ n ∧ n ≤ 9) (hst : st ≤ 9) (hmo : mo ≤ 9) (hring : r = (List.range n).map fun k => atR fl (k + st + mo)) (ok1 : PyData.strOk lo = true) (ok2 : PyData.strOk hi = true) (tz ts tm : Tok) (o4 o6 o10 o11 o12 o14 : Obj) (d4 : o4.data = .cell (some (.int n tz))) (d6 : o6.data = .cell (some (.ref lx))) (d10 : o10.data = .cell (some (.ref DU))) (d11 : o11.data = .cell (some (.int (st : Int) ts))) (d12 : o12.data = .cell (some (.int (mo : Int) tm))) (d14 : o14.data = .cell (some (.ref FI))) (hoff : ∀ p ∈ (FI, lstO fv fe) :: (DU, lstO [.str lo dl, .str hi dh] de) :: (L + 1 + 1 + 1 + 1, o4) :: (L + 1 + 1 + 1 + 1 + 1 + 1, o6) :: (L + 1 + 1 + 1 + 1 + 1 + 1 + 1 + 1 + 1 + 1, o10) :: (L + 1 + 1 + 1 + 1 + 1 + 1 + 1 + 1 + 1 + 1 + 1, o11) :: (L + 1 + 1 + 1 + 1 + 1 + 1 + 1 + 1 + 1 + 1 + 1 + 1, o12) :: (L + 1 + 1 + 1 + 1 + 1 + 1 + 1 + 1 + 1 + 1 + 1 + 1 + 1 + 1, o14) :: fut, p.1 ≠ lx ∧ p.1 ≠ dx ∧ p.1 ≠ P)
    (next : ∀ (s : Shared) (e9 : Nat), LawG w loose mean mg mb g L s₀ s → Fr g L s.heap m → News g L s.heap ((lx, instObj 52 dx) :: (dx, dictOf (lexD a b c d ln tn fp tw P) le1) :: (P, lstO [] e9) :: (FI, lstO fv fe) :: (DU, lstO [.str lo dl, .str hi dh] de) :: (L + 1 + 1 + 1 + 1, o4) :: (L + 1 + 1 + 1 + 1 + 1 + 1, o6) :: (L + 1 + 1 + 1 + 1 + 1 + 1 + 1 + 1 + 1 + 1, o10) :: (L + 1 + 1 + 1 + 1 + 1 + 1 + 1 + 1 + 1 + 1 + 1, o11) :: (L + 1 + 1 + 1 + 1 + 1 + 1 + 1 + 1 + 1 + 1 + 1 + 1, o12) :: (L + 1 + 1 + 1 + 1 + 1 + 1 + 1 + 1 + 1 + 1 + 1 + 1 + 1 + 1, o14) :: fut) → Q .next s)
    (G : LawG w loose mean mg mb g L s₀ s) (F : Fr g L s.heap m) (N : News g L s.heap ((lx, instObj 52 dx) :: (dx, dictOf (lexD a b c d ln tn fp tw P) le1) :: (P, lstO ((r).map (Vd lo hi tl th)) le2) :: (FI, lstO fv fe) :: (DU, lstO [.str lo dl, .str hi dh] de) :: (L + 1 + 1 + 1 + 1, o4) :: (L + 1 + 1 + 1 + 1 + 1 + 1, o6) :: (L + 1 + 1 + 1 + 1 + 1 + 1 + 1 + 1 + 1 + 1, o10) :: (L + 1 + 1 + 1 + 1 + 1 + 1 + 1 + 1 + 1 + 1 + 1, o11) :: (L + 1 + 1 + 1 + 1 + 1 + 1 + 1 + 1 + 1 + 1 + 1 + 1, o12) :: (L + 1 + 1 + 1 + 1 + 1 + 1 + 1 + 1 + 1 + 1 + 1 + 1 + 1 + 1, o14) :: fut)) : LawX w L fa cd 34 Q E s := by
  exact Z_law_34.zall ⟨fun _ => w, fun _ => loose, fun _ => mean, fun i => [mg, mb, m].getD i mg, fun i => [fa, L, lx, dx, P, FI, DU].getD i fa, fun i => [le1, le2, fe, de, n, st, mo].getD i le1, fun _ => ln, fun i => [tn, tw, tl, th, dl, dh, tz, ts, tm].getD i tn, fun i => [cd, fp].getD i cd, fun i => [lo, hi].getD i lo, fun i => [o4, o6, o10, o11, o12, o14].getD i o4, fun _ => g, fun i => [s₀, s].getD i s₀, fun _ => fv, anyD.fLi, anyD.fLn, fun i => [r, fl].getD i r, fun _ => fut, fun _ => Q, fun _ => E, anyD.fB, fun i => [a, b, c, d].getD i a, anyD.fAv, anyD.fB3, anyD.fGd, anyD.fEn, anyD.fAr, anyD.fOv, anyD.fOp, anyD.fLa, anyD.fEnv, anyD.fSs, anyD.fSt, anyD.fSc, anyD.fP, anyD.fEx, anyD.fR, anyD.fPo, anyD.fCl, anyD.fY, anyD.fRR, anyD.fBB, anyD.fNl, anyD.fOa, anyD.fFd, anyD.fAo, anyD.fDe, anyD.fIv⟩ hfl hrl hfll hn hst hmo hring ok1 ok2 d4 d6 d10 d11 d12 d14 hoff next G F N

end
end
section
section
variable (w : World) (loose : List Str) (mean : ExcName → Option Value) (mg mb : Str → Option Value)
theorem law_35 (cd : Value) (fa : Addr) (g : Heap) (L : Addr) (s₀ s : Shared) (Q : Flow → Shared → Prop) (E : Value → Shared → Prop) (m : Str → Option Value) (fut : List (Addr × Obj)) (lx dx P : Addr) (a b c d : Int × Tok) (ln : Int) (tn tw : Tok) (le1 le2 : Nat) (xf tf : Addr) (ys : List Value) (c9 : Nat) (sg : Addr) (rest : List (Addr × Obj)) (cs : List Nat) (hys : SignsAre ys cs) (hl : cs.length < 9999) (hln : 0 ≤ ln ∧ ln < 9999) (KX : LexOk w loose mean mg mb lx dx P sg xf tf rest) (WA : Addr) (x1 x2 : Str) (wy : Int) (q1 q2 q3 q4 q5 : Tok) (we : Nat) (o5 : Obj) (d5 : o5.data = .cell (some (.ref WA))) (x : Str) (u : Tok) (hm1 : (tokA cs).1.toArray = (Str.ofString "#n \"\n\x0b\\").cps) (hm2 : (tokA cs).2 = []) (hct : ln + (cs.count 10 : Int) = 1 + (x.cps.toList.count 10 : Int)) (o6 : Obj) (d6 : o6.data = .cell (some (.ref lx))) (hoff : OffLex lx dx P sg ((L + 1 + 1 + 1 + 1 + 1, o5) :: (L + 1 + 1 + 1 + 1 + 1 + 1, o6) :: (WA, lstO [.str x1 q1, .str x2 q2, .str (wayW wy) q3, .str (Str.ofString "OI") q4, .str (Str.ofString "#n \"\n\x0b\\") q5] we) :: fut)) (hrest : ∀ p ∈ rest, p ∈ fut) (m1 : m (Str.ofString "text") = some (.str x u))
    (next : ∀ (s : Shared) (ln : Int) (tn : Tok) (ys : List Value) (c9 : Nat), LawG w loose mean mg mb g L s₀ s → Fr g L s.heap m → News g L s.heap ((lx, instObj 52 dx) :: (dx, dictOf (lexD a b c d ln tn (.ref xf) tw P) le1) :: (P, lstO [] le2) :: (sg, lstO ys c9) :: (L + 1 + 1 + 1 + 1 + 1, o5) :: (L + 1 + 1 + 1 + 1 + 1 + 1, o6) :: (WA, lstO [.str x1 q1, .str x2 q2, .str (wayW wy) q3, .str (Str.ofString "OI") q4, .str (Str.ofString "#n \"\n\x0b\\") q5] we) :: fut) → Q (.ret (.bool true)) s)
    (G : LawG w loose mean mg mb g L s₀ s) (F : Fr g L s.heap m) (N : News g L s.heap ((lx, instObj 52 dx) :: (dx, dictOf (lexD a b c d ln tn (.ref xf) tw P) le1) :: (P, lstO [] le2) :: (sg, lstO ys c9) :: (L + 1 + 1 + 1 + 1 + 1, o5) :: (L + 1 + 1 + 1 + 1 + 1 + 1, o6) :: (WA, lstO [.str x1 q1, .str x2 q2, .str (wayW wy) q3, .str (Str.ofString "OI") q4, .str (Str.ofString "#n \"\n\x0b\\") q5] we) :: fut)) : LawX w L fa cd 35 Q E s := by
  k_with "x55" => skip
  k_with "mine all" => ((fail_if_success k_extra "x56"); assumption)
  k_with "call ref" => ((fail_if_success k_extra "x56"); k_here; k_dflt (refine hold_of ?_))
  k_with "subscriptTail" => ((fail_if_success k_extra "x56"); k_here; (with_reducible show wpAny _ _ (subscriptTail _ _ (Value.ref _) (Value.int _ _)) _ _ _); (first | (with_unfolding_all refine' item_new (by assumption) (by k_mem) (by omega) (by omega) (by k_extra "mine item") ?_ (by with_unfolding_all rfl); k_whole)))
  k_with "compareOp Eq ref ref" => ((fail_if_success k_extra "x56"); k_here; k_dflt (refine hold_of ?_))
  k_with "call builtin:str.count" => ((fail_if_success k_extra "x56"); k_here; k_dflt (refine hold_of ?_))
  have _ : PySem.Challenge.rw_wo0016_01 = PySem.Challenge.rw_wo0016_01 ∧ Mine.hd.heap_1 = Mine.hd.heap_1 := by k_fill; exact ⟨rfl, rfl⟩
  refine lawX_of (by rfl) ?_
  dsimp only [lawD, d_of]
  obtain ⟨B, X, T, h100, hos, hba⟩ := G
  have F := fr_know F m1
  have hl0 : cs.length < 99999 := by omega
  have hcc : cs.count 10 ≤ cs.length := List.count_le_length
  have hln0 : 0 ≤ ln ∧ ln < 100000 := by omega
  k_steps
  refine unhold ?_
  refine' useTok (a := a) (b := b) (c := c) (d := d) (ln := ln) (tn := tn) (tw := tw) (e := le1) (e1 := le2) (e2 := c9) (ys := ys) (cs := cs) ((L + 1 + 1 + 1 + 1 + 1, o5) :: (L + 1 + 1 + 1 + 1 + 1 + 1, o6) :: (WA, lstO [.str x1 q1, .str x2 q2, .str (wayW wy) q3, .str (Str.ofString "OI") q4, .str (Str.ofString "#n \"\n\x0b\\") q5] we) :: fut) KX hys hl0 hln0 ?B ?F ?X ?N ?T ?hh ?hA ?hf ?hk ?hd ?hu ?hsub ?hfut ?hoff ?_
  (case B => assumption)
  (case F => assumption)
  (case X => assumption)
  (case N => assumption)
  (case T => assumption)
  (case hh => exact rfl)
  (case hA => exact rfl)
  (case hf => exact rfl)
  (case hk => exact rfl)
  (case hd => (simp only [depth_deeper, depth_caller, recursionLimit]; omega))
  (case hu => (simp only [units_deeper, units_caller, cLine]; omega))
  (case hsub => exact sg_sub (rs := (L + 1 + 1 + 1 + 1 + 1, o5) :: (L + 1 + 1 + 1 + 1 + 1 + 1, o6) :: (WA, lstO [.str x1 q1, .str x2 q2, .str (wayW wy) q3, .str (Str.ofString "OI") q4, .str (Str.ofString "#n \"\n\x0b\\") q5] we) :: fut) (by intro p hp; simp [hrest p hp]))
  (case hfut => exact fun p hp => .tail _ (.tail _ (.tail _ (.tail _ hp))))
  (case hoff => exact hoff)
  intro h' tk' t1 ln1 tn1 ys1 e1 F' N' hys1 hc1 hle1
  have hl1 := Nat.lt_of_le_of_lt (tokA_len cs) hl0
  have hln1 : 0 ≤ ln1 ∧ ln1 < 100000 := by omega
  simp only [lexN, List.cons_append, List.nil_append] at N'
  k_steps
  refine unhold ?_
  refine' useTok (a := a) (b := b) (c := c) (d := d) (ln := ln1) (tn := tn1) (tw := tw) (e := le1) (e1 := le2) (e2 := e1) (ys := ys1) (cs := (tokA cs).2) ((L + 1 + 1 + 1 + 1 + 1, o5) :: (L + 1 + 1 + 1 + 1 + 1 + 1, o6) :: (WA, lstO [.str x1 q1, .str x2 q2, .str (wayW wy) q3, .str (Str.ofString "OI") q4, .str (Str.ofString "#n \"\n\x0b\\") q5] we) :: fut) KX hys1 hl1 hln1 ?B ?F ?X ?N ?T ?hh ?hA ?hf ?hk ?hd ?hu ?hsub ?hfut ?hoff ?_
  (case B => assumption)
  (case F => assumption)
  (case X => assumption)
  (case N => assumption)
  (case T => assumption)
  (case hh => exact rfl)
  (case hA => exact rfl)
  (case hf => exact rfl)
  (case hk => exact rfl)
  (case hd => (simp only [depth_deeper, depth_caller, recursionLimit]; omega))
  (case hu => (simp only [units_deeper, units_caller, cLine]; omega))
  (case hsub => exact sg_sub (rs := (L + 1 + 1 + 1 + 1 + 1, o5) :: (L + 1 + 1 + 1 + 1 + 1 + 1, o6) :: (WA, lstO [.str x1 q1, .str x2 q2, .str (wayW wy) q3, .str (Str.ofString "OI") q4, .str (Str.ofString "#n \"\n\x0b\\") q5] we) :: fut) (by intro p hp; simp [hrest p hp]))
  (case hfut => exact fun p hp => .tail _ (.tail _ (.tail _ (.tail _ hp))))
  (case hoff => exact hoff)
  intro h2 tk2 t2 ln2 tn2 ys2 e2 F2 N2 hys2 hc2 hle2
  simp only [lexN, List.cons_append, List.nil_append] at N2
  rw [hm2] at hc1 hc2
  have he : ln2 = 1 + (x.cps.toList.count 10 : Int) := by
    have e0 : (tokA []).2 = [] := rfl
    rw [e0] at hc2
    simp only [List.count_nil] at hc1 hc2
    omega
  have hcx : (0 : Int) ≤ (x.cps.toList.count 10 : Int) ∧ (x.cps.toList.count 10 : Int) < 100000 := by omega
  rw [hm1, hm2]
  k_steps
  refine unhold ?_
  rename Fr _ _ _ _ => F5
  rename News _ _ _ _ => N5
  refine eq_strsN (e1 := 0) (e2 := 0) (vs := [.str (Str.ofString "#n \"\n\x0b\\") t1, .str (Str.ofString "") t2]) (us := [.str (Str.ofString "#n \"\n\x0b\\") q5, .str (Str.ofString "") _]) N5 (.tail _ (.head _)) (.head _) (by repeat constructor) (by repeat constructor) (List.forall_mem_cons.mpr ⟨by decide +kernel, List.forall_mem_cons.mpr ⟨by decide +kernel, List.forall_mem_nil _⟩⟩) (by simp only [units_deeper, units_caller, cLine]; omega) ?_
  k_steps
  refine unhold ?_
  refine SC.count ?_
  rw [count_nl]
  generalize (x.cps.toList.count 10 : Int) = z at *
  k_steps
  have e9 : (ln2 == 1 + z) = true := beq_iff_eq.mpr he
  rw [e9]
  refine next _ ln2 tn2 ys2 e2 ?_ (fr_unk F5 m1) (nd1 (nd1 N5))
  exact ⟨B, X, T, h100, hos, hba⟩
end
end
section
noncomputable def nthL {α : Type} : List α → Nat → Option α
  | [], _ => none
  | a :: _, 0 => some a
  | _ :: l, n + 1 => nthL l n
noncomputable def pickL {α : Type} (l : List α) : List Nat → List α → List α
  | [], t => t
  | i :: is, t => match nthL l i with
    | some x => x :: pickL l is t
    | none => pickL l is t
theorem nthL_mem {α : Type} {x : α} : ∀ {l : List α} {i : Nat}, nthL l i = some x → x ∈ l
  | a :: _, 0, h => by cases h; exact .head _
  | _ :: l, n + 1, h => .tail _ (nthL_mem (l := l) (i := n) h)
theorem pickL_mem {α : Type} {l : List α} {t : List α} (ht : ∀ p ∈ t, p ∈ l) : ∀ is : List Nat, ∀ p ∈ pickL l is t, p ∈ l
  | [], p, hp => ht p hp
  | i :: is, p, hp => by
    unfold pickL at hp
    cases e : nthL l i with
    | none => rw [e] at hp; exact pickL_mem ht is p hp
    | some x =>
      rw [e] at hp
      rcases List.mem_cons.mp hp with rfl | hp
      · exact nthL_mem e
      · exact pickL_mem ht is p hp
theorem news_ix {g h : Heap} {L : Addr} {l : List (Addr × Obj)} (N : News g L h l) (n : Nat) (is : List Nat) : News g L h (pickL l is (l.drop n)) :=
  fun p hp => N p (pickL_mem (fun p hp => List.mem_of_mem_drop hp) is p hp)
theorem fc {α : Type} {p : α → Prop} {a : α} {l : List α} (h : p a) (t : ∀ x ∈ l, p x) : ∀ x ∈ a :: l, p x := List.forall_mem_cons.mpr ⟨h, t⟩
noncomputable def Far (L a : Addr) : Prop := ∀ i : Nat, 5 ≤ i → i ≤ 14 → @Ne Nat a (L + i)
noncomputable def Off4 (lx dx P sg a : Addr) : Prop := a ≠ lx ∧ a ≠ dx ∧ a ≠ P ∧ a ≠ sg
noncomputable def Sep (L lx dx P sg a : Addr) : Prop := Off4 lx dx P sg a ∧ Far L a
theorem o3 {lx dx P sg a : Addr} (h : Off4 lx dx P sg a) : a ≠ lx ∧ a ≠ dx ∧ a ≠ P := ⟨h.1, h.2.1, h.2.2.1⟩
theorem kne (L : Addr) (i j : Nat) (h : i ≠ j) : @Ne Nat (L + i) (L + j) := fun e => h (Nat.add_left_cancel e)
theorem far_at {L a : Addr} (h : Far L a) (i : Nat) (h1 : 5 ≤ i := by decide) (h2 : i ≤ 14 := by decide) : @Ne Nat a (L + i) := h i h1 h2
theorem i514 {i : Nat} (h1 : 5 ≤ i) (h2 : i ≤ 14) : i = 5 ∨ i = 6 ∨ i = 7 ∨ i = 8 ∨ i = 9 ∨ i = 10 ∨ i = 11 ∨ i = 12 ∨ i = 13 ∨ i = 14 := (by decide : ∀ i : Fin 15, 5 ≤ i.val → (i.val = 5 ∨ i.val = 6 ∨ i.val = 7 ∨ i.val = 8 ∨ i.val = 9 ∨ i.val = 10 ∨ i.val = 11 ∨ i.val = 12 ∨ i.val = 13 ∨ i.val = 14)) ⟨i, Nat.lt_succ_of_le h2⟩ h1
theorem sep_new {L lx dx P sg a : Addr} {l : List (Addr × Obj)} {x1 x2 x3 x4 y5 y6 y7 y8 y9 y10 y11 y12 y13 y14 : Obj} (h : ∀ p ∈ l, p.1 ≠ a) (m1 : (lx, x1) ∈ l) (m2 : (dx, x2) ∈ l) (m3 : (P, x3) ∈ l) (m4 : (sg, x4) ∈ l)
    (m5 : (L + 5, y5) ∈ l) (m6 : (L + 6, y6) ∈ l) (m7 : (L + 7, y7) ∈ l) (m8 : (L + 8, y8) ∈ l) (m9 : (L + 9, y9) ∈ l) (m10 : (L + 10, y10) ∈ l) (m11 : (L + 11, y11) ∈ l) (m12 : (L + 12, y12) ∈ l) (m13 : (L + 13, y13) ∈ l) (m14 : (L + 14, y14) ∈ l) : Sep L lx dx P sg a := by
  refine ⟨⟨(h _ m1).symm, (h _ m2).symm, (h _ m3).symm, (h _ m4).symm⟩, fun i h1 h2 => ?_⟩
  rcases (i514 (by assumption) (by assumption)) with rfl | rfl | rfl | rfl | rfl | rfl | rfl | rfl | rfl | rfl
  · exact (h _ m5).symm
  · exact (h _ m6).symm
  · exact (h _ m7).symm
  · exact (h _ m8).symm
  · exact (h _ m9).symm
  · exact (h _ m10).symm
  · exact (h _ m11).symm
  · exact (h _ m12).symm
  · exact (h _ m13).symm
  · exact (h _ m14).symm
theorem sep_or {L lx dx P sg a b : Addr} {q : Prop} (h : a = b ∨ q) (hb : Sep L lx dx P sg b) (hq : q → Sep L lx dx P sg a) : Sep L lx dx P sg a := by
  rcases h with rfl | h
  · exact hb
  · exact hq h
theorem fig_at {wy : Int} (hw : wy = 1 ∨ wy = -1) (u0 u1 u2 u3 u4 u5 u6 u7 : Tok) (x y z : Bool) : ∃ t, (fig8 (fgW wy) u0 u1 u2 u3 u4 u5 u6 u7)[(4 * b2i x + 2 * b2i y + b2i z).toNat]? = some (.int (b2i (fW wy x y z)) t) := by
  rw [← fW_fg hw]
  cases x <;> cases y <;> cases z <;> exact ⟨_, rfl⟩
theorem figO_at (u0 u1 u2 u3 u4 u5 u6 u7 : Tok) (x y z : Bool) : ∃ t, (fig8 fgO u0 u1 u2 u3 u4 u5 u6 u7)[(4 * b2i x + 2 * b2i y + b2i z).toNat]? = some (.int (b2i (fO x y z)) t) := by
  rw [← fO_fg]
  cases x <;> cases y <;> cases z <;> exact ⟨_, rfl⟩
theorem in_tl {α : Type} {a : α} {l l' : List α} (h : ∀ p ∈ l, p ∈ l') : ∀ p ∈ l, p ∈ a :: l' := fun p hp => .tail _ (h p hp)
theorem in_self {α : Type} {l : List α} : ∀ p ∈ l, p ∈ l := fun _ hp => hp
noncomputable def OffK (L lx dx P sg : Addr) : Prop := Off4 lx dx P sg (L + 4) ∧ Off4 lx dx P sg (L + 5) ∧ Off4 lx dx P sg (L + 6) ∧ Off4 lx dx P sg (L + 7) ∧ Off4 lx dx P sg (L + 8) ∧ Off4 lx dx P sg (L + 9) ∧ Off4 lx dx P sg (L + 10) ∧ Off4 lx dx P sg (L + 11) ∧ Off4 lx dx P sg (L + 12) ∧ Off4 lx dx P sg (L + 13) ∧ Off4 lx dx P sg (L + 14)
theorem t1 {α : Type} {x a0 : α} {l : List α} (h : x ∈ l) : x ∈ a0 :: l := .tail _ h
theorem i1 {α : Type} {a0 : α} {l l' : List α} (h : ∀ p ∈ l, p ∈ l') : ∀ p ∈ l, p ∈ a0 :: l' := in_tl h
theorem t2 {α : Type} {x a0 a1 : α} {l : List α} (h : x ∈ l) : x ∈ a0 :: a1 :: l := .tail _ (.tail _ h)
theorem i2 {α : Type} {a0 a1 : α} {l l' : List α} (h : ∀ p ∈ l, p ∈ l') : ∀ p ∈ l, p ∈ a0 :: a1 :: l' := in_tl (in_tl h)
theorem t3 {α : Type} {x a0 a1 a2 : α} {l : List α} (h : x ∈ l) : x ∈ a0 :: a1 :: a2 :: l := .tail _ (.tail _ (.tail _ h))
theorem i3 {α : Type} {a0 a1 a2 : α} {l l' : List α} (h : ∀ p ∈ l, p ∈ l') : ∀ p ∈ l, p ∈ a0 :: a1 :: a2 :: l' := in_tl (in_tl (in_tl h))
theorem t4 {α : Type} {x a0 a1 a2 a3 : α} {l : List α} (h : x ∈ l) : x ∈ a0 :: a1 :: a2 :: a3 :: l := .tail _ (.tail _ (.tail _ (.tail _ h)))
theorem i4 {α : Type} {a0 a1 a2 a3 : α} {l l' : List α} (h : ∀ p ∈ l, p ∈ l') : ∀ p ∈ l, p ∈ a0 :: a1 :: a2 :: a3 :: l' := in_tl (in_tl (in_tl (in_tl h)))
theorem t5 {α : Type} {x a0 a1 a2 a3 a4 : α} {l : List α} (h : x ∈ l) : x ∈ a0 :: a1 :: a2 :: a3 :: a4 :: l := .tail _ (.tail _ (.tail _ (.tail _ (.tail _ h))))
theorem i5 {α : Type} {a0 a1 a2 a3 a4 : α} {l l' : List α} (h : ∀ p ∈ l, p ∈ l') : ∀ p ∈ l, p ∈ a0 :: a1 :: a2 :: a3 :: a4 :: l' := in_tl (in_tl (in_tl (in_tl (in_tl h))))
theorem t6 {α : Type} {x a0 a1 a2 a3 a4 a5 : α} {l : List α} (h : x ∈ l) : x ∈ a0 :: a1 :: a2 :: a3 :: a4 :: a5 :: l := .tail _ (.tail _ (.tail _ (.tail _ (.tail _ (.tail _ h)))))
theorem i6 {α : Type} {a0 a1 a2 a3 a4 a5 : α} {l l' : List α} (h : ∀ p ∈ l, p ∈ l') : ∀ p ∈ l, p ∈ a0 :: a1 :: a2 :: a3 :: a4 :: a5 :: l' := in_tl (in_tl (in_tl (in_tl (in_tl (in_tl h)))))
theorem t7 {α : Type} {x a0 a1 a2 a3 a4 a5 a6 : α} {l : List α} (h : x ∈ l) : x ∈ a0 :: a1 :: a2 :: a3 :: a4 :: a5 :: a6 :: l := .tail _ (.tail _ (.tail _ (.tail _ (.tail _ (.tail _ (.tail _ h))))))
theorem i7 {α : Type} {a0 a1 a2 a3 a4 a5 a6 : α} {l l' : List α} (h : ∀ p ∈ l, p ∈ l') : ∀ p ∈ l, p ∈ a0 :: a1 :: a2 :: a3 :: a4 :: a5 :: a6 :: l' := in_tl (in_tl (in_tl (in_tl (in_tl (in_tl (in_tl h))))))
theorem t8 {α : Type} {x a0 a1 a2 a3 a4 a5 a6 a7 : α} {l : List α} (h : x ∈ l) : x ∈ a0 :: a1 :: a2 :: a3 :: a4 :: a5 :: a6 :: a7 :: l := .tail _ (.tail _ (.tail _ (.tail _ (.tail _ (.tail _ (.tail _ (.tail _ h)))))))
theorem i8 {α : Type} {a0 a1 a2 a3 a4 a5 a6 a7 : α} {l l' : List α} (h : ∀ p ∈ l, p ∈ l') : ∀ p ∈ l, p ∈ a0 :: a1 :: a2 :: a3 :: a4 :: a5 :: a6 :: a7 :: l' := in_tl (in_tl (in_tl (in_tl (in_tl (in_tl (in_tl (in_tl h)))))))
theorem t9 {α : Type} {x a0 a1 a2 a3 a4 a5 a6 a7 a8 : α} {l : List α} (h : x ∈ l) : x ∈ a0 :: a1 :: a2 :: a3 :: a4 :: a5 :: a6 :: a7 :: a8 :: l := .tail _ (.tail _ (.tail _ (.tail _ (.tail _ (.tail _ (.tail _ (.tail _ (.tail _ h))))))))
theorem i9 {α : Type} {a0 a1 a2 a3 a4 a5 a6 a7 a8 : α} {l l' : List α} (h : ∀ p ∈ l, p ∈ l') : ∀ p ∈ l, p ∈ a0 :: a1 :: a2 :: a3 :: a4 :: a5 :: a6 :: a7 :: a8 :: l' := in_tl (in_tl (in_tl (in_tl (in_tl (in_tl (in_tl (in_tl (in_tl h))))))))
theorem t10 {α : Type} {x a0 a1 a2 a3 a4 a5 a6 a7 a8 a9 : α} {l : List α} (h : x ∈ l) : x ∈ a0 :: a1 :: a2 :: a3 :: a4 :: a5 :: a6 :: a7 :: a8 :: a9 :: l := .tail _ (.tail _ (.tail _ (.tail _ (.tail _ (.tail _ (.tail _ (.tail _ (.tail _ (.tail _ h)))))))))
theorem i10 {α : Type} {a0 a1 a2 a3 a4 a5 a6 a7 a8 a9 : α} {l l' : List α} (h : ∀ p ∈ l, p ∈ l') : ∀ p ∈ l, p ∈ a0 :: a1 :: a2 :: a3 :: a4 :: a5 :: a6 :: a7 :: a8 :: a9 :: l' := in_tl (in_tl (in_tl (in_tl (in_tl (in_tl (in_tl (in_tl (in_tl (in_tl h)))))))))
theorem t11 {α : Type} {x a0 a1 a2 a3 a4 a5 a6 a7 a8 a9 a10 : α} {l : List α} (h : x ∈ l) : x ∈ a0 :: a1 :: a2 :: a3 :: a4 :: a5 :: a6 :: a7 :: a8 :: a9 :: a10 :: l := .tail _ (.tail _ (.tail _ (.tail _ (.tail _ (.tail _ (.tail _ (.tail _ (.tail _ (.tail _ (.tail _ h))))))))))
theorem i11 {α : Type} {a0 a1 a2 a3 a4 a5 a6 a7 a8 a9 a10 : α} {l l' : List α} (h : ∀ p ∈ l, p ∈ l') : ∀ p ∈ l, p ∈ a0 :: a1 :: a2 :: a3 :: a4 :: a5 :: a6 :: a7 :: a8 :: a9 :: a10 :: l' := in_tl (in_tl (in_tl (in_tl (in_tl (in_tl (in_tl (in_tl (in_tl (in_tl (in_tl h))))))))))
theorem t12 {α : Type} {x a0 a1 a2 a3 a4 a5 a6 a7 a8 a9 a10 a11 : α} {l : List α} (h : x ∈ l) : x ∈ a0 :: a1 :: a2 :: a3 :: a4 :: a5 :: a6 :: a7 :: a8 :: a9 :: a10 :: a11 :: l := .tail _ (.tail _ (.tail _ (.tail _ (.tail _ (.tail _ (.tail _ (.tail _ (.tail _ (.tail _ (.tail _ (.tail _ h)))))))))))
theorem i12 {α : Type} {a0 a1 a2 a3 a4 a5 a6 a7 a8 a9 a10 a11 : α} {l l' : List α} (h : ∀ p ∈ l, p ∈ l') : ∀ p ∈ l, p ∈ a0 :: a1 :: a2 :: a3 :: a4 :: a5 :: a6 :: a7 :: a8 :: a9 :: a10 :: a11 :: l' := in_tl (in_tl (in_tl (in_tl (in_tl (in_tl (in_tl (in_tl (in_tl (in_tl (in_tl (in_tl h)))))))))))
theorem t13 {α : Type} {x a0 a1 a2 a3 a4 a5 a6 a7 a8 a9 a10 a11 a12 : α} {l : List α} (h : x ∈ l) : x ∈ a0 :: a1 :: a2 :: a3 :: a4 :: a5 :: a6 :: a7 :: a8 :: a9 :: a10 :: a11 :: a12 :: l := .tail _ (.tail _ (.tail _ (.tail _ (.tail _ (.tail _ (.tail _ (.tail _ (.tail _ (.tail _ (.tail _ (.tail _ (.tail _ h))))))))))))
theorem i13 {α : Type} {a0 a1 a2 a3 a4 a5 a6 a7 a8 a9 a10 a11 a12 : α} {l l' : List α} (h : ∀ p ∈ l, p ∈ l') : ∀ p ∈ l, p ∈ a0 :: a1 :: a2 :: a3 :: a4 :: a5 :: a6 :: a7 :: a8 :: a9 :: a10 :: a11 :: a12 :: l' := in_tl (in_tl (in_tl (in_tl (in_tl (in_tl (in_tl (in_tl (in_tl (in_tl (in_tl (in_tl (in_tl h))))))))))))
theorem t14 {α : Type} {x a0 a1 a2 a3 a4 a5 a6 a7 a8 a9 a10 a11 a12 a13 : α} {l : List α} (h : x ∈ l) : x ∈ a0 :: a1 :: a2 :: a3 :: a4 :: a5 :: a6 :: a7 :: a8 :: a9 :: a10 :: a11 :: a12 :: a13 :: l := .tail _ (.tail _ (.tail _ (.tail _ (.tail _ (.tail _ (.tail _ (.tail _ (.tail _ (.tail _ (.tail _ (.tail _ (.tail _ (.tail _ h)))))))))))))
theorem i14 {α : Type} {a0 a1 a2 a3 a4 a5 a6 a7 a8 a9 a10 a11 a12 a13 : α} {l l' : List α} (h : ∀ p ∈ l, p ∈ l') : ∀ p ∈ l, p ∈ a0 :: a1 :: a2 :: a3 :: a4 :: a5 :: a6 :: a7 :: a8 :: a9 :: a10 :: a11 :: a12 :: a13 :: l' := in_tl (in_tl (in_tl (in_tl (in_tl (in_tl (in_tl (in_tl (in_tl (in_tl (in_tl (in_tl (in_tl (in_tl h)))))))))))))
theorem t15 {α : Type} {x a0 a1 a2 a3 a4 a5 a6 a7 a8 a9 a10 a11 a12 a13 a14 : α} {l : List α} (h : x ∈ l) : x ∈ a0 :: a1 :: a2 :: a3 :: a4 :: a5 :: a6 :: a7 :: a8 :: a9 :: a10 :: a11 :: a12 :: a13 :: a14 :: l := .tail _ (.tail _ (.tail _ (.tail _ (.tail _ (.tail _ (.tail _ (.tail _ (.tail _ (.tail _ (.tail _ (.tail _ (.tail _ (.tail _ (.tail _ h))))))))))))))
theorem i15 {α : Type} {a0 a1 a2 a3 a4 a5 a6 a7 a8 a9 a10 a11 a12 a13 a14 : α} {l l' : List α} (h : ∀ p ∈ l, p ∈ l') : ∀ p ∈ l, p ∈ a0 :: a1 :: a2 :: a3 :: a4 :: a5 :: a6 :: a7 :: a8 :: a9 :: a10 :: a11 :: a12 :: a13 :: a14 :: l' := in_tl (in_tl (in_tl (in_tl (in_tl (in_tl (in_tl (in_tl (in_tl (in_tl (in_tl (in_tl (in_tl (in_tl (in_tl h))))))))))))))
theorem t16 {α : Type} {x a0 a1 a2 a3 a4 a5 a6 a7 a8 a9 a10 a11 a12 a13 a14 a15 : α} {l : List α} (h : x ∈ l) : x ∈ a0 :: a1 :: a2 :: a3 :: a4 :: a5 :: a6 :: a7 :: a8 :: a9 :: a10 :: a11 :: a12 :: a13 :: a14 :: a15 :: l := .tail _ (.tail _ (.tail _ (.tail _ (.tail _ (.tail _ (.tail _ (.tail _ (.tail _ (.tail _ (.tail _ (.tail _ (.tail _ (.tail _ (.tail _ (.tail _ h)))))))))))))))
theorem i16 {α : Type} {a0 a1 a2 a3 a4 a5 a6 a7 a8 a9 a10 a11 a12 a13 a14 a15 : α} {l l' : List α} (h : ∀ p ∈ l, p ∈ l') : ∀ p ∈ l, p ∈ a0 :: a1 :: a2 :: a3 :: a4 :: a5 :: a6 :: a7 :: a8 :: a9 :: a10 :: a11 :: a12 :: a13 :: a14 :: a15 :: l' := in_tl (in_tl (in_tl (in_tl (in_tl (in_tl (in_tl (in_tl (in_tl (in_tl (in_tl (in_tl (in_tl (in_tl (in_tl (in_tl h)))))))))))))))
theorem t17 {α : Type} {x a0 a1 a2 a3 a4 a5 a6 a7 a8 a9 a10 a11 a12 a13 a14 a15 a16 : α} {l : List α} (h : x ∈ l) : x ∈ a0 :: a1 :: a2 :: a3 :: a4 :: a5 :: a6 :: a7 :: a8 :: a9 :: a10 :: a11 :: a12 :: a13 :: a14 :: a15 :: a16 :: l := .tail _ (.tail _ (.tail _ (.tail _ (.tail _ (.tail _ (.tail _ (.tail _ (.tail _ (.tail _ (.tail _ (.tail _ (.tail _ (.tail _ (.tail _ (.tail _ (.tail _ h))))))))))))))))
theorem i17 {α : Type} {a0 a1 a2 a3 a4 a5 a6 a7 a8 a9 a10 a11 a12 a13 a14 a15 a16 : α} {l l' : List α} (h : ∀ p ∈ l, p ∈ l') : ∀ p ∈ l, p ∈ a0 :: a1 :: a2 :: a3 :: a4 :: a5 :: a6 :: a7 :: a8 :: a9 :: a10 :: a11 :: a12 :: a13 :: a14 :: a15 :: a16 :: l' := in_tl (in_tl (in_tl (in_tl (in_tl (in_tl (in_tl (in_tl (in_tl (in_tl (in_tl (in_tl (in_tl (in_tl (in_tl (in_tl (in_tl h))))))))))))))))
theorem t18 {α : Type} {x a0 a1 a2 a3 a4 a5 a6 a7 a8 a9 a10 a11 a12 a13 a14 a15 a16 a17 : α} {l : List α} (h : x ∈ l) : x ∈ a0 :: a1 :: a2 :: a3 :: a4 :: a5 :: a6 :: a7 :: a8 :: a9 :: a10 :: a11 :: a12 :: a13 :: a14 :: a15 :: a16 :: a17 :: l := .tail _ (.tail _ (.tail _ (.tail _ (.tail _ (.tail _ (.tail _ (.tail _ (.tail _ (.tail _ (.tail _ (.tail _ (.tail _ (.tail _ (.tail _ (.tail _ (.tail _ (.tail _ h)))))))))))))))))
theorem i18 {α : Type} {a0 a1 a2 a3 a4 a5 a6 a7 a8 a9 a10 a11 a12 a13 a14 a15 a16 a17 : α} {l l' : List α} (h : ∀ p ∈ l, p ∈ l') : ∀ p ∈ l, p ∈ a0 :: a1 :: a2 :: a3 :: a4 :: a5 :: a6 :: a7 :: a8 :: a9 :: a10 :: a11 :: a12 :: a13 :: a14 :: a15 :: a16 :: a17 :: l' := in_tl (in_tl (in_tl (in_tl (in_tl (in_tl (in_tl (in_tl (in_tl (in_tl (in_tl (in_tl (in_tl (in_tl (in_tl (in_tl (in_tl (in_tl h)))))))))))))))))
theorem t19 {α : Type} {x a0 a1 a2 a3 a4 a5 a6 a7 a8 a9 a10 a11 a12 a13 a14 a15 a16 a17 a18 : α} {l : List α} (h : x ∈ l) : x ∈ a0 :: a1 :: a2 :: a3 :: a4 :: a5 :: a6 :: a7 :: a8 :: a9 :: a10 :: a11 :: a12 :: a13 :: a14 :: a15 :: a16 :: a17 :: a18 :: l := .tail _ (.tail _ (.tail _ (.tail _ (.tail _ (.tail _ (.tail _ (.tail _ (.tail _ (.tail _ (.tail _ (.tail _ (.tail _ (.tail _ (.tail _ (.tail _ (.tail _ (.tail _ (.tail _ h))))))))))))))))))
theorem i19 {α : Type} {a0 a1 a2 a3 a4 a5 a6 a7 a8 a9 a10 a11 a12 a13 a14 a15 a16 a17 a18 : α} {l l' : List α} (h : ∀ p ∈ l, p ∈ l') : ∀ p ∈ l, p ∈ a0 :: a1 :: a2 :: a3 :: a4 :: a5 :: a6 :: a7 :: a8 :: a9 :: a10 :: a11 :: a12 :: a13 :: a14 :: a15 :: a16 :: a17 :: a18 :: l' := in_tl (in_tl (in_tl (in_tl (in_tl (in_tl (in_tl (in_tl (in_tl (in_tl (in_tl (in_tl (in_tl (in_tl (in_tl (in_tl (in_tl (in_tl (in_tl h))))))))))))))))))
theorem t20 {α : Type} {x a0 a1 a2 a3 a4 a5 a6 a7 a8 a9 a10 a11 a12 a13 a14 a15 a16 a17 a18 a19 : α} {l : List α} (h : x ∈ l) : x ∈ a0 :: a1 :: a2 :: a3 :: a4 :: a5 :: a6 :: a7 :: a8 :: a9 :: a10 :: a11 :: a12 :: a13 :: a14 :: a15 :: a16 :: a17 :: a18 :: a19 :: l := .tail _ (.tail _ (.tail _ (.tail _ (.tail _ (.tail _ (.tail _ (.tail _ (.tail _ (.tail _ (.tail _ (.tail _ (.tail _ (.tail _ (.tail _ (.tail _ (.tail _ (.tail _ (.tail _ (.tail _ h)))))))))))))))))))
theorem i20 {α : Type} {a0 a1 a2 a3 a4 a5 a6 a7 a8 a9 a10 a11 a12 a13 a14 a15 a16 a17 a18 a19 : α} {l l' : List α} (h : ∀ p ∈ l, p ∈ l') : ∀ p ∈ l, p ∈ a0 :: a1 :: a2 :: a3 :: a4 :: a5 :: a6 :: a7 :: a8 :: a9 :: a10 :: a11 :: a12 :: a13 :: a14 :: a15 :: a16 :: a17 :: a18 :: a19 :: l' := in_tl (in_tl (in_tl (in_tl (in_tl (in_tl (in_tl (in_tl (in_tl (in_tl (in_tl (in_tl (in_tl (in_tl (in_tl (in_tl (in_tl (in_tl (in_tl (in_tl h)))))))))))))))))))
theorem t21 {α : Type} {x a0 a1 a2 a3 a4 a5 a6 a7 a8 a9 a10 a11 a12 a13 a14 a15 a16 a17 a18 a19 a20 : α} {l : List α} (h : x ∈ l) : x ∈ a0 :: a1 :: a2 :: a3 :: a4 :: a5 :: a6 :: a7 :: a8 :: a9 :: a10 :: a11 :: a12 :: a13 :: a14 :: a15 :: a16 :: a17 :: a18 :: a19 :: a20 :: l := .tail _ (.tail _ (.tail _ (.tail _ (.tail _ (.tail _ (.tail _ (.tail _ (.tail _ (.tail _ (.tail _ (.tail _ (.tail _ (.tail _ (.tail _ (.tail _ (.tail _ (.tail _ (.tail _ (.tail _ (.tail _ h))))))))))))))))))))
theorem i21 {α : Type} {a0 a1 a2 a3 a4 a5 a6 a7 a8 a9 a10 a11 a12 a13 a14 a15 a16 a17 a18 a19 a20 : α} {l l' : List α} (h : ∀ p ∈ l, p ∈ l') : ∀ p ∈ l, p ∈ a0 :: a1 :: a2 :: a3 :: a4 :: a5 :: a6 :: a7 :: a8 :: a9 :: a10 :: a11 :: a12 :: a13 :: a14 :: a15 :: a16 :: a17 :: a18 :: a19 :: a20 :: l' := in_tl (in_tl (in_tl (in_tl (in_tl (in_tl (in_tl (in_tl (in_tl (in_tl (in_tl (in_tl (in_tl (in_tl (in_tl (in_tl (in_tl (in_tl (in_tl (in_tl (in_tl h))))))))))))))))))))
theorem t22 {α : Type} {x a0 a1 a2 a3 a4 a5 a6 a7 a8 a9 a10 a11 a12 a13 a14 a15 a16 a17 a18 a19 a20 a21 : α} {l : List α} (h : x ∈ l) : x ∈ a0 :: a1 :: a2 :: a3 :: a4 :: a5 :: a6 :: a7 :: a8 :: a9 :: a10 :: a11 :: a12 :: a13 :: a14 :: a15 :: a16 :: a17 :: a18 :: a19 :: a20 :: a21 :: l := .tail _ (.tail _ (.tail _ (.tail _ (.tail _ (.tail _ (.tail _ (.tail _ (.tail _ (.tail _ (.tail _ (.tail _ (.tail _ (.tail _ (.tail _ (.tail _ (.tail _ (.tail _ (.tail _ (.tail _ (.tail _ (.tail _ h)))))))))))))))))))))
theorem i22 {α : Type} {a0 a1 a2 a3 a4 a5 a6 a7 a8 a9 a10 a11 a12 a13 a14 a15 a16 a17 a18 a19 a20 a21 : α} {l l' : List α} (h : ∀ p ∈ l, p ∈ l') : ∀ p ∈ l, p ∈ a0 :: a1 :: a2 :: a3 :: a4 :: a5 :: a6 :: a7 :: a8 :: a9 :: a10 :: a11 :: a12 :: a13 :: a14 :: a15 :: a16 :: a17 :: a18 :: a19 :: a20 :: a21 :: l' := in_tl (in_tl (in_tl (in_tl (in_tl (in_tl (in_tl (in_tl (in_tl (in_tl (in_tl (in_tl (in_tl (in_tl (in_tl (in_tl (in_tl (in_tl (in_tl (in_tl (in_tl (in_tl h)))))))))))))))))))))
theorem t23 {α : Type} {x a0 a1 a2 a3 a4 a5 a6 a7 a8 a9 a10 a11 a12 a13 a14 a15 a16 a17 a18 a19 a20 a21 a22 : α} {l : List α} (h : x ∈ l) : x ∈ a0 :: a1 :: a2 :: a3 :: a4 :: a5 :: a6 :: a7 :: a8 :: a9 :: a10 :: a11 :: a12 :: a13 :: a14 :: a15 :: a16 :: a17 :: a18 :: a19 :: a20 :: a21 :: a22 :: l := .tail _ (.tail _ (.tail _ (.tail _ (.tail _ (.tail _ (.tail _ (.tail _ (.tail _ (.tail _ (.tail _ (.tail _ (.tail _ (.tail _ (.tail _ (.tail _ (.tail _ (.tail _ (.tail _ (.tail _ (.tail _ (.tail _ (.tail _ h))))))))))))))))))))))
theorem i23 {α : Type} {a0 a1 a2 a3 a4 a5 a6 a7 a8 a9 a10 a11 a12 a13 a14 a15 a16 a17 a18 a19 a20 a21 a22 : α} {l l' : List α} (h : ∀ p ∈ l, p ∈ l') : ∀ p ∈ l, p ∈ a0 :: a1 :: a2 :: a3 :: a4 :: a5 :: a6 :: a7 :: a8 :: a9 :: a10 :: a11 :: a12 :: a13 :: a14 :: a15 :: a16 :: a17 :: a18 :: a19 :: a20 :: a21 :: a22 :: l' := in_tl (in_tl (in_tl (in_tl (in_tl (in_tl (in_tl (in_tl (in_tl (in_tl (in_tl (in_tl (in_tl (in_tl (in_tl (in_tl (in_tl (in_tl (in_tl (in_tl (in_tl (in_tl (in_tl h))))))))))))))))))))))
theorem t24 {α : Type} {x a0 a1 a2 a3 a4 a5 a6 a7 a8 a9 a10 a11 a12 a13 a14 a15 a16 a17 a18 a19 a20 a21 a22 a23 : α} {l : List α} (h : x ∈ l) : x ∈ a0 :: a1 :: a2 :: a3 :: a4 :: a5 :: a6 :: a7 :: a8 :: a9 :: a10 :: a11 :: a12 :: a13 :: a14 :: a15 :: a16 :: a17 :: a18 :: a19 :: a20 :: a21 :: a22 :: a23 :: l := .tail _ (.tail _ (.tail _ (.tail _ (.tail _ (.tail _ (.tail _ (.tail _ (.tail _ (.tail _ (.tail _ (.tail _ (.tail _ (.tail _ (.tail _ (.tail _ (.tail _ (.tail _ (.tail _ (.tail _ (.tail _ (.tail _ (.tail _ (.tail _ h)))))))))))))))))))))))
theorem i24 {α : Type} {a0 a1 a2 a3 a4 a5 a6 a7 a8 a9 a10 a11 a12 a13 a14 a15 a16 a17 a18 a19 a20 a21 a22 a23 : α} {l l' : List α} (h : ∀ p ∈ l, p ∈ l') : ∀ p ∈ l, p ∈ a0 :: a1 :: a2 :: a3 :: a4 :: a5 :: a6 :: a7 :: a8 :: a9 :: a10 :: a11 :: a12 :: a13 :: a14 :: a15 :: a16 :: a17 :: a18 :: a19 :: a20 :: a21 :: a22 :: a23 :: l' := in_tl (in_tl (in_tl (in_tl (in_tl (in_tl (in_tl (in_tl (in_tl (in_tl (in_tl (in_tl (in_tl (in_tl (in_tl (in_tl (in_tl (in_tl (in_tl (in_tl (in_tl (in_tl (in_tl (in_tl h)))))))))))))))))))))))
theorem t25 {α : Type} {x a0 a1 a2 a3 a4 a5 a6 a7 a8 a9 a10 a11 a12 a13 a14 a15 a16 a17 a18 a19 a20 a21 a22 a23 a24 : α} {l : List α} (h : x ∈ l) : x ∈ a0 :: a1 :: a2 :: a3 :: a4 :: a5 :: a6 :: a7 :: a8 :: a9 :: a10 :: a11 :: a12 :: a13 :: a14 :: a15 :: a16 :: a17 :: a18 :: a19 :: a20 :: a21 :: a22 :: a23 :: a24 :: l := .tail _ (.tail _ (.tail _ (.tail _ (.tail _ (.tail _ (.tail _ (.tail _ (.tail _ (.tail _ (.tail _ (.tail _ (.tail _ (.tail _ (.tail _ (.tail _ (.tail _ (.tail _ (.tail _ (.tail _ (.tail _ (.tail _ (.tail _ (.tail _ (.tail _ h))))))))))))))))))))))))
theorem i25 {α : Type} {a0 a1 a2 a3 a4 a5 a6 a7 a8 a9 a10 a11 a12 a13 a14 a15 a16 a17 a18 a19 a20 a21 a22 a23 a24 : α} {l l' : List α} (h : ∀ p ∈ l, p ∈ l') : ∀ p ∈ l, p ∈ a0 :: a1 :: a2 :: a3 :: a4 :: a5 :: a6 :: a7 :: a8 :: a9 :: a10 :: a11 :: a12 :: a13 :: a14 :: a15 :: a16 :: a17 :: a18 :: a19 :: a20 :: a21 :: a22 :: a23 :: a24 :: l' := in_tl (in_tl (in_tl (in_tl (in_tl (in_tl (in_tl (in_tl (in_tl (in_tl (in_tl (in_tl (in_tl (in_tl (in_tl (in_tl (in_tl (in_tl (in_tl (in_tl (in_tl (in_tl (in_tl (in_tl (in_tl h))))))))))))))))))))))))
theorem mh {α : Type} {x : α} {l : List α} : x ∈ x :: l := .head _
theorem upd_other {m m' : Str → Option Value} {x y : Str} {v : Value} {r : Option Value} (e : m' = upd m x v) (h : m y = r) (hy : y ≠ x) : m' y = r := by
  rw [e]
  exact (if_neg hy).trans h
theorem upd_self {m m' : Str → Option Value} {x : Str} {v : Value} (e : m' = upd m x v) : m' x = some v := by
  rw [e]
  exact if_pos rfl
theorem ne_obj {g h : Heap} {L a b : Addr} {x y : Obj} {l : List (Addr × Obj)} (N : News g L h l) (ha : (a, x) ∈ l) (hb : (b, y) ∈ l) (hxy : x ≠ y) : a ≠ b := fun e => by
  have h1 := (N _ ha).1
  have h2 := (N _ hb).1
  dsimp only at h1 h2
  rw [e, h2] at h1
  exact hxy (Option.some.inj h1).symm
theorem lst_cell {vs : List Value} {e : Nat} {o : Obj} {v : Option Value} (d : o.data = .cell v) : lstO vs e ≠ o := fun h => by
  rw [← h] at d
  cases d
theorem far_obj {g h : Heap} {L a : Addr} {vs : List Value} {e : Nat} {l : List (Addr × Obj)} {y5 y6 y7 y8 y9 y10 y11 y12 y13 y14 : Obj} {v5 v6 v7 v8 v9 v10 v11 v12 v13 v14 : Option Value} (N : News g L h l) (ha : (a, lstO vs e) ∈ l)
    (m5 : (L + 5, y5) ∈ l) (m6 : (L + 6, y6) ∈ l) (m7 : (L + 7, y7) ∈ l) (m8 : (L + 8, y8) ∈ l) (m9 : (L + 9, y9) ∈ l) (m10 : (L + 10, y10) ∈ l) (m11 : (L + 11, y11) ∈ l) (m12 : (L + 12, y12) ∈ l) (m13 : (L + 13, y13) ∈ l) (m14 : (L + 14, y14) ∈ l)
    (d5 : y5.data = .cell v5) (d6 : y6.data = .cell v6) (d7 : y7.data = .cell v7) (d8 : y8.data = .cell v8) (d9 : y9.data = .cell v9) (d10 : y10.data = .cell v10) (d11 : y11.data = .cell v11) (d12 : y12.data = .cell v12) (d13 : y13.data = .cell v13) (d14 : y14.data = .cell v14) : Far L a := by
  intro i h1 h2
  rcases (i514 (by assumption) (by assumption)) with rfl | rfl | rfl | rfl | rfl | rfl | rfl | rfl | rfl | rfl
  · exact ne_obj N ha m5 (lst_cell d5)
  · exact ne_obj N ha m6 (lst_cell d6)
  · exact ne_obj N ha m7 (lst_cell d7)
  · exact ne_obj N ha m8 (lst_cell d8)
  · exact ne_obj N ha m9 (lst_cell d9)
  · exact ne_obj N ha m10 (lst_cell d10)
  · exact ne_obj N ha m11 (lst_cell d11)
  · exact ne_obj N ha m12 (lst_cell d12)
  · exact ne_obj N ha m13 (lst_cell d13)
  · exact ne_obj N ha m14 (lst_cell d14)
theorem far_new {L a : Addr} {l : List (Addr × Obj)} {y5 y6 y7 y8 y9 y10 y11 y12 y13 y14 : Obj} (h : ∀ p ∈ l, p.1 ≠ a)
    (m5 : (L + 5, y5) ∈ l) (m6 : (L + 6, y6) ∈ l) (m7 : (L + 7, y7) ∈ l) (m8 : (L + 8, y8) ∈ l) (m9 : (L + 9, y9) ∈ l) (m10 : (L + 10, y10) ∈ l) (m11 : (L + 11, y11) ∈ l) (m12 : (L + 12, y12) ∈ l) (m13 : (L + 13, y13) ∈ l) (m14 : (L + 14, y14) ∈ l) : Far L a := by
  intro i h1 h2
  rcases (i514 (by assumption) (by assumption)) with rfl | rfl | rfl | rfl | rfl | rfl | rfl | rfl | rfl | rfl
  · exact (h _ m5).symm
  · exact (h _ m6).symm
  · exact (h _ m7).symm
  · exact (h _ m8).symm
  · exact (h _ m9).symm
  · exact (h _ m10).symm
  · exact (h _ m11).symm
  · exact (h _ m12).symm
  · exact (h _ m13).symm
  · exact (h _ m14).symm
theorem lst_tab {vs : List Value} {e : Nat} {ps : Array Value} : lstO vs e ≠ tabObj ps := fun h => by
  have := congrArg Obj.cls h
  cases this
theorem t26 {α : Type} {x a0 a1 a2 a3 a4 a5 a6 a7 a8 a9 a10 a11 a12 a13 a14 a15 a16 a17 a18 a19 a20 a21 a22 a23 a24 a25 : α} {l : List α} (h : x ∈ l) : x ∈ a0 :: a1 :: a2 :: a3 :: a4 :: a5 :: a6 :: a7 :: a8 :: a9 :: a10 :: a11 :: a12 :: a13 :: a14 :: a15 :: a16 :: a17 :: a18 :: a19 :: a20 :: a21 :: a22 :: a23 :: a24 :: a25 :: l := .tail _ (t25 h)
theorem i26 {α : Type} {a0 a1 a2 a3 a4 a5 a6 a7 a8 a9 a10 a11 a12 a13 a14 a15 a16 a17 a18 a19 a20 a21 a22 a23 a24 a25 : α} {l l' : List α} (h : ∀ p ∈ l, p ∈ l') : ∀ p ∈ l, p ∈ a0 :: a1 :: a2 :: a3 :: a4 :: a5 :: a6 :: a7 :: a8 :: a9 :: a10 :: a11 :: a12 :: a13 :: a14 :: a15 :: a16 :: a17 :: a18 :: a19 :: a20 :: a21 :: a22 :: a23 :: a24 :: a25 :: l' := in_tl (i25 h)
theorem t27 {α : Type} {x a0 a1 a2 a3 a4 a5 a6 a7 a8 a9 a10 a11 a12 a13 a14 a15 a16 a17 a18 a19 a20 a21 a22 a23 a24 a25 a26 : α} {l : List α} (h : x ∈ l) : x ∈ a0 :: a1 :: a2 :: a3 :: a4 :: a5 :: a6 :: a7 :: a8 :: a9 :: a10 :: a11 :: a12 :: a13 :: a14 :: a15 :: a16 :: a17 :: a18 :: a19 :: a20 :: a21 :: a22 :: a23 :: a24 :: a25 :: a26 :: l := .tail _ (t26 h)
theorem i27 {α : Type} {a0 a1 a2 a3 a4 a5 a6 a7 a8 a9 a10 a11 a12 a13 a14 a15 a16 a17 a18 a19 a20 a21 a22 a23 a24 a25 a26 : α} {l l' : List α} (h : ∀ p ∈ l, p ∈ l') : ∀ p ∈ l, p ∈ a0 :: a1 :: a2 :: a3 :: a4 :: a5 :: a6 :: a7 :: a8 :: a9 :: a10 :: a11 :: a12 :: a13 :: a14 :: a15 :: a16 :: a17 :: a18 :: a19 :: a20 :: a21 :: a22 :: a23 :: a24 :: a25 :: a26 :: l' := in_tl (i26 h)
theorem t28 {α : Type} {x a0 a1 a2 a3 a4 a5 a6 a7 a8 a9 a10 a11 a12 a13 a14 a15 a16 a17 a18 a19 a20 a21 a22 a23 a24 a25 a26 a27 : α} {l : List α} (h : x ∈ l) : x ∈ a0 :: a1 :: a2 :: a3 :: a4 :: a5 :: a6 :: a7 :: a8 :: a9 :: a10 :: a11 :: a12 :: a13 :: a14 :: a15 :: a16 :: a17 :: a18 :: a19 :: a20 :: a21 :: a22 :: a23 :: a24 :: a25 :: a26 :: a27 :: l := .tail _ (t27 h)
theorem i28 {α : Type} {a0 a1 a2 a3 a4 a5 a6 a7 a8 a9 a10 a11 a12 a13 a14 a15 a16 a17 a18 a19 a20 a21 a22 a23 a24 a25 a26 a27 : α} {l l' : List α} (h : ∀ p ∈ l, p ∈ l') : ∀ p ∈ l, p ∈ a0 :: a1 :: a2 :: a3 :: a4 :: a5 :: a6 :: a7 :: a8 :: a9 :: a10 :: a11 :: a12 :: a13 :: a14 :: a15 :: a16 :: a17 :: a18 :: a19 :: a20 :: a21 :: a22 :: a23 :: a24 :: a25 :: a26 :: a27 :: l' := in_tl (i27 h)
theorem t29 {α : Type} {x a0 a1 a2 a3 a4 a5 a6 a7 a8 a9 a10 a11 a12 a13 a14 a15 a16 a17 a18 a19 a20 a21 a22 a23 a24 a25 a26 a27 a28 : α} {l : List α} (h : x ∈ l) : x ∈ a0 :: a1 :: a2 :: a3 :: a4 :: a5 :: a6 :: a7 :: a8 :: a9 :: a10 :: a11 :: a12 :: a13 :: a14 :: a15 :: a16 :: a17 :: a18 :: a19 :: a20 :: a21 :: a22 :: a23 :: a24 :: a25 :: a26 :: a27 :: a28 :: l := .tail _ (t28 h)
theorem i29 {α : Type} {a0 a1 a2 a3 a4 a5 a6 a7 a8 a9 a10 a11 a12 a13 a14 a15 a16 a17 a18 a19 a20 a21 a22 a23 a24 a25 a26 a27 a28 : α} {l l' : List α} (h : ∀ p ∈ l, p ∈ l') : ∀ p ∈ l, p ∈ a0 :: a1 :: a2 :: a3 :: a4 :: a5 :: a6 :: a7 :: a8 :: a9 :: a10 :: a11 :: a12 :: a13 :: a14 :: a15 :: a16 :: a17 :: a18 :: a19 :: a20 :: a21 :: a22 :: a23 :: a24 :: a25 :: a26 :: a27 :: a28 :: l' := in_tl (i28 h)
theorem t30 {α : Type} {x a0 a1 a2 a3 a4 a5 a6 a7 a8 a9 a10 a11 a12 a13 a14 a15 a16 a17 a18 a19 a20 a21 a22 a23 a24 a25 a26 a27 a28 a29 : α} {l : List α} (h : x ∈ l) : x ∈ a0 :: a1 :: a2 :: a3 :: a4 :: a5 :: a6 :: a7 :: a8 :: a9 :: a10 :: a11 :: a12 :: a13 :: a14 :: a15 :: a16 :: a17 :: a18 :: a19 :: a20 :: a21 :: a22 :: a23 :: a24 :: a25 :: a26 :: a27 :: a28 :: a29 :: l := .tail _ (t29 h)
theorem i30 {α : Type} {a0 a1 a2 a3 a4 a5 a6 a7 a8 a9 a10 a11 a12 a13 a14 a15 a16 a17 a18 a19 a20 a21 a22 a23 a24 a25 a26 a27 a28 a29 : α} {l l' : List α} (h : ∀ p ∈ l, p ∈ l') : ∀ p ∈ l, p ∈ a0 :: a1 :: a2 :: a3 :: a4 :: a5 :: a6 :: a7 :: a8 :: a9 :: a10 :: a11 :: a12 :: a13 :: a14 :: a15 :: a16 :: a17 :: a18 :: a19 :: a20 :: a21 :: a22 :: a23 :: a24 :: a25 :: a26 :: a27 :: a28 :: a29 :: l' := in_tl (i29 h)
theorem t31 {α : Type} {x a0 a1 a2 a3 a4 a5 a6 a7 a8 a9 a10 a11 a12 a13 a14 a15 a16 a17 a18 a19 a20 a21 a22 a23 a24 a25 a26 a27 a28 a29 a30 : α} {l : List α} (h : x ∈ l) : x ∈ a0 :: a1 :: a2 :: a3 :: a4 :: a5 :: a6 :: a7 :: a8 :: a9 :: a10 :: a11 :: a12 :: a13 :: a14 :: a15 :: a16 :: a17 :: a18 :: a19 :: a20 :: a21 :: a22 :: a23 :: a24 :: a25 :: a26 :: a27 :: a28 :: a29 :: a30 :: l := .tail _ (t30 h)
theorem i31 {α : Type} {a0 a1 a2 a3 a4 a5 a6 a7 a8 a9 a10 a11 a12 a13 a14 a15 a16 a17 a18 a19 a20 a21 a22 a23 a24 a25 a26 a27 a28 a29 a30 : α} {l l' : List α} (h : ∀ p ∈ l, p ∈ l') : ∀ p ∈ l, p ∈ a0 :: a1 :: a2 :: a3 :: a4 :: a5 :: a6 :: a7 :: a8 :: a9 :: a10 :: a11 :: a12 :: a13 :: a14 :: a15 :: a16 :: a17 :: a18 :: a19 :: a20 :: a21 :: a22 :: a23 :: a24 :: a25 :: a26 :: a27 :: a28 :: a29 :: a30 :: l' := in_tl (i30 h)
theorem t32 {α : Type} {x a0 a1 a2 a3 a4 a5 a6 a7 a8 a9 a10 a11 a12 a13 a14 a15 a16 a17 a18 a19 a20 a21 a22 a23 a24 a25 a26 a27 a28 a29 a30 a31 : α} {l : List α} (h : x ∈ l) : x ∈ a0 :: a1 :: a2 :: a3 :: a4 :: a5 :: a6 :: a7 :: a8 :: a9 :: a10 :: a11 :: a12 :: a13 :: a14 :: a15 :: a16 :: a17 :: a18 :: a19 :: a20 :: a21 :: a22 :: a23 :: a24 :: a25 :: a26 :: a27 :: a28 :: a29 :: a30 :: a31 :: l := .tail _ (t31 h)
theorem i32 {α : Type} {a0 a1 a2 a3 a4 a5 a6 a7 a8 a9 a10 a11 a12 a13 a14 a15 a16 a17 a18 a19 a20 a21 a22 a23 a24 a25 a26 a27 a28 a29 a30 a31 : α} {l l' : List α} (h : ∀ p ∈ l, p ∈ l') : ∀ p ∈ l, p ∈ a0 :: a1 :: a2 :: a3 :: a4 :: a5 :: a6 :: a7 :: a8 :: a9 :: a10 :: a11 :: a12 :: a13 :: a14 :: a15 :: a16 :: a17 :: a18 :: a19 :: a20 :: a21 :: a22 :: a23 :: a24 :: a25 :: a26 :: a27 :: a28 :: a29 :: a30 :: a31 :: l' := in_tl (i31 h)
end
section
noncomputable def nameS (i : Nat) : Str := [Str.ofString "", Str.ofString " A\n", Str.ofString "\"", Str.ofString " A", Str.ofString "#n", Str.ofString "\\"].getD i (Str.ofString "")
noncomputable def markS : Str := Str.ofString "#n \"\n\x0b\\"
theorem tokQ_end (acc cs : List Nat) : tokQ acc (34 :: cs) = (acc, cs) := by cases cs <;> simp [tokQ]
theorem tokP_10 (acc cs : List Nat) : tokP acc (10 :: cs) = (acc, cs) := by cases cs <;> simp [tokP, isWs]
theorem tokP_32 (acc cs : List Nat) : tokP acc (32 :: cs) = (acc, cs) := by cases cs <;> simp [tokP, isWs]
theorem tok_n0 (u : Int) (hu : u = 0 ∨ u = 1 ∨ u = 2) (cs : List Nat) : tokA (wrt (nameS 0) u ++ cs) = ((nameS 0).cps.toList, cs) := by
  k_with "x56" => skip
  rcases hu with rfl | rfl | rfl
  · have e : wrt (nameS 0) 0 = [34, 34] := by decide +kernel
    have e2 : (nameS 0).cps.toList = [] := by decide +kernel
    rw [e, e2]
    simp [tokA, tokP, tokQ, isWs, tokQ_end, tokP_10, tokP_32]
  · have e : wrt (nameS 0) 1 = [34, 34] := by decide +kernel
    have e2 : (nameS 0).cps.toList = [] := by decide +kernel
    rw [e, e2]
    simp [tokA, tokP, tokQ, isWs, tokQ_end, tokP_10, tokP_32]
  · have e : wrt (nameS 0) 2 = [34, 34] := by decide +kernel
    have e2 : (nameS 0).cps.toList = [] := by decide +kernel
    rw [e, e2]
    simp [tokA, tokP, tokQ, isWs, tokQ_end, tokP_10, tokP_32]
theorem tok_n1 (u : Int) (hu : u = 0 ∨ u = 1 ∨ u = 2) (cs : List Nat) : tokA (wrt (nameS 1) u ++ cs) = ((nameS 1).cps.toList, cs) := by
  rcases hu with rfl | rfl | rfl
  · have e : wrt (nameS 1) 0 = [92, 32, 92, 65, 92, 10, 10] := by decide +kernel
    have e2 : (nameS 1).cps.toList = [32, 65, 10] := by decide +kernel
    rw [e, e2]
    simp [tokA, tokP, tokQ, isWs, tokQ_end, tokP_10, tokP_32]
  · have e : wrt (nameS 1) 1 = [34, 32, 92, 65, 10, 34] := by decide +kernel
    have e2 : (nameS 1).cps.toList = [32, 65, 10] := by decide +kernel
    rw [e, e2]
    simp [tokA, tokP, tokQ, isWs, tokQ_end, tokP_10, tokP_32]
  · have e : wrt (nameS 1) 2 = [9, 13, 92, 32, 65, 92, 10, 32] := by decide +kernel
    have e2 : (nameS 1).cps.toList = [32, 65, 10] := by decide +kernel
    rw [e, e2]
    simp [tokA, tokP, tokQ, isWs, tokQ_end, tokP_10, tokP_32]
theorem tok_n2 (u : Int) (hu : u = 0 ∨ u = 1 ∨ u = 2) (cs : List Nat) : tokA (wrt (nameS 2) u ++ cs) = ((nameS 2).cps.toList, cs) := by
  rcases hu with rfl | rfl | rfl
  · have e : wrt (nameS 2) 0 = [92, 34, 10] := by decide +kernel
    have e2 : (nameS 2).cps.toList = [34] := by decide +kernel
    rw [e, e2]
    simp [tokA, tokP, tokQ, isWs, tokQ_end, tokP_10, tokP_32]
  · have e : wrt (nameS 2) 1 = [34, 92, 34, 34] := by decide +kernel
    have e2 : (nameS 2).cps.toList = [34] := by decide +kernel
    rw [e, e2]
    simp [tokA, tokP, tokQ, isWs, tokQ_end, tokP_10, tokP_32]
  · have e : wrt (nameS 2) 2 = [9, 13, 92, 34, 32] := by decide +kernel
    have e2 : (nameS 2).cps.toList = [34] := by decide +kernel
    rw [e, e2]
    simp [tokA, tokP, tokQ, isWs, tokQ_end, tokP_10, tokP_32]
theorem tok_n3 (u : Int) (hu : u = 0 ∨ u = 1 ∨ u = 2) (cs : List Nat) : tokA (wrt (nameS 3) u ++ cs) = ((nameS 3).cps.toList, cs) := by
  rcases hu with rfl | rfl | rfl
  · have e : wrt (nameS 3) 0 = [92, 32, 92, 65, 10] := by decide +kernel
    have e2 : (nameS 3).cps.toList = [32, 65] := by decide +kernel
    rw [e, e2]
    simp [tokA, tokP, tokQ, isWs, tokQ_end, tokP_10, tokP_32]
  · have e : wrt (nameS 3) 1 = [34, 32, 92, 65, 34] := by decide +kernel
    have e2 : (nameS 3).cps.toList = [32, 65] := by decide +kernel
    rw [e, e2]
    simp [tokA, tokP, tokQ, isWs, tokQ_end, tokP_10, tokP_32]
  · have e : wrt (nameS 3) 2 = [9, 13, 92, 32, 65, 32] := by decide +kernel
    have e2 : (nameS 3).cps.toList = [32, 65] := by decide +kernel
    rw [e, e2]
    simp [tokA, tokP, tokQ, isWs, tokQ_end, tokP_10, tokP_32]
theorem tok_n4 (u : Int) (hu : u = 0 ∨ u = 1 ∨ u = 2) (cs : List Nat) : tokA (wrt (nameS 4) u ++ cs) = ((nameS 4).cps.toList, cs) := by
  rcases hu with rfl | rfl | rfl
  · have e : wrt (nameS 4) 0 = [92, 35, 92, 110, 10] := by decide +kernel
    have e2 : (nameS 4).cps.toList = [35, 110] := by decide +kernel
    rw [e, e2]
    simp [tokA, tokP, tokQ, isWs, tokQ_end, tokP_10, tokP_32]
  · have e : wrt (nameS 4) 1 = [34, 35, 110, 34] := by decide +kernel
    have e2 : (nameS 4).cps.toList = [35, 110] := by decide +kernel
    rw [e, e2]
    simp [tokA, tokP, tokQ, isWs, tokQ_end, tokP_10, tokP_32]
  · have e : wrt (nameS 4) 2 = [9, 13, 35, 110, 32] := by decide +kernel
    have e2 : (nameS 4).cps.toList = [35, 110] := by decide +kernel
    rw [e, e2]
    simp [tokA, tokP, tokQ, isWs, tokQ_end, tokP_10, tokP_32]
theorem tok_n5 (u : Int) (hu : u = 0 ∨ u = 1 ∨ u = 2) (cs : List Nat) : tokA (wrt (nameS 5) u ++ cs) = ((nameS 5).cps.toList, cs) := by
  rcases hu with rfl | rfl | rfl
  · have e : wrt (nameS 5) 0 = [92, 92, 10] := by decide +kernel
    have e2 : (nameS 5).cps.toList = [92] := by decide +kernel
    rw [e, e2]
    simp [tokA, tokP, tokQ, isWs, tokQ_end, tokP_10, tokP_32]
  · have e : wrt (nameS 5) 1 = [34, 92, 92, 34] := by decide +kernel
    have e2 : (nameS 5).cps.toList = [92] := by decide +kernel
    rw [e, e2]
    simp [tokA, tokP, tokQ, isWs, tokQ_end, tokP_10, tokP_32]
  · have e : wrt (nameS 5) 2 = [9, 13, 92, 92, 32] := by decide +kernel
    have e2 : (nameS 5).cps.toList = [92] := by decide +kernel
    rw [e, e2]
    simp [tokA, tokP, tokQ, isWs, tokQ_end, tokP_10, tokP_32]
theorem tok_LI (u : Int) (hu : u = 0 ∨ u = 1 ∨ u = 2) (cs : List Nat) : tokA (wrt (wayW 1) u ++ cs) = ((wayW 1).cps.toList, cs) := by
  rcases hu with rfl | rfl | rfl
  · have e : wrt (wayW 1) 0 = [92, 76, 92, 73, 10] := by decide +kernel
    have e2 : (wayW 1).cps.toList = [76, 73] := by decide +kernel
    rw [e, e2]
    simp [tokA, tokP, tokQ, isWs, tokQ_end, tokP_10, tokP_32]
  · have e : wrt (wayW 1) 1 = [34, 76, 73, 34] := by decide +kernel
    have e2 : (wayW 1).cps.toList = [76, 73] := by decide +kernel
    rw [e, e2]
    simp [tokA, tokP, tokQ, isWs, tokQ_end, tokP_10, tokP_32]
  · have e : wrt (wayW 1) 2 = [9, 13, 76, 73, 32] := by decide +kernel
    have e2 : (wayW 1).cps.toList = [76, 73] := by decide +kernel
    rw [e, e2]
    simp [tokA, tokP, tokQ, isWs, tokQ_end, tokP_10, tokP_32]
theorem tok_OC (u : Int) (hu : u = 0 ∨ u = 1 ∨ u = 2) (cs : List Nat) : tokA (wrt (wayW (-1)) u ++ cs) = ((wayW (-1)).cps.toList, cs) := by
  rcases hu with rfl | rfl | rfl
  · have e : wrt (wayW (-1)) 0 = [92, 79, 92, 67, 10] := by decide +kernel
    have e2 : (wayW (-1)).cps.toList = [79, 67] := by decide +kernel
    rw [e, e2]
    simp [tokA, tokP, tokQ, isWs, tokQ_end, tokP_10, tokP_32]
  · have e : wrt (wayW (-1)) 1 = [34, 92, 79, 92, 67, 34] := by decide +kernel
    have e2 : (wayW (-1)).cps.toList = [79, 67] := by decide +kernel
    rw [e, e2]
    simp [tokA, tokP, tokQ, isWs, tokQ_end, tokP_10, tokP_32]
  · have e : wrt (wayW (-1)) 2 = [9, 13, 79, 67, 32] := by decide +kernel
    have e2 : (wayW (-1)).cps.toList = [79, 67] := by decide +kernel
    rw [e, e2]
    simp [tokA, tokP, tokQ, isWs, tokQ_end, tokP_10, tokP_32]
theorem tok_OI (u : Int) (hu : u = 0 ∨ u = 1 ∨ u = 2) (cs : List Nat) : tokA (wrt (Str.ofString "OI") u ++ cs) = ((Str.ofString "OI").cps.toList, cs) := by
  rcases hu with rfl | rfl | rfl
  · have e : wrt (Str.ofString "OI") 0 = [92, 79, 92, 73, 10] := by decide +kernel
    have e2 : (Str.ofString "OI").cps.toList = [79, 73] := by decide +kernel
    rw [e, e2]
    simp [tokA, tokP, tokQ, isWs, tokQ_end, tokP_10, tokP_32]
  · have e : wrt (Str.ofString "OI") 1 = [34, 92, 79, 73, 34] := by decide +kernel
    have e2 : (Str.ofString "OI").cps.toList = [79, 73] := by decide +kernel
    rw [e, e2]
    simp [tokA, tokP, tokQ, isWs, tokQ_end, tokP_10, tokP_32]
  · have e : wrt (Str.ofString "OI") 2 = [9, 13, 79, 73, 32] := by decide +kernel
    have e2 : (Str.ofString "OI").cps.toList = [79, 73] := by decide +kernel
    rw [e, e2]
    simp [tokA, tokP, tokQ, isWs, tokQ_end, tokP_10, tokP_32]
theorem tok_mark (u : Int) (hu : u = 0 ∨ u = 1 ∨ u = 2) : tokA (wrt markS u).dropLast = (markS.cps.toList, []) := by
  rcases hu with rfl | rfl | rfl
  · have e : (wrt markS 0).dropLast = [92, 35, 92, 110, 92, 32, 92, 34, 92, 10, 92, 11, 92, 92] := by decide +kernel
    have e2 : markS.cps.toList = [35, 110, 32, 34, 10, 11, 92] := by decide +kernel
    rw [e, e2]
    simp [tokA, tokP, tokQ, isWs, tokQ_end, tokP_10, tokP_32]
  · have e : (wrt markS 1).dropLast = [34, 35, 110, 32, 92, 34, 10, 11, 92, 92] := by decide +kernel
    have e2 : markS.cps.toList = [35, 110, 32, 34, 10, 11, 92] := by decide +kernel
    rw [e, e2]
    simp [tokA, tokP, tokQ, isWs, tokQ_end, tokP_10, tokP_32]
  · have e : (wrt markS 2).dropLast = [9, 13, 35, 110, 92, 32, 34, 92, 10, 11, 92, 92] := by decide +kernel
    have e2 : markS.cps.toList = [35, 110, 32, 34, 10, 11, 92] := by decide +kernel
    rw [e, e2]
    simp [tokA, tokP, tokQ, isWs, tokQ_end, tokP_10, tokP_32]
theorem tok_name (i : Nat) (hi : i < 6) (u : Int) (hu : u = 0 ∨ u = 1 ∨ u = 2) (cs : List Nat) : tokA (wrt (nameS i) u ++ cs) = ((nameS i).cps.toList, cs) := by
  rcases (by omega : i = 0 ∨ i = 1 ∨ i = 2 ∨ i = 3 ∨ i = 4 ∨ i = 5) with rfl | rfl | rfl | rfl | rfl | rfl
  · exact tok_n0 u hu cs
  · exact tok_n1 u hu cs
  · exact tok_n2 u hu cs
  · exact tok_n3 u hu cs
  · exact tok_n4 u hu cs
  · exact tok_n5 u hu cs
theorem tok_way (wy : Int) (hw : wy = 1 ∨ wy = -1) (u : Int) (hu : u = 0 ∨ u = 1 ∨ u = 2) (cs : List Nat) : tokA (wrt (wayW wy) u ++ cs) = ((wayW wy).cps.toList, cs) := by
  rcases hw with rfl | rfl
  · exact tok_LI u hu cs
  · exact tok_OC u hu cs
theorem name_ok (i : Nat) (hi : i < 6) : PyData.strOk (nameS i) = true ∧ (nameS i).cps.size ≤ 100 := by
  rcases (by omega : i = 0 ∨ i = 1 ∨ i = 2 ∨ i = 3 ∨ i = 4 ∨ i = 5) with rfl | rfl | rfl | rfl | rfl | rfl <;> decide +kernel
theorem name_inj (i j : Nat) (hi : i < 6) (hj : j < 6) (h : i ≠ j) : nameS i ≠ nameS j := by
  rcases (by omega : i = 0 ∨ i = 1 ∨ i = 2 ∨ i = 3 ∨ i = 4 ∨ i = 5) with rfl | rfl | rfl | rfl | rfl | rfl <;>
    rcases (by omega : j = 0 ∨ j = 1 ∨ j = 2 ∨ j = 3 ∨ j = 4 ∨ j = 5) with rfl | rfl | rfl | rfl | rfl | rfl <;> first | exact absurd rfl h | decide +kernel
theorem name_at (u0 u1 u2 u3 u4 u5 : Tok) (i : Nat) (hi : i < 6) : ∃ q, (namesV u0 u1 u2 u3 u4 u5)[i]? = some (.str (nameS i) q) := by
  rcases (by omega : i = 0 ∨ i = 1 ∨ i = 2 ∨ i = 3 ∨ i = 4 ∨ i = 5) with rfl | rfl | rfl | rfl | rfl | rfl <;> exact ⟨_, rfl⟩
theorem text_toks {x : Str} {i j : Nat} (hi : i < 6) (hj : j < 6) {wy : Int} (hw : wy = 1 ∨ wy = -1) {w1 w2 w3 w4 w5 : Int} (h1 : w1 = 0 ∨ w1 = 1 ∨ w1 = 2) (h2 : w2 = 0 ∨ w2 = 1 ∨ w2 = 2) (h3 : w3 = 0 ∨ w3 = 1 ∨ w3 = 2) (h4 : w4 = 0 ∨ w4 = 1 ∨ w4 = 2) (h5 : w5 = 0 ∨ w5 = 1 ∨ w5 = 2)
    (hx : x.cps.toList = (wrt (nameS i) w1 ++ wrt (nameS j) w2 ++ wrt (wayW wy) w3 ++ wrt (Str.ofString "OI") w4 ++ wrt markS w5).dropLast) :
    tokA x.cps.toList = ((nameS i).cps.toList, (tokA x.cps.toList).2) ∧ tokA (tokA x.cps.toList).2 = ((nameS j).cps.toList, (tokA (tokA x.cps.toList).2).2) ∧ tokA (tokA (tokA x.cps.toList).2).2 = ((wayW wy).cps.toList, (tokA (tokA (tokA x.cps.toList).2).2).2) ∧
     tokA (tokA (tokA (tokA x.cps.toList).2).2).2 = ((Str.ofString "OI").cps.toList, (tokA (tokA (tokA (tokA x.cps.toList).2).2).2).2) ∧ tokA (tokA (tokA (tokA (tokA x.cps.toList).2).2).2).2 = (markS.cps.toList, []) ∧ x.cps.toList.length < 9000 := by
  have hne : wrt markS w5 ≠ [] := fun e => by
    have := wrt_ne markS w5
    rw [e] at this
    simp at this
  rw [List.dropLast_append_of_ne_nil hne] at hx
  have l1 := wrt_len (nameS i) w1
  have l2 := wrt_len (nameS j) w2
  have l3 := wrt_len (wayW wy) w3
  have l4 := wrt_len (Str.ofString "OI") w4
  have l5 := wrt_len markS w5
  have z1 := (name_ok i hi).2
  have z2 := (name_ok j hj).2
  have z3 : (wayW wy).cps.size ≤ 100 := by rcases hw with rfl | rfl <;> decide +kernel
  have z4 : (Str.ofString "OI").cps.size ≤ 100 := by decide +kernel
  have z5 : markS.cps.size ≤ 100 := by decide +kernel
  have hlen : x.cps.toList.length < 9000 := by
    rw [hx]
    simp only [List.length_append, List.length_dropLast]
    omega
  simp only [List.append_assoc] at hx
  rw [hx, tok_name i hi w1 h1]
  dsimp only
  rw [tok_name j hj w2 h2]
  dsimp only
  rw [tok_way wy hw w3 h3]
  dsimp only
  rw [tok_OI w4 h4]
  dsimp only
  rw [tok_mark w5 h5]
  refine ⟨rfl, rfl, rfl, rfl, rfl, ?_⟩
  rw [hx] at hlen
  exact hlen
end
section
section
namespace Z_comp_21
noncomputable def zP (w : World) (loose : List Str) (mean : ExcName → Option Value) (mg : Str → Option Value) (mb : Str → Option Value) (cd : Value) (fa : Addr) (g : Heap) (L : Addr) (s₀ : Shared) (s : Shared) (E : Value → Shared → Prop) (m : Str → Option Value) (obs : List (Addr × Obj)) (lx : Addr) (dx : Addr) (P : Addr) (sg : Addr) (xf : Addr) (tf : Addr) (a : Int × Tok) (b : Int × Tok) (c : Int × Tok) (d : Int × Tok) (ln : Int) (tn : Tok) (tw : Tok) (le1 : Nat) (le2 : Nat) (c9 : Nat) (ys : List Value) (rest : List (Addr × Obj)) (cs : List Nat) (WA : Addr) (PA : Addr) (FA : Addr) (SA : Addr) (RA : Addr) (RU : Addr) (x1 : Str) (x2 : Str) (lo : Str) (hi : Str) (wy : Int) (q1 : Tok) (q2 : Tok) (q3 : Tok) (q4 : Tok) (q5 : Tok) (tl : Tok) (th : Tok) (we : Nat) (pe : Nat) (fe : Nat) (se : Nat) (re : Nat) (ue : Nat) (u0 : Tok) (u1 : Tok) (u2 : Tok) (u3 : Tok) (u4 : Tok) (u5 : Tok) (u6 : Tok) (u7 : Tok) (v0 : Tok) (v1 : Tok) (v2 : Tok) (v3 : Tok) (v4 : Tok) (v5 : Tok) (v6 : Tok) (v7 : Tok) (ru0 : Tok) (ru1 : Tok) (ru2 : Tok) (ru3 : Tok) (vs : List Value) (f : Nat) (r0 : Int) (r1 : Int) (r2 : Int) (r3 : Int) (n : Nat) (tz : Tok) (x : Str) (ux : Tok) (vf : Tok) (vw : Tok) (o4 : Obj) (o5 : Obj) (o6 : Obj) (o7 : Obj) (o8 : Obj) (o9 : Obj) (o10 : Obj) (o11 : Obj) (o12 : Obj) (o13 : Obj) (o14 : Obj) (ps : Array Value) : Prop := ∀ (hys : SignsAre ys cs) (hl : cs.length < 9999) (hln : 0 ≤ ln ∧ ln < 9999) (KX : LexOk w loose mean mg mb lx dx P sg xf tf rest) (hwy : wy = 1 ∨ wy = -1) (hlt : LtS lo hi) (hx : (lo = x1 ∧ hi = x2) ∨ (lo = x2 ∧ hi = x1)) (ok1 : PyData.strOk lo = true) (ok2 : PyData.strOk hi = true) (hf : f < 4) (hr : (1 ≤ r0 ∧ r0 ≤ 3) ∧ (1 ≤ r1 ∧ r1 ≤ 3) ∧ (1 ≤ r2 ∧ r2 ≤ 3) ∧ (1 ≤ r3 ∧ r3 ≤ 3)) (hv : IntsAre vs (rulerL f r0 r1 r2 r3)) (hn : 6 ≤ n ∧ n ≤ 9) (hm1 : (tokA cs).1.toArray = (Str.ofString "#n \"\n\x0b\\").cps) (hm2 : (tokA cs).2 = []) (hct : ln + (cs.count 10 : Int) = 1 + (x.cps.toList.count 10 : Int)) (d4 : o4.data = .cell (some (.int (n : Int) tz))) (d5 : o5.data = .cell (some (.ref WA))) (d6 : o6.data = .cell (some (.ref lx))) (d7 : o7.data = .cell (some (.ref PA))) (d8 : o8.data = .cell (some (.ref FA))) (d9 : o9.data = .cell (some (.ref SA))) (d10 : o10.data = .cell none) (d11 : o11.data = .cell none) (d12 : o12.data = .cell none) (d13 : o13.data = .cell none) (d14 : o14.data = .cell none) (m0 : m (Str.ofString "ruler") = some (.ref RU)) (m1 : m (Str.ofString "runs") = some (.ref RA)) (m2 : m (Str.ofString "form") = some (.int (f : Int) vf)) (m3 : m (Str.ofString "way") = some (.int wy vw)) (m4 : m (Str.ofString "text") = some (.str x ux)) (hK : OffK L lx dx P sg) (hO : ∀ p ∈ (WA, lstO [.str x1 q1, .str x2 q2, .str (wayW wy) q3, .str (Str.ofString "OI") q4, .str (Str.ofString "#n \"\n\x0b\\") q5] we) :: (PA, lstO [Vd lo hi tl th false, Vd lo hi tl th true] pe) :: (FA, lstO (fig8 (fgW wy) u0 u1 u2 u3 u4 u5 u6 u7) fe) :: (SA, lstO (fig8 fgO v0 v1 v2 v3 v4 v5 v6 v7) se) :: (RA, lstO [.int r0 ru0, .int r1 ru1, .int r2 ru2, .int r3 ru3] re) :: (RU, lstO vs ue) :: obs, Sep L lx dx P sg p.1) (hrest : ∀ p ∈ rest, p ∈ obs) (h100 : (100, tabObj ps) ∈ obs) (G : LawG w loose mean mg mb g L s₀ s) (F : Fr g L s.heap m) (N : News g L s.heap ((lx, instObj 52 dx) :: (dx, dictOf (lexD a b c d ln tn (.ref xf) tw P) le1) :: (P, lstO [] le2) :: (sg, lstO ys c9) :: (L + 1 + 1 + 1 + 1, o4) :: (L + 1 + 1 + 1 + 1 + 1, o5) :: (L + 1 + 1 + 1 + 1 + 1 + 1, o6) :: (L + 1 + 1 + 1 + 1 + 1 + 1 + 1, o7) :: (L + 1 + 1 + 1 + 1 + 1 + 1 + 1 + 1, o8) :: (L + 1 + 1 + 1 + 1 + 1 + 1 + 1 + 1 + 1, o9) :: (L + 1 + 1 + 1 + 1 + 1 + 1 + 1 + 1 + 1 + 1, o10) :: (L + 1 + 1 + 1 + 1 + 1 + 1 + 1 + 1 + 1 + 1 + 1, o11) :: (L + 1 + 1 + 1 + 1 + 1 + 1 + 1 + 1 + 1 + 1 + 1 + 1, o12) :: (L + 1 + 1 + 1 + 1 + 1 + 1 + 1 + 1 + 1 + 1 + 1 + 1 + 1, o13) :: (L + 1 + 1 + 1 + 1 + 1 + 1 + 1 + 1 + 1 + 1 + 1 + 1 + 1 + 1, o14) :: (WA, lstO [.str x1 q1, .str x2 q2, .str (wayW wy) q3, .str (Str.ofString "OI") q4, .str (Str.ofString "#n \"\n\x0b\\") q5] we) :: (PA, lstO [Vd lo hi tl th false, Vd lo hi tl th true] pe) :: (FA, lstO (fig8 (fgW wy) u0 u1 u2 u3 u4 u5 u6 u7) fe) :: (SA, lstO (fig8 fgO v0 v1 v2 v3 v4 v5 v6 v7) se) :: (RA, lstO [.int r0 ru0, .int r1 ru1, .int r2 ru2, .int r3 ru3] re) :: (RU, lstO vs ue) :: obs)), LawS w g L fa cd s₀ E 21 s
noncomputable def zk : DD := pickD fun c => zP (c.fW 0) (c.fLs 0) (c.fMe 0) (c.fMp 0) (c.fMp 1) (c.fV 0) (c.fA 0) (c.fH 0) (c.fA 1) (c.fSh 0) (c.fSh 1) (c.fE 0) (c.fMp 2) (c.fLed 0) (c.fA 2) (c.fA 3) (c.fA 4) (c.fA 5) (c.fA 6) (c.fA 7) (c.fIt 0) (c.fIt 1) (c.fIt 2) (c.fIt 3) (c.fI 0) (c.fT 0) (c.fT 1) (c.fN 0) (c.fN 1) (c.fN 2) (c.fLv 0) (c.fLed 1) (c.fLn 0) (c.fA 8) (c.fA 9) (c.fA 10) (c.fA 11) (c.fA 12) (c.fA 13) (c.fS 0) (c.fS 1) (c.fS 2) (c.fS 3) (c.fI 1) (c.fT 2) (c.fT 3) (c.fT 4) (c.fT 5) (c.fT 6) (c.fT 7) (c.fT 8) (c.fN 3) (c.fN 4) (c.fN 5) (c.fN 6) (c.fN 7) (c.fN 8) (c.fT 9) (c.fT 10) (c.fT 11) (c.fT 12) (c.fT 13) (c.fT 14) (c.fT 15) (c.fT 16) (c.fT 17) (c.fT 18) (c.fT 19) (c.fT 20) (c.fT 21) (c.fT 22) (c.fT 23) (c.fT 24) (c.fT 25) (c.fT 26) (c.fT 27) (c.fT 28) (c.fLv 1) (c.fN 9) (c.fI 2) (c.fI 3) (c.fI 4) (c.fI 5) (c.fN 10) (c.fT 29) (c.fS 4) (c.fT 30) (c.fT 31) (c.fT 32) (c.fO 0) (c.fO 1) (c.fO 2) (c.fO 3) (c.fO 4) (c.fO 5) (c.fO 6) (c.fO 7) (c.fO 8) (c.fO 9) (c.fO 10) (c.fAv 0)
noncomputable section
@[irreducible] def w : World := zk.fW 0
@[irreducible] def loose : List Str := zk.fLs 0
@[irreducible] def mean : ExcName → Option Value := zk.fMe 0
@[irreducible] def mg : Str → Option Value := zk.fMp 0
@[irreducible] def mb : Str → Option Value := zk.fMp 1
@[irreducible] def cd : Value := zk.fV 0
@[irreducible] def fa : Addr := zk.fA 0
@[irreducible] def g : Heap := zk.fH 0
@[irreducible] def L : Addr := zk.fA 1
@[irreducible] def s₀ : Shared := zk.fSh 0
@[irreducible] def s : Shared := zk.fSh 1
@[irreducible] def E : Value → Shared → Prop := zk.fE 0
@[irreducible] def m : Str → Option Value := zk.fMp 2
@[irreducible] def obs : List (Addr × Obj) := zk.fLed 0
@[irreducible] def lx : Addr := zk.fA 2
@[irreducible] def dx : Addr := zk.fA 3
@[irreducible] def P : Addr := zk.fA 4
@[irreducible] def sg : Addr := zk.fA 5
@[irreducible] def xf : Addr := zk.fA 6
@[irreducible] def tf : Addr := zk.fA 7
@[irreducible] def a : Int × Tok := zk.fIt 0
@[irreducible] def b : Int × Tok := zk.fIt 1
@[irreducible] def c : Int × Tok := zk.fIt 2
@[irreducible] def d : Int × Tok := zk.fIt 3
@[irreducible] def ln : Int := zk.fI 0
@[irreducible] def tn : Tok := zk.fT 0
@[irreducible] def tw : Tok := zk.fT 1
@[irreducible] def le1 : Nat := zk.fN 0
@[irreducible] def le2 : Nat := zk.fN 1
@[irreducible] def c9 : Nat := zk.fN 2
@[irreducible] def ys : List Value := zk.fLv 0
@[irreducible] def rest : List (Addr × Obj) := zk.fLed 1
@[irreducible] def cs : List Nat := zk.fLn 0
@[irreducible] def WA : Addr := zk.fA 8
@[irreducible] def PA : Addr := zk.fA 9
@[irreducible] def FA : Addr := zk.fA 10
@[irreducible] def SA : Addr := zk.fA 11
@[irreducible] def RA : Addr := zk.fA 12
@[irreducible] def RU : Addr := zk.fA 13
@[irreducible] def x1 : Str := zk.fS 0
@[irreducible] def x2 : Str := zk.fS 1
@[irreducible] def lo : Str := zk.fS 2
@[irreducible] def hi : Str := zk.fS 3
@[irreducible] def wy : Int := zk.fI 1
@[irreducible] def q1 : Tok := zk.fT 2
@[irreducible] def q2 : Tok := zk.fT 3
@[irreducible] def q3 : Tok := zk.fT 4
@[irreducible] def q4 : Tok := zk.fT 5
@[irreducible] def q5 : Tok := zk.fT 6
@[irreducible] def tl : Tok := zk.fT 7
@[irreducible] def th : Tok := zk.fT 8
@[irreducible] def we : Nat := zk.fN 3
@[irreducible] def pe : Nat := zk.fN 4
@[irreducible] def fe : Nat := zk.fN 5
@[irreducible] def se : Nat := zk.fN 6
@[irreducible] def re : Nat := zk.fN 7
@[irreducible] def ue : Nat := zk.fN 8
@[irreducible] def u0 : Tok := zk.fT 9
@[irreducible] def u1 : Tok := zk.fT 10
@[irreducible] def u2 : Tok := zk.fT 11
@[irreducible] def u3 : Tok := zk.fT 12
@[irreducible] def u4 : Tok := zk.fT 13
@[irreducible] def u5 : Tok := zk.fT 14
@[irreducible] def u6 : Tok := zk.fT 15
@[irreducible] def u7 : Tok := zk.fT 16
@[irreducible] def v0 : Tok := zk.fT 17
@[irreducible] def v1 : Tok := zk.fT 18
@[irreducible] def v2 : Tok := zk.fT 19
@[irreducible] def v3 : Tok := zk.fT 20
@[irreducible] def v4 : Tok := zk.fT 21
@[irreducible] def v5 : Tok := zk.fT 22
@[irreducible] def v6 : Tok := zk.fT 23
@[irreducible] def v7 : Tok := zk.fT 24
@[irreducible] def ru0 : Tok := zk.fT 25
@[irreducible] def ru1 : Tok := zk.fT 26
@[irreducible] def ru2 : Tok := zk.fT 27
@[irreducible] def ru3 : Tok := zk.fT 28
@[irreducible] def vs : List Value := zk.fLv 1
@[irreducible] def f : Nat := zk.fN 9
@[irreducible] def r0 : Int := zk.fI 2
@[irreducible] def r1 : Int := zk.fI 3
@[irreducible] def r2 : Int := zk.fI 4
@[irreducible] def r3 : Int := zk.fI 5
@[irreducible] def n : Nat := zk.fN 10
@[irreducible] def tz : Tok := zk.fT 29
@[irreducible] def x : Str := zk.fS 4
@[irreducible] def ux : Tok := zk.fT 30
@[irreducible] def vf : Tok := zk.fT 31
@[irreducible] def vw : Tok := zk.fT 32
@[irreducible] def o4 : Obj := zk.fO 0
@[irreducible] def o5 : Obj := zk.fO 1
@[irreducible] def o6 : Obj := zk.fO 2
@[irreducible] def o7 : Obj := zk.fO 3
@[irreducible] def o8 : Obj := zk.fO 4
@[irreducible] def o9 : Obj := zk.fO 5
@[irreducible] def o10 : Obj := zk.fO 6
@[irreducible] def o11 : Obj := zk.fO 7
@[irreducible] def o12 : Obj := zk.fO 8
@[irreducible] def o13 : Obj := zk.fO 9
@[irreducible] def o14 : Obj := zk.fO 10
@[irreducible] def ps : Array Value := zk.fAv 0
end
theorem zcore : zP w loose mean mg mb cd fa g L s₀ s E m obs lx dx P sg xf tf a b c d ln tn tw le1 le2 c9 ys rest cs WA PA FA SA RA RU x1 x2 lo hi wy q1 q2 q3 q4 q5 tl th we pe fe se re ue u0 u1 u2 u3 u4 u5 u6 u7 v0 v1 v2 v3 v4 v5 v6 v7 ru0 ru1 ru2 ru3 vs f r0 r1 r2 r3 n tz x ux vf vw o4 o5 o6 o7 o8 o9 o10 o11 o12 o13 o14 ps := by
  unfold zP
  intro hys hl hln KX hwy hlt hx ok1 ok2 hf hr hv hn hm1 hm2 hct d4 d5 d6 d7 d8 d9 d10 d11 d12 d13 d14 m0 m1 m2 m3 m4 hK hO hrest h100 G F N
  have hst : (n - 2) / 2 = 2 ∨ (n - 2) / 2 = 3 := by omega
  have hmo : (n - 1) / 2 ≤ 9 := by omega
  have hrb := ring_ruler (f := f) (n := n) hr (by omega)
  have hrok := ruler_ok (f := f) hr
  obtain ⟨bs, hbs⟩ : ∃ bs, bs = bitsP (formL f r0 r1 r2 r3) n := ⟨_, rfl⟩
  have hbl : bs.length = n := by rw [hbs]; exact bitsP_len _ _
  have hr1 := ring_1 hwy bs (by omega) _ hst
  rw [hbl] at hr1
  have hr2 := ring_2 hwy hbl hn
  have hlal := (laterP_len wy bs ((n - 2) / 2)).trans hbl
  obtain ⟨k4, k5, k6, k7, k8, k9, k10, k11, k12, k13, k14⟩ := hK
  obtain ⟨hWA, fWA⟩ := hO _ mh
  obtain ⟨hPA, fPA⟩ := hO _ (t1 mh)
  obtain ⟨hFA, fFA⟩ := hO _ (t2 mh)
  obtain ⟨hSA, fSA⟩ := hO _ (t3 mh)
  obtain ⟨hRA, fRA⟩ := hO _ (t4 mh)
  obtain ⟨hRU, fRU⟩ := hO _ (t5 mh)
  have hO := fun p hp => hO p (.tail _ (.tail _ (.tail _ (.tail _ (.tail _ (.tail _ hp))))))
  refine lawS_step (by decide) (law_21 w loose mean mg mb cd fa g L s₀ s _ _ _ ((sg, lstO ys c9) :: (L + 1 + 1 + 1 + 1 + 1, o5) :: (L + 1 + 1 + 1 + 1 + 1 + 1 + 1 + 1, o8) :: (L + 1 + 1 + 1 + 1 + 1 + 1 + 1 + 1 + 1, o9) :: (L + 1 + 1 + 1 + 1 + 1 + 1 + 1 + 1 + 1 + 1, o10) :: (L + 1 + 1 + 1 + 1 + 1 + 1 + 1 + 1 + 1 + 1 + 1, o11) :: (L + 1 + 1 + 1 + 1 + 1 + 1 + 1 + 1 + 1 + 1 + 1 + 1, o12) :: (L + 1 + 1 + 1 + 1 + 1 + 1 + 1 + 1 + 1 + 1 + 1 + 1 + 1, o13) :: (L + 1 + 1 + 1 + 1 + 1 + 1 + 1 + 1 + 1 + 1 + 1 + 1 + 1 + 1, o14) :: (WA, lstO [.str x1 q1, .str x2 q2, .str (wayW wy) q3, .str (Str.ofString "OI") q4, .str (Str.ofString "#n \"\n\x0b\\") q5] we) :: (FA, lstO (fig8 (fgW wy) u0 u1 u2 u3 u4 u5 u6 u7) fe) :: (SA, lstO (fig8 fgO v0 v1 v2 v3 v4 v5 v6 v7) se) :: (RA, lstO [.int r0 ru0, .int r1 ru1, .int r2 ru2, .int r3 ru3] re) :: obs) lx dx P a b c d ln tn tw (.ref xf) le1 le2 PA pe lo hi tl th hlt RU vs ue (rulerL f r0 r1 r2 r3) hv hrok.1 hrok.2.1 hrok.2.2.1 n tz hn hrok.2.2.2 o4 o6 o7 d4 d6 d7 (fc (o3 k6) (fc (o3 hRU) (fc (o3 k4) (fc (o3 k7) (fc (o3 hPA) (fc KX.sgne (fc (o3 k5) (fc (o3 k8) (fc (o3 k9) (fc (o3 k10) (fc (o3 k11) (fc (o3 k12) (fc (o3 k13) (fc (o3 k14) (fc (o3 hWA) (fc (o3 hFA) (fc (o3 hSA) (fc (o3 hRA) (fun p hp => o3 (hO p hp).1))))))))))))))))))) m0 (fun s m₂ e9 G F N hm => ?_) G F (news_ix N 21 [0, 1, 2, 6, 20, 4, 7, 16, 3, 5, 8, 9, 10, 11, 12, 13, 14, 15, 17, 18, 19]))
  show LawS w g L fa cd s₀ E 22 s
  rw [hrb, ← hbs] at N
  have m1 := (hm _ (by decide +kernel)).trans m1
  have m2 := (hm _ (by decide +kernel)).trans m2
  have m3 := (hm _ (by decide +kernel)).trans m3
  have m4 := (hm _ (by decide +kernel)).trans m4
  clear hm m0
  refine lawS_step (by decide) (law_22 w loose mean mg mb cd fa g L s₀ s _ _ _ ((lx, instObj 52 dx) :: (dx, dictOf (lexD a b c d ln tn (.ref xf) tw P) le1) :: (P, lstO ((bs).map (Vd lo hi tl th)) e9) :: (sg, lstO ys c9) :: (L + 1 + 1 + 1 + 1 + 1, o5) :: (L + 1 + 1 + 1 + 1 + 1 + 1, o6) :: (L + 1 + 1 + 1 + 1 + 1 + 1 + 1, o7) :: (L + 1 + 1 + 1 + 1 + 1 + 1 + 1 + 1, o8) :: (L + 1 + 1 + 1 + 1 + 1 + 1 + 1 + 1 + 1, o9) :: (L + 1 + 1 + 1 + 1 + 1 + 1 + 1 + 1 + 1 + 1, o10) :: (L + 1 + 1 + 1 + 1 + 1 + 1 + 1 + 1 + 1 + 1 + 1, o11) :: (L + 1 + 1 + 1 + 1 + 1 + 1 + 1 + 1 + 1 + 1 + 1 + 1, o12) :: (L + 1 + 1 + 1 + 1 + 1 + 1 + 1 + 1 + 1 + 1 + 1 + 1 + 1, o13) :: (L + 1 + 1 + 1 + 1 + 1 + 1 + 1 + 1 + 1 + 1 + 1 + 1 + 1 + 1, o14) :: (WA, lstO [.str x1 q1, .str x2 q2, .str (wayW wy) q3, .str (Str.ofString "OI") q4, .str (Str.ofString "#n \"\n\x0b\\") q5] we) :: (PA, lstO [Vd lo hi tl th false, Vd lo hi tl th true] pe) :: (FA, lstO (fig8 (fgW wy) u0 u1 u2 u3 u4 u5 u6 u7) fe) :: (SA, lstO (fig8 fgO v0 v1 v2 v3 v4 v5 v6 v7) se) :: (RU, lstO vs ue) :: obs) RA r0 r1 r2 r3 ru0 ru1 ru2 ru3 re f hf vf hr n tz hn o4 d4 m1 m2 (fun s BD bv be G F N hb hsep => ?_) G F (news_ix N 21 [20, 5, 0, 1, 2, 8, 9, 3, 6, 10, 11, 12, 13, 14, 15, 16, 17, 7, 18, 19, 4]))
  show LawS w g L fa cd s₀ E 23 s
  rw [← hbs] at hb
  obtain ⟨hBD, fBD⟩ : Sep L lx dx P sg BD := sep_or hsep ⟨hRA, fRA⟩ fun hsep => sep_new hsep (t2 mh) (t3 mh) (t4 mh) (t5 mh) (t6 mh) (t7 mh) (t8 mh) (t9 mh) (t10 mh) (t11 mh) (t12 mh) (t13 mh) (t14 mh) (t15 mh)
  clear hsep
  obtain ⟨m₁, e₁⟩ : ∃ m₉, m₉ = upd m₂ (Str.ofString "bits") (.ref BD) := ⟨_, rfl⟩
  rw [← e₁] at F
  have m3 := upd_other e₁ m3 (by decide +kernel)
  have m4 := upd_other e₁ m4 (by decide +kernel)
  have mbt := upd_self e₁
  clear e₁
  refine lawS_step (by decide) (law_23 w loose mean mg mb cd fa g L s₀ s _ _ _ ((lx, instObj 52 dx) :: (dx, dictOf (lexD a b c d ln tn (.ref xf) tw P) le1) :: (P, lstO ((bs).map (Vd lo hi tl th)) e9) :: (sg, lstO ys c9) :: (L + 1 + 1 + 1 + 1, o4) :: (L + 1 + 1 + 1 + 1 + 1 + 1, o6) :: (L + 1 + 1 + 1 + 1 + 1 + 1 + 1, o7) :: (L + 1 + 1 + 1 + 1 + 1 + 1 + 1 + 1, o8) :: (L + 1 + 1 + 1 + 1 + 1 + 1 + 1 + 1 + 1, o9) :: (L + 1 + 1 + 1 + 1 + 1 + 1 + 1 + 1 + 1 + 1 + 1, o11) :: (L + 1 + 1 + 1 + 1 + 1 + 1 + 1 + 1 + 1 + 1 + 1 + 1, o12) :: (L + 1 + 1 + 1 + 1 + 1 + 1 + 1 + 1 + 1 + 1 + 1 + 1 + 1, o13) :: (L + 1 + 1 + 1 + 1 + 1 + 1 + 1 + 1 + 1 + 1 + 1 + 1 + 1 + 1, o14) :: (PA, lstO [Vd lo hi tl th false, Vd lo hi tl th true] pe) :: (FA, lstO (fig8 (fgW wy) u0 u1 u2 u3 u4 u5 u6 u7) fe) :: (SA, lstO (fig8 fgO v0 v1 v2 v3 v4 v5 v6 v7) se) :: (RA, lstO [.int r0 ru0, .int r1 ru1, .int r2 ru2, .int r3 ru3] re) :: (RU, lstO vs ue) :: (BD, lstO bv be) :: obs) WA x1 x2 wy q1 q2 q3 q4 q5 we o5 d5 lo hi hlt hx o10 d10 (fc k10.1.symm (fc k10.2.1.symm (fc k10.2.2.1.symm (fc k10.2.2.2.symm (fc (kne L 4 10 (by decide)) (fc (kne L 6 10 (by decide)) (fc (kne L 7 10 (by decide)) (fc (kne L 8 10 (by decide)) (fc (kne L 9 10 (by decide)) (fc (kne L 11 10 (by decide)) (fc (kne L 12 10 (by decide)) (fc (kne L 13 10 (by decide)) (fc (kne L 14 10 (by decide)) (fc (far_at fPA 10) (fc (far_at fFA 10) (fc (far_at fSA 10) (fc (far_at fRA 10) (fc (far_at fRU 10) (fc (far_at fBD 10) (fun p hp => far_at (hO p hp).2 10)))))))))))))))))))) (far_at fWA 10) (fun s DU dl dh de o10 G F N d10 hsep => ?_) G F (news_ix N 22 [17, 7, 12, 3, 4, 5, 6, 2, 8, 9, 10, 11, 13, 14, 15, 16, 18, 19, 20, 1, 21, 0]))
  show LawS w g L fa cd s₀ E 24 s
  obtain ⟨hDU, fDU⟩ : Sep L lx dx P sg DU := sep_new hsep (t3 mh) (t4 mh) (t5 mh) (t6 mh) (t1 mh) (t8 mh) (t9 mh) (t10 mh) (t11 mh) (t2 mh) (t12 mh) (t13 mh) (t14 mh) (t15 mh)
  clear hsep
  refine lawS_step (by decide) (law_24 w loose mean mg mb cd fa g L s₀ s _ _ _ ((lx, instObj 52 dx) :: (dx, dictOf (lexD a b c d ln tn (.ref xf) tw P) le1) :: (P, lstO ((bs).map (Vd lo hi tl th)) e9) :: (sg, lstO ys c9) :: (L + 1 + 1 + 1 + 1 + 1, o5) :: (L + 1 + 1 + 1 + 1 + 1 + 1, o6) :: (L + 1 + 1 + 1 + 1 + 1 + 1 + 1, o7) :: (L + 1 + 1 + 1 + 1 + 1 + 1 + 1 + 1, o8) :: (L + 1 + 1 + 1 + 1 + 1 + 1 + 1 + 1 + 1, o9) :: (L + 1 + 1 + 1 + 1 + 1 + 1 + 1 + 1 + 1 + 1, o10) :: (L + 1 + 1 + 1 + 1 + 1 + 1 + 1 + 1 + 1 + 1 + 1 + 1, o12) :: (L + 1 + 1 + 1 + 1 + 1 + 1 + 1 + 1 + 1 + 1 + 1 + 1 + 1, o13) :: (L + 1 + 1 + 1 + 1 + 1 + 1 + 1 + 1 + 1 + 1 + 1 + 1 + 1 + 1, o14) :: (WA, lstO [.str x1 q1, .str x2 q2, .str (wayW wy) q3, .str (Str.ofString "OI") q4, .str (Str.ofString "#n \"\n\x0b\\") q5] we) :: (PA, lstO [Vd lo hi tl th false, Vd lo hi tl th true] pe) :: (FA, lstO (fig8 (fgW wy) u0 u1 u2 u3 u4 u5 u6 u7) fe) :: (SA, lstO (fig8 fgO v0 v1 v2 v3 v4 v5 v6 v7) se) :: (RA, lstO [.int r0 ru0, .int r1 ru1, .int r2 ru2, .int r3 ru3] re) :: (RU, lstO vs ue) :: (BD, lstO bv be) :: (DU, lstO [.str lo dl, .str hi dh] de) :: obs) n tz hn o4 d4 o11 d11 (fc k11.1.symm (fc k11.2.1.symm (fc k11.2.2.1.symm (fc k11.2.2.2.symm (fc (kne L 5 11 (by decide)) (fc (kne L 6 11 (by decide)) (fc (kne L 7 11 (by decide)) (fc (kne L 8 11 (by decide)) (fc (kne L 9 11 (by decide)) (fc (kne L 10 11 (by decide)) (fc (kne L 12 11 (by decide)) (fc (kne L 13 11 (by decide)) (fc (kne L 14 11 (by decide)) (fc (far_at fWA 11) (fc (far_at fPA 11) (fc (far_at fFA 11) (fc (far_at fSA 11) (fc (far_at fRA 11) (fc (far_at fRU 11) (fc (far_at fBD 11) (fc (far_at fDU 11) (fun p hp => far_at (hO p hp).2 11)))))))))))))))))))))) (fun s o11 ts G F N d11 => ?_) G F (news_ix N 23 [8, 13, 4, 5, 6, 7, 2, 9, 10, 11, 12, 3, 14, 15, 16, 1, 17, 18, 19, 20, 21, 22, 0]))
  show LawS w g L fa cd s₀ E 25 s
  refine lawS_step (by decide) (law_25 w loose mean mg mb cd fa g L s₀ s _ _ _ ((lx, instObj 52 dx) :: (dx, dictOf (lexD a b c d ln tn (.ref xf) tw P) le1) :: (P, lstO ((bs).map (Vd lo hi tl th)) e9) :: (sg, lstO ys c9) :: (L + 1 + 1 + 1 + 1 + 1, o5) :: (L + 1 + 1 + 1 + 1 + 1 + 1, o6) :: (L + 1 + 1 + 1 + 1 + 1 + 1 + 1, o7) :: (L + 1 + 1 + 1 + 1 + 1 + 1 + 1 + 1, o8) :: (L + 1 + 1 + 1 + 1 + 1 + 1 + 1 + 1 + 1, o9) :: (L + 1 + 1 + 1 + 1 + 1 + 1 + 1 + 1 + 1 + 1, o10) :: (L + 1 + 1 + 1 + 1 + 1 + 1 + 1 + 1 + 1 + 1 + 1, o11) :: (L + 1 + 1 + 1 + 1 + 1 + 1 + 1 + 1 + 1 + 1 + 1 + 1 + 1, o13) :: (L + 1 + 1 + 1 + 1 + 1 + 1 + 1 + 1 + 1 + 1 + 1 + 1 + 1 + 1, o14) :: (WA, lstO [.str x1 q1, .str x2 q2, .str (wayW wy) q3, .str (Str.ofString "OI") q4, .str (Str.ofString "#n \"\n\x0b\\") q5] we) :: (PA, lstO [Vd lo hi tl th false, Vd lo hi tl th true] pe) :: (FA, lstO (fig8 (fgW wy) u0 u1 u2 u3 u4 u5 u6 u7) fe) :: (SA, lstO (fig8 fgO v0 v1 v2 v3 v4 v5 v6 v7) se) :: (RA, lstO [.int r0 ru0, .int r1 ru1, .int r2 ru2, .int r3 ru3] re) :: (RU, lstO vs ue) :: (BD, lstO bv be) :: (DU, lstO [.str lo dl, .str hi dh] de) :: obs) n tz hn o4 d4 o12 d12 (fc k12.1.symm (fc k12.2.1.symm (fc k12.2.2.1.symm (fc k12.2.2.2.symm (fc (kne L 5 12 (by decide)) (fc (kne L 6 12 (by decide)) (fc (kne L 7 12 (by decide)) (fc (kne L 8 12 (by decide)) (fc (kne L 9 12 (by decide)) (fc (kne L 10 12 (by decide)) (fc (kne L 11 12 (by decide)) (fc (kne L 13 12 (by decide)) (fc (kne L 14 12 (by decide)) (fc (far_at fWA 12) (fc (far_at fPA 12) (fc (far_at fFA 12) (fc (far_at fSA 12) (fc (far_at fRA 12) (fc (far_at fRU 12) (fc (far_at fBD 12) (fc (far_at fDU 12) (fun p hp => far_at (hO p hp).2 12)))))))))))))))))))))) (fun s o12 tm G F N d12 => ?_) G F (news_ix N 23 [0, 12, 2, 3, 4, 5, 6, 7, 8, 9, 10, 11, 1, 13, 14, 15, 16, 17, 18, 19, 20, 21, 22]))
  show LawS w g L fa cd s₀ E 26 s
  refine lawS_step (by decide) (law_26 w loose mean mg mb cd fa g L s₀ s _ _ _ ((sg, lstO ys c9) :: (L + 1 + 1 + 1 + 1 + 1, o5) :: (L + 1 + 1 + 1 + 1 + 1 + 1 + 1 + 1 + 1, o9) :: (L + 1 + 1 + 1 + 1 + 1 + 1 + 1 + 1 + 1 + 1, o10) :: (L + 1 + 1 + 1 + 1 + 1 + 1 + 1 + 1 + 1 + 1 + 1 + 1, o12) :: (L + 1 + 1 + 1 + 1 + 1 + 1 + 1 + 1 + 1 + 1 + 1 + 1 + 1, o13) :: (L + 1 + 1 + 1 + 1 + 1 + 1 + 1 + 1 + 1 + 1 + 1 + 1 + 1 + 1, o14) :: (WA, lstO [.str x1 q1, .str x2 q2, .str (wayW wy) q3, .str (Str.ofString "OI") q4, .str (Str.ofString "#n \"\n\x0b\\") q5] we) :: (SA, lstO (fig8 fgO v0 v1 v2 v3 v4 v5 v6 v7) se) :: (RA, lstO [.int r0 ru0, .int r1 ru1, .int r2 ru2, .int r3 ru3] re) :: (RU, lstO vs ue) :: (BD, lstO bv be) :: (DU, lstO [.str lo dl, .str hi dh] de) :: obs) lx dx P a b c d ln tn tw (.ref xf) le1 e9 PA pe lo hi tl th hlt FA (fig8 (fgW wy) u0 u1 u2 u3 u4 u5 u6 u7) fe (fW wy) (fig_at hwy u0 u1 u2 u3 u4 u5 u6 u7) bs n ((n - 2) / 2) hbl hn (by omega) tz ts o4 o6 o7 o8 o11 d4 d6 d7 d8 d11 (fc (o3 hFA) (fc (o3 hPA) (fc (o3 k4) (fc (o3 k6) (fc (o3 k7) (fc (o3 k8) (fc (o3 k11) (fc KX.sgne (fc (o3 k5) (fc (o3 k9) (fc (o3 k10) (fc (o3 k12) (fc (o3 k13) (fc (o3 k14) (fc (o3 hWA) (fc (o3 hSA) (fc (o3 hRA) (fc (o3 hRU) (fc (o3 hBD) (fc (o3 hDU) (fun p hp => o3 (hO p hp).1))))))))))))))))))))) (fun s e9 G F N => ?_) G F (news_ix N 23 [2, 3, 4, 17, 16, 0, 7, 8, 9, 12, 5, 6, 10, 11, 1, 13, 14, 15, 18, 19, 20, 21, 22]))
  show LawS w g L fa cd s₀ E 27 s
  obtain ⟨ra, hra⟩ : ∃ ra, ra = swN (fW wy) bs ((n - 2) / 2) := ⟨_, rfl⟩
  have hral : ra.length = n := by rw [hra, swN_len]; exact hbl
  rw [← hra] at N hr1 hr2
  refine lawS_step (by decide) (law_27 w loose mean mg mb cd fa g L s₀ s _ _ _ ((lx, instObj 52 dx) :: (dx, dictOf (lexD a b c d ln tn (.ref xf) tw P) le1) :: (P, lstO ((ra).map (Vd lo hi tl th)) e9) :: (sg, lstO ys c9) :: (L + 1 + 1 + 1 + 1, o4) :: (L + 1 + 1 + 1 + 1 + 1, o5) :: (L + 1 + 1 + 1 + 1 + 1 + 1, o6) :: (L + 1 + 1 + 1 + 1 + 1 + 1 + 1, o7) :: (L + 1 + 1 + 1 + 1 + 1 + 1 + 1 + 1, o8) :: (L + 1 + 1 + 1 + 1 + 1 + 1 + 1 + 1 + 1, o9) :: (L + 1 + 1 + 1 + 1 + 1 + 1 + 1 + 1 + 1 + 1, o10) :: (L + 1 + 1 + 1 + 1 + 1 + 1 + 1 + 1 + 1 + 1 + 1 + 1, o12) :: (L + 1 + 1 + 1 + 1 + 1 + 1 + 1 + 1 + 1 + 1 + 1 + 1 + 1 + 1, o14) :: (WA, lstO [.str x1 q1, .str x2 q2, .str (wayW wy) q3, .str (Str.ofString "OI") q4, .str (Str.ofString "#n \"\n\x0b\\") q5] we) :: (PA, lstO [Vd lo hi tl th false, Vd lo hi tl th true] pe) :: (FA, lstO (fig8 (fgW wy) u0 u1 u2 u3 u4 u5 u6 u7) fe) :: (SA, lstO (fig8 fgO v0 v1 v2 v3 v4 v5 v6 v7) se) :: (RA, lstO [.int r0 ru0, .int r1 ru1, .int r2 ru2, .int r3 ru3] re) :: (RU, lstO vs ue) :: (DU, lstO [.str lo dl, .str hi dh] de) :: obs) BD bv be bs hb n ((n - 2) / 2) hbl hn hst wy hwy vw ts o11 o13 d11 d13 (fc k13.1.symm (fc k13.2.1.symm (fc k13.2.2.1.symm (fc k13.2.2.2.symm (fc (kne L 4 13 (by decide)) (fc (kne L 5 13 (by decide)) (fc (kne L 6 13 (by decide)) (fc (kne L 7 13 (by decide)) (fc (kne L 8 13 (by decide)) (fc (kne L 9 13 (by decide)) (fc (kne L 10 13 (by decide)) (fc (kne L 12 13 (by decide)) (fc (kne L 14 13 (by decide)) (fc (far_at fWA 13) (fc (far_at fPA 13) (fc (far_at fFA 13) (fc (far_at fSA 13) (fc (far_at fRA 13) (fc (far_at fRU 13) (fc (far_at fDU 13) (fun p hp => far_at (hO p hp).2 13))))))))))))))))))))) (far_at fBD 13) mbt m3 (fun s LA lv le o13 G F N d13 hla hsep => ?_) G F (news_ix N 23 [21, 9, 15, 0, 1, 2, 10, 5, 11, 6, 7, 8, 12, 13, 14, 16, 17, 4, 3, 18, 19, 20, 22]))
  show LawS w g L fa cd s₀ E 28 s
  obtain ⟨hLA, fLA⟩ : Sep L lx dx P sg LA := sep_or hsep ⟨hBD, fBD⟩ fun hsep => sep_new hsep (t3 mh) (t4 mh) (t5 mh) (t6 mh) (t8 mh) (t9 mh) (t10 mh) (t11 mh) (t12 mh) (t13 mh) (t1 mh) (t14 mh) (t2 mh) (t15 mh)
  clear hsep
  refine lawS_step (by decide) (law_28 w loose mean mg mb cd fa g L s₀ s _ _ _ ((sg, lstO ys c9) :: (L + 1 + 1 + 1 + 1 + 1, o5) :: (L + 1 + 1 + 1 + 1 + 1 + 1 + 1, o7) :: (L + 1 + 1 + 1 + 1 + 1 + 1 + 1 + 1, o8) :: (L + 1 + 1 + 1 + 1 + 1 + 1 + 1 + 1 + 1, o9) :: (L + 1 + 1 + 1 + 1 + 1 + 1 + 1 + 1 + 1 + 1, o10) :: (L + 1 + 1 + 1 + 1 + 1 + 1 + 1 + 1 + 1 + 1 + 1, o11) :: (L + 1 + 1 + 1 + 1 + 1 + 1 + 1 + 1 + 1 + 1 + 1 + 1, o12) :: (L + 1 + 1 + 1 + 1 + 1 + 1 + 1 + 1 + 1 + 1 + 1 + 1 + 1, o13) :: (L + 1 + 1 + 1 + 1 + 1 + 1 + 1 + 1 + 1 + 1 + 1 + 1 + 1 + 1, o14) :: (WA, lstO [.str x1 q1, .str x2 q2, .str (wayW wy) q3, .str (Str.ofString "OI") q4, .str (Str.ofString "#n \"\n\x0b\\") q5] we) :: (PA, lstO [Vd lo hi tl th false, Vd lo hi tl th true] pe) :: (FA, lstO (fig8 (fgW wy) u0 u1 u2 u3 u4 u5 u6 u7) fe) :: (SA, lstO (fig8 fgO v0 v1 v2 v3 v4 v5 v6 v7) se) :: (RA, lstO [.int r0 ru0, .int r1 ru1, .int r2 ru2, .int r3 ru3] re) :: (RU, lstO vs ue) :: (BD, lstO bv be) :: (DU, lstO [.str lo dl, .str hi dh] de) :: (LA, lstO lv le) :: obs) lx dx P a b c d ln tn tw (.ref xf) le1 e9 lo hi tl th ra n hral hn tz o4 o6 d4 d6 (fc (o3 k4) (fc (o3 k6) (fc KX.sgne (fc (o3 k5) (fc (o3 k7) (fc (o3 k8) (fc (o3 k9) (fc (o3 k10) (fc (o3 k11) (fc (o3 k12) (fc (o3 k13) (fc (o3 k14) (fc (o3 hWA) (fc (o3 hPA) (fc (o3 hFA) (fc (o3 hSA) (fc (o3 hRA) (fc (o3 hRU) (fc (o3 hBD) (fc (o3 hDU) (fc (o3 hLA) (fun p hp => o3 (hO p hp).1)))))))))))))))))))))) (fun s SH she e9 G F N hsep => ?_) G F (news_ix N 24 [4, 5, 6, 8, 10, 7, 9, 11, 12, 13, 14, 2, 15, 3, 16, 17, 18, 19, 20, 21, 22, 1, 23, 0]))
  show LawS w g L fa cd s₀ E 29 s
  obtain ⟨hSH, fSH⟩ : Sep L lx dx P sg SH := sep_new hsep mh (t1 mh) (t2 mh) (t5 mh) (t6 mh) (t4 mh) (t7 mh) (t8 mh) (t9 mh) (t10 mh) (t11 mh) (t12 mh) (t13 mh) (t14 mh)
  clear hsep
  obtain ⟨m₁, e₁⟩ : ∃ m₉, m₉ = upd m₁ (Str.ofString "shown") (.ref SH) := ⟨_, rfl⟩
  rw [← e₁] at F
  have mbt := upd_other e₁ mbt (by decide +kernel)
  have m4 := upd_other e₁ m4 (by decide +kernel)
  have ms := upd_self e₁
  clear e₁
  refine lawS_step (by decide) (law_29 w loose mean mg mb cd fa g L s₀ s _ _ _ ((lx, instObj 52 dx) :: (dx, dictOf (lexD a b c d ln tn (.ref xf) tw P) le1) :: (P, lstO [] e9) :: (sg, lstO ys c9) :: (L + 1 + 1 + 1 + 1 + 1, o5) :: (L + 1 + 1 + 1 + 1 + 1 + 1, o6) :: (L + 1 + 1 + 1 + 1 + 1 + 1 + 1, o7) :: (L + 1 + 1 + 1 + 1 + 1 + 1 + 1 + 1, o8) :: (L + 1 + 1 + 1 + 1 + 1 + 1 + 1 + 1 + 1, o9) :: (L + 1 + 1 + 1 + 1 + 1 + 1 + 1 + 1 + 1 + 1 + 1 + 1, o12) :: (L + 1 + 1 + 1 + 1 + 1 + 1 + 1 + 1 + 1 + 1 + 1 + 1 + 1 + 1, o14) :: (WA, lstO [.str x1 q1, .str x2 q2, .str (wayW wy) q3, .str (Str.ofString "OI") q4, .str (Str.ofString "#n \"\n\x0b\\") q5] we) :: (PA, lstO [Vd lo hi tl th false, Vd lo hi tl th true] pe) :: (FA, lstO (fig8 (fgW wy) u0 u1 u2 u3 u4 u5 u6 u7) fe) :: (SA, lstO (fig8 fgO v0 v1 v2 v3 v4 v5 v6 v7) se) :: (RA, lstO [.int r0 ru0, .int r1 ru1, .int r2 ru2, .int r3 ru3] re) :: (RU, lstO vs ue) :: (BD, lstO bv be) :: obs) SH LA DU she le de lo hi tl th dl dh ra _ lv hla n ((n - 2) / 2) hlal hn (by omega) hr1 ok1 ok2 tz ts o4 o10 o11 o13 d4 d10 d11 d13 ms (fun s G F N => ?_) G F (news_ix N 25 [0, 24, 23, 4, 11, 12, 14, 1, 2, 3, 6, 7, 5, 8, 9, 10, 13, 15, 16, 17, 18, 19, 20, 21, 22]))
  show LawS w g L fa cd s₀ E 30 s
  refine lawS_step (by decide) (law_30 w loose mean mg mb cd fa g L s₀ s _ _ _ ((sg, lstO ys c9) :: (L + 1 + 1 + 1 + 1, o4) :: (L + 1 + 1 + 1 + 1 + 1, o5) :: (L + 1 + 1 + 1 + 1 + 1 + 1 + 1, o7) :: (L + 1 + 1 + 1 + 1 + 1 + 1 + 1 + 1, o8) :: (L + 1 + 1 + 1 + 1 + 1 + 1 + 1 + 1 + 1, o9) :: (L + 1 + 1 + 1 + 1 + 1 + 1 + 1 + 1 + 1 + 1, o10) :: (L + 1 + 1 + 1 + 1 + 1 + 1 + 1 + 1 + 1 + 1 + 1, o11) :: (L + 1 + 1 + 1 + 1 + 1 + 1 + 1 + 1 + 1 + 1 + 1 + 1, o12) :: (L + 1 + 1 + 1 + 1 + 1 + 1 + 1 + 1 + 1 + 1 + 1 + 1 + 1, o13) :: (L + 1 + 1 + 1 + 1 + 1 + 1 + 1 + 1 + 1 + 1 + 1 + 1 + 1 + 1, o14) :: (WA, lstO [.str x1 q1, .str x2 q2, .str (wayW wy) q3, .str (Str.ofString "OI") q4, .str (Str.ofString "#n \"\n\x0b\\") q5] we) :: (PA, lstO [Vd lo hi tl th false, Vd lo hi tl th true] pe) :: (FA, lstO (fig8 (fgW wy) u0 u1 u2 u3 u4 u5 u6 u7) fe) :: (SA, lstO (fig8 fgO v0 v1 v2 v3 v4 v5 v6 v7) se) :: (RA, lstO [.int r0 ru0, .int r1 ru1, .int r2 ru2, .int r3 ru3] re) :: (RU, lstO vs ue) :: (BD, lstO bv be) :: (DU, lstO [.str lo dl, .str hi dh] de) :: (LA, lstO lv le) :: obs) lx dx P a b c d ln tn tw (.ref xf) le1 e9 lo hi tl th SH she ra (by omega) o6 d6 (fc (o3 hSH) (fc (o3 k6) (fc KX.sgne (fc (o3 k4) (fc (o3 k5) (fc (o3 k7) (fc (o3 k8) (fc (o3 k9) (fc (o3 k10) (fc (o3 k11) (fc (o3 k12) (fc (o3 k13) (fc (o3 k14) (fc (o3 hWA) (fc (o3 hPA) (fc (o3 hFA) (fc (o3 hSA) (fc (o3 hRA) (fc (o3 hRU) (fc (o3 hBD) (fc (o3 hDU) (fc (o3 hLA) (fun p hp => o3 (hO p hp).1))))))))))))))))))))))) ms (fun s m₂ e9 G F N hm => ?_) G F (news_ix N 25 [7, 8, 9, 0, 12, 10, 3, 11, 13, 14, 15, 4, 5, 16, 6, 17, 18, 19, 20, 21, 22, 23, 24, 2, 1]))
  show LawS w g L fa cd s₀ E 31 s
  have mbt := (hm _ (by decide +kernel)).trans mbt
  have m4 := (hm _ (by decide +kernel)).trans m4
  clear hm ms
  refine lawS_step (by decide) (law_31 w loose mean mg mb cd fa g L s₀ s _ _ _ ((sg, lstO ys c9) :: (L + 1 + 1 + 1 + 1 + 1, o5) :: (L + 1 + 1 + 1 + 1 + 1 + 1 + 1 + 1, o8) :: (L + 1 + 1 + 1 + 1 + 1 + 1 + 1 + 1 + 1 + 1, o10) :: (L + 1 + 1 + 1 + 1 + 1 + 1 + 1 + 1 + 1 + 1 + 1, o11) :: (L + 1 + 1 + 1 + 1 + 1 + 1 + 1 + 1 + 1 + 1 + 1 + 1 + 1, o13) :: (L + 1 + 1 + 1 + 1 + 1 + 1 + 1 + 1 + 1 + 1 + 1 + 1 + 1 + 1, o14) :: (WA, lstO [.str x1 q1, .str x2 q2, .str (wayW wy) q3, .str (Str.ofString "OI") q4, .str (Str.ofString "#n \"\n\x0b\\") q5] we) :: (FA, lstO (fig8 (fgW wy) u0 u1 u2 u3 u4 u5 u6 u7) fe) :: (RA, lstO [.int r0 ru0, .int r1 ru1, .int r2 ru2, .int r3 ru3] re) :: (RU, lstO vs ue) :: (BD, lstO bv be) :: (DU, lstO [.str lo dl, .str hi dh] de) :: (LA, lstO lv le) :: (SH, lstO ((ra).map (Vd lo hi tl th)) she) :: obs) lx dx P a b c d ln tn tw (.ref xf) le1 e9 PA pe lo hi tl th hlt SA (fig8 fgO v0 v1 v2 v3 v4 v5 v6 v7) se fO (figO_at v0 v1 v2 v3 v4 v5 v6 v7) ra n ((n - 1) / 2) hral hn hmo tz tm o4 o6 o7 o9 o12 d4 d6 d7 d9 d12 (fc (o3 hSA) (fc (o3 hPA) (fc (o3 k4) (fc (o3 k6) (fc (o3 k7) (fc (o3 k9) (fc (o3 k12) (fc KX.sgne (fc (o3 k5) (fc (o3 k8) (fc (o3 k10) (fc (o3 k11) (fc (o3 k13) (fc (o3 k14) (fc (o3 hWA) (fc (o3 hFA) (fc (o3 hRA) (fc (o3 hRU) (fc (o3 hBD) (fc (o3 hDU) (fc (o3 hLA) (fc (o3 hSH) (fun p hp => o3 (hO p hp).1))))))))))))))))))))))) (fun s e9 G F N => ?_) G F (news_ix N 25 [0, 1, 2, 19, 17, 6, 4, 8, 10, 13, 5, 7, 9, 11, 12, 14, 15, 16, 18, 20, 21, 22, 23, 24, 3]))
  show LawS w g L fa cd s₀ E 32 s
  obtain ⟨rb, hrb⟩ : ∃ rb, rb = swN fO ra ((n - 1) / 2) := ⟨_, rfl⟩
  have hrbl : rb.length = n := by rw [hrb, swN_len]; exact hral
  rw [← hrb] at N hr2
  refine lawS_step (by decide) (law_32 w loose mean mg mb cd fa g L s₀ s _ _ _ ((lx, instObj 52 dx) :: (dx, dictOf (lexD a b c d ln tn (.ref xf) tw P) le1) :: (P, lstO ((rb).map (Vd lo hi tl th)) e9) :: (sg, lstO ys c9) :: (L + 1 + 1 + 1 + 1 + 1, o5) :: (L + 1 + 1 + 1 + 1 + 1 + 1, o6) :: (L + 1 + 1 + 1 + 1 + 1 + 1 + 1, o7) :: (L + 1 + 1 + 1 + 1 + 1 + 1 + 1 + 1, o8) :: (L + 1 + 1 + 1 + 1 + 1 + 1 + 1 + 1 + 1, o9) :: (L + 1 + 1 + 1 + 1 + 1 + 1 + 1 + 1 + 1 + 1, o10) :: (L + 1 + 1 + 1 + 1 + 1 + 1 + 1 + 1 + 1 + 1 + 1, o11) :: (L + 1 + 1 + 1 + 1 + 1 + 1 + 1 + 1 + 1 + 1 + 1 + 1, o12) :: (L + 1 + 1 + 1 + 1 + 1 + 1 + 1 + 1 + 1 + 1 + 1 + 1 + 1, o13) :: (L + 1 + 1 + 1 + 1 + 1 + 1 + 1 + 1 + 1 + 1 + 1 + 1 + 1 + 1, o14) :: (WA, lstO [.str x1 q1, .str x2 q2, .str (wayW wy) q3, .str (Str.ofString "OI") q4, .str (Str.ofString "#n \"\n\x0b\\") q5] we) :: (PA, lstO [Vd lo hi tl th false, Vd lo hi tl th true] pe) :: (FA, lstO (fig8 (fgW wy) u0 u1 u2 u3 u4 u5 u6 u7) fe) :: (SA, lstO (fig8 fgO v0 v1 v2 v3 v4 v5 v6 v7) se) :: (RA, lstO [.int r0 ru0, .int r1 ru1, .int r2 ru2, .int r3 ru3] re) :: (RU, lstO vs ue) :: (DU, lstO [.str lo dl, .str hi dh] de) :: (LA, lstO lv le) :: (SH, lstO ((ra).map (Vd lo hi tl th)) she) :: obs) BD bv be bs hb n tz hn o4 d4 hbl mbt (fun s G F N => ?_) G F (news_ix N 25 [21, 5, 0, 1, 2, 10, 11, 6, 7, 12, 8, 13, 14, 9, 15, 16, 17, 4, 18, 3, 19, 20, 22, 23, 24]))
  show LawS w g L fa cd s₀ E 33 s
  obtain ⟨m₁, e₁⟩ : ∃ m₉, m₉ = upd m₂ (Str.ofString "tie") (.bool (decide ((n : Int) - 2 * (bs.map b2i).sum = 0))) := ⟨_, rfl⟩
  rw [← e₁] at F
  have mbt := upd_other e₁ mbt (by decide +kernel)
  have m4 := upd_other e₁ m4 (by decide +kernel)
  have mt := upd_self e₁
  clear e₁
  refine lawS_step (by decide) (law_33 w loose mean mg mb cd fa g L s₀ s _ _ _ ((lx, instObj 52 dx) :: (dx, dictOf (lexD a b c d ln tn (.ref xf) tw P) le1) :: (P, lstO ((rb).map (Vd lo hi tl th)) e9) :: (sg, lstO ys c9) :: (L + 1 + 1 + 1 + 1 + 1, o5) :: (L + 1 + 1 + 1 + 1 + 1 + 1, o6) :: (L + 1 + 1 + 1 + 1 + 1 + 1 + 1, o7) :: (L + 1 + 1 + 1 + 1 + 1 + 1 + 1 + 1, o8) :: (L + 1 + 1 + 1 + 1 + 1 + 1 + 1 + 1 + 1, o9) :: (L + 1 + 1 + 1 + 1 + 1 + 1 + 1 + 1 + 1 + 1, o10) :: (L + 1 + 1 + 1 + 1 + 1 + 1 + 1 + 1 + 1 + 1 + 1, o11) :: (WA, lstO [.str x1 q1, .str x2 q2, .str (wayW wy) q3, .str (Str.ofString "OI") q4, .str (Str.ofString "#n \"\n\x0b\\") q5] we) :: (PA, lstO [Vd lo hi tl th false, Vd lo hi tl th true] pe) :: (FA, lstO (fig8 (fgW wy) u0 u1 u2 u3 u4 u5 u6 u7) fe) :: (SA, lstO (fig8 fgO v0 v1 v2 v3 v4 v5 v6 v7) se) :: (RA, lstO [.int r0 ru0, .int r1 ru1, .int r2 ru2, .int r3 ru3] re) :: (RU, lstO vs ue) :: (DU, lstO [.str lo dl, .str hi dh] de) :: (SH, lstO ((ra).map (Vd lo hi tl th)) she) :: obs) BD LA bv lv be le bs _ hb hla ((n - 1) / 2) hmo tm n tz hn o4 d4 hbl hlal o12 o13 o14 d12 d13 d14 (fc k14.1.symm (fc k14.2.1.symm (fc k14.2.2.1.symm (fc k14.2.2.2.symm (fc (kne L 5 14 (by decide)) (fc (kne L 6 14 (by decide)) (fc (kne L 7 14 (by decide)) (fc (kne L 8 14 (by decide)) (fc (kne L 9 14 (by decide)) (fc (kne L 10 14 (by decide)) (fc (kne L 11 14 (by decide)) (fc (far_at fWA 14) (fc (far_at fPA 14) (fc (far_at fFA 14) (fc (far_at fSA 14) (fc (far_at fRA 14) (fc (far_at fRU 14) (fc (far_at fDU 14) (fc (far_at fSH 14) (fun p hp => far_at (hO p hp).2 14)))))))))))))))))))) (far_at fBD 14) (far_at fLA 14) mt mbt (fun s FI fv fie o14 G F N hfl d14 hsep => ?_) G F (news_ix N 25 [0, 23, 1, 13, 14, 15, 2, 3, 4, 5, 6, 7, 8, 9, 10, 11, 12, 16, 17, 18, 19, 20, 21, 22, 24]))
  show LawS w g L fa cd s₀ E 34 s
  obtain ⟨hFI, fFI⟩ : Sep L lx dx P sg FI := sep_new hsep (t6 mh) (t7 mh) (t8 mh) (t9 mh) (t10 mh) (t11 mh) (t12 mh) (t13 mh) (t14 mh) (t15 mh) (t16 mh) (t3 mh) (t4 mh) (t5 mh)
  clear hsep
  refine lawS_step (by decide) (law_34 w loose mean mg mb cd fa g L s₀ s _ _ _ ((sg, lstO ys c9) :: (L + 1 + 1 + 1 + 1 + 1, o5) :: (L + 1 + 1 + 1 + 1 + 1 + 1 + 1, o7) :: (L + 1 + 1 + 1 + 1 + 1 + 1 + 1 + 1, o8) :: (L + 1 + 1 + 1 + 1 + 1 + 1 + 1 + 1 + 1, o9) :: (L + 1 + 1 + 1 + 1 + 1 + 1 + 1 + 1 + 1 + 1 + 1 + 1 + 1, o13) :: (WA, lstO [.str x1 q1, .str x2 q2, .str (wayW wy) q3, .str (Str.ofString "OI") q4, .str (Str.ofString "#n \"\n\x0b\\") q5] we) :: (PA, lstO [Vd lo hi tl th false, Vd lo hi tl th true] pe) :: (FA, lstO (fig8 (fgW wy) u0 u1 u2 u3 u4 u5 u6 u7) fe) :: (SA, lstO (fig8 fgO v0 v1 v2 v3 v4 v5 v6 v7) se) :: (RA, lstO [.int r0 ru0, .int r1 ru1, .int r2 ru2, .int r3 ru3] re) :: (RU, lstO vs ue) :: (BD, lstO bv be) :: (LA, lstO lv le) :: (SH, lstO ((ra).map (Vd lo hi tl th)) she) :: obs) lx dx P a b c d ln tn tw (.ref xf) le1 e9 FI DU fie de lo hi tl th dl dh rb _ fv hfl n ((n - 2) / 2) ((n - 1) / 2) hrbl (finP_len hlal _) hn (by omega) hmo hr2 ok1 ok2 tz ts tm o4 o6 o10 o11 o12 o14 d4 d6 d10 d11 d12 d14 (fc (o3 hFI) (fc (o3 hDU) (fc (o3 k4) (fc (o3 k6) (fc (o3 k10) (fc (o3 k11) (fc (o3 k12) (fc (o3 k14) (fc KX.sgne (fc (o3 k5) (fc (o3 k7) (fc (o3 k8) (fc (o3 k9) (fc (o3 k13) (fc (o3 hWA) (fc (o3 hPA) (fc (o3 hFA) (fc (o3 hSA) (fc (o3 hRA) (fc (o3 hRU) (fc (o3 hBD) (fc (o3 hLA) (fc (o3 hSH) (fun p hp => o3 (hO p hp).1)))))))))))))))))))))))) (fun s e9 G F N => ?_) G F (news_ix N 26 [7, 8, 9, 0, 24, 3, 12, 16, 17, 4, 6, 10, 11, 13, 14, 15, 5, 18, 19, 20, 21, 22, 23, 1, 2, 25]))
  show LawS w g L fa cd s₀ E 35 s
  refine lawS_step (by decide) (law_35 w loose mean mg mb cd fa g L s₀ s _ _ _ ((L + 1 + 1 + 1 + 1, o4) :: (L + 1 + 1 + 1 + 1 + 1 + 1 + 1, o7) :: (L + 1 + 1 + 1 + 1 + 1 + 1 + 1 + 1, o8) :: (L + 1 + 1 + 1 + 1 + 1 + 1 + 1 + 1 + 1, o9) :: (L + 1 + 1 + 1 + 1 + 1 + 1 + 1 + 1 + 1 + 1, o10) :: (L + 1 + 1 + 1 + 1 + 1 + 1 + 1 + 1 + 1 + 1 + 1, o11) :: (L + 1 + 1 + 1 + 1 + 1 + 1 + 1 + 1 + 1 + 1 + 1 + 1, o12) :: (L + 1 + 1 + 1 + 1 + 1 + 1 + 1 + 1 + 1 + 1 + 1 + 1 + 1, o13) :: (L + 1 + 1 + 1 + 1 + 1 + 1 + 1 + 1 + 1 + 1 + 1 + 1 + 1 + 1, o14) :: (PA, lstO [Vd lo hi tl th false, Vd lo hi tl th true] pe) :: (FA, lstO (fig8 (fgW wy) u0 u1 u2 u3 u4 u5 u6 u7) fe) :: (SA, lstO (fig8 fgO v0 v1 v2 v3 v4 v5 v6 v7) se) :: (RA, lstO [.int r0 ru0, .int r1 ru1, .int r2 ru2, .int r3 ru3] re) :: (RU, lstO vs ue) :: (BD, lstO bv be) :: (DU, lstO [.str lo dl, .str hi dh] de) :: (LA, lstO lv le) :: (SH, lstO ((ra).map (Vd lo hi tl th)) she) :: (FI, lstO fv fie) :: obs) lx dx P a b c d ln tn tw le1 e9 xf tf ys c9 sg rest cs hys hl hln KX WA x1 x2 wy q1 q2 q3 q4 q5 we o5 d5 x ux hm1 hm2 hct o6 d6 (fc k5 (fc k6 (fc hWA (fc k4 (fc k7 (fc k8 (fc k9 (fc k10 (fc k11 (fc k12 (fc k13 (fc k14 (fc hPA (fc hFA (fc hSA (fc hRA (fc hRU (fc hBD (fc hDU (fc hLA (fc hSH (fc hFI (fun p hp => (hO p hp).1))))))))))))))))))))))) (fun p hp => (t19 (hrest p hp))) m4 (fun s ln tn ys c9 G F N => ?_) G F (news_ix N 26 [0, 1, 2, 11, 12, 6, 17, 5, 13, 14, 15, 7, 8, 9, 16, 10, 18, 19, 20, 21, 22, 23, 4, 24, 25, 3]))
  exact ⟨rfl, F.keep, G.os, G.ba, ps, (N _ (t26 h100)).1⟩
theorem zall : ∀ c : DD, zP (c.fW 0) (c.fLs 0) (c.fMe 0) (c.fMp 0) (c.fMp 1) (c.fV 0) (c.fA 0) (c.fH 0) (c.fA 1) (c.fSh 0) (c.fSh 1) (c.fE 0) (c.fMp 2) (c.fLed 0) (c.fA 2) (c.fA 3) (c.fA 4) (c.fA 5) (c.fA 6) (c.fA 7) (c.fIt 0) (c.fIt 1) (c.fIt 2) (c.fIt 3) (c.fI 0) (c.fT 0) (c.fT 1) (c.fN 0) (c.fN 1) (c.fN 2) (c.fLv 0) (c.fLed 1) (c.fLn 0) (c.fA 8) (c.fA 9) (c.fA 10) (c.fA 11) (c.fA 12) (c.fA 13) (c.fS 0) (c.fS 1) (c.fS 2) (c.fS 3) (c.fI 1) (c.fT 2) (c.fT 3) (c.fT 4) (c.fT 5) (c.fT 6) (c.fT 7) (c.fT 8) (c.fN 3) (c.fN 4) (c.fN 5) (c.fN 6) (c.fN 7) (c.fN 8) (c.fT 9) (c.fT 10) (c.fT 11) (c.fT 12) (c.fT 13) (c.fT 14) (c.fT 15) (c.fT 16) (c.fT 17) (c.fT 18) (c.fT 19) (c.fT 20) (c.fT 21) (c.fT 22) (c.fT 23) (c.fT 24) (c.fT 25) (c.fT 26) (c.fT 27) (c.fT 28) (c.fLv 1) (c.fN 9) (c.fI 2) (c.fI 3) (c.fI 4) (c.fI 5) (c.fN 10) (c.fT 29) (c.fS 4) (c.fT 30) (c.fT 31) (c.fT 32) (c.fO 0) (c.fO 1) (c.fO 2) (c.fO 3) (c.fO 4) (c.fO 5) (c.fO 6) (c.fO 7) (c.fO 8) (c.fO 9) (c.fO 10) (c.fAv 0) := allD (by with_unfolding_all exact zcore)
end Z_comp_21
theorem comp_21 (w : World) (loose : List Str) (mean : ExcName → Option Value) (mg mb : Str → Option Value) (cd : Value) (fa : Addr) (g : Heap) (L : Addr) (s₀ s : Shared) (E : Value → Shared → Prop) (m : Str → Option Value) (obs : List (Addr × Obj))
    (lx dx P sg xf tf : Addr) (a b c d : Int × Tok) (ln : Int) (tn tw : Tok) (le1 le2 c9 : Nat) (ys : List Value) (rest : List (Addr × Obj)) (cs : List Nat) (hys : SignsAre ys cs) (hl : cs.length < 9999) (hln : 0 ≤ ln ∧ ln < 9999) (KX : LexOk w loose mean mg mb lx dx P sg xf tf rest)
    (WA PA FA SA RA RU : Addr) (x1 x2 lo hi : Str) (wy : Int) (hwy : wy = 1 ∨ wy = -1) (q1 q2 q3 q4 q5 tl th : Tok) (we pe fe se re ue : Nat) (u0 u1 u2 u3 u4 u5 u6 u7 v0 v1 v2 v3 v4 v5 v6 v7 ru0 ru1 ru2 ru3 : Tok) (vs : List Value)
    (hlt : LtS lo hi) (hx : (lo = x1 ∧ hi = x2) ∨ (lo = x2 ∧ hi = x1)) (ok1 : PyData.strOk lo = true) (ok2 : PyData.strOk hi = true)
    (f : Nat) (hf : f < 4) (r0 r1 r2 r3 : Int) (hr : (1 ≤ r0 ∧ r0 ≤ 3) ∧ (1 ≤ r1 ∧ r1 ≤ 3) ∧ (1 ≤ r2 ∧ r2 ≤ 3) ∧ (1 ≤ r3 ∧ r3 ≤ 3)) (hv : IntsAre vs (rulerL f r0 r1 r2 r3)) (n : Nat) (tz : Tok) (hn : 6 ≤ n ∧ n ≤ 9)
    (x : Str) (ux vf vw : Tok) (hm1 : (tokA cs).1.toArray = (Str.ofString "#n \"\n\x0b\\").cps) (hm2 : (tokA cs).2 = []) (hct : ln + (cs.count 10 : Int) = 1 + (x.cps.toList.count 10 : Int))
    (o4 o5 o6 o7 o8 o9 o10 o11 o12 o13 o14 : Obj) (d4 : o4.data = .cell (some (.int (n : Int) tz))) (d5 : o5.data = .cell (some (.ref WA))) (d6 : o6.data = .cell (some (.ref lx))) (d7 : o7.data = .cell (some (.ref PA))) (d8 : o8.data = .cell (some (.ref FA))) (d9 : o9.data = .cell (some (.ref SA))) (d10 : o10.data = .cell none) (d11 : o11.data = .cell none) (d12 : o12.data = .cell none) (d13 : o13.data = .cell none) (d14 : o14.data = .cell none)
    (m0 : m (Str.ofString "ruler") = some (.ref RU)) (m1 : m (Str.ofString "runs") = some (.ref RA)) (m2 : m (Str.ofString "form") = some (.int (f : Int) vf)) (m3 : m (Str.ofString "way") = some (.int wy vw)) (m4 : m (Str.ofString "text") = some (.str x ux))
    (hK : OffK L lx dx P sg) (hO : ∀ p ∈ (WA, lstO [.str x1 q1, .str x2 q2, .str (wayW wy) q3, .str (Str.ofString "OI") q4, .str (Str.ofString "#n \"\n\x0b\\") q5] we) :: (PA, lstO [Vd lo hi tl th false, Vd lo hi tl th true] pe) :: (FA, lstO (fig8 (fgW wy) u0 u1 u2 u3 u4 u5 u6 u7) fe) :: (SA, lstO (fig8 fgO v0 v1 v2 v3 v4 v5 v6 v7) se) :: (RA, lstO [.int r0 ru0, .int r1 ru1, .int r2 ru2, .int r3 ru3] re) :: (RU, lstO vs ue) :: obs, Sep L lx dx P sg p.1) (hrest : ∀ p ∈ rest, p ∈ obs) (ps : Array Value) (h100 : (100, tabObj ps) ∈ obs)
    (G : LawG w loose mean mg mb g L s₀ s) (F : Fr g L s.heap m) (N : News g L s.heap ((lx, instObj 52 dx) :: (dx, dictOf (lexD a b c d ln tn (.ref xf) tw P) le1) :: (P, lstO [] le2) :: (sg, lstO ys c9) :: (L + 1 + 1 + 1 + 1, o4) :: (L + 1 + 1 + 1 + 1 + 1, o5) :: (L + 1 + 1 + 1 + 1 + 1 + 1, o6) :: (L + 1 + 1 + 1 + 1 + 1 + 1 + 1, o7) :: (L + 1 + 1 + 1 + 1 + 1 + 1 + 1 + 1, o8) :: (L + 1 + 1 + 1 + 1 + 1 + 1 + 1 + 1 + 1, o9) :: (L + 1 + 1 + 1 + 1 + 1 + 1 + 1 + 1 + 1 + 1, o10) :: (L + 1 + 1 + 1 + 1 + 1 + 1 + 1 + 1 + 1 + 1 + 1, o11) :: (L + 1 + 1 + 1 + 1 + 1 + 1 + 1 + 1 + 1 + 1 + 1 + 1, o12) :: (L + 1 + 1 + 1 + 1 + 1 + 1 + 1 + 1 + 1 + 1 + 1 + 1 + 1, o13) :: (L + 1 + 1 + 1 + 1 + 1 + 1 + 1 + 1 + 1 + 1 + 1 + 1 + 1 + 1, o14) :: (WA, lstO [.str x1 q1, .str x2 q2, .str (wayW wy) q3, .str (Str.ofString "OI") q4, .str (Str.ofString "#n \"\n\x0b\\") q5] we) :: (PA, lstO [Vd lo hi tl th false, Vd lo hi tl th true] pe) :: (FA, lstO (fig8 (fgW wy) u0 u1 u2 u3 u4 u5 u6 u7) fe) :: (SA, lstO (fig8 fgO v0 v1 v2 v3 v4 v5 v6 v7) se) :: (RA, lstO [.int r0 ru0, .int r1 ru1, .int r2 ru2, .int r3 ru3] re) :: (RU, lstO vs ue) :: obs)) : LawS w g L fa cd s₀ E 21 s := by
  exact Z_comp_21.zall ⟨fun _ => w, fun _ => loose, fun _ => mean, fun i => [mg, mb, m].getD i mg, fun i => [fa, L, lx, dx, P, sg, xf, tf, WA, PA, FA, SA, RA, RU].getD i fa, fun i => [le1, le2, c9, we, pe, fe, se, re, ue, f, n].getD i le1, fun i => [ln, wy, r0, r1, r2, r3].getD i ln, fun i => [tn, tw, q1, q2, q3, q4, q5, tl, th, u0, u1, u2, u3, u4, u5, u6, u7, v0, v1, v2, v3, v4, v5, v6, v7, ru0, ru1, ru2, ru3, tz, ux, vf, vw].getD i tn, fun _ => cd, fun i => [x1, x2, lo, hi, x].getD i x1, fun i => [o4, o5, o6, o7, o8, o9, o10, o11, o12, o13, o14].getD i o4, fun _ => g, fun i => [s₀, s].getD i s₀, fun i => [ys, vs].getD i ys, anyD.fLi, fun _ => cs, anyD.fLb, fun i => [obs, rest].getD i obs, anyD.fQ, fun _ => E, anyD.fB, fun i => [a, b, c, d].getD i a, fun _ => ps, anyD.fB3, anyD.fGd, anyD.fEn, anyD.fAr, anyD.fOv, anyD.fOp, anyD.fLa, anyD.fEnv, anyD.fSs, anyD.fSt, anyD.fSc, anyD.fP, anyD.fEx, anyD.fR, anyD.fPo, anyD.fCl, anyD.fY, anyD.fRR, anyD.fBB, anyD.fNl, anyD.fOa, anyD.fFd, anyD.fAo, anyD.fDe, anyD.fIv⟩ hys hl hln KX hwy hlt hx ok1 ok2 hf hr hv hn hm1 hm2 hct d4 d5 d6 d7 d8 d9 d10 d11 d12 d13 d14 m0 m1 m2 m3 m4 hK hO hrest h100 G F N

end
end
section
section
theorem news_lst {g h : Heap} {L a : Addr} {k : Nat} {l l' : List Value} {r : List (Addr × Obj)} (e : l = l') (N : News g L h ((a, lstO l k) :: r)) : News g L h ((a, lstO l' k) :: r) := e ▸ N
namespace Z_comp_11
noncomputable def zP (w : World) (loose : List Str) (mean : ExcName → Option Value) (mg : Str → Option Value) (mb : Str → Option Value) (cd : Value) (fa : Addr) (g : Heap) (L : Addr) (s₀ : Shared) (s : Shared) (E : Value → Shared → Prop) (m : Str → Option Value) (WA : Addr) (RA : Addr) (NA : Addr) (x1 : Str) (x2 : Str) (wy : Int) (q1 : Tok) (q2 : Tok) (q3 : Tok) (q4 : Tok) (q5 : Tok) (we : Nat) (re : Nat) (ru0 : Tok) (ru1 : Tok) (ru2 : Tok) (ru3 : Tok) (nv : List Value) (i1 : Int) (i2 : Int) (nq1 : Tok) (nq2 : Tok) (f : Nat) (r0 : Int) (r1 : Int) (r2 : Int) (r3 : Int) (n : Nat) (tz : Tok) (x : Str) (ux : Tok) (vf : Tok) (vw : Tok) (iv1 : Tok) (iv2 : Tok) (o4 : Obj) (o5 : Obj) (o6 : Obj) (o7 : Obj) (o8 : Obj) (o9 : Obj) (o10 : Obj) (o11 : Obj) (o12 : Obj) (o13 : Obj) (o14 : Obj) : Prop := ∀ (hCH : CodeHd g 104 100) (hwy : wy = 1 ∨ wy = -1) (hnv : nv.length = 6) (hi1 : 0 ≤ i1 ∧ i1 < 6) (hi2 : 0 ≤ i2 ∧ i2 < 6) (hx1 : nv[i1.toNat]? = some (.str x1 nq1)) (hx2 : nv[i2.toNat]? = some (.str x2 nq2)) (hx12 : x1 ≠ x2) (ok1 : PyData.strOk x1 = true) (ok2 : PyData.strOk x2 = true) (hf : f < 4) (hr : (1 ≤ r0 ∧ r0 ≤ 3) ∧ (1 ≤ r1 ∧ r1 ≤ 3) ∧ (1 ≤ r2 ∧ r2 ≤ 3) ∧ (1 ≤ r3 ∧ r3 ≤ 3)) (hn : 6 ≤ n ∧ n ≤ 9) (hxl : x.cps.toList.length < 9000) (ht1 : (tokA x.cps.toList).1.toArray = x1.cps) (ht2 : (tokA (tokA x.cps.toList).2).1.toArray = x2.cps) (ht3 : (tokA (tokA (tokA x.cps.toList).2).2).1.toArray = (wayW wy).cps) (ht4 : (tokA (tokA (tokA (tokA x.cps.toList).2).2).2).1.toArray = (Str.ofString "OI").cps) (hm1 : (tokA (tokA (tokA (tokA (tokA x.cps.toList).2).2).2).2).1.toArray = (Str.ofString "#n \"\n\x0b\\").cps) (hm2 : (tokA (tokA (tokA (tokA (tokA x.cps.toList).2).2).2).2).2 = []) (d4 : o4.data = .cell (some (.int (n : Int) tz))) (d5 : o5.data = .cell (some (.ref WA))) (d6 : o6.data = .cell none) (d7 : o7.data = .cell none) (d8 : o8.data = .cell none) (d9 : o9.data = .cell none) (d10 : o10.data = .cell none) (d11 : o11.data = .cell none) (d12 : o12.data = .cell none) (d13 : o13.data = .cell none) (d14 : o14.data = .cell none) (m0 : m (Str.ofString "names") = some (.ref NA)) (m1 : m (Str.ofString "runs") = some (.ref RA)) (m2 : m (Str.ofString "form") = some (.int (f : Int) vf)) (m3 : m (Str.ofString "way") = some (.int wy vw)) (m4 : m (Str.ofString "text") = some (.str x ux)) (m5 : m (Str.ofString "one") = some (.int i1 iv1)) (m6 : m (Str.ofString "other") = some (.int i2 iv2)) (G : LawG w loose mean mg mb g L s₀ s) (F : Fr g L s.heap m) (N : News g L s.heap ((100, tabObj #[]) :: (L + 1 + 1 + 1 + 1, o4) :: (L + 1 + 1 + 1 + 1 + 1, o5) :: (L + 1 + 1 + 1 + 1 + 1 + 1, o6) :: (L + 1 + 1 + 1 + 1 + 1 + 1 + 1, o7) :: (L + 1 + 1 + 1 + 1 + 1 + 1 + 1 + 1, o8) :: (L + 1 + 1 + 1 + 1 + 1 + 1 + 1 + 1 + 1, o9) :: (L + 1 + 1 + 1 + 1 + 1 + 1 + 1 + 1 + 1 + 1, o10) :: (L + 1 + 1 + 1 + 1 + 1 + 1 + 1 + 1 + 1 + 1 + 1, o11) :: (L + 1 + 1 + 1 + 1 + 1 + 1 + 1 + 1 + 1 + 1 + 1 + 1, o12) :: (L + 1 + 1 + 1 + 1 + 1 + 1 + 1 + 1 + 1 + 1 + 1 + 1 + 1, o13) :: (L + 1 + 1 + 1 + 1 + 1 + 1 + 1 + 1 + 1 + 1 + 1 + 1 + 1 + 1, o14) :: (WA, lstO [.str x1 q1, .str x2 q2, .str (wayW wy) q3, .str (Str.ofString "OI") q4, .str (Str.ofString "#n \"\n\x0b\\") q5] we) :: (RA, lstO [.int r0 ru0, .int r1 ru1, .int r2 ru2, .int r3 ru3] re) :: (NA, lstO nv 0) :: [])), LawS w g L fa cd s₀ E 11 s
noncomputable def zk : DD := pickD fun c => zP (c.fW 0) (c.fLs 0) (c.fMe 0) (c.fMp 0) (c.fMp 1) (c.fV 0) (c.fA 0) (c.fH 0) (c.fA 1) (c.fSh 0) (c.fSh 1) (c.fE 0) (c.fMp 2) (c.fA 2) (c.fA 3) (c.fA 4) (c.fS 0) (c.fS 1) (c.fI 0) (c.fT 0) (c.fT 1) (c.fT 2) (c.fT 3) (c.fT 4) (c.fN 0) (c.fN 1) (c.fT 5) (c.fT 6) (c.fT 7) (c.fT 8) (c.fLv 0) (c.fI 1) (c.fI 2) (c.fT 9) (c.fT 10) (c.fN 2) (c.fI 3) (c.fI 4) (c.fI 5) (c.fI 6) (c.fN 3) (c.fT 11) (c.fS 2) (c.fT 12) (c.fT 13) (c.fT 14) (c.fT 15) (c.fT 16) (c.fO 0) (c.fO 1) (c.fO 2) (c.fO 3) (c.fO 4) (c.fO 5) (c.fO 6) (c.fO 7) (c.fO 8) (c.fO 9) (c.fO 10)
noncomputable section
@[irreducible] def w : World := zk.fW 0
@[irreducible] def loose : List Str := zk.fLs 0
@[irreducible] def mean : ExcName → Option Value := zk.fMe 0
@[irreducible] def mg : Str → Option Value := zk.fMp 0
@[irreducible] def mb : Str → Option Value := zk.fMp 1
@[irreducible] def cd : Value := zk.fV 0
@[irreducible] def fa : Addr := zk.fA 0
@[irreducible] def g : Heap := zk.fH 0
@[irreducible] def L : Addr := zk.fA 1
@[irreducible] def s₀ : Shared := zk.fSh 0
@[irreducible] def s : Shared := zk.fSh 1
@[irreducible] def E : Value → Shared → Prop := zk.fE 0
@[irreducible] def m : Str → Option Value := zk.fMp 2
@[irreducible] def WA : Addr := zk.fA 2
@[irreducible] def RA : Addr := zk.fA 3
@[irreducible] def NA : Addr := zk.fA 4
@[irreducible] def x1 : Str := zk.fS 0
@[irreducible] def x2 : Str := zk.fS 1
@[irreducible] def wy : Int := zk.fI 0
@[irreducible] def q1 : Tok := zk.fT 0
@[irreducible] def q2 : Tok := zk.fT 1
@[irreducible] def q3 : Tok := zk.fT 2
@[irreducible] def q4 : Tok := zk.fT 3
@[irreducible] def q5 : Tok := zk.fT 4
@[irreducible] def we : Nat := zk.fN 0
@[irreducible] def re : Nat := zk.fN 1
@[irreducible] def ru0 : Tok := zk.fT 5
@[irreducible] def ru1 : Tok := zk.fT 6
@[irreducible] def ru2 : Tok := zk.fT 7
@[irreducible] def ru3 : Tok := zk.fT 8
@[irreducible] def nv : List Value := zk.fLv 0
@[irreducible] def i1 : Int := zk.fI 1
@[irreducible] def i2 : Int := zk.fI 2
@[irreducible] def nq1 : Tok := zk.fT 9
@[irreducible] def nq2 : Tok := zk.fT 10
@[irreducible] def f : Nat := zk.fN 2
@[irreducible] def r0 : Int := zk.fI 3
@[irreducible] def r1 : Int := zk.fI 4
@[irreducible] def r2 : Int := zk.fI 5
@[irreducible] def r3 : Int := zk.fI 6
@[irreducible] def n : Nat := zk.fN 3
@[irreducible] def tz : Tok := zk.fT 11
@[irreducible] def x : Str := zk.fS 2
@[irreducible] def ux : Tok := zk.fT 12
@[irreducible] def vf : Tok := zk.fT 13
@[irreducible] def vw : Tok := zk.fT 14
@[irreducible] def iv1 : Tok := zk.fT 15
@[irreducible] def iv2 : Tok := zk.fT 16
@[irreducible] def o4 : Obj := zk.fO 0
@[irreducible] def o5 : Obj := zk.fO 1
@[irreducible] def o6 : Obj := zk.fO 2
@[irreducible] def o7 : Obj := zk.fO 3
@[irreducible] def o8 : Obj := zk.fO 4
@[irreducible] def o9 : Obj := zk.fO 5
@[irreducible] def o10 : Obj := zk.fO 6
@[irreducible] def o11 : Obj := zk.fO 7
@[irreducible] def o12 : Obj := zk.fO 8
@[irreducible] def o13 : Obj := zk.fO 9
@[irreducible] def o14 : Obj := zk.fO 10
end
theorem zcore : zP w loose mean mg mb cd fa g L s₀ s E m WA RA NA x1 x2 wy q1 q2 q3 q4 q5 we re ru0 ru1 ru2 ru3 nv i1 i2 nq1 nq2 f r0 r1 r2 r3 n tz x ux vf vw iv1 iv2 o4 o5 o6 o7 o8 o9 o10 o11 o12 o13 o14 := by
  unfold zP
  intro hCH hwy hnv hi1 hi2 hx1 hx2 hx12 ok1 ok2 hf hr hn hxl ht1 ht2 ht3 ht4 hm1 hm2 d4 d5 d6 d7 d8 d9 d10 d11 d12 d13 d14 m0 m1 m2 m3 m4 m5 m6 G F N
  have h100 : @LT.lt Nat _ 100 L := G.h100
  have fWA : Far L WA := far_obj N (t12 mh) (t2 mh) (t3 mh) (t4 mh) (t5 mh) (t6 mh) (t7 mh) (t8 mh) (t9 mh) (t10 mh) (t11 mh) d5 d6 d7 d8 d9 d10 d11 d12 d13 d14
  have zWA : WA ≠ 100 := ne_obj N (t12 mh) mh lst_tab
  have fRA : Far L RA := far_obj N (t13 mh) (t2 mh) (t3 mh) (t4 mh) (t5 mh) (t6 mh) (t7 mh) (t8 mh) (t9 mh) (t10 mh) (t11 mh) d5 d6 d7 d8 d9 d10 d11 d12 d13 d14
  have zRA : RA ≠ 100 := ne_obj N (t13 mh) mh lst_tab
  have fNA : Far L NA := far_obj N (t14 mh) (t2 mh) (t3 mh) (t4 mh) (t5 mh) (t6 mh) (t7 mh) (t8 mh) (t9 mh) (t10 mh) (t11 mh) d5 d6 d7 d8 d9 d10 d11 d12 d13 d14
  have zNA : NA ≠ 100 := ne_obj N (t14 mh) mh lst_tab
  refine lawS_step (by decide) (law_11 w loose mean mg mb cd fa g L s₀ s _ _ _ ((L + 1 + 1 + 1 + 1, o4) :: (L + 1 + 1 + 1 + 1 + 1, o5) :: (L + 1 + 1 + 1 + 1 + 1 + 1 + 1, o7) :: (L + 1 + 1 + 1 + 1 + 1 + 1 + 1 + 1, o8) :: (L + 1 + 1 + 1 + 1 + 1 + 1 + 1 + 1 + 1, o9) :: (L + 1 + 1 + 1 + 1 + 1 + 1 + 1 + 1 + 1 + 1, o10) :: (L + 1 + 1 + 1 + 1 + 1 + 1 + 1 + 1 + 1 + 1 + 1, o11) :: (L + 1 + 1 + 1 + 1 + 1 + 1 + 1 + 1 + 1 + 1 + 1 + 1, o12) :: (L + 1 + 1 + 1 + 1 + 1 + 1 + 1 + 1 + 1 + 1 + 1 + 1 + 1, o13) :: (L + 1 + 1 + 1 + 1 + 1 + 1 + 1 + 1 + 1 + 1 + 1 + 1 + 1 + 1, o14) :: (WA, lstO [.str x1 q1, .str x2 q2, .str (wayW wy) q3, .str (Str.ofString "OI") q4, .str (Str.ofString "#n \"\n\x0b\\") q5] we) :: (RA, lstO [.int r0 ru0, .int r1 ru1, .int r2 ru2, .int r3 ru3] re) :: (NA, lstO nv 0) :: []) x ux (by show x.cps.size ≤ 1000000; rw [← Array.length_toList]; omega) o6 d6 hCH m4 (fc (kne L 4 6 (by decide)) (fc (kne L 5 6 (by decide)) (fc (kne L 7 6 (by decide)) (fc (kne L 8 6 (by decide)) (fc (kne L 9 6 (by decide)) (fc (kne L 10 6 (by decide)) (fc (kne L 11 6 (by decide)) (fc (kne L 12 6 (by decide)) (fc (kne L 13 6 (by decide)) (fc (kne L 14 6 (by decide)) (fc (far_at fWA 6) (fc (far_at fRA 6) (fc (far_at fNA 6) (List.forall_mem_nil _)))))))))))))) (fc (Nat.ne_of_gt (by show 100 < _; omega)) (fc (Nat.ne_of_gt (by show 100 < _; omega)) (fc (Nat.ne_of_gt (by show 100 < _; omega)) (fc (Nat.ne_of_gt (by show 100 < _; omega)) (fc (Nat.ne_of_gt (by show 100 < _; omega)) (fc (Nat.ne_of_gt (by show 100 < _; omega)) (fc (Nat.ne_of_gt (by show 100 < _; omega)) (fc (Nat.ne_of_gt (by show 100 < _; omega)) (fc (Nat.ne_of_gt (by show 100 < _; omega)) (fc (Nat.ne_of_gt (by show 100 < _; omega)) (fc zWA (fc zRA (fc zNA (List.forall_mem_nil _)))))))))))))) (fun s lx dx P a b c d tn tw xf tf ys c9 sg rest o6 G F N d6 hys KX hoffl hps hrest100 => ?_) G F (news_ix N 99 [0, 3, 1, 2, 4, 5, 6, 7, 8, 9, 10, 11, 12, 13, 14]))
  show LawS w g L fa cd s₀ E 12 s
  obtain ⟨ps, hps⟩ := hps
  have k6 : Off4 lx dx P sg _ := hoffl _ mh
  have k4 : Off4 lx dx P sg _ := hoffl _ (t1 mh)
  have k5 : Off4 lx dx P sg _ := hoffl _ (t2 mh)
  have k7 : Off4 lx dx P sg _ := hoffl _ (t3 mh)
  have k8 : Off4 lx dx P sg _ := hoffl _ (t4 mh)
  have k9 : Off4 lx dx P sg _ := hoffl _ (t5 mh)
  have k10 : Off4 lx dx P sg _ := hoffl _ (t6 mh)
  have k11 : Off4 lx dx P sg _ := hoffl _ (t7 mh)
  have k12 : Off4 lx dx P sg _ := hoffl _ (t8 mh)
  have k13 : Off4 lx dx P sg _ := hoffl _ (t9 mh)
  have k14 : Off4 lx dx P sg _ := hoffl _ (t10 mh)
  have hWA : Off4 lx dx P sg _ := hoffl _ (t11 mh)
  have hRA : Off4 lx dx P sg _ := hoffl _ (t12 mh)
  have hNA : Off4 lx dx P sg _ := hoffl _ (t13 mh)
  have hO : ∀ p ∈ rest, Sep L lx dx P sg p.1 := fun p hp => ⟨⟨KX.apart p hp lx mh, KX.apart p hp dx (t1 mh), KX.apart p hp P (t2 mh), KX.apart p hp sg (t3 mh)⟩, fun i h1 h2 => by
    rcases hrest100 p hp with h | h
    · rw [h]
      exact Nat.ne_of_lt (Nat.lt_of_lt_of_le h100 (Nat.le_add_right _ _))
    · exact far_new (fun q hq => h q hq) (t2 mh) mh (t3 mh) (t4 mh) (t5 mh) (t6 mh) (t7 mh) (t8 mh) (t9 mh) (t10 mh) i h1 h2⟩
  have N := news_sub N (fc mh (fc (t1 mh) (fc (t2 mh) (fc (t3 mh) (fc (t4 mh) (fc (t5 (List.mem_append_right _ mh)) (fc (t5 (List.mem_append_right _ (t1 mh))) (fc (t5 (List.mem_append_right _ (t2 mh))) (fc (t5 (List.mem_append_right _ (t3 mh))) (fc (t5 (List.mem_append_right _ (t4 mh))) (fc (t5 (List.mem_append_right _ (t5 mh))) (fc (t5 (List.mem_append_right _ (t6 mh))) (fc (t5 (List.mem_append_right _ (t7 mh))) (fc (t5 (List.mem_append_right _ (t8 mh))) (fc (t5 (List.mem_append_right _ (t9 mh))) (fc (t5 (List.mem_append_right _ (t10 mh))) (fc (t5 (List.mem_append_right _ (t11 mh))) (fc (t5 (List.mem_append_right _ (t12 mh))) (fun p hp => t5 (List.mem_append_left _ hp) : ∀ p ∈ rest, _)))))))))))))))))))
  refine lawS_step (by decide) (law_12 w loose mean mg mb cd fa g L s₀ s _ _ _ ((L + 1 + 1 + 1 + 1, o4) :: (L + 1 + 1 + 1 + 1 + 1, o5) :: (L + 1 + 1 + 1 + 1 + 1 + 1 + 1, o7) :: (L + 1 + 1 + 1 + 1 + 1 + 1 + 1 + 1, o8) :: (L + 1 + 1 + 1 + 1 + 1 + 1 + 1 + 1 + 1, o9) :: (L + 1 + 1 + 1 + 1 + 1 + 1 + 1 + 1 + 1 + 1, o10) :: (L + 1 + 1 + 1 + 1 + 1 + 1 + 1 + 1 + 1 + 1 + 1, o11) :: (L + 1 + 1 + 1 + 1 + 1 + 1 + 1 + 1 + 1 + 1 + 1 + 1, o12) :: (L + 1 + 1 + 1 + 1 + 1 + 1 + 1 + 1 + 1 + 1 + 1 + 1 + 1, o13) :: (L + 1 + 1 + 1 + 1 + 1 + 1 + 1 + 1 + 1 + 1 + 1 + 1 + 1 + 1, o14) :: (WA, lstO [.str x1 q1, .str x2 q2, .str (wayW wy) q3, .str (Str.ofString "OI") q4, .str (Str.ofString "#n \"\n\x0b\\") q5] we) :: (RA, lstO [.int r0 ru0, .int r1 ru1, .int r2 ru2, .int r3 ru3] re) :: (NA, lstO nv 0) :: rest) lx dx P a b c d 1 tn tw xf tf 4 0 ys c9 sg rest x.cps.toList hys (by omega) ⟨by decide, by decide⟩ KX o6 d6 (fc k6 (fc k4 (fc k5 (fc k7 (fc k8 (fc k9 (fc k10 (fc k11 (fc k12 (fc k13 (fc k14 (fc hWA (fc hRA (fc hNA (fun p hp => (hO p hp).1))))))))))))))) (fun p hp => (t13 hp)) (fun s TA te tt1 tt2 tt3 tt4 ln tn ys c9 G F N hys hct hle hTA hsep => ?_) G F (news_ix N 18 [0, 1, 2, 3, 4, 5, 6, 7, 8, 9, 10, 11, 12, 13, 14, 15, 16, 17]))
  show LawS w g L fa cd s₀ E 13 s
  have e1 : (⟨(tokA x.cps.toList).1.toArray⟩ : Str) = x1 := by rw [ht1]
  have e2 : (⟨(tokA (tokA x.cps.toList).2).1.toArray⟩ : Str) = x2 := by rw [ht2]
  have e3 : (⟨(tokA (tokA (tokA x.cps.toList).2).2).1.toArray⟩ : Str) = wayW wy := by rw [ht3]
  have e4 : (⟨(tokA (tokA (tokA (tokA x.cps.toList).2).2).2).1.toArray⟩ : Str) = Str.ofString "OI" := by rw [ht4]
  have N := news_lst (l' := [.str x1 _, .str x2 _, .str (wayW wy) _, .str (Str.ofString "OI") _]) (by rw [e1, e2, e3, e4]) N
  clear e1 e2 e3 e4
  have fTA : Far L TA := by
    intro i h1 h2
    by_cases h6 : i = 6
    · subst h6; exact ne_obj N mh (t5 mh) (lst_cell d6)
    · rcases i514 h1 h2 with rfl | rfl | rfl | rfl | rfl | rfl | rfl | rfl | rfl | rfl
      · exact (hsep _ (t1 mh)).symm
      · exact absurd rfl h6
      · exact (hsep _ (t2 mh)).symm
      · exact (hsep _ (t3 mh)).symm
      · exact (hsep _ (t4 mh)).symm
      · exact (hsep _ (t5 mh)).symm
      · exact (hsep _ (t6 mh)).symm
      · exact (hsep _ (t7 mh)).symm
      · exact (hsep _ (t8 mh)).symm
      · exact (hsep _ (t9 mh)).symm
  clear hsep
  obtain ⟨m₁, e₁⟩ : ∃ m₉, m₉ = upd m (Str.ofString "told") (.ref TA) := ⟨_, rfl⟩
  rw [← e₁] at F
  have m0 := upd_other e₁ m0 (by decide +kernel)
  have m1 := upd_other e₁ m1 (by decide +kernel)
  have m2 := upd_other e₁ m2 (by decide +kernel)
  have m3 := upd_other e₁ m3 (by decide +kernel)
  have m4 := upd_other e₁ m4 (by decide +kernel)
  have m5 := upd_other e₁ m5 (by decide +kernel)
  have m6 := upd_other e₁ m6 (by decide +kernel)
  have mt := upd_self e₁
  clear e₁
  refine lawS_step (by decide) (law_13 w loose mean mg mb cd fa g L s₀ s _ _ _ ((lx, instObj 52 dx) :: (dx, dictOf (lexD a b c d ln tn (.ref xf) tw P) 4) :: (P, lstO [] 0) :: (sg, lstO ys c9) :: (L + 1 + 1 + 1 + 1 + 1 + 1, o6) :: (L + 1 + 1 + 1 + 1, o4) :: (L + 1 + 1 + 1 + 1 + 1, o5) :: (L + 1 + 1 + 1 + 1 + 1 + 1 + 1, o7) :: (L + 1 + 1 + 1 + 1 + 1 + 1 + 1 + 1, o8) :: (L + 1 + 1 + 1 + 1 + 1 + 1 + 1 + 1 + 1, o9) :: (L + 1 + 1 + 1 + 1 + 1 + 1 + 1 + 1 + 1 + 1, o10) :: (L + 1 + 1 + 1 + 1 + 1 + 1 + 1 + 1 + 1 + 1 + 1, o11) :: (L + 1 + 1 + 1 + 1 + 1 + 1 + 1 + 1 + 1 + 1 + 1 + 1, o12) :: (L + 1 + 1 + 1 + 1 + 1 + 1 + 1 + 1 + 1 + 1 + 1 + 1 + 1, o13) :: (L + 1 + 1 + 1 + 1 + 1 + 1 + 1 + 1 + 1 + 1 + 1 + 1 + 1 + 1, o14) :: (WA, lstO [.str x1 q1, .str x2 q2, .str (wayW wy) q3, .str (Str.ofString "OI") q4, .str (Str.ofString "#n \"\n\x0b\\") q5] we) :: (RA, lstO [.int r0 ru0, .int r1 ru1, .int r2 ru2, .int r3 ru3] re) :: rest) TA te x1 x2 wy hwy tt1 tt2 tt3 tt4 ok1 ok2 NA nv 0 hnv i1 i2 hi1 hi2 nq1 nq2 hx1 hx2 iv1 iv2 vw m0 m5 m6 m3 mt (fun s G F N => ?_) G F (news_ix N 19 [0, 18, 1, 2, 3, 4, 5, 6, 7, 8, 9, 10, 11, 12, 13, 14, 15, 16, 17]))
  show LawS w g L fa cd s₀ E 14 s
  have N := news_ix N 19 [0, 2, 3, 4, 5, 6, 7, 8, 9, 10, 11, 12, 13, 14, 15, 16, 17, 18]
  refine lawS_step (by decide) (law_14 w loose mean mg mb cd fa g L s₀ s _ _ _ ((lx, instObj 52 dx) :: (dx, dictOf (lexD a b c d ln tn (.ref xf) tw P) 4) :: (P, lstO [] 0) :: (sg, lstO ys c9) :: (L + 1 + 1 + 1 + 1 + 1 + 1, o6) :: (L + 1 + 1 + 1 + 1, o4) :: (L + 1 + 1 + 1 + 1 + 1, o5) :: (L + 1 + 1 + 1 + 1 + 1 + 1 + 1 + 1, o8) :: (L + 1 + 1 + 1 + 1 + 1 + 1 + 1 + 1 + 1, o9) :: (L + 1 + 1 + 1 + 1 + 1 + 1 + 1 + 1 + 1 + 1, o10) :: (L + 1 + 1 + 1 + 1 + 1 + 1 + 1 + 1 + 1 + 1 + 1, o11) :: (L + 1 + 1 + 1 + 1 + 1 + 1 + 1 + 1 + 1 + 1 + 1 + 1, o12) :: (L + 1 + 1 + 1 + 1 + 1 + 1 + 1 + 1 + 1 + 1 + 1 + 1 + 1, o13) :: (L + 1 + 1 + 1 + 1 + 1 + 1 + 1 + 1 + 1 + 1 + 1 + 1 + 1 + 1, o14) :: (WA, lstO [.str x1 q1, .str x2 q2, .str (wayW wy) q3, .str (Str.ofString "OI") q4, .str (Str.ofString "#n \"\n\x0b\\") q5] we) :: (RA, lstO [.int r0 ru0, .int r1 ru1, .int r2 ru2, .int r3 ru3] re) :: rest) TA te x1 x2 wy hwy tt1 tt2 tt3 tt4 hx12 o7 d7 (fc k7.1.symm (fc k7.2.1.symm (fc k7.2.2.1.symm (fc k7.2.2.2.symm (fc (kne L 6 7 (by decide)) (fc (kne L 4 7 (by decide)) (fc (kne L 5 7 (by decide)) (fc (kne L 8 7 (by decide)) (fc (kne L 9 7 (by decide)) (fc (kne L 10 7 (by decide)) (fc (kne L 11 7 (by decide)) (fc (kne L 12 7 (by decide)) (fc (kne L 13 7 (by decide)) (fc (kne L 14 7 (by decide)) (fc (far_at fWA 7) (fc (far_at fRA 7) (fun p hp => far_at (hO p hp).2 7))))))))))))))))) (far_at fTA 7) mt (fun s PA pe lo hi tl th o7 G F N d7 hlt hor hsep => ?_) G F (news_ix N 18 [0, 8, 1, 2, 3, 4, 5, 6, 7, 9, 10, 11, 12, 13, 14, 15, 16, 17]))
  show LawS w g L fa cd s₀ E 15 s
  obtain ⟨hPA, fPA⟩ : Sep L lx dx P sg PA := sep_new hsep (t2 mh) (t3 mh) (t4 mh) (t5 mh) (t8 mh) (t6 mh) (t1 mh) (t9 mh) (t10 mh) (t11 mh) (t12 mh) (t13 mh) (t14 mh) (t15 mh)
  clear hsep
  refine lawS_step (by decide) (law_15 w loose mean mg mb cd fa g L s₀ s _ _ _ ((lx, instObj 52 dx) :: (dx, dictOf (lexD a b c d ln tn (.ref xf) tw P) 4) :: (P, lstO [] 0) :: (sg, lstO ys c9) :: (L + 1 + 1 + 1 + 1 + 1 + 1, o6) :: (L + 1 + 1 + 1 + 1, o4) :: (L + 1 + 1 + 1 + 1 + 1, o5) :: (L + 1 + 1 + 1 + 1 + 1 + 1 + 1 + 1, o8) :: (L + 1 + 1 + 1 + 1 + 1 + 1 + 1 + 1 + 1, o9) :: (L + 1 + 1 + 1 + 1 + 1 + 1 + 1 + 1 + 1 + 1, o10) :: (L + 1 + 1 + 1 + 1 + 1 + 1 + 1 + 1 + 1 + 1 + 1, o11) :: (L + 1 + 1 + 1 + 1 + 1 + 1 + 1 + 1 + 1 + 1 + 1 + 1, o12) :: (L + 1 + 1 + 1 + 1 + 1 + 1 + 1 + 1 + 1 + 1 + 1 + 1 + 1, o13) :: (L + 1 + 1 + 1 + 1 + 1 + 1 + 1 + 1 + 1 + 1 + 1 + 1 + 1 + 1, o14) :: (WA, lstO [.str x1 q1, .str x2 q2, .str (wayW wy) q3, .str (Str.ofString "OI") q4, .str (Str.ofString "#n \"\n\x0b\\") q5] we) :: (RA, lstO [.int r0 ru0, .int r1 ru1, .int r2 ru2, .int r3 ru3] re) :: (TA, lstO [.str x1 tt1, .str x2 tt2, .str (wayW wy) tt3, .str (Str.ofString "OI") tt4] te) :: rest) PA pe lo hi tl th hlt o7 d7 (fun s OA oe w0 w1 w2 w3 G F N hsep => ?_) G F (news_ix N 19 [0, 2, 3, 4, 5, 6, 7, 8, 9, 10, 11, 12, 13, 14, 15, 16, 17, 18, 1]))
  show LawS w g L fa cd s₀ E 16 s
  clear hsep
  obtain ⟨m₁, e₁⟩ : ∃ m₉, m₉ = upd m₁ (Str.ofString "orders") (.ref OA) := ⟨_, rfl⟩
  rw [← e₁] at F
  have m1 := upd_other e₁ m1 (by decide +kernel)
  have m2 := upd_other e₁ m2 (by decide +kernel)
  have m3 := upd_other e₁ m3 (by decide +kernel)
  have m4 := upd_other e₁ m4 (by decide +kernel)
  have mt := upd_other e₁ mt (by decide +kernel)
  have mo := upd_self e₁
  clear e₁
  refine lawS_step (by decide) (law_16 w loose mean mg mb cd fa g L s₀ s _ _ _ ((lx, instObj 52 dx) :: (dx, dictOf (lexD a b c d ln tn (.ref xf) tw P) 4) :: (P, lstO [] 0) :: (sg, lstO ys c9) :: (L + 1 + 1 + 1 + 1 + 1 + 1, o6) :: (L + 1 + 1 + 1 + 1, o4) :: (L + 1 + 1 + 1 + 1 + 1, o5) :: (L + 1 + 1 + 1 + 1 + 1 + 1 + 1, o7) :: (L + 1 + 1 + 1 + 1 + 1 + 1 + 1 + 1, o8) :: (L + 1 + 1 + 1 + 1 + 1 + 1 + 1 + 1 + 1, o9) :: (L + 1 + 1 + 1 + 1 + 1 + 1 + 1 + 1 + 1 + 1, o10) :: (L + 1 + 1 + 1 + 1 + 1 + 1 + 1 + 1 + 1 + 1 + 1, o11) :: (L + 1 + 1 + 1 + 1 + 1 + 1 + 1 + 1 + 1 + 1 + 1 + 1, o12) :: (L + 1 + 1 + 1 + 1 + 1 + 1 + 1 + 1 + 1 + 1 + 1 + 1 + 1, o13) :: (L + 1 + 1 + 1 + 1 + 1 + 1 + 1 + 1 + 1 + 1 + 1 + 1 + 1 + 1, o14) :: (WA, lstO [.str x1 q1, .str x2 q2, .str (wayW wy) q3, .str (Str.ofString "OI") q4, .str (Str.ofString "#n \"\n\x0b\\") q5] we) :: (RA, lstO [.int r0 ru0, .int r1 ru1, .int r2 ru2, .int r3 ru3] re) :: (TA, lstO [.str x1 tt1, .str x2 tt2, .str (wayW wy) tt3, .str (Str.ofString "OI") tt4] te) :: (PA, lstO [.str lo tl, .str hi th] pe) :: rest) OA oe w0 w1 w2 w3 mo (fun s G F N => ?_) G F (news_ix N 20 [0, 3, 4, 5, 6, 7, 8, 9, 2, 10, 11, 12, 13, 14, 15, 16, 17, 18, 19, 1]))
  show LawS w g L fa cd s₀ E 17 s
  have N := news_ix N 20 [1, 2, 3, 4, 5, 6, 7, 8, 9, 10, 11, 12, 13, 14, 15, 16, 17, 18, 19]
  refine lawS_step (by decide) (law_17 w loose mean mg mb cd fa g L s₀ s _ _ _ ((lx, instObj 52 dx) :: (dx, dictOf (lexD a b c d ln tn (.ref xf) tw P) 4) :: (P, lstO [] 0) :: (sg, lstO ys c9) :: (L + 1 + 1 + 1 + 1 + 1 + 1, o6) :: (L + 1 + 1 + 1 + 1, o4) :: (L + 1 + 1 + 1 + 1 + 1, o5) :: (L + 1 + 1 + 1 + 1 + 1 + 1 + 1, o7) :: (L + 1 + 1 + 1 + 1 + 1 + 1 + 1 + 1 + 1, o9) :: (L + 1 + 1 + 1 + 1 + 1 + 1 + 1 + 1 + 1 + 1, o10) :: (L + 1 + 1 + 1 + 1 + 1 + 1 + 1 + 1 + 1 + 1 + 1, o11) :: (L + 1 + 1 + 1 + 1 + 1 + 1 + 1 + 1 + 1 + 1 + 1 + 1, o12) :: (L + 1 + 1 + 1 + 1 + 1 + 1 + 1 + 1 + 1 + 1 + 1 + 1 + 1, o13) :: (L + 1 + 1 + 1 + 1 + 1 + 1 + 1 + 1 + 1 + 1 + 1 + 1 + 1 + 1, o14) :: (WA, lstO [.str x1 q1, .str x2 q2, .str (wayW wy) q3, .str (Str.ofString "OI") q4, .str (Str.ofString "#n \"\n\x0b\\") q5] we) :: (RA, lstO [.int r0 ru0, .int r1 ru1, .int r2 ru2, .int r3 ru3] re) :: (PA, lstO [.str lo tl, .str hi th] pe) :: rest) TA te x1 x2 wy hwy tt1 tt2 tt3 tt4 o8 d8 (fc k8.1.symm (fc k8.2.1.symm (fc k8.2.2.1.symm (fc k8.2.2.2.symm (fc (kne L 6 8 (by decide)) (fc (kne L 4 8 (by decide)) (fc (kne L 5 8 (by decide)) (fc (kne L 7 8 (by decide)) (fc (kne L 9 8 (by decide)) (fc (kne L 10 8 (by decide)) (fc (kne L 11 8 (by decide)) (fc (kne L 12 8 (by decide)) (fc (kne L 13 8 (by decide)) (fc (kne L 14 8 (by decide)) (fc (far_at fWA 8) (fc (far_at fRA 8) (fc (far_at fPA 8) (fun p hp => far_at (hO p hp).2 8)))))))))))))))))) (far_at fTA 8) mt (fun s FA fe u0 u1 u2 u3 u4 u5 u6 u7 o8 G F N d8 hsep => ?_) G F (news_ix N 19 [17, 8, 0, 1, 2, 3, 4, 5, 6, 7, 9, 10, 11, 12, 13, 14, 15, 16, 18]))
  show LawS w g L fa cd s₀ E 18 s
  obtain ⟨hFA, fFA⟩ : Sep L lx dx P sg FA := sep_new hsep (t2 mh) (t3 mh) (t4 mh) (t5 mh) (t8 mh) (t6 mh) (t9 mh) (t1 mh) (t10 mh) (t11 mh) (t12 mh) (t13 mh) (t14 mh) (t15 mh)
  clear hsep
  refine lawS_step (by decide) (law_18 w loose mean mg mb cd fa g L s₀ s _ _ _ ((lx, instObj 52 dx) :: (dx, dictOf (lexD a b c d ln tn (.ref xf) tw P) 4) :: (P, lstO [] 0) :: (sg, lstO ys c9) :: (L + 1 + 1 + 1 + 1 + 1 + 1, o6) :: (L + 1 + 1 + 1 + 1, o4) :: (L + 1 + 1 + 1 + 1 + 1, o5) :: (L + 1 + 1 + 1 + 1 + 1 + 1 + 1, o7) :: (L + 1 + 1 + 1 + 1 + 1 + 1 + 1 + 1, o8) :: (L + 1 + 1 + 1 + 1 + 1 + 1 + 1 + 1 + 1 + 1, o10) :: (L + 1 + 1 + 1 + 1 + 1 + 1 + 1 + 1 + 1 + 1 + 1, o11) :: (L + 1 + 1 + 1 + 1 + 1 + 1 + 1 + 1 + 1 + 1 + 1 + 1, o12) :: (L + 1 + 1 + 1 + 1 + 1 + 1 + 1 + 1 + 1 + 1 + 1 + 1 + 1, o13) :: (L + 1 + 1 + 1 + 1 + 1 + 1 + 1 + 1 + 1 + 1 + 1 + 1 + 1 + 1, o14) :: (WA, lstO [.str x1 q1, .str x2 q2, .str (wayW wy) q3, .str (Str.ofString "OI") q4, .str (Str.ofString "#n \"\n\x0b\\") q5] we) :: (RA, lstO [.int r0 ru0, .int r1 ru1, .int r2 ru2, .int r3 ru3] re) :: (PA, lstO [.str lo tl, .str hi th] pe) :: (FA, lstO (fig8 (fgW wy) u0 u1 u2 u3 u4 u5 u6 u7) fe) :: rest) TA te x1 x2 wy hwy tt1 tt2 tt3 tt4 o9 d9 (fc k9.1.symm (fc k9.2.1.symm (fc k9.2.2.1.symm (fc k9.2.2.2.symm (fc (kne L 6 9 (by decide)) (fc (kne L 4 9 (by decide)) (fc (kne L 5 9 (by decide)) (fc (kne L 7 9 (by decide)) (fc (kne L 8 9 (by decide)) (fc (kne L 10 9 (by decide)) (fc (kne L 11 9 (by decide)) (fc (kne L 12 9 (by decide)) (fc (kne L 13 9 (by decide)) (fc (kne L 14 9 (by decide)) (fc (far_at fWA 9) (fc (far_at fRA 9) (fc (far_at fPA 9) (fc (far_at fFA 9) (fun p hp => far_at (hO p hp).2 9))))))))))))))))))) (far_at fTA 9) mt (fun s SA se v0 v1 v2 v3 v4 v5 v6 v7 o9 G F N d9 hsep => ?_) G F (news_ix N 20 [1, 11, 3, 4, 5, 6, 7, 8, 9, 10, 2, 12, 13, 14, 15, 16, 17, 18, 19, 0]))
  show LawS w g L fa cd s₀ E 19 s
  obtain ⟨hSA, fSA⟩ : Sep L lx dx P sg SA := sep_new hsep (t2 mh) (t3 mh) (t4 mh) (t5 mh) (t8 mh) (t6 mh) (t9 mh) (t10 mh) (t1 mh) (t11 mh) (t12 mh) (t13 mh) (t14 mh) (t15 mh)
  clear hsep
  refine lawS_step (by decide) (law_19 w loose mean mg mb cd fa g L s₀ s _ _ _ ((lx, instObj 52 dx) :: (dx, dictOf (lexD a b c d ln tn (.ref xf) tw P) 4) :: (P, lstO [] 0) :: (sg, lstO ys c9) :: (L + 1 + 1 + 1 + 1 + 1 + 1, o6) :: (L + 1 + 1 + 1 + 1, o4) :: (L + 1 + 1 + 1 + 1 + 1, o5) :: (L + 1 + 1 + 1 + 1 + 1 + 1 + 1, o7) :: (L + 1 + 1 + 1 + 1 + 1 + 1 + 1 + 1 + 1 + 1, o10) :: (L + 1 + 1 + 1 + 1 + 1 + 1 + 1 + 1 + 1 + 1 + 1, o11) :: (L + 1 + 1 + 1 + 1 + 1 + 1 + 1 + 1 + 1 + 1 + 1 + 1, o12) :: (L + 1 + 1 + 1 + 1 + 1 + 1 + 1 + 1 + 1 + 1 + 1 + 1 + 1, o13) :: (L + 1 + 1 + 1 + 1 + 1 + 1 + 1 + 1 + 1 + 1 + 1 + 1 + 1 + 1, o14) :: (WA, lstO [.str x1 q1, .str x2 q2, .str (wayW wy) q3, .str (Str.ofString "OI") q4, .str (Str.ofString "#n \"\n\x0b\\") q5] we) :: (RA, lstO [.int r0 ru0, .int r1 ru1, .int r2 ru2, .int r3 ru3] re) :: (TA, lstO [.str x1 tt1, .str x2 tt2, .str (wayW wy) tt3, .str (Str.ofString "OI") tt4] te) :: (PA, lstO [.str lo tl, .str hi th] pe) :: rest) FA SA wy hwy u0 u1 u2 u3 u4 u5 u6 u7 v0 v1 v2 v3 v4 v5 v6 v7 fe se o8 o9 d8 d9 (fun s G F N => ?_) G F (news_ix N 21 [20, 0, 11, 2, 3, 4, 5, 6, 7, 8, 9, 10, 12, 13, 14, 15, 16, 17, 18, 1, 19]))
  show LawS w g L fa cd s₀ E 20 s
  refine lawS_step (by decide) (law_20 w loose mean mg mb cd fa g L s₀ s _ _ _ ((lx, instObj 52 dx) :: (dx, dictOf (lexD a b c d ln tn (.ref xf) tw P) 4) :: (P, lstO [] 0) :: (sg, lstO ys c9) :: (L + 1 + 1 + 1 + 1 + 1 + 1, o6) :: (L + 1 + 1 + 1 + 1, o4) :: (L + 1 + 1 + 1 + 1 + 1, o5) :: (L + 1 + 1 + 1 + 1 + 1 + 1 + 1, o7) :: (L + 1 + 1 + 1 + 1 + 1 + 1 + 1 + 1, o8) :: (L + 1 + 1 + 1 + 1 + 1 + 1 + 1 + 1 + 1, o9) :: (L + 1 + 1 + 1 + 1 + 1 + 1 + 1 + 1 + 1 + 1, o10) :: (L + 1 + 1 + 1 + 1 + 1 + 1 + 1 + 1 + 1 + 1 + 1, o11) :: (L + 1 + 1 + 1 + 1 + 1 + 1 + 1 + 1 + 1 + 1 + 1 + 1, o12) :: (L + 1 + 1 + 1 + 1 + 1 + 1 + 1 + 1 + 1 + 1 + 1 + 1 + 1, o13) :: (L + 1 + 1 + 1 + 1 + 1 + 1 + 1 + 1 + 1 + 1 + 1 + 1 + 1 + 1, o14) :: (WA, lstO [.str x1 q1, .str x2 q2, .str (wayW wy) q3, .str (Str.ofString "OI") q4, .str (Str.ofString "#n \"\n\x0b\\") q5] we) :: (TA, lstO [.str x1 tt1, .str x2 tt2, .str (wayW wy) tt3, .str (Str.ofString "OI") tt4] te) :: (PA, lstO [.str lo tl, .str hi th] pe) :: (FA, lstO (fig8 (fgW wy) u0 u1 u2 u3 u4 u5 u6 u7) fe) :: (SA, lstO (fig8 fgO v0 v1 v2 v3 v4 v5 v6 v7) se) :: rest) RA r0 r1 r2 r3 ru0 ru1 ru2 ru3 re f hf vf m1 m2 (fun s RU vs ks ue G F N hv hks hsep => ?_) G F (news_ix N 21 [18, 4, 5, 6, 7, 8, 9, 10, 11, 2, 3, 12, 13, 14, 15, 16, 17, 19, 20, 0, 1]))
  show LawS w g L fa cd s₀ E 21 s
  rw [hks] at hv
  obtain ⟨hRU, fRU⟩ : Sep L lx dx P sg RU := sep_or hsep ⟨hRA, fRA⟩ fun hsep => sep_new hsep (t1 mh) (t2 mh) (t3 mh) (t4 mh) (t7 mh) (t5 mh) (t8 mh) (t9 mh) (t10 mh) (t11 mh) (t12 mh) (t13 mh) (t14 mh) (t15 mh)
  clear hsep
  obtain ⟨m₁, e₁⟩ : ∃ m₉, m₉ = upd m₁ (Str.ofString "ruler") (.ref RU) := ⟨_, rfl⟩
  rw [← e₁] at F
  have m1 := upd_other e₁ m1 (by decide +kernel)
  have m2 := upd_other e₁ m2 (by decide +kernel)
  have m3 := upd_other e₁ m3 (by decide +kernel)
  have m4 := upd_other e₁ m4 (by decide +kernel)
  have mr := upd_self e₁
  clear e₁
  have hor2 : PyData.strOk lo = true ∧ PyData.strOk hi = true := by
    rcases hor with ⟨rfl, rfl⟩ | ⟨rfl, rfl⟩
    · exact ⟨ok1, ok2⟩
    · exact ⟨ok2, ok1⟩
  have hll : ((tokA (tokA (tokA (tokA x.cps.toList).2).2).2).2).length < 9999 := Nat.lt_of_le_of_lt (Nat.le_trans (tokA_len _) (Nat.le_trans (tokA_len _) (Nat.le_trans (tokA_len _) (tokA_len _)))) (by omega)
  have hcc : x.cps.toList.count 10 ≤ x.cps.toList.length := List.count_le_length
  refine comp_21 w loose mean mg mb cd fa g L s₀ s E _ rest lx dx P sg xf tf a b c d ln tn tw 4 0 c9 ys rest ((tokA (tokA (tokA (tokA x.cps.toList).2).2).2).2) hys hll (by omega) KX WA PA FA SA RA RU x1 x2 lo hi wy hwy q1 q2 q3 q4 q5 tl th we pe fe se re ue u0 u1 u2 u3 u4 u5 u6 u7 v0 v1 v2 v3 v4 v5 v6 v7 ru0 ru1 ru2 ru3 vs hlt hor hor2.1 hor2.2 f hf r0 r1 r2 r3 hr hv n tz hn x ux vf vw hm1 hm2 hct o4 o5 o6 o7 o8 o9 o10 o11 o12 o13 o14 d4 d5 d6 d7 d8 d9 d10 d11 d12 d13 d14 mr m1 m2 m3 m4 ⟨k4, k5, k6, k7, k8, k9, k10, k11, k12, k13, k14⟩ (fc ⟨hWA, fWA⟩ (fc ⟨hPA, fPA⟩ (fc ⟨hFA, fFA⟩ (fc ⟨hSA, fSA⟩ (fc ⟨hRA, fRA⟩ (fc ⟨hRU, fRU⟩ hO)))))) (fun _ hp => hp) ps hps G F (news_ix N 22 [2, 3, 4, 5, 7, 8, 6, 9, 10, 11, 12, 13, 14, 15, 16, 17, 19, 20, 21, 1, 0])
theorem zall : ∀ c : DD, zP (c.fW 0) (c.fLs 0) (c.fMe 0) (c.fMp 0) (c.fMp 1) (c.fV 0) (c.fA 0) (c.fH 0) (c.fA 1) (c.fSh 0) (c.fSh 1) (c.fE 0) (c.fMp 2) (c.fA 2) (c.fA 3) (c.fA 4) (c.fS 0) (c.fS 1) (c.fI 0) (c.fT 0) (c.fT 1) (c.fT 2) (c.fT 3) (c.fT 4) (c.fN 0) (c.fN 1) (c.fT 5) (c.fT 6) (c.fT 7) (c.fT 8) (c.fLv 0) (c.fI 1) (c.fI 2) (c.fT 9) (c.fT 10) (c.fN 2) (c.fI 3) (c.fI 4) (c.fI 5) (c.fI 6) (c.fN 3) (c.fT 11) (c.fS 2) (c.fT 12) (c.fT 13) (c.fT 14) (c.fT 15) (c.fT 16) (c.fO 0) (c.fO 1) (c.fO 2) (c.fO 3) (c.fO 4) (c.fO 5) (c.fO 6) (c.fO 7) (c.fO 8) (c.fO 9) (c.fO 10) := allD (by with_unfolding_all exact zcore)
end Z_comp_11
theorem comp_11 (w : World) (loose : List Str) (mean : ExcName → Option Value) (mg mb : Str → Option Value) (cd : Value) (fa : Addr) (g : Heap) (L : Addr) (s₀ s : Shared) (E : Value → Shared → Prop) (m : Str → Option Value) (hCH : CodeHd g 104 100)
    (WA RA NA : Addr) (x1 x2 : Str) (wy : Int) (hwy : wy = 1 ∨ wy = -1) (q1 q2 q3 q4 q5 : Tok) (we re : Nat) (ru0 ru1 ru2 ru3 : Tok) (nv : List Value) (hnv : nv.length = 6) (i1 i2 : Int) (hi1 : 0 ≤ i1 ∧ i1 < 6) (hi2 : 0 ≤ i2 ∧ i2 < 6) (nq1 nq2 : Tok) (hx1 : nv[i1.toNat]? = some (.str x1 nq1)) (hx2 : nv[i2.toNat]? = some (.str x2 nq2))
    (hx12 : x1 ≠ x2) (ok1 : PyData.strOk x1 = true) (ok2 : PyData.strOk x2 = true)
    (f : Nat) (hf : f < 4) (r0 r1 r2 r3 : Int) (hr : (1 ≤ r0 ∧ r0 ≤ 3) ∧ (1 ≤ r1 ∧ r1 ≤ 3) ∧ (1 ≤ r2 ∧ r2 ≤ 3) ∧ (1 ≤ r3 ∧ r3 ≤ 3)) (n : Nat) (tz : Tok) (hn : 6 ≤ n ∧ n ≤ 9)
    (x : Str) (ux vf vw iv1 iv2 : Tok) (hxl : x.cps.toList.length < 9000)
    (ht1 : (tokA x.cps.toList).1.toArray = x1.cps) (ht2 : (tokA (tokA x.cps.toList).2).1.toArray = x2.cps) (ht3 : (tokA (tokA (tokA x.cps.toList).2).2).1.toArray = (wayW wy).cps) (ht4 : (tokA (tokA (tokA (tokA x.cps.toList).2).2).2).1.toArray = (Str.ofString "OI").cps)
    (hm1 : (tokA (tokA (tokA (tokA (tokA x.cps.toList).2).2).2).2).1.toArray = (Str.ofString "#n \"\n\x0b\\").cps) (hm2 : (tokA (tokA (tokA (tokA (tokA x.cps.toList).2).2).2).2).2 = [])
    (o4 o5 o6 o7 o8 o9 o10 o11 o12 o13 o14 : Obj) (d4 : o4.data = .cell (some (.int (n : Int) tz))) (d5 : o5.data = .cell (some (.ref WA))) (d6 : o6.data = .cell none) (d7 : o7.data = .cell none) (d8 : o8.data = .cell none) (d9 : o9.data = .cell none) (d10 : o10.data = .cell none) (d11 : o11.data = .cell none) (d12 : o12.data = .cell none) (d13 : o13.data = .cell none) (d14 : o14.data = .cell none)
    (m0 : m (Str.ofString "names") = some (.ref NA)) (m1 : m (Str.ofString "runs") = some (.ref RA)) (m2 : m (Str.ofString "form") = some (.int (f : Int) vf)) (m3 : m (Str.ofString "way") = some (.int wy vw)) (m4 : m (Str.ofString "text") = some (.str x ux)) (m5 : m (Str.ofString "one") = some (.int i1 iv1)) (m6 : m (Str.ofString "other") = some (.int i2 iv2))
    (G : LawG w loose mean mg mb g L s₀ s) (F : Fr g L s.heap m) (N : News g L s.heap ((100, tabObj #[]) :: (L + 1 + 1 + 1 + 1, o4) :: (L + 1 + 1 + 1 + 1 + 1, o5) :: (L + 1 + 1 + 1 + 1 + 1 + 1, o6) :: (L + 1 + 1 + 1 + 1 + 1 + 1 + 1, o7) :: (L + 1 + 1 + 1 + 1 + 1 + 1 + 1 + 1, o8) :: (L + 1 + 1 + 1 + 1 + 1 + 1 + 1 + 1 + 1, o9) :: (L + 1 + 1 + 1 + 1 + 1 + 1 + 1 + 1 + 1 + 1, o10) :: (L + 1 + 1 + 1 + 1 + 1 + 1 + 1 + 1 + 1 + 1 + 1, o11) :: (L + 1 + 1 + 1 + 1 + 1 + 1 + 1 + 1 + 1 + 1 + 1 + 1, o12) :: (L + 1 + 1 + 1 + 1 + 1 + 1 + 1 + 1 + 1 + 1 + 1 + 1 + 1, o13) :: (L + 1 + 1 + 1 + 1 + 1 + 1 + 1 + 1 + 1 + 1 + 1 + 1 + 1 + 1, o14) :: (WA, lstO [.str x1 q1, .str x2 q2, .str (wayW wy) q3, .str (Str.ofString "OI") q4, .str (Str.ofString "#n \"\n\x0b\\") q5] we) :: (RA, lstO [.int r0 ru0, .int r1 ru1, .int r2 ru2, .int r3 ru3] re) :: (NA, lstO nv 0) :: [])) : LawS w g L fa cd s₀ E 11 s := by
  exact Z_comp_11.zall ⟨fun _ => w, fun _ => loose, fun _ => mean, fun i => [mg, mb, m].getD i mg, fun i => [fa, L, WA, RA, NA].getD i fa, fun i => [we, re, f, n].getD i we, fun i => [wy, i1, i2, r0, r1, r2, r3].getD i wy, fun i => [q1, q2, q3, q4, q5, ru0, ru1, ru2, ru3, nq1, nq2, tz, ux, vf, vw, iv1, iv2].getD i q1, fun _ => cd, fun i => [x1, x2, x].getD i x1, fun i => [o4, o5, o6, o7, o8, o9, o10, o11, o12, o13, o14].getD i o4, fun _ => g, fun i => [s₀, s].getD i s₀, fun _ => nv, anyD.fLi, anyD.fLn, anyD.fLb, anyD.fLed, anyD.fQ, fun _ => E, anyD.fB, anyD.fIt, anyD.fAv, anyD.fB3, anyD.fGd, anyD.fEn, anyD.fAr, anyD.fOv, anyD.fOp, anyD.fLa, anyD.fEnv, anyD.fSs, anyD.fSt, anyD.fSc, anyD.fP, anyD.fEx, anyD.fR, anyD.fPo, anyD.fCl, anyD.fY, anyD.fRR, anyD.fBB, anyD.fNl, anyD.fOa, anyD.fFd, anyD.fAo, anyD.fDe, anyD.fIv⟩ hCH hwy hnv hi1 hi2 hx1 hx2 hx12 ok1 ok2 hf hr hn hxl ht1 ht2 ht3 ht4 hm1 hm2 d4 d5 d6 d7 d8 d9 d10 d11 d12 d13 d14 m0 m1 m2 m3 m4 m5 m6 G F N

end
end
section
theorem mod_nat (x kz : Int) (k : Nat) (hk : kz = (k : Int)) (h : 0 < k) : ∃ i : Nat, i < k ∧ x.fmod kz = (i : Int) := by
  subst hk
  have h1 := Int.fmod_nonneg_of_pos x (show (0 : Int) < k by omega)
  have h2 := Int.fmod_lt_of_pos x (show (0 : Int) < k by omega)
  exact ⟨(x.fmod k).toNat, by omega, by omega⟩
theorem ne_mod6 {i j q : Nat} (hi : i < 6) (hq : q < 5) (h : ((i : Int) + 1 + (q : Int)).fmod 6 = (j : Int)) : i ≠ j := by
  rw [Int.fmod_eq_emod_of_nonneg _ (by decide)] at h
  omega
theorem size_nat (x : Int) : ∃ n : Nat, (6 ≤ n ∧ n ≤ 9) ∧ 6 + x.fmod 4 = (n : Int) := by
  obtain ⟨i, hi, e⟩ := mod_nat x 4 4 rfl (by decide)
  have e' : x.fmod 4 = (i : Int) := e
  exact ⟨6 + i, by omega, by omega⟩
theorem way_of {wy x : Int} (h : wy = 1 - 2 * x.fmod 2) : wy = 1 ∨ wy = -1 := by
  obtain ⟨i, hi, e⟩ := mod_nat x 2 2 rfl (by decide)
  have e' : x.fmod 2 = (i : Int) := e
  omega
theorem one_mod3 (x : Int) : 1 ≤ 1 + x.fmod 3 ∧ 1 + x.fmod 3 ≤ 3 := by
  have := mod3 x
  omega
theorem way_size {wy : Int} (h : wy = 1 ∨ wy = -1) : (wayW wy).cps.size ≤ 100 := by rcases h with rfl | rfl <;> decide +kernel
theorem tok_1 {cs : List Nat} {x : Str} {r : List Nat} (h : tokA cs = (x.cps.toList, r)) : (tokA cs).1.toArray = x.cps := by rw [h]
theorem tok_2 {cs : List Nat} {x r : List Nat} (h : tokA cs = (x, r)) : (tokA cs).2 = r := by rw [h]
section
namespace Z_comp_0
noncomputable def zP (w : World) (loose : List Str) (mean : ExcName → Option Value) (mg : Str → Option Value) (mb : Str → Option Value) (cd : Value) (fa : Addr) (g : Heap) (L : Addr) (s₀ : Shared) (s : Shared) (E : Value → Shared → Prop) (m : Str → Option Value) (W : Addr) (ws : List Value) (ns : List Int) (o1 : Obj) (o2 : Obj) (o3 : Obj) (o4 : Obj) (o5 : Obj) (o6 : Obj) (o7 : Obj) (o8 : Obj) (o9 : Obj) (o10 : Obj) (o11 : Obj) (o12 : Obj) (o13 : Obj) (o14 : Obj) : Prop := ∀ (hCH : CodeHd g 104 100) (hW : g.IsList W ws.toArray) (hws : IntsAre ws ns) (hlen : ns.length ≤ 63) (d1 : o1.data = .cell (some (.ref W))) (d2 : o2.data = .cell none) (d3 : o3.data = .cell none) (d4 : o4.data = .cell none) (d5 : o5.data = .cell none) (d6 : o6.data = .cell none) (d7 : o7.data = .cell none) (d8 : o8.data = .cell none) (d9 : o9.data = .cell none) (d10 : o10.data = .cell none) (d11 : o11.data = .cell none) (d12 : o12.data = .cell none) (d13 : o13.data = .cell none) (d14 : o14.data = .cell none) (G : LawG w loose mean mg mb g L s₀ s) (F : Fr g L s.heap m) (N : News g L s.heap ((L + 1 + 1 + 1 + 1 + 1 + 1 + 1 + 1 + 1 + 1 + 1 + 1 + 1 + 1, o14) :: (L + 1 + 1 + 1 + 1 + 1 + 1 + 1 + 1 + 1 + 1 + 1 + 1 + 1, o13) :: (L + 1 + 1 + 1 + 1 + 1 + 1 + 1 + 1 + 1 + 1 + 1 + 1, o12) :: (L + 1 + 1 + 1 + 1 + 1 + 1 + 1 + 1 + 1 + 1 + 1, o11) :: (L + 1 + 1 + 1 + 1 + 1 + 1 + 1 + 1 + 1 + 1, o10) :: (L + 1 + 1 + 1 + 1 + 1 + 1 + 1 + 1 + 1, o9) :: (L + 1 + 1 + 1 + 1 + 1 + 1 + 1 + 1, o8) :: (L + 1 + 1 + 1 + 1 + 1 + 1 + 1, o7) :: (L + 1 + 1 + 1 + 1 + 1 + 1, o6) :: (L + 1 + 1 + 1 + 1 + 1, o5) :: (L + 1 + 1 + 1 + 1, o4) :: (L + 1 + 1 + 1, o3) :: (L + 1 + 1, o2) :: (L + 1, o1) :: (100, tabObj #[]) :: [])), LawS w g L fa cd s₀ E 0 s
noncomputable def zk : DD := pickD fun c => zP (c.fW 0) (c.fLs 0) (c.fMe 0) (c.fMp 0) (c.fMp 1) (c.fV 0) (c.fA 0) (c.fH 0) (c.fA 1) (c.fSh 0) (c.fSh 1) (c.fE 0) (c.fMp 2) (c.fA 2) (c.fLv 0) (c.fLi 0) (c.fO 0) (c.fO 1) (c.fO 2) (c.fO 3) (c.fO 4) (c.fO 5) (c.fO 6) (c.fO 7) (c.fO 8) (c.fO 9) (c.fO 10) (c.fO 11) (c.fO 12) (c.fO 13)
noncomputable section
@[irreducible] def w : World := zk.fW 0
@[irreducible] def loose : List Str := zk.fLs 0
@[irreducible] def mean : ExcName → Option Value := zk.fMe 0
@[irreducible] def mg : Str → Option Value := zk.fMp 0
@[irreducible] def mb : Str → Option Value := zk.fMp 1
@[irreducible] def cd : Value := zk.fV 0
@[irreducible] def fa : Addr := zk.fA 0
@[irreducible] def g : Heap := zk.fH 0
@[irreducible] def L : Addr := zk.fA 1
@[irreducible] def s₀ : Shared := zk.fSh 0
@[irreducible] def s : Shared := zk.fSh 1
@[irreducible] def E : Value → Shared → Prop := zk.fE 0
@[irreducible] def m : Str → Option Value := zk.fMp 2
@[irreducible] def W : Addr := zk.fA 2
@[irreducible] def ws : List Value := zk.fLv 0
@[irreducible] def ns : List Int := zk.fLi 0
@[irreducible] def o1 : Obj := zk.fO 0
@[irreducible] def o2 : Obj := zk.fO 1
@[irreducible] def o3 : Obj := zk.fO 2
@[irreducible] def o4 : Obj := zk.fO 3
@[irreducible] def o5 : Obj := zk.fO 4
@[irreducible] def o6 : Obj := zk.fO 5
@[irreducible] def o7 : Obj := zk.fO 6
@[irreducible] def o8 : Obj := zk.fO 7
@[irreducible] def o9 : Obj := zk.fO 8
@[irreducible] def o10 : Obj := zk.fO 9
@[irreducible] def o11 : Obj := zk.fO 10
@[irreducible] def o12 : Obj := zk.fO 11
@[irreducible] def o13 : Obj := zk.fO 12
@[irreducible] def o14 : Obj := zk.fO 13
end
theorem zcore : zP w loose mean mg mb cd fa g L s₀ s E m W ws ns o1 o2 o3 o4 o5 o6 o7 o8 o9 o10 o11 o12 o13 o14 := by
  unfold zP
  intro hCH hW hws hlen d1 d2 d3 d4 d5 d6 d7 d8 d9 d10 d11 d12 d13 d14 G F N
  have h100 : @LT.lt Nat _ 100 L := G.h100
  refine lawS_step (by decide) (law_0 w loose mean mg mb cd fa g L s₀ s _ _ _ ((L + 1 + 1 + 1 + 1 + 1 + 1 + 1 + 1 + 1 + 1 + 1 + 1 + 1 + 1, o14) :: (L + 1 + 1 + 1 + 1 + 1 + 1 + 1 + 1 + 1 + 1 + 1 + 1 + 1, o13) :: (L + 1 + 1 + 1 + 1 + 1 + 1 + 1 + 1 + 1 + 1 + 1 + 1, o12) :: (L + 1 + 1 + 1 + 1 + 1 + 1 + 1 + 1 + 1 + 1 + 1, o11) :: (L + 1 + 1 + 1 + 1 + 1 + 1 + 1 + 1 + 1 + 1, o10) :: (L + 1 + 1 + 1 + 1 + 1 + 1 + 1 + 1 + 1, o9) :: (L + 1 + 1 + 1 + 1 + 1 + 1 + 1 + 1, o8) :: (L + 1 + 1 + 1 + 1 + 1 + 1 + 1, o7) :: (L + 1 + 1 + 1 + 1 + 1 + 1, o6) :: (L + 1 + 1 + 1 + 1 + 1, o5) :: (L + 1 + 1 + 1 + 1, o4) :: (L + 1 + 1 + 1, o3) :: (L + 1, o1) :: (100, tabObj #[]) :: []) o2 d2 (fc (kne L 14 2 (by decide)) (fc (kne L 13 2 (by decide)) (fc (kne L 12 2 (by decide)) (fc (kne L 11 2 (by decide)) (fc (kne L 10 2 (by decide)) (fc (kne L 9 2 (by decide)) (fc (kne L 8 2 (by decide)) (fc (kne L 7 2 (by decide)) (fc (kne L 6 2 (by decide)) (fc (kne L 5 2 (by decide)) (fc (kne L 4 2 (by decide)) (fc (kne L 3 2 (by decide)) (fc (kne L 1 2 (by decide)) (fc (Nat.ne_of_lt (by show 100 < _; omega)) (List.forall_mem_nil _))))))))))))))) (fun s BA o2 b0 b1 b2 b3 G F N d2 hBA => ?_) G F (news_ix N 99 [12, 0, 1, 2, 3, 4, 5, 6, 7, 8, 9, 10, 11, 13, 14]))
  show LawS w g L fa cd s₀ E 1 s
  have hB3 : @LT.lt Nat _ (L + 1 + 1 + 1) BA := hBA (L + 1 + 1 + 1, o3) (t12 mh)
  clear hBA
  refine lawS_step (by decide) (law_1 w loose mean mg mb cd fa g L s₀ s _ _ _ ((L + 1 + 1 + 1 + 1 + 1 + 1 + 1 + 1 + 1 + 1 + 1 + 1 + 1 + 1, o14) :: (L + 1 + 1 + 1 + 1 + 1 + 1 + 1 + 1 + 1 + 1 + 1 + 1 + 1, o13) :: (L + 1 + 1 + 1 + 1 + 1 + 1 + 1 + 1 + 1 + 1 + 1 + 1, o12) :: (L + 1 + 1 + 1 + 1 + 1 + 1 + 1 + 1 + 1 + 1 + 1, o11) :: (L + 1 + 1 + 1 + 1 + 1 + 1 + 1 + 1 + 1 + 1, o10) :: (L + 1 + 1 + 1 + 1 + 1 + 1 + 1 + 1 + 1, o9) :: (L + 1 + 1 + 1 + 1 + 1 + 1 + 1 + 1, o8) :: (L + 1 + 1 + 1 + 1 + 1 + 1 + 1, o7) :: (L + 1 + 1 + 1 + 1 + 1 + 1, o6) :: (L + 1 + 1 + 1 + 1 + 1, o5) :: (L + 1 + 1 + 1 + 1, o4) :: (100, tabObj #[]) :: []) W ws ns hW hws hlen BA b0 b1 b2 b3 o1 o2 o3 d1 d2 d3 (fc (kne L 14 3 (by decide)) (fc (kne L 13 3 (by decide)) (fc (kne L 12 3 (by decide)) (fc (kne L 11 3 (by decide)) (fc (kne L 10 3 (by decide)) (fc (kne L 9 3 (by decide)) (fc (kne L 8 3 (by decide)) (fc (kne L 7 3 (by decide)) (fc (kne L 6 3 (by decide)) (fc (kne L 5 3 (by decide)) (fc (kne L 4 3 (by decide)) (fc (Nat.ne_of_lt (by show 100 < _; omega)) (List.forall_mem_nil _))))))))))))) hB3 (fun s CA k0 k1 k2 k3 ct0 ct1 ct2 ct3 e o3 G F N d3 hne hsep => ?_) G F (news_ix N 99 [0, 14, 1, 13, 2, 3, 4, 5, 6, 7, 8, 9, 10, 11, 12, 15]))
  show LawS w g L fa cd s₀ E 2 s
  clear hne hsep hB3
  refine lawS_step (by decide) (law_2 w loose mean mg mb cd fa g L s₀ s _ _ _ ((L + 1 + 1 + 1 + 1 + 1 + 1 + 1 + 1 + 1 + 1 + 1 + 1 + 1 + 1, o14) :: (L + 1 + 1 + 1 + 1 + 1 + 1 + 1 + 1 + 1 + 1 + 1 + 1 + 1, o13) :: (L + 1 + 1 + 1 + 1 + 1 + 1 + 1 + 1 + 1 + 1 + 1 + 1, o12) :: (L + 1 + 1 + 1 + 1 + 1 + 1 + 1 + 1 + 1 + 1 + 1, o11) :: (L + 1 + 1 + 1 + 1 + 1 + 1 + 1 + 1 + 1 + 1, o10) :: (L + 1 + 1 + 1 + 1 + 1 + 1 + 1 + 1 + 1, o9) :: (L + 1 + 1 + 1 + 1 + 1 + 1 + 1 + 1, o8) :: (L + 1 + 1 + 1 + 1 + 1 + 1 + 1, o7) :: (L + 1 + 1 + 1 + 1 + 1 + 1, o6) :: (L + 1 + 1 + 1 + 1 + 1, o5) :: (L + 1 + 1 + 1 + 1, o4) :: (100, tabObj #[]) :: []) CA k0 k1 k2 k3 ct0 ct1 ct2 ct3 e o3 d3 (fun s RA ru0 ru1 ru2 ru3 re G F N => ?_) G F (news_ix N 99 [0, 1, 2, 3, 4, 5, 6, 7, 8, 9, 10, 11, 12, 13]))
  show LawS w g L fa cd s₀ E 3 s
  obtain ⟨m₁, e₁⟩ : ∃ m₉, m₉ = upd m (Str.ofString "runs") (.ref RA) := ⟨_, rfl⟩
  rw [← e₁] at F
  have m1 := upd_self e₁
  clear e₁
  have nCA_4 : @Ne Nat CA (L + 4) := ne_obj N (t1 mh) (t13 mh) (lst_cell d4)
  have nRA_4 : @Ne Nat RA (L + 4) := ne_obj N mh (t13 mh) (lst_cell d4)
  refine lawS_step (by decide) (law_3 w loose mean mg mb cd fa g L s₀ s _ _ _ ((L + 1 + 1 + 1 + 1 + 1 + 1 + 1 + 1 + 1 + 1 + 1 + 1 + 1 + 1, o14) :: (L + 1 + 1 + 1 + 1 + 1 + 1 + 1 + 1 + 1 + 1 + 1 + 1 + 1, o13) :: (L + 1 + 1 + 1 + 1 + 1 + 1 + 1 + 1 + 1 + 1 + 1 + 1, o12) :: (L + 1 + 1 + 1 + 1 + 1 + 1 + 1 + 1 + 1 + 1 + 1, o11) :: (L + 1 + 1 + 1 + 1 + 1 + 1 + 1 + 1 + 1 + 1, o10) :: (L + 1 + 1 + 1 + 1 + 1 + 1 + 1 + 1 + 1, o9) :: (L + 1 + 1 + 1 + 1 + 1 + 1 + 1 + 1, o8) :: (L + 1 + 1 + 1 + 1 + 1 + 1 + 1, o7) :: (L + 1 + 1 + 1 + 1 + 1 + 1, o6) :: (L + 1 + 1 + 1 + 1 + 1, o5) :: (100, tabObj #[]) :: (RA, lstO [.int (1 + k0.fmod 3) ru0, .int (1 + k1.fmod 3) ru1, .int (1 + k2.fmod 3) ru2, .int (1 + k3.fmod 3) ru3] re) :: []) CA k0 k1 k2 k3 ct0 ct1 ct2 ct3 e o3 d3 o4 d4 (fc (kne L 14 4 (by decide)) (fc (kne L 13 4 (by decide)) (fc (kne L 12 4 (by decide)) (fc (kne L 11 4 (by decide)) (fc (kne L 10 4 (by decide)) (fc (kne L 9 4 (by decide)) (fc (kne L 8 4 (by decide)) (fc (kne L 7 4 (by decide)) (fc (kne L 6 4 (by decide)) (fc (kne L 5 4 (by decide)) (fc (Nat.ne_of_lt (by show 100 < _; omega)) (fc nRA_4 (List.forall_mem_nil _))))))))))))) nCA_4 (fun s tz o4 G F N d4 => ?_) G F (news_ix N 99 [1, 2, 13, 3, 4, 5, 6, 7, 8, 9, 10, 11, 12, 14, 0]))
  show LawS w g L fa cd s₀ E 4 s
  refine lawS_step (by decide) (law_4 w loose mean mg mb cd fa g L s₀ s _ _ _ ((L + 1 + 1 + 1 + 1 + 1 + 1 + 1 + 1 + 1 + 1 + 1 + 1 + 1 + 1, o14) :: (L + 1 + 1 + 1 + 1 + 1 + 1 + 1 + 1 + 1 + 1 + 1 + 1 + 1, o13) :: (L + 1 + 1 + 1 + 1 + 1 + 1 + 1 + 1 + 1 + 1 + 1 + 1, o12) :: (L + 1 + 1 + 1 + 1 + 1 + 1 + 1 + 1 + 1 + 1 + 1, o11) :: (L + 1 + 1 + 1 + 1 + 1 + 1 + 1 + 1 + 1 + 1, o10) :: (L + 1 + 1 + 1 + 1 + 1 + 1 + 1 + 1 + 1, o9) :: (L + 1 + 1 + 1 + 1 + 1 + 1 + 1 + 1, o8) :: (L + 1 + 1 + 1 + 1 + 1 + 1 + 1, o7) :: (L + 1 + 1 + 1 + 1 + 1 + 1, o6) :: (L + 1 + 1 + 1 + 1 + 1, o5) :: (L + 1 + 1 + 1 + 1, o4) :: (100, tabObj #[]) :: (RA, lstO [.int (1 + k0.fmod 3) ru0, .int (1 + k1.fmod 3) ru1, .int (1 + k2.fmod 3) ru2, .int (1 + k3.fmod 3) ru3] re) :: []) CA k0 k1 k2 k3 ct0 ct1 ct2 ct3 e o3 d3 (fun s vf G F N => ?_) G F (news_ix N 99 [0, 1, 3, 4, 5, 6, 7, 8, 9, 10, 11, 12, 2, 13, 14]))
  show LawS w g L fa cd s₀ E 5 s
  obtain ⟨m₁, e₁⟩ : ∃ m₉, m₉ = upd m₁ (Str.ofString "form") (.int ((k1.fdiv 3).fmod 4) vf) := ⟨_, rfl⟩
  rw [← e₁] at F
  have m1 := upd_other e₁ m1 (by decide +kernel)
  have m2 := upd_self e₁
  clear e₁
  refine lawS_step (by decide) (law_5 w loose mean mg mb cd fa g L s₀ s _ _ _ ((L + 1 + 1 + 1 + 1 + 1 + 1 + 1 + 1 + 1 + 1 + 1 + 1 + 1 + 1, o14) :: (L + 1 + 1 + 1 + 1 + 1 + 1 + 1 + 1 + 1 + 1 + 1 + 1 + 1, o13) :: (L + 1 + 1 + 1 + 1 + 1 + 1 + 1 + 1 + 1 + 1 + 1 + 1, o12) :: (L + 1 + 1 + 1 + 1 + 1 + 1 + 1 + 1 + 1 + 1 + 1, o11) :: (L + 1 + 1 + 1 + 1 + 1 + 1 + 1 + 1 + 1 + 1, o10) :: (L + 1 + 1 + 1 + 1 + 1 + 1 + 1 + 1 + 1, o9) :: (L + 1 + 1 + 1 + 1 + 1 + 1 + 1 + 1, o8) :: (L + 1 + 1 + 1 + 1 + 1 + 1 + 1, o7) :: (L + 1 + 1 + 1 + 1 + 1 + 1, o6) :: (L + 1 + 1 + 1 + 1 + 1, o5) :: (L + 1 + 1 + 1 + 1, o4) :: (100, tabObj #[]) :: (RA, lstO [.int (1 + k0.fmod 3) ru0, .int (1 + k1.fmod 3) ru1, .int (1 + k2.fmod 3) ru2, .int (1 + k3.fmod 3) ru3] re) :: []) CA k0 k1 k2 k3 ct0 ct1 ct2 ct3 e o3 d3 (fun s vw G F N => ?_) G F (news_ix N 99 [0, 1, 2, 3, 4, 5, 6, 7, 8, 9, 10, 11, 12, 13, 14]))
  show LawS w g L fa cd s₀ E 6 s
  obtain ⟨m₁, e₁⟩ : ∃ m₉, m₉ = upd m₁ (Str.ofString "way") (.int (1 - 2 * (k2.fdiv 3).fmod 2) vw) := ⟨_, rfl⟩
  rw [← e₁] at F
  have m1 := upd_other e₁ m1 (by decide +kernel)
  have m2 := upd_other e₁ m2 (by decide +kernel)
  have m3 := upd_self e₁
  clear e₁
  refine lawS_step (by decide) (law_6 w loose mean mg mb cd fa g L s₀ s _ _ _ ((L + 1 + 1 + 1 + 1 + 1 + 1 + 1 + 1 + 1 + 1 + 1 + 1 + 1 + 1, o14) :: (L + 1 + 1 + 1 + 1 + 1 + 1 + 1 + 1 + 1 + 1 + 1 + 1 + 1, o13) :: (L + 1 + 1 + 1 + 1 + 1 + 1 + 1 + 1 + 1 + 1 + 1 + 1, o12) :: (L + 1 + 1 + 1 + 1 + 1 + 1 + 1 + 1 + 1 + 1 + 1, o11) :: (L + 1 + 1 + 1 + 1 + 1 + 1 + 1 + 1 + 1 + 1, o10) :: (L + 1 + 1 + 1 + 1 + 1 + 1 + 1 + 1 + 1, o9) :: (L + 1 + 1 + 1 + 1 + 1 + 1 + 1 + 1, o8) :: (L + 1 + 1 + 1 + 1 + 1 + 1 + 1, o7) :: (L + 1 + 1 + 1 + 1 + 1 + 1, o6) :: (L + 1 + 1 + 1 + 1 + 1, o5) :: (L + 1 + 1 + 1 + 1, o4) :: (L + 1 + 1 + 1, o3) :: (100, tabObj #[]) :: (CA, lstO [.int k0 ct0, .int k1 ct1, .int k2 ct2, .int k3 ct3] e) :: (RA, lstO [.int (1 + k0.fmod 3) ru0, .int (1 + k1.fmod 3) ru1, .int (1 + k2.fmod 3) ru2, .int (1 + k3.fmod 3) ru3] re) :: [])  (fun s NA w0 w1 w2 w3 w4 w5 G F N => ?_) G F (news_ix N 99 [2, 3, 4, 5, 6, 7, 8, 9, 10, 11, 12, 1, 13, 0, 14]))
  show LawS w g L fa cd s₀ E 7 s
  obtain ⟨m₁, e₁⟩ : ∃ m₉, m₉ = upd m₁ (Str.ofString "names") (.ref NA) := ⟨_, rfl⟩
  rw [← e₁] at F
  have m1 := upd_other e₁ m1 (by decide +kernel)
  have m2 := upd_other e₁ m2 (by decide +kernel)
  have m3 := upd_other e₁ m3 (by decide +kernel)
  have m0 := upd_self e₁
  clear e₁
  refine lawS_step (by decide) (law_7 w loose mean mg mb cd fa g L s₀ s _ _ _ ((L + 1 + 1 + 1 + 1 + 1 + 1 + 1 + 1 + 1 + 1 + 1 + 1 + 1 + 1, o14) :: (L + 1 + 1 + 1 + 1 + 1 + 1 + 1 + 1 + 1 + 1 + 1 + 1 + 1, o13) :: (L + 1 + 1 + 1 + 1 + 1 + 1 + 1 + 1 + 1 + 1 + 1 + 1, o12) :: (L + 1 + 1 + 1 + 1 + 1 + 1 + 1 + 1 + 1 + 1 + 1, o11) :: (L + 1 + 1 + 1 + 1 + 1 + 1 + 1 + 1 + 1 + 1, o10) :: (L + 1 + 1 + 1 + 1 + 1 + 1 + 1 + 1 + 1, o9) :: (L + 1 + 1 + 1 + 1 + 1 + 1 + 1 + 1, o8) :: (L + 1 + 1 + 1 + 1 + 1 + 1 + 1, o7) :: (L + 1 + 1 + 1 + 1 + 1 + 1, o6) :: (L + 1 + 1 + 1 + 1 + 1, o5) :: (L + 1 + 1 + 1 + 1, o4) :: (100, tabObj #[]) :: (RA, lstO [.int (1 + k0.fmod 3) ru0, .int (1 + k1.fmod 3) ru1, .int (1 + k2.fmod 3) ru2, .int (1 + k3.fmod 3) ru3] re) :: (NA, lstO (namesV w0 w1 w2 w3 w4 w5) 0) :: []) CA k0 k1 k2 k3 ct0 ct1 ct2 ct3 e o3 d3 (fun s iv1 G F N => ?_) G F (news_ix N 99 [14, 12, 1, 2, 3, 4, 5, 6, 7, 8, 9, 10, 11, 13, 15, 0]))
  show LawS w g L fa cd s₀ E 8 s
  obtain ⟨m₁, e₁⟩ : ∃ m₉, m₉ = upd m₁ (Str.ofString "one") (.int ((k2.fdiv 6).fmod 6) iv1) := ⟨_, rfl⟩
  rw [← e₁] at F
  have m0 := upd_other e₁ m0 (by decide +kernel)
  have m1 := upd_other e₁ m1 (by decide +kernel)
  have m2 := upd_other e₁ m2 (by decide +kernel)
  have m3 := upd_other e₁ m3 (by decide +kernel)
  have m5 := upd_self e₁
  clear e₁
  refine lawS_step (by decide) (law_8 w loose mean mg mb cd fa g L s₀ s _ _ _ ((L + 1 + 1 + 1 + 1 + 1 + 1 + 1 + 1 + 1 + 1 + 1 + 1 + 1 + 1, o14) :: (L + 1 + 1 + 1 + 1 + 1 + 1 + 1 + 1 + 1 + 1 + 1 + 1 + 1, o13) :: (L + 1 + 1 + 1 + 1 + 1 + 1 + 1 + 1 + 1 + 1 + 1 + 1, o12) :: (L + 1 + 1 + 1 + 1 + 1 + 1 + 1 + 1 + 1 + 1 + 1, o11) :: (L + 1 + 1 + 1 + 1 + 1 + 1 + 1 + 1 + 1 + 1, o10) :: (L + 1 + 1 + 1 + 1 + 1 + 1 + 1 + 1 + 1, o9) :: (L + 1 + 1 + 1 + 1 + 1 + 1 + 1 + 1, o8) :: (L + 1 + 1 + 1 + 1 + 1 + 1 + 1, o7) :: (L + 1 + 1 + 1 + 1 + 1 + 1, o6) :: (L + 1 + 1 + 1 + 1 + 1, o5) :: (L + 1 + 1 + 1 + 1, o4) :: (100, tabObj #[]) :: (RA, lstO [.int (1 + k0.fmod 3) ru0, .int (1 + k1.fmod 3) ru1, .int (1 + k2.fmod 3) ru2, .int (1 + k3.fmod 3) ru3] re) :: (NA, lstO (namesV w0 w1 w2 w3 w4 w5) 0) :: []) CA k0 k1 k2 k3 ct0 ct1 ct2 ct3 e o3 d3 ((k2.fdiv 6).fmod 6) iv1 m5 (fun s iv2 G F N => ?_) G F (news_ix N 99 [0, 1, 2, 3, 4, 5, 6, 7, 8, 9, 10, 11, 12, 13, 14, 15]))
  show LawS w g L fa cd s₀ E 9 s
  obtain ⟨m₁, e₁⟩ : ∃ m₉, m₉ = upd m₁ (Str.ofString "other") (.int (((k2.fdiv 6).fmod 6 + 1 + (k2.fdiv 36).fmod 5).fmod 6) iv2) := ⟨_, rfl⟩
  rw [← e₁] at F
  have m0 := upd_other e₁ m0 (by decide +kernel)
  have m1 := upd_other e₁ m1 (by decide +kernel)
  have m2 := upd_other e₁ m2 (by decide +kernel)
  have m3 := upd_other e₁ m3 (by decide +kernel)
  have m5 := upd_other e₁ m5 (by decide +kernel)
  have m6 := upd_self e₁
  clear e₁
  have nCA_5 : @Ne Nat CA (L + 5) := ne_obj N mh (t11 mh) (lst_cell d5)
  have nRA_5 : @Ne Nat RA (L + 5) := ne_obj N (t14 mh) (t11 mh) (lst_cell d5)
  have nNA_5 : @Ne Nat NA (L + 5) := ne_obj N (t15 mh) (t11 mh) (lst_cell d5)
  obtain ⟨i, hi, ei⟩ := mod_nat (k2.fdiv 6) 6 6 rfl (by decide)
  obtain ⟨j, hj, ej⟩ := mod_nat ((k2.fdiv 6).fmod 6 + 1 + (k2.fdiv 36).fmod 5) 6 6 rfl (by decide)
  have hij : i ≠ j := by
    obtain ⟨q, hq, eq⟩ := mod_nat (k2.fdiv 36) 5 5 rfl (by decide)
    exact ne_mod6 hi hq (by rw [← ej, ei, eq])
  rw [ei] at m5
  rw [ej] at m6
  obtain ⟨f, hf, ef⟩ := mod_nat (k1.fdiv 3) 4 4 rfl (by decide)
  rw [ef] at m2
  obtain ⟨n, hn, en⟩ := size_nat (k0.fdiv 3)
  rw [en] at d4
  obtain ⟨wy, ew⟩ : ∃ wy, wy = 1 - 2 * (k2.fdiv 3).fmod 2 := ⟨_, rfl⟩
  have hwy : wy = 1 ∨ wy = -1 := way_of ew
  rw [← ew] at m3
  obtain ⟨nq1, hx1⟩ := name_at w0 w1 w2 w3 w4 w5 i hi
  obtain ⟨nq2, hx2⟩ := name_at w0 w1 w2 w3 w4 w5 j hj
  refine lawS_step (by decide) (law_9 w loose mean mg mb cd fa g L s₀ s _ _ _ ((L + 1 + 1 + 1 + 1 + 1 + 1 + 1 + 1 + 1 + 1 + 1 + 1 + 1 + 1, o14) :: (L + 1 + 1 + 1 + 1 + 1 + 1 + 1 + 1 + 1 + 1 + 1 + 1 + 1, o13) :: (L + 1 + 1 + 1 + 1 + 1 + 1 + 1 + 1 + 1 + 1 + 1 + 1, o12) :: (L + 1 + 1 + 1 + 1 + 1 + 1 + 1 + 1 + 1 + 1 + 1, o11) :: (L + 1 + 1 + 1 + 1 + 1 + 1 + 1 + 1 + 1 + 1, o10) :: (L + 1 + 1 + 1 + 1 + 1 + 1 + 1 + 1 + 1, o9) :: (L + 1 + 1 + 1 + 1 + 1 + 1 + 1 + 1, o8) :: (L + 1 + 1 + 1 + 1 + 1 + 1 + 1, o7) :: (L + 1 + 1 + 1 + 1 + 1 + 1, o6) :: (L + 1 + 1 + 1 + 1, o4) :: (L + 1 + 1 + 1, o3) :: (100, tabObj #[]) :: (CA, lstO [.int k0 ct0, .int k1 ct1, .int k2 ct2, .int k3 ct3] e) :: (RA, lstO [.int (1 + k0.fmod 3) ru0, .int (1 + k1.fmod 3) ru1, .int (1 + k2.fmod 3) ru2, .int (1 + k3.fmod 3) ru3] re) :: []) NA (namesV w0 w1 w2 w3 w4 w5) 0 rfl o5 d5 (fc (kne L 14 5 (by decide)) (fc (kne L 13 5 (by decide)) (fc (kne L 12 5 (by decide)) (fc (kne L 11 5 (by decide)) (fc (kne L 10 5 (by decide)) (fc (kne L 9 5 (by decide)) (fc (kne L 8 5 (by decide)) (fc (kne L 7 5 (by decide)) (fc (kne L 6 5 (by decide)) (fc (kne L 4 5 (by decide)) (fc (kne L 3 5 (by decide)) (fc (Nat.ne_of_lt (by show 100 < _; omega)) (fc nCA_5 (fc nRA_5 (List.forall_mem_nil _))))))))))))))) nNA_5 (i : Int) (j : Int) wy hwy ⟨by omega, by omega⟩ ⟨by omega, by omega⟩ (nameS i) (nameS j) nq1 nq2 (by simpa using hx1) (by simpa using hx2) iv1 iv2 vw m0 m5 m6 m3 (fun s WA o5 q3 q4 q5 G F N d5 => ?_) G F (news_ix N 99 [15, 11, 2, 3, 4, 5, 6, 7, 8, 9, 10, 12, 1, 13, 0, 14]))
  show LawS w g L fa cd s₀ E 10 s
  refine lawS_step (by decide) (law_10 w loose mean mg mb cd fa g L s₀ s _ _ _ ((L + 1 + 1 + 1 + 1 + 1 + 1 + 1 + 1 + 1 + 1 + 1 + 1 + 1 + 1, o14) :: (L + 1 + 1 + 1 + 1 + 1 + 1 + 1 + 1 + 1 + 1 + 1 + 1 + 1, o13) :: (L + 1 + 1 + 1 + 1 + 1 + 1 + 1 + 1 + 1 + 1 + 1 + 1, o12) :: (L + 1 + 1 + 1 + 1 + 1 + 1 + 1 + 1 + 1 + 1 + 1, o11) :: (L + 1 + 1 + 1 + 1 + 1 + 1 + 1 + 1 + 1 + 1, o10) :: (L + 1 + 1 + 1 + 1 + 1 + 1 + 1 + 1 + 1, o9) :: (L + 1 + 1 + 1 + 1 + 1 + 1 + 1 + 1, o8) :: (L + 1 + 1 + 1 + 1 + 1 + 1 + 1, o7) :: (L + 1 + 1 + 1 + 1 + 1 + 1, o6) :: (L + 1 + 1 + 1 + 1, o4) :: (100, tabObj #[]) :: (RA, lstO [.int (1 + k0.fmod 3) ru0, .int (1 + k1.fmod 3) ru1, .int (1 + k2.fmod 3) ru2, .int (1 + k3.fmod 3) ru3] re) :: (NA, lstO (namesV w0 w1 w2 w3 w4 w5) 0) :: []) WA (nameS i) (nameS j) (wayW wy) (Str.ofString "OI") (Str.ofString "#n \"\n\x0b\\") nq1 nq2 q3 q4 q5 0 CA k0 k1 k2 k3 ct0 ct1 ct2 ct3 e o5 d5 o3 d3 (name_ok i hi).2 (name_ok j hj).2 (way_size hwy) (by decide +kernel) (by decide +kernel) (fun s x ux G F N htext => ?_) G F (news_ix N 99 [0, 2, 15, 13, 3, 4, 5, 6, 7, 8, 9, 10, 11, 12, 14, 16, 1]))
  show LawS w g L fa cd s₀ E 11 s
  obtain ⟨m₁, e₁⟩ : ∃ m₉, m₉ = upd m₁ (Str.ofString "text") (.str x ux) := ⟨_, rfl⟩
  rw [← e₁] at F
  have m0 := upd_other e₁ m0 (by decide +kernel)
  have m1 := upd_other e₁ m1 (by decide +kernel)
  have m2 := upd_other e₁ m2 (by decide +kernel)
  have m3 := upd_other e₁ m3 (by decide +kernel)
  have m5 := upd_other e₁ m5 (by decide +kernel)
  have m6 := upd_other e₁ m6 (by decide +kernel)
  have m4 := upd_self e₁
  clear e₁
  obtain ⟨a1, a2, a3, a4, a5, hxl⟩ := text_toks hi hj hwy (mod3 _) (mod3 _) (mod3 _) (mod3 _) (mod3 _) htext
  refine comp_11 w loose mean mg mb cd fa g L s₀ s E _ hCH WA RA NA (nameS i) (nameS j) wy hwy nq1 nq2 q3 q4 q5 0 re ru0 ru1 ru2 ru3 (namesV w0 w1 w2 w3 w4 w5) rfl (i : Int) (j : Int) ⟨by omega, by omega⟩ ⟨by omega, by omega⟩ nq1 nq2 (by simpa using hx1) (by simpa using hx2) (name_inj i j hi hj hij) (name_ok i hi).1 (name_ok j hj).1
    f hf (1 + k0.fmod 3) (1 + k1.fmod 3) (1 + k2.fmod 3) (1 + k3.fmod 3) ⟨one_mod3 _, one_mod3 _, one_mod3 _, one_mod3 _⟩ n tz hn x ux vf vw iv1 iv2 hxl (tok_1 a1) (tok_1 a2) (tok_1 a3) (tok_1 a4) (tok_1 a5) (tok_2 a5) o4 o5 o6 o7 o8 o9 o10 o11 o12 o13 o14 d4 d5 d6 d7 d8 d9 d10 d11 d12 d13 d14 m0 m1 m2 m3 m4 m5 m6 G F (news_ix N 99 [14, 13, 1, 12, 11, 10, 9, 8, 7, 6, 5, 4, 0, 15, 16])
theorem zall : ∀ c : DD, zP (c.fW 0) (c.fLs 0) (c.fMe 0) (c.fMp 0) (c.fMp 1) (c.fV 0) (c.fA 0) (c.fH 0) (c.fA 1) (c.fSh 0) (c.fSh 1) (c.fE 0) (c.fMp 2) (c.fA 2) (c.fLv 0) (c.fLi 0) (c.fO 0) (c.fO 1) (c.fO 2) (c.fO 3) (c.fO 4) (c.fO 5) (c.fO 6) (c.fO 7) (c.fO 8) (c.fO 9) (c.fO 10) (c.fO 11) (c.fO 12) (c.fO 13) := allD (by with_unfolding_all exact zcore)
end Z_comp_0
theorem comp_0 (w : World) (loose : List Str) (mean : ExcName → Option Value) (mg mb : Str → Option Value) (cd : Value) (fa : Addr) (g : Heap) (L : Addr) (s₀ s : Shared) (E : Value → Shared → Prop) (m : Str → Option Value) (hCH : CodeHd g 104 100) (W : Addr) (ws : List Value) (ns : List Int) (hW : g.IsList W ws.toArray) (hws : IntsAre ws ns) (hlen : ns.length ≤ 63)
    (o1 o2 o3 o4 o5 o6 o7 o8 o9 o10 o11 o12 o13 o14 : Obj) (d1 : o1.data = .cell (some (.ref W))) (d2 : o2.data = .cell none) (d3 : o3.data = .cell none) (d4 : o4.data = .cell none) (d5 : o5.data = .cell none) (d6 : o6.data = .cell none) (d7 : o7.data = .cell none) (d8 : o8.data = .cell none) (d9 : o9.data = .cell none) (d10 : o10.data = .cell none) (d11 : o11.data = .cell none) (d12 : o12.data = .cell none) (d13 : o13.data = .cell none) (d14 : o14.data = .cell none)
    (G : LawG w loose mean mg mb g L s₀ s) (F : Fr g L s.heap m) (N : News g L s.heap ((L + 1 + 1 + 1 + 1 + 1 + 1 + 1 + 1 + 1 + 1 + 1 + 1 + 1 + 1, o14) :: (L + 1 + 1 + 1 + 1 + 1 + 1 + 1 + 1 + 1 + 1 + 1 + 1 + 1, o13) :: (L + 1 + 1 + 1 + 1 + 1 + 1 + 1 + 1 + 1 + 1 + 1 + 1, o12) :: (L + 1 + 1 + 1 + 1 + 1 + 1 + 1 + 1 + 1 + 1 + 1, o11) :: (L + 1 + 1 + 1 + 1 + 1 + 1 + 1 + 1 + 1 + 1, o10) :: (L + 1 + 1 + 1 + 1 + 1 + 1 + 1 + 1 + 1, o9) :: (L + 1 + 1 + 1 + 1 + 1 + 1 + 1 + 1, o8) :: (L + 1 + 1 + 1 + 1 + 1 + 1 + 1, o7) :: (L + 1 + 1 + 1 + 1 + 1 + 1, o6) :: (L + 1 + 1 + 1 + 1 + 1, o5) :: (L + 1 + 1 + 1 + 1, o4) :: (L + 1 + 1 + 1, o3) :: (L + 1 + 1, o2) :: (L + 1, o1) :: (100, tabObj #[]) :: [])) : LawS w g L fa cd s₀ E 0 s := by
  exact Z_comp_0.zall ⟨fun _ => w, fun _ => loose, fun _ => mean, fun i => [mg, mb, m].getD i mg, fun i => [fa, L, W].getD i fa, anyD.fN, anyD.fI, anyD.fT, fun _ => cd, anyD.fS, fun i => [o1, o2, o3, o4, o5, o6, o7, o8, o9, o10, o11, o12, o13, o14].getD i o1, fun _ => g, fun i => [s₀, s].getD i s₀, fun _ => ws, fun _ => ns, anyD.fLn, anyD.fLb, anyD.fLed, anyD.fQ, fun _ => E, anyD.fB, anyD.fIt, anyD.fAv, anyD.fB3, anyD.fGd, anyD.fEn, anyD.fAr, anyD.fOv, anyD.fOp, anyD.fLa, anyD.fEnv, anyD.fSs, anyD.fSt, anyD.fSc, anyD.fP, anyD.fEx, anyD.fR, anyD.fPo, anyD.fCl, anyD.fY, anyD.fRR, anyD.fBB, anyD.fNl, anyD.fOa, anyD.fFd, anyD.fAo, anyD.fDe, anyD.fIv⟩ hCH hW hws hlen d1 d2 d3 d4 d5 d6 d7 d8 d9 d10 d11 d12 d13 d14 G F N

end
theorem law_holds : PySem.Challenge.rw_wo0016_01.Holds := law_of fun w => law_start fun loose mean mg mb cd fa g L s W ws ns o1 o2 o3 o4 o5 o6 o7 o8 o9 o10 o11 o12 o13 o14 G hCH hW hws hlen F N d1 hd => by
  have D : ∀ o ∈ [o2, o3, o4, o5, o6, o7, o8, o9, o10, o11, o12, o13, o14], o.data = .cell none := hd
  exact comp_0 w loose mean mg mb cd fa g L s s _ _ hCH W ws ns hW hws hlen o1 o2 o3 o4 o5 o6 o7 o8 o9 o10 o11 o12 o13 o14 d1 (D _ mh) (D _ (t1 mh)) (D _ (t2 mh)) (D _ (t3 mh)) (D _ (t4 mh)) (D _ (t5 mh)) (D _ (t6 mh)) (D _ (t7 mh)) (D _ (t8 mh)) (D _ (t9 mh)) (D _ (t10 mh)) (D _ (t11 mh)) (D _ (t12 mh)) G F N
end
end Mine
theorem PySem.Challenge.cw_wo0016_01_holds : PySem.Challenge.rw_wo0016_01.Holds :=
  Mine.law_holds
