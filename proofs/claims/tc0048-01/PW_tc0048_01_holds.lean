import PyProof.Rows.All
import Wide.All
import OpenK.AllK
import Wide.FinOn
import PySem.Challenge.RW_tc0048_01
section
open PySem PySem.W PyProof.Rows
set_option maxRecDepth 100000
set_option maxHeartbeats 0
set_option Elab.async true
namespace Mine
section
local macro_rules | `(tactic| o_head $H) => `(tactic| (have hK := $H; assumption))
theorem hdA (h : PySem.Challenge.rw_tc0048_01.row.Holds) : PySem.Challenge.rw_tc0048_01.row.Holds := by
  k_head
end
end Mine
end
local macro_rules | `(tactic| walk_at $s:str) => `(tactic| k_extra $s)
section
open PySem PySem.W PyProof.Rows PySem.Calls PySem.Spec
set_option Elab.async false
set_option maxRecDepth 100000
set_option maxHeartbeats 4000000
namespace Mine
noncomputable abbrev asL : List Addr := [2,3,32,33,35,36,38,39,40,42,43,45,46,50,51,55,56,57,59,60,62,63,64,74,75,77,78,80,81,82,84,85,87,88,89,91,92,94,95,96,98,99,101,102,103,105,106,108,109,110,112,113,115,116,117,119,120,122,123,124,126,127,129,130,131,133,134,136,137,138,139,140,141,142,145,147,148,150,151,152,154,155,157,158,159,161,162,164,165,166,168,169,171,172,173,175,176,178,179,180,182,183,185,186,187,189,190,192,193,194,196,197,199,200,201,203,204,206,207,208,210,211,213,214,215,218,219,220,223,224,225,228,229,230,232,233,235,236,237,239,240,242,243,244,247,248,249,252,253]
theorem asL_eq : ∀ P, asL = (hdA.heap_1_1 P).map (·.1) := fun _ => by kernel_rfl
noncomputable def keptS (l : List Stmt) : List Stmt := l.take 1 ++ (l.drop 2).take 3 ++ (l.drop 6).take 53 ++ (l.drop 60).take 7 ++ l.drop 68
noncomputable def view0 : Program := { PySem.Challenge.rw_tc0048_01.row.toRowW.prog with main := { PySem.Challenge.rw_tc0048_01.row.toRowW.prog.main with body := keptS PySem.Challenge.rw_tc0048_01.row.toRowW.prog.main.body } }
noncomputable abbrev loose4 : List Str := [Str.ofString "COMPILER_FLAG_NAMES", Str.ofString "_twin_re_1", Str.ofString "_twin_re_2", Str.ofString "EXACT_TOKEN_TYPES"]
noncomputable def lawF (w : World) : FuncData := match (hdA.heap_1_1 w.params).lookup 253 with
  | some ⟨_, _, .func F, _⟩ => F
  | _ => default
noncomputable def stmtsOf : FuncBody → List Stmt
  | .stmts l => l
  | _ => []
noncomputable def lawDR (w : World) : DefRec := ⟨(lawF w).name, (lawF w).params, stmtsOf (lawF w).body, (lawF w).scope, ⟨0, 0, 0, 0⟩⟩
noncomputable abbrev LeftD (d : DefRec) : Prop := WalkO view0 loose4 (XL view0 []) (kmHook hdA.heap_1_1 asL asL_eq [245]).says PySem.Challenge.rw_tc0048_01.row.toRowW d [] (fun f vs => call f vs)
end Mine
end
section
open PySem PySem.W PyProof.Rows PySem.Calls PySem.Spec
set_option Elab.async false
set_option maxRecDepth 100000
namespace Mine
noncomputable abbrev loose : List Str := loose4 ++ [Str.ofString "QName", Str.ofString "_sre"]
noncomputable def lsT : List Str := loose ++ (recsOf view0).map (·.name) ++ (litsOf view0).map (·.1) ++ (clssOf view0 loose).map (·.name)
noncomputable def Kept (h h' : Heap) : Prop := ∀ b o, h.get? b = some o → h'.get? b = some o
theorem Kept.news {h₀ h h' : Heap} {L : Addr} {news : List (Addr × Obj)} (k : Kept h h') (N : News h₀ L h news) : News h₀ L h' news := fun p hp => ⟨k _ _ (N p hp).1, (N p hp).2⟩
noncomputable def ClmN (nt lv : Nat) (w : World) (mean : ExcName → Option Value) (mg mb : Str → Option Value) (f : Addr) (pre : Prop) (vs : List Value) (R : Tok → Value) : Prop :=
  ∀ (dp un : Nat) (gd : Option (List Code)) (cn : Str) (cs : Scope) (a : Addr) (ccd : Value) (cl : List (Str × Addr)) (outer : List Env) (A₀ : Around) (base h₀ : Heap) (L : Addr) (m : Str → Option Value) (s : Shared) (Q E : Value → Shared → Prop),
    Below A₀ base outer h₀ → Fr h₀ L s.heap m → (hdA.heap_1_1 w.params).In h₀ → Top topProg lsT mean mg mb h₀ → cs.kind = .function → pre → dp + lv < recursionLimit → un + 8 * lv < cLine → nt ≤ s.toks →
      (∀ (t : Tok) (h' : Heap) (tk' : Nat), Fr h₀ L h' m → Kept s.heap h' → Q (R t) { s with heap := h', toks := tk' }) →
      wpAny (model PySem.Challenge.rw_tc0048_01.row.prog w) (ktrTop dp un gd cn cs L a ccd cl outer) (call (.ref f) vs) Q E s
noncomputable abbrev Clm := ClmN 0 1
theorem ClmN.use {nt lv : Nat} {w : World} {mean : ExcName → Option Value} {mg mb : Str → Option Value} {f : Addr} {pre : Prop} {vs : List Value} {R : Tok → Value} (C : ClmN nt lv w mean mg mb f pre vs R)
    {news : List (Addr × Obj)} {dp un : Nat} {gd : Option (List Code)} {cn : Str} {cs : Scope} {a : Addr} {ccd : Value} {cl : List (Str × Addr)} {outer : List Env} {A₀ : Around} {base h₀ : Heap} {L : Addr} {m : Str → Option Value} {s : Shared} {Q E : Value → Shared → Prop}
    (B : Below A₀ base outer h₀) (F : Fr h₀ L s.heap m) (X : (hdA.heap_1_1 w.params).In h₀) (N : News h₀ L s.heap news) (T : Top topProg lsT mean mg mb h₀) (hk : cs.kind = .function) (hp : pre) (hd : dp + lv < recursionLimit) (hu : un + 8 * lv < cLine) (ht : nt ≤ s.toks)
    (hR : ∀ (t : Tok) (h' : Heap) (tk' : Nat), nt ≤ tk' → Kept s.heap h' → Fr h₀ L h' m → News h₀ L h' news → Q (R t) { s with heap := h', toks := tk' }) :
    wpAny (model PySem.Challenge.rw_tc0048_01.row.prog w) (ktrTop dp un gd cn cs L a ccd cl outer) (call (.ref f) vs) Q E s := by
  have h := C dp un gd cn cs a ccd cl outer A₀ base h₀ L m s (fun v s' => nt ≤ s'.toks → Q v s') E B F X T hk hp hd hu ht (fun t h' tk' F' k h1 => hR t h' tk' h1 k F' (k.news N))
  exact wpAny_mono (wpAny_toks_of ht h) (fun v s' q => q.2 q.1) (fun _ _ q => q.2)
section
variable {prog : Program} {w : World} {A₀ A : Around} {s : Shared} {base h₀ : Heap} {outer : List Env} {L : Addr} {m : Str → Option Value} {env : Env} {K : Frag} {p : Program} {ls : List Str} {mean : ExcName → Option Value} {mg mb : Str → Option Value}
  {R : Result → Shared → Prop} {name qual : Str} {params : Arguments} {body : List Stmt} {scope : Scope} {dV kV doc pm cdv ct oc : Value} {an od : Option Addr} {osl : Array (Option Value)} {f : Addr} {args : Args} {binds : List (Str × Value)}
theorem leave_kept {g : Heap} {v : Value} {s' : Shared} (GS : ∀ b o, s.heap.get? b = some o → g.get? b = some o) (h : LeaveK h₀ L m g (fun r s'' => Kept s.heap s''.heap → R r s'') v s') : LeaveK h₀ L m g R v s' := by
  obtain ⟨L2, m2, n2, F2, N2, k⟩ := h
  exact ⟨L2, m2, n2, F2, N2, fun a b => k a b fun b o e => F2.keep b o (GS b o e)⟩
theorem enterZ (B : Below A₀ base outer h₀) (F : Fr h₀ L s.heap m) (X₀ : K.In h₀) (T : Top p ls mean mg mb h₀) (hA : A.frames = some (env :: outer)) (hf : env.frame = some L) (hke : env.scope.kind = .function)
    (ho : K.lookup f = some ⟨oc, od, .func (fnOf name qual params body scope dV kV doc pm an cdv ct), osl⟩) (hcd : codeIn K cdv qual = true) (hroom : A.depth < recursionLimit)
    (hbind : BindsTo s (fnOf name qual params body scope dV kV doc pm an cdv ct) args binds) (hloc : ∀ y ∈ binds, scope.names.lookup y.1 = some .local)
    (h : ∀ g L' h₁, Fr h₀ L g m → Fr g L' h₁ (fun y => binds.reverse.lookup y) → News g L' h₁ [] → Below A base (env :: outer) g → K.In g → Top p ls mean mg mb g →
      wpAny (model prog w) (A.deeper (envOf qual scope L' f cdv)) (execs body (envOf qual scope L' f cdv))
        (fun fl s' => LeaveK h₀ L m g (fun r s'' => Kept s.heap s''.heap → R r s'') (match fl with | .ret v => v | _ => .none) s')
        (fun e s' => wpAny (model prog w) (A.deeper (envOf qual scope L' f cdv)) (leaving (envOf qual scope L' f cdv) e) (fun _ s'' => R (.error e) s'') (fun e' s'' => R (.error e') s'') s')
        { s with heap := h₁, toks := s.toks + binds.length })
    (hco : scope.isCoroutine = false) (hgen : scope.isGenerator = false) (hk : scope.kind = .function)
    (hcell : ∀ x ∈ scope.names, x.2 ≠ .cell) : codeAny (model prog w) A (.call (.ref f) args) R s :=
  code_defG B F X₀ News.nil T hA hf hke ho hcd hroom hbind hloc (fun g L' h₁ FG F' N' B' X' T' GS => wpAny_mono (h g L' h₁ FG F' N' B' X' T') (fun fl s' hl => leave_kept (fun b o e => GS b o e (fun q => nomatch q)) hl) fun _ _ y => y) hco hgen hk hcell
theorem enterZC (B : Below A₀ base outer h₀) (F : Fr h₀ L s.heap m) (X₀ : K.In h₀) (T : Top p ls mean mg mb h₀) (hA : A.frames = some (env :: outer)) (hf : env.frame = some L) (hke : env.scope.kind = .function)
    (ho : K.lookup f = some ⟨oc, od, .func (fnOf name qual params body scope dV kV doc pm an cdv ct), osl⟩) (hcd : codeIn K cdv qual = true) (hroom : A.depth < recursionLimit)
    (hbind : BindsTo s (fnOf name qual params body scope dV kV doc pm an cdv ct) args binds) (hkind : (binds.all fun y => scope.names.lookup y.1 == some .local || scope.names.lookup y.1 == some .cell) = true)
    (hnd : ((cellsFrom 0 scope.names []).map (·.1)).Nodup)
    (h : ∀ g L' h₁ tk cells, Fr h₀ L g m → Fr g L' h₁ (bindL (envOfC qual scope L' f cdv).kindOf binds fun _ => none) → News g L' h₁ cells →
      CellsAre (bindC (envOfC qual scope L' f cdv).kindOf binds fun _ => none) (cellsFrom (L' + 1) scope.names []) cells → Below A base (env :: outer) g → K.In g → Top p ls mean mg mb g →
      wpAny (model prog w) (A.deeper (envOfC qual scope L' f cdv)) (execs body (envOfC qual scope L' f cdv))
        (fun fl s' => LeaveK h₀ L m g (fun r s'' => Kept s.heap s''.heap → R r s'') (match fl with | .ret v => v | _ => .none) s')
        (fun e s' => wpAny (model prog w) (A.deeper (envOfC qual scope L' f cdv)) (leaving (envOfC qual scope L' f cdv) e) (fun _ s'' => R (.error e) s'') (fun e' s'' => R (.error e') s'') s')
        { s with heap := h₁, toks := tk })
    (hco : scope.isCoroutine = false) (hgen : scope.isGenerator = false) (hk : scope.kind = .function) : codeAny (model prog w) A (.call (.ref f) args) R s := by
  obtain ⟨FG, BG, st, lv⟩ := groundX (R := R) B F (News.nil (h := s.heap) (L := L)) hA hf hke
  refine codeAny_call_function hroom ((X₀.keeps F.keep) _ _ ho) rfl hco hgen rfl (codeRec_of (X₀.keeps F.keep) hcd) (hbind _ _ _ _ ?_)
  refine wpAny_newFunctionEnv_cells hk (kindsX hkind _) fun env' he s' x => ?_
  subst he
  refine ⟨(T.nolimit.keeps F.keep).keeps x.toInCall.keep, codeAny_func ?_⟩
  obtain ⟨h₁, tk, rfl, _⟩ := x.done
  have hk₁ := x.toInCall.keep
  obtain ⟨cells, NC, Y⟩ := Cl.news (h₀ := s.heap) (Nat.le_refl _) fun n c hm => ⟨x.cell n c (lookup_of_mem_nodup (cellsFrom_names scope.names 0 (s.heap.objs.size + 1) [] [] rfl ▸ hnd) hm), x.above n c hm⟩
  refine wpAny_mono (h _ s.heap.objs.size h₁ tk cells FG ⟨x.toInCall.ns, fun b o e => hk₁ b o (of_hideAll _ e), Nat.le_of_eq (hideAll_size _ _)⟩ (fun p hp => ⟨(NC p hp).1, (NC p hp).2.1, ?_⟩) Y BG (X₀.keeps st) (T.keeps st))
    (fun fl s' hl => lv _ _ (leave_kept (fun b o e => hideAll_get _ e (fun q => nomatch q)) hl)) fun _ _ y => y
  cases q : (hideAll s.heap (([] : List (Addr × Obj)).map (·.1))).get? p.1 with
  | none => rfl
  | some o => have := of_hideAll _ q; rw [(NC p hp).2.2] at this; cases this
end
theorem tok_in {α : Type} {M : Model} {A : Around} {s : Shared} {t : Sem α} {Q : α → Shared → Prop} {E : Value → Shared → Prop} (h1 : 1 ≤ s.toks)
    (h : wpAny M A t (fun a s' => 1 ≤ s'.toks → Q a s') (fun e s' => 1 ≤ s'.toks → E e s') s) : wpAny M A t Q E s :=
  wpAny_mono (wpAny_toks_of h1 h) (fun _ _ q => q.2 q.1) (fun _ _ q => q.2 q.1)
theorem fr_kstE {h₀ h : Heap} {L : Addr} {m : Str → Option Value} {ps : List (Str × Value)} (F : Fr h₀ L h m) (hp : ∀ p ∈ ps, m p.1 = some p.2) : ∃ m', Fr h₀ L h (kstB m' ps) := by
  have : kstB m ps = m := funext fun z => kstB_eq hp fun _ => rfl
  exact ⟨m, by rw [this]; exact F⟩
theorem rng1 {n : Nat} (h : n ≤ 12) : Builtin.Range.small 0 (n : Int) 1 = true ∧ Builtin.Range.rangeSize 0 (n : Int) 1 = (n : Int) :=
  ⟨small_one (by decide) (by decide) (by omega) (by omega), by unfold Builtin.Range.rangeSize; rw [if_pos (by decide)]; split <;> omega⟩
end Mine
end
section
open PySem PySem.W PyProof.Rows PySem.Calls PySem.Spec
set_option Elab.async false
set_option maxRecDepth 100000
set_option maxHeartbeats 4000000
namespace Mine
noncomputable def IterOf (prog : Program) (w : World) (A : Around) (xv : Value) (s₁ : Shared) (n : Nat) (P : Nat → Value → Prop) : Prop :=
  ∀ (Q : Value → Shared → Prop) (E : Value → Shared → Prop),
    (∀ (h₂ : Heap) fp St, Kept s₁.heap h₂ → s₁.heap.objs.size ≤ h₂.objs.size → Walks prog w A s₁.heap.objs.size fp [s₁.heap.objs.size] n P St → St 0 h₂ → (∀ b ∈ fp, b < h₂.objs.size) → Q (.ref s₁.heap.objs.size) { s₁ with heap := h₂ }) →
    wpAny (model prog w) A (pyIter xv) Q E s₁
section
variable {prog : Program} {w : World} {A : Around} {E : Value → Shared → Prop} {s : Shared} {h₀ : Heap} {L : Addr} {m : Str → Option Value} {env : Env}
theorem iter_str {x : Str} {t : Tok} (hh : A.handled = none) : IterOf prog w A (.str x t) s x.cps.size (SignAt x) := by
  intro Q E h
  refine wpAny_pyIter_str fun o St W st => h _ _ St (fun b o e => Heap.get?_push_of_some _ e) (by rw [Heap.size_push]; exact Nat.le_succ _) (W A hh) st (fun b hb => ?_)
  rw [List.mem_singleton.mp hb, Heap.size_push]; exact Nat.lt_succ_self _
theorem iter_list {ax : Addr} {its : Array Value} (hh : A.handled = none) (hl : s.heap.IsList ax its) : IterOf prog w A (.ref ax) s its.size (fun i v => its[i]? = some v) := by
  intro Q E h
  have hlt : ax < s.heap.objs.size := by obtain ⟨_, e, _⟩ := hl; exact Heap.lt_size e
  refine wpAny_pyIter_list hl ?_
  refine h _ _ _ (fun b o e => Heap.get?_push_of_some _ e) (by rw [Heap.size_push]; exact Nat.le_succ _) (Walks.list hh s.heap.objs.size ax (Nat.ne_of_lt hlt) its) ⟨⟨_, Heap.get?_push_size _ rfl, rfl, rfl⟩, hl.push _⟩ (fun b hb => ?_)
  show b < (s.heap.push _).objs.size
  rw [Heap.size_push]
  rcases List.mem_cons.mp hb with rfl | hb
  · exact Nat.lt_succ_self _
  · rw [List.mem_singleton.mp hb]; exact Nat.lt_succ_of_lt hlt
theorem iter_range {r : Addr} {a b c : Int} {t u v : Tok} {n : Nat} (hh : A.handled = none) (hr : IsRange s.heap r a b c t u v) (hsm : Builtin.Range.small a b c = true) (hn : Builtin.Range.rangeSize a b c = (n : Int)) :
    IterOf prog w A (.ref r) s n (fun i v => ∃ t, v = .int (a + i * c) t) := by
  intro Q E h
  refine wpAny_pyIter_range hr hsm ?_
  refine h _ _ _ (fun b o e => Heap.get?_push_of_some _ e) (by rw [Heap.size_push]; exact Nat.le_succ _) (Walks.range hh s.heap.objs.size a c n) (by show IsRangeIter _ _ _ _ _; rw [hn]; simpa using Heap.get?_push_size _ rfl) (fun b hb => ?_)
  rw [List.mem_singleton.mp hb]
  show _ < (s.heap.push _).objs.size
  rw [Heap.size_push]; exact Nat.lt_succ_self _
open LCg (NsObj ns_obj)
noncomputable def EltAt (h₀ : Heap) (L : Addr) (m : Str → Option Value) (x : Str) (news : List (Addr × Obj)) (s₁ : Shared) (v : Value) (T : Addr → Shared → Prop) : Prop :=
  ∀ C oC m₃ (s₃ : Shared), NsObj oC m₃ → m₃ x = some v → s₁.toks ≤ s₃.toks → Fr h₀ L s₃.heap m → News h₀ L s₃.heap ((C, oC) :: news) → T C s₃
inductive CGo (prog : Program) (w : World) (A : Around) (p : Value → Bool) (G : Value → Value → Prop) (h₀ : Heap) (L : Addr) (m : Str → Option Value) (env : Env) (elt : Expr) (ifs : List Expr) (x : Str) (scope : Scope) (cl : List (Str × Addr)) (Q : Value → Shared → Prop) (xv : Value) (s₁ : Shared) : Prop
  | mk (news : List (Addr × Obj)) (n : Nat) (P : Nat → Value → Prop) 
    (h0 : Fr h₀ L s₁.heap m) 
    (h1 : News h₀ L s₁.heap news) 
    (h2 : n ≤ sizeLine) 
    (h3 : IterOf prog w A xv s₁ n P) 
    (h4 : ∀ i v, P i v → EltAt h₀ L m x news s₁ v fun C s₃ => ∀ E', wpAny (model prog w) A (forIn ifs true fun c r => if r = true then do let ok ← isTrue c (compEnvC scope cl C env) (eval c (compEnvC scope cl C env)); pure (ForInStep.yield ok) else pure (ForInStep.yield r))
      (fun ok s₄ => ok = p v ∧ Keeps s₃ s₄) E' s₃) 
    (h5 : ∀ i v, P i v → p v = true → EltAt h₀ L m x news s₁ v fun C s₃ => ∀ E', wpAny (model prog w) A (eval elt (compEnvC scope cl C env)) (fun y s₄ => G v y ∧ Keeps s₃ s₄) E' s₃) 
    (h6 : ∀ D h tk (ys : Array Value) (vs : List Value) k, Fr h₀ L h m → News h₀ L h ((D, seqObj "list" ys k) :: news) → (∀ q ∈ news, @Ne Nat q.1 D) → vs.length = n → (∀ (j : Nat) v, vs[j]? = some v → P j v) → Paired G (vs.filter p) ys.toList → Q (.ref D) { s₁ with heap := h, toks := tk }) : CGo prog w A p G h₀ L m env elt ifs x scope cl Q xv s₁
theorem CGo.use {elt iter : Expr} {x : Str} {px : Pos} {ifs : List Expr} {scope : Scope} {cl : List (Str × Addr)} {pos : Pos} {Q : Value → Shared → Prop} (p : Value → Bool) (G : Value → Value → Prop) (_F₀ : Fr h₀ L s.heap m)
    (hclos : closureFor scope env = pure cl) (hcell : ∀ y ∈ scope.names, y.2 ≠ .cell) (hkind : scope.kind = .function)
    (hnames : ∀ y ∈ scope.names, y.2 = .local → scope.names.lookup y.1 = some .local) (hx : scope.names.lookup x = some .local)
    (h : wpAny (model prog w) A (eval iter env) (CGo prog w A p G h₀ L m env elt ifs x scope cl Q) E s)
    (hs : ∀ x, foldedSetIterable iter env x = pure x := by intro _; rfl) :
    wpAny (model prog w) A (eval (.ListComp elt [⟨.Name x px, iter, ifs, 0⟩] scope pos) env) Q E s := by
  refine wpAny_ListComp_free p G hclos hcell hkind hnames hx (wpAny_mono h (fun xv s₁ hg => ?_) fun _ _ e => e) hs
  obtain ⟨news, n, P, F, N, hsz, it, tests, elts, fin⟩ := hg
  refine it _ _ fun h₂ fp St kp hsl W st hfp => ?_
  have hL : L < s₁.heap.objs.size := F.ns.lt
  have hI0 : h₀.get? s₁.heap.objs.size = none := Heap.get?_none_of_le (Nat.le_of_lt (Nat.lt_of_le_of_lt F.above hL))
  -- what each turn finds
  have turn : ∀ C (s₃ : Shared) m₃, h₂.objs.size ≤ C → s₃.heap.Ns C m₃ → (∀ b o, b ∉ [s₁.heap.objs.size] → h₂.get? b = some o → s₃.heap.get? b = some o) →
      ∃ oC, NsObj oC m₃ ∧ Fr h₀ L s₃.heap m ∧ News h₀ L s₃.heap ((C, oC) :: news) := by
    intro C s₃ m₃ hC hn hk
    obtain ⟨oC, hoC, nC⟩ := ns_obj hn
    have kk : Kept s₁.heap s₃.heap := fun b o e => hk b o (fun q => by rw [List.mem_singleton.mp q] at e; exact absurd (Heap.lt_size e) (Nat.lt_irrefl _)) (kp b o e)
    have hC2 : s₁.heap.objs.size ≤ C := Nat.le_trans hsl hC
    refine ⟨oC, nC, ⟨F.ns.at' fun o e => kk _ _ e, fun b o e => kk _ _ (F.keep b o e), F.above⟩, fun q hq => ?_⟩
    rcases List.mem_cons.mp hq with rfl | hq
    · exact ⟨hoC, Nat.ne_of_gt (Nat.lt_of_lt_of_le hL hC2), Heap.get?_none_of_le (Nat.le_trans (Nat.le_of_lt (Nat.lt_of_le_of_lt F.above hL)) hC2)⟩
    · exact ⟨kk _ _ (N q hq).1, (N q hq).2⟩
  refine ⟨s₁.heap.objs.size, fp, [s₁.heap.objs.size], n, P, St, rfl, W, hsz, st, hfp, ⟨?_, ?_⟩, ?_⟩
  · intro C i v s₃ m₃ E' hC hP hn hm hk ht
    obtain ⟨oC, nC, F3, N3⟩ := turn C s₃ m₃ hC hn hk
    exact tests i v hP C oC m₃ s₃ nC hm ht F3 N3 E'
  · intro C i v s₃ m₃ E' hC hP hp hn hm hk ht
    obtain ⟨oC, nC, F3, N3⟩ := turn C s₃ m₃ hC hn hk
    exact elts i v hP hp C oC m₃ s₃ nC hm ht F3 N3 E'
  · intro D h' tk ys vs hD hl hpl hlen hP hPair hk
    obtain ⟨k, hDo⟩ := hpl
    have kk : Kept s₁.heap h' := fun b o e => hk b o (fun q => by rw [List.mem_singleton.mp q] at e; exact absurd (Heap.lt_size e) (Nat.lt_irrefl _)) (kp b o e)
    have nD : ∀ o, s₁.heap.get? D ≠ some o := fun o e => by have := kp D o e; rw [show h₂.get? D = none from hD] at this; cases this
    refine fin D h' tk ys vs k ⟨F.ns.at' fun o e => kk _ _ e, fun b o e => kk _ _ (F.keep b o e), F.above⟩ (fun q hq => ?_) (fun q hq => ?_) hlen hP hPair
    · rcases List.mem_cons.mp hq with rfl | hq
      · refine ⟨hDo, fun e => ?_, ?_⟩
        · obtain ⟨o, _, _, ho, _⟩ := F.ns
          exact nD o (by rw [show D = L from e]; exact ho)
        · show h₀.get? D = none
          cases e : h₀.get? D with
          | none => rfl
          | some o => exact absurd (F.keep D o e) (nD o)
      · exact ⟨kk _ _ (N q hq).1, (N q hq).2⟩
    · exact fun e => nD _ (by rw [← e]; exact (N q hq).1)
end
end Mine
end
section
open PySem PySem.W PyProof.Rows PySem.Calls PySem.Spec
set_option Elab.async false
set_option maxRecDepth 100000
set_option maxHeartbeats 4000000
namespace Mine
noncomputable def Li (o : Obj) (l : Addr) (i : Nat) : Prop := o.cls = .type "list_iterator" ∧ o.data = .fields #[.ref l, .int i 0]
theorem Li.at {h : Heap} {I l : Addr} {o : Obj} {i : Nat} (x : Li o l i) (e : h.get? I = some o) : h.IsListIter I l i := ⟨o, e, x.1, x.2⟩
section
variable {prog : Program} {w : World} {A : Around} {E : Value → Shared → Prop} {s : Shared} {h₀ : Heap} {L I l : Addr} {m : Str → Option Value} {news : List (Addr × Obj)} {oI : Obj} {its : Array Value} {i : Nat}
theorem iter_li {Q : Value → Shared → Prop} (F : Fr h₀ L s.heap m) (N : News h₀ L s.heap news) (hl : s.heap.IsList l its)
    (h : ∀ (I : Addr) h' oI, Fr h₀ L h' m → News h₀ L h' ((I, oI) :: news) → (∀ p ∈ news, p.1 < I) → Li oI l 0 → Q (.ref I) { s with heap := h' }) :
    wpAny (model prog w) A (call (.builtin "iter") [.ref l]) Q E s := by
  refine call_function_entry (by decide +kernel) (by decide +kernel) kdk_entry_iter (kdk_args_iter _) ?_
  unfold Builtin.«iter»
  refine wpAny_bind (m := someArgs "iter" 1 2 _) (wpAny_of_eq (a := [Value.ref l]) (by first | rfl | kernel_rfl!) ?_)
  show wpAny _ _ (pyIter (.ref l) >>= _) _ _ _
  refine wpAny_bind (wpAny_pyIter_list hl ?_)
  exact wpAny_pure ⟨_, rfl, h _ _ _ (F.push _) (News.push F N _ rfl) (fun q hq => Heap.lt_size (N q hq).1) ⟨rfl, rfl⟩⟩
theorem next_li {Q : Value → Shared → Prop} {v : Value} (F : Fr h₀ L s.heap m) (N : News h₀ L s.heap ((I, oI) :: news)) (hi : Li oI l i) (hl : s.heap.IsList l its) (hlI : l ≠ I) (hne : ∀ p ∈ news, p.1 ≠ I) (hx : its[i]? = some v)
    (h : ∀ h' oI', Fr h₀ L h' m → News h₀ L h' ((I, oI') :: news) → Li oI' l (i + 1) → h'.IsList l its → Q v { s with heap := h' }) :
    wpAny (model prog w) A (call (.builtin "next") [.ref I]) Q E s := by
  have hm := N (I, oI) (.head _)
  have hit := hi.at hm.1
  refine call_function_entry (by decide +kernel) (by decide +kernel) kdk_entry_next (kdk_args_next _) ?_
  unfold Builtin.«next»
  refine wpAny_bind (m := someArgs "next" 1 2 _) (wpAny_of_eq (a := [Value.ref I]) (by first | rfl | kernel_rfl!) ?_)
  dsimp only
  refine wpAny_bind (wpAny_specialOf (name := Str.ofString "__next__") hit.typeIs slot_listiter_next.lookup ?_)
  refine wpAny_ite_split (fun hab => absurd hab (by decide)) (fun _ => ?_)
  refine wpAny_bind (wpAny_callSpecial?_slot (name := Str.ofString "__next__") hit.typeIs slot_listiter_next
    (wpAny_call_entry slot_listiter_next hit.typeIs entry_listiter_next ?_ (args_listiter_next _)))
  obtain ⟨o, ho, hc, hd⟩ := id hit
  obtain ⟨ol, hol, _, nl, hdl⟩ := id hl
  show wpAny _ _ (field (.ref I) 0 >>= _) _ _ s
  refine wpAny_bind (wpAny_field ho hd (x := .ref l) rfl ?_)
  show wpAny _ _ (if (Value.ref l == Value.none) = true then _ else _) _ _ s
  rw [if_neg (show ¬ ((Value.ref l == Value.none) = true) from Bool.false_ne_true)]
  show wpAny _ _ (field (.ref I) 1 >>= _) _ _ s
  refine wpAny_bind (wpAny_field ho hd (x := .int i 0) rfl ?_)
  show wpAny _ _ (seqItems? (.ref l) >>= _) _ _ s
  refine wpAny_bind (wpAny_seqItems hol hdl ?_)
  simp only [Int.toNat_natCast, hx]
  have hs := Heap.SameBut.update s.heap I (Obj.mapFields (·.setIfInBounds 1 (rawInt ((i : Int) + 1))))
  have ho' := Heap.get?_update_self (Obj.mapFields (·.setIfInBounds 1 (rawInt ((i : Int) + 1)))) ho (Obj.isFreed_of_fields (Obj.data_mapFields hd _))
  have hLi : Li (Obj.mapFields (·.setIfInBounds 1 (rawInt ((i : Int) + 1))) o) l (i + 1) := ⟨(Obj.cls_mapFields ..).trans hc, by rw [Obj.data_mapFields hd]; simp [rawInt]⟩
  refine wpAny_bind (wpAny_setField ho hd (by simp) (wpAny_pure ⟨v, rfl, wpAny_pure ⟨_, rfl, h _ _ (F.change hs hm.2.1 hm.2.2) (fun p hp => ?_) hLi (hl.extBut hs.extBut hlI)⟩⟩))
  rcases List.mem_cons.mp hp with rfl | hp
  · exact ⟨ho', hm.2⟩
  · exact ⟨(hs.2 _ (hne p hp)).trans (N p (.tail _ hp)).1, (N p (.tail _ hp)).2⟩
end
end Mine
end
section
open PySem PySem.W PyProof.Rows PySem.Calls PySem.Spec
set_option Elab.async false
set_option maxRecDepth 100000
set_option maxHeartbeats 4000000
namespace Mine
section
variable {prog : Program} {w : World} {A : Around} {E : Value → Shared → Prop} {s : Shared} {h₀ : Heap} {env : Env} {Q : Flow → Shared → Prop}
inductive FeEnd (h₀ : Heap) (L : Addr) (I : Addr) (oI : Obj) (J : (Str → Option Value) → List (Addr × Obj) → Prop) (s : Shared) (s₂ : Shared) : Prop
  | mk (h' : Heap) (tk : Nat) (m' : Str → Option Value) (news' : List (Addr × Obj)) (e : s₂ = { s with heap := h', toks := tk }) (F : Fr h₀ L h' m') (N : News h₀ L h' ((I, oI) :: news')) (hn : ∀ p ∈ news', p.1 ≠ I) (hJ : J m' news') : FeEnd h₀ L I oI J s s₂
noncomputable def FePost (h₀ : Heap) (L : Addr) (I : Addr) (oI : Obj) (J : (Str → Option Value) → List (Addr × Obj) → Prop) (Q : Flow → Shared → Prop) (s : Shared) (f : Flow) (s₂ : Shared) : Prop :=
  match f with
  | .ret v => Q (.ret v) s₂
  | .brk => Q .next s₂
  | _ => FeEnd h₀ L I oI J s s₂
inductive FeGo (prog : Program) (w : World) (A : Around) (h₀ : Heap) (env : Env) (x : Str) (body orelse : List Stmt) (Q : Flow → Shared → Prop) (E : Value → Shared → Prop) (xv : Value) (s₁ : Shared) : Prop
  | mk (r : Addr) (a b : Int) (t u v : Tok) (n : Nat) (m : Str → Option Value) (news : List (Addr × Obj)) (J : Nat → (Str → Option Value) → List (Addr × Obj) → Prop) 
    (h0 : xv = .ref r) 
    (h1 : IsRange s₁.heap r a b 1 t u v) 
    (h2 : Builtin.Range.small a b 1 = true) 
    (h3 : Builtin.Range.rangeSize a b 1 = (n : Int)) 
    (h4 : Fr h₀ env.locals s₁.heap m) 
    (h5 : News h₀ env.locals s₁.heap news) 
    (h6 : J 0 m news) 
    (h7 : ∀ (i : Nat) (t : Tok) m₁ news₁ h tk I oI, i < n → J i m₁ news₁ → (∀ p ∈ news₁, p.1 ≠ I) → Fr h₀ env.locals h (fun y => if y = x then some (.int (a + i) t) else m₁ y) → News h₀ env.locals h ((I, oI) :: news₁) →
      wpAny (model prog w) A (execs body env) (FePost h₀ env.locals I oI (J (i + 1)) Q s₁) E { s₁ with heap := h, toks := tk }) 
    (h8 : ∀ m' news' h' tk, Fr h₀ env.locals h' m' → News h₀ env.locals h' news' → J n m' news' → wpAny (model prog w) A (execs orelse env) Q E { s₁ with heap := h', toks := tk }) : FeGo prog w A h₀ env x body orelse Q E xv s₁
inductive FeInv (h₀ : Heap) (L : Addr) (s₁ : Shared) (a : Int) (n : Nat) (J : Nat → (Str → Option Value) → List (Addr × Obj) → Prop) (k : Nat) (s' : Shared) : Prop
  | mk (h' : Heap) (tk : Nat) (m' : Str → Option Value) (news' : List (Addr × Obj)) (i : Nat) (e : s' = { s₁ with heap := h', toks := tk }) (hst : IsRangeIter h' s₁.heap.objs.size (a + (i : Nat) * 1) ((n : Int) - (i : Nat)) 1) (F : Fr h₀ L h' m') (N : News h₀ L h' news') (hn : ∀ p ∈ news', p.1 ≠ s₁.heap.objs.size) (hJ : J i m' news') (hi : i ≤ n) (hk : k = n + 1 - i) : FeInv h₀ L s₁ a n J k s'
theorem for_else {x : Str} {px pos : Pos} {iter : Expr} {body orelse : List Stmt} (hx : env.kindOf x = some .local)
    (hp : (env.scope.kind == .class || (env.scope.kind == .module && env.locals != env.globals)) = false) (hh : A.handled = none)
    (h : wpAny (model prog w) A (eval iter env) (FeGo prog w A h₀ env x body orelse Q E) E s)
    (hs : ∀ x, foldedSetIterable iter env x = pure x := by intro _; rfl)
    (hE : PassesOwn (model prog w) A env E := by passes_own) :
    wpAny (model prog w) A (exec (.For (.Name x px) iter body orelse pos) env) Q E s := by
  refine wpAny_For (wpAny_mono h (fun xv s₁ h₁ => ?_) fun _ _ e => e) hs
  obtain ⟨r, a, b, t, u, v, n, m, news, J, rfl, hr, hsmall, hn, F, N, h0, turn, fin⟩ := h₁
  refine wpAny_pyIter_range hr hsmall ?_
  have W := Walks.range (prog := prog) (w := w) (A := A) hh s₁.heap.objs.size a 1 n
  have hL : env.locals < s₁.heap.objs.size := F.ns.lt
  have hI0 : h₀.get? s₁.heap.objs.size = none := Heap.get?_none_of_le (Nat.le_of_lt (Nat.lt_of_le_of_lt F.above hL))
  have hLI : env.locals ≠ s₁.heap.objs.size := Nat.ne_of_lt hL
  refine codeAny_forLoop (FeInv h₀ env.locals s₁ a n J) ?_ (n + 1)
    ⟨_, s₁.toks, m, news, 0, rfl, (by show IsRangeIter _ _ _ _ _; rw [hn]; simpa using Heap.get?_push_size _ rfl), F.push _, fun p hp => ⟨Heap.get?_push_of_some _ (N p hp).1, (N p hp).2⟩, fun p hp => Nat.ne_of_lt (Heap.lt_size (N p hp).1), h0, Nat.zero_le _, rfl⟩
  rintro k s' ⟨h', tk, m', news', i, rfl, hst', F', N', hnI, hJ, hi, rfl⟩
  have next : ∀ h₁ : Heap, (∀ b o, b ∉ [s₁.heap.objs.size] → h'.get? b = some o → h₁.get? b = some o) → Fr h₀ env.locals h₁ m' ∧ News h₀ env.locals h₁ news' := fun h₁ hk₁ =>
    ⟨⟨F'.ns.at' fun o e => hk₁ _ o (fun q => hLI (List.mem_singleton.mp q)) e, fun b o e => hk₁ b o (fun q => by rw [List.mem_singleton.mp q, hI0] at e; cases e) (F'.keep b o e), F'.above⟩,
      fun p hp => ⟨hk₁ _ _ (fun q => hnI p hp (List.mem_singleton.mp q)) (N' p hp).1, (N' p hp).2⟩⟩
  by_cases hlt : i < n
  · refine W.item i _ _ _ hlt hst' fun v h₁ tk₁ hP hst₁ hk₁ => ?_
    obtain ⟨F₁, N₁⟩ := next h₁ hk₁
    refine wpAny_assign_Name (wpAny_storeName_local hx F₁.ns (fun h₂ hn₂ hs₂ => ?_) hp)
    have F₂ := F₁.set hn₂ hs₂
    have N₂ := N₁.set hs₂
    have hst₂ := W.frame _ _ h₂ hst₁ fun b hb o e => (hs₂.2 b fun q => hLI (q ▸ List.mem_singleton.mp hb)).trans e
    have hst₃ : IsRangeIter h₂ s₁.heap.objs.size (a + ((i + 1 : Nat) : Int) * 1) ((n : Int) - ((i + 1 : Nat) : Int)) 1 := hst₂
    obtain ⟨oI, hoI⟩ : ∃ oI, h₂.get? s₁.heap.objs.size = some oI := ⟨_, hst₃⟩
    obtain ⟨tv, rfl⟩ := hP
    have e1 : a + (i : Int) * 1 = a + (i : Int) := by omega
    rw [e1] at F₂
    refine wpAny_mono (wpAny_passesOwn hE (turn i tv m' news' h₂ _ s₁.heap.objs.size oI hlt hJ hnI F₂ (fun p hp => ?_))) (fun f s₃ h₃ => ?_) fun _ _ e => e
    · rcases List.mem_cons.mp hp with rfl | hp
      · exact ⟨hoI, fun q => hLI q.symm, hI0⟩
      · exact N₂ p hp
    · have stay : ∀ h₃ : Heap, h₃.get? s₁.heap.objs.size = some oI → IsRangeIter h₃ s₁.heap.objs.size (a + ((i + 1 : Nat) : Int) * 1) ((n : Int) - ((i + 1 : Nat) : Int)) 1 := fun h₃ e3 =>
        W.frame (i + 1) h₂ h₃ hst₂ fun b hb o e => by
          rw [List.mem_singleton.mp hb] at e ⊢
          rw [hoI] at e; cases e; exact e3
      cases f with
      | ret v => exact h₃
      | brk => exact h₃
      | next =>
        obtain ⟨h3, tk3, m3, news3, rfl, F3, N3, hne3, hJ3⟩ := h₃
        exact ⟨n + 1 - (i + 1), by omega, h3, tk3, m3, news3, i + 1, rfl, stay h3 (N3 _ (.head _)).1, F3, fun p hp => N3 p (.tail _ hp), hne3, hJ3, hlt, rfl⟩
      | cont =>
        obtain ⟨h3, tk3, m3, news3, rfl, F3, N3, hne3, hJ3⟩ := h₃
        exact ⟨n + 1 - (i + 1), by omega, h3, tk3, m3, news3, i + 1, rfl, stay h3 (N3 _ (.head _)).1, F3, fun p hp => N3 p (.tail _ hp), hne3, hJ3, hlt, rfl⟩
  · have hin : i = n := by omega
    subst hin
    refine W.done _ _ _ hst' fun h₁ tk₁ hk₁ => ?_
    obtain ⟨F₁, N₁⟩ := next h₁ hk₁
    exact wpAny_passesOwn hE (fin m' news' h₁ tk₁ F₁ N₁ hJ)
end
end Mine
end
section
open PySem PySem.W PyProof.Rows PySem.Calls PySem.Spec
set_option Elab.async false
set_option maxRecDepth 100000
set_option maxHeartbeats 4000000
namespace Mine
noncomputable def flName : Nat → Str
  | 0 => Str.ofString "OPTIMIZED" | 1 => Str.ofString "NEWLOCALS" | 2 => Str.ofString "VARARGS" | 3 => Str.ofString "VARKEYWORDS" | 4 => Str.ofString "NESTED"
  | 5 => Str.ofString "GENERATOR" | 6 => Str.ofString "NOFREE" | 7 => Str.ofString "COROUTINE" | 8 => Str.ofString "ITERABLE_COROUTINE" | _ => Str.ofString "ASYNC_GENERATOR"
noncomputable def flF (n : Int) (i : Nat) : Int := n - n % 2 ^ i
noncomputable def flN (n : Int) (i : Nat) : List Str := ((List.range i).filter fun k => n / 2 ^ k % 2 == 1).map flName
noncomputable def flagS (n : Int) : Str := if n = 0 then Str.ofString "0x0" else Txt.join (Str.ofString ", ") (flN n 10)
theorem fl_tab : ∀ n : Fin 1024, ∀ i : Fin 10,
    (Builtin.bitAnd (flF (n.val : Int) i) (1 * 2 ^ (0 + ((i : Nat) : Int)).toNat) ≠ 0 → (n.val : Int) ≠ 0 ∧ (n.val : Int) / 2 ^ (i : Nat) % 2 = 1 ∧ Builtin.bitXor (flF n i) (1 * 2 ^ (0 + ((i : Nat) : Int)).toNat) = flF n (i + 1)) ∧
    (Builtin.bitAnd (flF (n.val : Int) i) (1 * 2 ^ (0 + ((i : Nat) : Int)).toNat) = 0 → (n.val : Int) / 2 ^ (i : Nat) % 2 = 0 ∧ flF n i = flF n (i + 1)) := by decide +kernel
theorem fl_rest {n : Int} (h0 : 0 ≤ n) {i : Nat} (hi : i < 10) (h : flF n (i + 1) = 0) : ((List.range 10).filter fun k => n / 2 ^ k % 2 == 1) = (List.range (i + 1)).filter fun k => n / 2 ^ k % 2 == 1 := by
  have hp : ∀ k : Nat, (0 : Int) < 2 ^ k := fun k => Int.pow_pos (by decide)
  have hn : n < 2 ^ (i + 1) := by
    have h1 := Int.emod_lt_of_pos n (hp (i + 1))
    unfold flF at h; omega
  have key : ∀ d, ((List.range (i + 1 + d)).filter fun k => n / 2 ^ k % 2 == 1) = (List.range (i + 1)).filter fun k => n / 2 ^ k % 2 == 1 := by
    intro d
    induction d with
    | zero => rfl
    | succ d ih =>
      have h2 : (2 : Int) ^ (i + 1) ≤ 2 ^ (i + 1 + d) := by exact_mod_cast Nat.pow_le_pow_right (by decide) (Nat.le_add_right _ d)
      rw [← Nat.add_assoc, List.range_succ, List.filter_append, ih, List.filter_cons, Int.ediv_eq_zero_of_lt h0 (Int.lt_of_lt_of_le hn h2)]
      simp
  have := key (10 - (i + 1))
  rwa [Nat.add_sub_cancel' hi] at this
theorem fl_fin {n : Int} (h0 : 0 ≤ n) (h1 : n < 1024) : ∃ k : Fin 1024, n = (k.val : Int) := ⟨⟨n.toNat, by omega⟩, by show n = (n.toNat : Int); omega⟩
theorem flN_succ (n : Int) (i : Nat) : flN n (i + 1) = flN n i ++ (if n / 2 ^ i % 2 = 1 then [flName i] else []) := by
  unfold flN
  rw [List.range_succ, List.filter_append, List.map_append]
  by_cases h : n / 2 ^ i % 2 = 1
  · rw [if_pos h]; simp [h]
  · rw [if_neg h]; simp [h]
theorem fl_yes {n : Int} (h0 : 0 ≤ n) (h1 : n < 1024) (i : Nat) (hi : i < 10) (h : Builtin.bitAnd (flF n i) (1 * 2 ^ (0 + (i : Int)).toNat) ≠ 0) :
    n ≠ 0 ∧ flN n (i + 1) = flN n i ++ [flName i] ∧ Builtin.bitXor (flF n i) (1 * 2 ^ (0 + (i : Int)).toNat) = flF n (i + 1) := by
  obtain ⟨k, rfl⟩ := fl_fin h0 h1
  have := ((fl_tab k ⟨i, hi⟩).1 h)
  exact ⟨this.1, by rw [flN_succ, if_pos this.2.1], this.2.2⟩
theorem fl_no {n : Int} (h0 : 0 ≤ n) (h1 : n < 1024) (i : Nat) (hi : i < 10) (h : Builtin.bitAnd (flF n i) (1 * 2 ^ (0 + (i : Int)).toNat) = 0) :
    flN n (i + 1) = flN n i ∧ flF n i = flF n (i + 1) := by
  obtain ⟨k, rfl⟩ := fl_fin h0 h1
  have := ((fl_tab k ⟨i, hi⟩).2 h)
  exact ⟨by rw [flN_succ, if_neg (by rw [this.1]; decide), List.append_nil], this.2⟩
theorem fl_brk {n : Int} (h0 : 0 ≤ n) (h1 : n < 1024) (i : Nat) (hi : i < 10) (h : Builtin.bitAnd (flF n i) (1 * 2 ^ (0 + (i : Int)).toNat) ≠ 0) (h2 : flF n (i + 1) = 0) :
    Txt.join (Str.ofString ", ") (flN n i ++ [flName i]) = flagS n := by
  have y := fl_yes h0 h1 i hi h
  rw [← y.2.1, flagS, if_neg y.1]
  unfold flN; rw [fl_rest h0 hi h2]
theorem fl_past {n : Int} (h0 : 0 ≤ n) (h1 : n < 1024) (i : Nat) (hi : 10 ≤ i) : flF n i = 0 ∧ flN n i = flN n 10 := by
  have hp : ∀ k : Nat, 10 ≤ k → n < 2 ^ k := fun k hk => by
    have : (2 : Int) ^ 10 ≤ 2 ^ k := by exact_mod_cast Nat.pow_le_pow_right (by decide) hk
    omega
  refine ⟨by unfold flF; rw [Int.emod_eq_of_lt h0 (hp i hi)]; omega, ?_⟩
  obtain ⟨j, rfl⟩ := Nat.exists_eq_add_of_le hi
  induction j with
  | zero => rfl
  | succ j ih =>
    rw [show 10 + (j + 1) = (10 + j) + 1 by omega, flN_succ, if_neg ?_, List.append_nil, ih (by omega)]
    rw [Int.ediv_eq_zero_of_lt h0 (hp _ (by omega))]; decide
theorem flN_len (n : Int) (i : Nat) : (flN n i).length ≤ i := by
  unfold flN; rw [List.length_map]; exact Nat.le_trans (List.length_filter_le _ _) (by simp)
theorem flN_each (n : Int) (i : Nat) : ∀ y ∈ flN n i, y.length ≤ 18 := by
  intro y hy
  unfold flN at hy
  obtain ⟨k, _, rfl⟩ := List.mem_map.mp hy
  unfold flName; split <;> decide
theorem strs_len : ∀ {ys : List Value} {l : List Str}, StrsAre ys l → ys.length = l.length
  | _, _, .nil => rfl
  | _, _, .cons _ _ r => by rw [List.length_cons, List.length_cons, strs_len r]
noncomputable def flPs (D : Addr) (n : Int) (i : Nat) (tf : Tok) : List (Str × Value) := [(Str.ofString "flags", .int (flF n i) tf), (Str.ofString "names", .ref D)]
noncomputable def FlJ (D : Addr) (n : Int) (m₀ : Str → Option Value) (i : Nat) (m : Str → Option Value) (news : List (Addr × Obj)) : Prop :=
  ∃ (ys : List Value) (c : Nat) (tf : Tok), news = [(D, listOf ys.toArray c)] ∧ (n = 0 ∨ flF n i ≠ 0) ∧ StrsAre ys (flN n i) ∧ (∀ p ∈ flPs D n i tf, m p.1 = some p.2) ∧ (∀ z, z ≠ Str.ofString "i" → (∀ p ∈ flPs D n i tf, z ≠ p.1) → [Str.ofString "flag"].contains z = false → m z = m₀ z)
theorem flJ_intro {D : Addr} {n : Int} {m₀ : Str → Option Value} {i : Nat} {m : Str → Option Value} {news : List (Addr × Obj)} (ys : List Value) (c : Nat) (tf : Tok) (a1 : news = [(D, listOf ys.toArray c)]) (a2 : n = 0 ∨ flF n i ≠ 0) (a3 : StrsAre ys (flN n i)) (a4 : ∀ p ∈ flPs D n i tf, m p.1 = some p.2) (a5 : ∀ z, z ≠ Str.ofString "i" → (∀ p ∈ flPs D n i tf, z ≠ p.1) → [Str.ofString "flag"].contains z = false → m z = m₀ z) : FlJ D n m₀ i m news := ⟨ys, c, tf, a1, a2, a3, a4, a5⟩
theorem fl_one {D I : Addr} {o : Obj} (h : D ≠ I) : ∀ p ∈ [(D, o)], p.1 ≠ I := by intro p hp; rw [List.mem_singleton.mp hp]; exact h
theorem fl_strs {ys : List Value} {l : List Str} {x : Str} {t : Tok} (h : StrsAre ys l) : StrsAre (ys.toArray.push (.str x t)).toList (l ++ [x]) := by rw [Array.toList_push]; exact StrsAre.append' h (.cons _ _ .nil)
theorem isl_of {h : Heap} {a : Addr} {its : Array Value} {c : Nat} (e : h.get? a = some (listOf its c)) : h.IsList a its := by unfold Heap.IsList; exact ⟨_, e, rfl, _, rfl⟩
theorem bitAnd_zero (x : Int) : Builtin.bitAnd 0 x = 0 := by unfold Builtin.bitAnd; by_cases h : 0 ≤ x <;> simp [h]
theorem flT9 (n : Int) (i : Nat) (hi : i < 10) : ((flN n i ++ [flName i]).map (·.length)).sum + (flN n i ++ [flName i]).length * (Str.ofString ", ").length ≤ 16777216 := by
  have e1 : ∀ l : List Str, (∀ y ∈ l, y.length ≤ 18) → (l.map (·.length)).sum ≤ 18 * l.length := by
    intro l
    induction l with
    | nil => intro _; exact Nat.zero_le _
    | cons a r ih =>
      intro h
      have h1 := h a (.head _)
      have h2 := ih fun y hy => h y (.tail _ hy)
      rw [List.map_cons, List.sum_cons, List.length_cons]; omega
  have e2 : ∀ y ∈ flN n i ++ [flName i], y.length ≤ 18 := by
    intro y hy
    rcases List.mem_append.mp hy with hy | hy
    · exact flN_each n i y hy
    · rw [List.mem_singleton.mp hy]; unfold flName; split <;> decide
  have e3 := e1 _ e2
  have e4 : (flN n i ++ [flName i]).length ≤ 10 := by rw [List.length_append, List.length_singleton]; have := flN_len n i; omega
  have e5 : (Str.ofString ", ").length = 2 := by decide
  rw [e5]; omega
noncomputable def flagD : List (Int × PyData) := (List.range 10).map fun i => (2 ^ i, .str (flName i))
theorem each_str {h : Heap} {k : Int} {P : Value → Prop} {els : Prop} {x : Str} : ∀ {D : List (Int × PyData)}, KTD.datumAt k D = some (.str x) → (∀ t, P (.str x t)) → KTD.Each h k P els (KTD.asDat D)
  | [], e, _ => nomatch e
  | (i, d) :: D, e, g => by
    unfold KTD.datumAt at e
    by_cases hx : k = i
    · rw [if_pos (decide_eq_true hx)] at e
      cases e
      exact KTD.each_hit hx (KTD.opened_str g)
    · rw [if_neg (by simp [hx])] at e
      exact KTD.each_miss hx (each_str e g)
theorem fl_key : ∀ i : Fin 10, (1 * 2 ^ (0 + ((i : Nat) : Int)).toNat : Int) = 2 ^ (i : Nat) ∧ (2 ^ (i : Nat) : Int).natAbs ≤ 512 := by decide
theorem fl_datum : ∀ (l : List Nat) (i : Nat), i ∈ l → KTD.datumAt (2 ^ i : Int) (l.map fun i => ((2 : Int) ^ i, PyData.str (flName i))) = some (.str (flName i))
  | j :: l, i, h => by
    rw [List.map_cons, KTD.datumAt]
    by_cases e : i = j
    · subst e; simp
    · rw [if_neg]
      · exact fl_datum l i ((List.mem_cons.mp h).resolve_left e)
      · intro q
        have q : (2 : Int) ^ i = 2 ^ j := of_decide_eq_true q
        have q' : (2 : Nat) ^ i = 2 ^ j := by exact_mod_cast q
        exact e ((Nat.pow_right_inj (by decide)).mp q')
theorem fl_get {h : Heap} {i : Nat} {P : Value → Prop} {els : Prop} (hi : i < 10) (g : ∀ t, P (.str (flName i) t)) : KTD.Each h (1 * 2 ^ (0 + (i : Int)).toNat) P els (KTD.asDat flagD) := by
  rw [(fl_key ⟨i, hi⟩).1]
  exact each_str (fl_datum _ i (List.mem_range.mpr hi)) g
theorem fl_hex {i : Nat} (hi : i < 10) : (baseText "0x" 16 (1 * 2 ^ (0 + (i : Int)).toNat)).length ≤ sizeLine := by
  have e := (fl_key ⟨i, hi⟩).1
  dsimp only at e
  rw [e, sizeLine_eq]
  have := (baseText_length "0x" 16 (2 ^ i)).2
  have h2 := (fl_key ⟨i, hi⟩).2
  have h3 : (Str.ofString "0x").length = 2 := by decide
  dsimp only at h2
  omega
theorem flags_c (w : World) (mean) (mg mb) (n : Int) (t : Tok) : ClmN 0 1 w mean mg mb 39 (0 ≤ n ∧ n < 1024) [.int n t] (fun t => .str (flagS n) t) := by
  k_with_none
  (try delta Clm); delta ClmN
  k_fill
  intros
  rename_i hret
  refine wpAny_call ?_
  k_dflt (refine' enterZ ?k1 ?k2 ?k3 ?k5 ?kA ?kF ?kK ?k6 ?k7 ?k8 ?k9 ?kB ?_ ?c2 ?c3 ?c4 ?c5; (case kA => exact rfl); (case kF => exact rfl); (case kK => assumption); (case k1 => k_asm); (case k2 => k_asm); (case k3 => k_asm); (case k5 => k_asm); (case k6 => k_is); (case k7 => k_is); (case k8 => ktr_room); (case k9 => exact BindsTo.of_eq rfl); (case c5 => decide); (case kB => exact locs rfl); (case c2 => exact rfl); (case c3 => exact rfl); (case c4 => exact rfl); k_whole; intro g' L' h' FG' F' N' B' X' T'; (try dsimp only); (try k_lift B'); (try k_fold))
  rename (_ ∧ _) => hpre
  obtain ⟨hn0, hn1⟩ := hpre
  (k_with "exec For Name Call cons cons" => (k_dflt (refine for_else (h₀ := g') (by rfl) (by rfl) (by rfl) ?_)))
  k_steps
  rename News _ _ _ [(_, _)] => nD
  rename Fr g' _ _ _ => fD
  refine ⟨_, 0, 32, _, _, _, 32, _, _, FlJ _ n _, rfl, by assumption, by decide, by rfl, fD, nD, ⟨[], 0, t, rfl, ?h0, .nil, ?h1, fun z h h' _ => rfl⟩, ?turn, ?fin⟩
  case h0 =>
    have e0 : flF n 0 = n := by simp [flF, Int.emod_one]
    rw [e0]; omega
  case h1 =>
    have e0 : flF n 0 = n := by simp [flF, Int.emod_one]
    unfold flPs; rw [e0]
    kst_all
  case turn =>
    intro i ti m₁ news₁ h tk I oI hi hJ hnI F N
    obtain ⟨ys, c, tf, rfl, hz0, hS, h1, h2⟩ := hJ
    have F2 := kst_fr h1 h2 F
    clear F h1 h2
    simp only [flPs] at F2
    have hneI := hnI _ (.head _)
    dsimp only at hneI
    have hneI2 := Ne.symm hneI
    have hlen9 : ys.length ≤ 32 := by rw [strs_len hS]; have := flN_len n i; omega
    (k_with "call builtin:list.append" => (k_here; (with_reducible show wpAny _ _ (call (Value.builtin _) [Value.ref _, _]) _ _ _); k_dflt (refine' append_K ?k1 ?k2 ?k3 ?_ ?z; (case k1 => k_asm); (case k2 => k_asm); (case k3 => k_upd); (case z => (simp only [sizeLine_eq, List.size_toArray]; omega)); k_whole); intro h' F' N'; (try k_sweep)))
    (k_with "call builtin:hex" => (refine P.hex_of_int ?_ (fl_hex hi')))
    (k_with "call builtin:dict.get" => ((with_reducible rename KTD.Keyed _ _ _ => kyX); (refine KTD.get2_keyed (D := flagD) kyX (by kt_keeps) (PyProof.V.Flat.str _ _) (fl_get hi' ?_)); intro tK))
    by_cases hi' : i < 10
    · k_steps
      · rename Builtin.bitAnd _ _ ≠ 0 => ha
        have hy := fl_yes hn0 hn1 i hi' ha
        exact ⟨_, _, _, [(_, listOf (ys.toArray.push _) (c + 1))], rfl, by assumption, by assumption, fl_one hneI, flJ_intro (ys ++ [_]) (c + 1) _ (by rw [List.push_toArray]) (.inr (by rw [← hy.2.2]; assumption)) (by rw [hy.2.1]; exact StrsAre.append' hS (.cons _ _ .nil)) (by unfold flPs; rw [← hy.2.2]; kst_all) (by (intro z h1 h2 h3; simp only [flPs, List.forall_mem_cons, List.not_mem_nil, false_implies, implies_true, and_true, ne_eq] at h2; simp only [List.contains_cons, List.contains_nil, Bool.or_false, Bool.or_eq_false_iff, beq_eq_false_iff_ne, ne_eq] at h3; simp [h1, h2, h3, kstB]))⟩
      · rename Builtin.bitXor _ _ = 0 => hx
        rename Builtin.bitAnd _ _ ≠ 0 => ha
        rename News _ _ _ _ => N5
        have hL9 := isl_of (N5 (_, _) (.tail _ (.head _))).1
        dsimp only at hL9
        rw [(fl_yes hn0 hn1 i hi' ha).2.2] at hx
        have hB9 : Txt.join (Str.ofString ", ") (flN n i ++ [flName i]) = flagS n := fl_brk hn0 hn1 i hi' ha hx
        have hT9 := flT9 n i hi'
        dsimp only
        unfold FePost
        (k_with "call builtin:str.join" => (k_dflt (refine join_list hL9 (fl_strs hS) hT9 ?_); intro _ _; rw [hB9]))
        k_steps
        all_goals (first | done | exact hret _ _ _ (by assumption) (by assumption) | exact fun kk => hret _ _ _ (by assumption) kk)
      · rename Builtin.bitAnd _ _ = 0 => ha
        have hno := fl_no hn0 hn1 i hi' ha
        exact ⟨_, _, _, [(_, listOf ys.toArray c)], rfl, by assumption, by assumption, fl_one hneI, flJ_intro ys c _ rfl (by rw [← hno.2]; exact hz0) (by rw [hno.1]; exact hS) (by unfold flPs; rw [← hno.2]; kst_all) (by (intro z h1 h2 h3; simp only [flPs, List.forall_mem_cons, List.not_mem_nil, false_implies, implies_true, and_true, ne_eq] at h2; simp only [List.contains_cons, List.contains_nil, Bool.or_false, Bool.or_eq_false_iff, beq_eq_false_iff_ne, ne_eq] at h3; simp [h1, h2, h3, kstB]))⟩
    · have hi8 : 10 ≤ i := by omega
      have hz := (fl_past hn0 hn1 i hi8).1
      have hn9 : n = 0 := by rcases hz0 with h | h; exact h; exact absurd hz h
      have hz2 : Builtin.bitAnd 0 (1 * 2 ^ (0 + (i : Int)).toNat) = 0 := bitAnd_zero _
      rw [hz] at F2
      k_steps
      all_goals (first | contradiction | skip)
      exact ⟨_, _, _, [(_, listOf ys.toArray c)], rfl, by assumption, by assumption, fl_one hneI, flJ_intro ys c _ rfl (.inl hn9) (by rw [(fl_past hn0 hn1 (i + 1) (by omega)).2, ← (fl_past hn0 hn1 i hi8).2]; exact hS) (by unfold flPs; rw [(fl_past hn0 hn1 (i + 1) (by omega)).1]; kst_all) (by (intro z h1 h2 h3; simp only [flPs, List.forall_mem_cons, List.not_mem_nil, false_implies, implies_true, and_true, ne_eq] at h2; simp only [List.contains_cons, List.contains_nil, Bool.or_false, Bool.or_eq_false_iff, beq_eq_false_iff_ne, ne_eq] at h3; simp [h1, h2, h3, kstB]))⟩
  case fin =>
    intro m' news' h' tk F N hJ
    obtain ⟨ys, c, tf, rfl, hz0, hS, h1, h2⟩ := hJ
    have e0 : flF n 32 = 0 := by simp only [flF]; omega
    have hn9 : n = 0 := by rcases hz0 with h | h; exact h; exact absurd e0 h
    subst hn9
    have hys : ys = [] := by cases hS; rfl
    subst hys
    have F2 := kst_frOut h1 h2 F
    clear F h1 h2
    simp only [flPs, e0] at F2
    k_steps
    have e9 : Txt.join (Str.ofString ", ") [baseText "0x" 16 0] = flagS 0 := by decide +kernel
    all_goals (first | done | (rw [e9]; exact hret _ _ _ (by assumption) (by assumption)) | (rw [e9]; exact fun kk => hret _ _ _ (by assumption) kk))
end Mine
end
section
open PySem PySem.W PyProof.Rows PySem.Calls PySem.Spec
set_option Elab.async false
set_option maxRecDepth 100000
set_option maxHeartbeats 4000000
namespace Mine
noncomputable def Stop (p : Prop) : Prop := p
theorem stop_here {p : Prop} (h : Stop p) : p := h
structure FgSt where
  x : Str
  t : Tok
  o : Obj
noncomputable def tailL (row : Str) : List Nat := row.cps.toList.dropWhile (· == row.cps.toList.headD 0)
noncomputable def tailS (row : Str) : Str := ⟨(tailL row).toArray⟩
noncomputable def fgNames : List Str := [Str.ofString "ASYNC_GENERATOR", Str.ofString "ITERABLE_COROUTINE", Str.ofString "COROUTINE", Str.ofString "NOFREE", Str.ofString "GENERATOR"]
noncomputable def fgName (k : Nat) : Str := fgNames.getD k PySem.Str.empty
noncomputable def fgTold (x : Str) : List Str := ((List.range' 0 (x.length - 1)).filter fun (j : Nat) => Txt.item x ((j : Int) + 1) == Str.ofString ".").map fgName ++ [fgName ((x.length : Int) - 1).toNat]
noncomputable def figS (row : Str) : Str := if tailS row = Str.ofString "" then Str.ofString "0x0" else Txt.join (Str.ofString ", ") (fgTold (tailS row)).reverse
noncomputable def FgP (row : Str) (c : FgSt) : Prop := c.x.length ≤ row.length ∧ c.x.cps.toList.dropWhile (· == row.cps.toList.headD 0) = tailL row
noncomputable def FgOut (h₀ : Heap) (L : Addr) (m : Str → Option Value) (row : Str) (D C2 C1 : Addr) (oD o1 : Obj) (s : Shared) (fl : Flow) (s' : Shared) : Prop :=
  fl = .next ∧ ∃ t o h tk, s' = { s with heap := h, toks := tk } ∧ Fr h₀ L h m ∧ News h₀ L h [(D, oD), (C2, o), (C1, o1)] ∧ o.data = .cell (some (.str (tailS row) t))
theorem fg_out {prog : Program} {w : World} {A : Around} {E : Value → Shared → Prop} {st : Stmt} {env : Env} {Q : Flow → Shared → Prop} {s : Shared} {h₀ : Heap} {L : Addr} {m : Str → Option Value} {row : Str} {D C2 C1 : Addr} {oD o1 : Obj}
    {o : Obj} (_F : Fr h₀ L s.heap m) (_N : News h₀ L s.heap [(D, oD), (C2, o), (C1, o1)]) (W : wpAny (model prog w) A (exec st env) (FgOut h₀ L m row D C2 C1 oD o1 s) E s)
    (h : ∀ t o h tk, Fr h₀ L h m → News h₀ L h [(D, oD), (C2, o), (C1, o1)] → o.data = .cell (some (.str (tailS row) t)) → Q .next { s with heap := h, toks := tk }) :
    wpAny (model prog w) A (exec st env) Q E s :=
  wpAny_mono W (fun fl s' ⟨a, t, o, h', tk, b, F, N, c⟩ => by rw [a, b]; exact h t o h' tk F N c) fun _ _ e => e
theorem str_toList {x y : Str} (h : x.cps.toList = y.cps.toList) : x = y := by
  obtain ⟨⟨a⟩⟩ := x; obtain ⟨⟨b⟩⟩ := y; simp at h; rw [h]
theorem fg_cons {x : Str} (e : ¬ x = Str.ofString "") : ∃ n r, x.cps.toList = n :: r := by
  cases q : x.cps.toList with
  | nil => exact absurd (str_toList (y := Str.ofString "") q) e
  | cons n r => exact ⟨n, r, rfl⟩
theorem fg_item {x : Str} {n : Nat} {r : List Nat} (e : x.cps.toList = n :: r) : Txt.item x 0 = ⟨#[n]⟩ := by
  obtain ⟨⟨l⟩⟩ := x; simp at e; subst e
  have h : seqIndex? 0 (r.length + 1) = some 0 := by simp [seqIndex?]
  simp [Txt.item, Txt.charAt, Str.length, h]
section
variable {row : Str} {c : FgSt}
theorem fg_row {n : Nat} {r : List Nat} (h : FgP row c) (q : c.x.cps.toList = n :: r) : ¬ row = Str.ofString "" := fun z => by
  have h1 := h.1
  have h2 : c.x.length = r.length + 1 := by rw [Str.length, ← Array.length_toList, q]; rfl
  have h3 : row.length = 0 := by rw [z]; rfl
  omega
theorem fg_end (h : FgP row c) (e : (c.x != Str.ofString "") = false) : c.x = tailS row := by
  have e' : c.x = Str.ofString "" := by simpa using e
  refine str_toList ?_
  show _ = tailL row
  rw [← h.2, e']; rfl
theorem fg_stop (h : FgP row c) (e : (c.x != Str.ofString "") = true) (e2 : (Txt.item c.x 0 == Txt.item row 0) = false) : c.x = tailS row := by
  have e' : ¬ c.x = Str.ofString "" := by simpa using e
  obtain ⟨n, r, q⟩ := fg_cons e'
  obtain ⟨n2, r2, q2⟩ := fg_cons (x := row) (fg_row h q)
  rw [fg_item q, fg_item q2] at e2
  have hn : (n == n2) = false := by simpa using e2
  refine str_toList ?_
  show _ = tailL row
  rw [← h.2, q, q2]
  simp [hn]
theorem fg_next (h : FgP row c) (e : (c.x != Str.ofString "") = true) (e2 : (Txt.item c.x 0 == Txt.item row 0) = true) (t : Tok) (o : Obj) : FgP row ⟨Txt.slice c.x (some 1) none, t, o⟩ ∧ (Txt.slice c.x (some 1) none).length < c.x.length := by
  have e' : ¬ c.x = Str.ofString "" := by simpa using e
  obtain ⟨n, r, q⟩ := fg_cons e'
  obtain ⟨n2, r2, q2⟩ := fg_cons (x := row) (fg_row h q)
  rw [fg_item q, fg_item q2] at e2
  have hn : n = n2 := by simpa using e2
  have hl : c.x.length = r.length + 1 := by rw [Str.length, ← Array.length_toList, q]; rfl
  have hs : Txt.slice c.x (some 1) none = ⟨r.toArray⟩ := by
    rw [slice_from_eq (b := (c.x.length : Int)) (by decide) (by omega) rfl, q, hl]
    simp
  have hl2 : (⟨r.toArray⟩ : Str).length = r.length := by simp [Str.length]
  rw [hs]
  refine ⟨⟨?_, ?_⟩, by rw [hl2, hl]; omega⟩
  · have := h.1; show (⟨r.toArray⟩ : Str).length ≤ _; rw [hl2]; omega
  · show r.toArray.toList.dropWhile _ = _
    rw [← h.2, q, q2, hn]
    simp
end
noncomputable def fgTest (x : Str) : Value → Bool
  | .int k _ => Txt.item x (k + 1) == Str.ofString "."
  | _ => false
noncomputable def fgG (x : Str) (v y : Value) : Prop := ∃ k : Nat, (∃ t, v = .int k t) ∧ ∃ t, y = .str (fgName k) t
theorem fg_list {x : Str} : ∀ (vs : List Value) (k : Nat) (ys : List Value), (∀ (j : Nat) v, vs[j]? = some v → ∃ t, v = .int ((k + j : Nat) : Int) t) → Paired (fgG x) (vs.filter (fgTest x)) ys →
    StrsAre ys (((List.range' k vs.length).filter fun (j : Nat) => Txt.item x ((j : Int) + 1) == Str.ofString ".").map fgName)
  | [], k, ys, _, h => by cases h; exact .nil
  | v :: r, k, ys, hv, h => by
    obtain ⟨t, rfl⟩ := hv 0 v rfl
    have hr : ∀ (j : Nat) v, r[j]? = some v → ∃ t, v = .int ((k + 1 + j : Nat) : Int) t := fun j v e => by
      obtain ⟨t, q⟩ := hv (j + 1) v (by simpa using e)
      exact ⟨t, by rw [q, show k + (j + 1) = k + 1 + j by omega]⟩
    rw [List.length_cons, List.range'_succ, List.filter_cons]
    rw [List.filter_cons] at h
    by_cases c : (Txt.item x ((k : Int) + 1) == Str.ofString ".") = true
    · have c' : fgTest x (.int ((k + 0 : Nat) : Int) t) = true := c
      rw [if_pos c'] at h
      rw [if_pos c]
      cases h with
      | cons a b =>
        obtain ⟨k', ⟨t1, e1⟩, t2, rfl⟩ := a
        have ek : k = k' := by injection e1 with e1 _; omega
        subst ek
        exact .cons _ _ (fg_list r (k + 1) _ hr b)
    · have c' : ¬ fgTest x (.int ((k + 0 : Nat) : Int) t) = true := c
      rw [if_neg c'] at h
      rw [if_neg c]
      exact fg_list r (k + 1) _ hr h
theorem strs_rev : ∀ {ys : List Value} {l : List Str}, StrsAre ys l → StrsAre ys.reverse l.reverse
  | _, _, .nil => .nil
  | _, _, .cons y t r => by rw [List.reverse_cons, List.reverse_cons]; exact (strs_rev r).append' (.cons _ _ .nil)
theorem fg_pick {vs : List Value} {l : List Str} (h : StrsAre vs l) : StrsAre (slicePick vs.toArray none none (some (-1))).toList l.reverse := by rw [krv_pick]; exact strs_rev h
theorem fg_lens {x : Str} (hx : x.length ≤ 5) : ((fgTold x).reverse.map (·.length)).sum + (fgTold x).reverse.length * (Str.ofString ", ").length ≤ 16777216 := by
  have e1 : ∀ l : List Str, (∀ y ∈ l, y.length ≤ 18) → (l.map (·.length)).sum ≤ 18 * l.length := by
    intro l
    induction l with
    | nil => intro _; exact Nat.zero_le _
    | cons a r ih =>
      intro h
      have h1 := h a (.head _)
      have h2 := ih fun y hy => h y (.tail _ hy)
      rw [List.map_cons, List.sum_cons, List.length_cons]; omega
  have e0 : ∀ k, (fgName k).length ≤ 18 := by
    intro k
    by_cases h : k < 5
    · have : k = 0 ∨ k = 1 ∨ k = 2 ∨ k = 3 ∨ k = 4 := by omega
      rcases this with rfl | rfl | rfl | rfl | rfl <;> decide
    · unfold fgName; rw [List.getD_eq_getElem?_getD, List.getElem?_eq_none (by simp [fgNames]; omega)]; decide
  have e2 : ∀ y ∈ (fgTold x).reverse, y.length ≤ 18 := by
    intro y hy
    rw [List.mem_reverse] at hy
    rcases List.mem_append.mp hy with hy | hy
    · obtain ⟨k, _, rfl⟩ := List.mem_map.mp hy; exact e0 k
    · rw [List.mem_singleton.mp hy]; exact e0 _
  have e3 := e1 _ e2
  have e4 : (fgTold x).reverse.length ≤ 6 := by
    rw [List.length_reverse, fgTold, List.length_append, List.length_singleton, List.length_map]
    have := List.length_filter_le (fun (j : Nat) => Txt.item x ((j : Int) + 1) == Str.ofString ".") (List.range' 0 (x.length - 1))
    rw [List.length_range'] at this; omega
  have e5 : (Str.ofString ", ").length = 2 := by decide
  rw [e5]; omega
theorem fg_range {n : Nat} (h : n ≤ 4) : Builtin.Range.small 0 (n : Int) 1 = true ∧ Builtin.Range.rangeSize 0 (n : Int) 1 = (n : Int) := rng1 (Nat.le_trans h (by decide))
theorem iter_lt {prog : Program} {w : World} {A : Around} {xv : Value} {s : Shared} {n : Nat} {P : Nat → Value → Prop} (h : IterOf prog w A xv s n P) : IterOf prog w A xv s n (fun i v => i < n ∧ P i v) := fun Q E k =>
  h Q E fun h₂ fp St kp hs W st hf => k h₂ fp St kp hs { W with item := fun i s Q E hi st hQ => W.item i s Q E hi st fun v h' tk hP => hQ v h' tk ⟨hi, hP⟩ } st hf
theorem figures_c (w : World) (mean) (mg mb) (row : Str) (t : Tok) : ClmN 0 1 w mean mg mb 224 (row.length ≤ 12 ∧ (tailL row).length ≤ 5) [.str row t] (fun t => .str (figS row) t) := by
  k_with_none
  (k_with "subscriptTail" => (k_here; (with_reducible show wpAny _ _ (subscriptTail _ _ (Value.ref _) (Value.int _ _)) _ _ _); k_dflt (refine' KTb.item_list (ws := fgNames) ?gl9 ?gw9 ?ga9 ?gb9 ?gc9 ?gd9 ?ge9; (case gl9 => kmk_list); (case gw9 => exact .cons _ _ (.cons _ _ (.cons _ _ (.cons _ _ (.cons _ _ .nil))))); (case ga9 => omega); (case gb9 => (show _ < ((5 : Nat) : Int); omega)); (case gc9 => omega); (case ge9 => with_unfolding_all rfl)); intro _ _))
  (k_with "subscriptTail" => (k_here; (with_reducible show wpAny _ _ (subscriptTail _ _ (Value.ref _) (Value.int _ _)) _ _ _); k_dflt (refine' KTb.item_list (ws := fgNames) ?gl8 ?gw8 ?ga8 ?gb8 ?gc8 ?gd8 ?ge8; (case gl8 => kmk_list); (case gw8 => exact .cons _ _ (.cons _ _ (.cons _ _ (.cons _ _ (.cons _ _ .nil))))); (case ga8 => omega); (case gb8 => (show _ < ((5 : Nat) : Int); omega)); (case gc8 => omega); (case ge8 => with_unfolding_all rfl)); intro _ _))
  (k_with "subscriptTail Name BinOp ref int" => (k_here; (with_reducible show wpAny _ _ (subscriptTail _ _ (Value.ref _) (Value.int _ _)) _ _ _); k_dflt (refine' KTb.item_list (ws := fgNames) ?gl9 ?gw9 ?ga9 ?gb9 ?gc9 ?gd9 ?ge9; (case gl9 => kmk_list); (case gw9 => exact .cons _ _ (.cons _ _ (.cons _ _ (.cons _ _ (.cons _ _ .nil))))); (case ga9 => omega); (case gb9 => (show _ < ((5 : Nat) : Int); omega)); (case gc9 => omega); (case ge9 => with_unfolding_all rfl)); intro _ _))
  (k_with "subscriptTail Name BinOp ref int" => (k_here; (with_reducible show wpAny _ _ (subscriptTail _ _ (Value.ref _) (Value.int _ _)) _ _ _); k_dflt (refine' KTb.item_list (ws := fgNames) ?gl8 ?gw8 ?ga8 ?gb8 ?gc8 ?gd8 ?ge8; (case gl8 => kmk_list); (case gw8 => exact .cons _ _ (.cons _ _ (.cons _ _ (.cons _ _ (.cons _ _ .nil))))); (case ga8 => omega); (case gb8 => (show _ < ((5 : Nat) : Int); omega)); (case gc8 => omega); (case ge8 => with_unfolding_all rfl)); intro _ _))
  (k_with "eval ListComp" => (k_here; refine stop_here ?_))
  (try delta Clm); delta ClmN
  k_fill
  intros
  rename_i hret
  refine wpAny_call ?_
  k_dflt (refine' enterZC ?k1 ?k2 ?k3 ?k5 ?kA ?kF ?kK ?k6 ?k7 ?k8 ?k9 ?kB ?kD ?_ ?c2 ?c3 ?c4; (case kA => exact rfl); (case kF => exact rfl); (case kK => assumption); (case k1 => k_asm); (case k2 => k_asm); (case k3 => k_asm); (case k5 => k_asm); (case k6 => k_is); (case k7 => k_is); (case k8 => ktr_room); (case k9 => exact BindsTo.of_eq rfl); (case kB => exact rfl); (case kD => decide +kernel); (case c2 => exact rfl); (case c3 => exact rfl); (case c4 => exact rfl); k_whole; intro g' L' h' tk' cells' FG' F' N' Y' B' X' T'; k_cells Y'; (try simp only [List.cons_append, List.nil_append] at N'); (try dsimp only); (try k_lift B'); (try k_fold))
  rename (_ ∧ _) => hpre
  obtain ⟨hl0, hl1⟩ := hpre
  (k_with "exec While BoolOp cons nil" => (refine stop_here ?_))
  k_steps
  delta Stop
  rename News _ _ _ _ => nD
  rename (_ = Data.cell (some (Value.str row t))) => hcell9
  rename Fr g' _ _ _ => fD
  refine fg_out (row := row) fD nD ?turn ?rest
  case turn =>
    refine ksw_while (fun c : FgSt => [(_, _), (_, c.o), (_, _)]) (fun c => []) (fun c => c.o.data = .cell (some (.str c.x c.t))) [] (FgP row) (fun c => c.x.length) ⟨row, t, _⟩ fD nD hcell9 (fun p hp => nomatch hp) ⟨Nat.le_refl _, rfl⟩ ?_
    intro c9 u9 h9 tk9 hf9 hp9 F9 N9
    have hq9 := hp9.1
    k_steps
    · have hv := fg_next hp9 (by assumption) (by assumption)
      rename News _ _ _ _ => nE'
      exact ksw_end ⟨Txt.slice c9.x (some 1) none, _, _⟩ (by assumption) nE' (by kst_in) (by assumption) (fun p hp => nomatch hp) (fun z h2 h3 => rfl) (hv _ _).1 (hv 0 c9.o).2
    · have hv := fg_stop hp9 (by assumption) (by assumption)
      rw [hv] at hf9
      exact ⟨rfl, _, c9.o, _, _, rfl, by assumption, by assumption, hf9⟩
    · have hv := fg_end hp9 (by assumption)
      rw [hv] at hf9
      exact ⟨rfl, _, c9.o, _, _, rfl, by assumption, by assumption, hf9⟩
  case rest =>
    intro t9 o9 h9 tk9 F9 N9 hd9
    have hl9 : (tailS row).length ≤ 5 := by simpa [tailS, Str.length] using hl1
    k_steps
    · rename (_ == Str.ofString "") = true => hz
      have e9 : figS row = Str.ofString "0x0" := if_pos (by simpa using hz)
      rw [← e9]
      exact hret _ _ _ (by assumption) (by assumption)
    · delta Stop
      rename (_ == Str.ofString "") = false => hz
      have hz' : ¬ tailS row = Str.ofString "" := by simpa using hz
      have e9 : figS row = Txt.join (Str.ofString ", ") (fgTold (tailS row)).reverse := if_neg hz'
      have hl8 : 1 ≤ (tailS row).length := by
        obtain ⟨n, r, q⟩ := fg_cons hz'
        rw [Str.length, ← Array.length_toList, q]; simp
      obtain ⟨n9, hn9⟩ : ∃ n, (tailS row).length = n + 1 := ⟨_, (Nat.sub_add_cancel hl8).symm⟩
      have hr9 := fg_range (n := n9) (by omega)
      have hc9 : ((tailS row).length : Int) - 1 = (n9 : Int) := by omega
      refine CGo.use (fun v => fgTest (tailS row) v) (fgG (tailS row)) (by k_asm) (by with_unfolding_all rfl) (by decide) (by rfl) (by decide) (by rfl) ?_
      k_steps
      rename IsRange _ _ _ _ _ _ _ _ => hR
      dsimp only at hR
      rw [hc9] at hR
      refine ⟨_, n9, _, by k_asm, by k_asm, ?hsz, iter_lt (iter_range rfl hR hr9.1 hr9.2), ?tests, ?elts, ?fin⟩
      case hsz => have e9 : sizeLine = 2 ^ 24 := rfl; omega
      case tests =>
        intro i v hP C oC m₃ s₃ hC hx ht F3 N3 E'
        obtain ⟨hi, tv, rfl⟩ := hP
        rw [Int.zero_add, Int.mul_one] at hx ⊢
        k_steps
        all_goals exact ⟨_, _, rfl, fun _ _ e => e⟩
      case elts =>
        intro i v hP hp C oC m₃ s₃ hC hx ht F3 N3 E'
        obtain ⟨hi, tv, rfl⟩ := hP
        rw [Int.zero_add, Int.mul_one] at hx ⊢
        k_steps
        all_goals (first | exact ⟨_, _, rfl, fun _ _ e => e⟩ | exact ⟨i, ⟨_, rfl⟩, _, rfl⟩)
      case fin =>
        intro D h tk ys vs k F N hne hlen hP hpair
        have hS9 : StrsAre ys.toList (((List.range' 0 ((tailS row).length - 1)).filter fun (j : Nat) => Txt.item (tailS row) ((j : Int) + 1) == Str.ofString ".").map fgName) := by
          rw [show (tailS row).length - 1 = vs.length by omega]
          exact fg_list vs 0 _ (fun j v hv => by obtain ⟨_, t, q⟩ := hP j v hv; exact ⟨t, by rw [q]; congr 1; omega⟩) hpair
        have hz9 : ys.toList.length ≤ 5 := by
          rw [hS9.length, List.length_map]
          have := List.length_filter_le (fun (j : Nat) => Txt.item (tailS row) ((j : Int) + 1) == Str.ofString ".") (List.range' 0 ((tailS row).length - 1))
          rw [List.length_range'] at this; omega
        have hT9 := fg_lens hl9
        (try dsimp only)
        (k_with "binaryOp Add ref ref" => (k_dflt (refine' kmk_add_lit ?F ?N ?a ?b ?e ?_ ?z; (case F => k_asm); (case N => k_asm); (case a => kmk_list); (case b => kmk_list); (case e => rfl); (case z => (simp only [List.length_cons, List.length_nil, sizeLine_eq]; omega)); intro D' h' F' N' l1; (try k_lt l1))))
        (k_with "call builtin:str.join" => (refine stop_here ?_))
        k_steps
        delta Stop
        rename News _ _ _ _ => N7
        refine join_list (isl_of (N7 (_, _) (.head _)).1) (fg_pick (l := fgTold (tailS row)) (hS9.append' (.cons _ _ .nil))) hT9 ?_
        intro t7 k7
        rw [show Txt.join (Str.ofString ", ") (fgTold (tailS row)).reverse = figS row from e9.symm]
        k_steps
        all_goals (first | done | exact hret _ _ _ (by assumption) (by assumption) | skip)
end Mine
end
section
open PySem PySem.W PyProof.Rows PySem.Calls PySem.Spec
set_option Elab.async false
set_option maxRecDepth 100000
set_option maxHeartbeats 4000000
namespace Mine
section
variable {prog : Program} {w : World} {A : Around} {E : Value → Shared → Prop} {s : Shared} {h₀ : Heap} {L : Addr} {m : Str → Option Value} {env : Env}
open LCg (NsObj ns_obj)
inductive CGoA (prog : Program) (w : World) (A : Around) (p : Value → Bool) (G : Value → Value → Prop) (h₀ : Heap) (L : Addr) (m : Str → Option Value) (env : Env) (elt : Expr) (ifs : List Expr) (x : Str) (scope : Scope) (cl : List (Str × Addr)) (y : Str) (Q : Flow → Shared → Prop) (xv : Value) (s₁ : Shared) : Prop
  | mk (news : List (Addr × Obj)) (n : Nat) (P : Nat → Value → Prop) 
    (h0 : Fr h₀ L s₁.heap m) 
    (h1 : News h₀ L s₁.heap news) 
    (h2 : n ≤ sizeLine) 
    (h3 : IterOf prog w A xv s₁ n P) 
    (h4 : ∀ i v, P i v → EltAt h₀ L m x news s₁ v fun C s₃ => ∀ E', wpAny (model prog w) A (forIn ifs true fun c r => if r = true then do let ok ← isTrue c (compEnvC scope cl C env) (eval c (compEnvC scope cl C env)); pure (ForInStep.yield ok) else pure (ForInStep.yield r))
      (fun ok s₄ => ok = p v ∧ Keeps s₃ s₄) E' s₃) 
    (h5 : ∀ i v, P i v → p v = true → EltAt h₀ L m x news s₁ v fun C s₃ => ∀ E', wpAny (model prog w) A (eval elt (compEnvC scope cl C env)) (fun y₉ s₄ => G v y₉ ∧ Keeps s₃ s₄) E' s₃) 
    (h6 : ∀ D h tk (ys : Array Value) (vs : List Value) k, Fr h₀ L h (fun z => if z = y then some (.ref D) else m z) → News h₀ L h ((D, seqObj "list" ys k) :: news) → (∀ q ∈ news, @Ne Nat q.1 D) → vs.length = n → (∀ (j : Nat) v, vs[j]? = some v → P j v) → Paired G (vs.filter p) ys.toList → Q .next { s₁ with heap := h, toks := tk }) : CGoA prog w A p G h₀ L m env elt ifs x scope cl y Q xv s₁
theorem CGoA.use {elt iter : Expr} {x y : Str} {px py : Pos} {ifs : List Expr} {scope : Scope} {cl : List (Str × Addr)} {pos spos : Pos} {Q : Flow → Shared → Prop} (hL9 : env.locals = L) (p : Value → Bool) (G : Value → Value → Prop) (_F₀ : Fr h₀ L s.heap m)
    
    (hsw : swapsWith (.ListComp elt [⟨.Name x px, iter, ifs, 0⟩] scope pos) (some (.Name y py)) spos.line env = pure true) (hclos : closureFor scope env = pure cl) (hcell : ∀ y ∈ scope.names, y.2 ≠ .cell) (hkind : scope.kind = .function)
    (hnames : ∀ y ∈ scope.names, y.2 = .local → scope.names.lookup y.1 = some .local) (hx : scope.names.lookup x = some .local)
    (hy : env.kindOf y = some .local) (hp9 : (env.scope.kind == .class || (env.scope.kind == .module && env.locals != env.globals)) = false)
    (h : wpAny (model prog w) A (eval iter env) (CGoA prog w A p G h₀ L m env elt ifs x scope cl y Q) E s)
    (hs : ∀ x, foldedSetIterable iter env x = pure x := by intro _; rfl) :
    wpAny (model prog w) A (exec (.Assign [.Name y py] (.ListComp elt [⟨.Name x px, iter, ifs, 0⟩] scope pos) spos) env) Q E s := by
  subst hL9
  refine wpAny_Assign_ListComp_free p G hsw hclos hcell hkind hnames hx hy hp9 (wpAny_mono h (fun xv s₁ hg => ?_) fun _ _ e => e) hs
  obtain ⟨news, n, P, F, N, hsz, it, tests, elts, fin⟩ := hg
  refine it _ _ fun h₂ fp St kp hsl W st hfp => ?_
  have hL : env.locals < s₁.heap.objs.size := F.ns.lt
  have hI0 : h₀.get? s₁.heap.objs.size = none := Heap.get?_none_of_le (Nat.le_of_lt (Nat.lt_of_le_of_lt F.above hL))
  -- what each turn finds
  have turn : ∀ C (s₃ : Shared) m₃, h₂.objs.size ≤ C → s₃.heap.Ns C m₃ → (∀ b o, b ∉ [s₁.heap.objs.size] → h₂.get? b = some o → s₃.heap.get? b = some o) →
      ∃ oC, NsObj oC m₃ ∧ Fr h₀ env.locals s₃.heap m ∧ News h₀ env.locals s₃.heap ((C, oC) :: news) := by
    intro C s₃ m₃ hC hn hk
    obtain ⟨oC, hoC, nC⟩ := ns_obj hn
    have kk : Kept s₁.heap s₃.heap := fun b o e => hk b o (fun q => by rw [List.mem_singleton.mp q] at e; exact absurd (Heap.lt_size e) (Nat.lt_irrefl _)) (kp b o e)
    have hC2 : s₁.heap.objs.size ≤ C := Nat.le_trans hsl hC
    refine ⟨oC, nC, ⟨F.ns.at' fun o e => kk _ _ e, fun b o e => kk _ _ (F.keep b o e), F.above⟩, fun q hq => ?_⟩
    rcases List.mem_cons.mp hq with rfl | hq
    · exact ⟨hoC, Nat.ne_of_gt (Nat.lt_of_lt_of_le hL hC2), Heap.get?_none_of_le (Nat.le_trans (Nat.le_of_lt (Nat.lt_of_le_of_lt F.above hL)) hC2)⟩
    · exact ⟨kk _ _ (N q hq).1, (N q hq).2⟩
  refine ⟨s₁.heap.objs.size, fp, [s₁.heap.objs.size], n, P, St, m, rfl, W, hsz, st, hfp, (fun q => Nat.ne_of_lt hL (List.mem_singleton.mp q)), F.ns.at' (fun o e => kp _ _ e), ⟨?_, ?_⟩, ?_⟩
  · intro C i v s₃ m₃ E' hC hP hn hm hk ht
    obtain ⟨oC, nC, F3, N3⟩ := turn C s₃ m₃ hC hn hk
    exact tests i v hP C oC m₃ s₃ nC hm ht F3 N3 E'
  · intro C i v s₃ m₃ E' hC hP hp hn hm hk ht
    obtain ⟨oC, nC, F3, N3⟩ := turn C s₃ m₃ hC hn hk
    exact elts i v hP hp C oC m₃ s₃ nC hm ht F3 N3 E'
  · intro D h' tk ys vs hD hl hpl hlen hP hPair hns hk
    obtain ⟨k, hDo⟩ := hpl
    have kk : ∀ b o, b ≠ env.locals → s₁.heap.get? b = some o → h'.get? b = some o := fun b o hne e => hk b o hne (fun q => by rw [List.mem_singleton.mp q] at e; exact absurd (Heap.lt_size e) (Nat.lt_irrefl _)) (kp b o e)
    have nD : ∀ o, s₁.heap.get? D ≠ some o := fun o e => by have := kp D o e; rw [show h₂.get? D = none from hD] at this; cases this
    refine fin D h' tk ys vs k ⟨hns, fun b o e => kk _ _ (Nat.ne_of_lt (Nat.lt_of_lt_of_le (Heap.lt_size e) F.above)) (F.keep b o e), F.above⟩ (fun q hq => ?_) (fun q hq => ?_) hlen hP hPair
    · rcases List.mem_cons.mp hq with rfl | hq
      · refine ⟨hDo, fun e => ?_, ?_⟩
        · obtain ⟨o, _, _, ho, _⟩ := F.ns
          exact nD o (by rw [show D = env.locals from e]; exact ho)
        · show h₀.get? D = none
          cases e : h₀.get? D with
          | none => rfl
          | some o => exact absurd (F.keep D o e) (nD o)
      · exact ⟨kk _ _ (N q hq).2.1 (N q hq).1, (N q hq).2⟩
    · exact fun e => nD _ (by rw [← e]; exact (N q hq).1)
end
end Mine
end
section
open PySem PySem.W PyProof.Rows PySem.Calls PySem.Spec
set_option Elab.async false
set_option maxRecDepth 100000
set_option maxHeartbeats 4000000
namespace Mine
noncomputable def VarClm (w : World) (mean : ExcName → Option Value) (mg mb : Str → Option Value) (ns : List Int) (R : Int) : Prop :=
  ∀ (I l : Addr) (oI : Obj) (its : Array Value) (dp un : Nat) (gd : Option (List Code)) (cn : Str) (cs : Scope) (a : Addr) (ccd : Value) (cl : List (Str × Addr)) (outer : List Env) (A₀ : Around) (base h₀ : Heap) (L : Addr) (m : Str → Option Value) (s : Shared) (Q E : Value → Shared → Prop),
    Below A₀ base outer h₀ → Fr h₀ L s.heap m → (hdA.heap_1_1 w.params).In h₀ → Top topProg lsT mean mg mb h₀ → cs.kind = .function → News h₀ L s.heap [(I, oI)] → Li oI l 0 → s.heap.IsList l its → l ≠ I → IntsAre its.toList ns → dp + 1 < recursionLimit → un + 8 < cLine →
      (∀ (t : Tok) (h' : Heap) (tk' : Nat), Fr h₀ L h' m → (∀ b o, b ≠ I → s.heap.get? b = some o → h'.get? b = some o) → Q (.int R t) { s with heap := h', toks := tk' }) →
      wpAny (model PySem.Challenge.rw_tc0048_01.row.prog w) (ktrTop dp un gd cn cs L a ccd cl outer) (call (.ref 46) [.ref I]) Q E s
section
variable {prog : Program} {w : World} {A₀ A : Around} {s : Shared} {base h₀ : Heap} {outer : List Env} {L : Addr} {m : Str → Option Value} {env : Env} {K : Frag} {p : Program} {ls : List Str} {mean : ExcName → Option Value} {mg mb : Str → Option Value}
  {R : Result → Shared → Prop} {name qual : Str} {params : Arguments} {body : List Stmt} {scope : Scope} {dV kV doc pm cdv ct oc : Value} {an od : Option Addr} {osl : Array (Option Value)} {f : Addr} {args : Args} {binds : List (Str × Value)} {I l : Addr} {oI : Obj} {its : Array Value}
theorem enterZ1 (B : Below A₀ base outer h₀) (F : Fr h₀ L s.heap m) (X₀ : K.In h₀) (T : Top p ls mean mg mb h₀) (N : News h₀ L s.heap [(I, oI)]) (hl : s.heap.IsList l its) (hlI : l ≠ I) (hA : A.frames = some (env :: outer)) (hf : env.frame = some L) (hke : env.scope.kind = .function)
    (ho : K.lookup f = some ⟨oc, od, .func (fnOf name qual params body scope dV kV doc pm an cdv ct), osl⟩) (hcd : codeIn K cdv qual = true) (hroom : A.depth < recursionLimit)
    (hbind : BindsTo s (fnOf name qual params body scope dV kV doc pm an cdv ct) args binds) (hloc : ∀ y ∈ binds, scope.names.lookup y.1 = some .local)
    (h : ∀ g L' h₁, Fr h₀ L g m → Fr g L' h₁ (fun y => binds.reverse.lookup y) → News g L' h₁ [(I, oI)] → g.IsList l its → Below A base (env :: outer) g → K.In g → Top p ls mean mg mb g →
      wpAny (model prog w) (A.deeper (envOf qual scope L' f cdv)) (execs body (envOf qual scope L' f cdv))
        (fun fl s' => LeaveK h₀ L m g (fun r s'' => (∀ b o, b ≠ I → s.heap.get? b = some o → s''.heap.get? b = some o) → R r s'') (match fl with | .ret v => v | _ => .none) s')
        (fun e s' => wpAny (model prog w) (A.deeper (envOf qual scope L' f cdv)) (leaving (envOf qual scope L' f cdv) e) (fun _ s'' => R (.error e) s'') (fun e' s'' => R (.error e') s'') s')
        { s with heap := h₁, toks := s.toks + binds.length })
    (hco : scope.isCoroutine = false) (hgen : scope.isGenerator = false) (hk : scope.kind = .function)
    (hcell : ∀ x ∈ scope.names, x.2 ≠ .cell) : codeAny (model prog w) A (.call (.ref f) args) R s :=
  code_defG B F X₀ N T hA hf hke ho hcd hroom hbind hloc (fun g L' h₁ FG F' N' B' X' T' GS => wpAny_mono (h g L' h₁ FG F' N'
      (by obtain ⟨o, e, r⟩ := hl; exact ⟨o, GS l o e (fun q => hlI (List.mem_singleton.mp q)), r⟩) B' X' T') (fun fl s' hl => by
    obtain ⟨L2, m2, n2, F2, N2, k⟩ := hl
    exact ⟨L2, m2, n2, F2, N2, fun a b => k a b fun b o hb e => F2.keep b o (GS b o e (fun q => hb (List.mem_singleton.mp q)))⟩) fun _ _ y => y) hco hgen hk hcell
end
theorem ints_at : ∀ {vs : List Value} {ns : List Int}, IntsAre vs ns → ∀ (i : Nat) (n : Int), ns[i]? = some n → ∃ t, vs[i]? = some (.int n t)
  | _, _, .cons n t h, 0, k, e => by simp at e; subst e; exact ⟨t, rfl⟩
  | _, _, .cons n t h, i + 1, k, e => by simpa using ints_at h i k (by simpa using e)
noncomputable def varV (b val : Int) : List Int → Option Int
  | [] => if Builtin.bitAnd b 64 = 0 then some val else none
  | c :: r => if Builtin.bitAnd b 64 = 0 then some val else varV c (Builtin.bitOr (val * 2 ^ (6 : Int).toNat) (Builtin.bitAnd c 63)) r
noncomputable def varS : List Int → Option Int
  | [] => none
  | c :: r => varV c (Builtin.bitAnd c 63) r
structure VarSt where
  i : Nat
  o : Obj
  val : Int
  tv : Tok
  b : Int
  tb : Tok
noncomputable def VarP (ns : List Int) (R : Int) (c : VarSt) : Prop := 1 ≤ c.i ∧ c.i ≤ ns.length ∧ ns.length ≤ 13 ∧ varV c.b c.val (ns.drop c.i) = some R ∧ 0 ≤ c.val ∧ c.val < 64 ^ c.i
theorem var_item {ns : List Int} {R : Int} {c : VarSt} {its : Array Value} (h : VarP ns R c) (hb : Builtin.bitAnd c.b 64 ≠ 0) (hi : IntsAre its.toList ns) : ∃ t, its[c.i]? = some (.int (ns.getD c.i 0) t) := by
  obtain ⟨h1, h2, h3, h4, h5, h6⟩ := h
  cases hd : ns.drop c.i with
  | nil => rw [hd] at h4; simp [varV, hb] at h4
  | cons n r =>
    have e : ns[c.i]? = some n := by
      have := congrArg (fun l => l[0]?) hd
      simpa using this
    obtain ⟨t, ht⟩ := ints_at hi c.i n e
    refine ⟨t, ?_⟩
    rw [Array.getElem?_toList] at ht
    rw [ht, List.getD_eq_getElem?_getD, e]; rfl
theorem bitAnd_nat (a : Int) (k : Nat) (h : 0 ≤ a) : Builtin.bitAnd a k = ((a.toNat &&& k : Nat) : Int) := by
  unfold Builtin.bitAnd
  rw [decide_eq_true h, decide_eq_true (Int.natCast_nonneg k)]
  simp
theorem bits64 {a : Int} {k : Nat} (h0 : 0 ≤ a) (h : a < 2 ^ k) : Builtin.Int.intBits a ≤ k := by
  unfold Builtin.Int.intBits
  split
  · exact Nat.zero_le _
  · rename_i hn
    have hn : a ≠ 0 := by simpa using hn
    have h2 : a.natAbs < 2 ^ k := by
      have : ((2 ^ k : Nat) : Int) = 2 ^ k := by push_cast; rfl
      omega
    have := (Nat.log2_lt (n := a.natAbs) (k := k) (by omega)).mpr h2
    omega
theorem or_step {v c : Int} (hv : 0 ≤ v) (hc : 0 ≤ c) : Builtin.bitOr (v * 2 ^ (6 : Int).toNat) (Builtin.bitAnd c 63) = v * 64 + c % 64 := by
  obtain ⟨v, rfl⟩ := Int.eq_ofNat_of_zero_le hv
  obtain ⟨c, rfl⟩ := Int.eq_ofNat_of_zero_le hc
  have e1 : Builtin.bitAnd (c : Int) 63 = ((c % 64 : Nat) : Int) := by
    rw [show (63 : Int) = ((63 : Nat) : Int) from rfl, bitAnd_nat _ _ (Int.natCast_nonneg c)]
    have : c &&& 63 = c % 64 := Nat.and_two_pow_sub_one_eq_mod c 6
    rw [Int.toNat_natCast, this]
  rw [e1, bitOr_and, show ((v : Int) * 2 ^ (6 : Int).toNat) = ((2 ^ 6 * v : Nat) : Int) by
    rw [show (6 : Int).toNat = 6 from rfl]; push_cast; omega, bitAnd_nat _ _ (Int.natCast_nonneg _)]
  have : (2 ^ 6 * v) &&& (c % 64) = 0 := by
    apply Nat.eq_of_testBit_eq
    intro i
    rw [Nat.testBit_and, Nat.testBit_two_pow_mul, show c % 64 = c % 2 ^ 6 from rfl, Nat.testBit_mod_two_pow]
    simp only [Nat.zero_testBit]
    by_cases h : i < 6
    · simp [show ¬ 6 ≤ i by omega]
    · simp [h]
  rw [Int.toNat_natCast, this]
  push_cast; omega
theorem var_next {ns : List Int} {R : Int} {c : VarSt} (h : VarP ns R c) (hb : Builtin.bitAnd c.b 64 ≠ 0) (hns : ∀ n ∈ ns, 0 ≤ n) (o : Obj) (tv tb : Tok) :
    VarP ns R ⟨c.i + 1, o, Builtin.bitOr (c.val * 2 ^ (6 : Int).toNat) (Builtin.bitAnd (ns.getD c.i 0) 63), tv, ns.getD c.i 0, tb⟩ ∧ ns.length - (c.i + 1) < ns.length - c.i := by
  obtain ⟨h1, h2, h3, h4, h5, h6⟩ := h
  cases hd : ns.drop c.i with
  | nil => rw [hd] at h4; simp [varV, hb] at h4
  | cons n r =>
    have e : ns[c.i]? = some n := by
      have := congrArg (fun l => l[0]?) hd
      simpa using this
    have e1 : ns.getD c.i 0 = n := by rw [List.getD_eq_getElem?_getD, e]; rfl
    have hlt : c.i < ns.length := (List.getElem?_eq_some_iff.mp e).1
    have hn : 0 ≤ n := hns n (List.mem_of_getElem? e)
    have e2 : ns.drop (c.i + 1) = r := by
      have := congrArg List.tail hd
      simpa using this
    rw [hd] at h4
    simp only [varV, if_neg hb] at h4
    rw [e1]
    have hstep := or_step h5 hn
    refine ⟨⟨by dsimp only; omega, by dsimp only; omega, h3, by dsimp only; rw [e2]; exact h4, ?_, ?_⟩, by omega⟩
    · dsimp only; rw [hstep]; omega
    · dsimp only; rw [hstep, Int.pow_succ]
      have : n % 64 < 64 := by omega
      have h6' : c.val + 1 ≤ (64 : Int) ^ c.i := h6
      generalize (64 : Int) ^ c.i = z at h6' ⊢
      omega
theorem var_bits {ns : List Int} {R : Int} {c : VarSt} (h : VarP ns R c) : (Builtin.Int.intBits c.val : Int) + 6 ≤ 2 ^ 27 := by
  obtain ⟨h1, h2, h3, h4, h5, h6⟩ := h
  have hm : (64 : Int) ^ c.i ≤ 64 ^ 13 := by
    have : (64 : Nat) ^ c.i ≤ 64 ^ 13 := Nat.pow_le_pow_right (by omega) (by omega)
    exact_mod_cast this
  have : Builtin.Int.intBits c.val ≤ 78 := bits64 h5 (Int.lt_of_lt_of_le h6 (Int.le_trans hm (by decide)))
  omega
theorem var_start {n0 : Int} {rest : List Int} {R : Int} (hlen : (n0 :: rest).length ≤ 13) (hns : ∀ n ∈ n0 :: rest, 0 ≤ n) (hR : varS (n0 :: rest) = some R) (o : Obj) (tv tb : Tok) : VarP (n0 :: rest) R ⟨1, o, Builtin.bitAnd n0 63, tv, n0, tb⟩ := by
  have h0 : 0 ≤ n0 := hns n0 (.head _)
  have := bitAnd_nat n0 63 h0
  have h2 : n0.toNat &&& 63 ≤ 63 := Nat.and_le_right
  refine ⟨Nat.le_refl _, by simp, hlen, hR, ?_, ?_⟩
  · dsimp only; rw [show (63 : Int) = ((63 : Nat) : Int) from rfl, this]; omega
  · dsimp only; rw [show (63 : Int) = ((63 : Nat) : Int) from rfl, this]; omega
theorem var_end {ns : List Int} {R : Int} {c : VarSt} (h : VarP ns R c) (hb : Builtin.bitAnd c.b 64 = 0) : c.val = R := by
  obtain ⟨h1, h2, h3, h4, h5, h6⟩ := h
  cases hd : ns.drop c.i with
  | nil => rw [hd] at h4; simpa [varV, hb] using h4
  | cons n r => rw [hd] at h4; simpa [varV, hb] using h4
theorem next_int {prog : Program} {w : World} {A : Around} {E : Value → Shared → Prop} {s : Shared} {h₀ : Heap} {L I l : Addr} {m : Str → Option Value} {oI : Obj} {its : Array Value} {i : Nat} {n : Int} {Q : Value → Shared → Prop} (F : Fr h₀ L s.heap m) (N : News h₀ L s.heap [(I, oI)]) (hi : Li oI l i) (hl : s.heap.IsList l its) (hlI : l ≠ I) (hx : ∃ t, its[i]? = some (.int n t))
    (h : ∀ t h' oI', Fr h₀ L h' m → News h₀ L h' [(I, oI')] → Li oI' l (i + 1) → h'.IsList l its → Q (.int n t) { s with heap := h' }) : wpAny (model prog w) A (call (.builtin "next") [.ref I]) Q E s := by
  obtain ⟨t, hx⟩ := hx
  exact next_li F N hi hl hlI (fun _ hp => nomatch hp) hx (h t)
theorem varint_c (w : World) (mean) (mg mb) (n0 : Int) (rest : List Int) (R : Int) (hlen : (n0 :: rest).length ≤ 13) (hns : ∀ n ∈ n0 :: rest, 0 ≤ n) (hR : varS (n0 :: rest) = some R) : VarClm w mean mg mb (n0 :: rest) R := by
  k_with_none
  (k_with "call builtin:next" => (k_here; k_dflt (refine' next_int ?kF ?kN ?ki ?kl ?kne1 ?kx ?_; (case kF => k_asm); (case kN => k_asm); (case ki => k_asm); (case kl => first | k_asm | exact stays_list (Fr.keep (by k_asm)) (by k_asm)); (case kne1 => assumption); (case kx => first | assumption | exact var_item (by assumption) (by assumption) (by assumption))); intro t' h' o' F' N' i' l'))
  (k_with "inplaceOp LShift int int" => (refine ilshift_int (by decide) (var_bits (by assumption)) ?_))
  delta VarClm
  k_fill
  intro I l oI its dp un gd cn cs a ccd cl outer A₀ base h₀ L m s Q E B0 F0 X0 T0 hk0 N0 hLi hl0 hlI hints hd0 hu0 hret
  have hx0 := ints_at hints 0 n0 rfl
  simp only [Array.getElem?_toList] at hx0
  refine wpAny_call ?_
  k_dflt (refine' enterZ1 ?k1 ?k2 ?k3 ?k5 ?kN ?kl ?kne ?kA ?kF ?kK ?k6 ?k7 ?k8 ?k9 ?kB ?_ ?c2 ?c3 ?c4 ?c5; (case kA => exact rfl); (case kF => exact rfl); (case kK => assumption); (case k1 => k_asm); (case k2 => k_asm); (case k3 => k_asm); (case k5 => k_asm); (case kN => k_asm); (case kl => k_asm); (case kne => k_asm); (case k6 => k_is); (case k7 => k_is); (case k8 => ktr_room); (case k9 => exact BindsTo.of_eq rfl); (case c5 => decide); (case kB => exact locs rfl); (case c2 => exact rfl); (case c3 => exact rfl); (case c4 => exact rfl); k_whole; intro g' L' h' FG' F' N' lst' B' X' T'; (try dsimp only); (try k_lift B'); (try k_fold))
  (k_with "exec While BinOp cons nil" => (refine' ksw_while (fun c : VarSt => [(I, c.o)]) (fun c => [(Str.ofString "val", .int c.val c.tv), (Str.ofString "b", .int c.b c.tb)]) (fun c => Li c.o l c.i) [] (VarP (n0 :: rest) R) (fun c => (n0 :: rest).length - c.i) ⟨1, _, Builtin.bitAnd n0 63, _, n0, _⟩ ?F ?N ?hf ?hk ?hp ?turn; (case F => k_asm); (case N => k_asm); (case hf => k_asm); (case hk => kst_all); (case hp => exact var_start hlen hns hR _ _ _); intro c9 u9 h9 tk9 hf9 hp9 F9 N9))
  k_steps
  · rename News _ _ _ _ => nE'
    rename (_ ≠ (0 : Int)) => hb0
    rename Li _ l (c9.i + 1) => hLi2
    have hv := var_next hp9 hb0 hns
    exact ksw_end ⟨c9.i + 1, _, _, _, _, _⟩ (by assumption) nE' (by kst_in) hLi2 (by kst_all) (by intro z h2 _; simp only [List.forall_mem_cons, List.not_mem_nil, false_implies, implies_true, and_true, ne_eq] at h2; simp [h2, kstB]) (hv _ _ _).1 (hv oI 0 0).2
  · rename (_ = (0 : Int)) => hb0
    rw [var_end hp9 hb0]
    exact hret _ _ _ (by assumption) (by assumption)
theorem VarClm.use {w : World} {mean : ExcName → Option Value} {mg mb : Str → Option Value} {ns : List Int} {R : Int} (C : VarClm w mean mg mb ns R) {I l : Addr} {oI : Obj} {its : Array Value} {dp un : Nat} {gd : Option (List Code)} {cn : Str} {cs : Scope} {a : Addr} {ccd : Value} {cl : List (Str × Addr)} {outer : List Env} {A₀ : Around} {base h₀ : Heap} {L : Addr} {m : Str → Option Value} {s : Shared} {Q E : Value → Shared → Prop}
    (B : Below A₀ base outer h₀) (F : Fr h₀ L s.heap m) (X : (hdA.heap_1_1 w.params).In h₀) (T : Top topProg lsT mean mg mb h₀) (hk : cs.kind = .function) (N : News h₀ L s.heap [(I, oI)]) (hi : Li oI l 0) (hl : s.heap.IsList l its) (hne : l ≠ I) (hn : IntsAre its.toList ns) (hd : dp + 1 < recursionLimit) (hu : un + 8 < cLine)
    (h : ∀ (t : Tok) (h' : Heap) (tk' : Nat), Fr h₀ L h' m → (∀ b o, b ≠ I → s.heap.get? b = some o → h'.get? b = some o) → Q (.int R t) { s with heap := h', toks := tk' }) :
    wpAny (model PySem.Challenge.rw_tc0048_01.row.prog w) (ktrTop dp un gd cn cs L a ccd cl outer) (call (.ref 46) [.ref I]) Q E s := C _ _ _ _ _ _ _ _ _ _ _ _ _ _ _ _ _ _ _ _ _ B F X T hk N hi hl hne hn hd hu h
theorem nilOf {h₀ h : Heap} {L : Addr} {m : Str → Option Value} (_F : Fr h₀ L h m) : News h₀ L h [] := News.nil
end Mine
end
section
open PySem PySem.W PyProof.Rows PySem.Calls PySem.Spec
set_option Elab.async false
set_option maxRecDepth 100000
set_option maxHeartbeats 4000000
namespace Mine
noncomputable def GOrd (v y : Value) : Prop := ∃ (c : Nat) (t t' : Tok), v = .str ⟨#[c]⟩ t ∧ y = .int (64 + (c : Int)) t'
theorem ord_list {x : Str} : ∀ {l : List Nat} {vs ys : List Value}, (∀ (j : Nat) v, vs[j]? = some v → ∃ c t', l[j]? = some c ∧ v = Value.str ⟨#[c]⟩ t') → vs.length = l.length → Paired GOrd vs ys → IntsAre ys (l.map fun (c : Nat) => 64 + (c : Int))
  | [], [], _, _, _, .nil => .nil
  | [], _ :: _, _, _, h, _ => by simp at h
  | _ :: _, [], _, _, h, _ => by simp at h
  | c :: l, v :: vs, _, hP, hl, .cons g r => by
    obtain ⟨c', t, t', e1, rfl⟩ := g
    obtain ⟨c2, t2, e2, e3⟩ := hP 0 v rfl
    simp only [List.getElem?_cons_zero, Option.some.injEq] at e2
    subst e2
    rw [e3] at e1
    have : c' = c := by
      have := congrArg (fun v => match v with | Value.str y _ => y.cps | _ => #[]) e1
      simp at this; exact this.symm
    subst this
    exact .cons _ _ (ord_list (x := x) (fun j v hv => hP (j + 1) v (by simpa using hv)) (by simpa using hl) r)
noncomputable def octs (x : Str) : List Int := match x.cps.toList.map (fun (c : Nat) => 64 + (c : Int)) ++ [13] with
  | [] => []
  | n :: r => (n + 128) :: r
theorem octs_nonneg (x : Str) : ∀ n ∈ octs x, 0 ≤ n := by
  have h : ∀ n ∈ x.cps.toList.map (fun (c : Nat) => 64 + (c : Int)) ++ [13], (0 : Int) ≤ n := by
    intro n hn
    rcases List.mem_append.mp hn with h | h
    · obtain ⟨c, _, rfl⟩ := List.mem_map.mp h; omega
    · simp at h; omega
  unfold octs
  cases e : x.cps.toList.map (fun (c : Nat) => 64 + (c : Int)) ++ [13] with
  | nil => simp
  | cons a r =>
    rw [e] at h
    intro n hn
    rcases List.mem_cons.mp hn with rfl | hn
    · have := h a (.head _); omega
    · exact h n (.tail _ hn)
theorem octs_split (x : Str) : ∃ n r, x.cps.toList.map (fun (c : Nat) => 64 + (c : Int)) ++ [13] = n :: r ∧ octs x = (n + 128) :: r := by
  unfold octs
  cases e : x.cps.toList.map (fun (c : Nat) => 64 + (c : Int)) ++ [13] with
  | nil => simp at e
  | cons a r => exact ⟨a, r, rfl, rfl⟩
theorem octs_length (x : Str) : (octs x).length = x.length + 1 := by
  obtain ⟨n, r, e, e2⟩ := octs_split x
  have := congrArg List.length e
  rw [e2]; simp at this ⊢; simp [Str.length]; omega
theorem ints_cons {us : List Value} {n : Int} {r : List Int} (h : IntsAre us (n :: r)) : ∃ t us', us = .int n t :: us' ∧ IntsAre us' r := by
  cases h with
  | cons _ t h => exact ⟨t, _, rfl, h⟩
theorem number_c (w : World) (mean) (mg mb) (x : Str) (t : Tok) (R : Int) : ClmN 0 2 w mean mg mb 229 (x.length ≤ 12 ∧ varS (octs x) = some R) [.str x t] (fun t => .int R t) := by
  k_with_none
  (k_with "eval ListComp" => (k_here; k_dflt (refine CGo.use (fun _ => true) GOrd (by k_asm) (by with_unfolding_all rfl) (by decide) (by rfl) (by decide) (by rfl) ?_)))
  (k_with "call builtin:iter" => (k_here; k_dflt (refine' iter_li ?kF ?kN ?kl ?_; (case kF => k_asm); (case kN => k_asm); (case kl => kmk_list)); intro I h' oI F' N' lt' Li'; (try k_lt lt')))
  (try delta Clm); delta ClmN
  k_fill
  intros
  rename_i hret
  rename (_ ∧ _) => hpre
  obtain ⟨hlx, hvar⟩ := hpre
  obtain ⟨n0, rest, hn0, hoct⟩ := octs_split x
  refine wpAny_call ?_
  k_dflt (refine' enterZ ?k1 ?k2 ?k3 ?k5 ?kA ?kF ?kK ?k6 ?k7 ?k8 ?k9 ?kB ?_ ?c2 ?c3 ?c4 ?c5; (case kA => exact rfl); (case kF => exact rfl); (case kK => assumption); (case k1 => k_asm); (case k2 => k_asm); (case k3 => k_asm); (case k5 => k_asm); (case k6 => k_is); (case k7 => k_is); (case k8 => ktr_room); (case k9 => exact BindsTo.of_eq rfl); (case c5 => decide); (case kB => exact locs rfl); (case c2 => exact rfl); (case c3 => exact rfl); (case c4 => exact rfl); k_whole; intro g' L' h' FG' F' N' B' X' T'; (try dsimp only); (try k_lift B'); (try k_fold))
  k_steps
  refine ⟨_, _, PySem.SignAt x, by k_asm, by k_asm, ?hsz, iter_str rfl, ?tests, ?elts, ?fin⟩
  case hsz =>
    have e9 : sizeLine = 2 ^ 24 := rfl
    have l9 : x.length ≤ 12 := (by assumption)
    simp only [Str.length] at l9
    omega
  case tests => intro i v hP C oC m₃ s₃ hC hx ht F3 N3 E'; exact wpAny_pure ⟨rfl, ⟨_, _, rfl, fun _ _ e => e⟩⟩
  case elts =>
    intro i v hP hp C oC m₃ s₃ hC hx ht F3 N3 E'
    obtain ⟨c, t', hc, rfl⟩ := hP
    k_steps
    · exact ⟨_, _, _, rfl, rfl⟩
    · exact ⟨_, _, rfl, fun _ _ e => e⟩
  case fin =>
    intro D h tk ys vs k F N hne hlen hP hpair
    have hI : IntsAre ys.toList (x.cps.toList.map fun (c : Nat) => 64 + (c : Int)) := ord_list (x := x) (fun j v hv => by obtain ⟨c, t', a, b⟩ := hP j v hv; exact ⟨c, t', by simpa using a, b⟩) (by simpa using hlen) (by rwa [List.filter_eq_self.mpr (by simp)] at hpair)
    (try dsimp only)
    (k_with "binaryOp Add ref ref" => (refine' kmk_add_ints ?F ?N ?a ?b ?i ?j ?_ ?z; (case F => k_asm); (case N => k_asm); (case a => kmk_list); (case b => kmk_list); (case i => assumption); (case j => l_ints); (case z => (simp only [Str.length] at hlx; simp only [List.length_map, List.length_cons, List.length_nil, sizeLine_eq, Array.length_toList]; omega)); intro D' ws' h' F' N' l1 hI'; (try k_lt l1); (rw [hn0] at hI'); (obtain ⟨t0, us', rfl, hI2⟩ := ints_cons hI')))
    (k_with "call ref" => (k_dflt (refine' (varint_c w mean mg mb (n0 + 128) rest R ?v1 ?v2 ?v3).use ?k1 ?k2 ?k3 ?k4 ?k5 ?k6 ?k7 ?k8 ?k9 ?ki ?kd ?ku ?_; (case v1 => (have e9 := octs_length x; rw [hoct] at e9; rw [e9]; omega)); (case v2 => (rw [← hoct]; exact octs_nonneg x)); (case v3 => (rw [← hoct]; exact hvar)); (case k1 => k_asm); (case k2 => k_asm); (case k3 => k_asm); (case k4 => k_asm); (case k5 => first | exact rfl | assumption); (case k6 => exact kst_newsOf (by k_asm) (by kst_in)); (case k7 => k_asm); (case k8 => kmk_list); (case k9 => k_ne); (case ki => l_ints); (case kd => ktr_room); (case ku => ktr_units)); intro t9 h9 tk9 F9 kp9; have N9 := nilOf F9; (try dsimp only); (try k_fold)))
    (k_with "forall" => (exact fun kk => hret _ _ _ (by assumption) kk))
    k_steps
end Mine
end
section
open PySem PySem.W PyProof.Rows PySem.Calls PySem.Spec
set_option Elab.async false
set_option maxRecDepth 100000
set_option maxHeartbeats 4000000
namespace Mine
noncomputable def Sig (x : Str) : Prop := ∀ c ∈ x.cps.toList, c = 46 ∨ c = 9
theorem varV_some : ∀ (l : List Int) (b val : Int) (k : Nat), (∀ n ∈ l, n = 110 ∨ n = 73) → Builtin.bitAnd b 64 ≠ 0 → 0 ≤ val → val < 64 ^ k → ∃ R, varV b val (l ++ [13]) = some R ∧ 0 ≤ R ∧ R < 64 ^ (k + l.length + 1)
  | [], b, val, k, _, hb, h0, h1 => by
    refine ⟨Builtin.bitOr (val * 2 ^ (6 : Int).toNat) (Builtin.bitAnd 13 63), ?_, ?_⟩
    · show varV b val [13] = _
      rw [varV, if_neg hb, varV, if_pos (by decide)]
    · rw [or_step h0 (by omega)]
      have h1' : val + 1 ≤ 64 ^ k := h1
      simp only [List.length_nil, Nat.add_zero, Int.pow_succ]
      generalize (64 : Int) ^ k = z at *
      omega
  | n :: l, b, val, k, hl, hb, h0, h1 => by
    have hn := hl n (.head _)
    have hn2 : Builtin.bitAnd n 64 ≠ 0 ∧ 0 ≤ n := by
      rcases hn with rfl | rfl <;> decide
    have e := or_step h0 hn2.2
    have h1' : val + 1 ≤ 64 ^ k := h1
    have hb2 : 0 ≤ Builtin.bitOr (val * 2 ^ (6 : Int).toNat) (Builtin.bitAnd n 63) := by rw [e]; omega
    have hb3 : Builtin.bitOr (val * 2 ^ (6 : Int).toNat) (Builtin.bitAnd n 63) < 64 ^ (k + 1) := by
      rw [e, Int.pow_succ]
      generalize (64 : Int) ^ k = z at *
      omega
    obtain ⟨R, e1, e2, e3⟩ := varV_some l n _ (k + 1) (fun m hm => hl m (.tail _ hm)) hn2.1 hb2 hb3
    refine ⟨R, ?_, e2, ?_⟩
    · show varV b val (n :: (l ++ [13])) = _
      rw [varV, if_neg hb]; exact e1
    · rw [List.length_cons, show k + (l.length + 1) + 1 = k + 1 + l.length + 1 by omega]; exact e3
noncomputable def numS (x : Str) : Int := (varS (octs x)).getD 0
theorem numS_some {x : Str} (h : Sig x) (hl : x.length ≤ 12) : varS (octs x) = some (numS x) ∧ 0 ≤ numS x ∧ numS x < 2 ^ 78 := by
  suffices ∃ R, varS (octs x) = some R ∧ 0 ≤ R ∧ R < 2 ^ 78 by
    obtain ⟨R, e, h1, h2⟩ := this
    unfold numS
    rw [e]; exact ⟨rfl, h1, h2⟩
  unfold octs
  have hm : ∀ n ∈ x.cps.toList.map (fun (c : Nat) => 64 + (c : Int)), n = 110 ∨ n = 73 := by
    intro n hn
    obtain ⟨c, hc, rfl⟩ := List.mem_map.mp hn
    rcases h c hc with rfl | rfl
    · exact .inl rfl
    · exact .inr rfl
  have hlen : (x.cps.toList.map (fun (c : Nat) => 64 + (c : Int))).length ≤ 12 := by simpa [Str.length] using hl
  cases e : x.cps.toList.map (fun (c : Nat) => 64 + (c : Int)) with
  | nil =>
    refine ⟨13, ?_, by omega, by omega⟩
    show varV (13 + 128) (Builtin.bitAnd (13 + 128) 63) [] = _
    decide
  | cons n r =>
    rw [e] at hm hlen
    have hn := hm n (.head _)
    have hn2 : Builtin.bitAnd (n + 128) 64 ≠ 0 ∧ 0 ≤ Builtin.bitAnd (n + 128) 63 ∧ Builtin.bitAnd (n + 128) 63 < 64 ^ 1 := by
      rcases hn with rfl | rfl <;> decide
    obtain ⟨R, e1, e2, e3⟩ := varV_some r (n + 128) _ 1 (fun m hm' => hm m (.tail _ hm')) hn2.1 hn2.2.1 hn2.2.2
    refine ⟨R, e1, e2, Int.lt_of_lt_of_le e3 ?_⟩
    have h64 : (64 : Nat) ^ (1 + r.length + 1) ≤ 64 ^ 13 := Nat.pow_le_pow_right (by omega) (by simp at hlen; omega)
    have : (64 : Int) ^ (1 + r.length + 1) ≤ 64 ^ 13 := by exact_mod_cast h64
    exact Int.le_trans this (by decide)
end Mine
end
section
open PySem PySem.W PyProof.Rows PySem.Calls PySem.Spec
set_option Elab.async false
set_option maxRecDepth 100000
set_option maxHeartbeats 4000000
namespace Mine
open Builtin Builtin.Str StrLaws
noncomputable def esl (c : Nat) (d : List Nat) (l : List Nat) : List Nat := l.flatMap fun k => if k = c then d else [k]
theorem esl_free (c : Nat) (d : List Nat) : ∀ l : List Nat, c ∉ l → esl c d l = l
  | [], _ => rfl
  | k :: r, h => by
    have h1 : ¬ k = c := fun e => h (e ▸ List.mem_cons_self ..)
    have := esl_free c d r fun m => h (List.mem_cons_of_mem _ m)
    unfold esl at this ⊢
    rw [List.flatMap_cons, if_neg h1, this]; rfl
theorem esl_append (c : Nat) (d a b : List Nat) : esl c d (a ++ b) = esl c d a ++ esl c d b := by unfold esl; rw [List.flatMap_append]
theorem esl_one (c : Nat) (d : List Nat) : esl c d [c] = d := by simp [esl]
theorem esl_join (c : Nat) (d : Array Nat) : ∀ parts : List Str, (∀ p ∈ parts, c ∉ p.cps.toList) → esl c d.toList (Str.join ⟨#[c]⟩ parts).cps.toList = (Str.join ⟨d⟩ parts).cps.toList
  | [], _ => rfl
  | [p], h => esl_free c _ _ (h p (List.mem_singleton.mpr rfl))
  | p :: q :: r, h => by
    have ih := esl_join c d (q :: r) fun a ha => h a (List.mem_cons_of_mem _ ha)
    show esl c d.toList (p ++ ⟨#[c]⟩ ++ Str.join ⟨#[c]⟩ (q :: r)).cps.toList = (p ++ ⟨d⟩ ++ Str.join ⟨d⟩ (q :: r)).cps.toList
    simp only [Str.cps_append, Array.toList_append]
    rw [esl_append, esl_append, ih, esl_free c _ _ (h p (List.mem_cons_self ..))]
    show p.cps.toList ++ esl c d.toList [c] ++ _ = _
    rw [esl_one]
noncomputable def esub (x c d : Str) : Str := ⟨(esl (c.cps.toList.headD 0) d.cps.toList x.cps.toList).toArray⟩
theorem replace_esub (x d : Str) (c : Nat) : Txt.replace x ⟨#[c]⟩ d = esub x ⟨#[c]⟩ d := by
  have h := esl_join c d.cps (Txt.split x ⟨#[c]⟩) (split_free x c)
  rw [join_split] at h
  rw [replace_one]
  unfold esub
  show _ = (⟨(esl c d.cps.toList x.cps.toList).toArray⟩ : Str)
  rw [h]
theorem esub_none (x d : Str) (c : Nat) (h : (occurrences x ⟨#[c]⟩ 0 x.length 1).isEmpty = true) : esub x ⟨#[c]⟩ d = x := by
  have : c ∉ x.cps.toList := by
    have := found_one x c
    rw [h] at this
    simpa using this
  unfold esub
  show (⟨(esl c d.cps.toList x.cps.toList).toArray⟩ : Str) = x
  rw [esl_free c _ _ this]
theorem esub_len (x d c : Str) (h : d.length ≤ 6) : (esub x c d).length ≤ 6 * x.length := by
  have : ∀ l : List Nat, (esl (c.cps.toList.headD 0) d.cps.toList l).length ≤ 6 * l.length := by
    intro l
    induction l with
    | nil => simp [esl]
    | cons k r ih =>
      unfold esl at ih ⊢
      rw [List.flatMap_cons, List.length_append, List.length_cons]
      have : (if k = c.cps.toList.headD 0 then d.cps.toList else [k]).length ≤ 6 := by
        split
        · simpa [Str.length] using h
        · simp
      omega
  have := this x.cps.toList
  simpa [esub, Str.length] using this
noncomputable def EscPost (h₀ : Heap) (L : Addr) (m : Str → Option Value) (v : Str) (s : Shared) (fl : Flow) (s' : Shared) : Prop :=
  fl = .next ∧ ∃ t h tk, 1 ≤ tk ∧ Fr h₀ L h (fun y => if y = Str.ofString "text" then some (.str v t) else m y) ∧ s' = { s with heap := h, toks := tk }
section
variable {prog : Program} {w : World} {A : Around} {E : Value → Shared → Prop} {s : Shared} {h₀ : Heap} {L : Addr} {m : Str → Option Value} {env : Env} {x c d : Str} {Q : Flow → Shared → Prop}
variable {k1 k2 k3 : Tok} {p1 p2 p3 p4 p5 p6 p7 p8 p9 p10 p11 : Pos}
theorem esc_cut {t : Tok} (F : Fr h₀ L s.heap m) (_hx : m (Str.ofString "text") = some (.str x t))
    (h1 : wpAny (model prog w) A (exec (.If (.Compare (.Constant (.str c) k1 p1) [.In] [.Name (Str.ofString "text") p2] p3) [.Assign [.Name (Str.ofString "text") p4] (.Call (.Attribute (.Name (Str.ofString "text") p5) (Str.ofString "replace") p6) [.Constant (.str c) k2 p7, .Constant (.str d) k3 p8] [] p9) p10] [] p11) env) (EscPost h₀ L m (esub x c d) s) E s)
    (h2 : ∀ t h tk, 1 ≤ tk → Fr h₀ L h (fun y => if y = Str.ofString "text" then some (.str (esub x c d) t) else m y) → Q .next { s with heap := h, toks := tk }) :
    wpAny (model prog w) A (exec (.If (.Compare (.Constant (.str c) k1 p1) [.In] [.Name (Str.ofString "text") p2] p3) [.Assign [.Name (Str.ofString "text") p4] (.Call (.Attribute (.Name (Str.ofString "text") p5) (Str.ofString "replace") p6) [.Constant (.str c) k2 p7, .Constant (.str d) k3 p8] [] p9) p10] [] p11) env) Q E s :=
  wpAny_mono h1 (fun fl s' q => by obtain ⟨rfl, t, h, tk, a, b, rfl⟩ := q; exact h2 t h tk a b) fun _ _ e => e
theorem esc_guard {T : Sem Flow} (h : wpAny (model prog w) A T (EscPost h₀ L m x s) E s) : wpAny (model prog w) A T (EscPost h₀ L m x s) E s := h
theorem one_of {c : Str} (hc : c.cps.size = 1) : ∃ n, c = ⟨#[n]⟩ := by
  obtain ⟨a⟩ := c
  match a, hc with
  | ⟨[n]⟩, _ => exact ⟨n, rfl⟩
theorem esc_no {h : Heap} {tk : Nat} {t : Tok} (hc : c.cps.size = 1) (F : Fr h₀ L h m) (hx : m (Str.ofString "text") = some (.str x t)) (ho : (occurrences x c 0 x.length 1).isEmpty = true) (hk : 1 ≤ tk) :
    EscPost h₀ L m (esub x c d) s .next { s with heap := h, toks := tk } := by
  obtain ⟨n, rfl⟩ := one_of hc
  refine ⟨rfl, t, h, tk, hk, ?_, rfl⟩
  rw [esub_none x d n ho]
  have : (fun y => if y = Str.ofString "text" then some (Value.str x t) else m y) = m := by
    funext y
    split
    · next e => rw [e, hx]
    · rfl
  rw [this]; exact F
theorem esc_yes {h : Heap} {tk : Nat} {t : Tok} (hc : c.cps.size = 1) (F : Fr h₀ L h (fun y => if y = Str.ofString "text" then some (.str (Txt.replace x c d) t) else m y)) (hk : 1 ≤ tk) :
    EscPost h₀ L m (esub x c d) s .next { s with heap := h, toks := tk } := by
  obtain ⟨n, rfl⟩ := one_of hc
  exact ⟨rfl, t, h, tk, hk, by rw [← replace_esub]; exact F, rfl⟩
theorem nilOf' {h₀ h : Heap} {L : Addr} {m : Str → Option Value} (_F : Fr h₀ L h m) : News h₀ L h [] := News.nil
end
noncomputable def escS (x : Str) : List (String × String) → Str
  | [] => x
  | p :: r => escS (esub x (Str.ofString p.1) (Str.ofString p.2)) r
theorem tk_lift {prog : Program} {w : World} {A : Around} {E : Value → Shared → Prop} {α : Type} {t : Sem α} {Q : α → Shared → Prop} {h : Heap} {g d os} {k n : Nat} (hn : 1 ≤ n)
    (H : ∀ tk, 1 ≤ tk → wpAny (model prog w) A t Q E ⟨h, g, d, tk, os⟩) : wpAny (model prog w) A t Q E ⟨h, g, d, k + n, os⟩ := H _ (Nat.le_trans hn (Nat.le_add_left _ _))
end Mine
end
section
open PySem PySem.W PyProof.Rows PySem.Calls PySem.Spec
set_option Elab.async false
set_option maxRecDepth 100000
set_option maxHeartbeats 4000000
namespace Mine
noncomputable def QObj (w : World) (v : Str) (o : Obj) : Prop := ∃ tk tv, o = dictOf [{ hash := PyData.keyHash w.params (Str.ofString "text"), key := .str (Str.ofString "text") tk, val := .str v tv }] 1
noncomputable def QClm (lv : Nat) (w : World) (mean : ExcName → Option Value) (mg mb : Str → Option Value) (f : Addr) (pre : Prop) (vs : List Value) (v : Str) : Prop :=
  ∀ (dp un : Nat) (gd : Option (List Code)) (cn : Str) (cs : Scope) (a : Addr) (ccd : Value) (cl : List (Str × Addr)) (outer : List Env) (A₀ : Around) (base h₀ : Heap) (L : Addr) (m : Str → Option Value) (s : Shared) (Q E : Value → Shared → Prop),
    Below A₀ base outer h₀ → Fr h₀ L s.heap m → (hdA.heap_1_1 w.params).In h₀ → Top topProg lsT mean mg mb h₀ → cs.kind = .function → pre → dp + lv < recursionLimit → un + 8 * lv < cLine →
      (∀ (x d : Addr) (oD : Obj) (h' : Heap) (tk' : Nat), Fr h₀ L h' m → Kept s.heap h' → News h₀ L h' [(x, instObj 140 d), (d, oD)] → QObj w v oD → d < x → s.heap.get? x = none → s.heap.get? d = none → Q (.ref x) { s with heap := h', toks := tk' }) →
      wpAny (model PySem.Challenge.rw_tc0048_01.row.prog w) (ktrTop dp un gd cn cs L a ccd cl outer) (call (.ref f) vs) Q E s
theorem news_apart {h₀ h h' : Heap} {L : Addr} {news : List (Addr × Obj)} {x : Addr} (N : News h₀ L h news) (hx : h.get? x = none) : ∀ p ∈ news, p.1 ≠ x := fun p hp e => by
  have := (N p hp).1
  rw [e, hx] at this; cases this
theorem QClm.use {lv : Nat} {w : World} {mean : ExcName → Option Value} {mg mb : Str → Option Value} {f : Addr} {pre : Prop} {vs : List Value} {v : Str} (C : QClm lv w mean mg mb f pre vs v)
    {news : List (Addr × Obj)} {dp un : Nat} {gd : Option (List Code)} {cn : Str} {cs : Scope} {a : Addr} {ccd : Value} {cl : List (Str × Addr)} {outer : List Env} {A₀ : Around} {base h₀ : Heap} {L : Addr} {m : Str → Option Value} {s : Shared} {Q E : Value → Shared → Prop}
    (B : Below A₀ base outer h₀) (F : Fr h₀ L s.heap m) (X : (hdA.heap_1_1 w.params).In h₀) (N : News h₀ L s.heap news) (T : Top topProg lsT mean mg mb h₀) (hk : cs.kind = .function) (hp : pre) (hd : dp + lv < recursionLimit) (hu : un + 8 * lv < cLine)
    (hR : ∀ (x d : Addr) (oD : Obj) (h' : Heap) (tk' : Nat), Kept s.heap h' → Fr h₀ L h' m → News h₀ L h' ((x, instObj 140 d) :: (d, oD) :: news) → QObj w v oD → d < x → (∀ p ∈ news, p.1 ≠ x) → (∀ p ∈ news, p.1 ≠ d) → Q (.ref x) { s with heap := h', toks := tk' }) :
    wpAny (model PySem.Challenge.rw_tc0048_01.row.prog w) (ktrTop dp un gd cn cs L a ccd cl outer) (call (.ref f) vs) Q E s :=
  C dp un gd cn cs a ccd cl outer A₀ base h₀ L m s Q E B F X T hk hp hd hu fun x d oD h' tk' F' k N' hq hlt hx hd' =>
    hR x d oD h' tk' k F' (fun p hp => by
      rcases List.mem_cons.mp hp with rfl | hp
      · exact N' _ (.head _)
      · rcases List.mem_cons.mp hp with rfl | hp
        · exact N' _ (.tail _ (.head _))
        · exact ⟨k _ _ (N p hp).1, (N p hp).2⟩) hq hlt (news_apart (h' := h') N hx) (news_apart (h' := h') N hd')
section
variable {prog : Program} {w : World} {A₀ A : Around} {s : Shared} {base h₀ : Heap} {outer : List Env} {L : Addr} {m : Str → Option Value} {env : Env} {K : Frag} {p : Program} {ls : List Str} {mean : ExcName → Option Value} {mg mb : Str → Option Value}
  {R : Result → Shared → Prop} {name qual : Str} {params : Arguments} {body : List Stmt} {scope : Scope} {dV kV doc pm cdv ct oc : Value} {an od : Option Addr} {osl : Array (Option Value)} {f : Addr} {args : Args} {binds : List (Str × Value)}
theorem enterZG (B : Below A₀ base outer h₀) (F : Fr h₀ L s.heap m) (X₀ : K.In h₀) (T : Top p ls mean mg mb h₀) (hA : A.frames = some (env :: outer)) (hf : env.frame = some L) (hke : env.scope.kind = .function)
    (ho : K.lookup f = some ⟨oc, od, .func (fnOf name qual params body scope dV kV doc pm an cdv ct), osl⟩) (hcd : codeIn K cdv qual = true) (hroom : A.depth < recursionLimit)
    (hbind : BindsTo s (fnOf name qual params body scope dV kV doc pm an cdv ct) args binds) (hloc : ∀ y ∈ binds, scope.names.lookup y.1 = some .local)
    (h : ∀ g L' h₁, (∀ b, g.get? b = none → s.heap.get? b = none) → Fr h₀ L g m → Fr g L' h₁ (fun y => binds.reverse.lookup y) → News g L' h₁ [] → Below A base (env :: outer) g → K.In g → Top p ls mean mg mb g →
      wpAny (model prog w) (A.deeper (envOf qual scope L' f cdv)) (execs body (envOf qual scope L' f cdv))
        (fun fl s' => LeaveK h₀ L m g (fun r s'' => Kept s.heap s''.heap → R r s'') (match fl with | .ret v => v | _ => .none) s')
        (fun e s' => wpAny (model prog w) (A.deeper (envOf qual scope L' f cdv)) (leaving (envOf qual scope L' f cdv) e) (fun _ s'' => R (.error e) s'') (fun e' s'' => R (.error e') s'') s')
        { s with heap := h₁, toks := s.toks + binds.length })
    (hco : scope.isCoroutine = false) (hgen : scope.isGenerator = false) (hk : scope.kind = .function)
    (hcell : ∀ x ∈ scope.names, x.2 ≠ .cell) : codeAny (model prog w) A (.call (.ref f) args) R s :=
  code_defG B F X₀ News.nil T hA hf hke ho hcd hroom hbind hloc (fun g L' h₁ FG F' N' B' X' T' GS => wpAny_mono (h g L' h₁ (fun b e => by
    cases q : s.heap.get? b with
    | none => rfl
    | some o => rw [GS b o q (fun z => nomatch z)] at e; cases e) FG F' N' B' X' T') (fun fl s' hl => leave_kept (fun b o e => GS b o e (fun q => nomatch q)) hl) fun _ _ y => y) hco hgen hk hcell
end
end Mine
end
section
open PySem PySem.W PyProof.Rows PySem.Calls PySem.Spec
set_option Elab.async false
set_option maxRecDepth 100000
set_option maxHeartbeats 4000000
namespace Mine
noncomputable def stepF (lo hi : Int) : Nat → Int → Option Int
  | 0, _ => none
  | n + 1, st => if lo.fdiv st * st + st ≥ hi then stepF lo hi n (st.fdiv 2) else some st
structure BtSt where
  n : Nat
  st : Int
  t : Tok
noncomputable def BtP (lo hi S : Int) (c : BtSt) : Prop := stepF lo hi c.n c.st = some S ∧ 0 < c.st ∧ c.st ≤ 1024
theorem bt_next {lo hi S : Int} {c : BtSt} (h : BtP lo hi S c) (hc : lo.fdiv c.st * c.st + c.st ≥ hi) (t : Tok) (hS : 1 ≤ S) : BtP lo hi S ⟨c.n - 1, c.st.fdiv 2, t⟩ ∧ c.n - 1 < c.n := by
  obtain ⟨h1, h2, h3⟩ := h
  cases e : c.n with
  | zero => rw [e] at h1; cases h1
  | succ n =>
    rw [e, stepF, if_pos hc] at h1
    have h4 : 0 < c.st.fdiv 2 := by
      rw [Int.fdiv_eq_ediv_of_nonneg _ (by omega)]
      false_or_by_contra
      have h5 : c.st / 2 = 0 := by omega
      rw [Int.fdiv_eq_ediv_of_nonneg _ (by omega), h5] at h1
      cases n with
      | zero => cases h1
      | succ n =>
        rw [stepF] at h1
        split at h1
        · have : ∀ k, stepF lo hi k ((0 : Int).fdiv 2) ≠ some S := by
            intro k
            induction k with
            | zero => intro q; cases q
            | succ k ih =>
              rw [stepF, Int.zero_fdiv]
              split
              all_goals (intro q; first | exact ih q | (rw [← Int.zero_fdiv 2] at q; rw [Int.zero_fdiv] at q ih; exact ih q) | (injection q with q; omega))
          exact this _ h1
        · simp only [Option.some.injEq] at h1; omega
    refine ⟨⟨h1, h4, ?_⟩, by omega⟩
    show c.st.fdiv 2 ≤ 1024
    rw [Int.fdiv_eq_ediv_of_nonneg _ (by omega)]; omega
theorem bt_end {lo hi S : Int} {c : BtSt} (h : BtP lo hi S c) (hc : lo.fdiv c.st * c.st + c.st < hi) : c.st = S := by
  obtain ⟨h1, h2, h3⟩ := h
  cases e : c.n with
  | zero => rw [e] at h1; cases h1
  | succ n => rw [e, stepF, if_neg (by omega)] at h1; simpa using h1
noncomputable def btL (lo S : Int) (n : Nat) : List Int := (List.range n).map fun (i : Nat) => lo.fdiv S * S + S + (i : Int) * S
theorem ints_of {f : Nat → Int} : ∀ (vs : List Value) (k : Nat), (∀ (j : Nat) v, vs[j]? = some v → ∃ t, v = .int (f (k + j)) t) → IntsAre vs ((List.range' k vs.length).map f)
  | [], _, _ => .nil
  | v :: r, k, h => by
    obtain ⟨t, e⟩ := h 0 v rfl
    rw [e]
    refine .cons _ _ (ints_of r (k + 1) fun j v hv => ?_)
    obtain ⟨t, e⟩ := h (j + 1) v (by simpa using hv)
    exact ⟨t, by rw [e, show k + (j + 1) = k + 1 + j by omega]⟩
theorem paired_eq : ∀ {vs ys : List Value}, Paired (fun v y => y = v) vs ys → ys = vs
  | _, _, .nil => rfl
  | _, _, .cons e r => by rw [e, paired_eq r]
end Mine
end
section
open PySem PySem.W PyProof.Rows PySem.Calls PySem.Spec
set_option Elab.async false
set_option maxRecDepth 100000
set_option maxHeartbeats 4000000
namespace Mine
theorem hide_none {h : Heap} {b : Addr} (e : (hideAll h (([] : List (Addr × Obj)).map (·.1))).get? b = none) : h.get? b = none := by
  cases q : h.get? b with
  | none => rfl
  | some o => rw [hideAll_get _ q (by simp)] at e; cases e
section
variable {prog : Program} {w : World} {A₀ A : Around} {s : Shared} {base h₀ : Heap} {outer : List Env} {L : Addr} {m : Str → Option Value} {env : Env} {K : Frag} {p : Program} {ls : List Str} {mean : ExcName → Option Value} {mg mb : Str → Option Value}
  {R : Result → Shared → Prop} {name qual : Str} {params : Arguments} {body : List Stmt} {scope : Scope} {dV kV doc pm cdv ct oc : Value} {an od : Option Addr} {osl : Array (Option Value)} {f : Addr} {args : Args} {binds : List (Str × Value)}
theorem enterZCG (B : Below A₀ base outer h₀) (F : Fr h₀ L s.heap m) (X₀ : K.In h₀) (T : Top p ls mean mg mb h₀) (hA : A.frames = some (env :: outer)) (hf : env.frame = some L) (hke : env.scope.kind = .function)
    (ho : K.lookup f = some ⟨oc, od, .func (fnOf name qual params body scope dV kV doc pm an cdv ct), osl⟩) (hcd : codeIn K cdv qual = true) (hroom : A.depth < recursionLimit)
    (hbind : BindsTo s (fnOf name qual params body scope dV kV doc pm an cdv ct) args binds) (hkind : (binds.all fun y => scope.names.lookup y.1 == some .local || scope.names.lookup y.1 == some .cell) = true)
    (hnd : ((cellsFrom 0 scope.names []).map (·.1)).Nodup)
    (h : ∀ g, (∀ b, g.get? b = none → s.heap.get? b = none) → ∀ L' h₁ tk cells, Fr h₀ L g m → Fr g L' h₁ (bindL (envOfC qual scope L' f cdv).kindOf binds fun _ => none) → News g L' h₁ cells →
      CellsAre (bindC (envOfC qual scope L' f cdv).kindOf binds fun _ => none) (cellsFrom (L' + 1) scope.names []) cells → Below A base (env :: outer) g → K.In g → Top p ls mean mg mb g →
      wpAny (model prog w) (A.deeper (envOfC qual scope L' f cdv)) (execs body (envOfC qual scope L' f cdv))
        (fun fl s' => LeaveK h₀ L m g (fun r s'' => Kept s.heap s''.heap → R r s'') (match fl with | .ret v => v | _ => .none) s')
        (fun e s' => wpAny (model prog w) (A.deeper (envOfC qual scope L' f cdv)) (leaving (envOfC qual scope L' f cdv) e) (fun _ s'' => R (.error e) s'') (fun e' s'' => R (.error e') s'') s')
        { s with heap := h₁, toks := tk })
    (hco : scope.isCoroutine = false) (hgen : scope.isGenerator = false) (hk : scope.kind = .function) : codeAny (model prog w) A (.call (.ref f) args) R s := by
  obtain ⟨FG, BG, st, lv⟩ := groundX (R := R) B F (News.nil (h := s.heap) (L := L)) hA hf hke
  refine codeAny_call_function hroom ((X₀.keeps F.keep) _ _ ho) rfl hco hgen rfl (codeRec_of (X₀.keeps F.keep) hcd) (hbind _ _ _ _ ?_)
  refine wpAny_newFunctionEnv_cells hk (kindsX hkind _) fun env' he s' x => ?_
  subst he
  refine ⟨(T.nolimit.keeps F.keep).keeps x.toInCall.keep, codeAny_func ?_⟩
  obtain ⟨h₁, tk, rfl, _⟩ := x.done
  have hk₁ := x.toInCall.keep
  obtain ⟨cells, NC, Y⟩ := Cl.news (h₀ := s.heap) (Nat.le_refl _) fun n c hm => ⟨x.cell n c (lookup_of_mem_nodup (cellsFrom_names scope.names 0 (s.heap.objs.size + 1) [] [] rfl ▸ hnd) hm), x.above n c hm⟩
  refine wpAny_mono (h _ (fun b e => hide_none e) s.heap.objs.size h₁ tk cells FG ⟨x.toInCall.ns, fun b o e => hk₁ b o (of_hideAll _ e), Nat.le_of_eq (hideAll_size _ _)⟩ (fun p hp => ⟨(NC p hp).1, (NC p hp).2.1, ?_⟩) Y BG (X₀.keeps st) (T.keeps st))
    (fun fl s' hl => lv _ _ (leave_kept (fun b o e => hideAll_get _ e (fun q => nomatch q)) hl)) fun _ _ y => y
  cases q : (hideAll s.heap (([] : List (Addr × Obj)).map (·.1))).get? p.1 with
  | none => rfl
  | some o => have := of_hideAll _ q; rw [(NC p hp).2.2] at this; cases this
end
noncomputable def LClm (lv : Nat) (w : World) (mean : ExcName → Option Value) (mg mb : Str → Option Value) (f : Addr) (pre : Prop) (vs : List Value) (zs : List Int) : Prop :=
  ∀ (dp un : Nat) (gd : Option (List Code)) (cn : Str) (cs : Scope) (a : Addr) (ccd : Value) (cl : List (Str × Addr)) (outer : List Env) (A₀ : Around) (base h₀ : Heap) (L : Addr) (m : Str → Option Value) (s : Shared) (Q E : Value → Shared → Prop),
    Below A₀ base outer h₀ → Fr h₀ L s.heap m → (hdA.heap_1_1 w.params).In h₀ → Top topProg lsT mean mg mb h₀ → cs.kind = .function → pre → dp + lv < recursionLimit → un + 8 * lv < cLine →
      (∀ (D : Addr) (ys : List Value) (k : Nat) (h' : Heap) (tk' : Nat), Fr h₀ L h' m → Kept s.heap h' → News h₀ L h' [(D, listOf ys.toArray k)] → IntsAre ys zs → s.heap.get? D = none → Q (.ref D) { s with heap := h', toks := tk' }) →
      wpAny (model PySem.Challenge.rw_tc0048_01.row.prog w) (ktrTop dp un gd cn cs L a ccd cl outer) (call (.ref f) vs) Q E s
theorem LClm.use {lv : Nat} {w : World} {mean : ExcName → Option Value} {mg mb : Str → Option Value} {f : Addr} {pre : Prop} {vs : List Value} {zs : List Int} (C : LClm lv w mean mg mb f pre vs zs)
    {news : List (Addr × Obj)} {dp un : Nat} {gd : Option (List Code)} {cn : Str} {cs : Scope} {a : Addr} {ccd : Value} {cl : List (Str × Addr)} {outer : List Env} {A₀ : Around} {base h₀ : Heap} {L : Addr} {m : Str → Option Value} {s : Shared} {Q E : Value → Shared → Prop}
    (B : Below A₀ base outer h₀) (F : Fr h₀ L s.heap m) (X : (hdA.heap_1_1 w.params).In h₀) (N : News h₀ L s.heap news) (T : Top topProg lsT mean mg mb h₀) (hk : cs.kind = .function) (hp : pre) (hd : dp + lv < recursionLimit) (hu : un + 8 * lv < cLine)
    (hR : ∀ (D : Addr) (ys : List Value) (k : Nat) (h' : Heap) (tk' : Nat), Kept s.heap h' → Fr h₀ L h' m → News h₀ L h' ((D, listOf ys.toArray k) :: news) → IntsAre ys zs → (∀ p ∈ news, p.1 ≠ D) → Q (.ref D) { s with heap := h', toks := tk' }) :
    wpAny (model PySem.Challenge.rw_tc0048_01.row.prog w) (ktrTop dp un gd cn cs L a ccd cl outer) (call (.ref f) vs) Q E s :=
  C dp un gd cn cs a ccd cl outer A₀ base h₀ L m s Q E B F X T hk hp hd hu fun D ys k h' tk' F' kk N' hi hx =>
    hR D ys k h' tk' kk F' (fun p hp => by
      rcases List.mem_cons.mp hp with rfl | hp
      · exact N' _ (.head _)
      · exact ⟨kk _ _ (N p hp).1, (N p hp).2⟩) hi (news_apart (h' := h') N hx)
theorem iter_tuple {prog : Program} {w : World} {A : Around} {s : Shared} {ax : Addr} {its : Array Value} (hh : A.handled = none) (hl : s.heap.IsTuple ax its) : IterOf prog w A (.ref ax) s its.size (fun i v => its[i]? = some v) := by
  intro Q E h
  have hlt : ax < s.heap.objs.size := by obtain ⟨_, e, _⟩ := hl; exact Heap.lt_size e
  refine wpAny_pyIter_tuple hl ?_
  refine h _ _ _ (fun b o e => Heap.get?_push_of_some _ e) (by rw [Heap.size_push]; exact Nat.le_succ _) (Walks.tuple hh s.heap.objs.size ax (Nat.ne_of_lt hlt) its) ⟨⟨_, Heap.get?_push_size _ rfl, rfl, rfl⟩, hl.push _⟩ (fun b hb => ?_)
  show b < (s.heap.push _).objs.size
  rw [Heap.size_push]
  rcases List.mem_cons.mp hb with rfl | hb
  · exact Nat.lt_succ_self _
  · rw [List.mem_singleton.mp hb]; exact Nat.lt_succ_of_lt hlt
theorem ist_of {h : Heap} {a : Addr} {its : Array Value} {c : Nat} (e : h.get? a = some { cls := .type "tuple", data := .seq its c }) : h.IsTuple a its := by unfold Heap.IsTuple; exact ⟨_, e, rfl, _, rfl⟩
theorem fr_three {a b c v : Value} {i : Nat} (h : (#[a, b, c] : Array Value)[i]? = some v) : (i = 0 ∧ v = a) ∨ (i = 1 ∧ v = b) ∨ (i = 2 ∧ v = c) := by
  match i, h with
  | 0, h => exact .inl ⟨rfl, by simpa using h.symm⟩
  | 1, h => exact .inr (.inl ⟨rfl, by simpa using h.symm⟩)
  | 2, h => exact .inr (.inr ⟨rfl, by simpa using h.symm⟩)
  | n + 3, h => simp at h
structure FrSt where
  x : Str
  t : Tok
  o : Obj
  ys : List Value
  n : Nat
  zs : List Int
noncomputable def frontL : List Nat → List Int
  | 46 :: 46 :: 46 :: r => 52 :: frontL r
  | 46 :: r => 23 :: frontL r
  | _ => []
noncomputable def FrP (row : Str) (c : FrSt) : Prop := IntsAre c.ys c.zs ∧ c.zs ++ frontL c.x.cps.toList = frontL row.cps.toList ∧ Sig c.x ∧ c.x.length + c.zs.length ≤ 12
noncomputable def frB : List Nat → Bool
  | [46] => true
  | [46, 46, 46] => true
  | _ => false
noncomputable def frTest (x : Str) : Value → Bool
  | .int k _ => frB (x.cps.toList.take k.toNat)
  | _ => false
theorem fr_take (x : Str) (k : Nat) : Txt.slice x none (some (k : Int)) = ⟨(x.cps.toList.take k).toArray⟩ := by
  have hl : x.cps.toList.length = x.length := rfl
  by_cases h : k ≤ x.length
  · have := beq_iff_eq.mp (slice_closes_toL (x := x) (j := (k : Int)) (by omega) (by omega))
    simpa using this
  · rw [slice_to_beyond (by omega)]
    have := beq_iff_eq.mp (slice_closes_toL (x := x) (j := (x.length : Int)) (by omega) (by omega))
    rw [this, List.take_of_length_le (i := k) (by omega)]
    simp [List.take_of_length_le, hl]
theorem fr_all : ∀ l : List Nat, (∀ c ∈ l, c = 46 ∨ c = 9) → l.length ≤ 3 → l ∈ ([[], [46], [9], [46, 46], [46, 9], [9, 46], [9, 9], [46, 46, 46], [46, 46, 9], [46, 9, 46], [46, 9, 9], [9, 46, 46], [9, 46, 9], [9, 9, 46], [9, 9, 9]] : List (List Nat)) := by
  intro l h hl
  match l, h, hl with
  | [], _, _ => exact .head _
  | [a], h, _ => rcases h a (.head _) with rfl | rfl <;> decide
  | [a, b], h, _ => rcases h a (.head _) with rfl | rfl <;> rcases h b (.tail _ (.head _)) with rfl | rfl <;> decide
  | [a, b, c], h, _ => rcases h a (.head _) with rfl | rfl <;> rcases h b (.tail _ (.head _)) with rfl | rfl <;> rcases h c (.tail _ (.tail _ (.head _))) with rfl | rfl <;> decide
  | _ :: _ :: _ :: _ :: _, _, hl => simp at hl
theorem fr_sig {x : Str} (h : Sig x) (k : Nat) : ∀ c ∈ x.cps.toList.take k, c = 46 ∨ c = 9 := fun c hc => h c (List.mem_of_mem_take hc)
noncomputable def FrGo (x : Str) (k : Int) (y : Str) (v : Int) : Prop := Txt.slice x none (some k) = y ∧ ∃ r : Str, Txt.slice x (some k) none = r ∧ frontL x.cps.toList = v :: frontL r.cps.toList ∧ Sig r ∧ r.length + 1 ≤ x.length
theorem fr_from {x : Str} {k : Nat} (h : k ≤ x.length) : Txt.slice x (some (k : Int)) none = ⟨(x.cps.toList.drop k).toArray⟩ := by
  have hl : x.cps.toList.length = x.length := rfl
  rw [slice_from_eq (b := (x.length : Int)) (by omega) (by omega) rfl]
  rw [List.take_of_length_le]
  · simp
  · rw [List.length_drop, hl]; omega
theorem fr_go {x : Str} {k : Nat} {y : Str} {v : Int} {l : List Nat} (hs : Sig x) (h1 : 1 ≤ k) (hk : k ≤ x.length) (hy : (⟨(x.cps.toList.take k).toArray⟩ : Str) = y) (hv : frontL x.cps.toList = v :: frontL (x.cps.toList.drop k)) : FrGo x k y v := by
  have hl : x.cps.toList.length = x.length := rfl
  refine ⟨(fr_take x k).trans hy, _, fr_from hk, by simpa using hv, fun c hc => hs c (List.mem_of_mem_drop (by simpa using hc)), ?_⟩
  show (x.cps.toList.drop k).toArray.size + 1 ≤ _
  rw [List.size_toArray, List.length_drop, hl]; omega
theorem fr_shape {x : Str} (h : Sig x) :
    (frB (x.cps.toList.take 3) = false ∧ frB (x.cps.toList.take 2) = false ∧ frB (x.cps.toList.take 1) = false ∧ frontL x.cps.toList = []) ∨
    (frB (x.cps.toList.take 3) = false ∧ frB (x.cps.toList.take 2) = false ∧ frB (x.cps.toList.take 1) = true ∧ FrGo x 1 (Str.ofString ".") 23) ∨
    (frB (x.cps.toList.take 3) = true ∧ frB (x.cps.toList.take 2) = false ∧ frB (x.cps.toList.take 1) = true ∧ FrGo x 3 (Str.ofString "...") 52) ∨
    (frB (x.cps.toList.take 3) = true ∧ frB (x.cps.toList.take 2) = true ∧ frB (x.cps.toList.take 1) = true ∧ FrGo x 3 (Str.ofString ".") 23) := by
  have hl : x.cps.toList.length = x.length := rfl
  cases e : x.cps.toList with
  | nil => exact .inl ⟨rfl, rfl, rfl, rfl⟩
  | cons a r1 =>
    rcases h a (by rw [e]; exact .head _) with rfl | rfl
    · cases r1 with
      | nil =>
        have ex : x = Str.ofString "." := str_toList e
        refine .inr (.inr (.inr ⟨rfl, rfl, rfl, ?_⟩))
        rw [ex]
        exact ⟨by decide, Str.ofString "", by decide, by decide, (fun c hc => nomatch hc), by decide⟩
      | cons b r2 =>
        have one : frB (46 :: b :: r2 |>.take 3) = false → frontL (46 :: b :: r2) = 23 :: frontL (b :: r2) → FrGo x 1 (Str.ofString ".") 23 := fun _ hv =>
          fr_go (k := 1) (l := []) h (Nat.le_refl _) (by rw [← hl, e]; simp) (by rw [e]; rfl) (by rw [e]; exact hv)
        rcases h b (by rw [e]; exact .tail _ (.head _)) with rfl | rfl
        · cases r2 with
          | nil => exact .inr (.inl ⟨rfl, rfl, rfl, one rfl rfl⟩)
          | cons c r3 =>
            rcases h c (by rw [e]; exact .tail _ (.tail _ (.head _))) with rfl | rfl
            · exact .inr (.inr (.inl ⟨rfl, rfl, rfl, fr_go (k := 3) (l := []) h (by decide) (by rw [← hl, e]; simp) (by rw [e]; rfl) (by rw [e]; rfl)⟩))
            · exact .inr (.inl ⟨rfl, rfl, rfl, one rfl rfl⟩)
        · cases r2 with
          | nil => exact .inr (.inl ⟨rfl, rfl, rfl, one rfl rfl⟩)
          | cons c r3 => exact .inr (.inl ⟨rfl, rfl, rfl, one rfl rfl⟩)
    · cases r1 with
      | nil => exact .inl ⟨rfl, rfl, rfl, rfl⟩
      | cons b r2 => cases r2 with
        | nil => exact .inl ⟨rfl, rfl, rfl, rfl⟩
        | cons c r3 => exact .inl ⟨rfl, rfl, rfl, rfl⟩
theorem fr_vs {vs : List Value} {arr : Array Value} (hl : vs.length = arr.size) (hP : ∀ (j : Nat) v, vs[j]? = some v → arr[j]? = some v) : vs = arr.toList := by
  refine List.ext_getElem? fun j => ?_
  cases e : vs[j]? with
  | some v => have := hP j v e; simpa using this.symm
  | none =>
    have : vs.length ≤ j := List.getElem?_eq_none_iff.mp e
    rw [List.getElem?_eq_none]; simpa using hl ▸ this
theorem fr_arr {ys : Array Value} {l : List Value} (h : ys.toList = l) : ys = l.toArray := by rw [← h]
theorem fr_step {row : Str} {c : FrSt} {k v : Int} {y : Str} {t tv : Tok} {o : Obj} {n : Nat} (h : FrP row c) (g : FrGo c.x k y v) : FrP row ⟨Txt.slice c.x (some k) none, t, o, c.ys ++ [.int v tv], n, c.zs ++ [v]⟩ ∧ (Txt.slice c.x (some k) none).length < c.x.length := by
  obtain ⟨h1, h2, h3, h4⟩ := h
  obtain ⟨_, r, e, g2, g3, g4⟩ := g
  rw [e]
  refine ⟨⟨ksk_snoc h1, ?_, g3, ?_⟩, by omega⟩
  · show (c.zs ++ [v]) ++ frontL r.cps.toList = _
    rw [← h2, g2]; simp
  · show r.length + (c.zs ++ [v]).length ≤ 12
    rw [List.length_append, List.length_singleton]; omega
theorem slice_kept {prog : Program} {w : World} {A : Around} {E : Value → Shared → Prop} {s : Shared} {value slice : Expr} {x : Str} {t : Tok} {h₀ : Heap} {L : Addr} {m : Str → Option Value} {news : List (Addr × Obj)} {Q : Value → Shared → Prop} {j : Int} {uj : Tok} (hF : Fr h₀ L s.heap m) (hN : News h₀ L s.heap news)
    (h : ∀ h' t' k, Kept s.heap h' → Fr h₀ L h' m → News h₀ L h' news → Q (.str (Txt.slice x none (some j)) t') { s with heap := h', toks := k })
    (hs : subscripted slice false (.str x t) (.ref s.heap.objs.size) = operate [.ref s.heap.objs.size, .str x t] (getItem (.str x t) (.ref s.heap.objs.size)) := by with_unfolding_all rfl)
    (ht : ∀ r, letTemporaryGo value (.str x t) r = pure () := by intro _; with_unfolding_all rfl) (hsz : x.length ≤ sizeLine := by size_fits) :
    wpAny (model prog w) A (subscriptTail value slice (.str x t) (.ref s.heap.objs.size)) Q E { s with heap := s.heap.push { cls := .type "slice", data := .fields #[.none, .int j uj, .none] } } :=
  tail_of_ItemOn (SBH.sliceItem_ns (P := fun h => Kept s.heap h ∧ Fr h₀ L h m ∧ News h₀ L h news) (fun _ ob a => ⟨fun b o e => Heap.get?_push_of_some _ (a.1 b o e), Fr.pushS a.2.1 ob, a.2.2.pushKeep ob⟩) ⟨fun _ _ e => e, hF, hN⟩ (fun h' t' k a => h h' t' k a.1 a.2.1 a.2.2) hsz) hs ht
theorem tok_item {w : World} {A : Around} {s : Shared} {E : Value → Shared → Prop} {value slice : Expr} {y : Str} {v : Int} {u : Tok} {h₀ : Heap} {L : Addr} {m : Str → Option Value} {Q : Value → Shared → Prop} (F : Fr h₀ L s.heap m) (X : (hdA.heap_1_1 w.params).In h₀)
    (hy : (y = Str.ofString "." ∧ v = 23) ∨ (y = Str.ofString "..." ∧ v = 52)) (h : ∀ t, Q (.int v t) { s with toks := s.toks + 1 })
    (hs : ∀ y u, subscripted slice false (.ref 64) (.str y u) = operate [.ref 64, .str y u] (getItem (.ref 64) (.str y u)) := by intro _ _; with_unfolding_all rfl) : wpAny (model PySem.Challenge.rw_tc0048_01.row.prog w) A (subscriptTail value slice (.ref 64) (.str y u)) Q E s := by
  revert X
  k_fill
  intro X
  rcases hy with ⟨rfl, rfl⟩ | ⟨rfl, rfl⟩
  · refine topItem_K F X (by k_is) (by k_keys) (by k_is) (h _) (hs _ _)
  · refine topItem_K F X (by k_is) (by k_keys) (by k_is) (h _) (hs _ _)
theorem item_any' {prog : Program} {w : World} {A : Around} {E : Value → Shared → Prop} {s : Shared} {value slice : Expr} {l : Addr} {vs : List Value} {x : Value} {i : Int} {u : Tok} {Q : Value → Shared → Prop} (hl : s.heap.IsList l vs.toArray) (h0 : 0 ≤ i) (hfit : i < 2 ^ 63) (hx : vs[i.toNat]? = some x) (h : Q x s)
    (hs : subscripted slice false (.ref l) (.int i u) = operate [.ref l, .int i u] (getItem (.ref l) (.int i u)) := by with_unfolding_all rfl) : wpAny (model prog w) A (subscriptTail value slice (.ref l) (.int i u)) Q E s :=
  tail_any hl.typeIs slot_list_getitem.lookup (wpAny_getItem_list hl h0 hfit (x := x) (by simpa using hx) h) hs
theorem front_c (w : World) (mean) (mg mb) (row : Str) (t : Tok) : LClm 10 w mean mg mb 219 (row.length ≤ 12 ∧ Sig row) [.str row t] (frontL row.cps.toList) := by
  k_with_none
  (k_with "subscriptTail Name Slice str ref" => (k_here; (with_reducible show wpAny _ _ (subscriptTail _ (Expr.Slice none (some _) none _) _ _) _ _ _); (refine slice_kept (s := ⟨_, _, _, _, _⟩) (by k_asm) (by k_asm) ?_ (hsz := ?hsz); (case hsz => rw [sizeLine_eq]; omega)); intro h' t' k' kK F' N'))
  (k_with "compareOp Eq ref ref" => (k_here; k_dflt (refine' eq_intsK ?k1 ?k2 ?k3 ?k4 ?k5 ?_; (case k1 => kmk_list); (case k2 => l_ints); (case k3 => kmk_list); (case k4 => l_ints); (case k5 => ktr_units))))
  (k_with "subscriptTail" => (k_here; (with_reducible show wpAny _ _ (subscriptTail _ _ (Value.ref 64) (Value.str (Txt.slice _ _ _) _)) _ _ _); refine stop_here ?_))
  (k_with "exec Assign cons ListComp" => (k_here; refine stop_here ?_))
  delta LClm
  k_fill
  intros
  rename_i hret
  refine wpAny_call ?_
  k_dflt (refine' enterZCG ?k1 ?k2 ?k3 ?k5 ?kA ?kF ?kK ?k6 ?k7 ?k8 ?k9 ?kB ?kD ?_ ?c2 ?c3 ?c4; (case kA => exact rfl); (case kF => exact rfl); (case kK => assumption); (case k1 => k_asm); (case k2 => k_asm); (case k3 => k_asm); (case k5 => k_asm); (case k6 => k_is); (case k7 => k_is); (case k8 => ktr_room); (case k9 => exact BindsTo.of_eq rfl); (case kB => exact rfl); (case kD => decide +kernel); (case c2 => exact rfl); (case c3 => exact rfl); (case c4 => exact rfl); k_whole; intro g' hG0 L' h' tk' cells' FG' F' N' Y' B' X' T'; k_cells Y'; (try simp only [List.cons_append, List.nil_append] at N'); (try dsimp only); (try k_lift B'); (try k_fold))
  rename (_ ∧ _) => hpre
  obtain ⟨hl0, hl1⟩ := hpre
  (k_with "exec While Constant cons nil" => (refine stop_here ?_))
  k_steps
  delta Stop
  rename News _ _ _ _ => nD
  rename Fr g' _ _ _ => fD
  rename (_ = Data.cell _) => hcell9
  refine ksw_while (fun c : FrSt => [(_, listOf c.ys.toArray c.n), (_, c.o)]) (fun c => []) (fun c => c.o.data = .cell (some (.str c.x c.t))) [Str.ofString "fits"] (FrP row) (fun c => c.x.length) ⟨row, t, _, [], 0, []⟩ fD nD hcell9 (fun p hp => nomatch hp) ⟨.nil, rfl, hl1, hl0⟩ ?_
  intro c9 u9 h9 tk9 hf9 hp9 F9 N9
  obtain ⟨hI9, hz9, hs9, hb9⟩ := hp9
  have hq9 : c9.x.length ≤ 12 := by omega
  k_steps
  delta Stop
  refine CGoA.use rfl (fun v => frTest c9.x v) (fun v y => y = v) (by k_asm) (by with_unfolding_all rfl) (by with_unfolding_all rfl) (by decide) (by rfl) (by decide) (by rfl) (by rfl) (by rfl) ?_
  (k_with "CGoA" => (refine stop_here ?_))
  k_steps
  (try delta Stop)
  rename News _ _ _ _ => nT
  refine ⟨_, _, _, by k_asm, nT, ?hsz, iter_tuple rfl (ist_of (nT (_, _) (.head _)).1), ?tests, ?elts, ?fin⟩
  case hsz => exact Nat.le_of_ble_eq_true rfl
  case tests =>
    intro i v hP C oC m₃ s₃ hC hx ht F3 N3 E'
    obtain ⟨rfl, rfl⟩ | ⟨rfl, rfl⟩ | ⟨rfl, rfl⟩ := fr_three hP
    · k_steps
      · have e8 := fr_take c9.x 3
        have e7 := fr_all _ (fr_sig hs9 3) (by rw [List.length_take]; omega)
        rw [show (((3 : Nat)) : Int) = (3 : Int) from rfl] at e8
        show _ = frB (c9.x.cps.toList.take 3)
        rw [e8]
        generalize c9.x.cps.toList.take 3 = l9 at e7
        revert e7
        revert l9
        decide +kernel
      · exact ⟨_, _, rfl, by assumption⟩
    · k_steps
      · have e8 := fr_take c9.x 2
        have e7 := fr_all _ (fr_sig hs9 2) (by rw [List.length_take]; omega)
        rw [show (((2 : Nat)) : Int) = (2 : Int) from rfl] at e8
        show _ = frB (c9.x.cps.toList.take 2)
        rw [e8]
        generalize c9.x.cps.toList.take 2 = l9 at e7
        revert e7
        revert l9
        decide +kernel
      · exact ⟨_, _, rfl, by assumption⟩
    · k_steps
      · have e8 := fr_take c9.x 1
        have e7 := fr_all _ (fr_sig hs9 1) (by rw [List.length_take]; omega)
        rw [show (((1 : Nat)) : Int) = (1 : Int) from rfl] at e8
        show _ = frB (c9.x.cps.toList.take 1)
        rw [e8]
        generalize c9.x.cps.toList.take 1 = l9 at e7
        revert e7
        revert l9
        decide +kernel
      · exact ⟨_, _, rfl, by assumption⟩
  case elts =>
    intro i v hP hp C oC m₃ s₃ hC hx ht F3 N3 E'
    obtain ⟨rfl, rfl⟩ | ⟨rfl, rfl⟩ | ⟨rfl, rfl⟩ := fr_three hP
    all_goals k_steps
    all_goals (first | rfl | exact ⟨_, _, rfl, fun _ _ e => e⟩)
  case fin =>
    intro D h tk ys vs k F N hne hlen hP hpair
    have hneD := hne _ (.tail _ (.head _))
    dsimp only at hneD
    have hneD2 := Ne.symm hneD
    have hneC := hne _ (.tail _ (.tail _ (.head _)))
    dsimp only at hneC
    have hneC2 := Ne.symm hneC
    have hneT := hne _ (.head _)
    dsimp only at hneT
    have hneT2 := Ne.symm hneT
    have hv9 := fr_vs hlen hP
    have hy9 : ys.toList = vs.filter (fun v => frTest c9.x v) := paired_eq hpair
    rw [hv9] at hy9
    clear hpair hP hlen hv9
    have hlen9 : c9.ys.length ≤ 12 := by rw [hI9.length]; omega
    have hP9 : FrP row c9 := ⟨hI9, hz9, hs9, hb9⟩
    have hfr := fr_shape hs9
    simp only [List.filter_cons, List.filter_nil, frTest, show ((3 : Int).toNat) = 3 from rfl, show ((2 : Int).toNat) = 2 from rfl, show ((1 : Int).toNat) = 1 from rfl] at hy9
    have hU : (ys.toList = [] ∧ frontL c9.x.cps.toList = []) ∨ ∃ (k : Int) (tq : Tok) (r : List Value) (zr : List Int) (y : Str) (v : Int), ys.toList = .int k tq :: r ∧ IntsAre (.int k tq :: r) (k :: zr) ∧ FrGo c9.x k y v ∧ (1 ≤ k ∧ k ≤ 3) ∧ ((y = Str.ofString "." ∧ v = 23) ∨ (y = Str.ofString "..." ∧ v = 52)) := by
      rcases hfr with ⟨a3, a2, a1, hG9⟩ | ⟨a3, a2, a1, hG9⟩ | ⟨a3, a2, a1, hG9⟩ | ⟨a3, a2, a1, hG9⟩
      all_goals (rw [a3, a2, a1] at hy9; simp only [Bool.false_eq_true, if_false, if_true] at hy9)
      · exact .inl ⟨hy9, hG9⟩
      · exact .inr ⟨1, _, _, _, _, _, hy9, .cons _ _ .nil, hG9, by decide, .inl ⟨rfl, rfl⟩⟩
      · exact .inr ⟨3, _, _, _, _, _, hy9, .cons _ _ (.cons _ _ .nil), hG9, by decide, .inr ⟨rfl, rfl⟩⟩
      · exact .inr ⟨3, _, _, _, _, _, hy9, .cons _ _ (.cons _ _ (.cons _ _ .nil)), hG9, by decide, .inl ⟨rfl, rfl⟩⟩
    clear hfr hy9
    rcases hU with ⟨hy9, hG9⟩ | ⟨k9, tq9, r9, zr9, y9, v9, hy9, hI0, hG9, hk9, hv9⟩
    all_goals (have hY9 := fr_arr hy9; subst hY9; clear hy9)
    · (try dsimp only)
      k_steps
      · have hI8 : IntsAre c9.ys (frontL row.cps.toList) := by rw [← hz9, hG9, List.append_nil]; exact hI9
        rename News g' _ _ _ => nG
        rename News _ _ _ _ => nH
        refine hret _ c9.ys c9.n _ _ (by assumption) (by assumption) ?_ hI8 ?_
        · intro p hp
          rw [List.mem_singleton.mp hp]
          exact nH _ (.tail _ (.tail _ (.tail _ (.head _))))
        · exact hG0 _ (nG _ (.tail _ (.tail _ (.tail _ (.head _))))).2.2
    · obtain ⟨hsl9, hgo⟩ := id hG9
      obtain ⟨hk1, hk3⟩ := hk9
      (try dsimp only)
      (k_with "call builtin:list.append" => (k_here; (with_reducible show wpAny _ _ (call (Value.builtin _) [Value.ref _, _]) _ _ _); k_dflt (refine' append_K ?k1 ?k2 ?k3 ?_ ?z; (case k1 => k_asm); (case k2 => k_asm); (case k3 => k_upd); (case z => (simp only [sizeLine_eq, List.size_toArray]; omega)); k_whole); intro h' F' N'; (try k_sweep)))
      (k_with "subscriptTail" => (k_here; (with_reducible show wpAny _ _ (subscriptTail _ _ (Value.ref _) (Value.int _ _)) _ _ _); (refine item_any' (vs := Value.int k9 tq9 :: r9) (by kmk_list) (by omega) (by omega) rfl ?_)))
      k_steps
      · exact absurd (of_decide_eq_true (by assumption)) (List.cons_ne_nil k9 zr9)
      delta Stop
      rw [show Txt.slice c9.x none (some ((k9 :: zr9 : List Int).getD (Int.toNat 0) 0)) = y9 from hsl9]
      refine tok_item (by k_asm) (by k_asm) hv9 ?_
      intro tv9
      k_steps
      rename News _ _ _ _ => nE'
      rw [List.push_toArray] at nE'
      have hst := fun t tv o n => fr_step (t := t) (tv := tv) (o := o) (n := n) hP9 hG9
      refine ksw_end ⟨Txt.slice c9.x (some k9) none, _, _, c9.ys ++ [.int v9 _], c9.n + 1, c9.zs ++ [v9]⟩ (by assumption) nE' (by kst_in) (by assumption) (fun p hp => nomatch hp) ?_ (hst _ _ _ _).1 (hst 0 0 c9.o 0).2
      intro z h2 h3
      simp only [List.contains_cons, List.contains_nil, Bool.or_false, beq_eq_false_iff_ne, ne_eq] at h3
      simp [h3, kstB]
end Mine
end
section
open PySem PySem.W PyProof.Rows PySem.Calls PySem.Spec
set_option Elab.async false
set_option maxRecDepth 100000
namespace Mine
theorem looseW_eq : looseW view0 loose4 = loose := by decide +kernel
theorem top_law {mean mg mb h} (T : Top topProg (looseW view0 loose4 ++ List.map (fun x => x.name) (recsOf view0) ++ List.map (fun x => x.1) (litsOf view0) ++ List.map (fun x => x.name) (clssOf view0 (looseW view0 loose4))) mean mg mb h) : Top topProg lsT mean mg mb h := by
  rw [looseW_eq] at T; exact T
end Mine
end
section
open PySem PySem.W PyProof.Rows PySem.Calls PySem.Spec
set_option Elab.async false
set_option maxRecDepth 100000
set_option maxHeartbeats 4000000
namespace Mine
noncomputable def LamSt (news : List (Addr × Obj)) : Prop := news = [(245, tabObj #[])] ∨ ∃ c' oc vs t, news = [(245, tabObj #[rawInt 268, rawInt 92, .ref c']), (c', oc)] ∧ oc.data = .fields vs ∧ vs[1]? = some (.str (Str.ofString "_law_between.<locals>.<lambda>") t) ∧ c' ≠ 245
noncomputable def BtPre (lo hi S R : Int) (n : Nat) : Prop := stepF lo hi 12 1024 = some S ∧ 1 ≤ S ∧ Builtin.Range.small (lo.fdiv S * S + S) hi S = true ∧ Builtin.Range.rangeSize (lo.fdiv S * S + S) hi S = (n : Int) ∧ 1 ≤ n ∧ n ≤ 4096 ∧ ∀ M ∈ btL lo S n, (∀ k ∈ btL lo S n, M.natAbs ≤ k.natAbs) → M = R
noncomputable def BtClm (w : World) (mean : ExcName → Option Value) (mg mb : Str → Option Value) (pre : Prop) (lo hi R : Int) (t u : Tok) (news : List (Addr × Obj)) : Prop :=
  ∀ (dp un : Nat) (gd : Option (List Code)) (cn : Str) (cs : Scope) (a : Addr) (ccd : Value) (cl : List (Str × Addr)) (outer : List Env) (A₀ : Around) (base h₀ : Heap) (L : Addr) (m : Str → Option Value) (s : Shared) (Q E : Value → Shared → Prop),
    Below A₀ base outer h₀ → Fr h₀ L s.heap m → (hdA.heap_1_1 w.params).In h₀ → Top topProg lsT mean mg mb h₀ → CodeHd h₀ 247 245 → cs.kind = .function → pre → dp + 3 < recursionLimit → un + 8 * 3 < cLine → News h₀ L s.heap news →
      (∀ (t : Tok) (h' : Heap) (tk' : Nat) (news' : List (Addr × Obj)), Fr h₀ L h' m → (∀ b o, b ∉ news.map (·.1) → s.heap.get? b = some o → h'.get? b = some o) → News h₀ L h' news' → LamSt news' → (∀ p ∈ news', p.1 ∈ news.map (·.1) ∨ s.heap.get? p.1 = none) → Q (.int R t) { s with heap := h', toks := tk' }) →
      wpAny (model PySem.Challenge.rw_tc0048_01.row.prog w) (ktrTop dp un gd cn cs L a ccd cl outer) (call (.ref 248) [.int lo t, .int hi u]) Q E s
theorem bt_pack {h₀ h : Heap} {L f c d : Addr} {of oc od tb : Obj} (N : News h₀ L h [(f, of), (c, oc), (d, od), (245, tb)]) : News h₀ L h [(245, tb), (c, oc)] := fun p hp => N p (by
  rcases List.mem_cons.mp hp with rfl | hp
  · exact .tail _ (.tail _ (.tail _ (.head _)))
  · rw [List.mem_singleton.mp hp]; exact .tail _ (.head _))
theorem bt_pack2 {h₀ h : Heap} {L f c d : Addr} {of oc od tb : Obj} (N : News h₀ L h [(f, of), (d, od), (245, tb), (c, oc)]) : News h₀ L h [(245, tb), (c, oc)] := fun p hp => N p (.tail _ (.tail _ hp))
section
variable {prog : Program} {w : World} {A₀ A : Around} {s : Shared} {base h₀ : Heap} {outer : List Env} {L : Addr} {m : Str → Option Value} {env : Env} {K : Frag} {p : Program} {ls : List Str} {mean : ExcName → Option Value} {mg mb : Str → Option Value}
  {R : Result → Shared → Prop} {name qual : Str} {params : Arguments} {body : List Stmt} {scope : Scope} {dV kV doc pm cdv ct oc : Value} {an od : Option Addr} {osl : Array (Option Value)} {f : Addr} {args : Args} {binds : List (Str × Value)} {news : List (Addr × Obj)}
theorem enterZN (B : Below A₀ base outer h₀) (F : Fr h₀ L s.heap m) (X₀ : K.In h₀) (T : Top p ls mean mg mb h₀) (N : News h₀ L s.heap news) (hA : A.frames = some (env :: outer)) (hf : env.frame = some L) (hke : env.scope.kind = .function)
    (ho : K.lookup f = some ⟨oc, od, .func (fnOf name qual params body scope dV kV doc pm an cdv ct), osl⟩) (hcd : codeIn K cdv qual = true) (hroom : A.depth < recursionLimit)
    (hbind : BindsTo s (fnOf name qual params body scope dV kV doc pm an cdv ct) args binds) (hloc : ∀ y ∈ binds, scope.names.lookup y.1 = some .local)
    (h : ∀ g L' h₁, (∀ b, g.get? b = none → b ∈ news.map (·.1) ∨ s.heap.get? b = none) → Fr h₀ L g m → Fr g L' h₁ (fun y => binds.reverse.lookup y) → News g L' h₁ news → Below A base (env :: outer) g → K.In g → Top p ls mean mg mb g →
      wpAny (model prog w) (A.deeper (envOf qual scope L' f cdv)) (execs body (envOf qual scope L' f cdv))
        (fun fl s' => LeaveK h₀ L m g (fun r s'' => (∀ b o, b ∉ news.map (·.1) → s.heap.get? b = some o → s''.heap.get? b = some o) → R r s'') (match fl with | .ret v => v | _ => .none) s')
        (fun e s' => wpAny (model prog w) (A.deeper (envOf qual scope L' f cdv)) (leaving (envOf qual scope L' f cdv) e) (fun _ s'' => R (.error e) s'') (fun e' s'' => R (.error e') s'') s')
        { s with heap := h₁, toks := s.toks + binds.length })
    (hco : scope.isCoroutine = false) (hgen : scope.isGenerator = false) (hk : scope.kind = .function)
    (hcell : ∀ x ∈ scope.names, x.2 ≠ .cell) : codeAny (model prog w) A (.call (.ref f) args) R s :=
  code_defG B F X₀ N T hA hf hke ho hcd hroom hbind hloc (fun g L' h₁ FG F' N' B' X' T' GS => wpAny_mono (h g L' h₁ (fun b e => by
    by_cases hb : b ∈ news.map (·.1)
    · exact .inl hb
    · right
      cases q : s.heap.get? b with
      | none => rfl
      | some o => rw [GS b o q hb] at e; cases e) FG F' N' B' X' T') (fun fl s' hl => by
    obtain ⟨L2, m2, n2, F2, N2, k⟩ := hl
    exact ⟨L2, m2, n2, F2, N2, fun a b => k a b fun b o hb e => F2.keep b o (GS b o e hb)⟩) fun _ _ y => y) hco hgen hk hcell
end
theorem betweenA_c (w : World) (mean) (mg mb) (lo hi S R : Int) (n : Nat) (t u : Tok) : BtClm w mean mg mb (BtPre lo hi S R n) lo hi R t u [(245, tabObj #[])] := by
  k_with_none
  (k_with "eval ListComp" => (k_here; k_dflt (refine CGo.use (fun _ => true) (fun v y => y = v) (by k_asm) (by with_unfolding_all rfl) (by decide) (by rfl) (by decide) (by rfl) ?_)))
  delta BtClm
  k_fill
  intro dp un gd cn cs a ccd cl outer A₀ base h₀ L m s Q E B0 F0 X0 T0 C0 hk0 hpre hd0 hu0 N0 hret
  obtain ⟨hst, hS1, hsm, hrs, hn1, hn2, hM⟩ := hpre
  refine wpAny_call ?_
  k_dflt (refine' enterZN ?k1 ?k2 ?k3 ?k5 ?kN ?kA ?kF ?kK ?k6 ?k7 ?k8 ?k9 ?kB ?_ ?c2 ?c3 ?c4 ?c5; (case kA => exact rfl); (case kF => exact rfl); (case kK => assumption); (case k1 => k_asm); (case k2 => k_asm); (case k3 => k_asm); (case k5 => k_asm); (case kN => k_asm); (case k6 => k_is); (case k7 => k_is); (case k8 => ktr_room); (case k9 => exact BindsTo.of_eq rfl); (case c5 => decide); (case kB => exact locs rfl); (case c2 => exact rfl); (case c3 => exact rfl); (case c4 => exact rfl); k_whole; intro g' L' h' hG0 FG' F' N' B' X' T'; (try dsimp only); (try k_lift B'); (try k_fold))
  have C1 := C0.keeps FG'.keep
  (k_with "exec While Compare cons nil" => (refine' ksw_while (fun c : BtSt => [(245, tabObj #[])]) (fun c => [(Str.ofString "step", .int c.st c.t)]) (fun c => True) [] (BtP lo hi S) (fun c => c.n) ⟨12, 1024, _⟩ ?F ?N ?hf ?hk ?hp ?turn; (case F => k_asm); (case N => k_asm); (case hf => trivial); (case hk => kst_all); (case hp => exact ⟨hst, (by show (0 : Int) < 1024; omega), (by show (1024 : Int) ≤ 1024; omega)⟩); intro c9 u9 h9 tk9 hf9 hp9 F9 N9; (have hq9 := hp9.2.1); (have hr9 := hp9.2.2)))
  k_steps
  · rename News _ _ _ _ => nE'
    have hv := bt_next hp9 (by assumption) 0 hS1
    exact ksw_end ⟨c9.n - 1, c9.st.fdiv 2, _⟩ (by assumption) nE' (by kst_in) trivial (by kst_all) (by intro z h2 _; simp only [List.forall_mem_cons, List.not_mem_nil, false_implies, implies_true, and_true, ne_eq] at h2; simp [h2, kstB]) (bt_next hp9 (by assumption) _ hS1).1 hv.2
  · have e9 : c9.st = S := bt_end hp9 (by first | assumption | exact Int.not_le.mp (by assumption) | (simp only [not_false_eq_true, ge_iff_le, Int.not_le] at *; assumption))
    refine ⟨_, n, fun i v => ∃ t, v = .int (lo.fdiv c9.st * c9.st + c9.st + (i : Int) * c9.st) t, by k_asm, by k_asm, ?hsz, iter_range rfl (by assumption) ?hsm ?hn, ?tests, ?elts, ?fin⟩
    case hsz => have e9 : sizeLine = 2 ^ 24 := rfl; omega
    case hsm => rw [e9]; exact hsm
    case hn => rw [e9]; exact hrs
    case tests => intro i v hP C oC m₃ s₃ hC hx ht F3 N3 E'; exact wpAny_pure ⟨rfl, ⟨_, _, rfl, fun _ _ e => e⟩⟩
    case elts =>
      intro i v hP hp C oC m₃ s₃ hC hx ht F3 N3 E'
      obtain ⟨t', rfl⟩ := hP
      k_steps
      exact ⟨_, _, rfl, fun _ _ e => e⟩
    case fin =>
      intro D h tk ys vs k F N hne hlen hP hpair
      rw [List.filter_eq_self.mpr (by simp)] at hpair
      have hI : IntsAre ys.toList (btL lo S n) := by
        rw [paired_eq hpair]
        have := ints_of (f := fun (i : Nat) => lo.fdiv c9.st * c9.st + c9.st + (i : Int) * c9.st) vs 0 (fun j v hv => by simpa using hP j v hv)
        rw [e9, hlen, ← List.range_eq_range'] at this
        exact this
      (try dsimp only)
      (try dsimp only at N)
      have hneD : (245 : Nat) ≠ D := hne _ (.head _)
      k_steps
      (with_unfolding_all refine' kmk_min_letter (fun n => if n < 0 then -n else n) ?k0 ?k1 ?k2 ?k3 ?k4 ?k5 ?turn9 ?done9)
      case k0 => first | with_unfolding_all rfl
      case k1 => first | k_asm
      case k2 => first | k_asm
      case k3 => first | (intro h' F' N'; kso_list)
      case k4 => first | l_ints
      case k5 => first | (simp [btL]; omega)
      case turn9 =>
        intro n' t' h' tk' own' hm' F' N'
        (try simp only [List.nil_append, List.cons_append, List.append_nil] at N')
        refine wpAny_call ?_
        k_dflt (refine' kla_code ?k1 ?k2 ?k3 ?k4 ?k5 ?kA ?kF ?kK ?k6 ?k7 ?k8 ?k9 ?kB ?_ ?c2 ?c3 ?c4 ?c5; (case kA => exact rfl); (case kF => exact rfl); (case kK => first | exact rfl | assumption); (case k1 => k_asm); (case k2 => k_asm); (case k3 => k_asm); (case k4 => k_asm); (case k5 => k_asm); (case k6 => k_mem); (case k7 => exact codeRec_news (by k_asm) (by k_mem) (by assumption) (by assumption)); (case k8 => ktr_room); (case k9 => exact rfl); (case c5 => decide); (case kB => exact locs rfl); (case c2 => exact rfl); (case c3 => exact rfl); (case c4 => exact rfl); k_whole; intro g2' L2' h2' FG2' F2' N2' B2' X2' T2'; (try dsimp only); (try k_lift B2'); (try k_fold))
        k_steps
      case done9 =>
        intro M' t' h' tk' F' N' a' b'
        (try simp only [List.nil_append, List.cons_append, List.append_nil] at N')
        k_steps
        rename News h₀ _ _ [(_, _), (_, _), (_, _), (245, _)] => nF
        rename News g' _ _ [(_, _), (_, _), (_, _), (245, _)] => nG
        rename (∀ (b : Addr) (o : Obj), _ ∉ List.map _ _ → _) => kk
        have hMR : M' = R := hM M' a' fun k hk => by
          have := b' k hk
          split at this <;> split at this <;> omega
        rw [hMR]
        exact hret _ _ _ _ (by assumption) kk (bt_pack nF) (.inr ⟨_, _, _, _, rfl, by assumption, by with_unfolding_all assumption, by show @Ne Nat _ _; omega⟩) (fun p hp => hG0 _ (bt_pack nG p hp).2.2)
theorem betweenB_c (w : World) (mean) (mg mb) (lo hi S R : Int) (n : Nat) (t u : Tok) (c0 : Addr) (oc0 : Obj) (vs0 : Array Value) (t0 : Tok) (hd1 : oc0.data = .fields vs0) (hd2 : vs0[1]? = some (.str (Str.ofString "_law_between.<locals>.<lambda>") t0)) (hne0 : c0 ≠ 245) : BtClm w mean mg mb (BtPre lo hi S R n) lo hi R t u [(245, tabObj #[rawInt 268, rawInt 92, .ref c0]), (c0, oc0)] := by
  k_with_none
  (k_with "eval ListComp" => (k_here; k_dflt (refine CGo.use (fun _ => true) (fun v y => y = v) (by k_asm) (by with_unfolding_all rfl) (by decide) (by rfl) (by decide) (by rfl) ?_)))
  delta BtClm
  k_fill
  intro dp un gd cn cs a ccd cl outer A₀ base h₀ L m s Q E B0 F0 X0 T0 C0 hk0 hpre hd0 hu0 N0 hret
  obtain ⟨hst, hS1, hsm, hrs, hn1, hn2, hM⟩ := hpre
  refine wpAny_call ?_
  k_dflt (refine' enterZN ?k1 ?k2 ?k3 ?k5 ?kN ?kA ?kF ?kK ?k6 ?k7 ?k8 ?k9 ?kB ?_ ?c2 ?c3 ?c4 ?c5; (case kA => exact rfl); (case kF => exact rfl); (case kK => assumption); (case k1 => k_asm); (case k2 => k_asm); (case k3 => k_asm); (case k5 => k_asm); (case kN => k_asm); (case k6 => k_is); (case k7 => k_is); (case k8 => ktr_room); (case k9 => exact BindsTo.of_eq rfl); (case c5 => decide); (case kB => exact locs rfl); (case c2 => exact rfl); (case c3 => exact rfl); (case c4 => exact rfl); k_whole; intro g' L' h' hG0 FG' F' N' B' X' T'; (try dsimp only); (try k_lift B'); (try k_fold))
  have C1 := C0.keeps FG'.keep
  (k_with "exec While Compare cons nil" => (refine' ksw_while (fun c : BtSt => [(245, tabObj #[rawInt 268, rawInt 92, .ref c0]), (c0, oc0)]) (fun c => [(Str.ofString "step", .int c.st c.t)]) (fun c => True) [] (BtP lo hi S) (fun c => c.n) ⟨12, 1024, _⟩ ?F ?N ?hf ?hk ?hp ?turn; (case F => k_asm); (case N => k_asm); (case hf => trivial); (case hk => kst_all); (case hp => exact ⟨hst, (by show (0 : Int) < 1024; omega), (by show (1024 : Int) ≤ 1024; omega)⟩); intro c9 u9 h9 tk9 hf9 hp9 F9 N9; (have hq9 := hp9.2.1); (have hr9 := hp9.2.2)))
  k_steps
  · rename News _ _ _ _ => nE'
    have hv := bt_next hp9 (by assumption) 0 hS1
    exact ksw_end ⟨c9.n - 1, c9.st.fdiv 2, _⟩ (by assumption) nE' (by kst_in) trivial (by kst_all) (by intro z h2 _; simp only [List.forall_mem_cons, List.not_mem_nil, false_implies, implies_true, and_true, ne_eq] at h2; simp [h2, kstB]) (bt_next hp9 (by assumption) _ hS1).1 hv.2
  · have e9 : c9.st = S := bt_end hp9 (by first | assumption | exact Int.not_le.mp (by assumption) | (simp only [not_false_eq_true, ge_iff_le, Int.not_le] at *; assumption))
    refine ⟨_, n, fun i v => ∃ t, v = .int (lo.fdiv c9.st * c9.st + c9.st + (i : Int) * c9.st) t, by k_asm, by k_asm, ?hsz, iter_range rfl (by assumption) ?hsm ?hn, ?tests, ?elts, ?fin⟩
    case hsz => have e9 : sizeLine = 2 ^ 24 := rfl; omega
    case hsm => rw [e9]; exact hsm
    case hn => rw [e9]; exact hrs
    case tests => intro i v hP C oC m₃ s₃ hC hx ht F3 N3 E'; exact wpAny_pure ⟨rfl, ⟨_, _, rfl, fun _ _ e => e⟩⟩
    case elts =>
      intro i v hP hp C oC m₃ s₃ hC hx ht F3 N3 E'
      obtain ⟨t', rfl⟩ := hP
      k_steps
      exact ⟨_, _, rfl, fun _ _ e => e⟩
    case fin =>
      intro D h tk ys vs k F N hne hlen hP hpair
      rw [List.filter_eq_self.mpr (by simp)] at hpair
      have hI : IntsAre ys.toList (btL lo S n) := by
        rw [paired_eq hpair]
        have := ints_of (f := fun (i : Nat) => lo.fdiv c9.st * c9.st + c9.st + (i : Int) * c9.st) vs 0 (fun j v hv => by simpa using hP j v hv)
        rw [e9, hlen, ← List.range_eq_range'] at this
        exact this
      (try dsimp only)
      (try dsimp only at N)
      have hneD : (245 : Nat) ≠ D := hne _ (.head _)
      have hneD2 : @Ne Nat c0 D := hne _ (.tail _ (.head _))
      k_steps
      (with_unfolding_all refine' kmk_min_letter (fun n => if n < 0 then -n else n) ?k0 ?k1 ?k2 ?k3 ?k4 ?k5 ?turn9 ?done9)
      case k0 => first | with_unfolding_all rfl
      case k1 => first | k_asm
      case k2 => first | k_asm
      case k3 => first | (intro h' F' N'; kso_list)
      case k4 => first | l_ints
      case k5 => first | (simp [btL]; omega)
      case turn9 =>
        intro n' t' h' tk' own' hm' F' N'
        (try simp only [List.nil_append, List.cons_append, List.append_nil] at N')
        refine wpAny_call ?_
        k_dflt (refine' kla_code ?k1 ?k2 ?k3 ?k4 ?k5 ?kA ?kF ?kK ?k6 ?k7 ?k8 ?k9 ?kB ?_ ?c2 ?c3 ?c4 ?c5; (case kA => exact rfl); (case kF => exact rfl); (case kK => first | exact rfl | assumption); (case k1 => k_asm); (case k2 => k_asm); (case k3 => k_asm); (case k4 => k_asm); (case k5 => k_asm); (case k6 => k_mem); (case k7 => exact codeRec_news (by k_asm) (by k_mem) (by assumption) (by assumption)); (case k8 => ktr_room); (case k9 => exact rfl); (case c5 => decide); (case kB => exact locs rfl); (case c2 => exact rfl); (case c3 => exact rfl); (case c4 => exact rfl); k_whole; intro g2' L2' h2' FG2' F2' N2' B2' X2' T2'; (try dsimp only); (try k_lift B2'); (try k_fold))
        k_steps
      case done9 =>
        intro M' t' h' tk' F' N' a' b'
        (try simp only [List.nil_append, List.cons_append, List.append_nil] at N')
        k_steps
        rename News h₀ _ _ [(_, _), (_, _), (245, _), (_, _)] => nF
        rename News g' _ _ [(_, _), (_, _), (245, _), (_, _)] => nG
        rename (∀ (b : Addr) (o : Obj), _ ∉ List.map _ _ → _) => kk
        have hMR : M' = R := hM M' a' fun k hk => by
          have := b' k hk
          split at this <;> split at this <;> omega
        rw [hMR]
        exact hret _ _ _ _ (by assumption) kk (bt_pack2 nF) (.inr ⟨_, _, _, _, rfl, by assumption, by with_unfolding_all assumption, hne0⟩) (fun p hp => hG0 _ (bt_pack2 nG p hp).2.2)
theorem between_c (w : World) (mean) (mg mb) (lo hi S R : Int) (n : Nat) (t u : Tok) (news : List (Addr × Obj)) (hL : LamSt news) : BtClm w mean mg mb (BtPre lo hi S R n) lo hi R t u news := by
  rcases hL with rfl | ⟨c0, oc0, vs0, t0, rfl, a, b, c⟩
  · exact betweenA_c w mean mg mb lo hi S R n t u
  · exact betweenB_c w mean mg mb lo hi S R n t u c0 oc0 vs0 t0 a b c
end Mine
end
section
open PySem PySem.W PyProof.Rows PySem.Calls PySem.Spec
set_option Elab.async false
set_option maxRecDepth 100000
set_option maxHeartbeats 4000000
namespace Mine
noncomputable def nth : List Stmt → Nat → Stmt
  | [], _ => .Pass ⟨0, 0, 0, 0⟩
  | a :: _, 0 => a
  | _ :: r, n + 1 => nth r n
noncomputable def lawB (w : World) : List Stmt := stmtsOf (lawF w).body
noncomputable def lawS (w : World) : Scope := (lawF w).scope
theorem cut_law {w : World} {P : List Stmt → Scope → Prop} {oc : Value} {od : Option Addr} {osl : Array (Option Value)} {name qual : Str} {params : Arguments} {body : List Stmt} {scope : Scope} {dV kV doc pm : Value} {an : Option Addr} {cdv ct : Value}
    (ho : (hdA.heap_1_1 w.params).lookup 253 = some ⟨oc, od, .func (fnOf name qual params body scope dV kV doc pm an cdv ct), osl⟩) (h : P body scope) : P (lawB w) (lawS w) := by
  have e : lawF w = fnOf name qual params body scope dV kV doc pm an cdv ct := by unfold lawF; rw [ho]
  unfold lawB lawS; rw [e]; exact h
noncomputable abbrev lawE (scope : Scope) (L fa : Addr) (cd : Value) : Env := envOfC (Str.ofString "law") scope L fa cd
noncomputable abbrev lawA (scope : Scope) (L fa : Addr) (cd : Value) : Around := callerA.deeper (lawE scope L fa cd)
noncomputable abbrev lawM (w : World) : Model := model PySem.Challenge.rw_tc0048_01.row.prog w
theorem fr_kstB {h₀ h : Heap} {L : Addr} {m : Str → Option Value} {ps : List (Str × Value)} (F : Fr h₀ L h m) (hp : ∀ p ∈ ps, m p.1 = some p.2) : Fr h₀ L h (kstB m ps) := by
  have : kstB m ps = m := funext fun z => kstB_eq hp fun _ => rfl
  rw [this]; exact F
end Mine
end
section
open PySem PySem.W PyProof.Rows PySem.Calls PySem.Spec
set_option Elab.async false
set_option maxRecDepth 100000
set_option maxHeartbeats 4000000
namespace Mine
inductive PairPost (prog : Program) (w : World) (A : Around) (env : Env) (elt : Expr) (x x₂ y : Str) (scope : Scope) (cl : List (Str × Addr)) (G : Nat → Value → Prop) (Q : Flow → Shared → Prop) (it : Value) (s₂ : Shared) : Prop
  | mk (I : _) (fp : _) (wr : _) (n : _) (Pt : _) (St : _) (Mid : _) (m : _) 
    (h0 : it = .ref I) 
    (h1 : WalksT prog w A I fp wr n Pt St Mid) 
    (h2 : n ≤ sizeLine) 
    (h3 : St 0 s₂.heap) 
    (h4 : ∀ b ∈ fp, b < s₂.heap.objs.size) 
    (h5 : env.locals ∉ wr) 
    (h6 : s₂.heap.Ns env.locals m) 
    (h7 : ∀ C i vals s₃ m₃ E', s₂.heap.objs.size ≤ C → i < n → Pt i vals → s₃.heap.Ns C m₃ → (∃ v1 v2, vals = #[v1, v2] ∧ m₃ x = some v1 ∧ m₃ x₂ = some v2) → (∀ b o, b ∉ wr → s₂.heap.get? b = some o → s₃.heap.get? b = some o) →
        wpAny (model prog w) A (eval elt (compEnvC scope cl C env)) (fun y s₄ => G i y ∧ Keeps s₃ s₄) E' s₃) 
    (h8 : ∀ i vals, Pt i vals → ∃ v1 v2, vals = #[v1, v2]) 
    (h9 : ∀ D h' tk ys k, s₂.heap.get? D = none → h'.get? D = some (listOf ys k) → ys.size = n → (∀ (j : Nat) y, ys[j]? = some y → G j y) → h'.Ns env.locals (fun z => if z = y then some (.ref D) else m z) →
        (∀ b o, b ≠ env.locals → b ∉ wr → s₂.heap.get? b = some o → h'.get? b = some o) → Q .next { s₂ with heap := h', toks := tk }) : PairPost prog w A env elt x x₂ y scope cl G Q it s₂
inductive PairInv (s₂ : Shared) (n : Nat) (St : Nat → Heap → Prop) (G : Nat → Value → Prop) (wr : List Addr) (C : Addr) (k : Nat) (s' : Shared) : Prop
  | mk (h' : Heap) (tk : Nat) (i : Nat) (ys : Array Value) (c : Nat) (m' : Str → Option Value) (e : s' = { s₂ with heap := h', toks := tk }) (hi : i ≤ n) (hk : k = n + 1 - i) (hst : St i h') (hD : h'.get? s₂.heap.objs.size = some (listOf ys c)) (hys : ys.size = i) (hG : ∀ (j : Nat) y, ys[j]? = some y → G j y) (hn : h'.Ns C m')
      (hkp : ∀ b o, b ∉ wr → s₂.heap.get? b = some o → h'.get? b = some o) : PairInv s₂ n St G wr C k s'
section
variable {prog : Program} {w : World} {A : Around} {E : Value → Shared → Prop} {s : Shared} {env : Env}
theorem Assign_ListComp_pairs {elt iter : Expr} {x x₂ y : Str} {px px₂ tp py : Pos} {tk} {scope : Scope} {cl : List (Str × Addr)} {pos spos : Pos} {Q : Flow → Shared → Prop} (G : Nat → Value → Prop) (hh : A.handled = none)
    (hsw : swapsWith (.ListComp elt [⟨.Tuple [.Name x px, .Name x₂ px₂] tk tp, iter, [], 0⟩] scope pos) (some (.Name y py)) spos.line env = pure true)
    (hclos : closureFor scope env = pure cl) (hcell : ∀ z ∈ scope.names, z.2 ≠ .cell) (hkind : scope.kind = .function)
    (hnames : ∀ z ∈ scope.names, z.2 = .local → scope.names.lookup z.1 = some .local) (hx : scope.names.lookup x = some .local) (hx₂ : scope.names.lookup x₂ = some .local) (hxx : x ≠ x₂)
    (hy : env.kindOf y = some .local) (hp : (env.scope.kind == .class || (env.scope.kind == .module && env.locals != env.globals)) = false)
    (h : wpAny (model prog w) A (eval iter env) (fun xv s₁ => wpAny (model prog w) A (pyIter xv) (fun it s₂ => PairPost prog w A env elt x x₂ y scope cl G Q it s₂) E s₁) E s)
    (hs : ∀ x, foldedSetIterable iter env x = pure x := by intro _; rfl) :
    wpAny (model prog w) A (exec (.Assign [.Name y py] (.ListComp elt [⟨.Tuple [.Name x px, .Name x₂ px₂] tk tp, iter, [], 0⟩] scope pos) spos) env) Q E s := by
  rw [exec_Assign_Name_used _ _ _ _ hsw]
  refine wpAny_bind (wpAny_standAt (wpAny_bind ?_))
  show wpAny _ A (do let _ ← comprehension (.ListComp elt [⟨.Tuple [.Name x px, .Name x₂ px₂] tk tp, iter, [], 0⟩] scope pos) scope env _ (newList []) false (eval iter env) (some (assign (.Name y py) env))) _ _ s
  refine wpAny_bind (wpAny_mono (wpAny_comprehension_free (use := some (assign (.Name y py) env)) (Q := fun _ s' => Q .next s') rfl hs hclos hkind hnames
    (wpAny_mono h (fun xv s₁ h₁ => wpAny_mono h₁ (fun it s₂ h₂ => ?_) fun _ _ e => e) fun _ _ e => e)) (fun _ s' hq => wpAny_pure (wpAny_pure hq)) fun _ _ e => e)
  obtain ⟨I, fp, wr, n, Pt, St, Mid, m, rfl, W, hsz, hst, hfp, hLwr, hNs, hq, hpair, fin⟩ := h₂
  refine wpAny_newObj_type (wpAny_newFunctionEnv hcell (by intro y hy; simp at hy) (fun h₁ hns₁ hsb₁ => ?_) hkind)
  dsimp only at hns₁ hsb₁ ⊢
  generalize hH2 : s₂.heap.push { cls := .type "list", dict := none, data := .seq ([] : List Value).toArray } = H2 at hns₁ hsb₁ ⊢
  have hC : H2.objs.size = s₂.heap.objs.size + 1 := by rw [← hH2, Heap.size_push]
  have hDC : s₂.heap.objs.size ≠ H2.objs.size := by rw [hC]; exact Nat.ne_of_lt (Nat.lt_succ_self _)
  have hCle : s₂.heap.objs.size ≤ H2.objs.size := by rw [hC]; exact Nat.le_succ _
  have below : ∀ b, b < s₂.heap.objs.size → b ≠ H2.objs.size ∧ b ≠ s₂.heap.objs.size := fun b hb => ⟨by rw [hC]; exact Nat.ne_of_lt (Nat.lt_succ_of_lt hb), Nat.ne_of_lt hb⟩
  have hDf : s₂.heap.objs.size ∉ fp := fun hm => Nat.lt_irrefl _ (hfp _ hm)
  have hCf : H2.objs.size ∉ fp := fun hm => by have := hfp _ hm; rw [hC] at this; exact Nat.lt_irrefl _ (Nat.lt_of_succ_lt this)
  have old : ∀ b o, s₂.heap.get? b = some o → h₁.get? b = some o := fun b o e => hsb₁.extBut b o (below b (Heap.lt_size e)).1 (Heap.get?_push_of_some _ (hH2 ▸ Heap.get?_push_of_some _ e))
  have hacc : h₁.get? s₂.heap.objs.size = some (listOf #[] 0) := hsb₁.extBut _ _ hDC (Heap.get?_push_of_some _ (hH2 ▸ Heap.get?_push_size _ rfl))
  have hst₁ : St 0 h₁ := W.frame _ _ _ hst fun b _ o e => old b o e
  have fresh : ∀ a, s₂.heap.objs.size ≤ a → s₂.heap.get? a = none := fun a ha => by
    cases e : s₂.heap.get? a with
    | none => rfl
    | some o' => exact absurd (Heap.lt_size e) (Nat.not_lt.mpr ha)
  have loop : ∀ s₃ : Shared, s₃ = { s₂ with heap := h₁, toks := s₂.toks + ([] : List (Str × Value)).length } →
      codeAny (model prog w) A (.compLoop (.ListComp elt [⟨.Tuple [.Name x px, .Name x₂ px₂] tk tp, iter, [], 0⟩] scope pos) 0 (.ref I) (.ref s₂.heap.objs.size) (compEnvC scope cl H2.objs.size env))
        (compPost (model prog w) A E (some (assign (.Name y py) env)) (fun _ s' => Q .next s') (.ref s₂.heap.objs.size) H2.objs.size) s₃ := by
    rintro s₃ rfl
    have hDwr : s₂.heap.objs.size ∉ wr := fun q => hDf (W.sub _ q)
    have hCwr : H2.objs.size ∉ wr := fun q => hCf (W.sub _ q)
    refine LCp.codeAny_compLoop_pair
      (PairInv s₂ n St G wr H2.objs.size) ?_ (n + 1)
      ⟨h₁, _, 0, #[], 0, _, rfl, Nat.zero_le _, rfl, hst₁, hacc, rfl, fun j y q => by simp at q, hns₁, fun b o _ e => old b o e⟩
    rintro k s' ⟨h', tk, i, ys, c, m', rfl, hi, rfl, hst', hD', hys, hG, hn', hk'⟩
    by_cases hlt : i < n
    · refine W.item i _ _ _ hlt hst' fun T vals h₂ tk₂ hPt hTs hT hMid hk₂ => ?_
      obtain ⟨v1, v2, rfl⟩ := hpair i vals hPt
      refine W.go _ _ _ i T _ _ _ hMid fun h₃ hst₃ hk₃ => ?_
      have hTwr := W.apart _ _ _ hMid
      have hT₃ : h₃.IsTuple T #[v1, v2] := by obtain ⟨o, e, r⟩ := hT; exact ⟨o, hk₃ T o hTwr e, r⟩
      have hn₃ : h₃.Ns H2.objs.size m' := hn'.at' fun o e => hk₃ _ o hCwr (hk₂ _ o hCwr e)
      refine kcp_assign (env := compEnvC scope cl H2.objs.size env) hh hT₃ (lookup_relabel_local hx) (lookup_relabel_local hx₂) (by simp [compEnvC, relabel, hkind]) hn₃ fun h₄ tk₄ hn₄ hk₄ => ?_
      have hst₄ : St (i + 1) h₄ := W.frame _ _ _ hst₃ fun b hb o e => hk₄ b o (fun q => hCf (by rw [show H2.objs.size = b from q.symm]; exact hb)) e
      have up₄ : ∀ b o, b ∉ wr → b ≠ H2.objs.size → h'.get? b = some o → h₄.get? b = some o := fun b o hb hc e => hk₄ b o hc (hk₃ b o hb (hk₂ b o hb e))
      have old₄ : ∀ b o, b ∉ wr → s₂.heap.get? b = some o → h₄.get? b = some o := fun b o hb e => up₄ b o hb (below b (Heap.lt_size e)).1 (hk' b o hb e)
      refine wpAny_mono (hq H2.objs.size i #[v1, v2] _ _ _ hCle hlt hPt hn₄ ⟨v1, v2, rfl, by simp [hxx], by simp⟩ old₄) (fun z s₅ h₅ => ?_) fun _ _ e => e
      obtain ⟨hz, h₅, tk₅, rfl, hk₅⟩ := h₅
      have hD₅ : h₅.get? s₂.heap.objs.size = some (listOf ys c) := hk₅ _ _ (up₄ _ _ hDwr hDC hD')
      refine append_at (hsz := by omega) hD₅ fun h₆ hs₆ ho₆ => ?_
      have keep₆ : ∀ b o, b ≠ s₂.heap.objs.size → h₅.get? b = some o → h₆.get? b = some o := fun b o hb e => hs₆.extBut b o hb e
      refine ⟨n + 1 - (i + 1), by omega, h₆, _, i + 1, ys.push z, c + 1, _, rfl, hlt, rfl, W.frame _ _ _ hst₄ fun b hb o e => keep₆ b o (fun q => hDf (q ▸ hb)) (hk₅ b o e), ho₆, by simp [hys], fun j u q => ?_, (hn₄.keeps hk₅).sameBut hs₆ (Ne.symm hDC), fun b o hb e => keep₆ b o (below b (Heap.lt_size e)).2 (hk₅ b o (old₄ b o hb e))⟩
      rw [Array.getElem?_push] at q
      split at q
      · rename_i hj
        have : u = z := by simpa using q.symm
        rw [this, hj, hys]; exact hz
      · exact hG j u q
    · have hin : i = n := by omega
      subst hin
      refine W.done _ _ _ hst' fun h₂ tk₂ hk₂ => ?_
      have hD₂ : h₂.get? s₂.heap.objs.size = some (listOf ys c) := hk₂ _ _ hDwr hD'
      have hn₂ : h₂.Ns H2.objs.size m' := hn'.at' fun o e => hk₂ _ o hCwr e
      have hL₂ : h₂.Ns env.locals m := hNs.at' fun o e => hk₂ _ o hLwr (hk' _ o hLwr e)
      have hLlt : env.locals < s₂.heap.objs.size := hNs.lt
      show wpAny _ A (assign (.Name y py) env (.ref _)) _ _ _
      refine wpAny_assign_Name (wpAny_storeName_local hy hL₂ (fun h₃ hn₃ hs₃ => ?_) hp)
      refine ⟨m', hn₂.sameBut hs₃ (below _ hLlt).1.symm, fun h₄ hs₄ => ?_⟩
      refine fin _ h₄ _ ys c (fresh _ (Nat.le_refl _)) (hs₄.extBut _ _ hDC (hs₃.extBut _ _ (below _ hLlt).2.symm hD₂)) hys hG (hn₃.sameBut hs₄ (below _ hLlt).1) fun b o hbL hb e => ?_
      exact hs₄.extBut b o (below b (Heap.lt_size e)).1 (hs₃.extBut b o hbL (hk₂ b o hb (hk' b o hb e)))
  exact codeAny_compStart_list (loop _ rfl) (W.self 0 _ _ _ hst₁ (loop _ rfl))
end
section
variable {prog : Program} {w : World} {A : Around} {E : Value → Shared → Prop} {s : Shared} {env : Env} {h₀ : Heap} {L : Addr} {m : Str → Option Value} {news : List (Addr × Obj)}
open LCg (NsObj ns_obj)
theorem enum_go {elt : Expr} {x x₂ y : Str} {scope : Scope} {cl : List (Str × Addr)} {Q : Flow → Shared → Prop} {G : Nat → Value → Prop} {l : Addr} {its : Array Value} (F : Fr h₀ L s.heap m) (N : News h₀ L s.heap news) (hl : s.heap.IsList l its) (hL : env.locals = L) (hh : A.handled = none) (hsz : its.size ≤ sizeLine)
    (elts : ∀ i v t, its[i]? = some v → ∀ C oC m₃ s₃, NsObj oC m₃ → m₃ x = some (.int (i : Nat) t) → m₃ x₂ = some v → Fr h₀ L s₃.heap m → News h₀ L s₃.heap ((C, oC) :: news) → ∀ E', wpAny (model prog w) A (eval elt (compEnvC scope cl C env)) (fun y s₄ => G i y ∧ Keeps s₃ s₄) E' s₃)
    (fin : ∀ D h' tk ys k, Fr h₀ L h' (fun z => if z = y then some (.ref D) else m z) → News h₀ L h' ((D, listOf ys k) :: news) → (∀ p ∈ news, @Ne Nat p.1 D) → ys.size = its.size → (∀ (j : Nat) y, ys[j]? = some y → G j y) → Q .next { s with heap := h', toks := tk }) :
    wpAny (model prog w) A (call (.type "enumerate") [.ref l]) (fun xv s₁ => wpAny (model prog w) A (pyIter xv) (fun it s₂ => PairPost prog w A env elt x x₂ y scope cl G Q it s₂) E s₁) E s := by
  subst hL
  refine call_enumerate_list hl fun h5 he hit hsz5 hkeep => wpAny_pyIter_enum he ?_
  have hltl : l < s.heap.objs.size := by obtain ⟨_, e, _⟩ := hl; exact Heap.lt_size e
  have hLlt := F.ns.lt
  have hw : ∀ b o, s.heap.get? b = some o → b ∉ [s.heap.objs.size + 1, s.heap.objs.size] := fun b o e q => by
    have := Heap.lt_size e
    simp only [List.mem_cons, List.not_mem_nil, or_false] at q
    rcases q with q | q
    · rw [q] at this; exact Nat.lt_irrefl _ (Nat.lt_of_succ_lt this)
    · rw [q] at this; exact Nat.lt_irrefl _ this
  have W := WalksT.enumerate (prog := prog) (w := w) hh (s.heap.objs.size + 1) s.heap.objs.size l (Nat.succ_ne_self _) (Nat.ne_of_lt (Nat.lt_succ_of_lt hltl)) (Nat.ne_of_lt hltl) its
  refine ⟨_, _, _, _, _, _, _, m, rfl, W, hsz, ⟨⟨_, he⟩, hit, hl.at fun o e => hkeep _ _ e⟩, ?_, ?_, F.ns.at' fun o e => hkeep _ _ e, ?_, ?_, ?_⟩
  · intro b hb
    simp only [List.mem_cons, List.not_mem_nil, or_false] at hb
    show b < h5.objs.size
    rw [hsz5]
    rcases hb with rfl | rfl | rfl
    · exact Nat.lt_succ_self _
    · exact Nat.lt_succ_of_lt (Nat.lt_succ_self _)
    · exact Nat.lt_succ_of_lt (Nat.lt_succ_of_lt hltl)
  · obtain ⟨o, _, _, e, _⟩ := F.ns
    exact hw _ _ e
  · rintro C i vals s₃ m₃ E' hC hi ⟨t, v, hv, rfl⟩ hNC ⟨v1, v2, e, hm1, hm2⟩ hk
    have e1 : v1 = .int (i : Nat) t ∧ v2 = v := by simp at e; exact ⟨e.1.symm, e.2.symm⟩
    obtain ⟨rfl, rfl⟩ := e1
    obtain ⟨oC, hoC, nC⟩ := ns_obj hNC
    have kk : Kept s.heap s₃.heap := fun b o e => hk b o (hw b o e) (hkeep b o e)
    have hC' : s.heap.objs.size + 2 ≤ C := by rw [← hsz5]; exact hC
    have hC2 : s.heap.objs.size ≤ C := by omega
    refine elts i v2 t hv C oC m₃ s₃ nC hm1 hm2 ⟨F.ns.at' fun o e => kk _ _ e, fun b o e => kk _ _ (F.keep b o e), F.above⟩ (fun q hq => ?_) E'
    rcases List.mem_cons.mp hq with rfl | hq
    · exact ⟨hoC, Nat.ne_of_gt (Nat.lt_of_lt_of_le hLlt hC2), Heap.get?_none_of_le (Nat.le_trans (Nat.le_of_lt (Nat.lt_of_le_of_lt F.above hLlt)) hC2)⟩
    · exact ⟨kk _ _ (N q hq).1, (N q hq).2⟩
  · rintro i vals ⟨t, v, hv, rfl⟩
    exact ⟨_, _, rfl⟩
  · intro D h' tk ys k hD hDo hys hG hns hk
    have kk : ∀ b o, b ≠ env.locals → s.heap.get? b = some o → h'.get? b = some o := fun b o hb e => hk b o hb (hw b o e) (hkeep b o e)
    have nD : ∀ o, s.heap.get? D ≠ some o := fun o e => by have := hkeep D o e; rw [show h5.get? D = none from hD] at this; cases this
    refine fin D h' tk ys k ⟨hns, fun b o e => kk _ _ (Nat.ne_of_lt (Nat.lt_of_lt_of_le (Heap.lt_size e) F.above)) (F.keep b o e), F.above⟩ (fun q hq => ?_) (fun q hq => ?_) hys hG
    · rcases List.mem_cons.mp hq with rfl | hq
      · refine ⟨hDo, fun e => ?_, ?_⟩
        · obtain ⟨o, _, _, ho, _⟩ := F.ns
          exact nD o (by rw [show D = env.locals from e]; exact ho)
        · show h₀.get? D = none
          cases e : h₀.get? D with
          | none => rfl
          | some o => exact absurd (F.keep D o e) (nD o)
      · exact ⟨kk _ _ (N q hq).2.1 (N q hq).1, (N q hq).2⟩
    · exact fun e => nD _ (by rw [← e]; exact (N q hq).1)
end
end Mine
end
section
open PySem PySem.W PyProof.Rows PySem.Calls PySem.Spec
set_option Elab.async false
set_option maxRecDepth 100000
set_option maxHeartbeats 4000000
namespace Mine
section
variable {prog : Program} {w : World} {A : Around} {E : Value → Shared → Prop} {s : Shared} {h₀ : Heap} {L : Addr} {m : Str → Option Value} {env : Env}
open LCg (NsObj ns_obj)
inductive CGoK (prog : Program) (w : World) (A : Around) (p : Value → Bool) (G : Value → Value → Prop) (h₀ : Heap) (L : Addr) (m : Str → Option Value) (env : Env) (elt : Expr) (ifs : List Expr) (x : Str) (scope : Scope) (cl : List (Str × Addr)) (Q : Value → Shared → Prop) (xv : Value) (s₁ : Shared) : Prop
  | mk (news : List (Addr × Obj)) (n : Nat) (P : Nat → Value → Prop) 
    (h0 : Fr h₀ L s₁.heap m) 
    (h1 : News h₀ L s₁.heap news) 
    (h2 : n ≤ sizeLine) 
    (h3 : IterOf prog w A xv s₁ n P) 
    (h4 : ∀ i v, P i v → EltAt h₀ L m x news s₁ v fun C s₃ => ∀ E', wpAny (model prog w) A (forIn ifs true fun c r => if r = true then do let ok ← isTrue c (compEnvC scope cl C env) (eval c (compEnvC scope cl C env)); pure (ForInStep.yield ok) else pure (ForInStep.yield r))
      (fun ok s₄ => ok = p v ∧ Keeps s₃ s₄) E' s₃) 
    (h5 : ∀ i v, P i v → p v = true → EltAt h₀ L m x news s₁ v fun C s₃ => ∀ E', wpAny (model prog w) A (eval elt (compEnvC scope cl C env)) (fun y s₄ => G v y ∧ Keeps s₃ s₄) E' s₃) 
    (h6 : ∀ D h tk (ys : Array Value) (vs : List Value) k, Kept s₁.heap h → Fr h₀ L h m → News h₀ L h ((D, seqObj "list" ys k) :: news) → (∀ q ∈ news, @Ne Nat q.1 D) → vs.length = n → (∀ (j : Nat) v, vs[j]? = some v → P j v) → Paired G (vs.filter p) ys.toList → Q (.ref D) { s₁ with heap := h, toks := tk }) : CGoK prog w A p G h₀ L m env elt ifs x scope cl Q xv s₁
theorem CGoK.use {elt iter : Expr} {x : Str} {px : Pos} {ifs : List Expr} {scope : Scope} {cl : List (Str × Addr)} {pos : Pos} {Q : Value → Shared → Prop} (p : Value → Bool) (G : Value → Value → Prop) (_F₀ : Fr h₀ L s.heap m)
    (hclos : closureFor scope env = pure cl) (hcell : ∀ y ∈ scope.names, y.2 ≠ .cell) (hkind : scope.kind = .function)
    (hnames : ∀ y ∈ scope.names, y.2 = .local → scope.names.lookup y.1 = some .local) (hx : scope.names.lookup x = some .local)
    (h : wpAny (model prog w) A (eval iter env) (CGoK prog w A p G h₀ L m env elt ifs x scope cl Q) E s)
    (hs : ∀ x, foldedSetIterable iter env x = pure x := by intro _; rfl) :
    wpAny (model prog w) A (eval (.ListComp elt [⟨.Name x px, iter, ifs, 0⟩] scope pos) env) Q E s := by
  refine wpAny_ListComp_free p G hclos hcell hkind hnames hx (wpAny_mono h (fun xv s₁ hg => ?_) fun _ _ e => e) hs
  obtain ⟨news, n, P, F, N, hsz, it, tests, elts, fin⟩ := hg
  refine it _ _ fun h₂ fp St kp hsl W st hfp => ?_
  have hL : L < s₁.heap.objs.size := F.ns.lt
  have hI0 : h₀.get? s₁.heap.objs.size = none := Heap.get?_none_of_le (Nat.le_of_lt (Nat.lt_of_le_of_lt F.above hL))
  -- what each turn finds
  have turn : ∀ C (s₃ : Shared) m₃, h₂.objs.size ≤ C → s₃.heap.Ns C m₃ → (∀ b o, b ∉ [s₁.heap.objs.size] → h₂.get? b = some o → s₃.heap.get? b = some o) →
      ∃ oC, NsObj oC m₃ ∧ Fr h₀ L s₃.heap m ∧ News h₀ L s₃.heap ((C, oC) :: news) := by
    intro C s₃ m₃ hC hn hk
    obtain ⟨oC, hoC, nC⟩ := ns_obj hn
    have kk : Kept s₁.heap s₃.heap := fun b o e => hk b o (fun q => by rw [List.mem_singleton.mp q] at e; exact absurd (Heap.lt_size e) (Nat.lt_irrefl _)) (kp b o e)
    have hC2 : s₁.heap.objs.size ≤ C := Nat.le_trans hsl hC
    refine ⟨oC, nC, ⟨F.ns.at' fun o e => kk _ _ e, fun b o e => kk _ _ (F.keep b o e), F.above⟩, fun q hq => ?_⟩
    rcases List.mem_cons.mp hq with rfl | hq
    · exact ⟨hoC, Nat.ne_of_gt (Nat.lt_of_lt_of_le hL hC2), Heap.get?_none_of_le (Nat.le_trans (Nat.le_of_lt (Nat.lt_of_le_of_lt F.above hL)) hC2)⟩
    · exact ⟨kk _ _ (N q hq).1, (N q hq).2⟩
  refine ⟨s₁.heap.objs.size, fp, [s₁.heap.objs.size], n, P, St, rfl, W, hsz, st, hfp, ⟨?_, ?_⟩, ?_⟩
  · intro C i v s₃ m₃ E' hC hP hn hm hk ht
    obtain ⟨oC, nC, F3, N3⟩ := turn C s₃ m₃ hC hn hk
    exact tests i v hP C oC m₃ s₃ nC hm ht F3 N3 E'
  · intro C i v s₃ m₃ E' hC hP hp hn hm hk ht
    obtain ⟨oC, nC, F3, N3⟩ := turn C s₃ m₃ hC hn hk
    exact elts i v hP hp C oC m₃ s₃ nC hm ht F3 N3 E'
  · intro D h' tk ys vs hD hl hpl hlen hP hPair hk
    obtain ⟨k, hDo⟩ := hpl
    have kk : Kept s₁.heap h' := fun b o e => hk b o (fun q => by rw [List.mem_singleton.mp q] at e; exact absurd (Heap.lt_size e) (Nat.lt_irrefl _)) (kp b o e)
    have nD : ∀ o, s₁.heap.get? D ≠ some o := fun o e => by have := kp D o e; rw [show h₂.get? D = none from hD] at this; cases this
    refine fin D h' tk ys vs k kk ⟨F.ns.at' fun o e => kk _ _ e, fun b o e => kk _ _ (F.keep b o e), F.above⟩ (fun q hq => ?_) (fun q hq => ?_) hlen hP hPair
    · rcases List.mem_cons.mp hq with rfl | hq
      · refine ⟨hDo, fun e => ?_, ?_⟩
        · obtain ⟨o, _, _, ho, _⟩ := F.ns
          exact nD o (by rw [show D = L from e]; exact ho)
        · show h₀.get? D = none
          cases e : h₀.get? D with
          | none => rfl
          | some o => exact absurd (F.keep D o e) (nD o)
      · exact ⟨kk _ _ (N q hq).1, (N q hq).2⟩
    · exact fun e => nD _ (by rw [← e]; exact (N q hq).1)
end
section
variable {prog : Program} {w : World} {A : Around} {E : Value → Shared → Prop} {s : Shared} {h₀ : Heap} {L : Addr} {m : Str → Option Value} {news : List (Addr × Obj)}
theorem slice3_kept {value slice : Expr} {l : Addr} {items : Array Value} {vl vu vk : Value} {lo hi st : Option Int} {ops : List Value} {Q : Value → Shared → Prop}
    (F : Fr h₀ L s.heap m) (N : News h₀ L s.heap news) (hl : s.heap.IsList l items) (pl : IsPart vl lo) (pu : IsPart vu hi) (pk : IsPart vk st) (h0 : st ≠ some 0)
    (h : ∀ D h', Kept s.heap h' → Fr h₀ L h' m → News h₀ L h' ((D, listOf (slicePick items lo hi st) 0) :: news) → (∀ p ∈ news, p.1 < D) → Q (.ref D) { s with heap := h' })
    (hs : subscripted slice false (.ref l) (.ref s.heap.objs.size) = operate ops (getItem (.ref l) (.ref s.heap.objs.size)) := by with_unfolding_all rfl)
    (ht : ∀ r, letTemporaryGo value (.ref l) r = pure () := by intro _; with_unfolding_all rfl)
    (hsz : items.size ≤ sizeLine := by size_fits) :
    wpAny (model prog w) A (subscriptTail value slice (.ref l) (.ref s.heap.objs.size)) Q E { s with heap := s.heap.push { cls := .type "slice", data := .fields #[vl, vu, vk] } } := by
  refine subscriptTail_ops (Heap.IsList.typeIs (s := { s with heap := s.heap.push { cls := .type "slice", data := .fields #[vl, vu, vk] } }) (hl.push _)) list_getitem_lookup
    (wpAny_getItem_list_slice (hl.push _) (Heap.IsSliceOf.new ..) pl pu pk h0 ?_ hsz) hs ht
  have N1 := News.push (F.push { cls := .type "slice", data := .fields #[vl, vu, vk] }) (N.grown fun _ _ e => Heap.get?_push_of_some _ e) { cls := .type "list", data := .seq (slicePick items lo hi st) }
  rw [Heap.size_push] at N1
  show Q (.ref (s.heap.push _).objs.size) _
  rw [Heap.size_push]
  exact h _ _ (fun b o e => Heap.get?_push_of_some _ (Heap.get?_push_of_some _ e)) ((F.push _).push _) N1 fun p hp => Nat.lt_succ_of_lt (Heap.lt_size (N p hp).1)
theorem sum_kept {l : Addr} {vs : List Value} {ns : List Int} {Q : Value → Shared → Prop} (hh : A.handled = none) (F : Fr h₀ L s.heap m) (N : News h₀ L s.heap news) (hl : s.heap.IsList l vs.toArray) (hi : IntsAre vs ns)
    (h : ∀ h' tk t', Kept s.heap h' → Fr h₀ L h' m → News h₀ L h' news → Q (.int ns.sum t') { s with heap := h', toks := tk }) :
    wpAny (model prog w) A (call (.builtin "sum") [.ref l]) Q E s := by
  obtain ⟨xs, hx⟩ := hi.allInts.items
  have hn : numsOf vs.toArray.toList = ns := by rw [show vs.toArray.toList = vs from rfl, hi.numsOf]
  rw [hx] at hl hn
  rw [nums_intItems] at hn
  refine sum_intListG hh hl fun h' tk t' hk => ?_
  have := h h' tk t' hk (F.keeps hk) (N.grown hk)
  rw [preSum_eq, List.take_of_length_le (by simp), hn]
  exact this
end
end Mine
end
section
open PySem PySem.W PyProof.Rows PySem.Calls PySem.Spec
set_option Elab.async false
set_option maxRecDepth 100000
set_option maxHeartbeats 4000000
namespace Mine
noncomputable def SeedOk (y : Value) : Prop := ∃ z t, y = .int z t ∧ 0 ≤ z ∧ z ≤ 1000000000
noncomputable def ModOk (y : Value) : Prop := ∃ z t, y = .int z t ∧ 0 ≤ z ∧ z < 1000000
theorem mods_sum : ∀ ys : List Value, (∀ y ∈ ys, ModOk y) → ∃ ns, IntsAre ys ns ∧ 0 ≤ ns.sum ∧ ns.sum ≤ 1000000 * (ys.length : Int)
  | [], _ => ⟨[], .nil, by decide, by decide⟩
  | y :: r, h => by
    obtain ⟨z, t, rfl, h1, h2⟩ := h y (.head _)
    obtain ⟨ns, a, b, c⟩ := mods_sum r fun y hy => h y (.tail _ hy)
    exact ⟨z :: ns, .cons _ _ a, by rw [List.sum_cons]; omega, by rw [List.sum_cons, List.length_cons]; push_cast; omega⟩
theorem ints_some : ∀ {l : List Value} {ns : List Int} {i : Nat} {v : Value}, IntsAre l ns → l[i]? = some v → ∃ z t, v = .int z t
  | _, _, _, _, .nil, h => by simp at h
  | _, _, 0, _, .cons n t _, h => ⟨n, t, by simpa using h.symm⟩
  | _, _, i + 1, _, .cons n t r, h => ints_some r (by simpa using h)
theorem seg0 : ∀ (w : World) (mean) (mg mb) (g : Heap) (L fa : Addr) (cd : Value) (X : (hdA.heap_1_1 w.params).In g) (T : Top topProg lsT mean mg mb g) (B : Below callerA g [] g)
    (m : Str → Option Value) (s : Shared) (o1 o2 o3 o4 o5 : Obj) (sc : Addr) (vs : List Value) (ns : List Int) (F : Fr g L s.heap m)
    (N : News g L s.heap [(L + 1 + 1 + 1 + 1 + 1, o5), (L + 1 + 1 + 1 + 1, o4), (L + 1 + 1 + 1, o3), (L + 1 + 1, o2), (L + 1, o1), (245, tabObj #[])])
    (d1 : o1.data = .cell (some (.ref sc))) (hl : g.IsList sc vs.toArray) (hI : IntsAre vs ns) (hn : ns.length ≤ 63) (Q : Flow → Shared → Prop) (E : Value → Shared → Prop)
    (hQ : ∀ (D : Addr) (a b c d : Int) (ta tb tc td : Tok) (k : Nat) (h' : Heap) (tk : Nat), Fr g L h' (fun z => if z = Str.ofString "seeds" then some (.ref D) else m z) → News g L h' ((D, listOf #[.int a ta, .int b tb, .int c tc, .int d td] k) :: [(L + 1 + 1 + 1 + 1 + 1, o5), (L + 1 + 1 + 1 + 1, o4), (L + 1 + 1 + 1, o3), (L + 1 + 1, o2), (L + 1, o1), (245, tabObj #[])]) → (∀ p ∈ [(L + 1 + 1 + 1 + 1 + 1, o5), (L + 1 + 1 + 1 + 1, o4), (L + 1 + 1 + 1, o3), (L + 1 + 1, o2), (L + 1, o1), (245, tabObj #[])], @Ne Nat p.1 D) → (0 ≤ a ∧ a ≤ 1000000000) → (0 ≤ b ∧ b ≤ 1000000000) → (0 ≤ c ∧ c ≤ 1000000000) → (0 ≤ d ∧ d ≤ 1000000000) → Q .next { s with heap := h', toks := tk }),
    wpAny (model PySem.Challenge.rw_tc0048_01.row.prog w) (lawA (lawS w) L fa cd) (exec (nth (lawB w) 0) (lawE (lawS w) L fa cd)) Q E s := by
  k_with_none
  (k_with "exec Assign cons ListComp" => (k_here; refine stop_here ?_))
  (k_with "eval ListComp" => (k_here; refine stop_here ?_))
  (k_with "subscriptTail Name Slice ref ref" => (k_here; k_dflt (refine' slice3_kept ?F ?N ?l ?pl ?pu ?pk ?h0 ?_ ?s ?t ?z; (case F => k_asm); (case N => k_asm); (case l => first | kmk_list | is_list); (case pl => exact IsPart.int _ _); (case pu => exact IsPart.int _ _); (case pk => exact IsPart.int _ _); (case h0 => decide); (case s => with_unfolding_all rfl); (case t => kmk_pure); (case z => (rw [sizeLine_eq, List.size_toArray, IntsAre.length (by assumption)]; omega))); intro D' h' kK F' N' l1; (try k_lt l1)))
  (k_with "call builtin:sum" => (k_here; k_dflt (refine' sum_kept ?k0 ?k1 ?k2 ?k3 ?k4 ?_; (case k0 => with_unfolding_all rfl); (case k1 => k_asm); (case k2 => k_asm); (case k3 => kmk_list); (case k4 => assumption)); intro h' tk' t' kK F' N'))
  (k_with "call type:enumerate" => (k_here; refine stop_here ?_))
  k_fill
  intro w mean mg mb g L fa cd X T B m s o1 o2 o3 o4 o5 sc vs ns F N d1 hl hI hn Q E hQ
  refine cut_law (P := fun body scope => wpAny (model PySem.Challenge.rw_tc0048_01.row.prog w) (lawA scope L fa cd) (exec (nth body 0) (lawE scope L fa cd)) Q E s) (by k_is) ?_
  simp only [nth]
  delta lawE lawA
  k_steps
  delta Stop
  refine Assign_ListComp_pairs (fun _ => SeedOk) rfl (by with_unfolding_all rfl) (by with_unfolding_all rfl) (by decide) (by rfl) (by decide) (by rfl) (by rfl) (by decide) (by rfl) (by rfl) ?_
  k_steps
  delta Stop
  rename News _ _ _ _ => nS
  rename Fr _ _ _ _ => fS
  have hlist := isl_of (nS (_, _) (.head _)).1
  dsimp only at hlist
  refine enum_go fS nS hlist rfl rfl (Nat.le_of_ble_eq_true rfl) ?elt ?fin
  case elt =>
    intro i v t hv C oC m₃ s₃ hC hm1 hm2 F3 N3 E'
    obtain ⟨hi9, z9, tz9, rfl, hz0, hz1⟩ : i < 4 ∧ ∃ z tz, v = .int z tz ∧ 0 ≤ z ∧ z ≤ 124 := by
      match i, hv with
      | 0, h => exact ⟨by decide, 117, _, by simpa using h.symm, by decide, by decide⟩
      | 1, h => exact ⟨by decide, 124, _, by simpa using h.symm, by decide, by decide⟩
      | 2, h => exact ⟨by decide, 37, _, by simpa using h.symm, by decide, by decide⟩
      | 3, h => exact ⟨by decide, 7, _, by simpa using h.symm, by decide, by decide⟩
      | n + 4, h => simp at h
    k_steps
    delta Stop
    refine CGoK.use (fun _ => true) (fun _ y => ModOk y) (by k_asm) (by with_unfolding_all rfl) (by decide) (by rfl) (by decide) (by rfl) ?_
    k_steps
    rename Kept _ _ => k1
    refine ⟨_, _, _, by k_asm, by k_asm, ?isz, iter_list rfl (by kmk_list), ?itests, ?ielts, ?ifin⟩
    case isz => refine Nat.le_trans (slicePick_size_le _ _ _ _) ?_; rw [sizeLine_eq, List.size_toArray, hI.length]; omega
    case itests => intro i v hP C oC m₃ s₃ hC hx F3 N3 E'; exact fun E' => wpAny_pure ⟨rfl, ⟨_, _, rfl, fun _ _ e => e⟩⟩
    case ielts =>
      intro i v hP hp C oC m₃ s₃ hC hx ht F3 N3 E'
      obtain ⟨z, t, rfl⟩ := ints_some (hI.pick _ _ _) (i := i) (by simpa using hP)
      k_steps
      · have e6 : (0 : Int) ≤ 10 ^ Int.toNat 6 := by decide
        exact ⟨_, _, rfl, by rw [Int.fmod_eq_emod_of_nonneg _ e6]; exact Int.emod_nonneg _ (by decide), by rw [Int.fmod_eq_emod_of_nonneg _ e6]; exact Int.lt_of_lt_of_le (Int.emod_lt_of_pos _ (by decide)) (by decide)⟩
      · exact ⟨_, _, rfl, fun _ _ e => e⟩
    case ifin =>
      intro D h tk ys vs2 k kK F N hne hlen hP hpair
      obtain ⟨nsum, hIs, hs0, hs1⟩ := mods_sum ys.toList (fun y hy => by obtain ⟨_, q⟩ := hpair.right y hy; exact q)
      (try dsimp only)
      k_steps
      · have l1 := hpair.length
        have l2 := List.length_filter_le (fun _ => true) vs2
        have l3 := slicePick_size_le vs.toArray (some (i : Int)) (some 60) (some 4)
        have l4 : vs.toArray.size = ns.length := by rw [List.size_toArray]; exact hI.length
        exact ⟨_, _, rfl, by omega, by omega⟩
      · rename Kept _ _ => k3
        exact ⟨_, _, rfl, fun b o e => k3 _ _ (kK _ _ (k1 _ _ e))⟩
  case fin =>
    intro D h' tk ys k F5 N5 hne hsz hG
    have hgot : ∀ j, j < 4 → ∃ z t, ys[j]? = some (.int z t) ∧ 0 ≤ z ∧ z ≤ 1000000000 := fun j hj => by
      have hs4 : ys.size = 4 := hsz
      have e : ys[j]? = some ys[j] := Array.getElem?_eq_getElem (by omega)
      obtain ⟨z, t, q, r⟩ := hG j _ e
      exact ⟨z, t, by rw [e, q], r⟩
    obtain ⟨a, ta, ea, ha⟩ := hgot 0 (by decide)
    obtain ⟨b, tb, eb, hb⟩ := hgot 1 (by decide)
    obtain ⟨c, tc, ec, hc⟩ := hgot 2 (by decide)
    obtain ⟨d, td, ed, hd⟩ := hgot 3 (by decide)
    have hys : ys = #[.int a ta, .int b tb, .int c tc, .int d td] := by
      refine Array.ext_getElem? fun j => ?_
      match j with
      | 0 => exact ea
      | 1 => exact eb
      | 2 => exact ec
      | 3 => exact ed
      | j + 4 => rw [Array.getElem?_eq_none (by rw [hsz]; exact Nat.le_add_left 4 j), Array.getElem?_eq_none (Nat.le_add_left 4 j)]
    subst hys
    exact hQ D a b c d ta tb tc td k h' tk F5 (fun p hp => by
      rcases List.mem_cons.mp hp with rfl | hp
      · exact N5 _ (.head _)
      · exact N5 _ (.tail _ (.tail _ hp))) (fun p hp => hne p (.tail _ hp)) ha hb hc hd
end Mine
end
section
open PySem PySem.W PyProof.Rows PySem.Calls PySem.Spec
set_option Elab.async false
set_option maxRecDepth 100000
set_option maxHeartbeats 4000000
namespace Mine
noncomputable def endsL : List Str := [Str.ofString "\n", Str.ofString "\r", Str.ofString "\r\n"]
noncomputable def ends (k : Nat) : Str := endsL.getD k PySem.Str.empty
noncomputable def tabsL : List Str := [Str.ofString "\t", Str.ofString "&#09;", Str.ofString "\t", Str.ofString "\t", Str.ofString "&#x9;"]
noncomputable def tabs (k : Nat) : Str := tabsL.getD k PySem.Str.empty
noncomputable def closesL : List Str := [Str.ofString "\r\n", Str.ofString "&#13;&#10;", Str.ofString "\r\n", Str.ofString "&#xD;\n", Str.ofString "&#xD;&#xA;"]
noncomputable def closes (k : Nat) : Str := closesL.getD k PySem.Str.empty
noncomputable def escAd : Nat → Addr
  | 0 => 158 | 1 => 165 | 2 => 172 | 3 => 179 | _ => 186
noncomputable def escV (k : Nat) : Value := .ref (escAd k)
theorem fm_in (x m : Int) (h : 0 < m) : 0 ≤ x.fmod m ∧ x.fmod m < m := by
  rw [Int.fmod_eq_emod_of_nonneg _ (Int.le_of_lt h)]
  exact ⟨Int.emod_nonneg _ (Int.ne_of_gt h), Int.emod_lt_of_pos _ h⟩
theorem item_any {prog : Program} {w : World} {A : Around} {E : Value → Shared → Prop} {s : Shared} {value slice : Expr} {l : Addr} {vs : List Value} {x : Value} {i : Int} {u : Tok} {Q : Value → Shared → Prop} (hl : s.heap.IsList l vs.toArray) (h0 : 0 ≤ i) (hfit : i < 2 ^ 63) (hx : vs[i.toNat]? = some x) (h : Q x s)
    (hs : subscripted slice false (.ref l) (.int i u) = operate [.ref l, .int i u] (getItem (.ref l) (.int i u)) := by with_unfolding_all rfl) : wpAny (model prog w) A (subscriptTail value slice (.ref l) (.int i u)) Q E s :=
  tail_any hl.typeIs slot_list_getitem.lookup (wpAny_getItem_list hl h0 hfit (x := x) (by simpa using hx) h) hs
theorem escV_get {k : Nat} (h : k < 5) : [Value.ref 158, Value.ref 165, Value.ref 172, Value.ref 179, Value.ref 186][k]? = some (escV k) := by
  match k, h with
  | 0, _ => rfl
  | 1, _ => rfl
  | 2, _ => rfl
  | 3, _ => rfl
  | 4, _ => rfl
theorem seg1 : ∀ (w : World) (mean : ExcName → Option Value) (mg mb : Str → Option Value) (g : Heap) (L fa : Addr) (cd : Value) (X : (hdA.heap_1_1 w.params).In g) (T : Top topProg lsT mean mg mb g) (B : Below callerA g [] g) (h245 : 245 < L) (m : Str → Option Value) (s : Shared) (Q : Flow → Shared → Prop) (E : Value → Shared → Prop)
    (o1 o2 o3 o4 o5 : Obj) (D : Addr) (a b c d : Int) (ta tb tc td : Tok) (k : Nat) (F : Fr g L s.heap (kstB m [(Str.ofString "seeds", .ref D)])) (N : News g L s.heap ((D, listOf #[.int a ta, .int b tb, .int c tc, .int d td] k) :: [(L + 1 + 1 + 1 + 1 + 1, o5), (L + 1 + 1 + 1 + 1, o4), (L + 1 + 1 + 1, o3), (L + 1 + 1, o2), (L + 1, o1), (245, tabObj #[])])) (hS : ∀ p ∈ [(L + 1 + 1 + 1 + 1 + 1, o5), (L + 1 + 1 + 1 + 1, o4), (L + 1 + 1 + 1, o3), (L + 1 + 1, o2), (L + 1, o1), (245, tabObj #[])], @Ne Nat p.1 D) (hd : 0 ≤ d ∧ d ≤ 1000000000) (d9 : o2.data = .cell none) 
    (hQ : ∀ h' tk o2 t, Fr g L h' (kstB m [(Str.ofString "seeds", .ref D)]) → News g L h' ((D, listOf #[.int a ta, .int b tb, .int c tc, .int d td] k) :: [(L + 1 + 1 + 1 + 1 + 1, o5), (L + 1 + 1 + 1 + 1, o4), (L + 1 + 1 + 1, o3), (L + 1 + 1, o2), (L + 1, o1), (245, tabObj #[])]) → o2.data = .cell (some (.int (1 + d.fmod 2) t)) → Q .next { s with heap := h', toks := tk }),
    wpAny (model PySem.Challenge.rw_tc0048_01.row.prog w) (lawA (lawS w) L fa cd) (exec (nth (lawB w) 1) (lawE (lawS w) L fa cd)) Q E s := by
  k_with_none
  (k_with "subscriptTail" => (k_here; (with_reducible show wpAny _ _ (subscriptTail _ _ (Value.ref _) (Value.int (Int.fmod _ _) _)) _ _ _); first
  | (k_dflt (refine' KTb.item_list (ws := endsL) ?l ?w ?a ?b ?c ?d ?e; (case l => kmk_list); (case w => exact .cons _ _ (.cons _ _ (.cons _ _ (.nil)))); (case a => omega); (case b => (show _ < ((3 : Nat) : Int); omega)); (case c => omega); (case e => with_unfolding_all rfl)); intro _ _)
  | (k_dflt (refine' KTb.item_list (ws := tabsL) ?l ?w ?a ?b ?c ?d ?e; (case l => kmk_list); (case w => exact .cons _ _ (.cons _ _ (.cons _ _ (.cons _ _ (.cons _ _ (.nil)))))); (case a => omega); (case b => (show _ < ((5 : Nat) : Int); omega)); (case c => omega); (case e => with_unfolding_all rfl)); intro _ _)
  | (k_dflt (refine' KTb.item_list (ws := closesL) ?l ?w ?a ?b ?c ?d ?e; (case l => kmk_list); (case w => exact .cons _ _ (.cons _ _ (.cons _ _ (.cons _ _ (.cons _ _ (.nil)))))); (case a => omega); (case b => (show _ < ((5 : Nat) : Int); omega)); (case c => omega); (case e => with_unfolding_all rfl)); intro _ _)
  | (k_dflt (refine' item_any ?l ?a ?c ?x ?d ?e; (case l => kmk_list); (case a => omega); (case c => omega); (case x => exact escV_get (by omega)); (case e => with_unfolding_all rfl)))))
  k_fill
  intro w mean mg mb g L fa cd X T B h245 m s Q E o1 o2 o3 o4 o5 D a b c d ta tb tc td k F N hS hd d9 hQ
  refine cut_law (P := fun body scope => wpAny (model PySem.Challenge.rw_tc0048_01.row.prog w) (lawA scope L fa cd) (exec (nth body 1) (lawE scope L fa cd)) Q E s) (by k_is) ?_
  simp only [nth]
  delta lawE lawA
  have hSn0 := hS _ (.head _)
  have hSn1 := hS _ (.tail _ (.head _))
  have hSn2 := hS _ (.tail _ (.tail _ (.head _)))
  have hSn3 := hS _ (.tail _ (.tail _ (.tail _ (.head _))))
  have hSn4 := hS _ (.tail _ (.tail _ (.tail _ (.tail _ (.head _)))))
  have hSn5 := hS _ (.tail _ (.tail _ (.tail _ (.tail _ (.tail _ (.head _))))))
  dsimp only at hSn0 hSn1 hSn2 hSn3 hSn4 hSn5
  have hSs0 := Ne.symm hSn0
  have hSs1 := Ne.symm hSn1
  have hSs2 := Ne.symm hSn2
  have hSs3 := Ne.symm hSn3
  have hSs4 := Ne.symm hSn4
  have hSs5 := Ne.symm hSn5
  have c2454 : 245 < L + 1 := Nat.lt_succ_of_lt h245
  have c2453 : 245 < L + 1 + 1 := Nat.lt_succ_of_lt c2454
  have c2452 : 245 < L + 1 + 1 + 1 := Nat.lt_succ_of_lt c2453
  have c2451 : 245 < L + 1 + 1 + 1 + 1 := Nat.lt_succ_of_lt c2452
  have c2450 : 245 < L + 1 + 1 + 1 + 1 + 1 := Nat.lt_succ_of_lt c2451
  have c2460 : (L + 1 + 1 + 1 + 1 + 1 : Addr) ≠ 245 := Nat.ne_of_gt c2450
  have c2470 : (245 : Addr) ≠ L + 1 + 1 + 1 + 1 + 1 := Nat.ne_of_lt c2450
  have c2461 : (L + 1 + 1 + 1 + 1 : Addr) ≠ 245 := Nat.ne_of_gt c2451
  have c2471 : (245 : Addr) ≠ L + 1 + 1 + 1 + 1 := Nat.ne_of_lt c2451
  have c2462 : (L + 1 + 1 + 1 : Addr) ≠ 245 := Nat.ne_of_gt c2452
  have c2472 : (245 : Addr) ≠ L + 1 + 1 + 1 := Nat.ne_of_lt c2452
  have c2463 : (L + 1 + 1 : Addr) ≠ 245 := Nat.ne_of_gt c2453
  have c2473 : (245 : Addr) ≠ L + 1 + 1 := Nat.ne_of_lt c2453
  have c2464 : (L + 1 : Addr) ≠ 245 := Nat.ne_of_gt c2454
  have c2474 : (245 : Addr) ≠ L + 1 := Nat.ne_of_lt c2454
  obtain ⟨hd0, hd1⟩ := hd
  have hf2 := fm_in (([a, b, c, d].getD (Int.toNat 3) 0).fdiv 2) 3 (by decide)
  have hf6 := fm_in (([a, b, c, d].getD (Int.toNat 3) 0).fdiv 6) 5 (by decide)
  k_steps
  rename News _ _ _ _ => nE
  first | done | exact hQ _ _ _ _ (by assumption) nE (by assumption) | exact hQ _ _ _ _ (by assumption) (fun p hp => nE p (.tail _ hp)) (by assumption) | exact hQ _ _ _ (by assumption) (fun p hp => nE p (.tail _ hp)) | exact hQ _ _ (by assumption) (fun p hp => nE p (.tail _ hp))
theorem seg2 : ∀ (w : World) (mean : ExcName → Option Value) (mg mb : Str → Option Value) (g : Heap) (L fa : Addr) (cd : Value) (X : (hdA.heap_1_1 w.params).In g) (T : Top topProg lsT mean mg mb g) (B : Below callerA g [] g) (h245 : 245 < L) (m : Str → Option Value) (s : Shared) (Q : Flow → Shared → Prop) (E : Value → Shared → Prop)
    (o1 o2 o3 o4 o5 : Obj) (D : Addr) (a b c d : Int) (ta tb tc td : Tok) (k : Nat) (F : Fr g L s.heap (kstB m [(Str.ofString "seeds", .ref D)])) (N : News g L s.heap ((D, listOf #[.int a ta, .int b tb, .int c tc, .int d td] k) :: [(L + 1 + 1 + 1 + 1 + 1, o5), (L + 1 + 1 + 1 + 1, o4), (L + 1 + 1 + 1, o3), (L + 1 + 1, o2), (L + 1, o1), (245, tabObj #[])])) (hS : ∀ p ∈ [(L + 1 + 1 + 1 + 1 + 1, o5), (L + 1 + 1 + 1 + 1, o4), (L + 1 + 1 + 1, o3), (L + 1 + 1, o2), (L + 1, o1), (245, tabObj #[])], @Ne Nat p.1 D) (hd : 0 ≤ d ∧ d ≤ 1000000000) (d9 : o3.data = .cell none) 
    (hQ : ∀ h' tk o3 t, Fr g L h' (kstB m [(Str.ofString "seeds", .ref D)]) → News g L h' ((D, listOf #[.int a ta, .int b tb, .int c tc, .int d td] k) :: [(L + 1 + 1 + 1 + 1 + 1, o5), (L + 1 + 1 + 1 + 1, o4), (L + 1 + 1 + 1, o3), (L + 1 + 1, o2), (L + 1, o1), (245, tabObj #[])]) → o3.data = .cell (some (.str (ends ((d.fdiv 2).fmod 3).toNat) t)) → Q .next { s with heap := h', toks := tk }),
    wpAny (model PySem.Challenge.rw_tc0048_01.row.prog w) (lawA (lawS w) L fa cd) (exec (nth (lawB w) 2) (lawE (lawS w) L fa cd)) Q E s := by
  k_with_none
  (k_with "subscriptTail" => (k_here; (with_reducible show wpAny _ _ (subscriptTail _ _ (Value.ref _) (Value.int (Int.fmod _ _) _)) _ _ _); first
  | (k_dflt (refine' KTb.item_list (ws := endsL) ?l ?w ?a ?b ?c ?d ?e; (case l => kmk_list); (case w => exact .cons _ _ (.cons _ _ (.cons _ _ (.nil)))); (case a => omega); (case b => (show _ < ((3 : Nat) : Int); omega)); (case c => omega); (case e => with_unfolding_all rfl)); intro _ _)
  | (k_dflt (refine' KTb.item_list (ws := tabsL) ?l ?w ?a ?b ?c ?d ?e; (case l => kmk_list); (case w => exact .cons _ _ (.cons _ _ (.cons _ _ (.cons _ _ (.cons _ _ (.nil)))))); (case a => omega); (case b => (show _ < ((5 : Nat) : Int); omega)); (case c => omega); (case e => with_unfolding_all rfl)); intro _ _)
  | (k_dflt (refine' KTb.item_list (ws := closesL) ?l ?w ?a ?b ?c ?d ?e; (case l => kmk_list); (case w => exact .cons _ _ (.cons _ _ (.cons _ _ (.cons _ _ (.cons _ _ (.nil)))))); (case a => omega); (case b => (show _ < ((5 : Nat) : Int); omega)); (case c => omega); (case e => with_unfolding_all rfl)); intro _ _)
  | (k_dflt (refine' item_any ?l ?a ?c ?x ?d ?e; (case l => kmk_list); (case a => omega); (case c => omega); (case x => exact escV_get (by omega)); (case e => with_unfolding_all rfl)))))
  k_fill
  intro w mean mg mb g L fa cd X T B h245 m s Q E o1 o2 o3 o4 o5 D a b c d ta tb tc td k F N hS hd d9 hQ
  refine cut_law (P := fun body scope => wpAny (model PySem.Challenge.rw_tc0048_01.row.prog w) (lawA scope L fa cd) (exec (nth body 2) (lawE scope L fa cd)) Q E s) (by k_is) ?_
  simp only [nth]
  delta lawE lawA
  have hSn0 := hS _ (.head _)
  have hSn1 := hS _ (.tail _ (.head _))
  have hSn2 := hS _ (.tail _ (.tail _ (.head _)))
  have hSn3 := hS _ (.tail _ (.tail _ (.tail _ (.head _))))
  have hSn4 := hS _ (.tail _ (.tail _ (.tail _ (.tail _ (.head _)))))
  have hSn5 := hS _ (.tail _ (.tail _ (.tail _ (.tail _ (.tail _ (.head _))))))
  dsimp only at hSn0 hSn1 hSn2 hSn3 hSn4 hSn5
  have hSs0 := Ne.symm hSn0
  have hSs1 := Ne.symm hSn1
  have hSs2 := Ne.symm hSn2
  have hSs3 := Ne.symm hSn3
  have hSs4 := Ne.symm hSn4
  have hSs5 := Ne.symm hSn5
  have c2454 : 245 < L + 1 := Nat.lt_succ_of_lt h245
  have c2453 : 245 < L + 1 + 1 := Nat.lt_succ_of_lt c2454
  have c2452 : 245 < L + 1 + 1 + 1 := Nat.lt_succ_of_lt c2453
  have c2451 : 245 < L + 1 + 1 + 1 + 1 := Nat.lt_succ_of_lt c2452
  have c2450 : 245 < L + 1 + 1 + 1 + 1 + 1 := Nat.lt_succ_of_lt c2451
  have c2460 : (L + 1 + 1 + 1 + 1 + 1 : Addr) ≠ 245 := Nat.ne_of_gt c2450
  have c2470 : (245 : Addr) ≠ L + 1 + 1 + 1 + 1 + 1 := Nat.ne_of_lt c2450
  have c2461 : (L + 1 + 1 + 1 + 1 : Addr) ≠ 245 := Nat.ne_of_gt c2451
  have c2471 : (245 : Addr) ≠ L + 1 + 1 + 1 + 1 := Nat.ne_of_lt c2451
  have c2462 : (L + 1 + 1 + 1 : Addr) ≠ 245 := Nat.ne_of_gt c2452
  have c2472 : (245 : Addr) ≠ L + 1 + 1 + 1 := Nat.ne_of_lt c2452
  have c2463 : (L + 1 + 1 : Addr) ≠ 245 := Nat.ne_of_gt c2453
  have c2473 : (245 : Addr) ≠ L + 1 + 1 := Nat.ne_of_lt c2453
  have c2464 : (L + 1 : Addr) ≠ 245 := Nat.ne_of_gt c2454
  have c2474 : (245 : Addr) ≠ L + 1 := Nat.ne_of_lt c2454
  obtain ⟨hd0, hd1⟩ := hd
  have hf2 := fm_in (([a, b, c, d].getD (Int.toNat 3) 0).fdiv 2) 3 (by decide)
  have hf6 := fm_in (([a, b, c, d].getD (Int.toNat 3) 0).fdiv 6) 5 (by decide)
  k_steps
  rename News _ _ _ _ => nE
  first | done | exact hQ _ _ _ _ (by assumption) nE (by assumption) | exact hQ _ _ _ _ (by assumption) (fun p hp => nE p (.tail _ hp)) (by assumption) | exact hQ _ _ _ (by assumption) (fun p hp => nE p (.tail _ hp)) | exact hQ _ _ (by assumption) (fun p hp => nE p (.tail _ hp))
theorem seg3 : ∀ (w : World) (mean : ExcName → Option Value) (mg mb : Str → Option Value) (g : Heap) (L fa : Addr) (cd : Value) (X : (hdA.heap_1_1 w.params).In g) (T : Top topProg lsT mean mg mb g) (B : Below callerA g [] g) (h245 : 245 < L) (m : Str → Option Value) (s : Shared) (Q : Flow → Shared → Prop) (E : Value → Shared → Prop)
    (o1 o2 o3 o4 o5 : Obj) (D : Addr) (a b c d : Int) (ta tb tc td : Tok) (k : Nat) (F : Fr g L s.heap (kstB m [(Str.ofString "seeds", .ref D)])) (N : News g L s.heap ((D, listOf #[.int a ta, .int b tb, .int c tc, .int d td] k) :: [(L + 1 + 1 + 1 + 1 + 1, o5), (L + 1 + 1 + 1 + 1, o4), (L + 1 + 1 + 1, o3), (L + 1 + 1, o2), (L + 1, o1), (245, tabObj #[])])) (hS : ∀ p ∈ [(L + 1 + 1 + 1 + 1 + 1, o5), (L + 1 + 1 + 1 + 1, o4), (L + 1 + 1 + 1, o3), (L + 1 + 1, o2), (L + 1, o1), (245, tabObj #[])], @Ne Nat p.1 D) (hd : 0 ≤ d ∧ d ≤ 1000000000) 
    (hQ : ∀ h' tk, Fr g L h' (fun z => if z = Str.ofString "write" then some (escV ((d.fdiv 6).fmod 5).toNat) else kstB m [(Str.ofString "seeds", .ref D)] z) → News g L h' ((D, listOf #[.int a ta, .int b tb, .int c tc, .int d td] k) :: [(L + 1 + 1 + 1 + 1 + 1, o5), (L + 1 + 1 + 1 + 1, o4), (L + 1 + 1 + 1, o3), (L + 1 + 1, o2), (L + 1, o1), (245, tabObj #[])]) → Q .next { s with heap := h', toks := tk }),
    wpAny (model PySem.Challenge.rw_tc0048_01.row.prog w) (lawA (lawS w) L fa cd) (exec (nth (lawB w) 3) (lawE (lawS w) L fa cd)) Q E s := by
  k_with_none
  (k_with "subscriptTail" => (k_here; (with_reducible show wpAny _ _ (subscriptTail _ _ (Value.ref _) (Value.int (Int.fmod _ _) _)) _ _ _); first
  | (k_dflt (refine' KTb.item_list (ws := endsL) ?l ?w ?a ?b ?c ?d ?e; (case l => kmk_list); (case w => exact .cons _ _ (.cons _ _ (.cons _ _ (.nil)))); (case a => omega); (case b => (show _ < ((3 : Nat) : Int); omega)); (case c => omega); (case e => with_unfolding_all rfl)); intro _ _)
  | (k_dflt (refine' KTb.item_list (ws := tabsL) ?l ?w ?a ?b ?c ?d ?e; (case l => kmk_list); (case w => exact .cons _ _ (.cons _ _ (.cons _ _ (.cons _ _ (.cons _ _ (.nil)))))); (case a => omega); (case b => (show _ < ((5 : Nat) : Int); omega)); (case c => omega); (case e => with_unfolding_all rfl)); intro _ _)
  | (k_dflt (refine' KTb.item_list (ws := closesL) ?l ?w ?a ?b ?c ?d ?e; (case l => kmk_list); (case w => exact .cons _ _ (.cons _ _ (.cons _ _ (.cons _ _ (.cons _ _ (.nil)))))); (case a => omega); (case b => (show _ < ((5 : Nat) : Int); omega)); (case c => omega); (case e => with_unfolding_all rfl)); intro _ _)
  | (k_dflt (refine' item_any ?l ?a ?c ?x ?d ?e; (case l => kmk_list); (case a => omega); (case c => omega); (case x => exact escV_get (by omega)); (case e => with_unfolding_all rfl)))))
  k_fill
  intro w mean mg mb g L fa cd X T B h245 m s Q E o1 o2 o3 o4 o5 D a b c d ta tb tc td k F N hS hd hQ
  refine cut_law (P := fun body scope => wpAny (model PySem.Challenge.rw_tc0048_01.row.prog w) (lawA scope L fa cd) (exec (nth body 3) (lawE scope L fa cd)) Q E s) (by k_is) ?_
  simp only [nth]
  delta lawE lawA
  have hSn0 := hS _ (.head _)
  have hSn1 := hS _ (.tail _ (.head _))
  have hSn2 := hS _ (.tail _ (.tail _ (.head _)))
  have hSn3 := hS _ (.tail _ (.tail _ (.tail _ (.head _))))
  have hSn4 := hS _ (.tail _ (.tail _ (.tail _ (.tail _ (.head _)))))
  have hSn5 := hS _ (.tail _ (.tail _ (.tail _ (.tail _ (.tail _ (.head _))))))
  dsimp only at hSn0 hSn1 hSn2 hSn3 hSn4 hSn5
  have hSs0 := Ne.symm hSn0
  have hSs1 := Ne.symm hSn1
  have hSs2 := Ne.symm hSn2
  have hSs3 := Ne.symm hSn3
  have hSs4 := Ne.symm hSn4
  have hSs5 := Ne.symm hSn5
  have c2454 : 245 < L + 1 := Nat.lt_succ_of_lt h245
  have c2453 : 245 < L + 1 + 1 := Nat.lt_succ_of_lt c2454
  have c2452 : 245 < L + 1 + 1 + 1 := Nat.lt_succ_of_lt c2453
  have c2451 : 245 < L + 1 + 1 + 1 + 1 := Nat.lt_succ_of_lt c2452
  have c2450 : 245 < L + 1 + 1 + 1 + 1 + 1 := Nat.lt_succ_of_lt c2451
  have c2460 : (L + 1 + 1 + 1 + 1 + 1 : Addr) ≠ 245 := Nat.ne_of_gt c2450
  have c2470 : (245 : Addr) ≠ L + 1 + 1 + 1 + 1 + 1 := Nat.ne_of_lt c2450
  have c2461 : (L + 1 + 1 + 1 + 1 : Addr) ≠ 245 := Nat.ne_of_gt c2451
  have c2471 : (245 : Addr) ≠ L + 1 + 1 + 1 + 1 := Nat.ne_of_lt c2451
  have c2462 : (L + 1 + 1 + 1 : Addr) ≠ 245 := Nat.ne_of_gt c2452
  have c2472 : (245 : Addr) ≠ L + 1 + 1 + 1 := Nat.ne_of_lt c2452
  have c2463 : (L + 1 + 1 : Addr) ≠ 245 := Nat.ne_of_gt c2453
  have c2473 : (245 : Addr) ≠ L + 1 + 1 := Nat.ne_of_lt c2453
  have c2464 : (L + 1 : Addr) ≠ 245 := Nat.ne_of_gt c2454
  have c2474 : (245 : Addr) ≠ L + 1 := Nat.ne_of_lt c2454
  obtain ⟨hd0, hd1⟩ := hd
  have hf2 := fm_in (([a, b, c, d].getD (Int.toNat 3) 0).fdiv 2) 3 (by decide)
  have hf6 := fm_in (([a, b, c, d].getD (Int.toNat 3) 0).fdiv 6) 5 (by decide)
  k_steps
  rename News _ _ _ _ => nE
  first | done | exact hQ _ _ _ _ (by assumption) nE (by assumption) | exact hQ _ _ _ _ (by assumption) (fun p hp => nE p (.tail _ hp)) (by assumption) | exact hQ _ _ _ (by assumption) (fun p hp => nE p (.tail _ hp)) | exact hQ _ _ (by assumption) (fun p hp => nE p (.tail _ hp))
theorem seg4 : ∀ (w : World) (mean : ExcName → Option Value) (mg mb : Str → Option Value) (g : Heap) (L fa : Addr) (cd : Value) (X : (hdA.heap_1_1 w.params).In g) (T : Top topProg lsT mean mg mb g) (B : Below callerA g [] g) (h245 : 245 < L) (m : Str → Option Value) (s : Shared) (Q : Flow → Shared → Prop) (E : Value → Shared → Prop)
    (o1 o2 o3 o4 o5 : Obj) (D : Addr) (a b c d : Int) (ta tb tc td : Tok) (k : Nat) (F : Fr g L s.heap (kstB m [(Str.ofString "seeds", .ref D)])) (N : News g L s.heap ((D, listOf #[.int a ta, .int b tb, .int c tc, .int d td] k) :: [(L + 1 + 1 + 1 + 1 + 1, o5), (L + 1 + 1 + 1 + 1, o4), (L + 1 + 1 + 1, o3), (L + 1 + 1, o2), (L + 1, o1), (245, tabObj #[])])) (hS : ∀ p ∈ [(L + 1 + 1 + 1 + 1 + 1, o5), (L + 1 + 1 + 1 + 1, o4), (L + 1 + 1 + 1, o3), (L + 1 + 1, o2), (L + 1, o1), (245, tabObj #[])], @Ne Nat p.1 D) (hd : 0 ≤ d ∧ d ≤ 1000000000) (d9 : o4.data = .cell none) 
    (hQ : ∀ h' tk o4 t, Fr g L h' (kstB m [(Str.ofString "seeds", .ref D)]) → News g L h' ((D, listOf #[.int a ta, .int b tb, .int c tc, .int d td] k) :: [(L + 1 + 1 + 1 + 1 + 1, o5), (L + 1 + 1 + 1 + 1, o4), (L + 1 + 1 + 1, o3), (L + 1 + 1, o2), (L + 1, o1), (245, tabObj #[])]) → o4.data = .cell (some (.str (tabs ((d.fdiv 6).fmod 5).toNat) t)) → Q .next { s with heap := h', toks := tk }),
    wpAny (model PySem.Challenge.rw_tc0048_01.row.prog w) (lawA (lawS w) L fa cd) (exec (nth (lawB w) 4) (lawE (lawS w) L fa cd)) Q E s := by
  k_with_none
  (k_with "subscriptTail" => (k_here; (with_reducible show wpAny _ _ (subscriptTail _ _ (Value.ref _) (Value.int (Int.fmod _ _) _)) _ _ _); first
  | (k_dflt (refine' KTb.item_list (ws := endsL) ?l ?w ?a ?b ?c ?d ?e; (case l => kmk_list); (case w => exact .cons _ _ (.cons _ _ (.cons _ _ (.nil)))); (case a => omega); (case b => (show _ < ((3 : Nat) : Int); omega)); (case c => omega); (case e => with_unfolding_all rfl)); intro _ _)
  | (k_dflt (refine' KTb.item_list (ws := tabsL) ?l ?w ?a ?b ?c ?d ?e; (case l => kmk_list); (case w => exact .cons _ _ (.cons _ _ (.cons _ _ (.cons _ _ (.cons _ _ (.nil)))))); (case a => omega); (case b => (show _ < ((5 : Nat) : Int); omega)); (case c => omega); (case e => with_unfolding_all rfl)); intro _ _)
  | (k_dflt (refine' KTb.item_list (ws := closesL) ?l ?w ?a ?b ?c ?d ?e; (case l => kmk_list); (case w => exact .cons _ _ (.cons _ _ (.cons _ _ (.cons _ _ (.cons _ _ (.nil)))))); (case a => omega); (case b => (show _ < ((5 : Nat) : Int); omega)); (case c => omega); (case e => with_unfolding_all rfl)); intro _ _)
  | (k_dflt (refine' item_any ?l ?a ?c ?x ?d ?e; (case l => kmk_list); (case a => omega); (case c => omega); (case x => exact escV_get (by omega)); (case e => with_unfolding_all rfl)))))
  k_fill
  intro w mean mg mb g L fa cd X T B h245 m s Q E o1 o2 o3 o4 o5 D a b c d ta tb tc td k F N hS hd d9 hQ
  refine cut_law (P := fun body scope => wpAny (model PySem.Challenge.rw_tc0048_01.row.prog w) (lawA scope L fa cd) (exec (nth body 4) (lawE scope L fa cd)) Q E s) (by k_is) ?_
  simp only [nth]
  delta lawE lawA
  have hSn0 := hS _ (.head _)
  have hSn1 := hS _ (.tail _ (.head _))
  have hSn2 := hS _ (.tail _ (.tail _ (.head _)))
  have hSn3 := hS _ (.tail _ (.tail _ (.tail _ (.head _))))
  have hSn4 := hS _ (.tail _ (.tail _ (.tail _ (.tail _ (.head _)))))
  have hSn5 := hS _ (.tail _ (.tail _ (.tail _ (.tail _ (.tail _ (.head _))))))
  dsimp only at hSn0 hSn1 hSn2 hSn3 hSn4 hSn5
  have hSs0 := Ne.symm hSn0
  have hSs1 := Ne.symm hSn1
  have hSs2 := Ne.symm hSn2
  have hSs3 := Ne.symm hSn3
  have hSs4 := Ne.symm hSn4
  have hSs5 := Ne.symm hSn5
  have c2454 : 245 < L + 1 := Nat.lt_succ_of_lt h245
  have c2453 : 245 < L + 1 + 1 := Nat.lt_succ_of_lt c2454
  have c2452 : 245 < L + 1 + 1 + 1 := Nat.lt_succ_of_lt c2453
  have c2451 : 245 < L + 1 + 1 + 1 + 1 := Nat.lt_succ_of_lt c2452
  have c2450 : 245 < L + 1 + 1 + 1 + 1 + 1 := Nat.lt_succ_of_lt c2451
  have c2460 : (L + 1 + 1 + 1 + 1 + 1 : Addr) ≠ 245 := Nat.ne_of_gt c2450
  have c2470 : (245 : Addr) ≠ L + 1 + 1 + 1 + 1 + 1 := Nat.ne_of_lt c2450
  have c2461 : (L + 1 + 1 + 1 + 1 : Addr) ≠ 245 := Nat.ne_of_gt c2451
  have c2471 : (245 : Addr) ≠ L + 1 + 1 + 1 + 1 := Nat.ne_of_lt c2451
  have c2462 : (L + 1 + 1 + 1 : Addr) ≠ 245 := Nat.ne_of_gt c2452
  have c2472 : (245 : Addr) ≠ L + 1 + 1 + 1 := Nat.ne_of_lt c2452
  have c2463 : (L + 1 + 1 : Addr) ≠ 245 := Nat.ne_of_gt c2453
  have c2473 : (245 : Addr) ≠ L + 1 + 1 := Nat.ne_of_lt c2453
  have c2464 : (L + 1 : Addr) ≠ 245 := Nat.ne_of_gt c2454
  have c2474 : (245 : Addr) ≠ L + 1 := Nat.ne_of_lt c2454
  obtain ⟨hd0, hd1⟩ := hd
  have hf2 := fm_in (([a, b, c, d].getD (Int.toNat 3) 0).fdiv 2) 3 (by decide)
  have hf6 := fm_in (([a, b, c, d].getD (Int.toNat 3) 0).fdiv 6) 5 (by decide)
  k_steps
  rename News _ _ _ _ => nE
  first | done | exact hQ _ _ _ _ (by assumption) nE (by assumption) | exact hQ _ _ _ _ (by assumption) (fun p hp => nE p (.tail _ hp)) (by assumption) | exact hQ _ _ _ (by assumption) (fun p hp => nE p (.tail _ hp)) | exact hQ _ _ (by assumption) (fun p hp => nE p (.tail _ hp))
theorem seg5 : ∀ (w : World) (mean : ExcName → Option Value) (mg mb : Str → Option Value) (g : Heap) (L fa : Addr) (cd : Value) (X : (hdA.heap_1_1 w.params).In g) (T : Top topProg lsT mean mg mb g) (B : Below callerA g [] g) (h245 : 245 < L) (m : Str → Option Value) (s : Shared) (Q : Flow → Shared → Prop) (E : Value → Shared → Prop)
    (o1 o2 o3 o4 o5 : Obj) (D : Addr) (a b c d : Int) (ta tb tc td : Tok) (k : Nat) (F : Fr g L s.heap (kstB m [(Str.ofString "seeds", .ref D)])) (N : News g L s.heap ((D, listOf #[.int a ta, .int b tb, .int c tc, .int d td] k) :: [(L + 1 + 1 + 1 + 1 + 1, o5), (L + 1 + 1 + 1 + 1, o4), (L + 1 + 1 + 1, o3), (L + 1 + 1, o2), (L + 1, o1), (245, tabObj #[])])) (hS : ∀ p ∈ [(L + 1 + 1 + 1 + 1 + 1, o5), (L + 1 + 1 + 1 + 1, o4), (L + 1 + 1 + 1, o3), (L + 1 + 1, o2), (L + 1, o1), (245, tabObj #[])], @Ne Nat p.1 D) (hd : 0 ≤ d ∧ d ≤ 1000000000) 
    (hQ : ∀ h' tk t, Fr g L h' (fun z => if z = Str.ofString "close" then some (.str (closes ((d.fdiv 6).fmod 5).toNat) t) else kstB m [(Str.ofString "seeds", .ref D)] z) → News g L h' ((D, listOf #[.int a ta, .int b tb, .int c tc, .int d td] k) :: [(L + 1 + 1 + 1 + 1 + 1, o5), (L + 1 + 1 + 1 + 1, o4), (L + 1 + 1 + 1, o3), (L + 1 + 1, o2), (L + 1, o1), (245, tabObj #[])]) → Q .next { s with heap := h', toks := tk }),
    wpAny (model PySem.Challenge.rw_tc0048_01.row.prog w) (lawA (lawS w) L fa cd) (exec (nth (lawB w) 5) (lawE (lawS w) L fa cd)) Q E s := by
  k_with_none
  (k_with "subscriptTail" => (k_here; (with_reducible show wpAny _ _ (subscriptTail _ _ (Value.ref _) (Value.int (Int.fmod _ _) _)) _ _ _); first
  | (k_dflt (refine' KTb.item_list (ws := endsL) ?l ?w ?a ?b ?c ?d ?e; (case l => kmk_list); (case w => exact .cons _ _ (.cons _ _ (.cons _ _ (.nil)))); (case a => omega); (case b => (show _ < ((3 : Nat) : Int); omega)); (case c => omega); (case e => with_unfolding_all rfl)); intro _ _)
  | (k_dflt (refine' KTb.item_list (ws := tabsL) ?l ?w ?a ?b ?c ?d ?e; (case l => kmk_list); (case w => exact .cons _ _ (.cons _ _ (.cons _ _ (.cons _ _ (.cons _ _ (.nil)))))); (case a => omega); (case b => (show _ < ((5 : Nat) : Int); omega)); (case c => omega); (case e => with_unfolding_all rfl)); intro _ _)
  | (k_dflt (refine' KTb.item_list (ws := closesL) ?l ?w ?a ?b ?c ?d ?e; (case l => kmk_list); (case w => exact .cons _ _ (.cons _ _ (.cons _ _ (.cons _ _ (.cons _ _ (.nil)))))); (case a => omega); (case b => (show _ < ((5 : Nat) : Int); omega)); (case c => omega); (case e => with_unfolding_all rfl)); intro _ _)
  | (k_dflt (refine' item_any ?l ?a ?c ?x ?d ?e; (case l => kmk_list); (case a => omega); (case c => omega); (case x => exact escV_get (by omega)); (case e => with_unfolding_all rfl)))))
  k_fill
  intro w mean mg mb g L fa cd X T B h245 m s Q E o1 o2 o3 o4 o5 D a b c d ta tb tc td k F N hS hd hQ
  refine cut_law (P := fun body scope => wpAny (model PySem.Challenge.rw_tc0048_01.row.prog w) (lawA scope L fa cd) (exec (nth body 5) (lawE scope L fa cd)) Q E s) (by k_is) ?_
  simp only [nth]
  delta lawE lawA
  have hSn0 := hS _ (.head _)
  have hSn1 := hS _ (.tail _ (.head _))
  have hSn2 := hS _ (.tail _ (.tail _ (.head _)))
  have hSn3 := hS _ (.tail _ (.tail _ (.tail _ (.head _))))
  have hSn4 := hS _ (.tail _ (.tail _ (.tail _ (.tail _ (.head _)))))
  have hSn5 := hS _ (.tail _ (.tail _ (.tail _ (.tail _ (.tail _ (.head _))))))
  dsimp only at hSn0 hSn1 hSn2 hSn3 hSn4 hSn5
  have hSs0 := Ne.symm hSn0
  have hSs1 := Ne.symm hSn1
  have hSs2 := Ne.symm hSn2
  have hSs3 := Ne.symm hSn3
  have hSs4 := Ne.symm hSn4
  have hSs5 := Ne.symm hSn5
  have c2454 : 245 < L + 1 := Nat.lt_succ_of_lt h245
  have c2453 : 245 < L + 1 + 1 := Nat.lt_succ_of_lt c2454
  have c2452 : 245 < L + 1 + 1 + 1 := Nat.lt_succ_of_lt c2453
  have c2451 : 245 < L + 1 + 1 + 1 + 1 := Nat.lt_succ_of_lt c2452
  have c2450 : 245 < L + 1 + 1 + 1 + 1 + 1 := Nat.lt_succ_of_lt c2451
  have c2460 : (L + 1 + 1 + 1 + 1 + 1 : Addr) ≠ 245 := Nat.ne_of_gt c2450
  have c2470 : (245 : Addr) ≠ L + 1 + 1 + 1 + 1 + 1 := Nat.ne_of_lt c2450
  have c2461 : (L + 1 + 1 + 1 + 1 : Addr) ≠ 245 := Nat.ne_of_gt c2451
  have c2471 : (245 : Addr) ≠ L + 1 + 1 + 1 + 1 := Nat.ne_of_lt c2451
  have c2462 : (L + 1 + 1 + 1 : Addr) ≠ 245 := Nat.ne_of_gt c2452
  have c2472 : (245 : Addr) ≠ L + 1 + 1 + 1 := Nat.ne_of_lt c2452
  have c2463 : (L + 1 + 1 : Addr) ≠ 245 := Nat.ne_of_gt c2453
  have c2473 : (245 : Addr) ≠ L + 1 + 1 := Nat.ne_of_lt c2453
  have c2464 : (L + 1 : Addr) ≠ 245 := Nat.ne_of_gt c2454
  have c2474 : (245 : Addr) ≠ L + 1 := Nat.ne_of_lt c2454
  obtain ⟨hd0, hd1⟩ := hd
  have hf2 := fm_in (([a, b, c, d].getD (Int.toNat 3) 0).fdiv 2) 3 (by decide)
  have hf6 := fm_in (([a, b, c, d].getD (Int.toNat 3) 0).fdiv 6) 5 (by decide)
  k_steps
  rename News _ _ _ _ => nE
  first | done | exact hQ _ _ _ _ (by assumption) nE (by assumption) | exact hQ _ _ _ _ (by assumption) (fun p hp => nE p (.tail _ hp)) (by assumption) | exact hQ _ _ _ (by assumption) (fun p hp => nE p (.tail _ hp)) | exact hQ _ _ (by assumption) (fun p hp => nE p (.tail _ hp))
end Mine
end
section
open PySem PySem.W PyProof.Rows PySem.Calls PySem.Spec
set_option Elab.async false
set_option maxRecDepth 100000
namespace Mine
noncomputable def isI (n : Int) (v : Value) : Prop := ∃ t, v = .int n t
noncomputable def isS (x : Str) (v : Value) : Prop := ∃ t, v = .str x t
noncomputable def MapG {α β : Type} (p : α → Value → Prop) (q : β → Value → Prop) (f : α → β) (v y : Value) : Prop := ∃ a, p a v ∧ q (f a) y
theorem map_is {f : Int → Str} : ∀ {vs ys : List Value} {ns : List Int}, IntsAre vs ns → Paired (MapG isI isS f) vs ys → StrsAre ys (ns.map f)
  | _, _, _, .nil, h => by cases h; exact .nil
  | _, _, _, .cons n t r, h => by
    cases h with
    | cons a b =>
      obtain ⟨k, ⟨t1, e1⟩, t2, rfl⟩ := a
      have : n = k := by injection e1
      subst this
      exact .cons _ _ (map_is r b)
theorem map_ii {f : Int → Int} : ∀ {vs ys : List Value} {ns : List Int}, IntsAre vs ns → Paired (MapG isI isI f) vs ys → IntsAre ys (ns.map f)
  | _, _, _, .nil, h => by cases h; exact .nil
  | _, _, _, .cons n t r, h => by
    cases h with
    | cons a b =>
      obtain ⟨k, ⟨t1, e1⟩, t2, rfl⟩ := a
      have : n = k := by injection e1
      subst this
      exact .cons _ _ (map_ii r b)
theorem map_si {f : Str → Int} : ∀ {vs ys : List Value} {ns : List Str}, StrsAre vs ns → Paired (MapG isS isI f) vs ys → IntsAre ys (ns.map f)
  | _, _, _, .nil, h => by cases h; exact .nil
  | _, _, _, .cons n t r, h => by
    cases h with
    | cons a b =>
      obtain ⟨k, ⟨t1, e1⟩, t2, rfl⟩ := a
      have : n = k := by injection e1
      subst this
      exact .cons _ _ (map_si r b)
theorem map_ss {f : Str → Str} : ∀ {vs ys : List Value} {ns : List Str}, StrsAre vs ns → Paired (MapG isS isS f) vs ys → StrsAre ys (ns.map f)
  | _, _, _, .nil, h => by cases h; exact .nil
  | _, _, _, .cons n t r, h => by
    cases h with
    | cons a b =>
      obtain ⟨k, ⟨t1, e1⟩, t2, rfl⟩ := a
      have : n = k := by injection e1
      subst this
      exact .cons _ _ (map_ss r b)
theorem all_in {vs : List Value} : vs.filter (fun _ => true) = vs := List.filter_eq_self.mpr fun _ _ => rfl
theorem strs_at : ∀ {l : List Value} {ns : List Str} {i : Nat} {v : Value}, StrsAre l ns → l[i]? = some v → ∃ x t, x ∈ ns ∧ v = .str x t
  | _, _, _, _, .nil, h => by simp at h
  | _, _, 0, _, .cons n t _, h => ⟨n, t, .head _, by simpa using h.symm⟩
  | _, _, i + 1, _, .cons n t r, h => by
    obtain ⟨x, t, a, b⟩ := strs_at r (i := i) (by simpa using h)
    exact ⟨x, t, .tail _ a, b⟩
theorem ints_mem : ∀ {l : List Value} {ns : List Int} {i : Nat} {v : Value}, IntsAre l ns → l[i]? = some v → ∃ x t, x ∈ ns ∧ v = .int x t
  | _, _, _, _, .nil, h => by simp at h
  | _, _, 0, _, .cons n t _, h => ⟨n, t, .head _, by simpa using h.symm⟩
  | _, _, i + 1, _, .cons n t r, h => by
    obtain ⟨x, t, a, b⟩ := ints_mem r (i := i) (by simpa using h)
    exact ⟨x, t, .tail _ a, b⟩
theorem news_cut {g h : Heap} {L : Addr} {p : Addr × Obj} (n : Nat) {r : List (Addr × Obj)} (N : News g L h (p :: r)) : News g L h (p :: r.drop n) := fun q hq => by
  rcases List.mem_cons.mp hq with rfl | hq
  · exact N _ (.head _)
  · exact N _ (.tail _ (List.mem_of_mem_drop hq))
theorem apart7 {D a0 a1 a2 a3 a4 a5 a6 : Addr} {o0 o1 o2 o3 o4 o5 o6 : Obj} (q0 : a0 < D) (q1 : a1 < D) (q2 : a2 < D) (q3 : a3 < D) (q4 : a4 < D) (q5 : a5 < D) (q6 : a6 < D) :
    ∀ p ∈ [(a0, o0), (a1, o1), (a2, o2), (a3, o3), (a4, o4), (a5, o5), (a6, o6)], @Ne Nat p.1 D := by
  intro p hp
  simp only [List.mem_cons, List.not_mem_nil, or_false] at hp
  rcases hp with rfl | rfl | rfl | rfl | rfl | rfl | rfl
  · exact Nat.ne_of_lt q0
  · exact Nat.ne_of_lt q1
  · exact Nat.ne_of_lt q2
  · exact Nat.ne_of_lt q3
  · exact Nat.ne_of_lt q4
  · exact Nat.ne_of_lt q5
  · exact Nat.ne_of_lt q6
end Mine
end
section
open PySem PySem.W PyProof.Rows PySem.Calls PySem.Spec
set_option Elab.async false
set_option maxRecDepth 100000
set_option maxHeartbeats 4000000
namespace Mine
noncomputable abbrev IsZipB (h : Heap) (z TI TO : Addr) (f0 : Value) (b : Bool) : Prop :=
  h.get? z = some { cls := .type "zip", dict := none, data := .fields #[f0, .bool b, .bool false, .ref TI, .ref TO], slots := #[] }
section
variable {prog : Program} {w : World} {A : Around} {E : Value → Shared → Prop} {s : Shared}
theorem load_alive {M : Model} {a : Addr} {o : Obj} {Q : Option Obj → Shared → Prop} (ho : s.heap.get? a = some o) (h : Q (some o) s) : wpAny M A (loadIfAlive a) Q E s := fun Γ p _ => by
  show Sem.wp M Γ (.loadIfAlive a fun x => .pure x) _ _ p s
  rw [Sem.wp_loadIfAlive, ho]
  exact (Sem.wp_pure ..).mpr h
theorem zip_next_more {z TI TO T i1 i2 l1 l2 : Addr} {b : Bool} {k1 k2 : Nat} {xs ys : Array Value} {x y : Value} {oT : Obj} {Q : Value → Shared → Prop} (D : ZipApart z TI TO i1 i2 l1 l2)
    (hz : IsZipB s.heap z TI TO (rawInt T) b) (hTI : IsPair s.heap TI (.ref i1) (.ref i2)) (hT : s.heap.get? T = some oT)
    (h1 : s.heap.IsListIter i1 l1 k1) (h2 : s.heap.IsListIter i2 l2 k2) (hl1 : s.heap.IsList l1 xs) (hl2 : s.heap.IsList l2 ys) (hx : xs[k1]? = some x) (hy : ys[k2]? = some y)
    (hQ : ∀ h', IsZipB h' z TI TO (rawInt T) true → h'.IsListIter i1 l1 (k1 + 1) → h'.IsListIter i2 l2 (k2 + 1) → IsPair h' s.heap.objs.size x y → h'.objs.size = s.heap.objs.size + 1 →
      (∀ c o, c ≠ z → c ≠ i1 → c ≠ i2 → s.heap.get? c = some o → h'.get? c = some o) → Q (.ref s.heap.objs.size) { s with heap := h' }) :
    wpAny (model prog w) A (Builtin.«zip.__next__» ⟨[.ref z], []⟩) (fun fin s' => ∃ v, fin = .done (.ret v) ∧ Q v s') E s := by
  show wpAny _ _ (field (.ref z) 2 >>= _) _ _ _
  refine wpAny_bind (wpAny_field hz rfl (x := .bool false) rfl ?_)
  show wpAny _ _ (field (.ref z) 3 >>= _) _ _ _
  refine wpAny_bind (wpAny_field hz rfl (x := .ref TI) rfl ?_)
  refine wpAny_bind (wpAny_seqItems hTI rfl ?_)
  show wpAny _ _ (Builtin.SmallTypes.ownedTupleIsFree (.ref z) >>= _) _ _ _
  refine wpAny_bind ?_
  unfold Builtin.SmallTypes.ownedTupleIsFree
  refine wpAny_bind (wpAny_field hz rfl (x := rawInt T) rfl ?_)
  show wpAny _ _ (loadIfAlive ((T : Int).toNat) >>= _) _ _ _
  refine wpAny_bind (load_alive (a := (T : Int).toNat) hT ?_)
  simp only [Option.isNone_some, Bool.false_eq_true, if_false]
  refine wpAny_bind (wpAny_field hz rfl (x := .bool b) rfl ?_)
  have flag : ∀ Q' : Bool → Shared → Prop, (∀ h₁, IsZipB h₁ z TI TO (rawInt T) true → (∀ c o, c ≠ z → s.heap.get? c = some o → h₁.get? c = some o) → h₁.objs.size = s.heap.objs.size → Q' false { s with heap := h₁ }) →
      wpAny (model prog w) A (if (Value.bool b != Value.bool true) = true then (do setField (.ref z) 1 (.bool true); pure false) else pure false) Q' E s := by
    intro Q' h
    cases b with
    | true => exact wpAny_pure (h _ hz (fun _ _ _ e => e) rfl)
    | false => exact wpAny_bind (wpAny_setField_rec hz (by simp) fun h₁ hz₁ hs₁ => wpAny_pure (h h₁ hz₁ (fun c o hc e => hs₁.extBut _ _ hc e) hs₁.1))
  refine flag _ fun h₁ hz₁ hk₁ hsz₁ => ?_
  simp only [Bool.false_eq_true, if_false]
  have h1₁ : h₁.IsListIter i1 l1 k1 := h1.at fun o e => hk₁ _ o D.i1z e
  have h2₁ : h₁.IsListIter i2 l2 k2 := h2.at fun o e => hk₁ _ o D.i2z e
  have hl1₁ : h₁.IsList l1 xs := hl1.at fun o e => hk₁ _ o D.l1z e
  have hl2₁ : h₁.IsList l2 ys := hl2.at fun o e => hk₁ _ o D.l2z e
  refine wpAny_bind ?_
  rw [show (#[Value.ref i1, Value.ref i2] : Array Value) = [Value.ref i1, Value.ref i2].toArray from rfl, List.forIn_toArray]
  simp only [List.forIn_cons, List.forIn_nil]
  refine wpAny_bind (wpAny_bind (wpAny_holding ?_))
  show wpAny _ _ (Builtin.SmallTypes.nextOf (.ref i1) >>= _) _ _ _
  refine wpAny_bind (wpAny_nextOf_list_item h1₁ hl1₁ hx fun h₂ h1₂ hs₂ => wpAny_pure (wpAny_pure ?_))
  refine wpAny_bind (wpAny_bind (wpAny_holding ?_))
  show wpAny _ _ (Builtin.SmallTypes.nextOf (.ref i2) >>= _) _ _ _
  refine wpAny_bind (wpAny_nextOf_list_item (h2₁.extBut hs₂.extBut D.i12.symm) (hl2₁.extBut hs₂.extBut D.l2i1) hy fun h₃ h2₃ hs₃ => wpAny_pure (wpAny_pure (wpAny_pure ?_)))
  dsimp only
  have hsz₃ : h₃.objs.size = s.heap.objs.size := by rw [hs₃.1, hs₂.1]; exact hsz₁
  have up : ∀ c o, c ≠ z → c ≠ i1 → c ≠ i2 → s.heap.get? c = some o → h₃.get? c = some o := fun c o c1 c2 c3 e => hs₃.extBut _ _ c3 (hs₂.extBut _ _ c2 (hk₁ c o c1 e))
  have hz₃ : IsZipB h₃ z TI TO (rawInt T) true := hs₃.extBut _ _ D.i2z.symm (hs₂.extBut _ _ D.i1z.symm hz₁)
  have h1₃ : h₃.IsListIter i1 l1 (k1 + 1) := h1₂.extBut hs₃.extBut D.i12
  refine wpAny_bind (wpAny_newTuple (hsz := Nat.le_of_ble_eq_true rfl) ?_)
  refine wpAny_pure ⟨_, rfl, ?_⟩
  show Q (.ref h₃.objs.size) _
  rw [hsz₃]
  refine hQ _ (Heap.get?_push_of_some _ hz₃) (h1₃.at fun o e => Heap.get?_push_of_some _ e) (h2₃.at fun o e => Heap.get?_push_of_some _ e) (by rw [← hsz₃]; exact Heap.get?_push_size _ rfl) (by rw [← hsz₃]; exact Heap.size_push ..) fun c o c1 c2 c3 e => Heap.get?_push_of_some _ (up c o c1 c2 c3 e)
theorem zip_end_more {z TI TO T i1 i2 l1 l2 : Addr} {b : Bool} {k1 : Nat} {xs : Array Value} {oT : Obj} {Q : PySem.Fin → Shared → Prop} (hh : A.handled = none) (D : ZipApart z TI TO i1 i2 l1 l2)
    (hz : IsZipB s.heap z TI TO (rawInt T) b) (hTI : IsPair s.heap TI (.ref i1) (.ref i2)) (hT : s.heap.get? T = some oT)
    (h1 : s.heap.IsListIter i1 l1 k1) (hl1 : s.heap.IsList l1 xs) (hx : xs[k1]? = none)
    (hE : ∀ h' e, (∀ c o, c ≠ z → c ≠ i1 → s.heap.get? c = some o → h'.get? c = some o) → (∃ o, h'.get? e = some o ∧ o.cls = .type "StopIteration") → E (.ref e) { s with heap := h' }) :
    wpAny (model prog w) A (Builtin.«zip.__next__» ⟨[.ref z], []⟩) Q E s := by
  show wpAny _ _ (field (.ref z) 2 >>= _) _ _ _
  refine wpAny_bind (wpAny_field hz rfl (x := .bool false) rfl ?_)
  show wpAny _ _ (field (.ref z) 3 >>= _) _ _ _
  refine wpAny_bind (wpAny_field hz rfl (x := .ref TI) rfl ?_)
  refine wpAny_bind (wpAny_seqItems hTI rfl ?_)
  show wpAny _ _ (Builtin.SmallTypes.ownedTupleIsFree (.ref z) >>= _) _ _ _
  refine wpAny_bind ?_
  unfold Builtin.SmallTypes.ownedTupleIsFree
  refine wpAny_bind (wpAny_field hz rfl (x := rawInt T) rfl ?_)
  show wpAny _ _ (loadIfAlive ((T : Int).toNat) >>= _) _ _ _
  refine wpAny_bind (load_alive (a := (T : Int).toNat) hT ?_)
  simp only [Option.isNone_some, Bool.false_eq_true, if_false]
  refine wpAny_bind (wpAny_field hz rfl (x := .bool b) rfl ?_)
  have flag : ∀ Q' : Bool → Shared → Prop, (∀ h₁, IsZipB h₁ z TI TO (rawInt T) true → (∀ c o, c ≠ z → s.heap.get? c = some o → h₁.get? c = some o) → h₁.objs.size = s.heap.objs.size → Q' false { s with heap := h₁ }) →
      wpAny (model prog w) A (if (Value.bool b != Value.bool true) = true then (do setField (.ref z) 1 (.bool true); pure false) else pure false) Q' E s := by
    intro Q' h
    cases b with
    | true => exact wpAny_pure (h _ hz (fun _ _ _ e => e) rfl)
    | false => exact wpAny_bind (wpAny_setField_rec hz (by simp) fun h₁ hz₁ hs₁ => wpAny_pure (h h₁ hz₁ (fun c o hc e => hs₁.extBut _ _ hc e) hs₁.1))
  refine flag _ fun h₁ hz₁ hk₁ hsz₁ => ?_
  simp only [Bool.false_eq_true, if_false]
  have h1₁ : h₁.IsListIter i1 l1 k1 := h1.at fun o e => hk₁ _ o D.i1z e
  have hl1₁ : h₁.IsList l1 xs := hl1.at fun o e => hk₁ _ o D.l1z e
  refine wpAny_bind ?_
  rw [show (#[Value.ref i1, Value.ref i2] : Array Value) = [Value.ref i1, Value.ref i2].toArray from rfl, List.forIn_toArray]
  simp only [List.forIn_cons, List.forIn_nil]
  refine wpAny_bind (wpAny_bind (wpAny_holding ?_))
  show wpAny _ _ (Builtin.SmallTypes.nextOf (.ref i1) >>= _) _ _ _
  exact wpAny_bind (wpAny_nextOf_list_end hh h1₁ hl1₁ hx fun h₂ e hs₂ he => hE h₂ e (fun c o c1 c2 x => hs₂ _ _ c2 (hk₁ c o c1 x)) he)
end
end Mine
end
section
open PySem PySem.W PyProof.Rows PySem.Calls PySem.Spec
set_option Elab.async false
set_option maxRecDepth 100000
set_option maxHeartbeats 4000000
namespace Mine
noncomputable def leavesB {α : Type} (n : Nat) (P : α → Bool) : KasT α → Bool
  | .ret a => P a
  | .ask i j k => decide (i < n) && decide (j < n) && leavesB n P (k true) && leavesB n P (k false)
theorem kasWp_of {α : Type} {cmp : Nat → Nat → (Bool → Shared → Prop) → Shared → Prop} {n : Nat} {P : α → Bool} {I : Shared → Prop}
    (hc : ∀ i j C s, i < n → j < n → I s → (∀ b s', I s' → C b s') → cmp i j C s) : ∀ (t : KasT α), leavesB n P t = true → ∀ (Q : α → Shared → Prop) s, I s → (∀ a s', P a = true → I s' → Q a s') → t.kasWp cmp Q s
  | .ret a, h, Q, s, hI, hQ => hQ a s h hI
  | .ask i j k, h, Q, s, hI, hQ => by
    simp only [leavesB, Bool.and_eq_true, decide_eq_true_eq] at h
    refine hc i j _ s h.1.1.1 h.1.1.2 hI fun b s' hI' => ?_
    cases b with
    | true => exact kasWp_of hc (k true) h.1.2 Q s' hI' hQ
    | false => exact kasWp_of hc (k false) h.2 Q s' hI' hQ
theorem sort5 : leavesB 5 (fun p : Array Nat => p.size == 5 && p.all (· < 5)) (kas_sort 5) = true := by decide +kernel
inductive PairsIn (h : Heap) : List Value → List (Int × Str) → Prop
  | nil : PairsIn h [] []
  | cons {T : Addr} {n : Int} {x : Str} {t u : Tok} {k : Nat} {vs : List Value} {ps : List (Int × Str)} (e : h.get? T = some { cls := .type "tuple", data := .seq #[.int n t, .str x u] k }) (r : PairsIn h vs ps) : PairsIn h (.ref T :: vs) ((n, x) :: ps)
theorem PairsIn.keep {h h' : Heap} (k : ∀ b o, h.get? b = some o → h'.get? b = some o) : ∀ {vs ps}, PairsIn h vs ps → PairsIn h' vs ps
  | _, _, .nil => .nil
  | _, _, .cons e r => .cons (k _ _ e) (r.keep k)
theorem PairsIn.length {h : Heap} : ∀ {vs ps}, PairsIn h vs ps → vs.length = ps.length
  | _, _, .nil => rfl
  | _, _, .cons _ r => by rw [List.length_cons, List.length_cons, r.length]
theorem PairsIn.at {h : Heap} : ∀ {vs ps} {i : Nat}, PairsIn h vs ps → i < ps.length → ∃ T n x t u k, vs.getD i Value.none = .ref T ∧ ps[i]? = some (n, x) ∧ h.get? T = some { cls := .type "tuple", data := .seq #[.int n t, .str x u] k }
  | _, _, _, .nil, hi => by simp at hi
  | _, _, 0, .cons e r, _ => ⟨_, _, _, _, _, _, rfl, rfl, e⟩
  | _, _, i + 1, .cons e r, hi => by
    obtain ⟨T, n, x, t, u, k, a, b, c⟩ := r.at (i := i) (by simpa using hi)
    exact ⟨T, n, x, t, u, k, by simpa using a, by simpa using b, c⟩
theorem PairsIn.tups {h : Heap} : ∀ {vs ps}, PairsIn h vs ps → ∃ fs : List Value, KatTups h vs fs ∧ fs.length = ps.length ∧ ∀ v ∈ fs, ∃ n t, v = .int n t
  | _, _, .nil => ⟨[], .nil, rfl, fun v hv => nomatch hv⟩
  | _, _, .cons (n := n) (t := t) e r => by
    obtain ⟨fs, a, b, c⟩ := r.tups
    exact ⟨.int n t :: fs, .cons e rfl rfl rfl a, by rw [List.length_cons, List.length_cons, b], fun v hv => by
      rcases List.mem_cons.mp hv with rfl | hv
      · exact ⟨n, t, rfl⟩
      · exact c v hv⟩
section
variable {prog : Program} {w : World} {A : Around} {E : Value → Shared → Prop} {s : Shared}
theorem ask_pairs {vs : List Value} {ps : List (Int × Str)} {C : Bool → Shared → Prop} {i j : Nat} (hp : PairsIn s.heap vs ps) (hi : i < ps.length) (hj : j < ps.length) (hC : ∀ b, C b s) : kas_ask prog w A (tuples' true) vs i j C s := by
  obtain ⟨T, n, x, t, u, k, e1, _, e2⟩ := hp.at hi
  obtain ⟨T', n', x', t', u', k', f1, _, f2⟩ := hp.at hj
  unfold kas_ask
  rw [e1, f1]
  refine kat_lt e2 rfl f2 rfl ?_
  show KatLex prog w A true _ C [(.int n t, .int n' t'), (.str x u, .str x' u')] 0 s
  refine kat_cons (wpAny_eqBool_int ?_)
  refine kat_go (fun _ => kat_yes (kat_cons (wpAny_eqBool_str (kat_go (fun _ => kat_yes (kat_nil (hC _))) fun _ => kat_no ?_)))) fun _ => kat_no (oneLt_int (hC _))
  exact kat_one _ _ (lt_str (hC _))
end
end Mine
end
section
open PySem PySem.W PyProof.Rows PySem.Calls PySem.Spec
set_option Elab.async false
set_option maxRecDepth 100000
set_option maxHeartbeats 4000000
namespace Mine
structure Tup where
  T : Addr
  n : Int
  t : Tok
  x : Str
  u : Tok
noncomputable def Tup.obj (p : Tup) : Obj := { cls := .type "tuple", data := .seq #[.int p.n p.t, .str p.x p.u] }
noncomputable def tupLed (ts : List Tup) : List (Addr × Obj) := ts.map fun p => (p.T, p.obj)
noncomputable def tupRefs (ts : List Tup) : List Value := ts.map fun p => .ref p.T
theorem pairs_of_led {h₀ h : Heap} {L : Addr} : ∀ {ts : List Tup}, News h₀ L h (tupLed ts) → PairsIn h (tupRefs ts) (ts.map fun p => (p.n, p.x))
  | [], _ => .nil
  | p :: r, N => .cons (N (p.T, p.obj) (.head _)).1 (pairs_of_led fun q hq => N q (.tail _ hq))
structure ZSt (h₀ : Heap) (L : Addr) (m : Str → Option Value) (news : List (Addr × Obj)) (z TI TO i1 i2 l1 l2 S : Addr) (xs ys : Array Value) (ts : List Tup) (h : Heap) : Prop where
  hF : Fr h₀ L h m
  hN : News h₀ L h (tupLed ts ++ news)
  src : ∀ (j : Nat) p, ts[j]? = some p → xs[j]? = some (.int p.n p.t) ∧ ys[j]? = some (.str p.x p.u)
  hS : ∃ c, h.get? S = some { cls := .type "list", dict := none, data := .seq (tupRefs ts).toArray c, slots := #[] }
  hTI : IsPair h TI (.ref i1) (.ref i2)
  h1 : h.IsListIter i1 l1 ts.length
  h2 : h.IsListIter i2 l2 ts.length
  hl1 : h.IsList l1 xs
  hl2 : h.IsList l2 ys
  hz : (ts = [] ∧ IsZip h z TI TO .none ∧ ∃ a b, IsPair h TO a b) ∨ (∃ (T : Addr) (oT : Obj) (b : Bool), IsZipB h z TI TO (rawInt T) b ∧ h.get? T = some oT ∧ (∀ q ∈ [z, i1, i2, TO, S], T ≠ q))
  off : ∀ q ∈ [z, i1, i2, TO, S], (∀ p ∈ tupLed ts ++ news, p.1 ≠ q) ∧ h₀.get? q = none ∧ q ≠ L ∧ (∃ o, h.get? q = some o)
  ap : S ≠ z ∧ S ≠ i1 ∧ S ≠ i2 ∧ S ≠ TO ∧ S ≠ TI ∧ S ≠ l1 ∧ S ≠ l2
section
variable {prog : Program} {w : World} {A : Around} {E : Value → Shared → Prop} {s : Shared} {h₀ : Heap} {L : Addr} {m : Str → Option Value} {news : List (Addr × Obj)} {z TI TO i1 i2 l1 l2 S : Addr} {xs ys : Array Value} {ts : List Tup}
theorem ZSt.turn {h h' : Heap} {p : Tup} {b : Bool} {c : Nat} {T' : Addr} {oT : Obj} (D : ZipApart z TI TO i1 i2 l1 l2) (X : ZSt h₀ L m news z TI TO i1 i2 l1 l2 S xs ys ts h) (hx : xs[ts.length]? = some (.int p.n p.t)) (hy : ys[ts.length]? = some (.str p.x p.u)) (hT : p.T = h.objs.size)
    (hz : IsZipB h' z TI TO (rawInt T') b) (a1 : h'.IsListIter i1 l1 (ts.length + 1)) (a2 : h'.IsListIter i2 l2 (ts.length + 1)) (hp : h'.get? p.T = some p.obj) (hS : h'.get? S = some { cls := .type "list", dict := none, data := .seq ((tupRefs ts).toArray.push (.ref p.T)) c, slots := #[] })
    (hTO : ∃ o, h'.get? TO = some o) (hT' : h'.get? T' = some oT) (hTq : ∀ q ∈ [z, i1, i2, TO, S], T' ≠ q)
    (hk : ∀ c o, c ≠ z → c ≠ TO → c ≠ i1 → c ≠ i2 → c ≠ S → h.get? c = some o → h'.get? c = some o) : ZSt h₀ L m news z TI TO i1 i2 l1 l2 S xs ys (ts ++ [p]) h' := by
  have oz := X.off z (.head _)
  have o1 := X.off i1 (.tail _ (.head _))
  have o2 := X.off i2 (.tail _ (.tail _ (.head _)))
  have oTO := X.off TO (.tail _ (.tail _ (.tail _ (.head _))))
  have oS := X.off S (.tail _ (.tail _ (.tail _ (.tail _ (.head _)))))
  have hL : L < h.objs.size := X.hF.ns.lt
  have kk : ∀ b o, h₀.get? b = some o → h'.get? b = some o := fun b o e => hk b o (fun q => by rw [q, oz.2.1] at e; cases e) (fun q => by rw [q, oTO.2.1] at e; cases e) (fun q => by rw [q, o1.2.1] at e; cases e) (fun q => by rw [q, o2.2.1] at e; cases e) (fun q => by rw [q, oS.2.1] at e; cases e) (X.hF.keep b o e)
  have led : tupLed (ts ++ [p]) = tupLed ts ++ [(p.T, p.obj)] := by simp [tupLed]
  have hnew : h₀.get? p.T = none := by
    rw [hT]; exact Heap.get?_none_of_le (Nat.le_trans X.hF.above (Nat.le_of_lt hL))
  refine ⟨⟨X.hF.ns.at' fun o e => hk L o (Ne.symm oz.2.2.1) (Ne.symm oTO.2.2.1) (Ne.symm o1.2.2.1) (Ne.symm o2.2.2.1) (Ne.symm oS.2.2.1) e, kk, X.hF.above⟩, ?_, ?_, ⟨c, ?_⟩, ?_, ?_, ?_, ?_, ?_, .inr ⟨T', oT, b, hz, hT', hTq⟩, ?_, X.ap⟩
  · intro q hq
    rw [led, List.append_assoc] at hq
    rcases List.mem_append.mp hq with hq | hq
    · have hq' : q ∈ tupLed ts ++ news := List.mem_append_left _ hq
      exact ⟨hk _ _ (oz.1 q hq') (oTO.1 q hq') (o1.1 q hq') (o2.1 q hq') (oS.1 q hq') (X.hN q hq').1, (X.hN q hq').2⟩
    · rcases List.mem_append.mp hq with hq | hq
      · rw [List.mem_singleton.mp hq]
        exact ⟨hp, (by show p.T ≠ L; rw [hT]; exact Nat.ne_of_gt hL), hnew⟩
      · have hq' : q ∈ tupLed ts ++ news := List.mem_append_right _ hq
        exact ⟨hk _ _ (oz.1 q hq') (oTO.1 q hq') (o1.1 q hq') (o2.1 q hq') (oS.1 q hq') (X.hN q hq').1, (X.hN q hq').2⟩
  · intro j q hj
    by_cases hlt : j < ts.length
    · exact X.src j q (by rwa [List.getElem?_append_left hlt] at hj)
    · have hje : j = ts.length := by
        have := (List.getElem?_eq_some_iff.mp hj).1
        rw [List.length_append, List.length_singleton] at this; omega
      subst hje
      have : q = p := by simpa using hj.symm
      rw [this]; exact ⟨hx, hy⟩
  · rw [hS]; simp [tupRefs]
  · exact hk _ _ D.TIz D.TITO D.TIi1 D.TIi2 (Ne.symm X.ap.2.2.2.2.1) X.hTI
  · rw [List.length_append]; exact a1
  · rw [List.length_append]; exact a2
  · exact X.hl1.at fun o e => hk _ o D.l1z D.l1TO D.l1i1 D.l1i2 (Ne.symm X.ap.2.2.2.2.2.1) e
  · exact X.hl2.at fun o e => hk _ o D.l2z D.l2TO D.l2i1 D.l2i2 (Ne.symm X.ap.2.2.2.2.2.2) e
  · intro q hq
    obtain ⟨b1, b2, b3, o, b4⟩ := X.off q hq
    refine ⟨fun r hr => ?_, b2, b3, ?_⟩
    · rw [led, List.append_assoc] at hr
      rcases List.mem_append.mp hr with hr | hr
      · exact b1 r (List.mem_append_left _ hr)
      · rcases List.mem_append.mp hr with hr | hr
        · rw [List.mem_singleton.mp hr]
          show p.T ≠ q
          rw [hT]; exact Nat.ne_of_gt (Heap.lt_size b4)
        · exact b1 r (List.mem_append_right _ hr)
    · simp only [List.mem_cons, List.not_mem_nil, or_false] at hq
      rcases hq with rfl | rfl | rfl | rfl | rfl
      · exact ⟨_, hz⟩
      · obtain ⟨o, e, _⟩ := a1; exact ⟨o, e⟩
      · obtain ⟨o, e, _⟩ := a2; exact ⟨o, e⟩
      · exact hTO
      · exact ⟨_, hS⟩
theorem pyNext_zip_more {T : Addr} {b : Bool} {k1 k2 : Nat} {x y : Value} {oT : Obj} {Q : Option Value → Shared → Prop} (D : ZipApart z TI TO i1 i2 l1 l2)
    (hz : IsZipB s.heap z TI TO (rawInt T) b) (hTI : IsPair s.heap TI (.ref i1) (.ref i2)) (hT : s.heap.get? T = some oT)
    (h1 : s.heap.IsListIter i1 l1 k1) (h2 : s.heap.IsListIter i2 l2 k2) (hl1 : s.heap.IsList l1 xs) (hl2 : s.heap.IsList l2 ys) (hx : xs[k1]? = some x) (hy : ys[k2]? = some y)
    (hQ : ∀ h', IsZipB h' z TI TO (rawInt T) true → h'.IsListIter i1 l1 (k1 + 1) → h'.IsListIter i2 l2 (k2 + 1) → IsPair h' s.heap.objs.size x y → h'.objs.size = s.heap.objs.size + 1 →
      (∀ c o, c ≠ z → c ≠ i1 → c ≠ i2 → s.heap.get? c = some o → h'.get? c = some o) → Q (some (.ref s.heap.objs.size)) { s with heap := h' }) :
    wpAny (model prog w) A (pyNext (.ref z)) Q E s := by
  have hT' : s.TypeIs (.ref z) "zip" := ⟨_, hz, rfl⟩
  unfold pyNext
  exact wpAny_bind (wpAny_attempt (wpAny_callSpecial?_slot (name := Str.ofString "__next__") hT' F.slot_zip_next
    (wpAny_call_entry F.slot_zip_next hT' F.entry_zip_next
      (zip_next_more D hz hTI hT h1 h2 hl1 hl2 hx hy fun h' a1 a2 a3 a4 a5 a6 => wpAny_pure (hQ h' a1 a2 a3 a4 a5 a6)) (F.args_zip_next_1 _))))
theorem pyNext_zip_endB {T : Addr} {b : Bool} {k1 : Nat} {oT : Obj} {Q : Option Value → Shared → Prop} (hh : A.handled = none) (D : ZipApart z TI TO i1 i2 l1 l2)
    (hz : IsZipB s.heap z TI TO (rawInt T) b) (hTI : IsPair s.heap TI (.ref i1) (.ref i2)) (hT : s.heap.get? T = some oT)
    (h1 : s.heap.IsListIter i1 l1 k1) (hl1 : s.heap.IsList l1 xs) (hx : xs[k1]? = none)
    (hQ : ∀ h', (∀ c o, c ≠ z → c ≠ i1 → s.heap.get? c = some o → h'.get? c = some o) → Q none { s with heap := h' }) : wpAny (model prog w) A (pyNext (.ref z)) Q E s := by
  have hT' : s.TypeIs (.ref z) "zip" := ⟨_, hz, rfl⟩
  unfold pyNext
  refine wpAny_bind (wpAny_attempt (wpAny_callSpecial?_slot (name := Str.ofString "__next__") hT' F.slot_zip_next
    (wpAny_call_entry F.slot_zip_next hT' F.entry_zip_next (zip_end_more hh D hz hTI hT h1 hl1 hx fun h' e hk he => ?_) (F.args_zip_next_1 _))))
  obtain ⟨o, ho, hc⟩ := he
  refine wpAny_bind (wpAny_isInstance (T := "StopIteration") (b := true) ⟨o, ho, hc⟩ isSubtype_stop ?_)
  exact wpAny_pure (hQ _ hk)
theorem zip_loop {R : Result → Shared → Prop} {n : Nat} {res : Value} (hh : A.handled = none) (D : ZipApart z TI TO i1 i2 l1 l2) (hn : 1 ≤ n) (hn64 : n ≤ 64) (hend : xs[n]? = none)
    (hxs : ∀ j, j < n → ∃ a t, xs[j]? = some (.int a t)) (hys : ∀ j, j < n → ∃ a t, ys[j]? = some (.str a t)) :
    ∀ (k : Nat) (ts : List Tup) (s : Shared), ts.length + k = n → ZSt h₀ L m news z TI TO i1 i2 l1 l2 S xs ys ts s.heap →
    (∀ ts' h' c, ts'.length = n → Fr h₀ L h' m → News h₀ L h' (tupLed ts' ++ news) → (∀ (j : Nat) p, ts'[j]? = some p → xs[j]? = some (.int p.n p.t) ∧ ys[j]? = some (.str p.x p.u)) → h'.get? S = some { cls := .type "list", dict := none, data := .seq (tupRefs ts').toArray c, slots := #[] } →
      (∀ p ∈ tupLed ts' ++ news, p.1 ≠ S) → R (.ok (.ret res)) { s with heap := h' }) →
    codeAny (model prog w) A (.builtin "list.extend.loop" ⟨[.ref S, .ref z, res], []⟩) R s := by
  intro k
  induction k with
  | zero =>
    intro ts s hk X hR
    have hl : ts.length = n := by omega
    refine codeAny_builtin F.entry_extend_loop ?_
    rw [Around.under_plainId F.plain_extend_loop _]
    show wpAny _ A.in1 (pyNext (.ref z) >>= _) _ _ s
    rcases X.hz with ⟨e, _⟩ | ⟨T, oT, b, e1, e2, e3⟩
    · rw [e] at hl; simp at hl; omega
    · refine wpAny_bind (pyNext_zip_endB (A := A.in1) hh D e1 X.hTI e2 X.h1 X.hl1 (by rw [hl]; exact hend) fun h' hk' => ?_)
      obtain ⟨c, hc⟩ := X.hS
      have oz := X.off z (.head _)
      have o1 := X.off i1 (.tail _ (.head _))
      have oS := X.off S (.tail _ (.tail _ (.tail _ (.tail _ (.head _)))))
      refine wpAny_pure (hR ts h' c hl ⟨X.hF.ns.at' fun o e => hk' L o (Ne.symm oz.2.2.1) (Ne.symm o1.2.2.1) e, fun b o e => hk' b o (fun q => by rw [q, oz.2.1] at e; cases e) (fun q => by rw [q, o1.2.1] at e; cases e) (X.hF.keep b o e), X.hF.above⟩
        (fun q hq => ⟨hk' _ _ (oz.1 q hq) (o1.1 q hq) (X.hN q hq).1, (X.hN q hq).2⟩) X.src (hk' _ _ X.ap.1 X.ap.2.1 hc) oS.1)
  | succ k ih =>
    intro ts s hk X hR
    have hlt : ts.length < n := by omega
    obtain ⟨a, t, hx⟩ := hxs _ hlt
    obtain ⟨y, u, hy⟩ := hys _ hlt
    obtain ⟨c, hc⟩ := X.hS
    have hszr : (tupRefs ts).toArray.size ≤ 64 := by simp [tupRefs]; omega
    refine codeAny_builtin F.entry_extend_loop ?_
    rw [Around.under_plainId F.plain_extend_loop _]
    show wpAny _ A.in1 (pyNext (.ref z) >>= _) _ _ s
    have oS := X.off S (.tail _ (.tail _ (.tail _ (.tail _ (.head _)))))
    have fin : ∀ (h₁ : Heap) (T' : Addr) (oT : Obj) (b : Bool), IsZipB h₁ z TI TO (rawInt T') b → h₁.IsListIter i1 l1 (ts.length + 1) → h₁.IsListIter i2 l2 (ts.length + 1) → IsPair h₁ s.heap.objs.size (.int a t) (.str y u) → (∃ o, h₁.get? TO = some o) → h₁.get? T' = some oT → (∀ q ∈ [z, i1, i2, TO, S], T' ≠ q) →
        (∀ c o, c ≠ z → c ≠ TO → c ≠ i1 → c ≠ i2 → s.heap.get? c = some o → h₁.get? c = some o) →
        wpAny (model prog w) A.in1 (updateSeq S (·.push (.ref s.heap.objs.size)) >>= fun _ => again (.builtin "list.extend.loop" ⟨[.ref S, .ref z, res], []⟩)) (fun f s' => match f with
          | .done fl => R (.ok fl) s'
          | .again c => c.quiet = true ∧ codeAny (model prog w) A c R s') (fun e s' => R (.error e) s') { s with heap := h₁ } := by
      intro h₁ T' oT b hz a1 a2 hp hTO hT' hTq hk₁
      have hc₁ := hk₁ _ _ X.ap.1 X.ap.2.2.2.1 X.ap.2.1 X.ap.2.2.1 hc
      have hSsz : S ≠ s.heap.objs.size := Nat.ne_of_lt (Heap.lt_size hc)
      have oth : ∀ c o, c ≠ S → h₁.get? c = some o → (h₁.update S (Obj.mapSeq (·.push (.ref s.heap.objs.size)))).get? c = some o := fun c o hne e => (Heap.get?_update_other _ _ (fun q : S = c => hne q.symm)).trans e
      refine wpAny_bind ?_
      refine wpAny_updateSeq hc₁ rfl (wpAny_pure ⟨plainId_quiet F.plain_extend_loop _, ih (ts ++ [⟨s.heap.objs.size, a, t, y, u⟩]) _ (by rw [List.length_append, List.length_singleton]; omega) ?_ hR⟩) (by rw [sizeLine_eq]; omega) (by show ((tupRefs ts).toArray.push _).size ≤ sizeLine + 1; rw [Array.size_push, sizeLine_eq]; omega)
      obtain ⟨oTO, hTO⟩ := hTO
      refine X.turn D (p := ⟨s.heap.objs.size, a, t, y, u⟩) hx hy rfl (oth _ _ (Ne.symm X.ap.1) hz) (a1.at fun o e => oth _ o (Ne.symm X.ap.2.1) e) (a2.at fun o e => oth _ o (Ne.symm X.ap.2.2.1) e) (oth _ _ (Ne.symm hSsz) hp) (Heap.get?_update_self _ hc₁ rfl) ⟨oTO, oth _ _ (Ne.symm X.ap.2.2.2.1) hTO⟩
        (oth _ _ (hTq S (.tail _ (.tail _ (.tail _ (.tail _ (.head _)))))) hT') hTq fun c o d1 d2 d3 d4 d5 e => oth c o d5 (hk₁ c o d1 d2 d3 d4 e)
    have fresh : ∀ q ∈ [z, i1, i2, TO, S], s.heap.objs.size ≠ q := fun q hq => by
      obtain ⟨_, _, _, o, e⟩ := X.off q hq
      exact Nat.ne_of_gt (Heap.lt_size e)
    rcases X.hz with ⟨e, hz, a0, b0, hTO⟩ | ⟨T, oT, b, e1, e2, e3⟩
    · exact wpAny_bind (wpAny_pyNext_zip_item (A := A.in1) D hz X.hTI hTO X.h1 X.h2 X.hl1 X.hl2 hx hy fun h' c1 c2 c3 c4 c5 c6 c7 =>
        fin h' s.heap.objs.size _ false c1 c3 c4 c5 ⟨_, c2⟩ c5 fresh fun c o d1 d2 d3 d4 e => c7 c o d1 d2 d3 d4 e)
    · obtain ⟨_, _, _, oTO, hTO⟩ := X.off TO (.tail _ (.tail _ (.tail _ (.head _))))
      exact wpAny_bind (pyNext_zip_more (A := A.in1) D e1 X.hTI e2 X.h1 X.h2 X.hl1 X.hl2 hx hy fun h' c1 c3 c4 c5 c6 c7 =>
        fin h' T oT true c1 c3 c4 c5 ⟨oTO, c7 _ _ D.TOz D.TOi1 D.TOi2 hTO⟩ (c7 _ _ (e3 z (.head _)) (e3 i1 (.tail _ (.head _))) (e3 i2 (.tail _ (.tail _ (.head _)))) e2) e3 fun c o d1 _ d3 d4 e => c7 c o d1 d3 d4 e)
end
end Mine
end
section
open PySem PySem.W PyProof.Rows PySem.Calls PySem.Spec
set_option Elab.async false
set_option maxRecDepth 100000
set_option maxHeartbeats 4000000
namespace Mine
theorem zip_no_len : typeLookup (.type "zip") "__len__" = pure none := by rw [typeLookup_type, builtinLookup_eq_fast]; kernel_rfl
theorem zip_no_hint : typeLookup (.type "zip") "__length_hint__" = pure none := by rw [typeLookup_type, builtinLookup_eq_fast]; kernel_rfl
section
variable {prog : Program} {w : World} {A : Around} {E : Value → Shared → Prop} {s : Shared} {h₀ : Heap} {L : Addr} {m : Str → Option Value} {news : List (Addr × Obj)} {z TI TO i1 i2 l1 l2 : Addr} {xs ys : Array Value}
theorem collect_zip {Q : List Value → Shared → Prop} {n : Nat} {a b : Value} (hh : A.handled = none) (D : ZipApart z TI TO i1 i2 l1 l2) (hn : 1 ≤ n) (hn64 : n ≤ 64) (hend : xs[n]? = none)
    (hxs : ∀ j, j < n → ∃ a t, xs[j]? = some (.int a t)) (hys : ∀ j, j < n → ∃ a t, ys[j]? = some (.str a t))
    (F : Fr h₀ L s.heap m) (N : News h₀ L s.heap news) (hz : IsZip s.heap z TI TO .none) (hTI : IsPair s.heap TI (.ref i1) (.ref i2)) (hTO : IsPair s.heap TO a b) (h1 : s.heap.IsListIter i1 l1 0) (h2 : s.heap.IsListIter i2 l2 0) (hl1 : s.heap.IsList l1 xs) (hl2 : s.heap.IsList l2 ys)
    (off : ∀ q ∈ [z, i1, i2, TO], (∀ p ∈ news, p.1 ≠ q) ∧ h₀.get? q = none ∧ q ≠ L)
    (hQ : ∀ ts h', ts.length = n → Fr h₀ L h' m → News h₀ L h' (tupLed ts ++ news) → (∀ (j : Nat) p, ts[j]? = some p → xs[j]? = some (.int p.n p.t) ∧ ys[j]? = some (.str p.x p.u)) → Q (tupRefs ts) { s with heap := h' }) :
    wpAny (model prog w) A (collect (.ref z)) Q E s := by
  have lt : ∀ {q : Addr} {o : Obj}, s.heap.get? q = some o → s.heap.objs.size ≠ q := fun e => Nat.ne_of_gt (Heap.lt_size e)
  obtain ⟨oi1, ei1, _⟩ := id h1
  obtain ⟨oi2, ei2, _⟩ := id h2
  obtain ⟨ol1, el1, _⟩ := id hl1
  obtain ⟨ol2, el2, _⟩ := id hl2
  have hSz := lt hz
  unfold collect
  refine wpAny_bind (wpAny_runValue (codeAny_builtin PySem.F.entry_proto_collect ?_))
  rw [Around.under_plainId PySem.F.plain_proto_collect _]
  show wpAny _ A.in1 (newList [] >>= fun l => again (.builtin "list.__iadd__" ⟨[l, .ref z], []⟩)) _ _ s
  refine wpAny_bind (wpAny_newObj_type ?_)
  refine wpAny_pure ⟨plainId_quiet PySem.F.plain_list_iadd _, codeAny_builtin PySem.F.entry_list_iadd ?_⟩
  rw [Around.under_plainId PySem.F.plain_list_iadd _]
  show wpAny _ A.in1 (Builtin.List.listExtendWith (.ref s.heap.objs.size) (.ref z) (.ref s.heap.objs.size)) _ _ _
  unfold Builtin.List.listExtendWith
  have hz₁ : IsZip (s.heap.push { cls := .type "list", data := .seq ([] : List Value).toArray }) z TI TO .none := Heap.get?_push_of_some _ hz
  refine wpAny_bind (wpAny_typeOf (T := "zip") ⟨_, hz₁, rfl⟩ ?_)
  have e1 : Builtin.List.listSameRef (.ref s.heap.objs.size) (.ref z) = false := by simp [Builtin.List.listSameRef, hSz]
  have e2 : (Value.type "zip" == Value.type "list") = false := by decide
  have e3 : (Value.type "zip" == Value.type "tuple") = false := by decide
  simp only [e1, e2, e3, Bool.or_false, Bool.false_eq_true, if_false]
  refine wpAny_bind (wpAny_pyIter_zip hz₁ ?_)
  refine wpAny_bind (wpAny_holding ?_)
  unfold Builtin.List.listLengthHint
  refine wpAny_bind (wpAny_specialOf (T := "zip") ⟨_, hz₁, rfl⟩ zip_no_len ?_)
  show wpAny _ A.in1 (specialOf (Value.ref z) (Str.ofString "__length_hint__") >>= _) _ _ _
  refine wpAny_bind (wpAny_specialOf (T := "zip") ⟨_, hz₁, rfl⟩ zip_no_hint ?_)
  refine wpAny_pure ?_
  show wpAny _ A.in1 (rule "list.extend.makes-room" >>= fun _ => Builtin.List.listTouch (.ref s.heap.objs.size) >>= fun _ =>
    again (.builtin "list.extend.loop" ⟨[.ref s.heap.objs.size, .ref z, .ref s.heap.objs.size], []⟩)) _ _ _
  refine wpAny_bind (wpAny_rule ?_)
  have hS₁ : (s.heap.push { cls := .type "list", data := .seq ([] : List Value).toArray }).get? s.heap.objs.size = some { cls := .type "list", data := .seq ([] : List Value).toArray } := Heap.get?_push_size _ rfl
  refine wpAny_bind ?_
  show wpAny _ A.in1 (updateSeq s.heap.objs.size (·.push .none) >>= fun _ => updateSeq s.heap.objs.size (·.pop)) _ _ _
  refine wpAny_bind (wpAny_updateSeq hS₁ rfl ?_)
  have hS₂ := Heap.get?_update_self (Obj.mapSeq (·.push Value.none)) hS₁ rfl
  refine wpAny_updateSeq hS₂ rfl ?_
  have hS₃ := Heap.get?_update_self (Obj.mapSeq (·.pop)) hS₂ rfl
  have oth : ∀ b o, s.heap.get? b = some o →
      (((s.heap.push { cls := .type "list", data := .seq ([] : List Value).toArray }).update s.heap.objs.size (Obj.mapSeq (·.push Value.none))).update s.heap.objs.size (Obj.mapSeq (·.pop))).get? b = some o :=
    fun b o e => (Heap.get?_update_other _ _ (lt e)).trans ((Heap.get?_update_other _ _ (lt e)).trans (Heap.get?_push_of_some _ e))
  have hLs := F.ns.lt
  have X : ZSt h₀ L m news z TI TO i1 i2 l1 l2 s.heap.objs.size xs ys [] (((s.heap.push { cls := .type "list", data := .seq ([] : List Value).toArray }).update s.heap.objs.size (Obj.mapSeq (·.push Value.none))).update s.heap.objs.size (Obj.mapSeq (·.pop))) := by
    refine ⟨F.keeps oth, fun q hq => ⟨oth _ _ (N q hq).1, (N q hq).2⟩, fun j p hj => by simp at hj, ⟨_, hS₃⟩, oth _ _ hTI, h1.at fun o e => oth _ o e, h2.at fun o e => oth _ o e, hl1.at fun o e => oth _ o e, hl2.at fun o e => oth _ o e, .inl ⟨rfl, oth _ _ hz, a, b, oth _ _ hTO⟩, ?_, ⟨hSz, lt ei1, lt ei2, lt hTO, lt hTI, lt el1, lt el2⟩⟩
    intro q hq
    have hq' : q ∈ [z, i1, i2, TO] ∨ q = s.heap.objs.size := by
      simp only [List.mem_cons, List.not_mem_nil, or_false] at hq ⊢
      rcases hq with h | h | h | h | h
      · exact .inl (.inl h)
      · exact .inl (.inr (.inl h))
      · exact .inl (.inr (.inr (.inl h)))
      · exact .inl (.inr (.inr (.inr h)))
      · exact .inr h
    rcases hq' with hq' | rfl
    · obtain ⟨b1, b2, b3⟩ := off q hq'
      refine ⟨b1, b2, b3, ?_⟩
      simp only [List.mem_cons, List.not_mem_nil, or_false] at hq'
      rcases hq' with rfl | rfl | rfl | rfl
      · exact ⟨_, oth _ _ hz⟩
      · exact ⟨_, oth _ _ ei1⟩
      · exact ⟨_, oth _ _ ei2⟩
      · exact ⟨_, oth _ _ hTO⟩
    · refine ⟨fun p hp => Ne.symm (lt (N p hp).1), Heap.get?_none_of_le (Nat.le_trans F.above (Nat.le_of_lt hLs)), Nat.ne_of_gt hLs, ⟨_, hS₃⟩⟩
  refine wpAny_pure ⟨plainId_quiet PySem.F.plain_extend_loop _, zip_loop (A := A) hh D hn hn64 hend hxs hys n [] _ (by simp) X fun ts' h' c hl F' N' src hS' _ => ?_⟩
  show wpAny _ A (load s.heap.objs.size >>= _) _ _ _
  refine wpAny_bind (wpAny_load hS' ?_)
  refine wpAny_pure ?_
  have := hQ ts' h' hl F' N' src
  simpa using this
end
end Mine
end
section
open PySem PySem.W PyProof.Rows PySem.Calls PySem.Spec
set_option Elab.async false
set_option maxRecDepth 100000
set_option maxHeartbeats 4000000
namespace Mine
section
variable {prog : Program} {w : World} {A : Around} {E : Value → Shared → Prop} {s : Shared} {h₀ : Heap} {L : Addr} {m : Str → Option Value} {news : List (Addr × Obj)} {z TI TO i1 i2 l1 l2 : Addr} {xs ys : Array Value}
theorem refs_len (ts : List Tup) : (tupRefs ts).length = ts.length := by simp [tupRefs]
theorem refs_at {ts : List Tup} {i : Nat} (h : i < ts.length) : ∃ p ∈ ts, (tupRefs ts).getD i Value.none = .ref p.T := by
  refine ⟨ts[i], List.getElem_mem h, ?_⟩
  simp [tupRefs, List.getD, h]
theorem sorted_zip {Q : Value → Shared → Prop} {a b : Value} (hh : A.handled = none) (D : ZipApart z TI TO i1 i2 l1 l2) (hend : xs[5]? = none)
    (hxs : ∀ j, j < 5 → ∃ a t, xs[j]? = some (.int a t)) (hys : ∀ j, j < 5 → ∃ a t, ys[j]? = some (.str a t))
    (F : Fr h₀ L s.heap m) (N : News h₀ L s.heap news) (hz : IsZip s.heap z TI TO .none) (hTI : IsPair s.heap TI (.ref i1) (.ref i2)) (hTO : IsPair s.heap TO a b) (h1 : s.heap.IsListIter i1 l1 0) (h2 : s.heap.IsListIter i2 l2 0) (hl1 : s.heap.IsList l1 xs) (hl2 : s.heap.IsList l2 ys)
    (off : ∀ q ∈ [z, i1, i2, TO], (∀ p ∈ news, p.1 ≠ q) ∧ h₀.get? q = none ∧ q ≠ L)
    (hQ : ∀ D ts out c h', ts.length = 5 → (∀ (j : Nat) p, ts[j]? = some p → xs[j]? = some (.int p.n p.t) ∧ ys[j]? = some (.str p.x p.u)) → out.length = 5 → (∀ v ∈ out, ∃ p ∈ ts, v = .ref p.T) →
      Fr h₀ L h' m → News h₀ L h' ((D, listOf (List.toArray out) c) :: (tupLed ts ++ news)) → (∀ q ∈ tupLed ts ++ news, q.1 ≠ D) → Q (.ref D) { s with heap := h' }) :
    wpAny (model prog w) A (call (.builtin "sorted") [.ref z]) Q E s := by
  refine Calls.call_function_entry kind_sorted plain_sorted entry_sorted (args_sorted1 _) ?_
  unfold Builtin.«sorted»
  refine wpAny_bind (m := checkCount "sorted" 1 1 _) (wpAny_pure ?_)
  refine wpAny_bind (collect_zip (n := 5) hh D (by decide) (by decide) hend hxs hys F N hz hTI hTO h1 h2 hl1 hl2 off fun ts h₁ hl F₁ N₁ src => ?_)
  have hlr : (tupRefs ts).length = 5 := (refs_len ts).trans hl
  refine wpAny_bind (wpAny_newList ?_ (by rw [hlr, sizeLine_eq]; decide))
  have hoL : (h₁.push (seqObj "list" (tupRefs ts).toArray 0)).get? h₁.objs.size = some (seqObj "list" (tupRefs ts).toArray 0) := Heap.get?_push_size _ rfl
  have hL : L < h₁.objs.size := F₁.ns.lt
  show wpAny _ _ _ _ _ { s with heap := h₁.push (seqObj "list" (tupRefs ts).toArray 0) }
  refine wpAny_bind (wpAny_holding (wpAny_call_entry slot_list_sort ⟨_, hoL, rfl⟩ entry_list_sort ?body (args_list_sort _)))
  case body =>
    refine kat_list_sort (s := { s with heap := h₁.push (seqObj "list" (tupRefs ts).toArray 0) }) (F₁.push _) (N₁.grown fun _ _ e => Heap.get?_push_of_some _ e) hoL (Nat.ne_of_gt hL) (Heap.get?_none_of_le (Nat.le_trans F₁.above (Nat.le_of_lt hL)))
      (fun p hp => Nat.ne_of_lt (Heap.lt_size (N₁ p hp).1)) (by rw [hlr]; decide) (by rw [hlr]; decide) fun e1 h' F' N' => ?_
    have hPI : PairsIn h' (tupRefs ts) (ts.map fun p => (p.n, p.x)) := pairs_of_led (ts := ts) fun q hq => N' q (.tail _ (List.mem_append_left _ hq))
    obtain ⟨fs, ht, hfl, hfs⟩ := hPI.tups
    refine kat_kind (T := .type "int") ht (by rw [hfl, List.length_map, hl]; decide) (fun v hv => ?_) rfl ?_
    · obtain ⟨n, t, rfl⟩ := hfs v hv
      exact Looks.of_pure rfl
    rw [show (Value.type "int" != Value.type "tuple") = true from by decide, hlr]
    refine kasWp_of (n := 5) (I := fun s' => s' = { s with heap := h' }) (fun i j C s' hi hj hI hC => ?_) _ sort5 _ _ rfl fun p s' hP hI => ?_
    · subst hI
      exact ask_pairs hPI (by rw [List.length_map, hl]; exact hi) (by rw [List.length_map, hl]; exact hj) fun b => hC b _ rfl
    · subst hI
      simp only [Bool.and_eq_true, beq_iff_eq] at hP
      have hp5 : p.toList.length = 5 := by rw [Array.length_toList]; exact hP.1
      have hpi : ∀ i ∈ p.toList, i < 5 := fun i hi => by
        have := Array.all_eq_true'.mp hP.2 i (by simpa using hi)
        simpa using this
      have hne : ∀ q ∈ tupLed ts ++ news, q.1 ≠ h₁.objs.size := fun q hq => Nat.ne_of_lt (Heap.lt_size (N₁ q hq).1)
      refine KasFin.intro F' N' (.head hne) fun h'' c F'' N'' => ?_
      refine ⟨_, rfl, wpAny_pure ⟨_, rfl, ?_⟩⟩
      refine hQ h₁.objs.size ts _ c h'' hl src (by rw [List.length_map]; exact hp5) (fun v hv => ?_) F'' N'' hne
      obtain ⟨i, hi, rfl⟩ := List.mem_map.mp hv
      exact refs_at (by rw [hl]; exact hpi i hi)
end
end Mine
end
section
open PySem PySem.W PyProof.Rows PySem.Calls PySem.Spec
set_option Elab.async false
set_option maxRecDepth 100000
set_option maxHeartbeats 4000000
namespace Mine
theorem ints_ex : ∀ {l : List Value} {ns : List Int} {j : Nat}, IntsAre l ns → j < ns.length → ∃ a t, l[j]? = some (.int a t)
  | _, _, _, .nil, h => by simp at h
  | _, _, 0, .cons n t _, _ => ⟨n, t, rfl⟩
  | _, _, j + 1, .cons n t r, h => by simpa using ints_ex r (j := j) (by simpa using h)
theorem strs_ex : ∀ {l : List Value} {ns : List Str} {j : Nat}, StrsAre l ns → j < ns.length → ∃ a t, l[j]? = some (.str a t)
  | _, _, _, .nil, h => by simp at h
  | _, _, 0, .cons n t _, _ => ⟨n, t, rfl⟩
  | _, _, j + 1, .cons n t r, h => by simpa using strs_ex r (j := j) (by simpa using h)
theorem ints_get : ∀ {l : List Value} {ns : List Int} {j : Nat} {n : Int} {t : Tok}, IntsAre l ns → l[j]? = some (.int n t) → ns[j]? = some n
  | _, _, _, _, _, .nil, h => by simp at h
  | _, _, 0, _, _, .cons n t _, h => by simp at h; simp [h.1]
  | _, _, j + 1, _, _, .cons n t r, h => by simpa using ints_get r (j := j) (by simpa using h)
theorem strs_get : ∀ {l : List Value} {ns : List Str} {j : Nat} {n : Str} {t : Tok}, StrsAre l ns → l[j]? = some (.str n t) → ns[j]? = some n
  | _, _, _, _, _, .nil, h => by simp at h
  | _, _, 0, _, _, .cons n t _, h => by simp at h; simp [h.1]
  | _, _, j + 1, _, _, .cons n t r, h => by simpa using strs_get r (j := j) (by simpa using h)
theorem zip_mem {α β : Type} {l : List α} {r : List β} {j : Nat} {x : α} {y : β} (h1 : l[j]? = some x) (h2 : r[j]? = some y) : (x, y) ∈ l.zip r := List.mem_of_getElem? (i := j) (by simp [List.getElem?_zip_eq_some, h1, h2])
theorem off_new {h₀ h : Heap} {L q : Addr} {m : Str → Option Value} {news : List (Addr × Obj)} (F : Fr h₀ L h m) (N : News h₀ L h news) (hq : h.objs.size ≤ q) : (∀ p ∈ news, p.1 ≠ q) ∧ h₀.get? q = none ∧ q ≠ L :=
  ⟨fun p hp => Nat.ne_of_lt (Nat.lt_of_lt_of_le (Heap.lt_size (N p hp).1) hq), Heap.get?_none_of_le (Nat.le_trans F.above (Nat.le_of_lt (Nat.lt_of_lt_of_le F.ns.lt hq))), Nat.ne_of_gt (Nat.lt_of_lt_of_le F.ns.lt hq)⟩
theorem seg10 : ∀ (w : World) (mean : ExcName → Option Value) (mg mb : Str → Option Value) (g : Heap) (L fa : Addr) (cd : Value) (X : (hdA.heap_1_1 w.params).In g) (T : Top topProg lsT mean mg mb g) (B : Below callerA g [] g) (h245 : 245 < L) (m : Str → Option Value) (s : Shared) (Q : Flow → Shared → Prop) (E : Value → Shared → Prop)
    (o1 o2 o3 o4 o5 : Obj) (W : Addr) (zs : Array Value) (kz : Nat) (M : Str) (tm : Tok) (ns : List Int) (rs : List Str) (F : Fr g L s.heap (kstB m [(Str.ofString "mail", .str M tm), (Str.ofString "worths", .ref W)])) (N : News g L s.heap ((W, listOf zs kz) :: [(L + 1 + 1 + 1 + 1 + 1, o5), (L + 1 + 1 + 1 + 1, o4), (L + 1 + 1 + 1, o3), (L + 1 + 1, o2), (L + 1, o1), (245, tabObj #[])])) (hI : IntsAre zs.toList ns) (hlen5 : ns.length = 5) (hrs5 : rs.length = 5) (hMl : M.length ≤ 200) (hsp : Txt.split M (Str.ofString "\r\n") = rs ++ [Str.ofString ""])
    (hQ : ∀ D ts out c h' tk, ts.length = 5 → (∀ p ∈ ts, (p.n, p.x) ∈ ns.zip rs) → out.length = 5 → (∀ v ∈ out, ∃ p ∈ ts, v = .ref p.T) → Fr g L h' (fun z => if z = Str.ofString "table" then some (.ref D) else kstB m [(Str.ofString "mail", .str M tm), (Str.ofString "worths", .ref W)] z) → News g L h' ((D, listOf (List.toArray out) c) :: (tupLed ts ++ [(L + 1 + 1 + 1 + 1 + 1, o5), (L + 1 + 1 + 1 + 1, o4), (L + 1 + 1 + 1, o3), (L + 1 + 1, o2), (L + 1, o1), (245, tabObj #[])])) → Q .next { s with heap := h', toks := tk }),
    wpAny (model PySem.Challenge.rw_tc0048_01.row.prog w) (lawA (lawS w) L fa cd) (exec (nth (lawB w) 10) (lawE (lawS w) L fa cd)) Q E s := by
  k_with_none
  (k_with "call type:zip" => (k_here; refine stop_here ?_))
  (k_with "call builtin:sorted" => (k_here; refine stop_here ?_))
  k_fill
  intro w mean mg mb g L fa cd X T B h245 m s Q E o1 o2 o3 o4 o5 W zs kz M tm ns rs F N hI hlen5 hrs5 hMl hsp hQ
  refine cut_law (P := fun body scope => wpAny (model PySem.Challenge.rw_tc0048_01.row.prog w) (lawA scope L fa cd) (exec (nth body 10) (lawE scope L fa cd)) Q E s) (by k_is) ?_
  simp only [nth]
  delta lawE lawA
  have hl5 : zs.toList.length = 5 := hI.length.trans hlen5
  k_steps
  delta Stop
  rename (List.map _ _ = Txt.split _ _) => e1
  rename StrsAre _ _ => hS
  rename Heap.IsList _ _ _ => hL2
  rename Fr _ _ _ _ => fZ
  rename News _ _ _ _ => nZ
  rw [e1, hsp] at hS
  have hL1 := isl_of (nZ (W, _) (.tail _ (.head _))).1
  have a1 := Heap.lt_size (nZ (W, _) (.tail _ (.head _))).1
  have a2 := Heap.lt_size (nZ _ (.head _)).1
  have nC := fun p hp => nZ p (.tail _ (.tail _ hp))
  dsimp only at hL1 hL2 a1 a2
  refine call_zip_2 hL1 hL2 fun h5 hz hTI hTO h1 h2 hsz5 hk5 => ?_
  have F5 := fZ.keeps hk5
  have N5 := News.grown nC hk5
  k_steps
  delta Stop
  have hLs := fZ.ns.lt
  refine sorted_zip rfl (zipApart_new a1 a2) ?hend ?hxs ?hys F5 N5 hz hTI hTO h1 h2 (hL1.at fun o e => hk5 _ _ e) (hL2.at fun o e => hk5 _ _ e) ?off ?fin
  case hend => exact Array.getElem?_eq_none (by rw [← Array.length_toList, hl5]; decide)
  case hxs => exact fun j hj => by simpa using ints_ex hI (j := j) (by rw [hlen5]; exact hj)
  case hys => exact fun j hj => by simpa using strs_ex hS (j := j) (by rw [List.length_append, hrs5]; exact Nat.lt_succ_of_lt hj)
  case off =>
    intro q hq
    refine off_new fZ nC ?_
    simp only [List.mem_cons, List.not_mem_nil, or_false] at hq
    rcases hq with rfl | rfl | rfl | rfl
    · exact Nat.le_add_right _ _
    · exact Nat.le_refl _
    · exact Nat.le_add_right _ _
    · exact Nat.le_add_right _ _
  case fin =>
    intro D5 ts out c h' hl src ho hmem F' N' hne
    (try dsimp only)
    k_steps
    rename News _ _ _ _ => nE
    refine hQ D5 ts out c _ _ hl (fun p hp => ?_) ho hmem (by assumption) nE
    obtain ⟨j, hj, rfl⟩ := List.getElem_of_mem hp
    have e := src j _ (List.getElem?_eq_getElem hj)
    refine zip_mem (j := j) (ints_get hI (by simpa using e.1)) ?_
    have e3 := strs_get hS (by simpa using e.2)
    rwa [List.getElem?_append_left (by omega)] at e3
end Mine
end
section
open PySem PySem.W PyProof.Rows PySem.Calls PySem.Spec
set_option Elab.async false
set_option maxRecDepth 100000
set_option maxHeartbeats 4000000
namespace Mine
theorem one_mul_le {n b : Nat} (h : 1 * n ≤ b) : n ≤ b := by omega
theorem esub_mul {n b : Nat} {x d c : Str} (h : (n * 6) * x.length ≤ b) (hd : d.length ≤ 6) : n * (esub x c d).length ≤ b := by
  have := esub_len x d c hd
  have h2 := Nat.mul_le_mul_left n this
  rw [← Nat.mul_assoc] at h2
  omega
theorem mcall_at {x : Str} {c d : Str} {env : Env} {p5 p6 p7 p8 p9 : Pos} {nm : Str} (hp : (p6.endLine == p9.line) = true) : eval (.Call (.Attribute (.Name x p5) nm p6) [.Constant (.str c) 0 p7, .Constant (.str d) 0 p8] [] p9) env = (do
      let ov ← eval (.Name x p5) env
      standAt p6.atName
      let (f, first) ← holding [ov] (getMethod ov nm (do return (← importBound (.Name x p5) env).getD true))
      callWith p9 f first (backTo p9 (starEach [.Constant (.str c) 0 p7, .Constant (.str d) 0 p8] env)) []) := by
  have e : ∀ few, methodCallPos few (.Name x p5) env p6 p9 = (pure p9 : Sem Pos) := fun few => by
    unfold methodCallPos
    rw [hp, Bool.or_true]; rfl
  show (do
    let ov ← eval (.Name x p5) env
    standAt p6.atName
    let (f, first) ← holding [ov] (calleeOf true (.Name x p5) env ov nm)
    let callPos ← methodCallPos true (.Name x p5) env p6 p9
    callWith callPos f first (backTo p9 (starEach [.Constant (.str c) 0 p7, .Constant (.str d) 0 p8] env)) []) = _
  rw [e]
  rfl
noncomputable abbrev escSc : Scope := { kind := ScopeKind.function, names := [(Str.ofString "text", NameKind.local), (Str.ofString "TypeError", NameKind.globalImplicit), (Str.ofString "AttributeError", NameKind.globalImplicit), (Str.ofString "_raise_serialization_error", NameKind.globalImplicit)], isGenerator := false, isCoroutine := false }
noncomputable abbrev ifE (c d : Str) (p1 p2 p3 p4 p5 p6 p7 p8 p9 p10 p11 : Pos) : Stmt := .If (.Compare (.Constant (.str c) 0 p1) [.In] [.Name (Str.ofString "text") p2] p3) [.Assign [.Name (Str.ofString "text") p4] (.Call (.Attribute (.Name (Str.ofString "text") p5) (Str.ofString "replace") p6) [.Constant (.str c) 0 p7, .Constant (.str d) 0 p8] [] p9) p10] [] p11
theorem esc_if0 : ∀ (w : World) (mean : ExcName → Option Value) (mg mb : Str → Option Value) (x c d : Str) (t : Tok) (p1 p2 p3 p4 p5 p6 p7 p8 p9 p10 p11 : Pos) (qual : Str) (f : Addr) (cdv : Value) (dp un : Nat) (gd : Option (List Code)) (cn : Str) (cs : Scope) (L a : Addr) (ccd : Value) (cl : List (Str × Addr)) (outer : List Env) (g : Heap) (L' : Addr) (m : Str → Option Value) (s : Shared) (h : Heap) (tk0 : Nat) (E : Value → Shared → Prop)
    (base : Heap) (B : Below (ktrTop dp un gd cn cs L a ccd cl outer) base (envX cn cs L a ccd cl :: outer) g) (X : (hdA.heap_1_1 w.params).In g) (T : Top topProg lsT mean mg mb g) (hdp : dp + 1 < recursionLimit) (hu : un + 8 * 1 < cLine) (F : Fr g L' h (kstB m [(Str.ofString "text", .str x t)])) (hp : (p6.endLine == p9.line) = true) (hc : c.cps.size = 1) (hd : d.length ≤ 6) (hcd : (c == d) = false) (hl : x.length ≤ 1048576) (htk0 : 1 ≤ tk0),
    wpAny (model PySem.Challenge.rw_tc0048_01.row.prog w) ((ktrTop dp un gd cn cs L a ccd cl outer).deeper (envOf qual escSc L' f cdv)) (exec (ifE c d p1 p2 p3 p4 p5 p6 p7 p8 p9 p10 p11) (envOf qual escSc L' f cdv)) (EscPost g L' (kstB m [(Str.ofString "text", .str x t)]) (esub x c d) s) E { s with heap := h, toks := tk0 } := by
  k_with_none
  (k_with "call builtin:str.replace" => (k_here; refine tok_in (by first | assumption | (dsimp only; omega)) (SC.replaceW (by (show @Ne Nat _ _); omega) (by (show @Ne Nat _ _); omega) (by (show @Ne Nat _ _); omega) (by assumption) (by assumption) (by omega) ?_); intro t' tk' htk'))
  (k_with "eval Call Attribute" => (refine MethodCall_ ?_ (mcall_at (by assumption))))
  (k_with "execs cons" => (k_here; refine wpAny_execs_cons ?_))
  (k_with "execs nil" => (k_here; refine wpAny_execs_nil ?_))
  k_fill
  intros
  rename Fr _ _ _ _ => F'
  have N' := nilOf' F'
  delta ifE
  k_steps
  all_goals (first | exact esc_no (by assumption) (by assumption) rfl (by assumption) (by first | assumption | (dsimp only; omega)) | exact esc_yes (by assumption) (by assumption) (by first | assumption | (dsimp only; omega)))
theorem esc_go {w : World} {mean : ExcName → Option Value} {mg mb : Str → Option Value} {x c d : Str} {t : Tok} {p1 p2 p3 p4 p5 p6 p7 p8 p9 p10 p11 : Pos} {qual : Str} {f : Addr} {cdv : Value} {dp un : Nat} {gd : Option (List Code)} {cn : Str} {cs : Scope} {L a : Addr} {ccd : Value} {cl : List (Str × Addr)} {outer : List Env} {g : Heap} {L' : Addr} {m : Str → Option Value} {s : Shared} {Q : Flow → Shared → Prop} {E : Value → Shared → Prop} {base : Heap}
    (B : Below (ktrTop dp un gd cn cs L a ccd cl outer) base (envX cn cs L a ccd cl :: outer) g) (X : (hdA.heap_1_1 w.params).In g) (T : Top topProg lsT mean mg mb g) (hdp : dp + 1 < recursionLimit) (hu : un + 8 * 1 < cLine) (F : Fr g L' s.heap (kstB m [(Str.ofString "text", .str x t)])) (hp : (p6.endLine == p9.line) = true) (hc : c.cps.size = 1) (hd : d.length ≤ 6) (hcd : (c == d) = false) (hl : x.length ≤ 1048576) (htk0 : 1 ≤ s.toks)
    (h : ∀ t' h' tk', 1 ≤ tk' → Fr g L' h' (kstB m [(Str.ofString "text", .str (esub x c d) t')]) → Q .next { s with heap := h', toks := tk' }) :
    wpAny (model PySem.Challenge.rw_tc0048_01.row.prog w) ((ktrTop dp un gd cn cs L a ccd cl outer).deeper (envOf qual escSc L' f cdv)) (exec (ifE c d p1 p2 p3 p4 p5 p6 p7 p8 p9 p10 p11) (envOf qual escSc L' f cdv)) Q E s :=
  esc_cut F rfl (esc_if0 w mean mg mb x c d t p1 p2 p3 p4 p5 p6 p7 p8 p9 p10 p11 qual f cdv dp un gd cn cs L a ccd cl outer g L' m s s.heap s.toks E base B X T hdp hu F hp hc hd hcd hl htk0) fun t' h' tk' ht F' => h t' h' tk' ht (by
    have e : (fun y => if y = Str.ofString "text" then some (Value.str (esub x c d) t') else kstB m [(Str.ofString "text", .str x t)] y) = kstB m [(Str.ofString "text", .str (esub x c d) t')] := funext fun y => by
      by_cases q : y = Str.ofString "text"
      · subst q; rfl
      · rw [if_neg q]; simp only [kstB, if_neg q]
    rw [e] at F'; exact F')
noncomputable def escs0 : List (String × String) := [("&", "&amp;"), ("<", "&lt;"), (">", "&gt;")]
theorem esc0_c (w : World) (mean) (mg mb) (x : Str) (t : Tok) : ClmN 0 1 w mean mg mb 158 (x.length ≤ 16) [.str x t] (fun t => .str (escS x escs0) t) := by
  k_with_none
  (k_with "exec If" => (k_here; k_dflt (refine esc_go (by k_asm) (by k_asm) (by k_asm) (by assumption) (by assumption) (by k_asm) rfl rfl (by decide) (by decide) (by (refine one_mul_le ?_; (repeat (refine esub_mul ?_ (by decide))); omega)) (by first | assumption | (dsimp only; omega)) ?_); intro t' h' tk' htk' F'; (have N' := nilOf' F'); (try dsimp only)))
  (k_with "execs cons" => (k_here; refine wpAny_execs_cons ?_))
  (k_with "execs nil" => (k_here; refine wpAny_execs_nil ?_))
  (try delta Clm); delta ClmN
  k_fill
  intros
  rename_i hret
  refine wpAny_call ?_
  k_dflt (refine' enterZ ?k1 ?k2 ?k3 ?k5 ?kA ?kF ?kK ?k6 ?k7 ?k8 ?k9 ?kB ?_ ?c2 ?c3 ?c4 ?c5; (case kA => exact rfl); (case kF => exact rfl); (case kK => assumption); (case k1 => k_asm); (case k2 => k_asm); (case k3 => k_asm); (case k5 => k_asm); (case k6 => k_is); (case k7 => k_is); (case k8 => ktr_room); (case k9 => exact BindsTo.of_eq rfl); (case c5 => decide); (case kB => exact locs rfl); (case c2 => exact rfl); (case c3 => exact rfl); (case c4 => exact rfl); k_whole; intro g' L' h' FG' F' N' B' X' T'; (try dsimp only); (try k_lift B'); (try k_fold))
  obtain ⟨m9, F9⟩ := fr_kstE (ps := [(Str.ofString "text", .str x t)]) F' (List.forall_mem_cons.mpr ⟨rfl, fun _ q => nomatch q⟩)
  clear F'
  (refine tk_lift (by first | decide | (with_unfolding_all exact Nat.le_refl 1)) ?_; intro tk0 htk0)
  k_steps
  all_goals (first | done | exact hret _ _ _ (by assumption) (by assumption))
noncomputable def escs1 : List (String × String) := [("&", "&amp;"), ("<", "&lt;"), (">", "&gt;"), ("\"", "&quot;"), ("\r", "&#13;"), ("\n", "&#10;"), ("\t", "&#09;")]
theorem esc1_c (w : World) (mean) (mg mb) (x : Str) (t : Tok) : ClmN 0 1 w mean mg mb 165 (x.length ≤ 16) [.str x t] (fun t => .str (escS x escs1) t) := by
  k_with_none
  (k_with "exec If" => (k_here; k_dflt (refine esc_go (by k_asm) (by k_asm) (by k_asm) (by assumption) (by assumption) (by k_asm) rfl rfl (by decide) (by decide) (by (refine one_mul_le ?_; (repeat (refine esub_mul ?_ (by decide))); omega)) (by first | assumption | (dsimp only; omega)) ?_); intro t' h' tk' htk' F'; (have N' := nilOf' F'); (try dsimp only)))
  (k_with "execs cons" => (k_here; refine wpAny_execs_cons ?_))
  (k_with "execs nil" => (k_here; refine wpAny_execs_nil ?_))
  (try delta Clm); delta ClmN
  k_fill
  intros
  rename_i hret
  refine wpAny_call ?_
  k_dflt (refine' enterZ ?k1 ?k2 ?k3 ?k5 ?kA ?kF ?kK ?k6 ?k7 ?k8 ?k9 ?kB ?_ ?c2 ?c3 ?c4 ?c5; (case kA => exact rfl); (case kF => exact rfl); (case kK => assumption); (case k1 => k_asm); (case k2 => k_asm); (case k3 => k_asm); (case k5 => k_asm); (case k6 => k_is); (case k7 => k_is); (case k8 => ktr_room); (case k9 => exact BindsTo.of_eq rfl); (case c5 => decide); (case kB => exact locs rfl); (case c2 => exact rfl); (case c3 => exact rfl); (case c4 => exact rfl); k_whole; intro g' L' h' FG' F' N' B' X' T'; (try dsimp only); (try k_lift B'); (try k_fold))
  obtain ⟨m9, F9⟩ := fr_kstE (ps := [(Str.ofString "text", .str x t)]) F' (List.forall_mem_cons.mpr ⟨rfl, fun _ q => nomatch q⟩)
  clear F'
  (refine tk_lift (by first | decide | (with_unfolding_all exact Nat.le_refl 1)) ?_; intro tk0 htk0)
  k_steps
  all_goals (first | done | exact hret _ _ _ (by assumption) (by assumption))
noncomputable def escs2 : List (String × String) := [("&", "&amp;"), (">", "&gt;"), ("\"", "&quot;")]
theorem esc2_c (w : World) (mean) (mg mb) (x : Str) (t : Tok) : ClmN 0 1 w mean mg mb 172 (x.length ≤ 16) [.str x t] (fun t => .str (escS x escs2) t) := by
  k_with_none
  (k_with "exec If" => (k_here; k_dflt (refine esc_go (by k_asm) (by k_asm) (by k_asm) (by assumption) (by assumption) (by k_asm) rfl rfl (by decide) (by decide) (by (refine one_mul_le ?_; (repeat (refine esub_mul ?_ (by decide))); omega)) (by first | assumption | (dsimp only; omega)) ?_); intro t' h' tk' htk' F'; (have N' := nilOf' F'); (try dsimp only)))
  (k_with "execs cons" => (k_here; refine wpAny_execs_cons ?_))
  (k_with "execs nil" => (k_here; refine wpAny_execs_nil ?_))
  (try delta Clm); delta ClmN
  k_fill
  intros
  rename_i hret
  refine wpAny_call ?_
  k_dflt (refine' enterZ ?k1 ?k2 ?k3 ?k5 ?kA ?kF ?kK ?k6 ?k7 ?k8 ?k9 ?kB ?_ ?c2 ?c3 ?c4 ?c5; (case kA => exact rfl); (case kF => exact rfl); (case kK => assumption); (case k1 => k_asm); (case k2 => k_asm); (case k3 => k_asm); (case k5 => k_asm); (case k6 => k_is); (case k7 => k_is); (case k8 => ktr_room); (case k9 => exact BindsTo.of_eq rfl); (case c5 => decide); (case kB => exact locs rfl); (case c2 => exact rfl); (case c3 => exact rfl); (case c4 => exact rfl); k_whole; intro g' L' h' FG' F' N' B' X' T'; (try dsimp only); (try k_lift B'); (try k_fold))
  obtain ⟨m9, F9⟩ := fr_kstE (ps := [(Str.ofString "text", .str x t)]) F' (List.forall_mem_cons.mpr ⟨rfl, fun _ q => nomatch q⟩)
  clear F'
  (refine tk_lift (by first | decide | (with_unfolding_all exact Nat.le_refl 1)) ?_; intro tk0 htk0)
  k_steps
  all_goals (first | done | exact hret _ _ _ (by assumption) (by assumption))
noncomputable def escs3 : List (String × String) := [("&", "&amp;"), ("<", "&lt;"), (">", "&gt;"), ("\r", "&#xD;")]
theorem esc3_c (w : World) (mean) (mg mb) (x : Str) (t : Tok) : ClmN 0 1 w mean mg mb 179 (x.length ≤ 16) [.str x t] (fun t => .str (escS x escs3) t) := by
  k_with_none
  (k_with "exec If" => (k_here; k_dflt (refine esc_go (by k_asm) (by k_asm) (by k_asm) (by assumption) (by assumption) (by k_asm) rfl rfl (by decide) (by decide) (by (refine one_mul_le ?_; (repeat (refine esub_mul ?_ (by decide))); omega)) (by first | assumption | (dsimp only; omega)) ?_); intro t' h' tk' htk' F'; (have N' := nilOf' F'); (try dsimp only)))
  (k_with "execs cons" => (k_here; refine wpAny_execs_cons ?_))
  (k_with "execs nil" => (k_here; refine wpAny_execs_nil ?_))
  (try delta Clm); delta ClmN
  k_fill
  intros
  rename_i hret
  refine wpAny_call ?_
  k_dflt (refine' enterZ ?k1 ?k2 ?k3 ?k5 ?kA ?kF ?kK ?k6 ?k7 ?k8 ?k9 ?kB ?_ ?c2 ?c3 ?c4 ?c5; (case kA => exact rfl); (case kF => exact rfl); (case kK => assumption); (case k1 => k_asm); (case k2 => k_asm); (case k3 => k_asm); (case k5 => k_asm); (case k6 => k_is); (case k7 => k_is); (case k8 => ktr_room); (case k9 => exact BindsTo.of_eq rfl); (case c5 => decide); (case kB => exact locs rfl); (case c2 => exact rfl); (case c3 => exact rfl); (case c4 => exact rfl); k_whole; intro g' L' h' FG' F' N' B' X' T'; (try dsimp only); (try k_lift B'); (try k_fold))
  obtain ⟨m9, F9⟩ := fr_kstE (ps := [(Str.ofString "text", .str x t)]) F' (List.forall_mem_cons.mpr ⟨rfl, fun _ q => nomatch q⟩)
  clear F'
  (refine tk_lift (by first | decide | (with_unfolding_all exact Nat.le_refl 1)) ?_; intro tk0 htk0)
  k_steps
  all_goals (first | done | exact hret _ _ _ (by assumption) (by assumption))
noncomputable def escs4 : List (String × String) := [("&", "&amp;"), ("<", "&lt;"), ("\"", "&quot;"), ("\t", "&#x9;"), ("\n", "&#xA;"), ("\r", "&#xD;")]
theorem esc4_c (w : World) (mean) (mg mb) (x : Str) (t : Tok) : ClmN 0 1 w mean mg mb 186 (x.length ≤ 16) [.str x t] (fun t => .str (escS x escs4) t) := by
  k_with_none
  (k_with "exec If" => (k_here; k_dflt (refine esc_go (by k_asm) (by k_asm) (by k_asm) (by assumption) (by assumption) (by k_asm) rfl rfl (by decide) (by decide) (by (refine one_mul_le ?_; (repeat (refine esub_mul ?_ (by decide))); omega)) (by first | assumption | (dsimp only; omega)) ?_); intro t' h' tk' htk' F'; (have N' := nilOf' F'); (try dsimp only)))
  (k_with "execs cons" => (k_here; refine wpAny_execs_cons ?_))
  (k_with "execs nil" => (k_here; refine wpAny_execs_nil ?_))
  (try delta Clm); delta ClmN
  k_fill
  intros
  rename_i hret
  refine wpAny_call ?_
  k_dflt (refine' enterZ ?k1 ?k2 ?k3 ?k5 ?kA ?kF ?kK ?k6 ?k7 ?k8 ?k9 ?kB ?_ ?c2 ?c3 ?c4 ?c5; (case kA => exact rfl); (case kF => exact rfl); (case kK => assumption); (case k1 => k_asm); (case k2 => k_asm); (case k3 => k_asm); (case k5 => k_asm); (case k6 => k_is); (case k7 => k_is); (case k8 => ktr_room); (case k9 => exact BindsTo.of_eq rfl); (case c5 => decide); (case kB => exact locs rfl); (case c2 => exact rfl); (case c3 => exact rfl); (case c4 => exact rfl); k_whole; intro g' L' h' FG' F' N' B' X' T'; (try dsimp only); (try k_lift B'); (try k_fold))
  obtain ⟨m9, F9⟩ := fr_kstE (ps := [(Str.ofString "text", .str x t)]) F' (List.forall_mem_cons.mpr ⟨rfl, fun _ q => nomatch q⟩)
  clear F'
  (refine tk_lift (by first | decide | (with_unfolding_all exact Nat.le_refl 1)) ?_; intro tk0 htk0)
  k_steps
  all_goals (first | done | exact hret _ _ _ (by assumption) (by assumption))
end Mine
end
section
open PySem PySem.W PyProof.Rows PySem.Calls PySem.Spec
set_option Elab.async false
set_option maxRecDepth 100000
set_option maxHeartbeats 4000000
namespace Mine
theorem pow_bits {n : Int} (h : n ≤ 12) : Builtin.Int.intBits ((64 : Int) ^ n.toNat) ≤ 2 ^ 20 := by
  have h1 : (64 : Nat) ^ n.toNat ≤ 64 ^ 12 := Nat.pow_le_pow_right (by omega) (by omega)
  have h2 : (64 : Int) ^ n.toNat ≤ 64 ^ 12 := by exact_mod_cast h1
  exact Nat.le_trans (bits64 (k := 73) (Int.le_of_lt (Int.pow_pos (by omega))) (Int.lt_of_le_of_lt h2 (by decide))) (by decide)
theorem judged2_c (w : World) (mean) (mg mb) (row end' : Str) (t0 t u : Tok) (wv : Value) (R : Int) : ClmN 0 3 w mean mg mb 236 (row.length ≤ 12 ∧ varS (octs row) = some R ∧ 0 ≤ R ∧ R < 2 ^ 78) [.int 2 t0, .str row t, .str end' u, wv] (fun t => .int (R * 64 ^ (12 - (row.length : Int)).toNat) t) := by
  k_with_none
  (try delta Clm); delta ClmN
  k_fill
  intros
  rename_i hret
  refine wpAny_call ?_
  k_dflt (refine' enterZ ?k1 ?k2 ?k3 ?k5 ?kA ?kF ?kK ?k6 ?k7 ?k8 ?k9 ?kB ?_ ?c2 ?c3 ?c4 ?c5; (case kA => exact rfl); (case kF => exact rfl); (case kK => assumption); (case k1 => k_asm); (case k2 => k_asm); (case k3 => k_asm); (case k5 => k_asm); (case k6 => k_is); (case k7 => k_is); (case k8 => ktr_room); (case k9 => exact BindsTo.of_eq rfl); (case c5 => decide); (case kB => exact locs rfl); (case c2 => exact rfl); (case c3 => exact rfl); (case c4 => exact rfl); k_whole; intro g' L' h' FG' F' N' B' X' T'; (try dsimp only); (try k_lift B'); (try k_fold))
  rename (_ ∧ _) => hpre
  obtain ⟨hl1, hl2, hl3, hl4⟩ := hpre
  (k_with "call ref" => (k_dflt (refine' (number_c _ _ _ _ _ _ R).use ?k1 ?k2 ?k3 ?k4 ?k5 ?kK ?kp ?kd ?ku ?kt ?_; (case k1 => k_asm); (case k2 => k_asm); (case k3 => k_asm); (case k4 => k_asm); (case k5 => k_asm); (case kK => first | exact rfl | assumption); (case kp => exact ⟨hl1, hl2⟩); (case kd => ktr_room); (case ku => ktr_units); (case kt => exact Nat.zero_le _)); intro t9 h9 tk9 ht9 kp9 F9 N9; (try dsimp only); (try k_fold)))
  (k_with "binaryOp Mult int int" => (refine mul_int ?_ (IntMulOk.of_bits (Nat.le_trans (bits64 hl3 hl4) (by decide)) (pow_bits (by omega)))))
  k_steps
  all_goals (first | done | exact hret _ _ _ (by assumption) (by assumption) | w_report)
end Mine
end
section
open PySem PySem.W PyProof.Rows PySem.Calls PySem.Spec
set_option Elab.async false
set_option maxRecDepth 100000
set_option maxHeartbeats 4000000
namespace Mine
noncomputable def forBody : Stmt → List Stmt
  | .For _ _ b _ _ => b
  | _ => []
noncomputable def ordT (row : Str) (k : Nat) : Int := (((Txt.item row (k : Int)).cps.getD 0 0 : Nat) : Int) * 64 ^ ((row.length : Int) - (k : Int)).toNat
noncomputable def OrdG (row : Str) (v y : Value) : Prop := ∃ k : Nat, (∃ t, v = .int k t) ∧ ∃ t, y = .int (ordT row k) t
theorem ord_ints {row : Str} : ∀ (vs : List Value) (k : Nat) (ys : List Value), (∀ (j : Nat) v, vs[j]? = some v → ∃ t, v = .int ((k + j : Nat) : Int) t) → Paired (OrdG row) vs ys → IntsAre ys ((List.range' k vs.length).map (ordT row))
  | [], k, ys, _, h => by cases h; exact .nil
  | v :: r, k, ys, hv, h => by
    obtain ⟨t, rfl⟩ := hv 0 v rfl
    have hr : ∀ (j : Nat) v, r[j]? = some v → ∃ t, v = .int ((k + 1 + j : Nat) : Int) t := fun j v e => by
      obtain ⟨t, q⟩ := hv (j + 1) v (by simpa using e)
      exact ⟨t, by rw [q, show k + (j + 1) = k + 1 + j by omega]⟩
    rw [List.length_cons, List.range'_succ, List.map_cons]
    cases h with
    | cons a b =>
      obtain ⟨k', ⟨t1, e1⟩, t2, rfl⟩ := a
      have ek : k = k' := by injection e1 with e1 _; omega
      subst ek
      exact .cons _ _ (ord_ints r (k + 1) _ hr b)
theorem item_code {row : Str} (h : Sig row) {i : Nat} (hi : i < row.length) : (Txt.item row (i : Int)).cps.getD 0 0 = 46 ∨ (Txt.item row (i : Int)).cps.getD 0 0 = 9 := by
  have e : seqIndex? (i : Int) row.length = some i := by simp [seqIndex?]; omega
  have hs : row.cps.size = row.length := rfl
  have e2 : (Txt.item row (i : Int)).cps.getD 0 0 = row.cps[i]'(by rw [hs]; exact hi) := by
    simp [Txt.item, Txt.charAt, e, hi, hs]
  rw [e2]
  exact h _ (by simp)
theorem code_bits {row : Str} (h : Sig row) {i : Nat} (hi : i < row.length) : Builtin.Int.intBits (((Txt.item row (i : Int)).cps.getD 0 0 : Nat) : Int) ≤ 2 ^ 20 := by
  rcases item_code h hi with e | e <;> (rw [e]; decide)
theorem sm_range {n : Nat} (h : n ≤ 12) : Builtin.Range.small 0 (n : Int) 1 = true ∧ Builtin.Range.rangeSize 0 (n : Int) 1 = (n : Int) := rng1 h
noncomputable def escsK : Nat → List (String × String)
  | 0 => escs0 | 1 => escs1 | 2 => escs2 | 3 => escs3 | _ => escs4
theorem esc_any (w : World) (mean) (mg mb) (k : Nat) (x : Str) (t : Tok) : ClmN 0 1 w mean mg mb (escAd k) (k < 5 ∧ x.length ≤ 16) [.str x t] (fun t => .str (escS x (escsK k)) t) := by
  intro dp un gd cn cs a ccd cl outer A₀ base h₀ L m s Q E B F X T hk hp hd hu ht hret
  obtain ⟨h5, hl⟩ := hp
  match k, h5 with
  | 0, _ => exact esc0_c w mean mg mb x t dp un gd cn cs a ccd cl outer A₀ base h₀ L m s Q E B F X T hk hl hd hu ht hret
  | 1, _ => exact esc1_c w mean mg mb x t dp un gd cn cs a ccd cl outer A₀ base h₀ L m s Q E B F X T hk hl hd hu ht hret
  | 2, _ => exact esc2_c w mean mg mb x t dp un gd cn cs a ccd cl outer A₀ base h₀ L m s Q E B F X T hk hl hd hu ht hret
  | 3, _ => exact esc3_c w mean mg mb x t dp un gd cn cs a ccd cl outer A₀ base h₀ L m s Q E B F X T hk hl hd hu ht hret
  | 4, _ => exact esc4_c w mean mg mb x t dp un gd cn cs a ccd cl outer A₀ base h₀ L m s Q E B F X T hk hl hd hu ht hret
theorem esc_isFn (w : World) {k : Nat} (h : k < 5) : keepIn (hdA.heap_1_1 w.params) (.ref (escAd k)) = true := by
  match k, h with
  | 0, _ => rfl
  | 1, _ => rfl
  | 2, _ => rfl
  | 3, _ => rfl
  | 4, _ => rfl
theorem sum_le {B : Nat} : ∀ {l : List Str}, (∀ y ∈ l, y.length ≤ B) → (l.map (·.length)).sum ≤ B * l.length
  | [], _ => Nat.zero_le _
  | a :: r, h => by
    have h1 := h a (.head _)
    have h2 := sum_le (l := r) fun y hy => h y (.tail _ hy)
    rw [List.map_cons, List.sum_cons, List.length_cons, Nat.mul_succ]; omega
noncomputable def sigsS (row : Str) : List Str := row.cps.toList.map fun c => ⟨#[c]⟩
theorem strs_of_get : ∀ {vs : List Value} {l : List Str}, vs.length = l.length → (∀ (j : Nat) v, vs[j]? = some v → ∃ x t, l[j]? = some x ∧ v = .str x t) → StrsAre vs l
  | [], [], _, _ => .nil
  | [], _ :: _, h, _ => by simp at h
  | _ :: _, [], h, _ => by simp at h
  | v :: r, x :: l, h, hv => by
    obtain ⟨y, t, a, rfl⟩ := hv 0 v rfl
    have : x = y := by simpa using a
    subst this
    exact .cons _ _ (strs_of_get (by simpa using h) fun j v e => by simpa using hv (j + 1) v (by simpa using e))
theorem sig_strs {row : Str} {vs : List Value} (hl : vs.length = row.cps.size) (hP : ∀ (j : Nat) v, vs[j]? = some v → PySem.SignAt row j v) : StrsAre vs (sigsS row) := by
  refine strs_of_get (by simpa [sigsS] using hl) fun j v hv => ?_
  obtain ⟨c, t, a, b⟩ := hP j v hv
  exact ⟨_, t, by simp [sigsS, a], b⟩
noncomputable def tabF (tb x : Str) : Str := if x = Str.ofString "\t" then tb else x
noncomputable def leastI (v : Int) : Int := if -(-v).fdiv 1024 > 0 then -(-v).fdiv 1024 else 0
theorem sub0 : ∀ (w : World) (mean : ExcName → Option Value) (mg mb : Str → Option Value) (g : Heap) (L fa : Addr) (cd : Value) (X : (hdA.heap_1_1 w.params).In g) (T : Top topProg lsT mean mg mb g) (B : Below callerA g [] g) (h245 : 245 < L) (m : Str → Option Value) (s : Shared) (Q : Flow → Shared → Prop) (E : Value → Shared → Prop)
    (o5 o4 : Obj) (rest : List (Addr × Obj)) (N : News g L s.heap ((L + 1 + 1 + 1 + 1 + 1, o5) :: (L + 1 + 1 + 1 + 1, o4) :: rest)) (v : Int) (tv : Tok) (F : Fr g L s.heap (kstB m [(Str.ofString "worth", .int v tv)])) (hv : -100000 ≤ v ∧ v ≤ 100000)
    (hQ : ∀ h' tk t, Fr g L h' (fun z => if z = Str.ofString "least" then some (.int (leastI v) t) else kstB m [(Str.ofString "worth", .int v tv)] z) → News g L h' ((L + 1 + 1 + 1 + 1 + 1, o5) :: (L + 1 + 1 + 1 + 1, o4) :: rest) → Q .next { s with heap := h', toks := tk }),
    wpAny (model PySem.Challenge.rw_tc0048_01.row.prog w) (lawA (lawS w) L fa cd) (exec (nth (forBody (nth (lawB w) 11)) 0) (lawE (lawS w) L fa cd)) Q E s := by
  k_with_none
  k_fill
  intro w mean mg mb g L fa cd X T B h245 m s Q E o5 o4 rest N v tv F hv hQ
  refine cut_law (P := fun body scope => wpAny (model PySem.Challenge.rw_tc0048_01.row.prog w) (lawA scope L fa cd) (exec (nth (forBody (nth body 11)) 0) (lawE scope L fa cd)) Q E s) (by k_is) ?_
  simp only [nth, forBody]
  delta lawE lawA
  obtain ⟨hv0, hv1⟩ := hv
  k_steps
  rename News _ _ _ _ => nE
  exact hQ _ _ _ (by assumption) nE
theorem sub1 : ∀ (w : World) (mean : ExcName → Option Value) (mg mb : Str → Option Value) (g : Heap) (L fa : Addr) (cd : Value) (X : (hdA.heap_1_1 w.params).In g) (T : Top topProg lsT mean mg mb g) (B : Below callerA g [] g) (h245 : 245 < L) (m : Str → Option Value) (s : Shared) (Q : Flow → Shared → Prop) (E : Value → Shared → Prop)
    (o5 o4 : Obj) (rest : List (Addr × Obj)) (N : News g L s.heap ((L + 1 + 1 + 1 + 1 + 1, o5) :: (L + 1 + 1 + 1 + 1, o4) :: rest)) (v : Int) (tv : Tok) (row : Str) (tr : Tok) (F : Fr g L s.heap (kstB m [(Str.ofString "least", .int v tv)])) (d5 : o5.data = .cell (some (.str row tr))) (hv : 0 ≤ v ∧ v ≤ 100) (hrow : row.length ≤ 12) (hsig : Sig row)
    (hfr : frontL row.cps.toList = (List.replicate (v.fdiv 3).toNat [52]).flatten ++ (List.replicate (v.fmod 3).toNat [23]).flatten)
    (hQ : ∀ h' tk, Fr g L h' (kstB m [(Str.ofString "least", .int v tv)]) → News g L h' ((L + 1 + 1 + 1 + 1 + 1, o5) :: (L + 1 + 1 + 1 + 1, o4) :: rest) → Q .next { s with heap := h', toks := tk }),
    wpAny (model PySem.Challenge.rw_tc0048_01.row.prog w) (lawA (lawS w) L fa cd) (exec (nth (forBody (nth (lawB w) 11)) 1) (lawE (lawS w) L fa cd)) Q E s := by
  k_with_none
  (k_with "call ref" => (k_here; (with_reducible show wpAny _ _ (call (Value.ref 219) [Value.str _ _]) _ _ _); k_dflt (refine' (front_c _ _ _ _ _ _).use ?k1 ?k2 ?k3 ?k4 ?k5 ?kK ?kp ?kd ?ku ?_; (case k1 => k_asm); (case k2 => k_asm); (case k3 => k_asm); (case k4 => k_asm); (case k5 => k_asm); (case kK => first | exact rfl | assumption); (case kp => (constructor <;> assumption)); (case kd => ktr_room); (case ku => ktr_units)); intro D9 ys9 k9 h9 tk9 kp9 F9 N9 i9 ne9; (try dsimp only); (try k_fold)))
  k_fill
  intro w mean mg mb g L fa cd X T B h245 m s Q E o5 o4 rest N v tv row tr F d5 hv hrow hsig hfr hQ
  refine cut_law (P := fun body scope => wpAny (model PySem.Challenge.rw_tc0048_01.row.prog w) (lawA scope L fa cd) (exec (nth (forBody (nth body 11)) 1) (lawE scope L fa cd)) Q E s) (by k_is) ?_
  simp only [nth, forBody]
  delta lawE lawA
  obtain ⟨hv0, hv1⟩ := hv
  k_steps
  · rename News _ _ _ _ => nE
    exact hQ _ _ (by assumption) (fun p hp => nE p (by repeat (first | exact hp | apply List.Mem.tail)))
theorem sub2 : ∀ (w : World) (mean : ExcName → Option Value) (mg mb : Str → Option Value) (g : Heap) (L fa : Addr) (cd : Value) (X : (hdA.heap_1_1 w.params).In g) (T : Top topProg lsT mean mg mb g) (B : Below callerA g [] g) (h245 : 245 < L) (m : Str → Option Value) (s : Shared) (Q : Flow → Shared → Prop) (E : Value → Shared → Prop)
    (o5 o4 : Obj) (rest : List (Addr × Obj)) (N : News g L s.heap ((L + 1 + 1 + 1 + 1 + 1, o5) :: (L + 1 + 1 + 1 + 1, o4) :: rest)) (v : Int) (tv : Tok) (row : Str) (tr : Tok) (F : Fr g L s.heap (kstB m [(Str.ofString "worth", .int v tv)])) (d5 : o5.data = .cell (some (.str row tr))) (hv : -100000 ≤ v ∧ v ≤ 100000) (hrow : row.length ≤ 12) (htl : (tailL row).length ≤ 5)
    (hfl : flagS (v.fmod 1024) = figS row)
    (hQ : ∀ h' tk, Fr g L h' (kstB m [(Str.ofString "worth", .int v tv)]) → News g L h' ((L + 1 + 1 + 1 + 1 + 1, o5) :: (L + 1 + 1 + 1 + 1, o4) :: rest) → Q .next { s with heap := h', toks := tk }),
    wpAny (model PySem.Challenge.rw_tc0048_01.row.prog w) (lawA (lawS w) L fa cd) (exec (nth (forBody (nth (lawB w) 11)) 2) (lawE (lawS w) L fa cd)) Q E s := by
  k_with_none
  (k_with "call ref" => (k_here; (with_reducible show wpAny _ _ (call (Value.ref 219) [Value.str _ _]) _ _ _); k_dflt (refine' (front_c _ _ _ _ _ _).use ?k1 ?k2 ?k3 ?k4 ?k5 ?kK ?kp ?kd ?ku ?_; (case k1 => k_asm); (case k2 => k_asm); (case k3 => k_asm); (case k4 => k_asm); (case k5 => k_asm); (case kK => first | exact rfl | assumption); (case kp => (constructor <;> assumption)); (case kd => ktr_room); (case ku => ktr_units)); intro D9 ys9 k9 h9 tk9 kp9 F9 N9 i9 ne9; (try dsimp only); (try k_fold)))
  (k_with "call ref" => (k_here; (with_reducible show wpAny _ _ (call (Value.ref 39) [Value.int _ _]) _ _ _); k_dflt (refine' (flags_c _ _ _ _ _ _).use ?k1 ?k2 ?k3 ?k4 ?k5 ?kK ?kp ?kd ?ku ?kt ?_; (case k1 => k_asm); (case k2 => k_asm); (case k3 => k_asm); (case k4 => k_asm); (case k5 => k_asm); (case kK => first | exact rfl | assumption); (case kp => exact (by assumption)); (case kd => ktr_room); (case ku => ktr_units); (case kt => first | exact Nat.zero_le _ | assumption | (dsimp only; omega)); intro t9 h9 tk9 ht9 kp9 F9 N9; (try dsimp only); (try k_fold))))
  (k_with "call ref" => (k_here; (with_reducible show wpAny _ _ (call (Value.ref 224) [Value.str _ _]) _ _ _); k_dflt (refine' (figures_c _ _ _ _ _ _).use ?k1 ?k2 ?k3 ?k4 ?k5 ?kK ?kp ?kd ?ku ?kt ?_; (case k1 => k_asm); (case k2 => k_asm); (case k3 => k_asm); (case k4 => k_asm); (case k5 => k_asm); (case kK => first | exact rfl | assumption); (case kp => (constructor <;> assumption)); (case kd => ktr_room); (case ku => ktr_units); (case kt => first | exact Nat.zero_le _ | assumption | (dsimp only; omega)); intro t9 h9 tk9 ht9 kp9 F9 N9; (try dsimp only); (try k_fold))))
  k_fill
  intro w mean mg mb g L fa cd X T B h245 m s Q E o5 o4 rest N v tv row tr F d5 hv hrow htl hfl hQ
  refine cut_law (P := fun body scope => wpAny (model PySem.Challenge.rw_tc0048_01.row.prog w) (lawA scope L fa cd) (exec (nth (forBody (nth body 11)) 2) (lawE scope L fa cd)) Q E s) (by k_is) ?_
  simp only [nth, forBody]
  delta lawE lawA
  obtain ⟨hv0, hv1⟩ := hv
  have hfm : 0 ≤ v.fmod 1024 ∧ v.fmod 1024 < 1024 := fm_in v 1024 (by decide)
  k_steps
  · rename (_ != _) = true => hne9
    rw [hfl] at hne9
    exact absurd hne9 (by simp)
  · rename News _ _ _ _ => nE
    exact hQ _ _ (by assumption) nE
theorem sub3 : ∀ (w : World) (mean : ExcName → Option Value) (mg mb : Str → Option Value) (g : Heap) (L fa : Addr) (cd : Value) (X : (hdA.heap_1_1 w.params).In g) (T : Top topProg lsT mean mg mb g) (B : Below callerA g [] g) (h245 : 245 < L) (m : Str → Option Value) (s : Shared) (Q : Flow → Shared → Prop) (E : Value → Shared → Prop)
    (o5 o4 : Obj) (rest : List (Addr × Obj)) (N : News g L s.heap ((L + 1 + 1 + 1 + 1 + 1, o5) :: (L + 1 + 1 + 1 + 1, o4) :: rest)) (row : Str) (tr : Tok) (R : Int) (F : Fr g L s.heap m) (d5 : o5.data = .cell (some (.str row tr))) (hrow : row.length ≤ 12) (hR : varS (octs row) = some R) (hsig : Sig row) (hsum : R = 13 + ((List.range' 0 row.length).map (ordT row)).sum)
    (hQ : ∀ h' tk, Fr g L h' m → News g L h' ((L + 1 + 1 + 1 + 1 + 1, o5) :: (L + 1 + 1 + 1 + 1, o4) :: rest) → Q .next { s with heap := h', toks := tk }),
    wpAny (model PySem.Challenge.rw_tc0048_01.row.prog w) (lawA (lawS w) L fa cd) (exec (nth (forBody (nth (lawB w) 11)) 3) (lawE (lawS w) L fa cd)) Q E s := by
  k_with_none
  (k_with "call ref" => (k_here; (with_reducible show wpAny _ _ (call (Value.ref 219) [Value.str _ _]) _ _ _); k_dflt (refine' (front_c _ _ _ _ _ _).use ?k1 ?k2 ?k3 ?k4 ?k5 ?kK ?kp ?kd ?ku ?_; (case k1 => k_asm); (case k2 => k_asm); (case k3 => k_asm); (case k4 => k_asm); (case k5 => k_asm); (case kK => first | exact rfl | assumption); (case kp => (constructor <;> assumption)); (case kd => ktr_room); (case ku => ktr_units)); intro D9 ys9 k9 h9 tk9 kp9 F9 N9 i9 ne9; (try dsimp only); (try k_fold)))
  (k_with "call ref" => (k_here; (with_reducible show wpAny _ _ (call (Value.ref 39) [Value.int _ _]) _ _ _); k_dflt (refine' (flags_c _ _ _ _ _ _).use ?k1 ?k2 ?k3 ?k4 ?k5 ?kK ?kp ?kd ?ku ?kt ?_; (case k1 => k_asm); (case k2 => k_asm); (case k3 => k_asm); (case k4 => k_asm); (case k5 => k_asm); (case kK => first | exact rfl | assumption); (case kp => exact (by assumption)); (case kd => ktr_room); (case ku => ktr_units); (case kt => first | exact Nat.zero_le _ | assumption | (dsimp only; omega)); intro t9 h9 tk9 ht9 kp9 F9 N9; (try dsimp only); (try k_fold))))
  (k_with "call ref" => (k_here; (with_reducible show wpAny _ _ (call (Value.ref 224) [Value.str _ _]) _ _ _); k_dflt (refine' (figures_c _ _ _ _ _ _).use ?k1 ?k2 ?k3 ?k4 ?k5 ?kK ?kp ?kd ?ku ?kt ?_; (case k1 => k_asm); (case k2 => k_asm); (case k3 => k_asm); (case k4 => k_asm); (case k5 => k_asm); (case kK => first | exact rfl | assumption); (case kp => (constructor <;> assumption)); (case kd => ktr_room); (case ku => ktr_units); (case kt => first | exact Nat.zero_le _ | assumption | (dsimp only; omega)); intro t9 h9 tk9 ht9 kp9 F9 N9; (try dsimp only); (try k_fold))))
  (k_with "call ref" => (k_here; (with_reducible show wpAny _ _ (call (Value.ref 229) [Value.str _ _]) _ _ _); k_dflt (refine' (number_c _ _ _ _ _ _ _).use ?k1 ?k2 ?k3 ?k4 ?k5 ?kK ?kp ?kd ?ku ?kt ?_; (case k1 => k_asm); (case k2 => k_asm); (case k3 => k_asm); (case k4 => k_asm); (case k5 => k_asm); (case kK => first | exact rfl | assumption); (case kp => (constructor <;> assumption)); (case kd => ktr_room); (case ku => ktr_units); (case kt => first | exact Nat.zero_le _ | assumption | (dsimp only; omega)); intro t9 h9 tk9 ht9 kp9 F9 N9; (try dsimp only); (try k_fold))))
  (k_with "eval ListComp" => (k_here; refine stop_here ?_))
  k_fill
  intro w mean mg mb g L fa cd X T B h245 m s Q E o5 o4 rest N row tr R F d5 hrow hR hsig hsum hQ
  refine cut_law (P := fun body scope => wpAny (model PySem.Challenge.rw_tc0048_01.row.prog w) (lawA scope L fa cd) (exec (nth (forBody (nth body 11)) 3) (lawE scope L fa cd)) Q E s) (by k_is) ?_
  simp only [nth, forBody]
  delta lawE lawA
  k_steps
  delta Stop
  obtain ⟨n9, hn9⟩ : ∃ n : Nat, row.length = n := ⟨_, rfl⟩
  refine CGo.use (fun _ => true) (OrdG row) (by k_asm) (by with_unfolding_all rfl) (by decide) (by rfl) (by decide) (by rfl) ?_
  k_steps
  rename IsRange _ _ _ _ _ _ _ _ => hR9
  dsimp only at hR9
  rw [hn9] at hR9
  have hr9 := sm_range (n := n9) (by omega)
  refine ⟨_, n9, _, by k_asm, by k_asm, ?hsz, iter_lt (iter_range rfl hR9 hr9.1 hr9.2), ?tests, ?elts, ?fin⟩
  case hsz => rw [sizeLine_eq]; omega
  case tests => intro i v hP C oC m₃ s₃ hC hx ht F3 N3 E'; exact wpAny_pure ⟨rfl, ⟨_, _, rfl, fun _ _ e => e⟩⟩
  case elts =>
    intro i v hP hp C oC m₃ s₃ hC hx ht F3 N3 E'
    obtain ⟨hi, tv, rfl⟩ := hP
    rw [Int.zero_add, Int.mul_one] at hx ⊢
    have hb9 := code_bits hsig (i := i) (by omega)
    (k_with "binaryOp Mult int int" => (refine mul_int ?_ (IntMulOk.of_bits hb9 (pow_bits (by omega)))))
    k_steps
    all_goals (first | exact ⟨i, ⟨_, rfl⟩, _, rfl⟩ | exact ⟨_, _, rfl, fun _ _ e => e⟩)
  case fin =>
    intro D5 h tk ws vs k5 F5 N5 hne hlen hP hpair
    rw [all_in] at hpair
    have hI5 := ord_ints vs 0 _ (fun j v hv => by obtain ⟨_, t, q⟩ := hP j v hv; exact ⟨t, by rw [q]; congr 1; omega⟩) hpair
    rw [hlen, ← hn9] at hI5
    (try dsimp only)
    k_steps
    · exact absurd hsum (by assumption)
    · rename News _ _ _ _ => nE
      exact hQ _ _ (by assumption) (fun p hp => nE p (by repeat (first | exact hp | apply List.Mem.tail)))
theorem sub4 : ∀ (w : World) (mean : ExcName → Option Value) (mg mb : Str → Option Value) (g : Heap) (L fa : Addr) (cd : Value) (X : (hdA.heap_1_1 w.params).In g) (T : Top topProg lsT mean mg mb g) (B : Below callerA g [] g) (h245 : 245 < L) (m : Str → Option Value) (s : Shared) (Q : Flow → Shared → Prop) (E : Value → Shared → Prop)
    (o5 o4 : Obj) (rest : List (Addr × Obj)) (N : News g L s.heap ((L + 1 + 1 + 1 + 1 + 1, o5) :: (L + 1 + 1 + 1 + 1, o4) :: rest)) (kw : Nat) (row : Str) (tr t4 tcl : Tok) (tb cl : Str) (F : Fr g L s.heap (kstB m [(Str.ofString "write", .ref (escAd kw)), (Str.ofString "close", .str cl tcl)])) (d5 : o5.data = .cell (some (.str row tr))) (d4 : o4.data = .cell (some (.str tb t4))) (hkw : kw < 5) (hrow : row.length ≤ 12) (htb : tb.length ≤ 6) (hcl : cl.length ≤ 10)
    (hes : escS (row ++ Str.ofString "\r\n") (escsK kw) = Txt.join (Str.ofString "") ((sigsS row).map (tabF tb)) ++ cl)
    (hQ : ∀ h' tk, Fr g L h' (kstB m [(Str.ofString "write", .ref (escAd kw)), (Str.ofString "close", .str cl tcl)]) → News g L h' ((L + 1 + 1 + 1 + 1 + 1, o5) :: (L + 1 + 1 + 1 + 1, o4) :: rest) → Q .next { s with heap := h', toks := tk }),
    wpAny (model PySem.Challenge.rw_tc0048_01.row.prog w) (lawA (lawS w) L fa cd) (exec (nth (forBody (nth (lawB w) 11)) 4) (lawE (lawS w) L fa cd)) Q E s := by
  k_with_none
  (k_with "call ref" => (k_here; (with_reducible show wpAny _ _ (call (Value.ref 219) [Value.str _ _]) _ _ _); k_dflt (refine' (front_c _ _ _ _ _ _).use ?k1 ?k2 ?k3 ?k4 ?k5 ?kK ?kp ?kd ?ku ?_; (case k1 => k_asm); (case k2 => k_asm); (case k3 => k_asm); (case k4 => k_asm); (case k5 => k_asm); (case kK => first | exact rfl | assumption); (case kp => (constructor <;> assumption)); (case kd => ktr_room); (case ku => ktr_units)); intro D9 ys9 k9 h9 tk9 kp9 F9 N9 i9 ne9; (try dsimp only); (try k_fold)))
  (k_with "call ref" => (k_here; (with_reducible show wpAny _ _ (call (Value.ref 39) [Value.int _ _]) _ _ _); k_dflt (refine' (flags_c _ _ _ _ _ _).use ?k1 ?k2 ?k3 ?k4 ?k5 ?kK ?kp ?kd ?ku ?kt ?_; (case k1 => k_asm); (case k2 => k_asm); (case k3 => k_asm); (case k4 => k_asm); (case k5 => k_asm); (case kK => first | exact rfl | assumption); (case kp => exact (by assumption)); (case kd => ktr_room); (case ku => ktr_units); (case kt => first | exact Nat.zero_le _ | assumption | (dsimp only; omega)); intro t9 h9 tk9 ht9 kp9 F9 N9; (try dsimp only); (try k_fold))))
  (k_with "call ref" => (k_here; (with_reducible show wpAny _ _ (call (Value.ref 224) [Value.str _ _]) _ _ _); k_dflt (refine' (figures_c _ _ _ _ _ _).use ?k1 ?k2 ?k3 ?k4 ?k5 ?kK ?kp ?kd ?ku ?kt ?_; (case k1 => k_asm); (case k2 => k_asm); (case k3 => k_asm); (case k4 => k_asm); (case k5 => k_asm); (case kK => first | exact rfl | assumption); (case kp => (constructor <;> assumption)); (case kd => ktr_room); (case ku => ktr_units); (case kt => first | exact Nat.zero_le _ | assumption | (dsimp only; omega)); intro t9 h9 tk9 ht9 kp9 F9 N9; (try dsimp only); (try k_fold))))
  (k_with "call ref" => (k_here; (with_reducible show wpAny _ _ (call (Value.ref 229) [Value.str _ _]) _ _ _); k_dflt (refine' (number_c _ _ _ _ _ _ _).use ?k1 ?k2 ?k3 ?k4 ?k5 ?kK ?kp ?kd ?ku ?kt ?_; (case k1 => k_asm); (case k2 => k_asm); (case k3 => k_asm); (case k4 => k_asm); (case k5 => k_asm); (case kK => first | exact rfl | assumption); (case kp => (constructor <;> assumption)); (case kd => ktr_room); (case ku => ktr_units); (case kt => first | exact Nat.zero_le _ | assumption | (dsimp only; omega)); intro t9 h9 tk9 ht9 kp9 F9 N9; (try dsimp only); (try k_fold))))
  (k_with "eval ListComp" => (k_here; refine stop_here ?_))
  (k_with "call ref" => (k_here; (with_reducible show wpAny _ _ (call (Value.ref (escAd _)) [Value.str _ _]) _ _ _); k_dflt (refine' (esc_any _ _ _ _ _ _ _).use ?k1 ?k2 ?k3 ?k4 ?k5 ?kK ?kp ?kd ?ku ?kt ?_; (case k1 => k_asm); (case k2 => k_asm); (case k3 => k_asm); (case k4 => k_asm); (case k5 => k_asm); (case kK => first | exact rfl | assumption); (case kp => exact ⟨by assumption, by assumption⟩); (case kd => ktr_room); (case ku => ktr_units); (case kt => first | exact Nat.zero_le _ | assumption | (dsimp only; omega)); intro t9 h9 tk9 ht9 kp9 F9 N9; (try dsimp only); (try k_fold))))
  (k_with "callWith ref" => (k_here; (show wpAny _ _ (callWith _ (Value.ref (escAd _)) _ _ []) _ _ _); k_dflt (refine' callWith_K ?k1 ?k2 ?_; (case k1 => k_asm); (case k2 => exact esc_isFn _ (by assumption)); k_whole)))
  (k_with "callWith" => (k_here; (show wpAny _ _ (callWith _ (Value.ref (escAd _)) _ _ []) _ _ _); k_dflt (refine' callWith_K ?k1 ?k2 ?_; (case k1 => k_asm); (case k2 => exact esc_isFn _ (by assumption)); k_whole)))
  (k_with "eval ListComp" => (k_here; refine stop_here ?_))
  (k_with "call builtin:str.join" => (k_here; refine stop_here ?_))
  k_fill
  intro w mean mg mb g L fa cd X T B h245 m s Q E o5 o4 rest N kw row tr t4 tcl tb cl F d5 d4 hkw hrow htb hcl hes hQ
  refine cut_law (P := fun body scope => wpAny (model PySem.Challenge.rw_tc0048_01.row.prog w) (lawA scope L fa cd) (exec (nth (forBody (nth body 11)) 4) (lawE scope L fa cd)) Q E s) (by k_is) ?_
  simp only [nth, forBody]
  delta lawE lawA
  have hrn : (Str.ofString "\r\n").length = 2 := by decide
  have hrl : (row ++ Str.ofString "\r\n").length ≤ 16 := by
    rw [Str.length_append]; omega
  k_steps
  delta Stop
  refine CGo.use (fun _ => true) (MapG isS isS (tabF tb)) (by k_asm) (by with_unfolding_all rfl) (by decide) (by rfl) (by decide) (by rfl) ?_
  k_steps
  refine ⟨_, _, PySem.SignAt row, by k_asm, by k_asm, ?hsz, iter_str rfl, ?tests, ?elts, ?fin⟩
  case hsz => rw [sizeLine_eq]; exact Nat.le_trans hrow (by decide)
  case tests => intro i v hP C oC m₃ s₃ hC hx ht F3 N3 E'; exact wpAny_pure ⟨rfl, ⟨_, _, rfl, fun _ _ e => e⟩⟩
  case elts =>
    intro i v hP hp C oC m₃ s₃ hC hx ht F3 N3 E'
    obtain ⟨c, t', hc, rfl⟩ := hP
    k_steps
    all_goals (first | exact ⟨_, _, rfl, fun _ _ e => e⟩ | exact ⟨_, ⟨_, rfl⟩, _, by rw [tabF, if_pos (by simpa using (by assumption : (_ == Str.ofString "\t") = true))]⟩ | exact ⟨_, ⟨_, rfl⟩, _, by rw [tabF, if_neg (by simpa using (by assumption : (_ == Str.ofString "\t") = false))]⟩)
  case fin =>
    intro D5 h tk ws vs k5 F5 N5 hne hlen hP hpair
    rw [all_in] at hpair
    have hI5 := map_ss (sig_strs hlen hP) hpair
    have hsum9 : (((sigsS row).map (tabF tb)).map (·.length)).sum + ((sigsS row).map (tabF tb)).length * (Str.ofString "").length ≤ 72 := by
      have h1 := sum_le (l := (sigsS row).map (tabF tb)) (B := 6) (fun y hy => by
        obtain ⟨x, hx, rfl⟩ := List.mem_map.mp hy
        obtain ⟨c, _, rfl⟩ := List.mem_map.mp hx
        unfold tabF; split
        · exact htb
        · exact (by decide : 1 ≤ 6))
      have h2 : ((sigsS row).map (tabF tb)).length = row.length := by simp [sigsS, Str.length]
      have h3 : (Str.ofString "").length = 0 := by decide
      rw [h3]; omega
    have hsum : (((sigsS row).map (tabF tb)).map (·.length)).sum + ((sigsS row).map (tabF tb)).length * (Str.ofString "").length ≤ 16777216 := Nat.le_trans hsum9 (by decide)
    have hjl : (Txt.join (Str.ofString "") ((sigsS row).map (tabF tb))).length ≤ 72 := by
      refine Nat.le_trans ?_ hsum9
      show (Builtin.Str.glued _ _).length ≤ _
      rw [StrLaws.glued_eq_join]
      exact StrLaws.join_length_le _ _
    (try dsimp only)
    k_steps
    delta Stop
    rename News _ _ _ _ => N7
    refine join_list (isl_of (N7 (_, _) (.head _)).1) hI5 hsum ?_
    intro t7 k7
    (try dsimp only)
    k_steps
    · rename (_ != _) = true => hne9
      rw [hes] at hne9
      exact absurd hne9 (by simp)
    · rename News _ _ _ _ => nE
      exact hQ _ _ (by assumption) (fun p hp => nE p (by repeat (first | exact hp | apply List.Mem.tail)))
end Mine
end
section
open PySem PySem.W PyProof.Rows PySem.Calls PySem.Spec
set_option Elab.async false
set_option maxRecDepth 100000
set_option maxHeartbeats 4000000
namespace Mine
section
variable {prog : Program} {w : World} {A : Around} {E : Value → Shared → Prop} {s : Shared} {h₀ : Heap} {env : Env} {Q : Flow → Shared → Prop}
inductive FlGo (prog : Program) (w : World) (A : Around) (h₀ : Heap) (env : Env) (tgt : Expr) (body : List Stmt) (Q : Flow → Shared → Prop) (E : Value → Shared → Prop) (xv : Value) (s₁ : Shared) : Prop
  | mk (l : Addr) (its : Array Value) (c : Nat) (m : Str → Option Value) (news : List (Addr × Obj)) (J : (Str → Option Value) → List (Addr × Obj) → Prop) 
    (h0 : xv = .ref l) 
    (h1 : Fr h₀ env.locals s₁.heap m) 
    (h2 : News h₀ env.locals s₁.heap news) 
    (h3 : J m news) 
    (h4 : ∀ m news, J m news → (l, listOf its c) ∈ news) 
    (h5 : ∀ (i : Nat) v, its[i]? = some v → ∃ T, v = .ref T) 
    (h6 : ∀ (i : Nat) v m₁ news₁ h tk I oI, its[i]? = some v → J m₁ news₁ → (∀ p ∈ news₁, p.1 ≠ I) → Fr h₀ env.locals h m₁ → News h₀ env.locals h ((I, oI) :: news₁) →
      wpAny (model prog w) A (assign tgt env v) (fun _ s₂ => wpAny (model prog w) A (execs body env) (FePost h₀ env.locals I oI J Q s₁) E s₂) E { s₁ with heap := h, toks := tk }) 
    (h7 : ∀ m' news' h' tk, Fr h₀ env.locals h' m' → News h₀ env.locals h' news' → J m' news' → Q .next { s₁ with heap := h', toks := tk }) : FlGo prog w A h₀ env tgt body Q E xv s₁
inductive FlInv (h₀ : Heap) (L : Addr) (s₁ : Shared) (l : Addr) (its : Array Value) (J : (Str → Option Value) → List (Addr × Obj) → Prop) (k : Nat) (s' : Shared) : Prop
  | mk (h' : Heap) (tk : Nat) (m' : Str → Option Value) (news' : List (Addr × Obj)) (i : Nat) (e : s' = { s₁ with heap := h', toks := tk }) (hit : h'.IsListIter s₁.heap.objs.size l i) (F : Fr h₀ L h' m') (N : News h₀ L h' news') (hn : ∀ p ∈ news', p.1 ≠ s₁.heap.objs.size) (hJ : J m' news') (hi : i ≤ its.size) (hk : k = its.size + 1 - i) : FlInv h₀ L s₁ l its J k s'
theorem for_list {elts : List Expr} {x1} {tp pos : Pos} {iter : Expr} {body : List Stmt} (hh : A.handled = none)
    (h : wpAny (model prog w) A (eval iter env) (FlGo prog w A h₀ env (.Tuple elts x1 tp) body Q E) E s)
    (hs : ∀ x, foldedSetIterable iter env x = pure x := by intro _; rfl)
    (hE : PassesOwn (model prog w) A env E := by passes_own) :
    wpAny (model prog w) A (exec (.For (.Tuple elts x1 tp) iter body [] pos) env) Q E s := by
  refine wpAny_For (wpAny_mono h (fun xv s₁ h₁ => ?_) fun _ _ e => e) hs
  obtain ⟨l, its, c, m, news, J, rfl, F, N, h0, Jl, hrf, turn, fin⟩ := h₁
  have hl := isl_of (N _ (Jl _ _ h0)).1
  refine wpAny_pyIter_list hl ?_
  have hL : env.locals < s₁.heap.objs.size := F.ns.lt
  have hI0 : h₀.get? s₁.heap.objs.size = none := Heap.get?_none_of_le (Nat.le_of_lt (Nat.lt_of_le_of_lt F.above hL))
  have hLI : env.locals ≠ s₁.heap.objs.size := Nat.ne_of_lt hL
  refine codeAny_forLoop_any (FlInv h₀ env.locals s₁ l its J) ?_ (its.size + 1)
    ⟨_, s₁.toks, m, news, 0, rfl, ⟨_, Heap.get?_push_size _ rfl, rfl, rfl⟩, F.push _, fun p hp => ⟨Heap.get?_push_of_some _ (N p hp).1, (N p hp).2⟩, fun p hp => Nat.ne_of_lt (Heap.lt_size (N p hp).1), h0, Nat.zero_le _, rfl⟩
  rintro k s' ⟨h', tk, m', news', i, rfl, hit, F', N', hnI, hJ, hi, rfl⟩
  have hl' := isl_of (N' _ (Jl _ _ hJ)).1
  cases hv : its[i]? with
  | some v =>
    have hlt : i < its.size := (Array.getElem?_eq_some_iff.mp hv).1
    refine wpAny_pyNext_list_item hit hl' hv fun h₁ hit₁ hs₁ => ?_
    have F₁ : Fr h₀ env.locals h₁ m' := ⟨F'.ns.at' fun o e => hs₁.extBut _ o hLI e, fun b o e => hs₁.extBut b o (fun q => by rw [q, hI0] at e; cases e) (F'.keep b o e), F'.above⟩
    have N₁ : News h₀ env.locals h₁ news' := fun p hp => ⟨hs₁.extBut _ _ (hnI p hp) (N' p hp).1, (N' p hp).2⟩
    obtain ⟨T, rfl⟩ := hrf i v hv
    refine wpAny_letOwnedTupleGo_listiter (s := { s₁ with heap := h₁, toks := tk }) hit₁ ?_
    obtain ⟨oI, hoI, hcI, hdI⟩ := id hit₁
    have hN : News h₀ env.locals h₁ ((s₁.heap.objs.size, oI) :: news') := fun p hp => by
      rcases List.mem_cons.mp hp with rfl | hp
      · exact ⟨hoI, fun q => hLI q.symm, hI0⟩
      · exact N₁ p hp
    refine wpAny_mono (wpAny_passesOwn hE (turn i _ m' news' h₁ tk s₁.heap.objs.size oI hv hJ hnI F₁ hN)) (fun _ s₂ h₂ => ?_) fun _ _ e => e
    refine wpAny_mono (wpAny_passesOwn hE h₂) (fun f s₃ h₃ => ?_) fun _ _ e => e
    cases f with
    | ret v => exact h₃
    | brk => exact h₃
    | next =>
      obtain ⟨h3, tk3, m3, news3, rfl, F3, N3, hne3, hJ3⟩ := h₃
      exact ⟨its.size + 1 - (i + 1), by omega, h3, tk3, m3, news3, i + 1, rfl, ⟨oI, (N3 _ (.head _)).1, hcI, hdI⟩, F3, fun p hp => N3 p (.tail _ hp), hne3, hJ3, hlt, rfl⟩
    | cont =>
      obtain ⟨h3, tk3, m3, news3, rfl, F3, N3, hne3, hJ3⟩ := h₃
      exact ⟨its.size + 1 - (i + 1), by omega, h3, tk3, m3, news3, i + 1, rfl, ⟨oI, (N3 _ (.head _)).1, hcI, hdI⟩, F3, fun p hp => N3 p (.tail _ hp), hne3, hJ3, hlt, rfl⟩
  | none =>
    refine wpAny_pyNext_list_end hh hit hl' hv fun h₁ he₁ => ?_
    have F₁ : Fr h₀ env.locals h₁ m' := ⟨F'.ns.at' fun o e => he₁ _ o hLI e, fun b o e => he₁ b o (fun q => by rw [q, hI0] at e; cases e) (F'.keep b o e), F'.above⟩
    have N₁ : News h₀ env.locals h₁ news' := fun p hp => ⟨he₁ _ _ (hnI p hp) (N' p hp).1, (N' p hp).2⟩
    exact wpAny_execs_nil (fin m' news' h₁ tk F₁ N₁ hJ)
end
end Mine
end
section
open PySem PySem.W PyProof.Rows PySem.Calls PySem.Spec
set_option Elab.async false
set_option maxRecDepth 100000
set_option maxHeartbeats 4000000
namespace Mine
structure RowOk (kw : Nat) (tb cl : Str) (v : Int) (row : Str) : Prop where
  v0 : -100000 ≤ v
  v1 : v ≤ 100000
  len : row.length ≤ 12
  sig : Sig row
  l0 : 0 ≤ leastI v
  l1 : leastI v ≤ 100
  front : frontL row.cps.toList = (List.replicate ((leastI v).fdiv 3).toNat [52]).flatten ++ (List.replicate ((leastI v).fmod 3).toNat [23]).flatten
  tail : (tailL row).length ≤ 5
  flags : flagS (v.fmod 1024) = figS row
  num : ∃ R, varS (octs row) = some R ∧ R = 13 + ((List.range' 0 row.length).map (ordT row)).sum
  esc : escS (row ++ Str.ofString "\r\n") (escsK kw) = Txt.join (Str.ofString "") ((sigsS row).map (tabF tb)) ++ cl
theorem seg11 : ∀ (w : World) (mean : ExcName → Option Value) (mg mb : Str → Option Value) (g : Heap) (L fa : Addr) (cd : Value) (X : (hdA.heap_1_1 w.params).In g) (T : Top topProg lsT mean mg mb g) (B : Below callerA g [] g) (h245 : 245 < L) (m : Str → Option Value) (s : Shared) (Q : Flow → Shared → Prop) (E : Value → Shared → Prop)
    (o5 o4 : Obj) (rest : List (Addr × Obj)) (D : Addr) (out : List Value) (c : Nat) (ts : List Tup) (kw : Nat) (t4 tcl : Tok) (tb cl : Str) (v5 : Option Value)
    (F : Fr g L s.heap m) (hm : m (Str.ofString "table") = some (.ref D) ∧ m (Str.ofString "write") = some (.ref (escAd kw)) ∧ m (Str.ofString "close") = some (.str cl tcl)) (N : News g L s.heap ((L + 1 + 1 + 1 + 1 + 1, o5) :: (L + 1 + 1 + 1 + 1, o4) :: rest)) (hD : (D, listOf out.toArray c) ∈ rest) (hts : ∀ p ∈ ts, (p.T, p.obj) ∈ rest) (hne : ∀ q ∈ rest, q.1 ≠ L + 1 + 1 + 1 + 1 + 1) (hout : ∀ v ∈ out, ∃ p ∈ ts, v = .ref p.T)
    (d5 : o5.data = .cell v5) (d4 : o4.data = .cell (some (.str tb t4))) (hkw : kw < 5) (htb : tb.length ≤ 6) (hcl : cl.length ≤ 10) (hrows : ∀ p ∈ ts, RowOk kw tb cl p.n p.x)
    (hE : PassesOwn (model PySem.Challenge.rw_tc0048_01.row.prog w) (lawA (lawS w) L fa cd) (lawE (lawS w) L fa cd) E)
    (hQ : ∀ h' tk m' o5 v5, Fr g L h' m' → (∀ z, z ≠ Str.ofString "worth" → z ≠ Str.ofString "least" → m' z = m z) → News g L h' ((L + 1 + 1 + 1 + 1 + 1, o5) :: (L + 1 + 1 + 1 + 1, o4) :: rest) → o5.data = .cell v5 → Q .next { s with heap := h', toks := tk }),
    wpAny (model PySem.Challenge.rw_tc0048_01.row.prog w) (lawA (lawS w) L fa cd) (exec (nth (lawB w) 11) (lawE (lawS w) L fa cd)) Q E s := by
  k_with_none
  (k_with "FlGo" => (refine stop_here ?_))
  k_fill
  intro w mean mg mb g L fa cd X T B h245 m s Q E o5 o4 rest D out c ts kw t4 tcl tb cl v5 F hm N hD hts hne hout d5 d4 hkw htb hcl hrows hE hQ
  refine cut_law (P := fun body scope => (∀ (m : Str → Option Value) (s : Shared) (Q : Flow → Shared → Prop) (E : Value → Shared → Prop) (o5 o4 : Obj) (rest : List (Addr × Obj)) (N : News g L s.heap ((L + 1 + 1 + 1 + 1 + 1, o5) :: (L + 1 + 1 + 1 + 1, o4) :: rest)) (v : Int) (tv : Tok) (F : Fr g L s.heap (kstB m [(Str.ofString "worth", .int v tv)])) (hv : -100000 ≤ v ∧ v ≤ 100000)
    (hQ : ∀ h' tk t, Fr g L h' (fun z => if z = Str.ofString "least" then some (.int (leastI v) t) else kstB m [(Str.ofString "worth", .int v tv)] z) → News g L h' ((L + 1 + 1 + 1 + 1 + 1, o5) :: (L + 1 + 1 + 1 + 1, o4) :: rest) → Q .next { s with heap := h', toks := tk }), wpAny (model PySem.Challenge.rw_tc0048_01.row.prog w) (lawA scope L fa cd) (exec (nth (forBody (nth body 11)) 0) (lawE scope L fa cd)) Q E s) → (∀ (m : Str → Option Value) (s : Shared) (Q : Flow → Shared → Prop) (E : Value → Shared → Prop) (o5 o4 : Obj) (rest : List (Addr × Obj)) (N : News g L s.heap ((L + 1 + 1 + 1 + 1 + 1, o5) :: (L + 1 + 1 + 1 + 1, o4) :: rest)) (v : Int) (tv : Tok) (row : Str) (tr : Tok) (F : Fr g L s.heap (kstB m [(Str.ofString "least", .int v tv)])) (d5 : o5.data = .cell (some (.str row tr))) (hv : 0 ≤ v ∧ v ≤ 100) (hrow : row.length ≤ 12) (hsig : Sig row)
    (hfr : frontL row.cps.toList = (List.replicate (v.fdiv 3).toNat [52]).flatten ++ (List.replicate (v.fmod 3).toNat [23]).flatten)
    (hQ : ∀ h' tk, Fr g L h' (kstB m [(Str.ofString "least", .int v tv)]) → News g L h' ((L + 1 + 1 + 1 + 1 + 1, o5) :: (L + 1 + 1 + 1 + 1, o4) :: rest) → Q .next { s with heap := h', toks := tk }), wpAny (model PySem.Challenge.rw_tc0048_01.row.prog w) (lawA scope L fa cd) (exec (nth (forBody (nth body 11)) 1) (lawE scope L fa cd)) Q E s) → (∀ (m : Str → Option Value) (s : Shared) (Q : Flow → Shared → Prop) (E : Value → Shared → Prop) (o5 o4 : Obj) (rest : List (Addr × Obj)) (N : News g L s.heap ((L + 1 + 1 + 1 + 1 + 1, o5) :: (L + 1 + 1 + 1 + 1, o4) :: rest)) (v : Int) (tv : Tok) (row : Str) (tr : Tok) (F : Fr g L s.heap (kstB m [(Str.ofString "worth", .int v tv)])) (d5 : o5.data = .cell (some (.str row tr))) (hv : -100000 ≤ v ∧ v ≤ 100000) (hrow : row.length ≤ 12) (htl : (tailL row).length ≤ 5)
    (hfl : flagS (v.fmod 1024) = figS row)
    (hQ : ∀ h' tk, Fr g L h' (kstB m [(Str.ofString "worth", .int v tv)]) → News g L h' ((L + 1 + 1 + 1 + 1 + 1, o5) :: (L + 1 + 1 + 1 + 1, o4) :: rest) → Q .next { s with heap := h', toks := tk }), wpAny (model PySem.Challenge.rw_tc0048_01.row.prog w) (lawA scope L fa cd) (exec (nth (forBody (nth body 11)) 2) (lawE scope L fa cd)) Q E s) → (∀ (m : Str → Option Value) (s : Shared) (Q : Flow → Shared → Prop) (E : Value → Shared → Prop) (o5 o4 : Obj) (rest : List (Addr × Obj)) (N : News g L s.heap ((L + 1 + 1 + 1 + 1 + 1, o5) :: (L + 1 + 1 + 1 + 1, o4) :: rest)) (row : Str) (tr : Tok) (R : Int) (F : Fr g L s.heap m) (d5 : o5.data = .cell (some (.str row tr))) (hrow : row.length ≤ 12) (hR : varS (octs row) = some R) (hsig : Sig row) (hsum : R = 13 + ((List.range' 0 row.length).map (ordT row)).sum)
    (hQ : ∀ h' tk, Fr g L h' m → News g L h' ((L + 1 + 1 + 1 + 1 + 1, o5) :: (L + 1 + 1 + 1 + 1, o4) :: rest) → Q .next { s with heap := h', toks := tk }), wpAny (model PySem.Challenge.rw_tc0048_01.row.prog w) (lawA scope L fa cd) (exec (nth (forBody (nth body 11)) 3) (lawE scope L fa cd)) Q E s) → (∀ (m : Str → Option Value) (s : Shared) (Q : Flow → Shared → Prop) (E : Value → Shared → Prop) (o5 o4 : Obj) (rest : List (Addr × Obj)) (N : News g L s.heap ((L + 1 + 1 + 1 + 1 + 1, o5) :: (L + 1 + 1 + 1 + 1, o4) :: rest)) (kw : Nat) (row : Str) (tr t4 tcl : Tok) (tb cl : Str) (F : Fr g L s.heap (kstB m [(Str.ofString "write", .ref (escAd kw)), (Str.ofString "close", .str cl tcl)])) (d5 : o5.data = .cell (some (.str row tr))) (d4 : o4.data = .cell (some (.str tb t4))) (hkw : kw < 5) (hrow : row.length ≤ 12) (htb : tb.length ≤ 6) (hcl : cl.length ≤ 10)
    (hes : escS (row ++ Str.ofString "\r\n") (escsK kw) = Txt.join (Str.ofString "") ((sigsS row).map (tabF tb)) ++ cl)
    (hQ : ∀ h' tk, Fr g L h' (kstB m [(Str.ofString "write", .ref (escAd kw)), (Str.ofString "close", .str cl tcl)]) → News g L h' ((L + 1 + 1 + 1 + 1 + 1, o5) :: (L + 1 + 1 + 1 + 1, o4) :: rest) → Q .next { s with heap := h', toks := tk }), wpAny (model PySem.Challenge.rw_tc0048_01.row.prog w) (lawA scope L fa cd) (exec (nth (forBody (nth body 11)) 4) (lawE scope L fa cd)) Q E s) → PassesOwn (model PySem.Challenge.rw_tc0048_01.row.prog w) (lawA scope L fa cd) (lawE scope L fa cd) E → wpAny (model PySem.Challenge.rw_tc0048_01.row.prog w) (lawA scope L fa cd) (exec (nth body 11) (lawE scope L fa cd)) Q E s) (by k_is) ?_ (fun m s Q E => sub0 w mean mg mb g L fa cd X T B h245 m s Q E) (fun m s Q E => sub1 w mean mg mb g L fa cd X T B h245 m s Q E) (fun m s Q E => sub2 w mean mg mb g L fa cd X T B h245 m s Q E) (fun m s Q E => sub3 w mean mg mb g L fa cd X T B h245 m s Q E) (fun m s Q E => sub4 w mean mg mb g L fa cd X T B h245 m s Q E) hE
  dsimp only [nth, forBody]
  delta lawE lawA
  clear hE
  intro S0 S1 S2 S3 S4 hE
  obtain ⟨hm1, hm2, hm3⟩ := hm
  have F1 := fr_kstB (ps := [(Str.ofString "table", .ref D)]) F (by simpa using hm1)
  refine for_list (h₀ := g) (hE := hE) rfl ?_
  k_steps
  (try delta Stop)
  refine ⟨D, out.toArray, c, m, ((L + 1 + 1 + 1 + 1 + 1, o5) :: (L + 1 + 1 + 1 + 1, o4) :: rest), fun m' news' => ∃ o5 v5, news' = ((L + 1 + 1 + 1 + 1 + 1, o5) :: (L + 1 + 1 + 1 + 1, o4) :: rest) ∧ o5.data = .cell v5 ∧ (∀ z, z ≠ Str.ofString "worth" → z ≠ Str.ofString "least" → m' z = m z), rfl, F, N, ⟨o5, v5, rfl, d5, fun z _ _ => rfl⟩, ?Jl, ?refs, ?turn, ?fin⟩
  case Jl =>
    rintro m' news' ⟨o5, v5, rfl, _⟩
    exact .tail _ (.tail _ hD)
  case refs =>
    intro i v hv
    obtain ⟨p, _, e⟩ := hout v (by have := List.mem_of_getElem? (l := out) (i := i) (by simpa using hv); exact this)
    exact ⟨_, e⟩
  case fin =>
    rintro m' news' h' tk F' N' ⟨o5, v5, rfl, d5, hz⟩
    exact hQ h' tk m' o5 v5 F' hz N' d5
  case turn =>
    rintro i v m₁ news₁ h tk I oI hv ⟨o5, v5, rfl, d5, hz⟩ hnI F N
    obtain ⟨p, hp, rfl⟩ := hout v (by have := List.mem_of_getElem? (l := out) (i := i) (by simpa using hv); exact this)
    have hok := hrows p hp
    have hTup : h.IsTuple p.T #[.int p.n p.t, .str p.x p.u] := ist_of (N _ (.tail _ (.tail _ (.tail _ (hts p hp))))).1
    refine wpAny_assign_Tuple rfl hTup rfl rfl fun h₁ he₁ => ?_
    have kk : Kept h h₁ := fun b o e => he₁ b o (Nat.ne_of_lt (Heap.lt_size e)) e
    have F₁ := F.keeps kk
    have N₁ := N.grown kk
    show wpAny _ _ (assignInOrder [assign (.Name _ _) _, assign (.Name _ _) _] [_, _]) _ _ _
    refine assignInOrder_cons ?_
    refine wpAny_assign_Name (storeX_L F₁ N₁ fun h₂ F₂ N₂ => ?_)
    refine assignInOrder_cons ?_
    have hI5 : I ≠ L + 1 + 1 + 1 + 1 + 1 := fun q => hnI _ (.head _) q.symm
    have h45 : (L + 1 + 1 + 1 + 1 : Addr) ≠ L + 1 + 1 + 1 + 1 + 1 := Nat.ne_of_lt (Nat.lt_succ_self _)
    refine wpAny_assign_Name (storeX_C F₂ N₂ rfl (.tail hI5 (.head fun q hq => by
      rcases List.mem_cons.mp hq with rfl | hq
      · exact h45
      · exact hne q hq)) d5 fun h₃ o₃ F₃ N₃ d₃ => ?_)
    refine assignInOrder_nil ?_
    have N₄ : News g L h₃ ((L + 1 + 1 + 1 + 1 + 1, o₃) :: (L + 1 + 1 + 1 + 1, o4) :: (I, oI) :: rest) := fun q hq => N₃ q (by
      simp only [List.mem_cons] at hq ⊢
      rcases hq with h | h | h | h
      · exact .inr (.inl h)
      · exact .inr (.inr (.inl h))
      · exact .inl h
      · exact .inr (.inr (.inr h)))
    refine wpAny_execs_cons ?_
    refine S0 m₁ _ _ _ o₃ o4 ((I, oI) :: rest) N₄ p.n p.t F₃ ⟨hok.v0, hok.v1⟩ fun h5 tk5 t5 F5 N5 => ?_
    refine wpAny_execs_cons ?_
    refine S1 (kstB m₁ [(Str.ofString "worth", .int p.n p.t)]) _ _ _ o₃ o4 ((I, oI) :: rest) N5 (leastI p.n) t5 p.x p.u F5 d₃ ⟨hok.l0, hok.l1⟩ hok.len hok.sig hok.front fun h6 tk6 F6 N6 => ?_
    refine wpAny_execs_cons ?_
    refine S2 _ _ _ _ o₃ o4 ((I, oI) :: rest) N6 p.n p.t p.x p.u (fr_kstB F6 (by kst_all)) d₃ ⟨hok.v0, hok.v1⟩ hok.len hok.tail hok.flags fun h7 tk7 F7 N7 => ?_
    refine wpAny_execs_cons ?_
    obtain ⟨R, hR1, hR2⟩ := hok.num
    refine S3 _ _ _ _ o₃ o4 ((I, oI) :: rest) N7 p.x p.u R F7 d₃ hok.len hR1 hok.sig hR2 fun h8 tk8 F8 N8 => ?_
    refine wpAny_execs_cons ?_
    refine S4 _ _ _ _ o₃ o4 ((I, oI) :: rest) N8 kw p.x p.u t4 tcl tb cl (fr_kstB F8 ?_) d₃ d4 hkw hok.len htb hcl hok.esc fun h9 tk9 F9 N9 => ?_
    · intro q hq
      simp only [List.mem_cons, List.not_mem_nil, or_false] at hq
      rcases hq with rfl | rfl
      · show m₁ (Str.ofString "write") = _
        rw [hz _ (by decide) (by decide)]; exact hm2
      · show m₁ (Str.ofString "close") = _
        rw [hz _ (by decide) (by decide)]; exact hm3
    refine wpAny_execs_nil ?_
    refine ⟨h9, tk9, _, ((L + 1 + 1 + 1 + 1 + 1, o₃) :: (L + 1 + 1 + 1 + 1, o4) :: rest), rfl, F9, ?_, ?_, o₃, some (.str p.x p.u), rfl, d₃, ?_⟩
    · intro q hq
      refine N9 q ?_
      simp only [List.mem_cons] at hq ⊢
      rcases hq with h | h | h | h
      · exact .inr (.inr (.inl h))
      · exact .inl h
      · exact .inr (.inl h)
      · exact .inr (.inr (.inr h))
    · intro q hq
      rcases List.mem_cons.mp hq with rfl | hq
      · exact fun q => hI5 q.symm
      · exact hnI q (.tail _ hq)
    · intro z h1 h2
      have e1 : kstB (kstB (kstB (kstB m₁ [(Str.ofString "worth", .int p.n p.t)]) [(Str.ofString "least", .int (leastI p.n) t5)]) [(Str.ofString "worth", .int p.n p.t)]) [(Str.ofString "write", .ref (escAd kw)), (Str.ofString "close", .str cl tcl)] z = m₁ z := by
        by_cases hw : z = Str.ofString "write"
        · subst hw
          show some _ = _
          rw [hz _ (by decide) (by decide)]; exact hm2.symm
        · by_cases hc : z = Str.ofString "close"
          · subst hc
            show some _ = _
            rw [hz _ (by decide) (by decide)]; exact hm3.symm
          · simp [kstB, h1, h2, hw, hc]
      exact e1.trans (hz z h1 h2)
end Mine
end
section
open PySem PySem.Sre
set_option maxRecDepth 100000
namespace Mine
noncomputable def code1 : Array Nat := #[14, 4, 0, 1, 1, 6, 1, 16, 46, 1]
noncomputable def code2 : Array Nat := #[14, 9, 4, 1, 2, 16, 10, 16, 13, 0, 7, 7, 16, 13, 16, 10, 15, 18, 5, 16, 10, 15, 13, 11, 16, 13, 5, 5, 0, 16, 10, 1, 15, 2, 0, 1]

theorem runFor_succ (n : Nat) (m : M) : M.runFor (n + 1) m = if m.outcome.isSome = true then m else M.runFor n m.step := rfl
theorem runFor_done {m : M} (h : m.outcome.isSome = true) : ∀ n, M.runFor n m = m
  | 0 => rfl
  | n + 1 => by rw [runFor_succ, if_pos h]
theorem runFor_add : ∀ (a b : Nat) (m : M), M.runFor (a + b) m = M.runFor b (M.runFor a m)
  | 0, b, m => by rw [Nat.zero_add]; rfl
  | a + 1, b, m => by
    rw [Nat.add_right_comm, runFor_succ, runFor_succ]
    by_cases h : m.outcome.isSome = true
    · rw [if_pos h, if_pos h, runFor_done h]
    · rw [if_neg h, if_neg h]; exact runFor_add a b _
noncomputable def Comes (m m' : M) : Prop := ∃ n, n ≤ 2 ^ 40 ∧ M.runFor n m = m'
noncomputable def ComesIn (k : Nat) (m m' : M) : Prop := ∃ n, n ≤ k ∧ M.runFor n m = m'
theorem ComesIn.refl (m : M) : ComesIn 0 m m := ⟨0, Nat.le_refl _, rfl⟩
theorem ComesIn.trans {a b : Nat} {m m' m'' : M} (h : ComesIn a m m') (h' : ComesIn b m' m'') : ComesIn (a + b) m m'' := by
  obtain ⟨n, hn, rfl⟩ := h
  obtain ⟨n', hn', rfl⟩ := h'
  exact ⟨n + n', by omega, runFor_add ..⟩
theorem ComesIn.step {m : M} (h : m.outcome = none) : ComesIn 1 m m.step := ⟨1, Nat.le_refl _, by unfold M.runFor; rw [h]; rfl⟩
theorem ComesIn.cons {k : Nat} {m m' : M} (h : m.outcome = none) (h' : ComesIn k m.step m') : ComesIn (k + 1) m m' := by
  have := (ComesIn.step h).trans h'
  rwa [Nat.add_comm] at this

theorem ComesIn.one {m m' : M} (e : m.step = m') (h : m.outcome = none := by rfl) : ComesIn 1 m m' := e ▸ ComesIn.step h
theorem ComesIn.le {a b : Nat} {m m' : M} (h : ComesIn a m m') (hab : a ≤ b) : ComesIn b m m' := let ⟨n, hn, e⟩ := h; ⟨n, Nat.le_trans hn hab, e⟩

/-! the first pattern: a dot at the front of a line -/
noncomputable def q1 (text : Array Nat) (lim s : Nat) (first : Bool) (seen : Seen) : M :=
  { code := code1, text, lim, start := s, lastStart := lim, pc := 5, pos := s, handed := s, outermost := first, marks := #[],
    frames := [{ wait := .nextStart, pc := 5, pos := s, outermost := first }], weight := 1, seen }
noncomputable abbrev tx (text : Array Nat) (i : Nat) : Nat := text[i]?.getD 0
noncomputable abbrev Front (text : Array Nat) (s : Nat) : Prop := s = 0 ∨ tx text (s - 1) = 10
noncomputable def litOut (m : M) (c : Nat) : M := if m.pos ≥ m.lim then { m with seen := m.seen.add 16, answer := some false } else if m.text.getD m.pos 0 == c then { m with seen := m.seen.add 16, pc := m.pc + 2, pos := m.pos + 1 } else { m with seen := m.seen.add 16, answer := some false }
theorem step_lit {m : M} {c : Nat} (h0 : m.outcome = none) (h1 : m.answer = none) (hpc : decide (m.pc < m.code.size) = true) (hw : m.code.getD m.pc 0 = 16) (hc : m.code.getD (m.pc + 1) 0 = c) : m.step = litOut m c := by
  have e1 : ∀ s : Seen, accepts m.code m.pc (m.text.getD m.pos 0) s = .ok (m.text.getD m.pos 0 == c, s) := fun s => by
    unfold accepts
    rw [hw, hc]; rfl
  have e2 : itemWidth m.code m.pc = 2 := by unfold itemWidth; rw [hw]; rfl
  have e3 : m.word 0 = 16 := hw
  unfold M.step
  rw [if_neg (by rw [h0]; decide), h1]
  show (if m.pc < m.code.size then m.exec else m.stick "code:ran-off") = _
  rw [if_pos (of_decide_eq_true hpc)]
  unfold M.exec litOut
  rw [e3]
  show (if m.pos ≥ m.lim then M.say { m with seen := m.seen.add 16 } false else
    match accepts m.code m.pc (m.text.getD m.pos 0) (m.seen.add 16) with
    | .error why => M.stick { m with seen := m.seen.add 16 } why
    | .ok (false, seen) => M.say { m with seen := seen } false
    | .ok (true, seen) => { m with seen := seen, pc := m.pc + itemWidth m.code m.pc, pos := m.pos + 1 }) = _
  rw [e1, e2]
  cases m.text.getD m.pos 0 == c <;> rfl
theorem tx_get (text : Array Nat) (i : Nat) : text.getD i 0 = tx text i := by simp
theorem lit_no {m : M} {c : Nat} (h : m.pos < m.lim → tx m.text m.pos ≠ c) : litOut m c = { m with seen := m.seen.add 16, answer := some false } := by
  unfold litOut
  by_cases q : m.pos ≥ m.lim
  · rw [if_pos q]
  · rw [if_neg q, tx_get, if_neg (by have := h (by omega); simpa using this)]
theorem lit_yes {m : M} {c : Nat} (q : m.pos < m.lim) (h : tx m.text m.pos = c) : litOut m c = { m with seen := m.seen.add 16, pc := m.pc + 2, pos := m.pos + 1 } := by
  unfold litOut
  rw [if_neg (by omega), tx_get, if_pos (by simp [h])]
theorem q1_at (text : Array Nat) (lim s : Nat) (first : Bool) (seen : Seen) (h : Front text s) :
    (q1 text lim s first seen).step = { q1 text lim s first ((seen.add 6).add 44) with pc := 7 } := by
  have e : (s == 0 || text.getD (s - 1) 0 == 10) = true := by
    rcases h with rfl | h
    · rfl
    · rw [tx_get, h]; simp
  exact (show _ = if (s == 0 || text.getD (s - 1) 0 == 10) = true then { q1 text lim s first ((seen.add 6).add 44) with pc := 7 } else { q1 text lim s first ((seen.add 6).add 44) with answer := some false } from rfl).trans (if_pos e)
theorem q1_at_no (text : Array Nat) (lim s : Nat) (first : Bool) (seen : Seen) (h : ¬ Front text s) :
    (q1 text lim s first seen).step = { q1 text lim s first ((seen.add 6).add 44) with answer := some false } := by
  have e : ¬ (s == 0 || text.getD (s - 1) 0 == 10) = true := fun q => by
    rw [tx_get, Bool.or_eq_true, beq_iff_eq, beq_iff_eq] at q
    exact h q
  exact (show _ = if (s == 0 || text.getD (s - 1) 0 == 10) = true then { q1 text lim s first ((seen.add 6).add 44) with pc := 7 } else { q1 text lim s first ((seen.add 6).add 44) with answer := some false } from rfl).trans (if_neg e)
theorem q1_lit (text : Array Nat) (lim s : Nat) (first : Bool) (seen : Seen) (hs : s < lim) (h : tx text s = 46) :
    M.step { q1 text lim s first seen with pc := 7 } = { q1 text lim s first (seen.add 16) with pc := 9, pos := s + 1 } := by
  exact (step_lit rfl rfl rfl rfl rfl).trans (lit_yes hs h)
theorem q1_lit_no (text : Array Nat) (lim s : Nat) (first : Bool) (seen : Seen) (h : s < lim → tx text s ≠ 46) :
    M.step { q1 text lim s first seen with pc := 7 } = { q1 text lim s first (seen.add 16) with pc := 7, answer := some false } := by
  exact (step_lit rfl rfl rfl rfl rfl).trans (lit_no h)
theorem q1_ok (text : Array Nat) (lim s : Nat) (first : Bool) (seen : Seen) :
    M.step { q1 text lim s first seen with pc := 9, pos := s + 1 } = { q1 text lim s first (seen.add 1) with pc := 9, pos := s + 1, handed := s + 1, answer := some true } := by
  cases first <;> rfl
theorem q1_yes (text : Array Nat) (lim s : Nat) (first : Bool) (seen : Seen) :
    M.step { q1 text lim s first seen with pc := 9, pos := s + 1, handed := s + 1, answer := some true } =
      { q1 text lim s first seen with frames := [], weight := 0, handed := s + 1, answer := some true } := by
  rfl
theorem q1_end (text : Array Nat) (lim s : Nat) (first : Bool) (seen : Seen) :
    M.step { q1 text lim s first seen with frames := [], weight := 0, handed := s + 1, answer := some true } =
      { q1 text lim s first seen with frames := [], weight := 0, handed := s + 1, answer := some true, outcome := some .matched } := by
  rfl
theorem q1_next (text : Array Nat) (lim s pc : Nat) (first : Bool) (seen : Seen) (hs : s < lim) :
    M.step { q1 text lim s first seen with pc := pc, answer := some false } = q1 text lim (s + 1) false seen := by
  exact (show _ = if s < lim then q1 text lim (s + 1) false seen else { q1 text lim s first seen with frames := [], weight := 0, answer := some false } from rfl).trans (if_pos hs)
theorem q1_last (text : Array Nat) (lim s pc : Nat) (first : Bool) (seen : Seen) (hs : ¬ s < lim) :
    M.step { q1 text lim s first seen with pc := pc, answer := some false } = { q1 text lim s first seen with frames := [], weight := 0, answer := some false } := by
  exact (show _ = if s < lim then q1 text lim (s + 1) false seen else { q1 text lim s first seen with frames := [], weight := 0, answer := some false } from rfl).trans (if_neg hs)
theorem q1_fin (text : Array Nat) (lim s : Nat) (first : Bool) (seen : Seen) :
    M.step { q1 text lim s first seen with frames := [], weight := 0, answer := some false } = { q1 text lim s first seen with frames := [], weight := 0, answer := some false, outcome := some .failed } := by
  rfl
theorem q1_found {text : Array Nat} {lim s : Nat} (first : Bool) (seen : Seen) (hs : s < lim) (hf : Front text s) (h : tx text s = 46) :
    ∃ m', ComesIn 5 (q1 text lim s first seen) m' ∧ m'.outcome = some .matched ∧ m'.start = s ∧ m'.handed = s + 1 :=
  ⟨_, ((((ComesIn.one (q1_at _ _ _ _ _ hf)).trans (.one (q1_lit _ _ _ _ _ hs h))).trans (.one (q1_ok ..))).trans (.one (q1_yes ..))).trans (.one (q1_end ..)), rfl, rfl, rfl⟩
theorem q1_skip {text : Array Nat} {lim s : Nat} (first : Bool) (seen : Seen) (hn : ¬ (Front text s ∧ s < lim ∧ tx text s = 46)) (hs : s < lim) :
    ∃ seen', ComesIn 3 (q1 text lim s first seen) (q1 text lim (s + 1) false seen') := by
  by_cases hf : Front text s
  · exact ⟨_, ((ComesIn.one (q1_at _ _ _ _ _ hf)).trans (.one (q1_lit_no _ _ _ _ _ (fun _ h => hn ⟨hf, hs, h⟩)))).trans (.one (q1_next _ _ _ _ _ _ hs))⟩
  · exact ⟨_, ((ComesIn.one (q1_at_no _ _ _ _ _ hf)).trans (.one (q1_next _ _ _ 5 _ _ hs))).le (by decide)⟩
theorem q1_none {text : Array Nat} {lim s : Nat} (first : Bool) (seen : Seen) (hs : ¬ s < lim) :
    ∃ m', ComesIn 4 (q1 text lim s first seen) m' ∧ m'.outcome = some .failed := by
  by_cases hf : Front text s
  · exact ⟨_, (((ComesIn.one (q1_at _ _ _ _ _ hf)).trans (.one (q1_lit_no _ _ _ _ _ (fun h => absurd h hs)))).trans (.one (q1_last _ _ _ _ _ _ hs))).trans (.one (q1_fin ..)), rfl⟩
  · exact ⟨_, (((ComesIn.one (q1_at_no _ _ _ _ _ hf)).trans (.one (q1_last _ _ _ 5 _ _ hs))).trans (.one (q1_fin ..))).le (by decide), rfl⟩
noncomputable def find1 (text : Array Nat) (lim : Nat) : Nat → Nat → Option Nat
  | 0, _ => none
  | n + 1, s => if (s = 0 ∨ tx text (s - 1) = 10) ∧ tx text s = 46 then some s else find1 text lim n (s + 1)
theorem q1_run (text : Array Nat) (lim : Nat) : ∀ (n s : Nat) (first : Bool) (seen : Seen), s + n = lim →
    match find1 text lim n s with
    | some b => ∃ m', ComesIn (3 * n + 5) (q1 text lim s first seen) m' ∧ m'.outcome = some .matched ∧ m'.start = b ∧ m'.handed = b + 1
    | none => ∃ m', ComesIn (3 * n + 5) (q1 text lim s first seen) m' ∧ m'.outcome = some .failed
  | 0, s, first, seen, h => by
    obtain ⟨m', ⟨k, hk, e⟩, h2⟩ := q1_none (text := text) first seen (show ¬ s < lim by omega)
    exact ⟨m', ⟨k, by omega, e⟩, h2⟩
  | n + 1, s, first, seen, h => by
    unfold find1
    by_cases hc : (s = 0 ∨ tx text (s - 1) = 10) ∧ tx text s = 46
    · rw [if_pos hc]
      obtain ⟨m', ⟨k, hk, e⟩, h2⟩ := q1_found first seen (show s < lim by omega) hc.1 hc.2
      exact ⟨m', ⟨k, by omega, e⟩, h2⟩
    · rw [if_neg hc]
      obtain ⟨seen', h1⟩ := q1_skip (text := text) (lim := lim) (s := s) first seen (fun q => hc ⟨q.1, q.2.2⟩) (by omega)
      have ih := q1_run text lim n (s + 1) false seen' (by omega)
      split at ih
      · obtain ⟨m', c, r⟩ := ih
        obtain ⟨k, hk, e⟩ := h1.trans c
        exact ⟨m', ⟨k, by omega, e⟩, r⟩
      · obtain ⟨m', c, r⟩ := ih
        obtain ⟨k, hk, e⟩ := h1.trans c
        exact ⟨m', ⟨k, by omega, e⟩, r⟩
theorem search1 (text : Array Nat) (lim s : Nat) (hs : s < lim) : forSearch code1 text 0 s lim false = q1 text lim s true (({} : Seen).add 14) := by
  have h : ¬ (decide (s > lim) || decide (lim - s < 1)) = true := by simp; omega
  exact (if_neg h).trans rfl
theorem search1_end (text : Array Nat) (lim s : Nat) (hs : lim ≤ s) : ∃ m', ComesIn 1 (forSearch code1 text 0 s lim false) m' ∧ m'.outcome = some .failed := by
  have e : ∃ m, forSearch code1 text 0 s lim false = m ∧ m.outcome = none ∧ m.answer = some false ∧ m.frames = [] := by
    have h : (decide (s > lim) || decide (lim - s < 1)) = true := by simp; omega
    exact ⟨_, if_pos h, rfl, rfl, rfl⟩
  obtain ⟨m, e, h1, h2, h3⟩ := e
  rw [e]
  refine ⟨_, .one (m' := { m with outcome := some .failed }) (by simp [M.step, h1, h2, h3]) h1, rfl⟩
theorem run1 (text : Array Nat) (lim s : Nat) :
    match find1 text lim (lim - s) s with
    | some b => ∃ m', ComesIn (3 * lim + 5) (forSearch code1 text 0 s lim false) m' ∧ m'.outcome = some .matched ∧ m'.start = b ∧ m'.handed = b + 1
    | none => ∃ m', ComesIn (3 * lim + 5) (forSearch code1 text 0 s lim false) m' ∧ m'.outcome = some .failed := by
  by_cases hs : s < lim
  · rw [search1 _ _ _ hs]
    have h := q1_run text lim (lim - s) s true (({} : Seen).add 14) (by omega)
    split at h
    · obtain ⟨m', c, r⟩ := h; exact ⟨m', c.le (by omega), r⟩
    · obtain ⟨m', c, r⟩ := h; exact ⟨m', c.le (by omega), r⟩
  · rw [show lim - s = 0 by omega]
    obtain ⟨m', c, r⟩ := search1_end text lim s (by omega)
    exact ⟨m', c.le (by omega), r⟩

/-! the second pattern: the ends of lines -/
noncomputable def q2 (text : Array Nat) (lim s : Nat) (seen : Seen) : M :=
  { code := code2, text, lim, start := s, lastStart := lim, pc := 10, pos := s, handed := s, outermost := true, marks := #[],
    frames := [{ wait := .nextStart, pc := 10, pos := s, outermost := true }], weight := 1, seen }
noncomputable def b2 (text : Array Nat) (lim s alt pc pos handed : Nat) (seen : Seen) : M :=
  { code := code2, text, lim, start := s, lastStart := lim, pc, pos, handed, outermost := true, marks := #[],
    frames := [{ wait := .nextBranch, pc := alt, pos := s, outermost := true }, { wait := .nextStart, pc := 10, pos := s, outermost := true }], weight := 2, seen }
theorem q2_branch (text : Array Nat) (lim s : Nat) (seen : Seen) : (q2 text lim s seen).step = b2 text lim s 11 12 s s (seen.add 7) := by
  rfl
theorem b2_lit12 (text : Array Nat) (lim s alt pos handed : Nat) (seen : Seen) (hs : pos < lim) (h : tx text pos = 13) :
    (b2 text lim s alt 12 pos handed seen).step = b2 text lim s alt 14 (pos + 1) handed (seen.add 16) := by
  exact (step_lit rfl rfl rfl rfl rfl).trans (lit_yes hs h)
theorem b2_lit12_no (text : Array Nat) (lim s alt pos handed : Nat) (seen : Seen) (h : pos < lim → tx text pos ≠ 13) :
    (b2 text lim s alt 12 pos handed seen).step = { b2 text lim s alt 12 pos handed (seen.add 16) with answer := some false } := by
  exact (step_lit rfl rfl rfl rfl rfl).trans (lit_no h)
theorem b2_lit14 (text : Array Nat) (lim s alt pos handed : Nat) (seen : Seen) (hs : pos < lim) (h : tx text pos = 10) :
    (b2 text lim s alt 14 pos handed seen).step = b2 text lim s alt 16 (pos + 1) handed (seen.add 16) := by
  exact (step_lit rfl rfl rfl rfl rfl).trans (lit_yes hs h)
theorem b2_lit14_no (text : Array Nat) (lim s alt pos handed : Nat) (seen : Seen) (h : pos < lim → tx text pos ≠ 10) :
    (b2 text lim s alt 14 pos handed seen).step = { b2 text lim s alt 14 pos handed (seen.add 16) with answer := some false } := by
  exact (step_lit rfl rfl rfl rfl rfl).trans (lit_no h)
theorem b2_lit19 (text : Array Nat) (lim s alt pos handed : Nat) (seen : Seen) (hs : pos < lim) (h : tx text pos = 10) :
    (b2 text lim s alt 19 pos handed seen).step = b2 text lim s alt 21 (pos + 1) handed (seen.add 16) := by
  exact (step_lit rfl rfl rfl rfl rfl).trans (lit_yes hs h)
theorem b2_lit19_no (text : Array Nat) (lim s alt pos handed : Nat) (seen : Seen) (h : pos < lim → tx text pos ≠ 10) :
    (b2 text lim s alt 19 pos handed seen).step = { b2 text lim s alt 19 pos handed (seen.add 16) with answer := some false } := by
  exact (step_lit rfl rfl rfl rfl rfl).trans (lit_no h)
theorem b2_lit24 (text : Array Nat) (lim s alt pos handed : Nat) (seen : Seen) (hs : pos < lim) (h : tx text pos = 13) :
    (b2 text lim s alt 24 pos handed seen).step = b2 text lim s alt 26 (pos + 1) handed (seen.add 16) := by
  exact (step_lit rfl rfl rfl rfl rfl).trans (lit_yes hs h)
theorem b2_lit24_no (text : Array Nat) (lim s alt pos handed : Nat) (seen : Seen) (h : pos < lim → tx text pos ≠ 13) :
    (b2 text lim s alt 24 pos handed seen).step = { b2 text lim s alt 24 pos handed (seen.add 16) with answer := some false } := by
  exact (step_lit rfl rfl rfl rfl rfl).trans (lit_no h)
theorem b2_back11 (text : Array Nat) (lim s pc pos handed : Nat) (seen : Seen) :
    M.step { b2 text lim s 11 pc pos handed seen with answer := some false } = b2 text lim s 18 19 s s seen := by
  rfl
theorem b2_back18 (text : Array Nat) (lim s pc pos handed : Nat) (seen : Seen) :
    M.step { b2 text lim s 18 pc pos handed seen with answer := some false } = b2 text lim s 23 24 s s seen := by
  rfl
theorem b2_jump16 (text : Array Nat) (lim s alt pos handed : Nat) (seen : Seen) :
    (b2 text lim s alt 16 pos handed seen).step = b2 text lim s alt 35 pos handed (seen.add 15) := by
  rfl
theorem b2_jump21 (text : Array Nat) (lim s alt pos handed : Nat) (seen : Seen) :
    (b2 text lim s alt 21 pos handed seen).step = b2 text lim s alt 35 pos handed (seen.add 15) := by
  rfl
theorem b2_jump32 (text : Array Nat) (lim s alt pos handed : Nat) (seen : Seen) :
    (b2 text lim s alt 32 pos handed seen).step = b2 text lim s alt 35 pos handed (seen.add 15) := by
  rfl
noncomputable def a2 (text : Array Nat) (lim s pos : Nat) (seen : Seen) : M :=
  { code := code2, text, lim, start := s, lastStart := lim, pc := 29, pos := pos, handed := pos, outermost := false, marks := #[],
    frames := [{ wait := .lookNot, pc := 26, pos := pos, outermost := true }, { wait := .nextBranch, pc := 23, pos := s, outermost := true }, { wait := .nextStart, pc := 10, pos := s, outermost := true }], weight := 3, seen }
theorem b2_assert (text : Array Nat) (lim s pos handed : Nat) (seen : Seen) : (b2 text lim s 23 26 pos handed seen).step = a2 text lim s pos (seen.add 5) := by
  rfl
theorem a2_no (text : Array Nat) (lim s pos : Nat) (seen : Seen) (h : pos < lim → tx text pos ≠ 10) : (a2 text lim s pos seen).step = { a2 text lim s pos (seen.add 16) with answer := some false } := by
  exact (step_lit rfl rfl rfl rfl rfl).trans (lit_no h)
theorem a2_back (text : Array Nat) (lim s pos : Nat) (seen : Seen) : M.step { a2 text lim s pos seen with answer := some false } = b2 text lim s 23 32 pos pos seen := by
  rfl
theorem b2_ok (text : Array Nat) (lim s alt pos handed : Nat) (seen : Seen) :
    (b2 text lim s alt 35 pos handed seen).step = { b2 text lim s alt 35 pos pos (seen.add 1) with answer := some true } := by
  rfl
theorem b2_yes1 (text : Array Nat) (lim s alt pos : Nat) (seen : Seen) :
    M.step { b2 text lim s alt 35 pos pos seen with answer := some true } =
      { b2 text lim s alt alt s pos seen with answer := some true, weight := 1, frames := [{ wait := .nextStart, pc := 10, pos := s, outermost := true }] } := by
  rfl
theorem b2_yes2 (text : Array Nat) (lim s alt pos : Nat) (seen : Seen) :
    M.step { b2 text lim s alt alt s pos seen with answer := some true, weight := 1, frames := [{ wait := .nextStart, pc := 10, pos := s, outermost := true }] } =
      { b2 text lim s alt 10 s pos seen with answer := some true, weight := 0, frames := [] } := by
  rfl
theorem b2_end (text : Array Nat) (lim s alt pos : Nat) (seen : Seen) :
    M.step { b2 text lim s alt 10 s pos seen with answer := some true, weight := 0, frames := [] } =
      { b2 text lim s alt 10 s pos seen with answer := some true, weight := 0, frames := [], outcome := some .matched } := by
  rfl
theorem b2_done (text : Array Nat) (lim s alt pos handed : Nat) (seen : Seen) :
    ∃ m', ComesIn 4 (b2 text lim s alt 35 pos handed seen) m' ∧ m'.outcome = some .matched ∧ m'.start = s ∧ m'.handed = pos :=
  ⟨_, (((ComesIn.one (b2_ok ..)).trans (.one (b2_yes1 ..))).trans (.one (b2_yes2 ..))).trans (.one (b2_end ..)), rfl, rfl, rfl⟩
theorem q2_both {text : Array Nat} {lim s : Nat} (seen : Seen) (hs : s < lim) (h0 : tx text s = 13) (hs1 : s + 1 < lim) (h1 : tx text (s + 1) = 10) :
    ∃ m', ComesIn 20 (q2 text lim s seen) m' ∧ m'.outcome = some .matched ∧ m'.start = s ∧ m'.handed = s + 2 := by
  obtain ⟨m', c, r⟩ := b2_done text lim s 11 (s + 1 + 1) s ((((seen.add 7).add 16).add 16).add 15)
  exact ⟨m', ((((((ComesIn.one (q2_branch ..)).trans (.one (b2_lit12 _ _ _ _ _ _ _ hs h0))).trans (.one (b2_lit14 _ _ _ _ _ _ _ hs1 h1))).trans (.one (b2_jump16 ..))).trans c).le (by decide)), r⟩
theorem q2_feed {text : Array Nat} {lim s : Nat} (seen : Seen) (hs : s < lim) (h0 : tx text s = 10) :
    ∃ m', ComesIn 20 (q2 text lim s seen) m' ∧ m'.outcome = some .matched ∧ m'.start = s ∧ m'.handed = s + 1 := by
  obtain ⟨m', c, r⟩ := b2_done text lim s 18 (s + 1) s ((((seen.add 7).add 16).add 16).add 15)
  exact ⟨m', ((((((ComesIn.one (q2_branch ..)).trans (.one (b2_lit12_no _ _ _ _ _ _ _ (fun _ => by omega)))).trans (.one (b2_back11 ..))).trans (.one (b2_lit19 _ _ _ _ _ _ _ hs h0))).trans (.one (b2_jump21 ..))).trans c).le (by decide), r⟩
theorem q2_return {text : Array Nat} {lim s : Nat} (seen : Seen) (hs : s < lim) (h0 : tx text s = 13) (h1 : s + 1 < lim → tx text (s + 1) ≠ 10) :
    ∃ m', ComesIn 20 (q2 text lim s seen) m' ∧ m'.outcome = some .matched ∧ m'.start = s ∧ m'.handed = s + 1 := by
  have c1 := (((((ComesIn.one (q2_branch text lim s seen)).trans (.one (b2_lit12 _ _ _ _ _ _ _ hs h0))).trans (.one (b2_lit14_no _ _ _ _ _ _ _ h1))).trans (.one (b2_back11 ..))).trans (.one (b2_lit19_no _ _ _ _ _ _ _ (fun _ => by omega)))).trans (.one (b2_back18 ..))
  have c2 := ((((c1.trans (.one (b2_lit24 _ _ _ _ _ _ _ hs h0))).trans (.one (b2_assert ..))).trans (.one (a2_no _ _ _ _ _ h1))).trans (.one (a2_back ..))).trans (.one (b2_jump32 ..))
  obtain ⟨m', c, r⟩ := b2_done text lim s 23 (s + 1) (s + 1) _
  exact ⟨m', (c2.trans c).le (by decide), r⟩
noncomputable def find2 (text : Array Nat) : Nat → Nat → Option Nat
  | 0, _ => none
  | n + 1, s => if tx text s = 10 ∨ tx text s = 13 then some s else find2 text n (s + 1)
theorem set2 (c : Nat) (seen : Seen) : ∃ seen', inSet code2 c code2.size 5 true seen = .ok (decide (c = 10 ∨ c = 13), seen') := by
  have e : inSet code2 c code2.size 5 true seen = if (c == 10) = true then .ok (true, seen.add 16) else if (c == 13) = true then .ok (true, (seen.add 16).add 16) else .ok (false, ((seen.add 16).add 16).add 0) := rfl
  rw [e]
  by_cases h1 : c = 10
  · subst h1; exact ⟨_, rfl⟩
  · rw [if_neg (by simpa using h1)]
    by_cases h2 : c = 13
    · subst h2; exact ⟨_, rfl⟩
    · rw [if_neg (by simpa using h2), decide_eq_false (fun q => q.elim h1 h2)]; exact ⟨_, rfl⟩
theorem admitted2 (m : M) (text : Array Nat) (lim : Nat) (hm : m.code = code2) (ht : m.text = text) (hl : m.lim = lim) : ∀ (n s : Nat) (seen : Seen), s + n = lim →
    ∃ seen', M.admitted m (n + 1) s seen = .ok (find2 text n s, seen')
  | 0, s, seen, h => ⟨seen, by unfold M.admitted; rw [if_pos (by omega)]; rfl⟩
  | n + 1, s, seen, h => by
    unfold M.admitted find2
    rw [if_neg (by omega), hm, ht]
    obtain ⟨seen', e⟩ := set2 (text.getD s 0) seen
    rw [e]
    have et : text.getD s 0 = tx text s := by simp
    rw [et]
    by_cases hc : tx text s = 10 ∨ tx text s = 13
    · exact ⟨seen', by simp [hc]⟩
    · obtain ⟨s2, e2⟩ := admitted2 m text lim hm ht hl n (s + 1) seen' (by omega)
      exact ⟨s2, by simp [hc, e2]⟩
theorem search2 (text : Array Nat) (lim s : Nat) (hs : s < lim) : ∃ seen, forSearch code2 text 0 s lim false = match find2 text (lim - s) s with
    | some b => { q2 text lim s seen with start := b, pos := b, handed := b, frames := [{ wait := .nextStart, pc := 10, pos := b, outermost := true }] }
    | none => { q2 text lim s seen with frames := [], weight := 0, answer := some false } := by
  have e : ∃ sn : Seen, forSearch code2 text 0 s lim false = M.attemptFrom { q2 text lim s sn with frames := [], weight := 0 } s true := by
    have h : ¬ (decide (s > lim) || decide (lim - s < 1)) = true := by simp; omega
    exact ⟨_, (if_neg h).trans rfl⟩
  obtain ⟨sn, e⟩ := e
  rw [e]
  obtain ⟨seen', ea⟩ := admitted2 { q2 text lim s sn with frames := [], weight := 0 } text lim rfl rfl rfl (lim - s) s sn (by omega)
  have hf : M.hasFirstSet { q2 text lim s sn with frames := [], weight := 0 } = true := rfl
  refine ⟨seen', ?_⟩
  have e2 : M.admitted { q2 text lim s sn with frames := [], weight := 0 } (lim + 1 - s) s sn = .ok (find2 text (lim - s) s, seen') := by rw [show lim + 1 - s = lim - s + 1 by omega]; exact ea
  unfold M.attemptFrom
  rw [hf]
  show (match M.admitted { q2 text lim s sn with frames := [], weight := 0 } (lim + 1 - s) s sn with | .ok (some s', sn') => _ | .ok (none, sn') => _ | .error why => _) = _
  rw [e2]
  cases hfd : find2 text (lim - s) s with
  | none => rfl
  | some b => rfl
theorem find2_spec (text : Array Nat) : ∀ (n s b : Nat), find2 text n s = some b → s ≤ b ∧ b < s + n ∧ (tx text b = 10 ∨ tx text b = 13)
  | 0, _, _, h => nomatch h
  | n + 1, s, b, h => by
    unfold find2 at h
    by_cases hc : tx text s = 10 ∨ tx text s = 13
    · rw [if_pos hc] at h; cases h; exact ⟨Nat.le_refl _, by omega, hc⟩
    · rw [if_neg hc] at h
      have := find2_spec text n (s + 1) b h
      exact ⟨by omega, by omega, this.2.2⟩
noncomputable def wide2 (text : Array Nat) (lim b : Nat) : Nat := if tx text b = 13 ∧ b + 1 < lim ∧ tx text (b + 1) = 10 then b + 2 else b + 1
theorem run2 (text : Array Nat) (lim s : Nat) :
    match find2 text (lim - s) s with
    | some b => ∃ m', ComesIn 25 (forSearch code2 text 0 s lim false) m' ∧ m'.outcome = some .matched ∧ m'.start = b ∧ m'.handed = wide2 text lim b
    | none => ∃ m', ComesIn 25 (forSearch code2 text 0 s lim false) m' ∧ m'.outcome = some .failed := by
  by_cases hs : s < lim
  · obtain ⟨seen, e⟩ := search2 text lim s hs
    cases hfd : find2 text (lim - s) s with
    | none =>
      rw [hfd] at e
      simp only [] at e ⊢
      rw [e]
      exact ⟨_, (ComesIn.one (m' := { q2 text lim s seen with frames := [], weight := 0, answer := some false, outcome := some .failed }) (by simp [M.step, q2])).le (by decide), rfl⟩
    | some b =>
      rw [hfd] at e
      simp only [] at e ⊢
      rw [e]
      obtain ⟨h1, h2, h3⟩ := find2_spec _ _ _ _ hfd
      have eq : ({ q2 text lim s seen with start := b, pos := b, handed := b, frames := [{ wait := .nextStart, pc := 10, pos := b, outermost := true }] } : M) = q2 text lim b seen := rfl
      rw [eq]
      unfold wide2
      by_cases hw : tx text b = 13 ∧ b + 1 < lim ∧ tx text (b + 1) = 10
      · rw [if_pos hw]
        obtain ⟨m', c, r⟩ := q2_both seen (by omega) hw.1 hw.2.1 hw.2.2
        exact ⟨m', c.le (by decide), r⟩
      · rw [if_neg hw]
        rcases h3 with h3 | h3
        · obtain ⟨m', c, r⟩ := q2_feed (lim := lim) seen (by omega) h3
          exact ⟨m', c.le (by decide), r⟩
        · obtain ⟨m', c, r⟩ := q2_return (lim := lim) seen (by omega) h3 (fun q r => hw ⟨h3, q, r⟩)
          exact ⟨m', c.le (by decide), r⟩
  · rw [show lim - s = 0 by omega]
    have e : ∃ m, forSearch code2 text 0 s lim false = m ∧ m.outcome = none ∧ m.answer = some false ∧ m.frames = [] := by
      have h : (decide (s > lim) || decide (lim - s < 1)) = true := by simp; omega
      exact ⟨_, if_pos h, rfl, rfl, rfl⟩
    obtain ⟨m, e, h1, h2, h3⟩ := e
    rw [e]
    exact ⟨_, (ComesIn.one (m' := { m with outcome := some .failed }) (by simp [M.step, h1, h2, h3]) h1).le (by decide), rfl⟩
end Mine
end
section
open PySem PySem.W PyProof.Rows PySem.Calls PySem.Spec
open PySem.Builtin.Re
set_option Elab.async false
set_option maxRecDepth 100000
set_option maxHeartbeats 4000000
namespace Mine
section
variable {M : Model} {A : Around} {E : Value → Shared → Prop} {s : Shared}
theorem drive_lem : ∀ (turns n : Nat) (m : Sre.M) (Q : Sre.M → Shared → Prop), n < 4 * turns → (Sre.M.runFor n m).outcome.isSome = true → Q (Sre.M.runFor n m) s → wpAny M A (reDrive turns m) Q E s
  | 0, n, _, _, h, _, _ => by omega
  | turns + 1, n, m, Q, h, ho, hq => by
    unfold reDrive
    show wpAny M A (if (Sre.M.runFor 4 m).outcome.isSome = true then pure (Sre.M.runFor 4 m) else (do rule "sre.turn"; reDrive turns (Sre.M.runFor 4 m))) Q E s
    by_cases h4 : (Sre.M.runFor 4 m).outcome.isSome = true
    · rw [if_pos h4]
      have e : Sre.M.runFor n m = Sre.M.runFor 4 m := by
        rcases Nat.lt_or_ge n 4 with q | q
        · have := runFor_add n (4 - n) m
          rw [show n + (4 - n) = 4 by omega, runFor_done ho] at this
          exact this.symm
        · have := runFor_add 4 (n - 4) m
          rw [show 4 + (n - 4) = n by omega, runFor_done h4] at this
          exact this
      rw [e] at hq
      exact wpAny_pure hq
    · rw [if_neg h4]
      have hn : ¬ n < 4 := fun q => h4 (by
        have := runFor_add n (4 - n) m
        rw [show n + (4 - n) = 4 by omega, runFor_done ho] at this
        rw [this]; exact ho)
      have e := runFor_add 4 (n - 4) m
      rw [show 4 + (n - 4) = n by omega] at e
      rw [e] at ho hq
      exact wpAny_bind (wpAny_rule (drive_lem turns (n - 4) _ Q (by omega) ho hq))
theorem runToEnd_lem {m m' : Sre.M} {k : Nat} {Q : Option Sre.M → Shared → Prop} (c : ComesIn k m m') (hk : k ≤ 2 ^ 40) (h : (m'.outcome = some .matched ∧ Q (some m') s) ∨ (m'.outcome = some .failed ∧ Q none s)) :
    wpAny M A (reRunToEnd m) Q E s := by
  obtain ⟨n, hn, e⟩ := c
  unfold reRunToEnd
  refine wpAny_bind (drive_lem _ n m _ (by omega) ?_ ?_)
  · rw [e]; rcases h with h | h <;> rw [h.1] <;> rfl
  · rw [e]
    refine wpAny_bind (wpAny_forIn_list _ (fun _ _ s' => s' = s) _ (fun i rest b s' hs => ?_) (fun b s' hs => ?_) _ _ rfl)
    · by_cases hi : m'.seen.has i = true
      · rw [if_pos hi]; exact wpAny_bind (wpAny_rule (wpAny_pure hs))
      · rw [if_neg hi]; exact wpAny_pure hs
    · rw [hs]
      rcases h with h | h
      · rw [h.1]; exact wpAny_pure h.2
      · rw [h.1]; exact wpAny_pure h.2
end
section
variable {prog : Program} {w : World} {A : Around} {E : Value → Shared → Prop} {s : Shared}
structure IsPat (h : Heap) (p c : Addr) (code : Array Nat) : Prop where
  pat : ∃ v0 v1, h.get? p = some { cls := .type "re.Pattern", data := .fields #[v0, v1, .int 0 0, .none, .none, .ref c, .int 0 0] }
  code : ∃ items, h.get? c = some { cls := .type "tuple", data := .seq items } ∧ (items.map reRawOf).map (·.toNat) = code
theorem whole_lem {p c : Addr} {code : Array Nat} {x : Str} {t : Tok} {Q : ReTarget → Shared → Prop} (P : IsPat s.heap p c code)
    (h : Q { pattern := .ref p, string := .str x t, code, text := x.cps, kind := 0, groups := 0, pos := 0, lim := x.cps.size } s) :
    wpAny (model prog w) A (reWholeTarget (.ref p) (.str x t)) Q E s := by
  obtain ⟨⟨v0, v1, hp⟩, items, hc, rfl⟩ := P
  unfold reWholeTarget
  refine wpAny_bind (wpAny_fieldsOf hp rfl ?_)
  show wpAny _ A (do
    let __discr ← (pure (x.cps, 0) : Sem (Array Nat × Nat))
    _) _ _ _
  refine wpAny_bind (wpAny_pure ?_)
  show wpAny _ A (reRawItems (.ref c) >>= _) _ _ _
  unfold reRawItems
  refine wpAny_bind (wpAny_bind (wpAny_seqItems hc rfl (wpAny_pure (wpAny_pure ?_))))
  exact h

noncomputable def subOut (text : Array Nat) (repl : List Nat) (nx : Nat → Option (Nat × Nat)) : Nat → Nat → List Nat
  | 0, done => (text.extract done text.size).toList
  | n + 1, done => match nx done with
    | some (b, e) => (text.extract done b).toList ++ repl ++ subOut text repl nx n e
    | none => (text.extract done text.size).toList
noncomputable def Nexts (code text : Array Nat) (nx : Nat → Option (Nat × Nat)) : Prop :=
  ∀ d, d ≤ text.size → match nx d with
    | some (b, e) => d ≤ b ∧ b < e ∧ e ≤ text.size ∧ ∃ m', ComesIn (3 * text.size + 30) (Sre.forSearch code text 0 d text.size false) m' ∧ m'.outcome = some .matched ∧ m'.start = b ∧ m'.handed = e
    | none => ∃ m', ComesIn (3 * text.size + 30) (Sre.forSearch code text 0 d text.size false) m' ∧ m'.outcome = some .failed
theorem entry_subloop : entryFor table "re.Pattern.sub.loop" = some Builtin.«re.Pattern.sub.loop» := entryFor_of_tree (by kernel_rfl)
theorem entry_sub : entryFor table "re.Pattern.sub" = some Builtin.«re.Pattern.sub» := entryFor_of_tree (by kernel_rfl)
theorem plain_subloop : plainId "re.Pattern.sub.loop" = true := by decide +kernel
theorem plainAttrs_pat : PlainAttrs "re.Pattern" :=
  ⟨⟨"object.__getattribute__", by rw [typeLookup_type, builtinLookup_eq_fast]; kernel_rfl, by decide +kernel⟩, by rw [typeLookup_type, builtinLookup_eq_fast]; kernel_rfl⟩
theorem slot_sub : Slot "re.Pattern" "sub" "re.Pattern.sub" :=
  .of (owner := "re.Pattern") (n := "sub") (by rw [typeLookup_type, builtinLookup_eq_fast]; kernel_rfl) (by decide +kernel) (by decide +kernel) (by decide +kernel)
    (by first | exact .inl (by decide +kernel) | exact .inr (by decide +kernel)) (by rw [isSubtype_type]; kernel_rfl)
theorem type_sub : typeOf (.builtin "re.Pattern.sub") = pure (.type "method_descriptor") := by show builtinType _ = _; rw [builtinType_eq_fast]; kernel_rfl
theorem args_sub (a b c : Value) : argsOk "re.Pattern.sub" ⟨[a, b, c], []⟩ := by unfold argsOk; kernel_rfl

end
end Mine
end
section
open PySem PySem.W PyProof.Rows PySem.Calls PySem.Spec
open PySem.Builtin.Re
set_option Elab.async false
set_option maxRecDepth 100000
set_option maxHeartbeats 4000000
namespace Mine
section
variable {prog : Program} {w : World} {A : Around} {E : Value → Shared → Prop} {s : Shared}
theorem strsAre_snoc {y : Str} {t : Tok} : ∀ {vs : List Value} {ys : List Str}, StrsAre vs ys → StrsAre (vs ++ [.str y t]) (ys ++ [y])
  | _, _, .nil => .cons y t .nil
  | _, _, .cons y' t' h => .cons y' t' (strsAre_snoc h)
noncomputable def flat (ys : List Str) : List Nat := ys.flatMap fun y => y.cps.toList
theorem flat_snoc (ys : List Str) (y : Str) : flat (ys ++ [y]) = flat ys ++ y.cps.toList := by simp [flat]
variable {h₀ : Heap} {L p c D : Addr} {m : Str → Option Value} {news : List (Addr × Obj)} {code : Array Nat} {x repl : Str} {t tr : Tok} {nx : Nat → Option (Nat × Nat)}
theorem push_lem {h : Heap} {tk : Nat} {vs : List Value} {k : Nat} {v : Str} {tv : Tok} {Q : Unit → Shared → Prop} (F : Fr h₀ L h m) (N : News h₀ L h news) (hDL : D ≠ L) (hD0 : h₀.get? D = none) (hDn : ∀ q ∈ news, q.1 ≠ D)
    (hD : h.get? D = some (seqObj "list" vs.toArray k)) (hlen : vs.length ≤ 2 ^ 20)
    (hq : ∀ h' k', Fr h₀ L h' m → News h₀ L h' news → h'.get? D = some (seqObj "list" (vs ++ [Value.str v tv]).toArray k') → Q () { s with heap := h', toks := tk }) :
    wpAny (model prog w) A (updateSeq D (·.push (Value.str v tv))) Q E { s with heap := h, toks := tk } := by
  have s1 := Heap.SameBut.update h D (Obj.mapSeq (·.push (Value.str v tv)))
  have e := get?_update_seq hD (·.push (Value.str v tv))
  rw [show (vs.toArray.push (.str v tv)) = (vs ++ [Value.str v tv]).toArray by simp] at e
  refine wpAny_updateSeq hD rfl (hq _ _ (ksk_fr F s1 hDL hD0) (ksk_news N s1 hDn) e) ?_ ?_
  · have : sizeLine = 2 ^ 24 := rfl
    simp only [List.size_toArray]; omega
  · have : sizeLine = 2 ^ 24 := rfl
    simp only [Array.size_push, List.size_toArray]; omega

theorem subOut_fuel {text : Array Nat} {rp : List Nat} {code : Array Nat} {nx : Nat → Option (Nat × Nat)} (hnx : Nexts code text nx) : ∀ (n n' done : Nat), done ≤ text.size → text.size - done < n → text.size - done < n' → subOut text rp nx n done = subOut text rp nx n' done
  | 0, _, _, _, h, _ => by omega
  | _ + 1, 0, _, _, _, h => by omega
  | n + 1, n' + 1, done, hd, h, h' => by
    unfold subOut
    have q := hnx done hd
    cases e : nx done with
    | none => rfl
    | some be =>
      obtain ⟨b, e'⟩ := be
      rw [e] at q
      obtain ⟨q1, q2, q3, _⟩ := q
      simp only []
      rw [subOut_fuel hnx n n' e' q3 (by omega) (by omega)]
noncomputable def subRest (text : Array Nat) (rp : List Nat) (nx : Nat → Option (Nat × Nat)) (done : Nat) : List Nat := subOut text rp nx (text.size - done + 1) done
theorem subRest_some {text : Array Nat} {rp : List Nat} {code : Array Nat} {nx : Nat → Option (Nat × Nat)} (hnx : Nexts code text nx) {done b e : Nat} (hd : done ≤ text.size) (h : nx done = some (b, e)) :
    subRest text rp nx done = (text.extract done b).toList ++ rp ++ subRest text rp nx e := by
  have q := hnx done hd
  rw [h] at q
  obtain ⟨q1, q2, q3, _⟩ := q
  unfold subRest
  rw [subOut, h]
  simp only []
  rw [subOut_fuel hnx _ (text.size - e + 1) e q3 (by omega) (by omega)]
theorem subRest_none {text : Array Nat} {rp : List Nat} {nx : Nat → Option (Nat × Nat)} {done : Nat} (h : nx done = none) : subRest text rp nx done = (text.extract done text.size).toList := by
  unfold subRest; rw [subOut, h]
theorem join_empty (ys : List Str) (sep : Str) (hs : sep.cps = #[]) : (Txt.join sep ys).cps.toList = flat ys := by
  unfold Txt.join Builtin.Str.glued
  rw [hs]
  cases ys with
  | nil => rfl
  | cons y r =>
    simp only [List.drop_succ_cons, List.drop_zero, List.headD_cons, Array.append_empty]
    have : ∀ (l : List Str) (acc : Array Nat), (l.foldl (fun acc p => acc ++ p.cps) acc).toList = acc.toList ++ flat l := by
      intro l
      induction l with
      | nil => intro acc; simp [flat]
      | cons z l ih => intro acc; rw [List.foldl_cons, ih]; simp [flat]
    rw [this]
    simp [flat]
theorem flat_len (ys : List Str) : (flat ys).length = (ys.map (·.length)).sum := by
  induction ys with
  | nil => rfl
  | cons y r ih => simp [flat, Str.length]

theorem subloop_lem {R : Result → Shared → Prop} (hx : x.cps.size ≤ 4096) (P : IsPat h₀ p c code) (hnx : Nexts code x.cps nx) (hDL : D ≠ L) (hD0 : h₀.get? D = none) (hDn : ∀ q ∈ news, q.1 ≠ D)
    (hz : (subRest x.cps repl.cps.toList nx 0).length ≤ 65536) (hR : ∀ t' h' tk', Fr h₀ L h' m → News h₀ L h' news → R (.ok (.ret (.str ⟨(subRest x.cps repl.cps.toList nx 0).toArray⟩ t'))) { s with heap := h', toks := tk' }) :
    ∀ (n done : Nat) (cnt : Int) (h : Heap) (tk : Nat) (vs : List Value) (ys : List Str) (k : Nat), x.cps.size - done < n → done ≤ x.cps.size → Fr h₀ L h m → News h₀ L h news →
      h.get? D = some (seqObj "list" vs.toArray k) → StrsAre vs ys → vs.length ≤ 2 * done → flat ys ++ subRest x.cps repl.cps.toList nx done = subRest x.cps repl.cps.toList nx 0 →
      codeAny (model prog w) A (.builtin "re.Pattern.sub.loop" ⟨[.ref p, .str x t, .str repl tr, rawInt 0, rawInt 0, rawInt cnt, rawInt (done : Nat), rawInt (done : Nat), .bool false, .ref D, .bool false], []⟩) R { s with heap := h, toks := tk } := by
  have hsl : sizeLine = 2 ^ 24 := rfl
  intro n
  induction n with
  | zero => intro done cnt h tk vs ys k hn; omega
  | succ n ih =>
    intro done cnt h tk vs ys k hn hd F N hD hy hvl hout
    refine codeAny_builtin entry_subloop ?_
    rw [Around.under_plainId plain_subloop _]
    have Ph : IsPat h p c code := ⟨let ⟨a, b, e⟩ := P.pat; ⟨a, b, F.keep _ _ e⟩, let ⟨i, e, q⟩ := P.code; ⟨i, F.keep _ _ e, q⟩⟩
    show wpAny _ A.in1 (reWholeTarget (.ref p) (.str x t) >>= _) _ _ _
    refine wpAny_bind (whole_lem Ph ?_)
    show wpAny _ A.in1 (do
      let found ← reNextFound { pattern := .ref p, string := .str x t, code, text := x.cps, kind := 0, groups := 0, pos := 0, lim := x.cps.size } (done : Int).toNat false
      _) _ _ _
    rw [Int.toNat_natCast]
    have q := hnx done hd
    cases hnd : nx done with
    | some be =>
      obtain ⟨b, e⟩ := be
      rw [hnd] at q
      obtain ⟨q1, q2, q3, m', cm, hom, hst, hha⟩ := q
      refine wpAny_bind (runToEnd_lem cm (by omega) (.inl ⟨hom, ?_⟩))
      dsimp only
      rw [hst, hha, show (e == b) = false from beq_false_of_ne (by omega)]
      -- the end of a turn, from the list as it then stands
      have key : ∀ (h' : Heap) (tk' : Nat) (vs' : List Value) (ys' : List Str) (k' : Nat), Fr h₀ L h' m → News h₀ L h' news → h'.get? D = some (seqObj "list" vs'.toArray k') → StrsAre vs' ys' → vs'.length ≤ 2 * done + 1 → flat ys' = flat ys ++ (x.cps.extract done b).toList →
          wpAny (model prog w) A.in1 (do
            updateSeq D (·.push (Value.str repl tr))
            again (.builtin "re.Pattern.sub.loop" ⟨[.ref p, .str x t, .str repl tr, rawInt 0, rawInt 0, rawInt (cnt + 1), rawInt (e : Nat), rawInt (e : Nat), .bool false, .ref D, .bool false], []⟩))
            (fun fin s' => match fin with | .done f => R (.ok f) s' | .again c' => c'.quiet = true ∧ codeAny (model prog w) A c' R s') (fun e s' => R (.error e) s') { s with heap := h', toks := tk' } := by
        intro h' tk' vs' ys' k' F' N' hD' hy' hl' hf'
        refine wpAny_bind (push_lem F' N' hDL hD0 hDn hD' (by omega) fun h2 k2 F2 N2 hD2 => ?_)
        refine wpAny_pure ⟨plainId_quiet plain_subloop _, ?_⟩
        refine ih e (cnt + 1) h2 tk' _ (ys' ++ [repl]) k2 (by omega) q3 F2 N2 hD2 (strsAre_snoc hy') (by simp; omega) ?_
        rw [flat_snoc, hf', ← hout, subRest_some hnx hd hnd]
        simp [List.append_assoc]
      by_cases hlt : done < b
      · rw [if_pos hlt]
        refine wpAny_bind ?_
        show wpAny _ _ (mkStr ⟨x.cps.extract done b⟩) _ _ _
        refine wpAny_mkStr ?_ (by show (x.cps.extract done b).size ≤ sizeLine; rw [Array.size_extract]; omega)
        refine wpAny_bind (push_lem F N hDL hD0 hDn hD (by omega) fun h2 k2 F2 N2 hD2 => ?_)
        exact key h2 _ _ (ys ++ [⟨x.cps.extract done b⟩]) k2 F2 N2 hD2 (strsAre_snoc hy) (by simp; omega) (flat_snoc ..)
      · rw [if_neg hlt]
        exact key h tk vs ys k F N hD hy (by omega) (by rw [show b = done by omega]; simp)
    | none =>
      rw [hnd] at q
      obtain ⟨m', cm, hom⟩ := q
      refine wpAny_bind (runToEnd_lem cm (by omega) (.inr ⟨hom, ?_⟩))
      dsimp only
      have key : ∀ (h' : Heap) (tk' : Nat) (vs' : List Value) (ys' : List Str) (k' : Nat), Fr h₀ L h' m → News h₀ L h' news → h'.get? D = some (seqObj "list" vs'.toArray k') → StrsAre vs' ys' → flat ys' = subRest x.cps repl.cps.toList nx 0 →
          wpAny (model prog w) A.in1 (do
            let joiner ← reSlice x.cps 0 0 0
            let its ← seqItems? (.ref D)
            if (its.getD #[]).isEmpty = true then do
              let text ← pure joiner
              if false = true then (do
                let i ← holding [text] (do
                  let i ← mkInt cnt
                  newTuple [text, i])
                ret i) else ret text
            else do
              let text ← call (Value.builtin (if (0 == 0) = true then "str.join" else "bytes.join")) [joiner, Value.ref D]
              if false = true then (do
                let i ← holding [text] (do
                  let i ← mkInt cnt
                  newTuple [text, i])
                ret i) else ret text)
            (fun fin s' => match fin with | .done f => R (.ok f) s' | .again c' => c'.quiet = true ∧ codeAny (model prog w) A c' R s') (fun e s' => R (.error e) s') { s with heap := h', toks := tk' } := by
        intro h' tk' vs' ys' k' F' N' hD' hy' hf'
        refine wpAny_bind ?_
        show wpAny _ _ (mkStr ⟨x.cps.extract 0 0⟩) _ _ _
        refine wpAny_mkStr ?_ (by show (x.cps.extract 0 0).size ≤ sizeLine; rw [Array.size_extract]; omega)
        refine wpAny_bind (wpAny_seqItems hD' rfl ?_)
        by_cases he : (((some vs'.toArray).getD #[]).isEmpty) = true
        · rw [if_pos he]
          have : vs' = [] := by simpa using he
          subst this
          cases hy'
          refine wpAny_bind (wpAny_pure ?_)
          refine wpAny_pure ?_
          have h0 : subRest x.cps repl.cps.toList nx 0 = [] := hf'.symm
          have := hR tk' h' (tk' + 1) F' N'
          rw [h0] at this
          have ex : x.cps.extract 0 0 = #[] := by simp
          rw [ex]
          exact this
        · rw [if_neg he]
          refine wpAny_bind ?_
          show wpAny _ _ (call (.builtin "str.join") [.str ⟨x.cps.extract 0 0⟩ tk', .ref D]) _ _ _
          refine join_list (ys := ys') ⟨_, hD', rfl, _, rfl⟩ (by simpa using hy') ?_ (fun t' k' => wpAny_pure ?_)
          · rw [← flat_len, hf']
            have : (⟨x.cps.extract 0 0⟩ : Str).length = 0 := by simp [Str.length]
            rw [this]; omega
          · have e := join_empty ys' ⟨x.cps.extract 0 0⟩ (by simp)
            rw [hf'] at e
            have e2 : Txt.join ⟨x.cps.extract 0 0⟩ ys' = ⟨(subRest x.cps repl.cps.toList nx 0).toArray⟩ := by
              rw [← e]
            rw [e2]
            exact hR t' h' _ F' N'
      by_cases hlt : done < x.cps.size
      · rw [if_pos hlt]
        refine wpAny_bind ?_
        show wpAny _ _ (mkStr ⟨x.cps.extract done x.cps.size⟩) _ _ _
        refine wpAny_mkStr ?_ (by show (x.cps.extract done x.cps.size).size ≤ sizeLine; rw [Array.size_extract]; omega)
        refine wpAny_bind (push_lem F N hDL hD0 hDn hD (by omega) fun h2 k2 F2 N2 hD2 => ?_)
        exact key h2 _ _ (ys ++ [⟨x.cps.extract done x.cps.size⟩]) k2 F2 N2 hD2 (strsAre_snoc hy) (by rw [flat_snoc, ← hout, subRest_none hnd])
      · rw [if_neg hlt]
        exact key h tk vs ys k F N hD hy (by rw [← hout, subRest_none hnd, show done = x.cps.size by omega]; simp)
end
end Mine
end
section
open PySem PySem.W PyProof.Rows PySem.Calls PySem.Spec
open PySem.Builtin.Re
set_option Elab.async false
set_option maxRecDepth 100000
set_option maxHeartbeats 4000000
namespace Mine
section
variable {prog : Program} {w : World} {A : Around} {E : Value → Shared → Prop} {s : Shared}
theorem plain_sub : plainId "re.Pattern.sub" = true := by decide +kernel
theorem named_lem (a b : Value) : reNamed "re.Pattern.sub" "sub" ["repl", "string", "count"] 2 [a, b] [] = pure [some a, some b, none] := rfl
theorem str_no_call : typeLookup (.type "str") "__call__" = pure none := by rw [typeLookup_type, builtinLookup_eq_fast]; kernel_rfl
variable {h₀ : Heap} {L p c : Addr} {m : Str → Option Value} {news : List (Addr × Obj)} {code : Array Nat} {x repl : Str} {t tr : Tok} {nx : Nat → Option (Nat × Nat)}
theorem IsPat.typeIs {h : Heap} (P : IsPat h p c code) {s : Shared} (e : s.heap = h) : s.TypeIs (.ref p) "re.Pattern" := by
  obtain ⟨v0, v1, hp⟩ := P.pat
  subst e
  exact ⟨_, hp, rfl⟩
theorem sub_lem {Q : Value → Shared → Prop} (F : Fr h₀ L s.heap m) (N : News h₀ L s.heap news) (P : IsPat h₀ p c code) (hnx : Nexts code x.cps nx) (hb : repl.cps.contains 92 = false) (hx : x.cps.size ≤ 4096)
    (hz : (subRest x.cps repl.cps.toList nx 0).length ≤ 65536)
    (hQ : ∀ t' h' tk', Fr h₀ L h' m → News h₀ L h' news → Q (.str ⟨(subRest x.cps repl.cps.toList nx 0).toArray⟩ t') { s with heap := h', toks := tk' }) :
    wpAny (model prog w) A (call (.builtin "re.Pattern.sub") [.ref p, .str repl tr, .str x t]) Q E s := by
  have Ph : IsPat s.heap p c code := ⟨let ⟨a, b, e⟩ := P.pat; ⟨a, b, F.keep _ _ e⟩, let ⟨i, e, q⟩ := P.code; ⟨i, F.keep _ _ e, q⟩⟩
  refine wpAny_call (codeAny_call_builtin plain_sub entry_sub (slot_sub.check _ _ _ _ _ _ _ _ (Ph.typeIs rfl) (args_sub ..) ?_))
  show wpAny _ A.in1 (reNamed "re.Pattern.sub" "sub" ["repl", "string", "count"] 2 [.str repl tr, .str x t] [] >>= _) _ _ _
  rw [named_lem]
  refine wpAny_bind (wpAny_pure ?_)
  dsimp only
  refine wpAny_bind (wpAny_pure ?_)
  refine wpAny_bind (wpAny_specialOf (T := "str") (typeIs_str _ _ _) str_no_call ?_)
  rw [if_neg (by simp)]
  refine wpAny_bind (wpAny_of_eq (show asStr? (Value.str repl tr) = pure (some repl) from rfl) ?_)
  dsimp only
  refine wpAny_bind (wpAny_pure ?_)
  rw [if_neg (by simp), hb, if_pos (show (!false) = true from rfl)]
  refine wpAny_bind (wpAny_pure ?_)
  dsimp only
  refine wpAny_bind (wpAny_holding (whole_lem Ph ?_))
  rw [if_neg (by decide)]
  refine wpAny_bind (wpAny_newList ?_ (Nat.zero_le _))
  refine wpAny_pure ⟨plainId_quiet plain_subloop _, ?_⟩
  have hL : L < s.heap.objs.size := F.ns.lt
  have hb0 : h₀.get? s.heap.objs.size = none := Heap.get?_none_of_le (Nat.le_of_lt (Nat.lt_of_le_of_lt F.above hL))
  exact subloop_lem (R := fun r s' => match r with | .ok (.ret v) => Q v s' | .ok _ => False | .error e => E e s') (s := s) (D := s.heap.objs.size) hx P hnx (Nat.ne_of_gt hL) hb0 (fun q hq => Nat.ne_of_lt (Heap.lt_size (N q hq).1)) hz
    (fun t' h' tk' F' N' => hQ t' h' tk' F' N') (x.cps.size + 1) 0 0 _ s.toks [] [] 0 (by omega) (Nat.zero_le _) (F.push _)
    (fun q hq => ⟨Heap.get?_push_of_some _ (N q hq).1, (N q hq).2⟩) (Heap.get?_push_size _ rfl) .nil (Nat.zero_le _) (by simp [flat])
noncomputable def nx1 (text : Array Nat) (d : Nat) : Option (Nat × Nat) := (find1 text text.size (text.size - d) d).map fun b => (b, b + 1)
noncomputable def nx2 (text : Array Nat) (d : Nat) : Option (Nat × Nat) := (find2 text (text.size - d) d).map fun b => (b, wide2 text text.size b)
theorem find1_spec (text : Array Nat) (lim : Nat) : ∀ (n s b : Nat), find1 text lim n s = some b → s ≤ b ∧ b < s + n ∧ (b = 0 ∨ tx text (b - 1) = 10) ∧ tx text b = 46
  | 0, _, _, h => nomatch h
  | n + 1, s, b, h => by
    unfold find1 at h
    by_cases hc : (s = 0 ∨ tx text (s - 1) = 10) ∧ tx text s = 46
    · rw [if_pos hc] at h; cases h; exact ⟨Nat.le_refl _, by omega, hc.1, hc.2⟩
    · rw [if_neg hc] at h
      have := find1_spec text lim n (s + 1) b h
      exact ⟨by omega, by omega, this.2.2⟩
theorem nexts1 (text : Array Nat) : Nexts code1 text (nx1 text) := by
  intro d hd
  have h := run1 text text.size d
  unfold nx1
  cases e : find1 text text.size (text.size - d) d with
  | none => rw [e] at h; obtain ⟨m', c, r⟩ := h; exact ⟨m', c.le (by omega), r⟩
  | some b =>
    rw [e] at h
    obtain ⟨m', c, r⟩ := h
    have q := find1_spec _ _ _ _ _ e
    exact ⟨q.1, Nat.lt_succ_self _, by omega, m', c.le (by omega), r⟩
theorem wide2_le (text : Array Nat) {b : Nat} (h : b < text.size) : b < wide2 text text.size b ∧ wide2 text text.size b ≤ text.size := by
  unfold wide2; split <;> omega
theorem nexts2 (text : Array Nat) : Nexts code2 text (nx2 text) := by
  intro d hd
  have h := run2 text text.size d
  unfold nx2
  cases e : find2 text (text.size - d) d with
  | none => rw [e] at h; obtain ⟨m', c, r⟩ := h; exact ⟨m', c.le (by omega), r⟩
  | some b =>
    rw [e] at h
    obtain ⟨m', c, r⟩ := h
    have q := find2_spec _ _ _ _ e
    have w := wide2_le text (b := b) (by omega)
    exact ⟨q.1, w.1, w.2, m', c.le (by omega), r⟩
end
end Mine
end
section
open PySem PySem.W PyProof.Rows PySem.Calls PySem.Spec
set_option Elab.async false
set_option maxRecDepth 100000
set_option maxHeartbeats 4000000
namespace Mine
theorem subOut_len {text : Array Nat} {rp : List Nat} {code : Array Nat} {nx : Nat → Option (Nat × Nat)} (hnx : Nexts code text nx) (hr : rp.length ≤ 2) : ∀ (n done : Nat), done ≤ text.size → (subOut text rp nx n done).length ≤ 2 * (text.size - done)
  | 0, done, hd => by unfold subOut; simp; omega
  | n + 1, done, hd => by
    unfold subOut
    have q := hnx done hd
    cases e : nx done with
    | none => simp; omega
    | some be =>
      obtain ⟨b, e'⟩ := be
      rw [e] at q
      obtain ⟨q1, q2, q3, _⟩ := q
      have ih := subOut_len hnx hr n e' q3
      simp only [List.length_append, Array.length_toList, Array.size_extract]
      omega
theorem subRest_len {text : Array Nat} {rp : List Nat} {code : Array Nat} {nx : Nat → Option (Nat × Nat)} (hnx : Nexts code text nx) (hr : rp.length ≤ 2) : (subRest text rp nx 0).length ≤ 2 * text.size := by
  have := subOut_len hnx hr (text.size - 0 + 1) 0 (Nat.zero_le _)
  simpa [subRest] using this
noncomputable def endsS (x : Str) : Str := ⟨(subRest x.cps (Str.ofString "\x0d\n").cps.toList (nx2 x.cps) 0).toArray⟩
noncomputable def dotsS (x : Str) : Str := ⟨(subRest x.cps (Str.ofString "..").cps.toList (nx1 x.cps) 0).toArray⟩
noncomputable def quoteS (x : Str) : Str := dotsS (endsS x)
theorem endsS_len (x : Str) : (endsS x).length ≤ 2 * x.length := by
  have := subRest_len (nexts2 x.cps) (rp := (Str.ofString "\x0d\n").cps.toList) (by decide +kernel)
  simpa [endsS, Str.length] using this
theorem dotsS_len (x : Str) : (dotsS x).length ≤ 2 * x.length := by
  have := subRest_len (nexts1 x.cps) (rp := (Str.ofString "..").cps.toList) (by decide +kernel)
  simpa [dotsS, Str.length] using this
theorem pat2_of {P : Params} {h : Heap} (X : (hdA.heap_1_1 P).In h) : IsPat h 56 55 code2 := ⟨⟨_, _, X _ _ rfl⟩, ⟨_, X _ _ rfl, by decide +kernel⟩⟩
theorem pat1_of {P : Params} {h : Heap} (X : (hdA.heap_1_1 P).In h) : IsPat h 51 50 code1 := ⟨⟨_, _, X _ _ rfl⟩, ⟨_, X _ _ rfl, by decide +kernel⟩⟩
section
variable {prog : Program} {w : World} {A : Around} {E : Value → Shared → Prop} {s : Shared} {h₀ : Heap} {L p c : Addr} {m : Str → Option Value} {news : List (Addr × Obj)} {code : Array Nat}
theorem getSub {pl : Sem Bool} {Q : Value × List Value → Shared → Prop} (F : Fr h₀ L s.heap m) (P : IsPat h₀ p c code) (h : Q (.builtin "re.Pattern.sub", [.ref p]) s) :
    wpAny (model prog w) A (getMethod (.ref p) "sub" pl) Q E s := by
  obtain ⟨v0, v1, hp⟩ := P.pat
  have hp' := F.keep _ _ hp
  exact getMethod_builtin ⟨_, hp', rfl⟩ plainAttrs_pat slot_sub type_sub (fun a e => by cases e; exact ⟨_, hp', rfl⟩) h
theorem ends_lem {x : Str} {t tr : Tok} {Q : Value → Shared → Prop} (F : Fr h₀ L s.heap m) (N : News h₀ L s.heap news) (P : IsPat h₀ p c code2) (hx : x.length ≤ 4096)
    (hQ : ∀ t' h' tk', Fr h₀ L h' m → News h₀ L h' news → Q (.str (endsS x) t') { s with heap := h', toks := tk' }) :
    wpAny (model prog w) A (call (.builtin "re.Pattern.sub") [.ref p, .str (Str.ofString "\x0d\n") tr, .str x t]) Q E s :=
  sub_lem F N P (nexts2 x.cps) (by decide +kernel) hx (by have := endsS_len x; simp [endsS, Str.length] at this hx ⊢; omega) hQ
theorem dots_lem {x : Str} {t tr : Tok} {Q : Value → Shared → Prop} (F : Fr h₀ L s.heap m) (N : News h₀ L s.heap news) (P : IsPat h₀ p c code1) (hx : x.length ≤ 4096)
    (hQ : ∀ t' h' tk', Fr h₀ L h' m → News h₀ L h' news → Q (.str (dotsS x) t') { s with heap := h', toks := tk' }) :
    wpAny (model prog w) A (call (.builtin "re.Pattern.sub") [.ref p, .str (Str.ofString "..") tr, .str x t]) Q E s :=
  sub_lem F N P (nexts1 x.cps) (by decide +kernel) hx (by have := dotsS_len x; simp [dotsS, Str.length] at this hx ⊢; omega) hQ
end
theorem quote_c (w : World) (mean) (mg mb) (x : Str) (t : Tok) : Clm w mean mg mb 63 (x.length ≤ 1000) [.str x t] (fun t => .str (quoteS x) t) := by
  k_with_none
  (k_with "getMethod ref" => (k_here; (with_reducible show wpAny _ _ (getMethod (Value.ref _) _ _) _ _ _); first
  | (refine getSub (by k_asm) (pat2_of (by k_asm)) ?_; k_whole) | (refine getSub (by k_asm) (pat1_of (by k_asm)) ?_; k_whole)))
  (k_with "call builtin:re.Pattern.sub" => (k_here; first
  | (refine' ends_lem ?kF ?kN (pat2_of ?kX) ?kx ?_; (case kF => k_asm); (case kN => k_asm); (case kX => k_asm); (case kx => first | omega | assumption); intro t' h' tk' F' N')
  | (refine' dots_lem ?kF ?kN (pat1_of ?kX) ?kx ?_; (case kF => k_asm); (case kN => k_asm); (case kX => k_asm); (case kx => (have := endsS_len (by assumption)); omega); intro t' h' tk' F' N')))
  (try delta Clm); delta ClmN
  k_fill
  intros
  rename_i hret
  refine wpAny_call ?_
  k_dflt (refine' enterZ ?k1 ?k2 ?k3 ?k5 ?kA ?kF ?kK ?k6 ?k7 ?k8 ?k9 ?kB ?_ ?c2 ?c3 ?c4 ?c5; (case kA => exact rfl); (case kF => exact rfl); (case kK => assumption); (case k1 => k_asm); (case k2 => k_asm); (case k3 => k_asm); (case k5 => k_asm); (case k6 => k_is); (case k7 => k_is); (case k8 => ktr_room); (case k9 => exact BindsTo.of_eq rfl); (case c5 => decide); (case kB => exact locs rfl); (case c2 => exact rfl); (case c3 => exact rfl); (case c4 => exact rfl); k_whole; intro g' L' h' FG' F' N' B' X' T'; (try dsimp only); (try k_lift B'); (try k_fold))
  (have hl := endsS_len x)
  k_steps
  exact hret _ _ _ (by assumption) (by assumption)
end Mine
end
section
open PySem PySem.W PyProof.Rows PySem.Calls PySem.Spec
set_option Elab.async false
set_option maxRecDepth 100000
set_option maxHeartbeats 4000000
namespace Mine
theorem quoteS_len (x : Str) : (quoteS x).length ≤ 4 * x.length := by
  have h1 := endsS_len x
  have h2 := dotsS_len (endsS x)
  unfold quoteS; omega
noncomputable def sentS (n : Int) (x : Str) : Str := if n = 1 then quoteS x else quoteS (quoteS x)
theorem sent1_c (w : World) (mean) (mg mb) (x : Str) (t u : Tok) : ClmN 0 2 w mean mg mb 214 (x.length ≤ 200) [.str x t, .int 1 u] (fun t => .str (sentS 1 x) t) := by
  k_with_none
  (k_with "call ref" => (k_here; (with_reducible show wpAny _ _ (call (Value.ref 63) [Value.str _ _]) _ _ _); k_dflt (refine' (quote_c _ _ _ _ _ _).use ?k1 ?k2 ?k3 ?k4 ?k5 ?kK ?kp ?kd ?ku ?kt ?_; (case k1 => k_asm); (case k2 => k_asm); (case k3 => k_asm); (case k4 => k_asm); (case k5 => k_asm); (case kK => first | exact rfl | assumption); (case kp => first | omega | assumption | ((have hq9 := quoteS_len (by assumption)); omega)); (case kd => ktr_room); (case ku => ktr_units); (case kt => first | exact Nat.zero_le _ | assumption | (dsimp only; omega)); intro t9 h9 tk9 ht9 kp9 F9 N9; (try dsimp only); (try k_fold))))
  (try delta Clm); delta ClmN
  k_fill
  intros
  rename_i hret
  refine wpAny_call ?_
  k_dflt (refine' enterZ ?k1 ?k2 ?k3 ?k5 ?kA ?kF ?kK ?k6 ?k7 ?k8 ?k9 ?kB ?_ ?c2 ?c3 ?c4 ?c5; (case kA => exact rfl); (case kF => exact rfl); (case kK => assumption); (case k1 => k_asm); (case k2 => k_asm); (case k3 => k_asm); (case k5 => k_asm); (case k6 => k_is); (case k7 => k_is); (case k8 => ktr_room); (case k9 => exact BindsTo.of_eq rfl); (case c5 => decide); (case kB => exact locs rfl); (case c2 => exact rfl); (case c3 => exact rfl); (case c4 => exact rfl); k_whole; intro g' L' h' FG' F' N' B' X' T'; (try dsimp only); (try k_lift B'); (try k_fold))
  (have hl9 := quoteS_len x)
  k_steps
  all_goals (first | exact hret _ _ _ (by assumption) (by assumption) | w_report)
theorem sent2_c (w : World) (mean) (mg mb) (x : Str) (t u : Tok) : ClmN 0 2 w mean mg mb 214 (x.length ≤ 200) [.str x t, .int 2 u] (fun t => .str (sentS 2 x) t) := by
  k_with_none
  (k_with "call ref" => (k_here; (with_reducible show wpAny _ _ (call (Value.ref 63) [Value.str _ _]) _ _ _); k_dflt (refine' (quote_c _ _ _ _ _ _).use ?k1 ?k2 ?k3 ?k4 ?k5 ?kK ?kp ?kd ?ku ?kt ?_; (case k1 => k_asm); (case k2 => k_asm); (case k3 => k_asm); (case k4 => k_asm); (case k5 => k_asm); (case kK => first | exact rfl | assumption); (case kp => first | omega | assumption | ((have hq9 := quoteS_len (by assumption)); omega)); (case kd => ktr_room); (case ku => ktr_units); (case kt => first | exact Nat.zero_le _ | assumption | (dsimp only; omega)); intro t9 h9 tk9 ht9 kp9 F9 N9; (try dsimp only); (try k_fold))))
  (try delta Clm); delta ClmN
  k_fill
  intros
  rename_i hret
  refine wpAny_call ?_
  k_dflt (refine' enterZ ?k1 ?k2 ?k3 ?k5 ?kA ?kF ?kK ?k6 ?k7 ?k8 ?k9 ?kB ?_ ?c2 ?c3 ?c4 ?c5; (case kA => exact rfl); (case kF => exact rfl); (case kK => assumption); (case k1 => k_asm); (case k2 => k_asm); (case k3 => k_asm); (case k5 => k_asm); (case k6 => k_is); (case k7 => k_is); (case k8 => ktr_room); (case k9 => exact BindsTo.of_eq rfl); (case c5 => decide); (case kB => exact locs rfl); (case c2 => exact rfl); (case c3 => exact rfl); (case c4 => exact rfl); k_whole; intro g' L' h' FG' F' N' B' X' T'; (try dsimp only); (try k_lift B'); (try k_fold))
  (have hl9 := quoteS_len x)
  k_steps
  all_goals (first | exact hret _ _ _ (by assumption) (by assumption) | w_report)
theorem sent_c (w : World) (mean) (mg mb) (x : Str) (n : Int) (t u : Tok) : ClmN 0 2 w mean mg mb 214 (x.length ≤ 200 ∧ (n = 1 ∨ n = 2)) [.str x t, .int n u] (fun t => .str (sentS n x) t) := by
  intro dp un gd cn cs a ccd cl outer A₀ base h₀ L m s Q E B F X T hk hp hd hu ht hret
  rcases hp.2 with h | h <;> subst h
  · exact sent1_c w mean mg mb x t u dp un gd cn cs a ccd cl outer A₀ base h₀ L m s Q E B F X T hk hp.1 hd hu ht hret
  · exact sent2_c w mean mg mb x t u dp un gd cn cs a ccd cl outer A₀ base h₀ L m s Q E B F X T hk hp.1 hd hu ht hret
end Mine
end
section
open PySem PySem.W PyProof.Rows PySem.Calls PySem.Spec
set_option Elab.async false
set_option maxRecDepth 100000
set_option maxHeartbeats 4000000
namespace Mine
theorem judged0_c (w : World) (mean) (mg mb) (row end' : Str) (t0 t u : Tok) (wv : Value) : ClmN 0 2 w mean mg mb 236 (row.length ≤ 12 ∧ end'.length ≤ 2) [.int 0 t0, .str row t, .str end' u, wv] (fun t => .str (quoteS (row ++ end')) t) := by
  k_with_none
  (k_with "call ref" => (k_here; (with_reducible show wpAny _ _ (call (Value.ref 63) [Value.str _ _]) _ _ _); k_dflt (refine' (quote_c _ _ _ _ _ _).use ?k1 ?k2 ?k3 ?k4 ?k5 ?kK ?kp ?kd ?ku ?kt ?_; (case k1 => k_asm); (case k2 => k_asm); (case k3 => k_asm); (case k4 => k_asm); (case k5 => k_asm); (case kK => first | exact rfl | assumption); (case kp => (simp only [Str.length_append]; omega)); (case kd => ktr_room); (case ku => ktr_units); (case kt => first | exact Nat.zero_le _ | assumption | (dsimp only; omega)); intro t9 h9 tk9 ht9 kp9 F9 N9; (try dsimp only); (try k_fold))))
  (try delta Clm); delta ClmN
  k_fill
  intros
  rename_i hret
  refine wpAny_call ?_
  k_dflt (refine' enterZ ?k1 ?k2 ?k3 ?k5 ?kA ?kF ?kK ?k6 ?k7 ?k8 ?k9 ?kB ?_ ?c2 ?c3 ?c4 ?c5; (case kA => exact rfl); (case kF => exact rfl); (case kK => assumption); (case k1 => k_asm); (case k2 => k_asm); (case k3 => k_asm); (case k5 => k_asm); (case k6 => k_is); (case k7 => k_is); (case k8 => ktr_room); (case k9 => exact BindsTo.of_eq rfl); (case c5 => decide); (case kB => exact locs rfl); (case c2 => exact rfl); (case c3 => exact rfl); (case c4 => exact rfl); k_whole; intro g' L' h' FG' F' N' B' X' T'; (try dsimp only); (try k_lift B'); (try k_fold))
  rename (_ ∧ _) => hpre
  obtain ⟨hl1, hl2⟩ := hpre
  k_steps
  all_goals (first | done | exact hret _ _ _ (by assumption) (by assumption) | w_report)
end Mine
end
section
open PySem PySem.W PyProof.Rows PySem.Calls PySem.Spec
set_option Elab.async false
set_option maxRecDepth 100000
set_option maxHeartbeats 4000000
namespace Mine
noncomputable def foundF (lt1 lt2 : Str → Bool) : Nat → Str → Option Str
  | 0, _ => none
  | n + 1, row => if lt1 row = false then foundF lt1 lt2 n (row ++ Str.ofString ".") else if lt2 row = false then foundF lt1 lt2 n (row ++ Str.ofString "\t") else some row
structure FdSt where
  row : Str
  t : Tok
noncomputable def FdP (lt1 lt2 : Str → Bool) (R : Str) (c : FdSt) : Prop := c.row.length ≤ 12 ∧ foundF lt1 lt2 (12 - c.row.length) c.row = some R
section
variable {lt1 lt2 : Str → Bool} {R : Str} {c : FdSt}
theorem fd_room (h : FdP lt1 lt2 R c) : ∃ n, 12 - c.row.length = n + 1 := by
  obtain ⟨h1, h2⟩ := h
  cases e : 12 - c.row.length with
  | zero => rw [e] at h2; cases h2
  | succ n => exact ⟨n, rfl⟩
theorem fd_ret (h : FdP lt1 lt2 R c) (h1 : lt1 c.row = true) (h2 : lt2 c.row = true) : c.row = R := by
  obtain ⟨n, e⟩ := fd_room h
  have := h.2
  rw [e, foundF, h1, h2] at this
  simpa using this
theorem fd_one (x : Str) (z : String) (hz : (Str.ofString z).length = 1) : (x ++ Str.ofString z).length = x.length + 1 := by rw [Str.length_append, hz]
theorem fd_dot (h : FdP lt1 lt2 R c) (h1 : lt1 c.row = false) (t : Tok) : FdP lt1 lt2 R ⟨c.row ++ Str.ofString ".", t⟩ ∧ 12 - (c.row ++ Str.ofString ".").length < 12 - c.row.length := by
  obtain ⟨n, e⟩ := fd_room h
  have := h.2
  rw [e, foundF, h1] at this
  have l := fd_one c.row "." (by decide)
  exact ⟨⟨by dsimp only; omega, by dsimp only; rw [l, show 12 - (c.row.length + 1) = n by omega]; simpa using this⟩, by omega⟩
theorem fd_tab (h : FdP lt1 lt2 R c) (h1 : lt1 c.row = true) (h2 : lt2 c.row = false) (t : Tok) : FdP lt1 lt2 R ⟨c.row ++ Str.ofString "\t", t⟩ ∧ 12 - (c.row ++ Str.ofString "\t").length < 12 - c.row.length := by
  obtain ⟨n, e⟩ := fd_room h
  have := h.2
  rw [e, foundF, h1, h2] at this
  have l := fd_one c.row "\t" (by decide)
  exact ⟨⟨by dsimp only; omega, by dsimp only; rw [l, show 12 - (c.row.length + 1) = n by omega]; simpa using this⟩, by omega⟩
theorem fd_end (h : FdP lt1 lt2 R c) (h1 : ¬ (c.row.length : Int) < 12) : False := by
  obtain ⟨n, e⟩ := fd_room h
  omega
end
theorem sig_dot {x : Str} (h : Sig x) : Sig (x ++ Str.ofString ".") := by
  intro c hc
  rw [Str.cps_append, Array.toList_append] at hc
  rcases List.mem_append.mp hc with hc | hc
  · exact h c hc
  · left; exact List.mem_singleton.mp hc
theorem sig_tab {x : Str} (h : Sig x) : Sig (x ++ Str.ofString "\t") := by
  intro c hc
  rw [Str.cps_append, Array.toList_append] at hc
  rcases List.mem_append.mp hc with hc | hc
  · exact h c hc
  · right; exact List.mem_singleton.mp hc
theorem sig_nil : Sig (Str.ofString "") := fun c hc => nomatch hc
theorem found_gen (w : World) (mean) (mg mb) (j : Int) (V : Str → Tok → Value) (lt : Str → Str → Bool) (end' : Str) (u : Tok) (wv : Value)
    (hJ : ∀ (row : Str) (t0 t : Tok), ClmN 0 3 w mean mg mb 236 (row.length ≤ 12 ∧ Sig row) [.int j t0, .str row t, .str end' u, wv] (V row))
    (hC : ∀ (A : Around) (E : Value → Shared → Prop) (s : Shared) (Q : Value → Shared → Prop) (a b : Str) (t t' : Tok), Q (.bool (lt a b)) s → wpAny (model PySem.Challenge.rw_tc0048_01.row.prog w) A (compareOp .Lt (V a t) (V b t')) Q E s)
    (lo hi : Str) (t0 t t2 : Tok) (R : Str) : ClmN 0 4 w mean mg mb 243 ((lo.length ≤ 12 ∧ Sig lo) ∧ (hi.length ≤ 12 ∧ Sig hi) ∧ foundF (fun x => lt lo x) (fun x => lt x hi) 12 (Str.ofString "") = some R) [.int j t0, .str lo t, .str hi t2, .str end' u, wv] (fun t => .str R t) := by
  k_with_none
  (k_with "call ref" => (k_here; (with_reducible show wpAny _ _ (call (Value.ref 236) [Value.int _ _, Value.str _ _, Value.str _ _, _]) _ _ _); k_dflt (refine' (hJ _ _ _).use ?k1 ?k2 ?k3 ?k4 ?k5 ?kK ?kp ?kd ?ku ?kt ?_; (case k1 => k_asm); (case k2 => k_asm); (case k3 => k_asm); (case k4 => k_asm); (case k5 => k_asm); (case kK => first | exact rfl | assumption); (case kp => first | (constructor <;> first | assumption | omega)); (case kd => ktr_room); (case ku => ktr_units); (case kt => exact Nat.zero_le _)); intro t9 h9 tk9 ht9 kp9 F9 N9; (try dsimp only); (try k_fold)))
  (k_with "compareOp Lt" => (refine hC _ _ _ _ _ _ _ _ ?_))
  (try delta Clm); delta ClmN
  k_fill
  intros
  rename_i hret
  refine wpAny_call ?_
  k_dflt (refine' enterZ ?k1 ?k2 ?k3 ?k5 ?kA ?kF ?kK ?k6 ?k7 ?k8 ?k9 ?kB ?_ ?c2 ?c3 ?c4 ?c5; (case kA => exact rfl); (case kF => exact rfl); (case kK => assumption); (case k1 => k_asm); (case k2 => k_asm); (case k3 => k_asm); (case k5 => k_asm); (case k6 => k_is); (case k7 => k_is); (case k8 => ktr_room); (case k9 => exact BindsTo.of_eq rfl); (case c5 => decide); (case kB => exact locs rfl); (case c2 => exact rfl); (case c3 => exact rfl); (case c4 => exact rfl); k_whole; intro g' L' h' FG' F' N' B' X' T'; (try dsimp only); (try k_lift B'); (try k_fold))
  rename (_ ∧ _) => hpre
  obtain ⟨⟨hl1, hl5⟩, ⟨hl2, hl6⟩, hl4⟩ := hpre
  obtain ⟨m9, F9⟩ := fr_kstE (ps := [(Str.ofString "judge", .int j t0), (Str.ofString "lesser", .str lo t), (Str.ofString "greater", .str hi t2), (Str.ofString "end", .str end' u), (Str.ofString "write", wv)]) F' (by kst_all)
  clear F'
  (k_with "exec While Compare cons nil" => (refine' ksw_while (fun c : FdSt => []) (fun c => [(Str.ofString "row", .str c.row c.t)]) (fun c => True) [Str.ofString "here"] (fun c => Sig c.row ∧ FdP (fun x => lt lo x) (fun x => lt x hi) R c) (fun c => 12 - c.row.length) ⟨Str.ofString "", _⟩ ?F ?N ?hf ?hk ?hp ?turn; (case F => k_asm); (case N => k_asm); (case hf => trivial); (case hk => kst_all); (case hp => exact ⟨sig_nil, Nat.zero_le _, hl4⟩); intro c9 u9 h9 tk9 hf9 hp9' F9 N9; (obtain ⟨hs9, hp9⟩ := hp9'); (have hq9 := hp9.1)))
  k_steps
  · rw [fd_ret hp9 (by assumption) (by assumption)]
    exact hret _ _ _ (by assumption) (by assumption)
  · rename News _ _ _ _ => nE'
    have hv := fd_tab hp9 (by assumption) (by assumption)
    exact ksw_end ⟨c9.row ++ Str.ofString "\t", _⟩ (by assumption) nE' (by kst_in) trivial (by kst_all) (by (intro z h2 h3; simp only [List.forall_mem_cons, List.not_mem_nil, false_implies, implies_true, and_true, ne_eq] at h2; simp only [List.contains_cons, List.contains_nil, Bool.or_false, Bool.or_eq_false_iff, beq_eq_false_iff_ne, ne_eq] at h3; simp [h2, h3, kstB])) ⟨sig_tab hs9, (hv _).1⟩ (hv 0).2
  · rename News _ _ _ _ => nE'
    have hv := fd_dot hp9 (by assumption)
    exact ksw_end ⟨c9.row ++ Str.ofString ".", _⟩ (by assumption) nE' (by kst_in) trivial (by kst_all) (by (intro z h2 h3; simp only [List.forall_mem_cons, List.not_mem_nil, false_implies, implies_true, and_true, ne_eq] at h2; simp only [List.contains_cons, List.contains_nil, Bool.or_false, Bool.or_eq_false_iff, beq_eq_false_iff_ne, ne_eq] at h3; simp [h2, h3, kstB])) ⟨sig_dot hs9, (hv _).1⟩ (hv 0).2
  · exact (fd_end hp9 (by assumption)).elim
noncomputable def q0 (e x : Str) : List Nat := (quoteS (x ++ e)).cps.toList
theorem found0_c (w : World) (mean) (mg mb) (lo hi end' : Str) (t0 t t2 u : Tok) (wv : Value) (R : Str) : ClmN 0 4 w mean mg mb 243 ((lo.length ≤ 12 ∧ Sig lo) ∧ (hi.length ≤ 12 ∧ Sig hi) ∧ end'.length ≤ 2 ∧ foundF (fun x => decide (q0 end' lo < q0 end' x)) (fun x => decide (q0 end' x < q0 end' hi)) 12 (Str.ofString "") = some R) [.int 0 t0, .str lo t, .str hi t2, .str end' u, wv] (fun t => .str R t) := by
  intro dp un gd cn cs a ccd cl outer A₀ base h₀ L m s Q E B F X T hk hp hd hu ht hret
  exact found_gen w mean mg mb 0 (fun x t => .str (quoteS (x ++ end')) t) (fun a b => decide (q0 end' a < q0 end' b)) end' u wv
    (fun row t0 t dp un gd cn cs a ccd cl outer A₀ base h₀ L m s Q E B F X T hk hp' hd hu ht hret => judged0_c w mean mg mb row end' t0 t u wv dp un gd cn cs a ccd cl outer A₀ base h₀ L m s Q E B F X T hk ⟨hp'.1, hp.2.2.1⟩ (by omega) (by omega) ht hret)
    (fun A E s Q a b t t' h => lt_str h) lo hi t0 t t2 R dp un gd cn cs a ccd cl outer A₀ base h₀ L m s Q E B F X T hk ⟨hp.1, hp.2.1, hp.2.2.2⟩ hd hu ht hret
end Mine
end
section
open PySem PySem.W PyProof.Rows PySem.Calls PySem.Spec
set_option Elab.async false
set_option maxRecDepth 100000
set_option maxHeartbeats 4000000
namespace Mine
theorem judged1_c (w : World) (mean) (mg mb) (k : Nat) (row end' : Str) (t0 t u : Tok) : QClm 3 w mean mg mb 236 (k < 5 ∧ row.length ≤ 12) [.int 1 t0, .str row t, .str end' u, .ref (escAd k)] (escS (row ++ Str.ofString "\r\n") (escsK k)) := by
  k_with_none
  (k_with "call ref" => (k_here; (with_reducible show wpAny _ _ (call (Value.ref 140) _) _ _ _); k_dflt (refine' call_cls ?k1 ?k2 ?k3 ?k4 ?k5 ?k6 ?_; (case k1 => k_asm); (case k2 => k_asm); (case k3 => k_asm); (case k4 => k_is); (case k5 => k_is); (case k6 => k_is); k_whole; intro xq dq hx Fx Nx l1 l2; (try k_lt l1); (try k_lt2 l2); (try k_sweep); (refine' code_def ?k1 ?k2 ?k3 ?k4 ?k5 ?kA ?kF ?kK ?k6 ?k7 ?k8 ?k9 ?kB ?_ ?c2 ?c3 ?c4 ?c5; (case kA => exact rfl); (case kF => exact rfl); (case kK => first | exact rfl | assumption); (case k1 => k_asm); (case k2 => k_asm); (case k3 => k_asm); (case k4 => k_asm); (case k5 => k_asm); (case k6 => k_is); (case k7 => k_is); (case k8 => ktr_room); (case k9 => first | exact BindsTo.of_eq rfl | exact binds_K (by k_in) rfl (by k_is) rfl rfl rfl); (case c5 => decide); (case kB => exact locs rfl); (case c2 => exact rfl); (case c3 => exact rfl); (case c4 => exact rfl); k_whole; intro gq Lq hq FGq Fq Nq Bq Xq Tq; (try dsimp only); (try k_lift Bq); (try k_fold)))))
  (k_with "call ref" => (k_here; (with_reducible show wpAny _ _ (call (Value.ref (escAd _)) [Value.str _ _]) _ _ _); k_dflt (refine' (esc_any _ _ _ _ _ _ _).use ?k1 ?k2 ?k3 ?k4 ?k5 ?kK ?kp ?kd ?ku ?kt ?_; (case k1 => k_asm); (case k2 => k_asm); (case k3 => k_asm); (case k4 => k_asm); (case k5 => k_asm); (case kK => first | exact rfl | assumption); (case kp => exact ⟨hk5, hl16⟩); (case kd => ktr_room); (case ku => ktr_units); (case kt => first | exact Nat.zero_le _ | assumption | (dsimp only; omega)); intro t9 h9 tk9 ht9 kp9 F9 N9; (try dsimp only); (try k_fold))))
  (k_with "callWith ref" => (k_here; (show wpAny _ _ (callWith _ (Value.ref (escAd _)) _ _ []) _ _ _); k_dflt (refine' callWith_K ?k1 ?k2 ?_; (case k1 => k_asm); (case k2 => exact esc_isFn _ (by assumption)); k_whole)))
  (k_with "callWith" => (k_here; (show wpAny _ _ (callWith _ (Value.ref (escAd _)) _ _ []) _ _ _); k_dflt (refine' callWith_K ?k1 ?k2 ?_; (case k1 => k_asm); (case k2 => exact esc_isFn _ (by assumption)); k_whole)))
  delta QClm
  k_fill
  intros
  rename_i hret
  refine wpAny_call ?_
  k_dflt (refine' enterZG ?k1 ?k2 ?k3 ?k5 ?kA ?kF ?kK ?k6 ?k7 ?k8 ?k9 ?kB ?_ ?c2 ?c3 ?c4 ?c5; (case kA => exact rfl); (case kF => exact rfl); (case kK => assumption); (case k1 => k_asm); (case k2 => k_asm); (case k3 => k_asm); (case k5 => k_asm); (case k6 => k_is); (case k7 => k_is); (case k8 => ktr_room); (case k9 => exact BindsTo.of_eq rfl); (case c5 => decide); (case kB => exact locs rfl); (case c2 => exact rfl); (case c3 => exact rfl); (case c4 => exact rfl); k_whole; intro g' L' h' hG0 FG' F' N' B' X' T'; (try dsimp only); (try k_lift B'); (try k_fold))
  rename (_ ∧ _) => hpre
  obtain ⟨hk5, hrow⟩ := hpre
  have hl16 : (row ++ Str.ofString "\r\n").length ≤ 16 := by rw [Str.length_append, show (Str.ofString "\r\n").length = 2 by decide]; omega
  k_steps
  · rename News g' _ _ [_, _] => nG
    rename Kept _ _ => kk
    refine hret _ _ _ _ _ (by assumption) kk (by assumption) ⟨_, _, rfl⟩ (by assumption) (hG0 _ (nG _ (.head _)).2.2) (hG0 _ (nG _ (.tail _ (.head _))).2.2)
end Mine
end
section
open PySem PySem.W PyProof.Rows PySem.Calls PySem.Spec
set_option Elab.async false
set_option maxRecDepth 100000
set_option maxHeartbeats 4000000
namespace Mine

noncomputable def fq (l : List (String × String)) (x : Str) : List Nat := (escS (x ++ Str.ofString "\r\n") l).cps.toList
noncomputable def StopF (p : Prop) : Prop := p
theorem stopF_here {p : Prop} (h : StopF p) : p := h
theorem found1_c (w : World) (mean) (mg mb) (k : Nat) (lo hi end' : Str) (t0 t t2 u : Tok) (R : Str) : ClmN 0 4 w mean mg mb 243 (k < 5 ∧ lo.length ≤ 12 ∧ hi.length ≤ 12 ∧ foundF (fun x => decide (fq (escsK k) lo < fq (escsK k) x)) (fun x => decide (fq (escsK k) x < fq (escsK k) hi)) 12 (Str.ofString "") = some R) [.int 1 t0, .str lo t, .str hi t2, .str end' u, .ref (escAd k)] (fun t => .str R t) := by
  k_with_none
  (k_with "compareOp Lt ref" => (k_here; (with_reducible show wpAny _ _ (compareOp CmpOp.Lt (Value.ref _) _) _ _ _); (refine cmp_ofLt ?_); k_dflt (refine' cmp_K ?k1 ?k2 ?k3 ?k4 ?k5 ?k6 ?k7 ?k8 ?_; (case k1 => ktr_units); (case k2 => k_asm); (case k3 => k_asm); (case k4 => k_inst); (case k5 => k_typeOf); (case k6 => k_is); (case k7 => k_is); (case k8 => k_is); k_whole)))
  (try delta Clm); delta ClmN
  k_fill
  intros
  rename_i hret
  refine wpAny_call ?_
  k_dflt (refine' enterZ ?k1 ?k2 ?k3 ?k5 ?kA ?kF ?kK ?k6 ?k7 ?k8 ?k9 ?kB ?_ ?c2 ?c3 ?c4 ?c5; (case kA => exact rfl); (case kF => exact rfl); (case kK => assumption); (case k1 => k_asm); (case k2 => k_asm); (case k3 => k_asm); (case k5 => k_asm); (case k6 => k_is); (case k7 => k_is); (case k8 => ktr_room); (case k9 => exact BindsTo.of_eq rfl); (case c5 => decide); (case kB => exact locs rfl); (case c2 => exact rfl); (case c3 => exact rfl); (case c4 => exact rfl); k_whole; intro g' L' h' FG' F' N' B' X' T'; (try dsimp only); (try k_lift B'); (try k_fold))
  rename (_ ∧ _) => hpre
  obtain ⟨hk5, hl1, hl2, hl4⟩ := hpre
  (k_with "call ref" => (first | (k_here; (with_reducible show wpAny _ _ (call (Value.ref 116) _) _ _ _); k_dflt (refine wpAny_call ?_; (refine' code_def ?k1 ?k2 ?k3 ?k4 ?k5 ?kA ?kF ?kK ?k6 ?k7 ?k8 ?k9 ?kB ?_ ?c2 ?c3 ?c4 ?c5; (case kA => exact rfl); (case kF => exact rfl); (case kK => first | exact rfl | assumption); (case k1 => k_asm); (case k2 => k_asm); (case k3 => k_asm); (case k4 => k_asm); (case k5 => k_asm); (case k6 => k_is); (case k7 => k_is); (case k8 => ktr_room); (case k9 => first | exact BindsTo.of_eq rfl | exact binds_K (by k_in) rfl (by k_is) rfl rfl rfl); (case c5 => decide); (case kB => exact locs rfl); (case c2 => exact rfl); (case c3 => exact rfl); (case c4 => exact rfl); k_whole; intro g' L' h' FG' F' N' B' X' T'; (try dsimp only); (try k_lift B'); (try k_fold)))) | refine stopF_here ?_))
  k_steps
  delta StopF
  k_dflt (refine' (judged1_c _ _ _ _ _ _ _ _ _ _).use ?k1 ?k2 ?k3 ?k4 ?k5 ?kK ?kp ?kd ?ku ?_; (case k1 => k_asm); (case k2 => k_asm); (case k3 => k_asm); (case k4 => k_asm); (case k5 => k_asm); (case kK => first | exact rfl | assumption); (case kp => exact ⟨hk5, by first | assumption | omega⟩); (case kd => ktr_room); (case ku => ktr_units))
  intro x1 d1 oD1 h1 tq1 kp1 F1 N1 hq1 lt1 nx1 nd1
  obtain ⟨tk1, tv1, rfl⟩ := hq1
  (try simp only [List.forall_mem_cons, List.not_mem_nil, false_implies, implies_true, and_true, ne_eq] at nx1 nd1)
  (try dsimp only)
  (try k_fold)
  k_steps
  delta StopF
  k_dflt (refine' (judged1_c _ _ _ _ _ _ _ _ _ _).use ?k1 ?k2 ?k3 ?k4 ?k5 ?kK ?kp ?kd ?ku ?_; (case k1 => k_asm); (case k2 => k_asm); (case k3 => k_asm); (case k4 => k_asm); (case k5 => k_asm); (case kK => first | exact rfl | assumption); (case kp => exact ⟨hk5, by first | assumption | omega⟩); (case kd => ktr_room); (case ku => ktr_units))
  intro x2 d2 oD2 h2 tq2 kp2 F2 N2 hq2 lt2 nx2 nd2
  obtain ⟨tk2, tv2, rfl⟩ := hq2
  (try simp only [List.forall_mem_cons, List.not_mem_nil, false_implies, implies_true, and_true, ne_eq] at nx2 nd2)
  (try dsimp only)
  (try k_fold)
  (k_with "exec While Compare cons nil" => (refine' ksw_while (fun c : FdSt => [(x2, instObj 140 d2), (d2, dictOf [{ hash := PyData.keyHash w.params (Str.ofString "text"), key := .str (Str.ofString "text") tk2, val := .str (escS (hi ++ Str.ofString "\r\n") (escsK k)) tv2 }] 1), (x1, instObj 140 d1), (d1, dictOf [{ hash := PyData.keyHash w.params (Str.ofString "text"), key := .str (Str.ofString "text") tk1, val := .str (escS (lo ++ Str.ofString "\r\n") (escsK k)) tv1 }] 1)]) (fun c => [(Str.ofString "row", .str c.row c.t)]) (fun c => True) [Str.ofString "here"] (FdP (fun x => decide (fq (escsK k) lo < fq (escsK k) x)) (fun x => decide (fq (escsK k) x < fq (escsK k) hi)) R) (fun c => 12 - c.row.length) ⟨Str.ofString "", _⟩ ?F ?N ?hf ?hk ?hp ?turn; (case F => k_asm); (case N => k_asm); (case hf => trivial); (case hk => kst_all); (case hp => exact ⟨Nat.zero_le _, hl4⟩); intro c9 u9 h9 tk9 hf9 hp9 F9 N9; (have hq9 := hp9.1)))
  k_steps
  delta StopF
  k_dflt (refine' (judged1_c _ _ _ _ _ _ _ _ _ _).use ?k1 ?k2 ?k3 ?k4 ?k5 ?kK ?kp ?kd ?ku ?_; (case k1 => k_asm); (case k2 => k_asm); (case k3 => k_asm); (case k4 => k_asm); (case k5 => k_asm); (case kK => first | exact rfl | assumption); (case kp => exact ⟨hk5, by first | assumption | omega⟩); (case kd => ktr_room); (case ku => ktr_units))
  intro x3 d3 oD3 h3 tq3 kp3 F3 N3 hq3 lt3 nx3 nd3
  obtain ⟨tk3, tv3, rfl⟩ := hq3
  (try simp only [List.forall_mem_cons, List.not_mem_nil, false_implies, implies_true, and_true, ne_eq] at nx3 nd3)
  (try dsimp only)
  (try k_fold)
  k_steps
  · rw [fd_ret hp9 (decide_eq_true (by assumption)) (decide_eq_true (by assumption))]
    exact hret _ _ _ (by assumption) (by assumption)
  · rename News _ _ _ _ => nE'
    have hv := fd_tab hp9 (decide_eq_true (by assumption)) (decide_eq_false (by first | assumption | exact List.not_lt.mpr (by assumption)))
    exact ksw_end ⟨c9.row ++ Str.ofString "\t", _⟩ (by assumption) nE' (by kst_in) trivial (by kst_all) (by (intro z h2 h3; simp only [List.forall_mem_cons, List.not_mem_nil, false_implies, implies_true, and_true, ne_eq] at h2; simp only [List.contains_cons, List.contains_nil, Bool.or_false, Bool.or_eq_false_iff, beq_eq_false_iff_ne, ne_eq] at h3; simp [h2, h3, kstB])) (hv _).1 (hv 0).2
  · rename News _ _ _ _ => nE'
    have hv := fd_dot hp9 (decide_eq_false (by first | assumption | exact List.not_lt.mpr (by assumption)))
    exact ksw_end ⟨c9.row ++ Str.ofString ".", _⟩ (by assumption) nE' (by kst_in) trivial (by kst_all) (by (intro z h2 h3; simp only [List.forall_mem_cons, List.not_mem_nil, false_implies, implies_true, and_true, ne_eq] at h2; simp only [List.contains_cons, List.contains_nil, Bool.or_false, Bool.or_eq_false_iff, beq_eq_false_iff_ne, ne_eq] at h3; simp [h2, h3, kstB])) (hv _).1 (hv 0).2
  · exact (fd_end hp9 (by assumption)).elim
end Mine
end
section
open PySem PySem.W PyProof.Rows PySem.Calls PySem.Spec
set_option Elab.async false
set_option maxRecDepth 100000
set_option maxHeartbeats 4000000
namespace Mine

noncomputable def fr2 (x : Str) : Int := numS x * 64 ^ (12 - (x.length : Int)).toNat
theorem judged2s_c (w : World) (mean) (mg mb) (row end' : Str) (t0 t u : Tok) (wv : Value) : ClmN 0 3 w mean mg mb 236 (row.length ≤ 12 ∧ Sig row) [.int 2 t0, .str row t, .str end' u, wv] (fun t => .int (fr2 row) t) := by
  intro dp un gd cn cs a ccd cl outer A₀ base h₀ L m s Q E B F X T hk hp hd hu ht hret
  have h := numS_some hp.2 hp.1
  exact judged2_c w mean mg mb row end' t0 t u wv (numS row) dp un gd cn cs a ccd cl outer A₀ base h₀ L m s Q E B F X T hk ⟨hp.1, h⟩ hd hu ht hret
theorem found2_c (w : World) (mean) (mg mb) (lo hi end' : Str) (t0 t t2 u : Tok) (wv : Value) (R : Str) : ClmN 0 4 w mean mg mb 243 ((lo.length ≤ 12 ∧ Sig lo) ∧ (hi.length ≤ 12 ∧ Sig hi) ∧ foundF (fun x => decide (fr2 lo < fr2 x)) (fun x => decide (fr2 x < fr2 hi)) 12 (Str.ofString "") = some R) [.int 2 t0, .str lo t, .str hi t2, .str end' u, wv] (fun t => .str R t) := by
  exact found_gen w mean mg mb 2 (fun x t => .int (fr2 x) t) (fun a b => decide (fr2 a < fr2 b)) end' u wv (fun row t0 t => judged2s_c w mean mg mb row end' t0 t u wv) (fun A E s Q a b t t' h => lt_int h) lo hi t0 t t2 R
end Mine
end
section
open PySem PySem.W PyProof.Rows PySem.Calls PySem.Spec
set_option Elab.async false
set_option maxRecDepth 100000
set_option maxHeartbeats 4000000
namespace Mine
/-! worth -/
noncomputable def wstep (a : Int) (p : Int × Int) (c : Int) : Int × Int :=
  let st := if p.2 < 1024 ∨ c ≠ a then Int.fdiv p.2 2 else p.2
  (if c = 46 then p.1 + st else p.1 - st, st)
noncomputable def wfold (l : List Int) (a : Int) : Int × Int := l.foldl (wstep a) (0, 1024)
noncomputable def worthS (x : Str) : Int := (wfold (KStt.codes x) ((KStt.codes x).headD 0)).1
noncomputable abbrev WoInv (row : Str) (pre : List Int) (wo st : Int) : Prop := ((0 ≤ st ∧ st ≤ 1024) ∧ (-1024 * (pre.length : Int) ≤ wo ∧ wo ≤ 1024 * (pre.length : Int))) ∧ (wo, st) = wfold pre ((KStt.codes row).headD 0)
theorem wo_start (row : Str) : WoInv row [] 0 1024 := ⟨⟨by decide, by simp⟩, rfl⟩
theorem wfold_snoc (pre : List Int) (c a : Int) : wfold (pre ++ [c]) a = wstep a (wfold pre a) c := by simp [wfold]
theorem wo_dot {k : Nat} (h : (({ cps := #[k] } : Str) == Str.ofString ".") = true) : (k : Int) = 46 := by
  have : Str.ofString "." = ⟨#[46]⟩ := by decide +kernel
  rw [this] at h
  have := eq_of_beq h
  simp at this; omega
theorem wo_ndot {k : Nat} (h : (({ cps := #[k] } : Str) == Str.ofString ".") = false) : (k : Int) ≠ 46 := by
  have e : Str.ofString "." = ⟨#[46]⟩ := by decide +kernel
  rw [e] at h
  intro q
  have : k = 46 := by omega
  subst this; simp at h
theorem wo_item {row : Str} (h : 1 ≤ row.length) : ∃ c : Nat, Txt.item row 0 = ⟨#[c]⟩ ∧ (KStt.codes row).headD 0 = (c : Int) := by
  obtain ⟨⟨l⟩⟩ := row
  cases l with
  | nil => simp [Str.length] at h
  | cons c r =>
    refine ⟨c, ?_, by simp [KStt.codes]⟩
    simp [Txt.item, Txt.charAt, seqIndex?, Str.length]
theorem wo_ne {row : Str} {pre post : List Int} {k : Nat} (hc : KStt.codes row = pre ++ (k : Int) :: post) (h : (({ cps := #[k] } : Str) != Txt.item row 0) = true) : (k : Int) ≠ (KStt.codes row).headD 0 := by
  have hl : 1 ≤ row.length := by rw [← KStt.codes_length, hc]; simp; omega
  obtain ⟨c, e1, e2⟩ := wo_item hl
  rw [e1] at h
  rw [e2]; intro q
  have : k = c := by omega
  subst this; simp at h
theorem wo_eq {row : Str} {pre post : List Int} {k : Nat} (hc : KStt.codes row = pre ++ (k : Int) :: post) (h : (({ cps := #[k] } : Str) != Txt.item row 0) = false) : (k : Int) = (KStt.codes row).headD 0 := by
  have hl : 1 ≤ row.length := by rw [← KStt.codes_length, hc]; simp; omega
  obtain ⟨c, e1, e2⟩ := wo_item hl
  rw [e1] at h
  rw [e2]
  have := eq_of_beq (by simpa using h : (({ cps := #[k] } : Str) == ⟨#[c]⟩) = true)
  simp at this; omega
section
variable {row : Str} {pre post : List Int} {k : Nat} {wo st : Int}
theorem wo_core (hi : (wo, st) = wfold pre ((KStt.codes row).headD 0)) (h0 : 0 ≤ st) (h1 : st ≤ 1024) (h2 : -1024 * (pre.length : Int) ≤ wo) (h3 : wo ≤ 1024 * (pre.length : Int)) :
    ∀ st' wo', st' = (if st < 1024 ∨ (k : Int) ≠ (KStt.codes row).headD 0 then Int.fdiv st 2 else st) → wo' = (if (k : Int) = 46 then wo + st' else wo - st') → WoInv row (pre ++ [(k : Int)]) wo' st' := by
  intro st' wo' e1 e2
  have ed : Int.fdiv st 2 = st / 2 := Int.fdiv_eq_ediv_of_nonneg _ (by decide)
  have b : 0 ≤ st' ∧ st' ≤ 1024 := by
    rw [e1]; split <;> omega
  refine ⟨⟨b, ?_⟩, ?_⟩
  · simp only [List.length_append, List.length_cons, List.length_nil]
    rw [e2]; split <;> omega
  · rw [wfold_snoc, ← hi]; unfold wstep; simp only []; rw [← e1, ← e2]
theorem wo_1 (hi : (wo, st) = wfold pre ((KStt.codes row).headD 0)) (h0 : 0 ≤ st) (h1 : st ≤ 1024) (h2 : -1024 * (pre.length : Int) ≤ wo) (h3 : wo ≤ 1024 * (pre.length : Int)) (c : st < 1024) (d : (({ cps := #[k] } : Str) == Str.ofString ".") = true) : WoInv row (pre ++ [(k : Int)]) (wo + Int.fdiv st 2) (Int.fdiv st 2) :=
  wo_core hi h0 h1 h2 h3 _ _ (by rw [if_pos (.inl c)]) (by rw [if_pos (wo_dot d)])
theorem wo_2 (hi : (wo, st) = wfold pre ((KStt.codes row).headD 0)) (h0 : 0 ≤ st) (h1 : st ≤ 1024) (h2 : -1024 * (pre.length : Int) ≤ wo) (h3 : wo ≤ 1024 * (pre.length : Int)) (c : st < 1024) (d : (({ cps := #[k] } : Str) == Str.ofString ".") = false) : WoInv row (pre ++ [(k : Int)]) (wo + -Int.fdiv st 2) (Int.fdiv st 2) :=
  wo_core hi h0 h1 h2 h3 _ _ (by rw [if_pos (.inl c)]) (by rw [if_neg (wo_ndot d)]; omega)
theorem wo_3 (hc : KStt.codes row = pre ++ (k : Int) :: post) (hi : (wo, st) = wfold pre ((KStt.codes row).headD 0)) (h0 : 0 ≤ st) (h1 : st ≤ 1024) (h2 : -1024 * (pre.length : Int) ≤ wo) (h3 : wo ≤ 1024 * (pre.length : Int)) (c : (({ cps := #[k] } : Str) != Txt.item row 0) = true) (d : (({ cps := #[k] } : Str) == Str.ofString ".") = true) : WoInv row (pre ++ [(k : Int)]) (wo + Int.fdiv st 2) (Int.fdiv st 2) :=
  wo_core hi h0 h1 h2 h3 _ _ (by rw [if_pos (.inr (wo_ne hc c))]) (by rw [if_pos (wo_dot d)])
theorem wo_4 (hc : KStt.codes row = pre ++ (k : Int) :: post) (hi : (wo, st) = wfold pre ((KStt.codes row).headD 0)) (h0 : 0 ≤ st) (h1 : st ≤ 1024) (h2 : -1024 * (pre.length : Int) ≤ wo) (h3 : wo ≤ 1024 * (pre.length : Int)) (c : (({ cps := #[k] } : Str) != Txt.item row 0) = true) (d : (({ cps := #[k] } : Str) == Str.ofString ".") = false) : WoInv row (pre ++ [(k : Int)]) (wo + -Int.fdiv st 2) (Int.fdiv st 2) :=
  wo_core hi h0 h1 h2 h3 _ _ (by rw [if_pos (.inr (wo_ne hc c))]) (by rw [if_neg (wo_ndot d)]; omega)
theorem wo_5 (hc : KStt.codes row = pre ++ (k : Int) :: post) (hi : (wo, st) = wfold pre ((KStt.codes row).headD 0)) (h0 : 0 ≤ st) (h1 : st ≤ 1024) (h2 : -1024 * (pre.length : Int) ≤ wo) (h3 : wo ≤ 1024 * (pre.length : Int)) (n : ¬ st < 1024) (c : (({ cps := #[k] } : Str) != Txt.item row 0) = false) (d : (({ cps := #[k] } : Str) == Str.ofString ".") = true) : WoInv row (pre ++ [(k : Int)]) (wo + st) st :=
  wo_core hi h0 h1 h2 h3 _ _ (by rw [if_neg (fun q => q.elim n (fun q => q (wo_eq hc c)))]) (by rw [if_pos (wo_dot d)])
theorem wo_6 (hc : KStt.codes row = pre ++ (k : Int) :: post) (hi : (wo, st) = wfold pre ((KStt.codes row).headD 0)) (h0 : 0 ≤ st) (h1 : st ≤ 1024) (h2 : -1024 * (pre.length : Int) ≤ wo) (h3 : wo ≤ 1024 * (pre.length : Int)) (n : ¬ st < 1024) (c : (({ cps := #[k] } : Str) != Txt.item row 0) = false) (d : (({ cps := #[k] } : Str) == Str.ofString ".") = false) : WoInv row (pre ++ [(k : Int)]) (wo + -st) st :=
  wo_core hi h0 h1 h2 h3 _ _ (by rw [if_neg (fun q => q.elim n (fun q => q (wo_eq hc c)))]) (by rw [if_neg (wo_ndot d)]; omega)
end
theorem wo_done {row : Str} {wo st : Int} (h : (wo, st) = wfold (KStt.codes row) ((KStt.codes row).headD 0)) : worthS row = wo := by
  unfold worthS; rw [← h]

theorem worth_c (w : World) (mean) (mg mb) (row : Str) (t : Tok) : Clm w mean mg mb 200 (row.length ≤ 64) [.str row t] (fun t => .int (worthS row) t) := by
  k_with_none
  (try delta Clm); delta ClmN
  k_fill
  intros
  rename_i hret
  refine wpAny_call ?_
  k_dflt (refine' enterZ ?k1 ?k2 ?k3 ?k5 ?kA ?kF ?kK ?k6 ?k7 ?k8 ?k9 ?kB ?_ ?c2 ?c3 ?c4 ?c5; (case kA => exact rfl); (case kF => exact rfl); (case kK => assumption); (case k1 => k_asm); (case k2 => k_asm); (case k3 => k_asm); (case k5 => k_asm); (case k6 => k_is); (case k7 => k_is); (case k8 => ktr_room); (case k9 => exact BindsTo.of_eq rfl); (case c5 => decide); (case kB => exact locs rfl); (case c2 => exact rfl); (case c3 => exact rfl); (case c4 => exact rfl); k_whole; intro g' L' h' FG' F' N' B' X' T'; (try dsimp only); (try k_lift B'); (try k_fold))
  (k_with "pyIter str" => k_state (fun pre worth step => ((0 ≤ step ∧ step ≤ 1024) ∧ (-1024 * (pre.length : Int) ≤ worth ∧ worth ≤ 1024 * (pre.length : Int))) ∧ (worth, step) = wfold pre ((KStt.codes row).headD 0)) "worth" "step")
  (k_with "state" => first
    | exact wo_start _
    | exact wo_1 (by assumption) (by assumption) (by assumption) (by assumption) (by assumption) (by assumption) (by assumption)
    | exact wo_2 (by assumption) (by assumption) (by assumption) (by assumption) (by assumption) (by assumption) (by assumption)
    | exact wo_3 (by assumption) (by assumption) (by assumption) (by assumption) (by assumption) (by assumption) (by assumption) (by assumption)
    | exact wo_4 (by assumption) (by assumption) (by assumption) (by assumption) (by assumption) (by assumption) (by assumption) (by assumption)
    | exact wo_5 (by assumption) (by assumption) (by assumption) (by assumption) (by assumption) (by assumption) (by assumption) (by assumption) (by assumption)
    | exact wo_6 (by assumption) (by assumption) (by assumption) (by assumption) (by assumption) (by assumption) (by assumption) (by assumption) (by assumption))
  k_steps
  (have e := wo_done (by assumption))
  rw [e] at hret
  exact hret _ _ _ (by assumption) (by assumption)
end Mine
end
section
open PySem PySem.W PyProof.Rows PySem.Calls PySem.Spec
set_option Elab.async false
set_option maxRecDepth 100000
set_option maxHeartbeats 4000000
namespace Mine
noncomputable def ifBody : Stmt → List Stmt
  | .If _ b _ _ => b
  | _ => []
noncomputable def FdPre (j : Int) (lo hi e : Str) (kw : Nat) (R : Str) : Prop :=
  kw < 5 ∧ lo.length ≤ 12 ∧ hi.length ≤ 12 ∧ e.length ≤ 2 ∧ Sig lo ∧ Sig hi ∧ ((j = 0 ∧ foundF (fun x => decide (q0 e lo < q0 e x)) (fun x => decide (q0 e x < q0 e hi)) 12 (Str.ofString "") = some R) ∨
    (j = 1 ∧ foundF (fun x => decide (fq (escsK kw) lo < fq (escsK kw) x)) (fun x => decide (fq (escsK kw) x < fq (escsK kw) hi)) 12 (Str.ofString "") = some R) ∨
    (j = 2 ∧ foundF (fun x => decide (fr2 lo < fr2 x)) (fun x => decide (fr2 x < fr2 hi)) 12 (Str.ofString "") = some R))
theorem found_any (w : World) (mean) (mg mb) (j : Int) (lo hi e : Str) (t0 t t2 u : Tok) (kw : Nat) (R : Str) : ClmN 0 4 w mean mg mb 243 (FdPre j lo hi e kw R) [.int j t0, .str lo t, .str hi t2, .str e u, .ref (escAd kw)] (fun t => .str R t) := by
  intro dp un gd cn cs a ccd cl outer A₀ base h₀ L m s Q E B F X T hk hp hd hu ht hret
  obtain ⟨h5, h1, h2, h3, h4, h6, h7⟩ := hp
  rcases h7 with ⟨rfl, h7⟩ | ⟨rfl, h7⟩ | ⟨rfl, h7⟩
  · exact found0_c w mean mg mb lo hi e t0 t t2 u _ R dp un gd cn cs a ccd cl outer A₀ base h₀ L m s Q E B F X T hk ⟨⟨h1, h4⟩, ⟨h2, h6⟩, h3, h7⟩ hd hu ht hret
  · exact found1_c w mean mg mb kw lo hi e t0 t t2 u R dp un gd cn cs a ccd cl outer A₀ base h₀ L m s Q E B F X T hk ⟨h5, h1, h2, h7⟩ hd hu ht hret
  · exact found2_c w mean mg mb lo hi e t0 t t2 u _ R dp un gd cn cs a ccd cl outer A₀ base h₀ L m s Q E B F X T hk ⟨⟨h1, h4⟩, ⟨h2, h6⟩, h7⟩ hd hu ht hret
theorem inn0 : ∀ (w : World) (mean : ExcName → Option Value) (mg mb : Str → Option Value) (g : Heap) (L fa : Addr) (cd : Value) (X : (hdA.heap_1_1 w.params).In g) (T : Top topProg lsT mean mg mb g) (B : Below callerA g [] g) (h245 : 245 < L) (m : Str → Option Value) (s : Shared) (Q : Flow → Shared → Prop) (E : Value → Shared → Prop)
    (o3 : Obj) (rest : List (Addr × Obj)) (D : Addr) (out : List Value) (c : Nat) (p q : Tup) (jI kI : Int) (tj tk t3 : Tok) (kw : Nat) (e R : Str) (F : Fr g L s.heap (kstB m [(Str.ofString "judge", .int jI tj), (Str.ofString "k", .int kI tk), (Str.ofString "table", .ref D), (Str.ofString "write", .ref (escAd kw))])) (N : News g L s.heap ((D, listOf out.toArray c) :: (p.T, { cls := .type "tuple", data := .seq #[.int p.n p.t, .str p.x p.u] }) :: (q.T, { cls := .type "tuple", data := .seq #[.int q.n q.t, .str q.x q.u] }) :: (L + 1 + 1 + 1, o3) :: rest)) (d3 : o3.data = .cell (some (.str e t3))) (hk : 0 ≤ kI ∧ kI ≤ 3)
    (hx1 : out[kI.toNat]? = some (.ref p.T)) (hx2 : out[(kI + 1).toNat]? = some (.ref q.T)) (hF : FdPre jI p.x q.x e kw R)
    (hQ : ∀ h' tk' t, Fr g L h' (fun z => if z = Str.ofString "found" then some (.str R t) else kstB m [(Str.ofString "judge", .int jI tj), (Str.ofString "k", .int kI tk), (Str.ofString "table", .ref D), (Str.ofString "write", .ref (escAd kw))] z) → News g L h' ((D, listOf out.toArray c) :: (p.T, { cls := .type "tuple", data := .seq #[.int p.n p.t, .str p.x p.u] }) :: (q.T, { cls := .type "tuple", data := .seq #[.int q.n q.t, .str q.x q.u] }) :: (L + 1 + 1 + 1, o3) :: rest) → Q .next { s with heap := h', toks := tk' }),
    wpAny (model PySem.Challenge.rw_tc0048_01.row.prog w) (lawA (lawS w) L fa cd) (exec (nth (forBody (nth (ifBody (nth (forBody (nth (lawB w) 12)) 0)) 1)) 0) (lawE (lawS w) L fa cd)) Q E s := by
  k_with_none
  (k_with "subscriptTail" => (k_here; (with_reducible show wpAny _ _ (subscriptTail _ _ (Value.ref _) (Value.int _ _)) _ _ _); k_dflt (refine' item_any ?lv0 ?av0 ?cv0 ?xv0 ?dv0 ?ev0; (case lv0 => kmk_list); (case av0 => omega); (case cv0 => omega); (case xv0 => assumption); (case ev0 => with_unfolding_all rfl))))
  (k_with "subscriptTail" => (k_here; (with_reducible show wpAny _ _ (subscriptTail _ _ (Value.ref _) (Value.int _ _)) _ _ _); k_dflt (refine' item_any ?lv1 ?av1 ?cv1 ?xv1 ?dv1 ?ev1; (case lv1 => kmk_list); (case av1 => omega); (case cv1 => omega); (case xv1 => assumption); (case ev1 => with_unfolding_all rfl))))
  (k_with "subscriptTail" => (k_here; (with_reducible show wpAny _ _ (subscriptTail _ _ (Value.ref _) (Value.int _ _)) _ _ _); k_dflt (refine' item_any ?lv2 ?av2 ?cv2 ?xv2 ?dv2 ?ev2; (case lv2 => kmk_list); (case av2 => omega); (case cv2 => omega); (case xv2 => assumption); (case ev2 => with_unfolding_all rfl))))
  (k_with "subscriptTail Name BinOp ref int" => (k_here; (with_reducible show wpAny _ _ (subscriptTail _ _ (Value.ref _) (Value.int _ _)) _ _ _); k_dflt (refine' item_any ?lv0 ?av0 ?cv0 ?xv0 ?dv0 ?ev0; (case lv0 => kmk_list); (case av0 => omega); (case cv0 => omega); (case xv0 => assumption); (case ev0 => with_unfolding_all rfl))))
  (k_with "subscriptTail Name BinOp ref int" => (k_here; (with_reducible show wpAny _ _ (subscriptTail _ _ (Value.ref _) (Value.int _ _)) _ _ _); k_dflt (refine' item_any ?lv1 ?av1 ?cv1 ?xv1 ?dv1 ?ev1; (case lv1 => kmk_list); (case av1 => omega); (case cv1 => omega); (case xv1 => assumption); (case ev1 => with_unfolding_all rfl))))
  (k_with "subscriptTail Name BinOp ref int" => (k_here; (with_reducible show wpAny _ _ (subscriptTail _ _ (Value.ref _) (Value.int _ _)) _ _ _); k_dflt (refine' item_any ?lv2 ?av2 ?cv2 ?xv2 ?dv2 ?ev2; (case lv2 => kmk_list); (case av2 => omega); (case cv2 => omega); (case xv2 => assumption); (case ev2 => with_unfolding_all rfl))))
  (k_with "call ref" => (k_here; (with_reducible show wpAny _ _ (call (Value.ref 243) [Value.int _ _, Value.str _ _, Value.str _ _, Value.str _ _, Value.ref (escAd _)]) _ _ _); k_dflt (refine' (found_any _ _ _ _ _ _ _ _ _ _ _ _ _ _).use ?k1 ?k2 ?k3 ?k4 ?k5 ?kK ?kp ?kd ?ku ?kt ?_; (case k1 => k_asm); (case k2 => k_asm); (case k3 => k_asm); (case k4 => k_asm); (case k5 => k_asm); (case kK => first | exact rfl | assumption); (case kp => assumption); (case kd => ktr_room); (case ku => ktr_units); (case kt => first | exact Nat.zero_le _ | assumption | (dsimp only; omega)); intro t9 h9 tk9 ht9 kp9 F9 N9; (try dsimp only); (try k_fold))))
  k_fill
  intro w mean mg mb g L fa cd X T B h245 m s Q E o3 rest D out c p q jI kI tj tk t3 kw e R F N d3 hk hx1 hx2 hF hQ
  refine cut_law (P := fun body scope => wpAny (model PySem.Challenge.rw_tc0048_01.row.prog w) (lawA scope L fa cd) (exec (nth (forBody (nth (ifBody (nth (forBody (nth body 12)) 0)) 1)) 0) (lawE scope L fa cd)) Q E s) (by k_is) ?_
  dsimp only [nth, forBody, ifBody]
  delta lawE lawA
  obtain ⟨hk0, hk1⟩ := hk
  k_steps
  rename News _ _ _ _ => nE
  exact hQ _ _ _ (by assumption) nE
theorem inn1 : ∀ (w : World) (mean : ExcName → Option Value) (mg mb : Str → Option Value) (g : Heap) (L fa : Addr) (cd : Value) (X : (hdA.heap_1_1 w.params).In g) (T : Top topProg lsT mean mg mb g) (B : Below callerA g [] g) (h245 : 245 < L) (m : Str → Option Value) (s : Shared) (Q : Flow → Shared → Prop) (E : Value → Shared → Prop)
    (led : List (Addr × Obj)) (R : Str) (Sv : Int) (tR ts : Tok) (F : Fr g L s.heap (kstB m [(Str.ofString "found", .str R tR), (Str.ofString "simplest", .int Sv ts)])) (N : News g L s.heap led) (hR : R.length ≤ 64) (hW : worthS R = Sv)
    (hQ : ∀ h' tk', Fr g L h' (kstB m [(Str.ofString "found", .str R tR), (Str.ofString "simplest", .int Sv ts)]) → News g L h' led → Q .next { s with heap := h', toks := tk' }),
    wpAny (model PySem.Challenge.rw_tc0048_01.row.prog w) (lawA (lawS w) L fa cd) (exec (nth (forBody (nth (ifBody (nth (forBody (nth (lawB w) 12)) 0)) 1)) 1) (lawE (lawS w) L fa cd)) Q E s := by
  k_with_none
  (k_with "subscriptTail" => (k_here; (with_reducible show wpAny _ _ (subscriptTail _ _ (Value.ref _) (Value.int _ _)) _ _ _); k_dflt (refine' item_any ?lv0 ?av0 ?cv0 ?xv0 ?dv0 ?ev0; (case lv0 => kmk_list); (case av0 => omega); (case cv0 => omega); (case xv0 => assumption); (case ev0 => with_unfolding_all rfl))))
  (k_with "subscriptTail" => (k_here; (with_reducible show wpAny _ _ (subscriptTail _ _ (Value.ref _) (Value.int _ _)) _ _ _); k_dflt (refine' item_any ?lv1 ?av1 ?cv1 ?xv1 ?dv1 ?ev1; (case lv1 => kmk_list); (case av1 => omega); (case cv1 => omega); (case xv1 => assumption); (case ev1 => with_unfolding_all rfl))))
  (k_with "subscriptTail" => (k_here; (with_reducible show wpAny _ _ (subscriptTail _ _ (Value.ref _) (Value.int _ _)) _ _ _); k_dflt (refine' item_any ?lv2 ?av2 ?cv2 ?xv2 ?dv2 ?ev2; (case lv2 => kmk_list); (case av2 => omega); (case cv2 => omega); (case xv2 => assumption); (case ev2 => with_unfolding_all rfl))))
  (k_with "subscriptTail Name BinOp ref int" => (k_here; (with_reducible show wpAny _ _ (subscriptTail _ _ (Value.ref _) (Value.int _ _)) _ _ _); k_dflt (refine' item_any ?lv0 ?av0 ?cv0 ?xv0 ?dv0 ?ev0; (case lv0 => kmk_list); (case av0 => omega); (case cv0 => omega); (case xv0 => assumption); (case ev0 => with_unfolding_all rfl))))
  (k_with "subscriptTail Name BinOp ref int" => (k_here; (with_reducible show wpAny _ _ (subscriptTail _ _ (Value.ref _) (Value.int _ _)) _ _ _); k_dflt (refine' item_any ?lv1 ?av1 ?cv1 ?xv1 ?dv1 ?ev1; (case lv1 => kmk_list); (case av1 => omega); (case cv1 => omega); (case xv1 => assumption); (case ev1 => with_unfolding_all rfl))))
  (k_with "subscriptTail Name BinOp ref int" => (k_here; (with_reducible show wpAny _ _ (subscriptTail _ _ (Value.ref _) (Value.int _ _)) _ _ _); k_dflt (refine' item_any ?lv2 ?av2 ?cv2 ?xv2 ?dv2 ?ev2; (case lv2 => kmk_list); (case av2 => omega); (case cv2 => omega); (case xv2 => assumption); (case ev2 => with_unfolding_all rfl))))
  (k_with "call ref" => (k_here; (with_reducible show wpAny _ _ (call (Value.ref 243) [Value.int _ _, Value.str _ _, Value.str _ _, Value.str _ _, Value.ref (escAd _)]) _ _ _); k_dflt (refine' (found_any _ _ _ _ _ _ _ _ _ _ _ _ _ _).use ?k1 ?k2 ?k3 ?k4 ?k5 ?kK ?kp ?kd ?ku ?kt ?_; (case k1 => k_asm); (case k2 => k_asm); (case k3 => k_asm); (case k4 => k_asm); (case k5 => k_asm); (case kK => first | exact rfl | assumption); (case kp => assumption); (case kd => ktr_room); (case ku => ktr_units); (case kt => first | exact Nat.zero_le _ | assumption | (dsimp only; omega)); intro t9 h9 tk9 ht9 kp9 F9 N9; (try dsimp only); (try k_fold))))
  (k_with "call ref" => (k_here; (with_reducible show wpAny _ _ (call (Value.ref 200) [Value.str _ _]) _ _ _); k_dflt (refine' (worth_c _ _ _ _ _ _).use ?k1 ?k2 ?k3 ?k4 ?k5 ?kK ?kp ?kd ?ku ?kt ?_; (case k1 => k_asm); (case k2 => k_asm); (case k3 => k_asm); (case k4 => k_asm); (case k5 => k_asm); (case kK => first | exact rfl | assumption); (case kp => assumption); (case kd => ktr_room); (case ku => ktr_units); (case kt => first | exact Nat.zero_le _ | assumption | (dsimp only; omega)); intro t9 h9 tk9 ht9 kp9 F9 N9; (try dsimp only); (try k_fold))))
  k_fill
  intro w mean mg mb g L fa cd X T B h245 m s Q E led R Sv tR ts F N hR hW hQ
  refine cut_law (P := fun body scope => wpAny (model PySem.Challenge.rw_tc0048_01.row.prog w) (lawA scope L fa cd) (exec (nth (forBody (nth (ifBody (nth (forBody (nth body 12)) 0)) 1)) 1) (lawE scope L fa cd)) Q E s) (by k_is) ?_
  dsimp only [nth, forBody, ifBody]
  delta lawE lawA
  k_steps
  · exact absurd hW (by assumption)
  · rename News _ _ _ _ => nE
    exact hQ _ _ (by assumption) nE
end Mine
end
section
open PySem PySem.W PyProof.Rows PySem.Calls PySem.Spec
set_option Elab.async false
set_option maxRecDepth 100000
set_option maxHeartbeats 4000000
namespace Mine
theorem innF : ∀ (w : World) (mean : ExcName → Option Value) (mg mb : Str → Option Value) (g : Heap) (L fa : Addr) (cd : Value) (X : (hdA.heap_1_1 w.params).In g) (T : Top topProg lsT mean mg mb g) (B : Below callerA g [] g) (h245 : 245 < L) (m : Str → Option Value) (s : Shared) (Q : Flow → Shared → Prop) (E : Value → Shared → Prop)
    (o3 : Obj) (rest : List (Addr × Obj)) (D : Addr) (out : List Value) (c : Nat) (p q : Tup) (kI Sv : Int) (tk t3 ts : Tok) (kw : Nat) (e : Str) (F : Fr g L s.heap m) (hm : m (Str.ofString "k") = some (.int kI tk) ∧ m (Str.ofString "table") = some (.ref D) ∧ m (Str.ofString "write") = some (.ref (escAd kw)) ∧ m (Str.ofString "simplest") = some (.int Sv ts)) (N : News g L s.heap ((D, listOf out.toArray c) :: (p.T, { cls := .type "tuple", data := .seq #[.int p.n p.t, .str p.x p.u] }) :: (q.T, { cls := .type "tuple", data := .seq #[.int q.n q.t, .str q.x q.u] }) :: (L + 1 + 1 + 1, o3) :: rest)) (d3 : o3.data = .cell (some (.str e t3))) (hk : 0 ≤ kI ∧ kI ≤ 3)
    (hx1 : out[kI.toNat]? = some (.ref p.T)) (hx2 : out[(kI + 1).toNat]? = some (.ref q.T)) (hFd : ∀ j : Nat, j < 3 → ∃ R, FdPre j p.x q.x e kw R ∧ R.length ≤ 64 ∧ worthS R = Sv)
    (hE : PassesOwn (model PySem.Challenge.rw_tc0048_01.row.prog w) (lawA (lawS w) L fa cd) (lawE (lawS w) L fa cd) E)
    (hQ : ∀ h' tk' m', Fr g L h' m' → (∀ z, z ≠ Str.ofString "judge" → z ≠ Str.ofString "found" → m' z = m z) → News g L h' ((D, listOf out.toArray c) :: (p.T, { cls := .type "tuple", data := .seq #[.int p.n p.t, .str p.x p.u] }) :: (q.T, { cls := .type "tuple", data := .seq #[.int q.n q.t, .str q.x q.u] }) :: (L + 1 + 1 + 1, o3) :: rest) → Q .next { s with heap := h', toks := tk' }),
    wpAny (model PySem.Challenge.rw_tc0048_01.row.prog w) (lawA (lawS w) L fa cd) (exec (nth (ifBody (nth (forBody (nth (lawB w) 12)) 0)) 1) (lawE (lawS w) L fa cd)) Q E s := by
  k_with_none
  k_fill
  intro w mean mg mb g L fa cd X T B h245 m s Q E o3 rest D out c p q kI Sv tk t3 ts kw e F hm N d3 hk hx1 hx2 hFd hE hQ
  refine cut_law (P := fun body scope => (∀ (m : Str → Option Value) (s : Shared) (Q : Flow → Shared → Prop) (E : Value → Shared → Prop) (o3 : Obj) (rest : List (Addr × Obj)) (D : Addr) (out : List Value) (c : Nat) (p q : Tup) (jI kI : Int) (tj tk t3 : Tok) (kw : Nat) (e R : Str) (F : Fr g L s.heap (kstB m [(Str.ofString "judge", .int jI tj), (Str.ofString "k", .int kI tk), (Str.ofString "table", .ref D), (Str.ofString "write", .ref (escAd kw))])) (N : News g L s.heap ((D, listOf out.toArray c) :: (p.T, { cls := .type "tuple", data := .seq #[.int p.n p.t, .str p.x p.u] }) :: (q.T, { cls := .type "tuple", data := .seq #[.int q.n q.t, .str q.x q.u] }) :: (L + 1 + 1 + 1, o3) :: rest)) (d3 : o3.data = .cell (some (.str e t3))) (hk : 0 ≤ kI ∧ kI ≤ 3)
    (hx1 : out[kI.toNat]? = some (.ref p.T)) (hx2 : out[(kI + 1).toNat]? = some (.ref q.T)) (hF : FdPre jI p.x q.x e kw R)
    (hQ : ∀ h' tk' t, Fr g L h' (fun z => if z = Str.ofString "found" then some (.str R t) else kstB m [(Str.ofString "judge", .int jI tj), (Str.ofString "k", .int kI tk), (Str.ofString "table", .ref D), (Str.ofString "write", .ref (escAd kw))] z) → News g L h' ((D, listOf out.toArray c) :: (p.T, { cls := .type "tuple", data := .seq #[.int p.n p.t, .str p.x p.u] }) :: (q.T, { cls := .type "tuple", data := .seq #[.int q.n q.t, .str q.x q.u] }) :: (L + 1 + 1 + 1, o3) :: rest) → Q .next { s with heap := h', toks := tk' }), wpAny (model PySem.Challenge.rw_tc0048_01.row.prog w) (lawA scope L fa cd) (exec (nth (forBody (nth (ifBody (nth (forBody (nth body 12)) 0)) 1)) 0) (lawE scope L fa cd)) Q E s) → (∀ (m : Str → Option Value) (s : Shared) (Q : Flow → Shared → Prop) (E : Value → Shared → Prop) (led : List (Addr × Obj)) (R : Str) (Sv : Int) (tR ts : Tok) (F : Fr g L s.heap (kstB m [(Str.ofString "found", .str R tR), (Str.ofString "simplest", .int Sv ts)])) (N : News g L s.heap led) (hR : R.length ≤ 64) (hW : worthS R = Sv)
    (hQ : ∀ h' tk', Fr g L h' (kstB m [(Str.ofString "found", .str R tR), (Str.ofString "simplest", .int Sv ts)]) → News g L h' led → Q .next { s with heap := h', toks := tk' }), wpAny (model PySem.Challenge.rw_tc0048_01.row.prog w) (lawA scope L fa cd) (exec (nth (forBody (nth (ifBody (nth (forBody (nth body 12)) 0)) 1)) 1) (lawE scope L fa cd)) Q E s) → PassesOwn (model PySem.Challenge.rw_tc0048_01.row.prog w) (lawA scope L fa cd) (lawE scope L fa cd) E → wpAny (model PySem.Challenge.rw_tc0048_01.row.prog w) (lawA scope L fa cd) (exec (nth (ifBody (nth (forBody (nth body 12)) 0)) 1) (lawE scope L fa cd)) Q E s) (by k_is) ?_ (fun m s Q E => inn0 w mean mg mb g L fa cd X T B h245 m s Q E) (fun m s Q E => inn1 w mean mg mb g L fa cd X T B h245 m s Q E) hE
  dsimp only [nth, forBody, ifBody]
  delta lawE lawA
  clear hE
  intro S0 S1 hE
  obtain ⟨hm1, hm2, hm3, hm4⟩ := hm
  (k_with "FeGo" => (refine stop_here ?_))
  refine for_else (h₀ := g) (hE := hE) rfl rfl rfl ?_
  k_steps
  (try delta Stop)
  rename IsRange _ _ _ _ _ _ _ _ => hR9
  rename Fr _ _ _ _ => fR
  rename News _ _ _ _ => nR
  refine ⟨_, 0, 3, _, _, _, 3, m, ((D, listOf out.toArray c) :: (p.T, { cls := .type "tuple", data := .seq #[.int p.n p.t, .str p.x p.u] }) :: (q.T, { cls := .type "tuple", data := .seq #[.int q.n q.t, .str q.x q.u] }) :: (L + 1 + 1 + 1, o3) :: rest), fun _ m' news' => news' = ((D, listOf out.toArray c) :: (p.T, { cls := .type "tuple", data := .seq #[.int p.n p.t, .str p.x p.u] }) :: (q.T, { cls := .type "tuple", data := .seq #[.int q.n q.t, .str q.x q.u] }) :: (L + 1 + 1 + 1, o3) :: rest) ∧ (∀ z, z ≠ Str.ofString "judge" → z ≠ Str.ofString "found" → m' z = m z), rfl, hR9, by decide, by rfl, fR, nR, ⟨rfl, fun z _ _ => rfl⟩, ?turn, ?fin⟩
  case fin =>
    rintro m' news' h' tk' F' N' ⟨rfl, hz⟩
    exact wpAny_execs_nil (hQ h' tk' m' F' hz N')
  case turn =>
    rintro i ti m₁ news₁ h tk' I oI hi ⟨rfl, hz⟩ hnI F N
    obtain ⟨R, hR1, hR2, hR3⟩ := hFd i hi
    have N₄ : News g L h ((D, listOf out.toArray c) :: (p.T, { cls := .type "tuple", data := .seq #[.int p.n p.t, .str p.x p.u] }) :: (q.T, { cls := .type "tuple", data := .seq #[.int q.n q.t, .str q.x q.u] }) :: (L + 1 + 1 + 1, o3) :: (I, oI) :: rest) := fun r hr => N r (by
      simp only [List.mem_cons] at hr ⊢
      rcases hr with h | h | h | h | h | h
      · exact .inr (.inl h)
      · exact .inr (.inr (.inl h))
      · exact .inr (.inr (.inr (.inl h)))
      · exact .inr (.inr (.inr (.inr (.inl h))))
      · exact .inl h
      · exact .inr (.inr (.inr (.inr (.inr h)))))
    rw [Int.zero_add] at F
    refine wpAny_execs_cons ?_
    refine S0 _ _ _ _ o3 ((I, oI) :: rest) D out c p q (i : Int) kI ti tk t3 kw e R (fr_kstB F ?_) N₄ d3 hk hx1 hx2 hR1 fun h5 tk5 t5 F5 N5 => ?_
    · intro r hr
      simp only [List.mem_cons, List.not_mem_nil, or_false] at hr
      rcases hr with rfl | rfl | rfl | rfl
      · rfl
      · show m₁ (Str.ofString "k") = _
        rw [hz _ (by decide) (by decide)]; exact hm1
      · show m₁ (Str.ofString "table") = _
        rw [hz _ (by decide) (by decide)]; exact hm2
      · show m₁ (Str.ofString "write") = _
        rw [hz _ (by decide) (by decide)]; exact hm3
    refine wpAny_execs_cons ?_
    refine S1 _ _ _ _ _ R Sv t5 ts (fr_kstB F5 ?_) N5 hR2 hR3 fun h6 tk6 F6 N6 => ?_
    · intro r hr
      simp only [List.mem_cons, List.not_mem_nil, or_false] at hr
      rcases hr with rfl | rfl
      · rfl
      · show m₁ (Str.ofString "simplest") = _
        rw [hz _ (by decide) (by decide)]; exact hm4
    refine wpAny_execs_nil ?_
    refine ⟨h6, tk6, _, ((D, listOf out.toArray c) :: (p.T, { cls := .type "tuple", data := .seq #[.int p.n p.t, .str p.x p.u] }) :: (q.T, { cls := .type "tuple", data := .seq #[.int q.n q.t, .str q.x q.u] }) :: (L + 1 + 1 + 1, o3) :: rest), rfl, F6, ?_, hnI, rfl, ?_⟩
    · intro r hr
      refine N6 r ?_
      simp only [List.mem_cons] at hr ⊢
      rcases hr with h | h | h | h | h | h
      · exact .inr (.inr (.inr (.inr (.inl h))))
      · exact .inl h
      · exact .inr (.inl h)
      · exact .inr (.inr (.inl h))
      · exact .inr (.inr (.inr (.inl h)))
      · exact .inr (.inr (.inr (.inr (.inr h))))
    · intro z h1 h2
      refine Eq.trans ?_ (hz z h1 h2)
      by_cases c1 : z = Str.ofString "simplest"
      · subst c1
        show some _ = _
        rw [hz _ (by decide) (by decide)]; exact hm4.symm
      by_cases c2 : z = Str.ofString "k"
      · subst c2
        show some _ = _
        rw [hz _ (by decide) (by decide)]; exact hm1.symm
      by_cases c3 : z = Str.ofString "table"
      · subst c3
        show some _ = _
        rw [hz _ (by decide) (by decide)]; exact hm2.symm
      by_cases c4 : z = Str.ofString "write"
      · subst c4
        show some _ = _
        rw [hz _ (by decide) (by decide)]; exact hm3.symm
      simp [kstB, h1, h2, c1, c2, c3, c4]
end Mine
end
section
open PySem PySem.W PyProof.Rows PySem.Calls PySem.Spec
set_option Elab.async false
set_option maxRecDepth 100000
set_option maxHeartbeats 4000000
namespace Mine
structure HidN (g : Heap) (L : Addr) (h : Heap) (l : List (Addr × Obj)) : Prop where
  news : News g L h l
theorem item_tupAny {prog : Program} {w : World} {A : Around} {E : Value → Shared → Prop} {s : Shared} {value slice : Expr} {l : Addr} {vs : List Value} {x : Value} {i : Int} {u : Tok} {Q : Value → Shared → Prop} (ht : IsTup s.heap l vs.toArray) (h0 : 0 ≤ i) (h1 : i < (vs.length : Int)) (hfit : i < 2 ^ 63) (hx : vs[i.toNat]? = some x) (h : Q x s)
    (hs : subscripted slice false (.ref l) (.int i u) = operate [.ref l, .int i u] (getItem (.ref l) (.int i u)) := by with_unfolding_all rfl) : wpAny (model prog w) A (subscriptTail value slice (.ref l) (.int i u)) Q E s :=
  tail_any ht.typeIs slot_tuple_getitem.lookup (getItem_tuple ht (by omega) hfit (seqIndex_of h0 (by rw [List.size_toArray]; exact h1)) (x := x) (by simpa using hx) h) hs
theorem ifF : ∀ (w : World) (mean : ExcName → Option Value) (mg mb : Str → Option Value) (g : Heap) (L fa : Addr) (cd : Value) (X : (hdA.heap_1_1 w.params).In g) (T : Top topProg lsT mean mg mb g) (B : Below callerA g [] g) (h245 : 245 < L) (m : Str → Option Value) (s : Shared) (Q : Flow → Shared → Prop) (E : Value → Shared → Prop)
    (o3 : Obj) (rest lam : List (Addr × Obj)) (D : Addr) (out : List Value) (c : Nat) (p q : Tup) (kI : Int) (tk t3 : Tok) (kw : Nat) (e : Str) (F : Fr g L s.heap (kstB m [(Str.ofString "k", .int kI tk), (Str.ofString "table", .ref D)])) (hw : m (Str.ofString "write") = some (.ref (escAd kw))) (N : News g L s.heap ((D, listOf out.toArray c) :: (p.T, { cls := .type "tuple", data := .seq #[.int p.n p.t, .str p.x p.u] }) :: (q.T, { cls := .type "tuple", data := .seq #[.int q.n q.t, .str q.x q.u] }) :: (L + 1 + 1 + 1, o3) :: rest ++ lam)) (hL : LamSt lam) (hap : ∀ r ∈ ((D, listOf out.toArray c) :: (p.T, { cls := .type "tuple", data := .seq #[.int p.n p.t, .str p.x p.u] }) :: (q.T, { cls := .type "tuple", data := .seq #[.int q.n q.t, .str q.x q.u] }) :: (L + 1 + 1 + 1, o3) :: rest), r.1 ∉ lam.map (·.1)) (CH : CodeHd g 247 245) (d3 : o3.data = .cell (some (.str e t3))) (hk : 0 ≤ kI ∧ kI ≤ 3)
    (hx1 : out[kI.toNat]? = some (.ref p.T)) (hx2 : out[(kI + 1).toNat]? = some (.ref q.T)) (hP : p.n < q.n → ∃ S R n, BtPre p.n q.n S R n ∧ ∀ j : Nat, j < 3 → ∃ R', FdPre j p.x q.x e kw R' ∧ R'.length ≤ 64 ∧ worthS R' = R)
    (hE : PassesOwn (model PySem.Challenge.rw_tc0048_01.row.prog w) (lawA (lawS w) L fa cd) (lawE (lawS w) L fa cd) E)
    (hQ : ∀ h' tk' m' lam', Fr g L h' m' → (∀ z, z ≠ Str.ofString "judge" → z ≠ Str.ofString "found" → z ≠ Str.ofString "simplest" → m' z = kstB m [(Str.ofString "k", .int kI tk), (Str.ofString "table", .ref D)] z) → News g L h' ((D, listOf out.toArray c) :: (p.T, { cls := .type "tuple", data := .seq #[.int p.n p.t, .str p.x p.u] }) :: (q.T, { cls := .type "tuple", data := .seq #[.int q.n q.t, .str q.x q.u] }) :: (L + 1 + 1 + 1, o3) :: rest ++ lam') → LamSt lam' → (∀ r ∈ ((D, listOf out.toArray c) :: (p.T, { cls := .type "tuple", data := .seq #[.int p.n p.t, .str p.x p.u] }) :: (q.T, { cls := .type "tuple", data := .seq #[.int q.n q.t, .str q.x q.u] }) :: (L + 1 + 1 + 1, o3) :: rest), r.1 ∉ lam'.map (·.1)) → Q .next { s with heap := h', toks := tk' }),
    wpAny (model PySem.Challenge.rw_tc0048_01.row.prog w) (lawA (lawS w) L fa cd) (exec (nth (forBody (nth (lawB w) 12)) 0) (lawE (lawS w) L fa cd)) Q E s := by
  k_with_none
  (k_with "subscriptTail" => (k_here; (with_reducible show wpAny _ _ (subscriptTail _ _ (Value.ref _) (Value.int _ _)) _ _ _); k_dflt (refine' item_any ?lv0 ?av0 ?cv0 ?xv0 ?dv0 ?ev0; (case lv0 => kmk_list); (case av0 => omega); (case cv0 => omega); (case xv0 => assumption); (case ev0 => with_unfolding_all rfl))))
  (k_with "subscriptTail" => (k_here; (with_reducible show wpAny _ _ (subscriptTail _ _ (Value.ref _) (Value.int _ _)) _ _ _); k_dflt (refine' item_any ?lv1 ?av1 ?cv1 ?xv1 ?dv1 ?ev1; (case lv1 => kmk_list); (case av1 => omega); (case cv1 => omega); (case xv1 => assumption); (case ev1 => with_unfolding_all rfl))))
  (k_with "subscriptTail Name BinOp ref int" => (k_here; (with_reducible show wpAny _ _ (subscriptTail _ _ (Value.ref _) (Value.int _ _)) _ _ _); k_dflt (refine' item_any ?lv0 ?av0 ?cv0 ?xv0 ?dv0 ?ev0; (case lv0 => kmk_list); (case av0 => omega); (case cv0 => omega); (case xv0 => assumption); (case ev0 => with_unfolding_all rfl))))
  (k_with "subscriptTail Name BinOp ref int" => (k_here; (with_reducible show wpAny _ _ (subscriptTail _ _ (Value.ref _) (Value.int _ _)) _ _ _); k_dflt (refine' item_any ?lv1 ?av1 ?cv1 ?xv1 ?dv1 ?ev1; (case lv1 => kmk_list); (case av1 => omega); (case cv1 => omega); (case xv1 => assumption); (case ev1 => with_unfolding_all rfl))))
  (k_with "subscriptTail" => (k_here; (with_reducible show wpAny _ _ (subscriptTail _ _ (Value.ref _) (Value.int 0 _)) _ _ _); refine stop_here ?_))
  (k_with "call ref" => (k_here; refine stop_here ?_))
  (k_with "exec For Name Call cons nil" => (k_here; refine stop_here ?_))
  k_fill
  intro w mean mg mb g L fa cd X T B h245 m s Q E o3 rest lam D out c p q kI tk t3 kw e F hw N hL hap CH d3 hk hx1 hx2 hP hE hQ
  refine cut_law (P := fun body scope => (∀ (m : Str → Option Value) (s : Shared) (Q : Flow → Shared → Prop) (E : Value → Shared → Prop) (o3 : Obj) (rest : List (Addr × Obj)) (D : Addr) (out : List Value) (c : Nat) (p q : Tup) (kI Sv : Int) (tk t3 ts : Tok) (kw : Nat) (e : Str) (F : Fr g L s.heap m) (hm : m (Str.ofString "k") = some (.int kI tk) ∧ m (Str.ofString "table") = some (.ref D) ∧ m (Str.ofString "write") = some (.ref (escAd kw)) ∧ m (Str.ofString "simplest") = some (.int Sv ts)) (N : News g L s.heap ((D, listOf out.toArray c) :: (p.T, { cls := .type "tuple", data := .seq #[.int p.n p.t, .str p.x p.u] }) :: (q.T, { cls := .type "tuple", data := .seq #[.int q.n q.t, .str q.x q.u] }) :: (L + 1 + 1 + 1, o3) :: rest)) (d3 : o3.data = .cell (some (.str e t3))) (hk : 0 ≤ kI ∧ kI ≤ 3)
    (hx1 : out[kI.toNat]? = some (.ref p.T)) (hx2 : out[(kI + 1).toNat]? = some (.ref q.T)) (hFd : ∀ j : Nat, j < 3 → ∃ R, FdPre j p.x q.x e kw R ∧ R.length ≤ 64 ∧ worthS R = Sv)
    (hE : PassesOwn (model PySem.Challenge.rw_tc0048_01.row.prog w) (lawA scope L fa cd) (lawE scope L fa cd) E)
    (hQ : ∀ h' tk' m', Fr g L h' m' → (∀ z, z ≠ Str.ofString "judge" → z ≠ Str.ofString "found" → m' z = m z) → News g L h' ((D, listOf out.toArray c) :: (p.T, { cls := .type "tuple", data := .seq #[.int p.n p.t, .str p.x p.u] }) :: (q.T, { cls := .type "tuple", data := .seq #[.int q.n q.t, .str q.x q.u] }) :: (L + 1 + 1 + 1, o3) :: rest) → Q .next { s with heap := h', toks := tk' }), wpAny (model PySem.Challenge.rw_tc0048_01.row.prog w) (lawA scope L fa cd) (exec (nth (ifBody (nth (forBody (nth body 12)) 0)) 1) (lawE scope L fa cd)) Q E s) → PassesOwn (model PySem.Challenge.rw_tc0048_01.row.prog w) (lawA scope L fa cd) (lawE scope L fa cd) E → wpAny (model PySem.Challenge.rw_tc0048_01.row.prog w) (lawA scope L fa cd) (exec (nth (forBody (nth body 12)) 0) (lawE scope L fa cd)) Q E s) (by k_is) ?_ (fun m s Q E => innF w mean mg mb g L fa cd X T B h245 m s Q E) hE
  dsimp only [nth, forBody, ifBody]
  delta lawE lawA
  clear hE
  intro S0 hE
  have N0 := N
  simp only [List.cons_append] at N
  have hk' := hk
  obtain ⟨hk0, hk1⟩ := hk
  k_steps
  delta Stop
  refine' item_tupAny ?l1 ?a1 ?b1 ?c1 ?x1 ?d1 ?e1
  case l1 => exact News.isTup (by k_asm) (by k_mem)
  case a1 => decide
  case b1 => (simp only [List.length_cons, List.length_nil]; decide)
  case c1 => decide
  case x1 => rfl
  case e1 => with_unfolding_all rfl
  k_steps
  delta Stop
  refine' item_tupAny ?l2 ?a2 ?b2 ?c2 ?x2 ?d2 ?e2
  case l2 => exact News.isTup (by k_asm) (by k_mem)
  case a2 => decide
  case b2 => (simp only [List.length_cons, List.length_nil]; decide)
  case c2 => decide
  case x2 => rfl
  case e2 => with_unfolding_all rfl
  k_steps
  · skip
    refine' item_any ?l3 ?a3 ?c3 ?x3 ?d3 ?e3
    case l3 => kmk_list
    case a3 => omega
    case c3 => omega
    case x3 => assumption
    case e3 => with_unfolding_all rfl
    k_steps
    delta Stop
    refine' item_tupAny ?l4 ?a4 ?b4 ?c4 ?x4 ?d4 ?e4
    case l4 => exact News.isTup (by k_asm) (by k_mem)
    case a4 => decide
    case b4 => (simp only [List.length_cons, List.length_nil]; decide)
    case c4 => decide
    case x4 => rfl
    case e4 => with_unfolding_all rfl
    k_steps
    refine' item_any ?l6 ?a6 ?c6 ?x6 ?d6 ?e6
    case l6 => kmk_list
    case a6 => omega
    case c6 => omega
    case x6 => assumption
    case e6 => with_unfolding_all rfl
    k_steps
    delta Stop
    refine' item_tupAny ?l7 ?a7 ?b7 ?c7 ?x7 ?d7 ?e7
    case l7 => exact News.isTup (by k_asm) (by k_mem)
    case a7 => decide
    case b7 => (simp only [List.length_cons, List.length_nil]; decide)
    case c7 => decide
    case x7 => rfl
    case e7 => with_unfolding_all rfl
    k_steps
    delta Stop
    rename (p.n < q.n) => hlt
    obtain ⟨S9, R9, n9, hpre, hfd⟩ := hP hlt
    have NL : News g L s.heap lam := fun r hr => N0 r (List.mem_append_right _ hr)
    have NX : News g L s.heap ((D, listOf out.toArray c) :: (p.T, { cls := .type "tuple", data := .seq #[.int p.n p.t, .str p.x p.u] }) :: (q.T, { cls := .type "tuple", data := .seq #[.int q.n q.t, .str q.x q.u] }) :: (L + 1 + 1 + 1, o3) :: rest) := fun r hr => N0 r (List.mem_append_left _ hr)
    k_dflt (refine' between_c w mean mg mb p.n q.n S9 R9 n9 _ _ lam hL _ _ _ _ _ _ _ _ _ _ _ _ _ _ _ _ _ B F X T CH rfl hpre ?kd ?ku NL ?_; (case kd => ktr_room); (case ku => ktr_units))
    intro t9 h9 tk9 lam9 F9 hk9 NL9 hL9 hfr9
    have N9 : News g L h9 ((D, listOf out.toArray c) :: (p.T, { cls := .type "tuple", data := .seq #[.int p.n p.t, .str p.x p.u] }) :: (q.T, { cls := .type "tuple", data := .seq #[.int q.n q.t, .str q.x q.u] }) :: (L + 1 + 1 + 1, o3) :: rest ++ lam9) := fun r hr => by
      rcases List.mem_append.mp hr with hr | hr
      · exact ⟨hk9 _ _ (hap r hr) (NX r hr).1, (NX r hr).2⟩
      · exact NL9 r hr
    have hap9 : ∀ r ∈ ((D, listOf out.toArray c) :: (p.T, { cls := .type "tuple", data := .seq #[.int p.n p.t, .str p.x p.u] }) :: (q.T, { cls := .type "tuple", data := .seq #[.int q.n q.t, .str q.x q.u] }) :: (L + 1 + 1 + 1, o3) :: rest), r.1 ∉ lam9.map (·.1) := fun r hr hm => by
      obtain ⟨x, hx, e⟩ := List.mem_map.mp hm
      rcases hfr9 x hx with h | h
      · rw [e] at h; exact hap r hr h
      · rw [e] at h
        have := (NX r hr).1
        rw [show s.heap.get? r.1 = none from h] at this; cases this
    simp only [List.cons_append] at N9
    clear NL NX NL9 N0 N F
    (try dsimp only)
    k_steps
    delta Stop
    rename News _ _ _ _ => nE
    rename Fr _ _ _ _ => fE
    refine S0 _ _ _ _ o3 (rest ++ lam9) D out c p q kI R9 _ t3 _ kw e fE ⟨rfl, rfl, hw, rfl⟩ nE d3 hk' hx1 hx2 hfd hE fun h' tk' m' F' hz' N' => ?_
    (try dsimp only)
    k_steps
    refine hQ _ _ _ lam9 F' (fun z h1 h2 h3 => ?_) N' hL9 hap9
    rw [hz' z h1 h2]
    simp [h3]
  · rename News _ _ _ _ => nE
    exact hQ _ _ _ lam (by assumption) (fun z _ _ _ => rfl) nE hL hap
end Mine
end
section
open PySem PySem.W PyProof.Rows PySem.Calls PySem.Spec
set_option Elab.async false
set_option maxRecDepth 100000
set_option maxHeartbeats 4000000
namespace Mine
theorem seg12 : ∀ (w : World) (mean : ExcName → Option Value) (mg mb : Str → Option Value) (g : Heap) (L fa : Addr) (cd : Value) (X : (hdA.heap_1_1 w.params).In g) (T : Top topProg lsT mean mg mb g) (B : Below callerA g [] g) (h245 : 245 < L) (m : Str → Option Value) (s : Shared) (Q : Flow → Shared → Prop) (E : Value → Shared → Prop)
    (o3 : Obj) (rest lam : List (Addr × Obj)) (D : Addr) (out : List Value) (c : Nat) (ts : List Tup) (t3 : Tok) (kw : Nat) (e : Str) (F : Fr g L s.heap m) (hm : m (Str.ofString "table") = some (.ref D) ∧ m (Str.ofString "write") = some (.ref (escAd kw))) (N : News g L s.heap (((D, listOf out.toArray c) :: (L + 1 + 1 + 1, o3) :: rest) ++ lam)) (hL : LamSt lam) (hap : ∀ r ∈ ((D, listOf out.toArray c) :: (L + 1 + 1 + 1, o3) :: rest), r.1 ∉ lam.map (·.1)) (CH : CodeHd g 247 245) (d3 : o3.data = .cell (some (.str e t3)))
    (hts : ∀ p ∈ ts, (p.T, p.obj) ∈ rest) (hol : out.length = 5) (hout : ∀ v ∈ out, ∃ p ∈ ts, v = .ref p.T) (hP : ∀ p ∈ ts, ∀ q ∈ ts, p.n < q.n → ∃ S R n, BtPre p.n q.n S R n ∧ ∀ j : Nat, j < 3 → ∃ R', FdPre j p.x q.x e kw R' ∧ R'.length ≤ 64 ∧ worthS R' = R)
    (hE : PassesOwn (model PySem.Challenge.rw_tc0048_01.row.prog w) (lawA (lawS w) L fa cd) (lawE (lawS w) L fa cd) E)
    (hQ : ∀ h' tk' m' lam', Fr g L h' m' → News g L h' (((D, listOf out.toArray c) :: (L + 1 + 1 + 1, o3) :: rest) ++ lam') → LamSt lam' → Q .next { s with heap := h', toks := tk' }),
    wpAny (model PySem.Challenge.rw_tc0048_01.row.prog w) (lawA (lawS w) L fa cd) (exec (nth (lawB w) 12) (lawE (lawS w) L fa cd)) Q E s := by
  k_with_none
  (k_with "FeGo" => (refine stop_here ?_))
  k_fill
  intro w mean mg mb g L fa cd X T B h245 m s Q E o3 rest lam D out c ts t3 kw e F hm N hL hap CH d3 hts hol hout hP hE hQ
  refine cut_law (P := fun body scope => (∀ (m : Str → Option Value) (s : Shared) (Q : Flow → Shared → Prop) (E : Value → Shared → Prop) (o3 : Obj) (rest lam : List (Addr × Obj)) (D : Addr) (out : List Value) (c : Nat) (p q : Tup) (kI : Int) (tk t3 : Tok) (kw : Nat) (e : Str) (F : Fr g L s.heap (kstB m [(Str.ofString "k", .int kI tk), (Str.ofString "table", .ref D)])) (hw : m (Str.ofString "write") = some (.ref (escAd kw))) (N : News g L s.heap ((D, listOf out.toArray c) :: (p.T, { cls := .type "tuple", data := .seq #[.int p.n p.t, .str p.x p.u] }) :: (q.T, { cls := .type "tuple", data := .seq #[.int q.n q.t, .str q.x q.u] }) :: (L + 1 + 1 + 1, o3) :: rest ++ lam)) (hL : LamSt lam) (hap : ∀ r ∈ ((D, listOf out.toArray c) :: (p.T, { cls := .type "tuple", data := .seq #[.int p.n p.t, .str p.x p.u] }) :: (q.T, { cls := .type "tuple", data := .seq #[.int q.n q.t, .str q.x q.u] }) :: (L + 1 + 1 + 1, o3) :: rest), r.1 ∉ lam.map (·.1)) (CH : CodeHd g 247 245) (d3 : o3.data = .cell (some (.str e t3))) (hk : 0 ≤ kI ∧ kI ≤ 3)
    (hx1 : out[kI.toNat]? = some (.ref p.T)) (hx2 : out[(kI + 1).toNat]? = some (.ref q.T)) (hP : p.n < q.n → ∃ S R n, BtPre p.n q.n S R n ∧ ∀ j : Nat, j < 3 → ∃ R', FdPre j p.x q.x e kw R' ∧ R'.length ≤ 64 ∧ worthS R' = R)
    (hE : PassesOwn (model PySem.Challenge.rw_tc0048_01.row.prog w) (lawA scope L fa cd) (lawE scope L fa cd) E)
    (hQ : ∀ h' tk' m' lam', Fr g L h' m' → (∀ z, z ≠ Str.ofString "judge" → z ≠ Str.ofString "found" → z ≠ Str.ofString "simplest" → m' z = kstB m [(Str.ofString "k", .int kI tk), (Str.ofString "table", .ref D)] z) → News g L h' ((D, listOf out.toArray c) :: (p.T, { cls := .type "tuple", data := .seq #[.int p.n p.t, .str p.x p.u] }) :: (q.T, { cls := .type "tuple", data := .seq #[.int q.n q.t, .str q.x q.u] }) :: (L + 1 + 1 + 1, o3) :: rest ++ lam') → LamSt lam' → (∀ r ∈ ((D, listOf out.toArray c) :: (p.T, { cls := .type "tuple", data := .seq #[.int p.n p.t, .str p.x p.u] }) :: (q.T, { cls := .type "tuple", data := .seq #[.int q.n q.t, .str q.x q.u] }) :: (L + 1 + 1 + 1, o3) :: rest), r.1 ∉ lam'.map (·.1)) → Q .next { s with heap := h', toks := tk' }), wpAny (model PySem.Challenge.rw_tc0048_01.row.prog w) (lawA scope L fa cd) (exec (nth (forBody (nth body 12)) 0) (lawE scope L fa cd)) Q E s) → PassesOwn (model PySem.Challenge.rw_tc0048_01.row.prog w) (lawA scope L fa cd) (lawE scope L fa cd) E → wpAny (model PySem.Challenge.rw_tc0048_01.row.prog w) (lawA scope L fa cd) (exec (nth body 12) (lawE scope L fa cd)) Q E s) (by k_is) ?_ (fun m s Q E => ifF w mean mg mb g L fa cd X T B h245 m s Q E) hE
  dsimp only [nth, forBody, ifBody]
  delta lawE lawA
  clear hE
  intro S0 hE
  obtain ⟨hm1, hm2⟩ := hm
  (k_with "FeGo" => (refine stop_here ?_))
  refine for_else (h₀ := g) (hE := hE) rfl rfl rfl ?_
  k_steps
  (try delta Stop)
  rename IsRange _ _ _ _ _ _ _ _ => hR9
  rename Fr _ _ _ _ => fR
  rename News _ _ _ _ => nR
  refine ⟨_, 0, 4, _, _, _, 4, m, (((D, listOf out.toArray c) :: (L + 1 + 1 + 1, o3) :: rest) ++ lam), fun _ m' news' => ∃ lam', LamSt lam' ∧ (∀ r ∈ ((D, listOf out.toArray c) :: (L + 1 + 1 + 1, o3) :: rest), r.1 ∉ lam'.map (·.1)) ∧ news' = (((D, listOf out.toArray c) :: (L + 1 + 1 + 1, o3) :: rest) ++ lam') ∧ (∀ z, z ≠ Str.ofString "k" → z ≠ Str.ofString "simplest" → z ≠ Str.ofString "judge" → z ≠ Str.ofString "found" → m' z = m z), rfl, hR9, by decide, by rfl, fR, nR, ⟨lam, hL, hap, rfl, fun z _ _ _ _ => rfl⟩, ?turn, ?fin⟩
  case fin =>
    rintro m' news' h' tk' F' N' ⟨lam', hL', hap', rfl, hz⟩
    exact wpAny_execs_nil (hQ h' tk' m' lam' F' N' hL')
  case turn =>
    rintro i ti m₁ news₁ h tk' I oI hi ⟨lam', hL', hap', rfl, hz⟩ hnI F N
    obtain ⟨v1, hv1⟩ : ∃ v, out[i]? = some v := ⟨_, List.getElem?_eq_getElem (by rw [hol]; omega)⟩
    obtain ⟨v2, hv2⟩ : ∃ v, out[i + 1]? = some v := ⟨_, List.getElem?_eq_getElem (by rw [hol]; omega)⟩
    obtain ⟨p, hp, rfl⟩ := hout v1 (List.mem_of_getElem? hv1)
    obtain ⟨q, hq, rfl⟩ := hout v2 (List.mem_of_getElem? hv2)
    have N₄ : News g L h (((D, listOf out.toArray c) :: (p.T, { cls := .type "tuple", data := .seq #[.int p.n p.t, .str p.x p.u] }) :: (q.T, { cls := .type "tuple", data := .seq #[.int q.n q.t, .str q.x q.u] }) :: (L + 1 + 1 + 1, o3) :: ((I, oI) :: rest)) ++ lam') := fun r hr => by
      rcases List.mem_append.mp hr with hr | hr
      · simp only [List.mem_cons] at hr
        rcases hr with rfl | rfl | rfl | rfl | rfl | hr
        · exact N _ (.tail _ (List.mem_append_left _ (.head _)))
        · exact N _ (.tail _ (List.mem_append_left _ (.tail _ (.tail _ (hts p hp)))))
        · exact N _ (.tail _ (List.mem_append_left _ (.tail _ (.tail _ (hts q hq)))))
        · exact N _ (.tail _ (List.mem_append_left _ (.tail _ (.head _))))
        · exact N _ (.head _)
        · exact N _ (.tail _ (List.mem_append_left _ (.tail _ (.tail _ hr))))
      · exact N _ (.tail _ (List.mem_append_right _ hr))
    have hapI : I ∉ lam'.map (·.1) := fun hmem => by
      obtain ⟨x, hx, e⟩ := List.mem_map.mp hmem
      exact hnI x (List.mem_append_right _ hx) e
    have hap₄ : ∀ r ∈ ((D, listOf out.toArray c) :: (p.T, { cls := .type "tuple", data := .seq #[.int p.n p.t, .str p.x p.u] }) :: (q.T, { cls := .type "tuple", data := .seq #[.int q.n q.t, .str q.x q.u] }) :: (L + 1 + 1 + 1, o3) :: ((I, oI) :: rest)), r.1 ∉ lam'.map (·.1) := fun r hr => by
      simp only [List.mem_cons] at hr
      rcases hr with rfl | rfl | rfl | rfl | rfl | hr
      · exact hap' _ (.head _)
      · exact hap' _ (.tail _ (.tail _ (hts p hp)))
      · exact hap' _ (.tail _ (.tail _ (hts q hq)))
      · exact hap' _ (.tail _ (.head _))
      · exact hapI
      · exact hap' _ (.tail _ (.tail _ hr))
    rw [Int.zero_add] at F
    refine wpAny_execs_cons ?_
    refine S0 _ _ _ _ o3 ((I, oI) :: rest) lam' D out c p q (i : Int) ti t3 kw e (fr_kstB F ?_) ?_ N₄ hL' hap₄ CH d3 ⟨by omega, by omega⟩ (by simpa using hv1) (by simpa using hv2) (hP p hp q hq) hE fun h5 tk5 m5 lam5 F5 hz5 N5 hL5 hap5 => ?_
    · intro r hr
      simp only [List.mem_cons, List.not_mem_nil, or_false] at hr
      rcases hr with rfl | rfl
      · rfl
      · show m₁ (Str.ofString "table") = _
        rw [hz _ (by decide) (by decide) (by decide) (by decide)]; exact hm1
    · show m₁ (Str.ofString "write") = _
      rw [hz _ (by decide) (by decide) (by decide) (by decide)]; exact hm2
    refine wpAny_execs_nil ?_
    refine ⟨h5, tk5, m5, (((D, listOf out.toArray c) :: (L + 1 + 1 + 1, o3) :: rest) ++ lam5), rfl, F5, ?_, ?_, lam5, hL5, ?_, rfl, ?_⟩
    · intro r hr
      rcases List.mem_cons.mp hr with rfl | hr
      · exact N5 _ (List.mem_append_left _ (.tail _ (.tail _ (.tail _ (.tail _ (.head _))))))
      rcases List.mem_append.mp hr with hr | hr
      · refine N5 _ (List.mem_append_left _ ?_)
        simp only [List.mem_cons] at hr ⊢
        rcases hr with h | h | h
        · exact .inl h
        · exact .inr (.inr (.inr (.inl h)))
        · exact .inr (.inr (.inr (.inr (.inr h))))
      · exact N5 _ (List.mem_append_right _ hr)
    · intro r hr
      rcases List.mem_append.mp hr with hr | hr
      · exact hnI r (List.mem_append_left _ hr)
      · intro e
        exact hap5 (I, oI) (.tail _ (.tail _ (.tail _ (.tail _ (.head _))))) (List.mem_map.mpr ⟨r, hr, e⟩)
    · intro r hr
      refine hap5 r ?_
      simp only [List.mem_cons] at hr ⊢
      rcases hr with h | h | h
      · exact .inl h
      · exact .inr (.inr (.inr (.inl h)))
      · exact .inr (.inr (.inr (.inr (.inr h))))
    · intro z h1 h2 h3 h4
      rw [hz5 z h3 h4 h2]
      by_cases c1 : z = Str.ofString "table"
      · subst c1
        show some _ = _
        exact hm1.symm
      · simp [kstB, h1, c1]
        exact hz z h1 h2 h3 h4
end Mine
end
section
open PySem PySem.W PyProof.Rows PySem.Calls PySem.Spec
set_option Elab.async false
set_option maxRecDepth 100000
set_option maxHeartbeats 8000000
namespace Mine
noncomputable def EndOk (g : Heap) (L : Addr) (s : Shared) (fl : Flow) (s' : Shared) : Prop := fl = .ret (.bool true) ∧ ∃ h' tk m' lam, s' = { s with heap := h', toks := tk } ∧ Fr g L h' m' ∧ News g L h' lam ∧ LamSt lam
theorem end_cut {M : Model} {A : Around} {env : Env} {b : List Stmt} {Q : Flow → Shared → Prop} {E : Value → Shared → Prop} {s : Shared} {g : Heap} {L : Addr} {m : Str → Option Value} (_F : Fr g L s.heap m) (h : wpAny M A (execs b env) (EndOk g L s) E s)
    (k : ∀ h' tk m' lam, Fr g L h' m' → News g L h' lam → LamSt lam → Q (.ret (.bool true)) { s with heap := h', toks := tk }) : wpAny M A (execs b env) Q E s :=
  wpAny_mono h (fun fl s' ⟨a, h', tk, m', lam, e, F, N, hl⟩ => by rw [a, e]; exact k h' tk m' lam F N hl) fun _ _ e => e
end Mine
end
section
open PySem PySem.W PyProof.Rows PySem.Calls PySem.Spec
set_option Elab.async false
set_option maxRecDepth 100000
set_option maxHeartbeats 4000000
namespace Mine
/-! drawn -/
noncomputable def drF : Nat → Str → Int → Str
  | 0, row, _ => row
  | n + 1, row, code => if code > 1 then drF n ((if Int.fmod code 2 = 1 then Str.ofString "." else Str.ofString "\t") ++ row) (Int.fdiv code 2) else row
noncomputable def drawnS (s : Int) : Str := drF 127 (Str.ofString "") (1 + Int.fmod s 127)
noncomputable def DrI (R row : Str) (code : Int) : Prop := ∃ n : Nat, code ≤ n ∧ drF n row code = R
noncomputable abbrev DrInv (R row : Str) (code : Int) : Prop := (1 ≤ code ∧ (row.length : Int) + code ≤ 128) ∧ DrI R row code
theorem dr_start (s : Int) : DrInv (drawnS s) (Str.ofString "") (1 + Int.fmod s 127) := by
  have h1 := Int.fmod_nonneg_of_pos s (show (0:Int) < 127 by decide)
  have h2 := Int.fmod_lt_of_pos s (show (0:Int) < 127 by decide)
  refine ⟨⟨by omega, ?_⟩, 127, by omega, rfl⟩
  have : (Str.ofString "").length = 0 := by decide +kernel
  rw [this]; omega
theorem dr_len (a b : Str) : (a ++ b).length = a.length + b.length := Str.length_append a b
theorem dr_turn1 {R row : Str} {code : Int} (h : DrI R row code) (a : 1 ≤ code) (b : (row.length : Int) + code ≤ 128) (h1 : 1 < code) (h2 : Int.fmod code 2 = 1) : DrInv R (Str.ofString "." ++ row) (Int.fdiv code 2) := by
  obtain ⟨n, c, d⟩ := h
  have e : Int.fdiv code 2 = code / 2 := Int.fdiv_eq_ediv_of_nonneg _ (by decide)
  have l1 : (Str.ofString ".").length = 1 := by decide +kernel
  obtain ⟨m, rfl⟩ : ∃ m, n = m + 1 := ⟨n - 1, by omega⟩
  refine ⟨⟨by omega, by rw [dr_len, l1]; omega⟩, m, by omega, ?_⟩
  rw [← d]; simp [drF, h1, h2]
theorem dr_turn2 {R row : Str} {code : Int} (h : DrI R row code) (a : 1 ≤ code) (b : (row.length : Int) + code ≤ 128) (h1 : 1 < code) (h2 : Int.fmod code 2 ≠ 1) : DrInv R (Str.ofString "\t" ++ row) (Int.fdiv code 2) := by
  obtain ⟨n, c, d⟩ := h
  have e : Int.fdiv code 2 = code / 2 := Int.fdiv_eq_ediv_of_nonneg _ (by decide)
  have l1 : (Str.ofString "\t").length = 1 := by decide +kernel
  obtain ⟨m, rfl⟩ : ∃ m, n = m + 1 := ⟨n - 1, by omega⟩
  refine ⟨⟨by omega, by rw [dr_len, l1]; omega⟩, m, by omega, ?_⟩
  rw [← d]; simp [drF, h1, h2]
theorem dr_meas {code : Int} (h1 : 1 < code) : (Int.fdiv code 2).toNat < code.toNat := by
  have e : Int.fdiv code 2 = code / 2 := Int.fdiv_eq_ediv_of_nonneg _ (by decide)
  omega
theorem dr_done {R row : Str} {code : Int} (h : DrI R row code) (h1 : ¬ 1 < code) : R = row := by
  obtain ⟨n, c, d⟩ := h
  rw [← d]; cases n <;> simp [drF, h1]

theorem drawn_c (w : World) (mean) (mg mb) (n : Int) (t : Tok) : Clm w mean mg mb 193 (0 ≤ n ∧ n < 1000000001) [.int n t] (fun t => .str (drawnS n) t) := by
  k_with_none
  (try delta Clm); delta ClmN
  k_fill
  intros
  rename_i hret
  refine wpAny_call ?_
  k_dflt (refine' enterZ ?k1 ?k2 ?k3 ?k5 ?kA ?kF ?kK ?k6 ?k7 ?k8 ?k9 ?kB ?_ ?c2 ?c3 ?c4 ?c5; (case kA => exact rfl); (case kF => exact rfl); (case kK => assumption); (case k1 => k_asm); (case k2 => k_asm); (case k3 => k_asm); (case k5 => k_asm); (case k6 => k_is); (case k7 => k_is); (case k8 => ktr_room); (case k9 => exact BindsTo.of_eq rfl); (case c5 => decide); (case kB => exact locs rfl); (case c2 => exact rfl); (case c3 => exact rfl); (case c4 => exact rfl); k_whole; intro g' L' h' FG' F' N' B' X' T'; (try dsimp only); (try k_lift B'); (try k_fold))
  (k_with "exec While Compare cons nil" => k_while (fun _ row code => (1 ≤ code ∧ (row.length : Int) + code ≤ 128) ∧ DrI (drawnS n) row code) (fun _ row code => code.toNat) "row" "code")
  (k_with "state" => first | exact dr_start _ | exact dr_turn1 (by assumption) (by assumption) (by assumption) (by assumption) (by assumption) | exact dr_turn2 (by assumption) (by assumption) (by assumption) (by assumption) (by assumption))
  (k_with "measure" => exact dr_meas (by assumption))
  k_steps
  (have e := dr_done (by assumption) (by assumption)) 
  rw [e] at hret
  exact hret _ _ _ (by assumption) (by assumption)
end Mine
end
section
open PySem PySem.W PyProof.Rows PySem.Calls PySem.Spec
set_option Elab.async false
set_option maxRecDepth 100000
set_option maxHeartbeats 4000000
namespace Mine
theorem seg6 : ∀ (w : World) (mean : ExcName → Option Value) (mg mb : Str → Option Value) (g : Heap) (L fa : Addr) (cd : Value) (X : (hdA.heap_1_1 w.params).In g) (T : Top topProg lsT mean mg mb g) (B : Below callerA g [] g) (h245 : 245 < L) (m : Str → Option Value) (s : Shared) (Q : Flow → Shared → Prop) (E : Value → Shared → Prop)
    (o1 o2 o3 o4 o5 : Obj) (D : Addr) (a b c d : Int) (ta tb tc td : Tok) (k : Nat) (F : Fr g L s.heap (kstB m [(Str.ofString "seeds", .ref D)])) (N : News g L s.heap ((D, listOf #[.int a ta, .int b tb, .int c tc, .int d td] k) :: [(L + 1 + 1 + 1 + 1 + 1, o5), (L + 1 + 1 + 1 + 1, o4), (L + 1 + 1 + 1, o3), (L + 1 + 1, o2), (L + 1, o1), (245, tabObj #[])])) (hS : ∀ p ∈ [(L + 1 + 1 + 1 + 1 + 1, o5), (L + 1 + 1 + 1 + 1, o4), (L + 1 + 1 + 1, o3), (L + 1 + 1, o2), (L + 1, o1), (245, tabObj #[])], @Ne Nat p.1 D) (ha : 0 ≤ a ∧ a ≤ 1000000000) (hb : 0 ≤ b ∧ b ≤ 1000000000) (hc : 0 ≤ c ∧ c ≤ 1000000000)
    (hQ : ∀ D2 ys h' tk, Fr g L h' (fun z => if z = Str.ofString "drawn" then some (.ref D2) else kstB m [(Str.ofString "seeds", .ref D)] z) → News g L h' ((D2, listOf (List.toArray ys) 0) :: (D, listOf #[.int a ta, .int b tb, .int c tc, .int d td] k) :: [(L + 1 + 1 + 1 + 1 + 1, o5), (L + 1 + 1 + 1 + 1, o4), (L + 1 + 1 + 1, o3), (L + 1 + 1, o2), (L + 1, o1), (245, tabObj #[])]) → (∀ p ∈ (D, listOf #[.int a ta, .int b tb, .int c tc, .int d td] k) :: [(L + 1 + 1 + 1 + 1 + 1, o5), (L + 1 + 1 + 1 + 1, o4), (L + 1 + 1 + 1, o3), (L + 1 + 1, o2), (L + 1, o1), (245, tabObj #[])], @Ne Nat p.1 D2) → StrsAre ys [drawnS a, drawnS b, drawnS c, Str.ofString "", Str.ofString "\t"] → Q .next { s with heap := h', toks := tk }),
    wpAny (model PySem.Challenge.rw_tc0048_01.row.prog w) (lawA (lawS w) L fa cd) (exec (nth (lawB w) 6) (lawE (lawS w) L fa cd)) Q E s := by
  k_with_none
  (k_with "binaryOp Add ref ref" => (k_here; k_dflt (refine' kmk_add_lit ?Fv0 ?Nv0 ?av0 ?bv0 ?ev0 ?_ ?zv0; (case Fv0 => k_asm); (case Nv0 => k_asm); (case av0 => kmk_list); (case bv0 => kmk_list); (case ev0 => rfl); (case zv0 => (simp only [List.length_cons, List.length_nil, sizeLine_eq]; omega))); intro D' h' F' N' l1; (try k_lt l1)))
  (k_with "binaryOp Add ref ref" => (k_here; k_dflt (refine' kmk_add_lit ?Fv1 ?Nv1 ?av1 ?bv1 ?ev1 ?_ ?zv1; (case Fv1 => k_asm); (case Nv1 => k_asm); (case av1 => kmk_list); (case bv1 => kmk_list); (case ev1 => rfl); (case zv1 => (simp only [List.length_cons, List.length_nil, sizeLine_eq]; omega))); intro D' h' F' N' l1; (try k_lt l1)))
  (k_with "eval ListComp" => (k_here; refine stop_here ?_))
  (k_with "call ref" => (k_here; (with_reducible show wpAny _ _ (call (Value.ref 193) [Value.int _ _]) _ _ _); k_dflt (refine' (drawn_c _ _ _ _ _ _).use ?k1 ?k2 ?k3 ?k4 ?k5 ?kK ?kp ?kd ?ku ?kt ?_; (case k1 => k_asm); (case k2 => k_asm); (case k3 => k_asm); (case k4 => k_asm); (case k5 => k_asm); (case kK => first | exact rfl | assumption); (case kp => (constructor <;> omega)); (case kd => ktr_room); (case ku => ktr_units); (case kt => first | exact Nat.zero_le _ | assumption | (dsimp only; omega)); intro t9 h9 tk9 ht9 kp9 F9 N9; (try dsimp only); (try k_fold))))
  k_fill
  intro w mean mg mb g L fa cd X T B h245 m s Q E o1 o2 o3 o4 o5 D a b c d ta tb tc td k F N hS ha hb hc hQ
  refine cut_law (P := fun body scope => wpAny (model PySem.Challenge.rw_tc0048_01.row.prog w) (lawA scope L fa cd) (exec (nth body 6) (lawE scope L fa cd)) Q E s) (by k_is) ?_
  simp only [nth]
  delta lawE lawA
  have hSn0 := hS _ (.head _)
  have hSn1 := hS _ (.tail _ (.head _))
  have hSn2 := hS _ (.tail _ (.tail _ (.head _)))
  have hSn3 := hS _ (.tail _ (.tail _ (.tail _ (.head _))))
  have hSn4 := hS _ (.tail _ (.tail _ (.tail _ (.tail _ (.head _)))))
  have hSn5 := hS _ (.tail _ (.tail _ (.tail _ (.tail _ (.tail _ (.head _))))))
  dsimp only at hSn0 hSn1 hSn2 hSn3 hSn4 hSn5
  have hSs0 := Ne.symm hSn0
  have hSs1 := Ne.symm hSn1
  have hSs2 := Ne.symm hSn2
  have hSs3 := Ne.symm hSn3
  have hSs4 := Ne.symm hSn4
  have hSs5 := Ne.symm hSn5
  have c2454 : 245 < L + 1 := Nat.lt_succ_of_lt h245
  have c2453 : 245 < L + 1 + 1 := Nat.lt_succ_of_lt c2454
  have c2452 : 245 < L + 1 + 1 + 1 := Nat.lt_succ_of_lt c2453
  have c2451 : 245 < L + 1 + 1 + 1 + 1 := Nat.lt_succ_of_lt c2452
  have c2450 : 245 < L + 1 + 1 + 1 + 1 + 1 := Nat.lt_succ_of_lt c2451
  have c2460 : (L + 1 + 1 + 1 + 1 + 1 : Addr) ≠ 245 := Nat.ne_of_gt c2450
  have c2470 : (245 : Addr) ≠ L + 1 + 1 + 1 + 1 + 1 := Nat.ne_of_lt c2450
  have c2461 : (L + 1 + 1 + 1 + 1 : Addr) ≠ 245 := Nat.ne_of_gt c2451
  have c2471 : (245 : Addr) ≠ L + 1 + 1 + 1 + 1 := Nat.ne_of_lt c2451
  have c2462 : (L + 1 + 1 + 1 : Addr) ≠ 245 := Nat.ne_of_gt c2452
  have c2472 : (245 : Addr) ≠ L + 1 + 1 + 1 := Nat.ne_of_lt c2452
  have c2463 : (L + 1 + 1 : Addr) ≠ 245 := Nat.ne_of_gt c2453
  have c2473 : (245 : Addr) ≠ L + 1 + 1 := Nat.ne_of_lt c2453
  have c2464 : (L + 1 : Addr) ≠ 245 := Nat.ne_of_gt c2454
  have c2474 : (245 : Addr) ≠ L + 1 := Nat.ne_of_lt c2454
  k_steps
  delta Stop
  refine CGo.use (fun _ => true) (MapG isI isS drawnS) (by k_asm) (by with_unfolding_all rfl) (by decide) (by rfl) (by decide) (by rfl) ?_
  k_steps
  rename News _ _ _ _ => nS
  refine ⟨_, _, _, by k_asm, nS, ?hsz, iter_list rfl (isl_of (nS (_, _) (.head _)).1), ?tests, ?elts, ?fin⟩
  case hsz => exact Nat.le_of_ble_eq_true rfl
  case tests => intro i v hP C oC m₃ s₃ hC hx ht F3 N3 E'; exact wpAny_pure ⟨rfl, ⟨_, _, rfl, fun _ _ e => e⟩⟩
  case elts =>
    intro i v hP hp C oC m₃ s₃ hC hx ht F3 N3 E'
    obtain ⟨rfl, rfl⟩ | ⟨rfl, rfl⟩ | ⟨rfl, rfl⟩ := fr_three hP
    all_goals k_steps
    all_goals (first | exact ⟨_, ⟨_, rfl⟩, _, rfl⟩ | exact ⟨_, _, rfl, by assumption⟩)
  case fin =>
    intro D5 h tk ys vs k5 F5 N5 hne hlen hP hpair
    have hv := fr_vs hlen hP
    rw [all_in, hv] at hpair
    have hS5 := map_is (.cons _ _ (.cons _ _ (.cons _ _ .nil))) hpair
    have hl5 : ys.toList.length = 3 := hS5.length
    (try dsimp only)
    k_steps
    rename News _ _ _ _ => nE
    rename _ ∧ _ => l9
    obtain ⟨_, _, _, q0, q1, q2, q3, q4, q5, q6⟩ := l9
    exact hQ _ _ _ _ (by assumption) (news_cut 3 nE) (apart7 q0 q1 q2 q3 q4 q5 q6) (hS5.append' (.cons _ _ (.cons _ _ .nil)))
end Mine
end
section
open PySem PySem.W PyProof.Rows PySem.Calls PySem.Spec
set_option Elab.async false
set_option maxRecDepth 100000
set_option maxHeartbeats 4000000
namespace Mine
noncomputable def upW (T z : Int) : Int := if z > 0 then z + 1024 * T else z
theorem seg7 : ∀ (w : World) (mean : ExcName → Option Value) (mg mb : Str → Option Value) (g : Heap) (L fa : Addr) (cd : Value) (X : (hdA.heap_1_1 w.params).In g) (T : Top topProg lsT mean mg mb g) (B : Below callerA g [] g) (h245 : 245 < L) (m : Str → Option Value) (s : Shared) (Q : Flow → Shared → Prop) (E : Value → Shared → Prop)
    (o1 o2 o3 o4 o5 : Obj) (D : Addr) (ys : List Value) (rs : List Str) (Tm : Int) (t2 : Tok) (F : Fr g L s.heap (kstB m [(Str.ofString "drawn", .ref D)])) (N : News g L s.heap ((D, listOf ys.toArray 0) :: [(L + 1 + 1 + 1 + 1 + 1, o5), (L + 1 + 1 + 1 + 1, o4), (L + 1 + 1 + 1, o3), (L + 1 + 1, o2), (L + 1, o1), (245, tabObj #[])])) (hS : ∀ p ∈ [(L + 1 + 1 + 1 + 1 + 1, o5), (L + 1 + 1 + 1 + 1, o4), (L + 1 + 1 + 1, o3), (L + 1 + 1, o2), (L + 1, o1), (245, tabObj #[])], @Ne Nat p.1 D) (d2 : o2.data = .cell (some (.int Tm t2))) (hTm : 0 ≤ Tm ∧ Tm ≤ 2) (hst : StrsAre ys rs) (hlen5 : rs.length = 5) (hrs : ∀ r ∈ rs, r.length ≤ 12 ∧ -100000 ≤ worthS r ∧ worthS r ≤ 100000)
    (hQ : ∀ D3 zs k h' tk, Fr g L h' (fun z => if z = Str.ofString "worths" then some (.ref D3) else kstB m [(Str.ofString "drawn", .ref D)] z) → News g L h' ((D3, listOf zs k) :: (D, listOf ys.toArray 0) :: [(L + 1 + 1 + 1 + 1 + 1, o5), (L + 1 + 1 + 1 + 1, o4), (L + 1 + 1 + 1, o3), (L + 1 + 1, o2), (L + 1, o1), (245, tabObj #[])]) → (∀ p ∈ (D, listOf ys.toArray 0) :: [(L + 1 + 1 + 1 + 1 + 1, o5), (L + 1 + 1 + 1 + 1, o4), (L + 1 + 1 + 1, o3), (L + 1 + 1, o2), (L + 1, o1), (245, tabObj #[])], @Ne Nat p.1 D3) → IntsAre zs.toList ((rs.map worthS).map (upW Tm)) → Q .next { s with heap := h', toks := tk }),
    wpAny (model PySem.Challenge.rw_tc0048_01.row.prog w) (lawA (lawS w) L fa cd) (exec (nth (lawB w) 7) (lawE (lawS w) L fa cd)) Q E s := by
  k_with_none
  (k_with "eval ListComp" => (k_here; refine stop_here ?_))
  (k_with "exec Assign cons ListComp" => (k_here; refine stop_here ?_))
  (k_with "call ref" => (k_here; (with_reducible show wpAny _ _ (call (Value.ref 200) [Value.str _ _]) _ _ _); k_dflt (refine' (worth_c _ _ _ _ _ _).use ?k1 ?k2 ?k3 ?k4 ?k5 ?kK ?kp ?kd ?ku ?kt ?_; (case k1 => k_asm); (case k2 => k_asm); (case k3 => k_asm); (case k4 => k_asm); (case k5 => k_asm); (case kK => first | exact rfl | assumption); (case kp => omega); (case kd => ktr_room); (case ku => ktr_units); (case kt => first | exact Nat.zero_le _ | assumption | (dsimp only; omega)); intro t9 h9 tk9 ht9 kp9 F9 N9; (try dsimp only); (try k_fold))))
  k_fill
  intro w mean mg mb g L fa cd X T B h245 m s Q E o1 o2 o3 o4 o5 D ys rs Tm t2 F N hS d2 hTm hst hlen5 hrs hQ
  refine cut_law (P := fun body scope => wpAny (model PySem.Challenge.rw_tc0048_01.row.prog w) (lawA scope L fa cd) (exec (nth body 7) (lawE scope L fa cd)) Q E s) (by k_is) ?_
  simp only [nth]
  delta lawE lawA
  have hSn0 := hS _ (.head _)
  have hSn1 := hS _ (.tail _ (.head _))
  have hSn2 := hS _ (.tail _ (.tail _ (.head _)))
  have hSn3 := hS _ (.tail _ (.tail _ (.tail _ (.head _))))
  have hSn4 := hS _ (.tail _ (.tail _ (.tail _ (.tail _ (.head _)))))
  have hSn5 := hS _ (.tail _ (.tail _ (.tail _ (.tail _ (.tail _ (.head _))))))
  dsimp only at hSn0 hSn1 hSn2 hSn3 hSn4 hSn5
  have hSs0 := Ne.symm hSn0
  have hSs1 := Ne.symm hSn1
  have hSs2 := Ne.symm hSn2
  have hSs3 := Ne.symm hSn3
  have hSs4 := Ne.symm hSn4
  have hSs5 := Ne.symm hSn5
  have c2454 : 245 < L + 1 := Nat.lt_succ_of_lt h245
  have c2453 : 245 < L + 1 + 1 := Nat.lt_succ_of_lt c2454
  have c2452 : 245 < L + 1 + 1 + 1 := Nat.lt_succ_of_lt c2453
  have c2451 : 245 < L + 1 + 1 + 1 + 1 := Nat.lt_succ_of_lt c2452
  have c2450 : 245 < L + 1 + 1 + 1 + 1 + 1 := Nat.lt_succ_of_lt c2451
  have c2460 : (L + 1 + 1 + 1 + 1 + 1 : Addr) ≠ 245 := Nat.ne_of_gt c2450
  have c2470 : (245 : Addr) ≠ L + 1 + 1 + 1 + 1 + 1 := Nat.ne_of_lt c2450
  have c2461 : (L + 1 + 1 + 1 + 1 : Addr) ≠ 245 := Nat.ne_of_gt c2451
  have c2471 : (245 : Addr) ≠ L + 1 + 1 + 1 + 1 := Nat.ne_of_lt c2451
  have c2462 : (L + 1 + 1 + 1 : Addr) ≠ 245 := Nat.ne_of_gt c2452
  have c2472 : (245 : Addr) ≠ L + 1 + 1 + 1 := Nat.ne_of_lt c2452
  have c2463 : (L + 1 + 1 : Addr) ≠ 245 := Nat.ne_of_gt c2453
  have c2473 : (245 : Addr) ≠ L + 1 + 1 := Nat.ne_of_lt c2453
  have c2464 : (L + 1 : Addr) ≠ 245 := Nat.ne_of_gt c2454
  have c2474 : (245 : Addr) ≠ L + 1 := Nat.ne_of_lt c2454
  obtain ⟨hT0, hT1⟩ := hTm
  have hl5 : ys.length = 5 := hst.length.trans hlen5
  k_steps
  delta Stop
  refine CGoA.use rfl (fun _ => true) (MapG isI isI (upW Tm)) (by k_asm) (by with_unfolding_all rfl) (by with_unfolding_all rfl) (by decide) (by rfl) (by decide) (by rfl) (by rfl) (by rfl) ?_
  k_steps
  delta Stop
  refine CGo.use (fun _ => true) (MapG isS isI worthS) (by k_asm) (by with_unfolding_all rfl) (by decide) (by rfl) (by decide) (by rfl) ?_
  k_steps
  refine ⟨_, _, _, by k_asm, by k_asm, ?hsz, iter_list rfl (by kmk_list), ?tests, ?elts, ?fin⟩
  case hsz => rw [List.size_toArray, hl5, sizeLine_eq]; decide
  case tests => intro i v hP C oC m₃ s₃ hC hx ht F3 N3 E'; exact wpAny_pure ⟨rfl, ⟨_, _, rfl, fun _ _ e => e⟩⟩
  case elts =>
    intro i v hP hp C oC m₃ s₃ hC hx ht F3 N3 E'
    obtain ⟨x, t, hxm, rfl⟩ := strs_at hst (i := i) (by simpa using hP)
    have hx12 := (hrs x hxm).1
    k_steps
    all_goals (first | exact ⟨_, ⟨_, rfl⟩, _, rfl⟩ | exact ⟨_, _, rfl, by assumption⟩)
  case fin =>
    intro D5 h tk ws vs k5 F5 N5 hne hlen hP hpair
    have hv := fr_vs hlen hP
    rw [all_in, hv] at hpair
    have hI5 := map_si hst hpair
    have hlw : ws.toList.length = 5 := by rw [hI5.length, List.length_map]; exact hlen5
    (try dsimp only)
    k_steps
    refine ⟨_, _, _, by k_asm, by k_asm, ?isz, iter_list rfl (by kmk_list), ?itests, ?ielts, ?ifin⟩
    case isz => rw [← Array.length_toList, hlw, sizeLine_eq]; decide
    case itests => intro i v hP C oC m₃ s₃ hC hx ht F3 N3 E'; exact wpAny_pure ⟨rfl, ⟨_, _, rfl, fun _ _ e => e⟩⟩
    case ielts =>
      intro i v hP hp C oC m₃ s₃ hC hx ht F3 N3 E'
      obtain ⟨x, t, hxm, rfl⟩ := ints_mem hI5 (i := i) (by simpa using hP)
      obtain ⟨r, hr, rfl⟩ := List.mem_map.mp hxm
      have hxb := (hrs r hr).2
      k_steps
      all_goals (first | exact ⟨_, ⟨_, rfl⟩, _, by rw [upW, if_pos (by assumption)]⟩ | exact ⟨_, ⟨_, rfl⟩, _, by rw [upW, if_neg (by assumption)]⟩ | exact ⟨_, _, rfl, fun _ _ e => e⟩)
    case ifin =>
      intro D6 h6 tk6 ws6 vs6 k6 F6 N6 hne6 hlen6 hP6 hpair6
      have hv6 := fr_vs hlen6 hP6
      rw [all_in, hv6] at hpair6
      exact hQ D6 ws6 k6 h6 tk6 F6 (news_cut 1 N6) (fun p hp => hne6 p (.tail _ hp)) (map_ii hI5 hpair6)
end Mine
end
section
open PySem PySem.W PyProof.Rows PySem.Calls PySem.Spec
set_option Elab.async false
set_option maxRecDepth 100000
set_option maxHeartbeats 4000000
namespace Mine
/-! spelled -/
noncomputable def spSign (x here : Int) : Str := if here < x then Str.ofString "." else Str.ofString "\t"
noncomputable abbrev spCond (x : Int) (row : Str) (here step : Int) : Prop := step < 1024 ∨ ((row != Str.ofString "") = true ∧ (spSign x here != Txt.item row 0) = true)
noncomputable def spF (x : Int) : Nat → Str → Int → Int → Option Str
  | 0, row, here, _ => if here = x then some row else none
  | n + 1, row, here, step => if here = x then some row else
      let st := if spCond x row here step then Int.fdiv step 2 else step
      spF x n (row ++ spSign x here) (if here < x then here + st else here + -st) st
noncomputable def SpI (x : Int) (R row : Str) (here step : Int) : Prop := ∃ n, row.length + n ≤ 12 ∧ spF x n row here step = some R
noncomputable abbrev SpInv (x : Int) (R row : Str) (here step : Int) : Prop := ((0 ≤ step ∧ step ≤ 1024) ∧ (-1024 * (row.length : Int) ≤ here ∧ here ≤ 1024 * (row.length : Int)) ∧ row.length ≤ 12) ∧ SpI x R row here step
theorem sp_start {x : Int} {R : Str} (h : spF x 12 (Str.ofString "") 0 1024 = some R) : SpInv x R (Str.ofString "") 0 1024 := by
  have e : (Str.ofString "").length = 0 := by decide +kernel
  refine ⟨⟨by decide, ?_, by rw [e]; decide⟩, 12, by rw [e]; decide, h⟩
  rw [e]; decide
theorem sp_len (a b : Str) : (a ++ b).length = a.length + b.length := Str.length_append a b
theorem sp_l1 : (Str.ofString ".").length = 1 := by decide +kernel
theorem sp_l2 : (Str.ofString "\t").length = 1 := by decide +kernel
section
variable {x here step : Int} {R row : Str}
theorem sp_core (hi : SpI x R row here step) (hne : here ≠ x) (h0 : 0 ≤ step) (h1 : step ≤ 1024) (h2 : -1024 * (row.length : Int) ≤ here) (h3 : here ≤ 1024 * (row.length : Int)) :
    ∀ sg st' he', sg = spSign x here → st' = (if spCond x row here step then Int.fdiv step 2 else step) → he' = (if here < x then here + st' else here + -st') → SpInv x R (row ++ sg) he' st' := by
  intro sg st' he' e0 e1 e2
  obtain ⟨n, c, d⟩ := hi
  have ed : Int.fdiv step 2 = step / 2 := Int.fdiv_eq_ediv_of_nonneg _ (by decide)
  have b : 0 ≤ st' ∧ st' ≤ 1024 := by
    rw [e1]; split <;> omega
  have l : sg.length = 1 := by
    rw [e0]; unfold spSign; split
    · exact sp_l1
    · exact sp_l2
  cases n with
  | zero => simp [spF, hne] at d
  | succ m =>
    refine ⟨⟨b, ?_, by rw [sp_len, l]; omega⟩, m, by rw [sp_len, l]; omega, ?_⟩
    · rw [sp_len, l, e2]; split <;> omega
    · simp only [spF, if_neg hne] at d
      rw [e0, e2, e1]; exact d
theorem sp_meas (hi : SpI x R row here step) (hne : here ≠ x) : ∀ sg : Str, sg.length = 1 → 12 - (row ++ sg).length < 12 - row.length := by
  obtain ⟨n, c, d⟩ := hi
  intro sg l
  cases n with
  | zero => simp [spF, hne] at d
  | succ m => rw [sp_len, l]; omega
theorem sp_m1 (hi : SpI x R row here step) (hne : here ≠ x) : 12 - (row ++ Str.ofString ".").length < 12 - row.length := sp_meas hi hne _ sp_l1
theorem sp_m2 (hi : SpI x R row here step) (hne : here ≠ x) : 12 - (row ++ Str.ofString "\t").length < 12 - row.length := sp_meas hi hne _ sp_l2
theorem sp_dot (h : here < x) : Str.ofString "." = spSign x here := by unfold spSign; rw [if_pos h]
theorem sp_tab (h : ¬ here < x) : Str.ofString "\t" = spSign x here := by unfold spSign; rw [if_neg h]
theorem sp_a1 (hi : SpI x R row here step) (hne : here ≠ x) (h0 : 0 ≤ step) (h1 : step ≤ 1024) (h2 : -1024 * (row.length : Int) ≤ here) (h3 : here ≤ 1024 * (row.length : Int)) (hl : here < x) (c : step < 1024) :
    SpInv x R (row ++ Str.ofString ".") (here + Int.fdiv step 2) (Int.fdiv step 2) :=
  sp_core hi hne h0 h1 h2 h3 _ _ _ (sp_dot hl) (by rw [if_pos (.inl c)]) (by rw [if_pos hl])
theorem sp_a2 (hi : SpI x R row here step) (hne : here ≠ x) (h0 : 0 ≤ step) (h1 : step ≤ 1024) (h2 : -1024 * (row.length : Int) ≤ here) (h3 : here ≤ 1024 * (row.length : Int)) (hl : here < x) (e : (row != Str.ofString "") = true) (c : (Str.ofString "." != Txt.item row 0) = true) :
    SpInv x R (row ++ Str.ofString ".") (here + Int.fdiv step 2) (Int.fdiv step 2) :=
  sp_core hi hne h0 h1 h2 h3 _ _ _ (sp_dot hl) (by rw [if_pos (.inr ⟨e, sp_dot hl ▸ c⟩)]) (by rw [if_pos hl])
theorem sp_a3 (hi : SpI x R row here step) (hne : here ≠ x) (h0 : 0 ≤ step) (h1 : step ≤ 1024) (h2 : -1024 * (row.length : Int) ≤ here) (h3 : here ≤ 1024 * (row.length : Int)) (hl : here < x) (n : ¬ step < 1024) (c : (Str.ofString "." != Txt.item row 0) = false) :
    SpInv x R (row ++ Str.ofString ".") (here + step) step :=
  sp_core hi hne h0 h1 h2 h3 _ _ _ (sp_dot hl) (by rw [if_neg (fun q => q.elim n fun q => by rw [← sp_dot hl, c] at q; exact absurd q.2 (by decide))]) (by rw [if_pos hl])
theorem sp_a4 (hi : SpI x R row here step) (hne : here ≠ x) (h0 : 0 ≤ step) (h1 : step ≤ 1024) (h2 : -1024 * (row.length : Int) ≤ here) (h3 : here ≤ 1024 * (row.length : Int)) (hl : here < x) (n : ¬ step < 1024) (c : (row != Str.ofString "") = false) :
    SpInv x R (row ++ Str.ofString ".") (here + step) step :=
  sp_core hi hne h0 h1 h2 h3 _ _ _ (sp_dot hl) (by rw [if_neg (fun q => q.elim n fun q => by rw [c] at q; exact absurd q.1 (by decide))]) (by rw [if_pos hl])
theorem sp_b1 (hi : SpI x R row here step) (hne : here ≠ x) (h0 : 0 ≤ step) (h1 : step ≤ 1024) (h2 : -1024 * (row.length : Int) ≤ here) (h3 : here ≤ 1024 * (row.length : Int)) (hl : ¬ here < x) (c : step < 1024) :
    SpInv x R (row ++ Str.ofString "\t") (here + -Int.fdiv step 2) (Int.fdiv step 2) :=
  sp_core hi hne h0 h1 h2 h3 _ _ _ (sp_tab hl) (by rw [if_pos (.inl c)]) (by rw [if_neg hl])
theorem sp_b2 (hi : SpI x R row here step) (hne : here ≠ x) (h0 : 0 ≤ step) (h1 : step ≤ 1024) (h2 : -1024 * (row.length : Int) ≤ here) (h3 : here ≤ 1024 * (row.length : Int)) (hl : ¬ here < x) (e : (row != Str.ofString "") = true) (c : (Str.ofString "\t" != Txt.item row 0) = true) :
    SpInv x R (row ++ Str.ofString "\t") (here + -Int.fdiv step 2) (Int.fdiv step 2) :=
  sp_core hi hne h0 h1 h2 h3 _ _ _ (sp_tab hl) (by rw [if_pos (.inr ⟨e, sp_tab hl ▸ c⟩)]) (by rw [if_neg hl])
theorem sp_b3 (hi : SpI x R row here step) (hne : here ≠ x) (h0 : 0 ≤ step) (h1 : step ≤ 1024) (h2 : -1024 * (row.length : Int) ≤ here) (h3 : here ≤ 1024 * (row.length : Int)) (hl : ¬ here < x) (n : ¬ step < 1024) (c : (Str.ofString "\t" != Txt.item row 0) = false) :
    SpInv x R (row ++ Str.ofString "\t") (here + -step) step :=
  sp_core hi hne h0 h1 h2 h3 _ _ _ (sp_tab hl) (by rw [if_neg (fun q => q.elim n fun q => by rw [← sp_tab hl, c] at q; exact absurd q.2 (by decide))]) (by rw [if_neg hl])
theorem sp_b4 (hi : SpI x R row here step) (hne : here ≠ x) (h0 : 0 ≤ step) (h1 : step ≤ 1024) (h2 : -1024 * (row.length : Int) ≤ here) (h3 : here ≤ 1024 * (row.length : Int)) (hl : ¬ here < x) (n : ¬ step < 1024) (c : (row != Str.ofString "") = false) :
    SpInv x R (row ++ Str.ofString "\t") (here + -step) step :=
  sp_core hi hne h0 h1 h2 h3 _ _ _ (sp_tab hl) (by rw [if_neg (fun q => q.elim n fun q => by rw [c] at q; exact absurd q.1 (by decide))]) (by rw [if_neg hl])
theorem sp_done (hi : SpI x R row here step) (he : here = x) : R = row := by
  obtain ⟨n, c, d⟩ := hi
  cases n <;> (simp [spF, he] at d; exact d.symm)
end

theorem spelled_c (w : World) (mean) (mg mb) (x : Int) (R : Str) (t : Tok) : Clm w mean mg mb 207 (spF x 12 (Str.ofString "") 0 1024 = some R) [.int x t] (fun t => .str R t) := by
  k_with_none
  (try delta Clm); delta ClmN
  k_fill
  intros
  rename_i hret
  refine wpAny_call ?_
  k_dflt (refine' enterZ ?k1 ?k2 ?k3 ?k5 ?kA ?kF ?kK ?k6 ?k7 ?k8 ?k9 ?kB ?_ ?c2 ?c3 ?c4 ?c5; (case kA => exact rfl); (case kF => exact rfl); (case kK => assumption); (case k1 => k_asm); (case k2 => k_asm); (case k3 => k_asm); (case k5 => k_asm); (case k6 => k_is); (case k7 => k_is); (case k8 => ktr_room); (case k9 => exact BindsTo.of_eq rfl); (case c5 => decide); (case kB => exact locs rfl); (case c2 => exact rfl); (case c3 => exact rfl); (case c4 => exact rfl); k_whole; intro g' L' h' FG' F' N' B' X' T'; (try dsimp only); (try k_lift B'); (try k_fold))
  (k_with "exec While Compare cons nil" => k_while (fun _ row here step => ((0 ≤ step ∧ step ≤ 1024) ∧ (-1024 * (row.length : Int) ≤ here ∧ here ≤ 1024 * (row.length : Int)) ∧ row.length ≤ 12) ∧ SpI x R row here step) (fun _ row here step => 12 - row.length) "row" "here" "step")
  (k_with "state" => first
    | exact sp_start (by assumption)
    | exact sp_a1 (by assumption) (by assumption) (by assumption) (by assumption) (by assumption) (by assumption) (by assumption) (by assumption)
    | exact sp_a2 (by assumption) (by assumption) (by assumption) (by assumption) (by assumption) (by assumption) (by assumption) (by assumption) (by assumption)
    | exact sp_a3 (by assumption) (by assumption) (by assumption) (by assumption) (by assumption) (by assumption) (by assumption) (by assumption) (by assumption)
    | exact sp_a4 (by assumption) (by assumption) (by assumption) (by assumption) (by assumption) (by assumption) (by assumption) (by assumption) (by assumption)
    | exact sp_b1 (by assumption) (by assumption) (by assumption) (by assumption) (by assumption) (by assumption) (by assumption) (by assumption)
    | exact sp_b2 (by assumption) (by assumption) (by assumption) (by assumption) (by assumption) (by assumption) (by assumption) (by assumption) (by assumption)
    | exact sp_b3 (by assumption) (by assumption) (by assumption) (by assumption) (by assumption) (by assumption) (by assumption) (by assumption) (by assumption)
    | exact sp_b4 (by assumption) (by assumption) (by assumption) (by assumption) (by assumption) (by assumption) (by assumption) (by assumption) (by assumption))
  (k_with "measure" => first | exact sp_m1 (by assumption) (by assumption) | exact sp_m2 (by assumption) (by assumption))
  k_steps

  (have e := sp_done (by assumption) (by assumption))
  rw [e] at hret
  exact hret _ _ _ (by assumption) (by assumption)
end Mine
end
section
open PySem PySem.W PyProof.Rows PySem.Calls PySem.Spec
set_option Elab.async false
set_option maxRecDepth 100000
set_option maxHeartbeats 4000000
namespace Mine
theorem seg8 : ∀ (w : World) (mean : ExcName → Option Value) (mg mb : Str → Option Value) (g : Heap) (L fa : Addr) (cd : Value) (X : (hdA.heap_1_1 w.params).In g) (T : Top topProg lsT mean mg mb g) (B : Below callerA g [] g) (h245 : 245 < L) (m : Str → Option Value) (s : Shared) (Q : Flow → Shared → Prop) (E : Value → Shared → Prop)
    (o1 o2 o3 o4 o5 : Obj) (D W : Addr) (ys : List Value) (zs : Array Value) (kz : Nat) (rs : List Str) (Tm : Int) (t2 t3 : Tok) (e : Str) (F : Fr g L s.heap (kstB m [(Str.ofString "drawn", .ref D)])) (N : News g L s.heap ((W, listOf zs kz) :: (D, listOf ys.toArray 0) :: [(L + 1 + 1 + 1 + 1 + 1, o5), (L + 1 + 1 + 1 + 1, o4), (L + 1 + 1 + 1, o3), (L + 1 + 1, o2), (L + 1, o1), (245, tabObj #[])])) (d2 : o2.data = .cell (some (.int Tm t2))) (d3 : o3.data = .cell (some (.str e t3))) (hTm : Tm = 1 ∨ Tm = 2) (hst : StrsAre ys rs) (hlen5 : rs.length = 5) (he : e.length ≤ 2) (hrs : ∀ r ∈ rs, r.length ≤ 12)
    (hsum : ((rs.map (· ++ e)).map (·.length)).sum + (rs.map (· ++ e)).length * (Str.ofString "").length ≤ 16777216) (hjl : (Txt.join (Str.ofString "") (rs.map (· ++ e))).length ≤ 200)
    (hQ : ∀ t h' tk, Fr g L h' (fun z => if z = Str.ofString "mail" then some (.str (sentS Tm (Txt.join (Str.ofString "") (rs.map (· ++ e)))) t) else kstB m [(Str.ofString "drawn", .ref D)] z) → News g L h' ((W, listOf zs kz) :: (D, listOf ys.toArray 0) :: [(L + 1 + 1 + 1 + 1 + 1, o5), (L + 1 + 1 + 1 + 1, o4), (L + 1 + 1 + 1, o3), (L + 1 + 1, o2), (L + 1, o1), (245, tabObj #[])]) → Q .next { s with heap := h', toks := tk }),
    wpAny (model PySem.Challenge.rw_tc0048_01.row.prog w) (lawA (lawS w) L fa cd) (exec (nth (lawB w) 8) (lawE (lawS w) L fa cd)) Q E s := by
  k_with_none
  (k_with "eval ListComp" => (k_here; refine stop_here ?_))
  (k_with "call builtin:str.join" => (k_here; refine stop_here ?_))
  (k_with "call ref" => (k_here; (with_reducible show wpAny _ _ (call (Value.ref 214) [Value.str _ _, Value.int _ _]) _ _ _); k_dflt (refine' (sent_c _ _ _ _ _ _ _ _).use ?k1 ?k2 ?k3 ?k4 ?k5 ?kK ?kp ?kd ?ku ?kt ?_; (case k1 => k_asm); (case k2 => k_asm); (case k3 => k_asm); (case k4 => k_asm); (case k5 => k_asm); (case kK => first | exact rfl | assumption); (case kp => (constructor <;> assumption)); (case kd => ktr_room); (case ku => ktr_units); (case kt => first | exact Nat.zero_le _ | assumption | (dsimp only; omega)); intro t9 h9 tk9 ht9 kp9 F9 N9; (try dsimp only); (try k_fold))))
  k_fill
  intro w mean mg mb g L fa cd X T B h245 m s Q E o1 o2 o3 o4 o5 D W ys zs kz rs Tm t2 t3 e F N d2 d3 hTm hst hlen5 he hrs hsum hjl hQ
  refine cut_law (P := fun body scope => wpAny (model PySem.Challenge.rw_tc0048_01.row.prog w) (lawA scope L fa cd) (exec (nth body 8) (lawE scope L fa cd)) Q E s) (by k_is) ?_
  simp only [nth]
  delta lawE lawA
  have hl5 : ys.length = 5 := hst.length.trans hlen5
  k_steps
  delta Stop
  refine CGo.use (fun _ => true) (MapG isS isS (· ++ e)) (by k_asm) (by with_unfolding_all rfl) (by decide) (by rfl) (by decide) (by rfl) ?_
  k_steps
  refine ⟨_, _, _, by k_asm, by k_asm, ?hsz, iter_list rfl (by kmk_list), ?tests, ?elts, ?fin⟩
  case hsz => rw [List.size_toArray, hl5, sizeLine_eq]; decide
  case tests => intro i v hP C oC m₃ s₃ hC hx ht F3 N3 E'; exact wpAny_pure ⟨rfl, ⟨_, _, rfl, fun _ _ e => e⟩⟩
  case elts =>
    intro i v hP hp C oC m₃ s₃ hC hx ht F3 N3 E'
    obtain ⟨x, t, hxm, rfl⟩ := strs_at hst (i := i) (by simpa using hP)
    have hx12 := hrs x hxm
    k_steps
    all_goals (first | exact ⟨_, ⟨_, rfl⟩, _, rfl⟩ | exact ⟨_, _, rfl, fun _ _ e => e⟩)
  case fin =>
    intro D5 h tk ws vs k5 F5 N5 hne hlen hP hpair
    have hv := fr_vs hlen hP
    rw [all_in, hv] at hpair
    have hI5 := map_ss hst hpair
    (try dsimp only)
    k_steps
    delta Stop
    rename News _ _ _ _ => N7
    refine join_list (isl_of (N7 (_, _) (.head _)).1) hI5 hsum ?_
    intro t7 k7
    (try dsimp only)
    k_steps
    rename News _ _ _ _ => nE
    exact hQ _ _ _ (by assumption) (fun p hp => nE p (.tail _ hp))
theorem seg9 : ∀ (w : World) (mean : ExcName → Option Value) (mg mb : Str → Option Value) (g : Heap) (L fa : Addr) (cd : Value) (X : (hdA.heap_1_1 w.params).In g) (T : Top topProg lsT mean mg mb g) (B : Below callerA g [] g) (h245 : 245 < L) (m : Str → Option Value) (s : Shared) (Q : Flow → Shared → Prop) (E : Value → Shared → Prop)
    (o1 o2 o3 o4 o5 : Obj) (D W : Addr) (ys : List Value) (zs : Array Value) (kz : Nat) (M : Str) (tm : Tok) (ns : List Int) (f : Int → Str) (F : Fr g L s.heap (kstB m [(Str.ofString "mail", .str M tm), (Str.ofString "worths", .ref W)])) (N : News g L s.heap ((W, listOf zs kz) :: (D, listOf ys.toArray 0) :: [(L + 1 + 1 + 1 + 1 + 1, o5), (L + 1 + 1 + 1 + 1, o4), (L + 1 + 1 + 1, o3), (L + 1 + 1, o2), (L + 1, o1), (245, tabObj #[])])) (hI : IntsAre zs.toList ns) (hlen5 : ns.length = 5) (hf : ∀ v ∈ ns, spF v 12 (Str.ofString "") 0 1024 = some (f v) ∧ (f v).length ≤ 12)
    (hsum : ((ns.map fun v => f v ++ Str.ofString "\r\n").map (·.length)).sum + (ns.map fun v => f v ++ Str.ofString "\r\n").length * (Str.ofString "").length ≤ 16777216) (hM : M = Txt.join (Str.ofString "") (ns.map fun v => f v ++ Str.ofString "\r\n"))
    (hQ : ∀ h' tk, Fr g L h' (kstB m [(Str.ofString "mail", .str M tm), (Str.ofString "worths", .ref W)]) → News g L h' ((W, listOf zs kz) :: (D, listOf ys.toArray 0) :: [(L + 1 + 1 + 1 + 1 + 1, o5), (L + 1 + 1 + 1 + 1, o4), (L + 1 + 1 + 1, o3), (L + 1 + 1, o2), (L + 1, o1), (245, tabObj #[])]) → Q .next { s with heap := h', toks := tk }),
    wpAny (model PySem.Challenge.rw_tc0048_01.row.prog w) (lawA (lawS w) L fa cd) (exec (nth (lawB w) 9) (lawE (lawS w) L fa cd)) Q E s := by
  k_with_none
  (k_with "eval ListComp" => (k_here; refine stop_here ?_))
  (k_with "call builtin:str.join" => (k_here; refine stop_here ?_))
  (k_with "call ref" => (k_here; (with_reducible show wpAny _ _ (call (Value.ref 214) [Value.str _ _, Value.int _ _]) _ _ _); k_dflt (refine' (sent_c _ _ _ _ _ _ _ _).use ?k1 ?k2 ?k3 ?k4 ?k5 ?kK ?kp ?kd ?ku ?kt ?_; (case k1 => k_asm); (case k2 => k_asm); (case k3 => k_asm); (case k4 => k_asm); (case k5 => k_asm); (case kK => first | exact rfl | assumption); (case kp => (constructor <;> assumption)); (case kd => ktr_room); (case ku => ktr_units); (case kt => first | exact Nat.zero_le _ | assumption | (dsimp only; omega)); intro t9 h9 tk9 ht9 kp9 F9 N9; (try dsimp only); (try k_fold))))
  (k_with "call ref" => (k_here; (with_reducible show wpAny _ _ (call (Value.ref 207) [Value.int _ _]) _ _ _); k_dflt (refine' (spelled_c _ _ _ _ _ _ _).use ?k1 ?k2 ?k3 ?k4 ?k5 ?kK ?kp ?kd ?ku ?kt ?_; (case k1 => k_asm); (case k2 => k_asm); (case k3 => k_asm); (case k4 => k_asm); (case k5 => k_asm); (case kK => first | exact rfl | assumption); (case kp => exact (by assumption)); (case kd => ktr_room); (case ku => ktr_units); (case kt => first | exact Nat.zero_le _ | assumption | (dsimp only; omega)); intro t9 h9 tk9 ht9 kp9 F9 N9; (try dsimp only); (try k_fold))))
  k_fill
  intro w mean mg mb g L fa cd X T B h245 m s Q E o1 o2 o3 o4 o5 D W ys zs kz M tm ns f F N hI hlen5 hf hsum hM hQ
  refine cut_law (P := fun body scope => wpAny (model PySem.Challenge.rw_tc0048_01.row.prog w) (lawA scope L fa cd) (exec (nth body 9) (lawE scope L fa cd)) Q E s) (by k_is) ?_
  simp only [nth]
  delta lawE lawA
  have hl5 : zs.toList.length = 5 := hI.length.trans hlen5
  k_steps
  delta Stop
  refine CGo.use (fun _ => true) (MapG isI isS (fun v => f v ++ Str.ofString "\r\n")) (by k_asm) (by with_unfolding_all rfl) (by decide) (by rfl) (by decide) (by rfl) ?_
  k_steps
  refine ⟨_, _, _, by k_asm, by k_asm, ?hsz, iter_list rfl (by kmk_list), ?tests, ?elts, ?fin⟩
  case hsz => rw [← Array.length_toList, hl5, sizeLine_eq]; decide
  case tests => intro i v hP C oC m₃ s₃ hC hx ht F3 N3 E'; exact wpAny_pure ⟨rfl, ⟨_, _, rfl, fun _ _ e => e⟩⟩
  case elts =>
    intro i v hP hp C oC m₃ s₃ hC hx ht F3 N3 E'
    obtain ⟨x, t, hxm, rfl⟩ := ints_mem hI (i := i) (by simpa using hP)
    obtain ⟨hfx, hfl⟩ := hf x hxm
    k_steps
    all_goals (first | exact ⟨_, ⟨_, rfl⟩, _, rfl⟩ | exact ⟨_, _, rfl, by assumption⟩)
  case fin =>
    intro D5 h tk ws vs k5 F5 N5 hne hlen hP hpair
    have hv := fr_vs hlen hP
    rw [all_in, hv] at hpair
    have hI5 := map_is hI hpair
    (try dsimp only)
    k_steps
    delta Stop
    rename News _ _ _ _ => N7
    refine join_list (isl_of (N7 (_, _) (.head _)).1) hI5 hsum ?_
    intro t7 k7
    rw [← hM]
    (try dsimp only)
    k_steps
    · rename (_ != _) = true => hne9
      exact absurd hne9 (by simp)
    · rename News _ _ _ _ => nE
      exact hQ _ _ (by assumption) (fun p hp => nE p (.tail _ hp))
end Mine
end
section
open PySem PySem.W PyProof.Rows PySem.Calls PySem.Spec
set_option Elab.async false
set_option maxRecDepth 100000
set_option maxHeartbeats 4000000
namespace Mine
noncomputable def rowsD (a b c : Int) : List Str := [drawnS a, drawnS b, drawnS c, Str.ofString "", Str.ofString "\t"]
noncomputable def numsD (a b c d : Int) : List Int := ((rowsD a b c).map worthS).map (upW (1 + d.fmod 2))
noncomputable def endD (d : Int) : Str := ends ((d.fdiv 2).fmod 3).toNat
noncomputable def kwD (d : Int) : Nat := ((d.fdiv 6).fmod 5).toNat
noncomputable def mailD (a b c d : Int) : Str := sentS (1 + d.fmod 2) (Txt.join (Str.ofString "") ((rowsD a b c).map (· ++ endD d)))
structure PlainOk (a b c d : Int) (f : Int → Str) : Prop where
  rows : ∀ r ∈ rowsD a b c, r.length ≤ 12 ∧ -100000 ≤ worthS r ∧ worthS r ≤ 100000
  sum8 : (((rowsD a b c).map (· ++ endD d)).map (·.length)).sum + ((rowsD a b c).map (· ++ endD d)).length * (Str.ofString "").length ≤ 16777216
  len8 : (Txt.join (Str.ofString "") ((rowsD a b c).map (· ++ endD d))).length ≤ 200
  sp : ∀ v ∈ numsD a b c d, spF v 12 (Str.ofString "") 0 1024 = some (f v) ∧ (f v).length ≤ 12
  sum9 : (((numsD a b c d).map fun v => f v ++ Str.ofString "\r\n").map (·.length)).sum + ((numsD a b c d).map fun v => f v ++ Str.ofString "\r\n").length * (Str.ofString "").length ≤ 16777216
  mail : mailD a b c d = Txt.join (Str.ofString "") ((numsD a b c d).map fun v => f v ++ Str.ofString "\r\n")
  mlen : (mailD a b c d).length ≤ 200
  split : Txt.split (mailD a b c d) (Str.ofString "\r\n") = (numsD a b c d).map f ++ [Str.ofString ""]
  row : ∀ p ∈ (numsD a b c d).zip ((numsD a b c d).map f), RowOk (kwD d) (tabs (kwD d)) (closes (kwD d)) p.1 p.2
  pair : ∀ p ∈ (numsD a b c d).zip ((numsD a b c d).map f), ∀ q ∈ (numsD a b c d).zip ((numsD a b c d).map f), p.1 < q.1 → ∃ S R n, BtPre p.1 q.1 S R n ∧ ∀ j : Nat, j < 3 → ∃ R', FdPre j p.2 q.2 (endD d) (kwD d) R' ∧ R'.length ≤ 64 ∧ worthS R' = R
theorem law_shape : ∀ (w : World) (g : Heap) (_X : (hdA.heap_1_1 w.params).In g) (_q : model PySem.Challenge.rw_tc0048_01.row.prog w = model PySem.Challenge.rw_tc0048_01.row.prog w), lawB w = [nth (lawB w) 0, nth (lawB w) 1, nth (lawB w) 2, nth (lawB w) 3, nth (lawB w) 4, nth (lawB w) 5, nth (lawB w) 6, nth (lawB w) 7, nth (lawB w) 8, nth (lawB w) 9, nth (lawB w) 10, nth (lawB w) 11, nth (lawB w) 12, nth (lawB w) 13] := by
  k_fill
  intro w g X _
  exact cut_law (P := fun body _ => body = [nth body 0, nth body 1, nth body 2, nth body 3, nth body 4, nth body 5, nth body 6, nth body 7, nth body 8, nth body 9, nth body 10, nth body 11, nth body 12, nth body 13]) (by k_is) rfl
theorem ends_len (k : Nat) : (ends k).length ≤ 2 := by
  by_cases h : k < 3
  · have : k = 0 ∨ k = 1 ∨ k = 2 := by omega
    rcases this with rfl | rfl | rfl <;> decide
  · unfold ends; rw [List.getD_eq_getElem?_getD, List.getElem?_eq_none (by simp [endsL]; omega)]; decide
theorem ap_same {D a0 a1 a2 a3 a4 a5 : Addr} {o0 o1 o2 o3 o4 o5 p0 p1 p2 p3 p4 p5 : Obj} (h : ∀ p ∈ [(a0, o0), (a1, o1), (a2, o2), (a3, o3), (a4, o4), (a5, o5)], @Ne Nat p.1 D) : ∀ p ∈ [(a0, p0), (a1, p1), (a2, p2), (a3, p3), (a4, p4), (a5, p5)], @Ne Nat p.1 D := by
  intro p hp
  simp only [List.mem_cons, List.not_mem_nil, or_false] at hp
  rcases hp with rfl | rfl | rfl | rfl | rfl | rfl
  · exact h (a0, o0) (.head _)
  · exact h (a1, o1) (.tail _ (.head _))
  · exact h (a2, o2) (.tail _ (.tail _ (.head _)))
  · exact h (a3, o3) (.tail _ (.tail _ (.tail _ (.head _))))
  · exact h (a4, o4) (.tail _ (.tail _ (.tail _ (.tail _ (.head _)))))
  · exact h (a5, o5) (.tail _ (.tail _ (.tail _ (.tail _ (.tail _ (.head _))))))
theorem tabs_len (k : Nat) : (tabs k).length ≤ 6 := by
  by_cases h : k < 5
  · have : k = 0 ∨ k = 1 ∨ k = 2 ∨ k = 3 ∨ k = 4 := by omega
    rcases this with rfl | rfl | rfl | rfl | rfl <;> decide
  · unfold tabs; rw [List.getD_eq_getElem?_getD, List.getElem?_eq_none (by simp [tabsL]; omega)]; decide
theorem closes_len (k : Nat) : (closes k).length ≤ 10 := by
  by_cases h : k < 5
  · have : k = 0 ∨ k = 1 ∨ k = 2 ∨ k = 3 ∨ k = 4 := by omega
    rcases this with rfl | rfl | rfl | rfl | rfl <;> decide
  · unfold closes; rw [List.getD_eq_getElem?_getD, List.getElem?_eq_none (by simp [closesL]; omega)]; decide
theorem ne_data {g h : Heap} {L : Addr} {l : List (Addr × Obj)} (N : News g L h l) {p q : Addr × Obj} (hp : p ∈ l) (hq : q ∈ l) (hd : p.2.data ≠ q.2.data) : p.1 ≠ q.1 := fun e => by
  have h1 := (N p hp).1
  rw [e, (N q hq).1] at h1
  injection h1 with h1
  exact hd (by rw [h1])
theorem seg13 : ∀ (w : World) (mean : ExcName → Option Value) (mg mb : Str → Option Value) (g : Heap) (L fa : Addr) (cd : Value) (X : (hdA.heap_1_1 w.params).In g) (T : Top topProg lsT mean mg mb g) (B : Below callerA g [] g) (h245 : 245 < L) (m : Str → Option Value) (s : Shared) (Q : Flow → Shared → Prop) (E : Value → Shared → Prop)
    (hQ : ∀ tk, Q (.ret (.bool true)) { s with toks := tk }),
    wpAny (model PySem.Challenge.rw_tc0048_01.row.prog w) (lawA (lawS w) L fa cd) (exec (nth (lawB w) 13) (lawE (lawS w) L fa cd)) Q E s := by
  k_with_none
  k_fill
  intro w mean mg mb g L fa cd X T B h245 m s Q E hQ
  refine cut_law (P := fun body scope => wpAny (model PySem.Challenge.rw_tc0048_01.row.prog w) (lawA scope L fa cd) (exec (nth body 13) (lawE scope L fa cd)) Q E s) (by k_is) ?_
  simp only [nth]
  delta lawE lawA
  k_steps
  all_goals (first | done | exact hQ _)
theorem body_ok : ∀ (w : World) (mean : ExcName → Option Value) (mg mb : Str → Option Value) (g : Heap) (L fa : Addr) (cd : Value) (X : (hdA.heap_1_1 w.params).In g) (T : Top topProg lsT mean mg mb g) (B : Below callerA g [] g) (h245 : 245 < L) (m : Str → Option Value) (s : Shared) (E : Value → Shared → Prop)
    (o1 o2 o3 o4 o5 : Obj) (sc : Addr) (vs : List Value) (ns : List Int) (F : Fr g L s.heap m) (N : News g L s.heap [(L + 1 + 1 + 1 + 1 + 1, o5), (L + 1 + 1 + 1 + 1, o4), (L + 1 + 1 + 1, o3), (L + 1 + 1, o2), (L + 1, o1), (245, tabObj #[])]) (d1 : o1.data = .cell (some (.ref sc))) (d2 : o2.data = .cell none) (d3 : o3.data = .cell none) (d4 : o4.data = .cell none) (d5 : o5.data = .cell none) (hl : g.IsList sc vs.toArray) (hI : IntsAre vs ns) (hn : ns.length ≤ 63) (CH : CodeHd g 247 245)
    (hE : PassesOwn (model PySem.Challenge.rw_tc0048_01.row.prog w) (lawA (lawS w) L fa cd) (lawE (lawS w) L fa cd) E) (f : Int → Str) (hp : ∀ a b c d : Int, (0 ≤ a ∧ a ≤ 1000000000) → (0 ≤ b ∧ b ≤ 1000000000) → (0 ≤ c ∧ c ≤ 1000000000) → (0 ≤ d ∧ d ≤ 1000000000) → PlainOk a b c d f),
    wpAny (model PySem.Challenge.rw_tc0048_01.row.prog w) (lawA (lawS w) L fa cd) (execs (lawB w) (lawE (lawS w) L fa cd)) (EndOk g L s) E s := by
  intro w mean mg mb g L fa cd X T B h245 m s E o1 o2 o3 o4 o5 sc vs ns F N d1 d2 d3 d4 d5 hl hI hn CH hE f hp
  rw [law_shape w g X rfl]
  refine wpAny_execs_cons ?_
  refine seg0 w mean mg mb g L fa cd X T B m s o1 o2 o3 o4 o5 sc vs ns F N d1 hl hI hn _ _ fun D a b c d ta tb tc td k h1 k1 F1 N1 hS ha hb hc hd => ?_
  have P := hp a b c d ha hb hc hd
  have hkw := fm_in (d.fdiv 6) 5 (by decide)
  have hkw5 : kwD d < 5 := by unfold kwD; omega
  refine wpAny_execs_cons ?_
  refine seg1 w mean mg mb g L fa cd X T B h245 m _ _ _ o1 o2 o3 o4 o5 D a b c d ta tb tc td k F1 N1 hS hd d2 fun h2 k2 o2 t2 F2 N2 e2 => ?_
  clear d2
  refine wpAny_execs_cons ?_
  refine seg2 w mean mg mb g L fa cd X T B h245 m _ _ _ o1 o2 o3 o4 o5 D a b c d ta tb tc td k F2 N2 (ap_same hS) hd d3 fun h3 k3 o3 t3 F3 N3 e3 => ?_
  clear d3
  refine wpAny_execs_cons ?_
  refine seg3 w mean mg mb g L fa cd X T B h245 m _ _ _ o1 o2 o3 o4 o5 D a b c d ta tb tc td k F3 N3 (ap_same hS) hd fun h4 k4 F4 N4 => ?_
  refine wpAny_execs_cons ?_
  refine seg4 w mean mg mb g L fa cd X T B h245 _ _ _ _ o1 o2 o3 o4 o5 D a b c d ta tb tc td k (fr_kstB F4 (by kst_all)) N4 (ap_same hS) hd d4 fun h5 k5 o4 t4 F5 N5 e4 => ?_
  clear d4
  refine wpAny_execs_cons ?_
  refine seg5 w mean mg mb g L fa cd X T B h245 _ _ _ _ o1 o2 o3 o4 o5 D a b c d ta tb tc td k F5 N5 (ap_same hS) hd fun h6 k6 t6 F6 N6 => ?_
  refine wpAny_execs_cons ?_
  refine seg6 w mean mg mb g L fa cd X T B h245 _ _ _ _ o1 o2 o3 o4 o5 D a b c d ta tb tc td k (fr_kstB F6 (by kst_all)) N6 (ap_same hS) ha hb hc fun D2 ys h7 k7 F7 N7 hS7 st7 => ?_
  have N7' : News g L h7 ((D2, listOf ys.toArray 0) :: [(L + 1 + 1 + 1 + 1 + 1, o5), (L + 1 + 1 + 1 + 1, o4), (L + 1 + 1 + 1, o3), (L + 1 + 1, o2), (L + 1, o1), (245, tabObj #[])]) := news_cut 1 N7
  refine wpAny_execs_cons ?_
  refine seg7 w mean mg mb g L fa cd X T B h245 _ _ _ _ o1 o2 o3 o4 o5 D2 ys (rowsD a b c) (1 + d.fmod 2) t2 (fr_kstB F7 (by kst_all)) N7' (fun p hp => hS7 p (.tail _ hp)) e2 ?_ st7 rfl P.rows fun D3 zs k9 h8 k8 F8 N8 hS8 st8 => ?_
  · have := fm_in d 2 (by decide); omega
  have hlen8 : (numsD a b c d).length = 5 := rfl
  refine wpAny_execs_cons ?_
  refine seg8 w mean mg mb g L fa cd X T B h245 _ _ _ _ o1 o2 o3 o4 o5 D2 D3 ys zs k9 (rowsD a b c) (1 + d.fmod 2) t2 t3 (endD d) (fr_kstB F8 (by kst_all)) N8 e2 e3 ?_ st7 rfl ?_ (fun r hr => (P.rows r hr).1) P.sum8 P.len8 fun t9 h9 k10 F9 N9 => ?_
  · have := fm_in d 2 (by decide); omega
  · unfold endD; exact ends_len _
  refine wpAny_execs_cons ?_
  refine seg9 w mean mg mb g L fa cd X T B h245 _ _ _ _ o1 o2 o3 o4 o5 D2 D3 ys zs k9 (mailD a b c d) t9 (numsD a b c d) f (fr_kstB F9 (by kst_all)) N9 st8 rfl P.sp P.sum9 P.mail fun h10 k11 F10 N10 => ?_
  refine wpAny_execs_cons ?_
  refine seg10 w mean mg mb g L fa cd X T B h245 _ _ _ _ o1 o2 o3 o4 o5 D3 zs k9 (mailD a b c d) t9 (numsD a b c d) ((numsD a b c d).map f) F10 (news_cut 1 N10) st8 rfl rfl P.mlen P.split fun D4 ts out c4 h11 k12 htl hts hol hout F11 N11 => ?_
  have N11' : News g L h11 ((L + 1 + 1 + 1 + 1 + 1, o5) :: (L + 1 + 1 + 1 + 1, o4) :: (D4, listOf out.toArray c4) :: (tupLed ts ++ [(L + 1 + 1 + 1, o3), (L + 1 + 1, o2), (L + 1, o1), (245, tabObj #[])])) := fun q hq => N11 q (by
    simp only [List.mem_cons, List.mem_append, List.not_mem_nil, or_false] at hq ⊢
    rcases hq with h | h | h | h | h | h | h | h <;> simp [h])
  refine wpAny_execs_cons ?_
  refine seg11 w mean mg mb g L fa cd X T B h245 _ _ _ _ o5 o4 ((D4, listOf out.toArray c4) :: (tupLed ts ++ [(L + 1 + 1 + 1, o3), (L + 1 + 1, o2), (L + 1, o1), (245, tabObj #[])])) D4 out c4 ts (kwD d) t4 t6 (tabs (kwD d)) (closes (kwD d)) none F11 ⟨rfl, rfl, rfl⟩ N11' (.head _) (fun p hp => .tail _ (List.mem_append_left _ (List.mem_map.mpr ⟨p, hp, rfl⟩))) ?_ hout d5 e4 hkw5 (tabs_len _) (closes_len _) (fun p hp => P.row (p.n, p.x) (hts p hp)) hE fun h12 k13 m12 o5' v5' F12 hz12 N12 d5' => ?_
  · intro q hq
    rcases List.mem_cons.mp hq with rfl | hq
    · exact ne_data N11' (.tail _ (.tail _ (.head _))) (.head _) (by show Data.seq _ _ ≠ o5.data; rw [d5]; exact fun h => nomatch h)
    rcases List.mem_append.mp hq with hq | hq
    · obtain ⟨p, hp, rfl⟩ := List.mem_map.mp hq
      exact ne_data N11' (.tail _ (.tail _ (.tail _ (List.mem_append_left _ (List.mem_map.mpr ⟨p, hp, rfl⟩))))) (.head _) (by show Data.seq _ _ ≠ o5.data; rw [d5]; exact fun h => nomatch h)
    · simp only [List.mem_cons, List.not_mem_nil, or_false] at hq
      rcases hq with rfl | rfl | rfl | rfl
      · exact Nat.ne_of_lt (Nat.lt_succ_of_lt (Nat.lt_succ_self _))
      · exact Nat.ne_of_lt (Nat.lt_succ_of_lt (Nat.lt_succ_of_lt (Nat.lt_succ_self _)))
      · exact Nat.ne_of_lt (Nat.lt_succ_of_lt (Nat.lt_succ_of_lt (Nat.lt_succ_of_lt (Nat.lt_succ_self _))))
      · exact Nat.ne_of_lt (Nat.lt_succ_of_lt (Nat.lt_succ_of_lt (Nat.lt_succ_of_lt (Nat.lt_succ_of_lt (Nat.lt_succ_of_lt h245)))))
  have N12' : News g L h12 (((D4, listOf out.toArray c4) :: (L + 1 + 1 + 1, o3) :: (tupLed ts ++ [(L + 1 + 1 + 1 + 1 + 1, o5'), (L + 1 + 1 + 1 + 1, o4), (L + 1 + 1, o2), (L + 1, o1)])) ++ [(245, tabObj #[])]) := fun q hq => N12 q (by
    simp only [List.mem_cons, List.mem_append, List.not_mem_nil, or_false] at hq ⊢
    rcases hq with (h | h | h | h | h | h | h) | h <;> simp [h])
  refine wpAny_execs_cons ?_
  refine seg12 w mean mg mb g L fa cd X T B h245 _ _ _ _ o3 (tupLed ts ++ [(L + 1 + 1 + 1 + 1 + 1, o5'), (L + 1 + 1 + 1 + 1, o4), (L + 1 + 1, o2), (L + 1, o1)]) [(245, tabObj #[])] D4 out c4 ts t3 (kwD d) (endD d) F12 ⟨?_, ?_⟩ N12' (.inl rfl) ?_ CH e3 (fun p hp => List.mem_append_left _ (List.mem_map.mpr ⟨p, hp, rfl⟩)) hol hout (fun p hp q hq => P.pair (p.n, p.x) (hts p hp) (q.n, q.x) (hts q hq)) hE fun h13 k14 m13 lam F13 N13 hL13 => ?_
  · rw [hz12 _ (by decide) (by decide)]; rfl
  · rw [hz12 _ (by decide) (by decide)]; rfl
  · intro r hr hmem
    rw [show ([((245 : Addr), tabObj #[])] : List (Addr × Obj)).map (·.1) = [245] from rfl, List.mem_singleton] at hmem
    have h245' : (245, tabObj #[]) ∈ (((D4, listOf out.toArray c4) :: (L + 1 + 1 + 1, o3) :: (tupLed ts ++ [(L + 1 + 1 + 1 + 1 + 1, o5'), (L + 1 + 1 + 1 + 1, o4), (L + 1 + 1, o2), (L + 1, o1)])) ++ [(245, tabObj #[])]) := List.mem_append_right _ (.head _)
    refine ne_data N12' (List.mem_append_left _ hr) h245' ?_ hmem
    rcases List.mem_cons.mp hr with rfl | hr
    · exact fun h => nomatch h
    rcases List.mem_cons.mp hr with rfl | hr
    · show o3.data ≠ _; rw [e3]; exact fun h => nomatch h
    rcases List.mem_append.mp hr with hr | hr
    · obtain ⟨p, hp, rfl⟩ := List.mem_map.mp hr
      exact fun h => nomatch h
    · simp only [List.mem_cons, List.not_mem_nil, or_false] at hr
      rcases hr with rfl | rfl | rfl | rfl
      · show o5'.data ≠ _; rw [d5']; exact fun h => nomatch h
      · show o4.data ≠ _; rw [e4]; exact fun h => nomatch h
      · show o2.data ≠ _; rw [e2]; exact fun h => nomatch h
      · show o1.data ≠ _; rw [d1]; exact fun h => nomatch h
  refine wpAny_execs_cons ?_
  refine seg13 w mean mg mb g L fa cd X T B h245 m13 _ _ _ fun tk => ?_
  exact ⟨rfl, _, _, m13, lam, rfl, F13, fun q hq => N13 q (List.mem_append_right _ hq), hL13⟩
end Mine
end
section
open PySem PySem.W PyProof.Rows PySem.Calls PySem.Spec
set_option Elab.async false
set_option maxRecDepth 100000
set_option maxHeartbeats 8000000
namespace Mine
theorem cut_left {w : World} {oc : Value} {od : Option Addr} {osl : Array (Option Value)} {name qual : Str} {params : Arguments} {body : List Stmt} {scope : Scope} {dV kV doc pm : Value} {an : Option Addr} {cdv ct : Value}
    (ho : (hdA.heap_1_1 w.params).lookup 253 = some ⟨oc, od, .func (fnOf name qual params body scope dV kV doc pm an cdv ct), osl⟩) (h : LeftD ⟨name, params, body, scope, ⟨0, 0, 0, 0⟩⟩) : LeftD (lawDR w) := by
  have e : lawF w = fnOf name qual params body scope dV kV doc pm an cdv ct := by unfold lawF; rw [ho]
  unfold lawDR; rw [e]; exact h
theorem walk_all (f : Int → Str) (hp : ∀ a b c d : Int, (0 ≤ a ∧ a ≤ 1000000000) → (0 ≤ b ∧ b ≤ 1000000000) → (0 ≤ c ∧ c ≤ 1000000000) → (0 ≤ d ∧ d ≤ 1000000000) → PlainOk a b c d f) : ∀ w : World, LeftD (lawDR w) := by
  k_with_none
  delta LeftD
  k_fill
  intro w0
  refine cut_left (w := w0) (by k_is) ?_
  delta LeftD
  w_strict (k_go0; (all_goals try k_fold))
  rename Fr _ _ _ _ => fZ
  refine end_cut fZ ?body ?fin
  case body =>
    rename News _ _ _ _ => nZ
    rename Top topProg _ _ _ _ _ => tZ
    rename Below callerA _ _ _ => bZ
    rename Frag.In _ (ghostOf _ _) => xZ
    rename CodeHd _ _ _ => chZ
    rename Heap.IsList (ghostOf _ _) _ _ => lZ
    rename IntsAre _ _ => iZ
    rename 245 < _ => l0Z
    rename ¬ _ < _ => hnZ
    refine body_ok _ _ _ _ _ _ _ _ xZ (top_law tZ) bZ l0Z _ _ _ _ _ _ _ _ _ _ _ fZ nZ ?d1 ?d2 ?d3 ?d4 ?d5 lZ iZ (by omega) chZ ?hE f hp
    case hE => passes_own
    all_goals assumption
  case fin =>
    clear fZ
    intro h' tk m' lam F N hL
    rcases hL with rfl | ⟨c', oc, vs, t, rfl, a, b, c⟩
    · k_steps
    · k_steps
end Mine
end
section
open PySem PySem.W PyProof.Rows PySem.Calls PySem.Spec
set_option Elab.async false
set_option maxRecDepth 100000
set_option maxHeartbeats 1000000
namespace Mine
noncomputable def endsQ : List Nat → List Nat
  | [] => []
  | [c] => if c = 13 ∨ c = 10 then [13, 10] else [c]
  | c :: d :: r => if c = 13 ∧ d = 10 then 13 :: 10 :: endsQ r else if c = 13 ∨ c = 10 then 13 :: 10 :: endsQ (d :: r) else c :: endsQ (d :: r)
noncomputable def dotsQ : Bool → List Nat → List Nat
  | _, [] => []
  | b, c :: r => if b = true ∧ c = 46 then 46 :: 46 :: dotsQ false r else c :: dotsQ (c == 10) r
theorem drop_get {l : List Nat} {d : Nat} (h : d < l.length) : l.drop d = l.getD d 0 :: l.drop (d + 1) := by
  rw [List.drop_eq_getElem_cons h, List.getD_eq_getElem?_getD, List.getElem?_eq_getElem h]; rfl
section
variable {T : Array Nat} {rp : List Nat} {nx : Nat → Option (Nat × Nat)} {code : Array Nat} {d : Nat}
theorem ext_cons {b : Nat} (h1 : d < b) (h2 : b ≤ T.size) : (T.extract d b).toList = T.toList.getD d 0 :: (T.extract (d + 1) b).toList := by
  have hd : d < T.toList.length := by rw [Array.length_toList]; omega
  rw [Array.toList_extract, Array.toList_extract, List.extract_eq_take_drop, List.extract_eq_take_drop, drop_get hd, show b - d = (b - (d + 1)) + 1 by omega, List.take_succ_cons]
theorem sr_none (h : nx d = none) : subRest T rp nx d = (T.extract d T.size).toList := by unfold subRest; rw [subOut, h]
theorem sr_keep (hnx : Nexts code T nx) (hd : d < T.size) (h : nx d = nx (d + 1)) : subRest T rp nx d = T.toList.getD d 0 :: subRest T rp nx (d + 1) := by
  cases e : nx (d + 1) with
  | none => rw [sr_none (h.trans e), sr_none e, ext_cons hd (Nat.le_refl _)]
  | some p =>
    obtain ⟨b, e'⟩ := p
    have q := hnx (d + 1) (by omega)
    rw [e] at q
    obtain ⟨q1, q2, q3, _⟩ := q
    rw [subRest_some hnx (by omega) (h.trans e), subRest_some hnx (by omega) e, ext_cons (show d < b by omega) (by omega)]
    rfl
theorem sr_hit {e : Nat} (hnx : Nexts code T nx) (hd : d ≤ T.size) (h : nx d = some (d, e)) : subRest T rp nx d = rp ++ subRest T rp nx e := by
  rw [subRest_some hnx hd h]
  have : (T.extract d d).toList = [] := by simp
  rw [this]; rfl
theorem sr_end (hnx : Nexts code T nx) : subRest T rp nx T.size = [] := by
  cases e : nx T.size with
  | none => rw [sr_none e]; simp
  | some p =>
    obtain ⟨b, e'⟩ := p
    have q := hnx T.size (Nat.le_refl _)
    rw [e] at q
    obtain ⟨q1, q2, q3, _⟩ := q
    omega
end
theorem tx_getD (T : Array Nat) (d : Nat) : tx T d = T.toList.getD d 0 := by simp [tx, List.getD]
theorem eq_nil : endsQ [] = [] := by simp [endsQ]
theorem eq_one {c : Nat} (h : c = 13 ∨ c = 10) : endsQ [c] = [13, 10] := by unfold endsQ; rw [if_pos h]
theorem eq_one' {c : Nat} (h : ¬ (c = 13 ∨ c = 10)) : endsQ [c] = [c] := by unfold endsQ; rw [if_neg h]
theorem eq_hit {c d : Nat} {r : List Nat} (h : c = 13 ∧ d = 10) : endsQ (c :: d :: r) = 13 :: 10 :: endsQ r := by rw [endsQ, if_pos h]
theorem eq_end {c d : Nat} {r : List Nat} (h : ¬ (c = 13 ∧ d = 10)) (h2 : c = 13 ∨ c = 10) : endsQ (c :: d :: r) = 13 :: 10 :: endsQ (d :: r) := by rw [endsQ, if_neg h, if_pos h2]
theorem eq_else {c d : Nat} {r : List Nat} (h2 : ¬ (c = 13 ∨ c = 10)) : endsQ (c :: d :: r) = c :: endsQ (d :: r) := by rw [endsQ, if_neg (fun q => h2 (.inl q.1)), if_neg h2]
theorem ends_rest (T : Array Nat) : ∀ (k d : Nat), d + k = T.size → subRest T [13, 10] (nx2 T) d = endsQ (T.toList.drop d) := by
  intro k
  induction k using Nat.strongRecOn with
  | _ k ih =>
    intro d hk
    cases k with
    | zero =>
      have : d = T.size := by omega
      rw [this, sr_end (nexts2 T), List.drop_eq_nil_of_le (by rw [Array.length_toList]; exact Nat.le_refl _)]
      rfl
    | succ k =>
      have hd : d < T.size := by omega
      have hdl : d < T.toList.length := by rw [Array.length_toList]; exact hd
      have hdr : T.toList.drop d = T.toList.getD d 0 :: T.toList.drop (d + 1) := drop_get hdl
      have hf : find2 T (T.size - d) d = if tx T d = 10 ∨ tx T d = 13 then some d else find2 T (T.size - (d + 1)) (d + 1) := by
        rw [show T.size - d = (T.size - (d + 1)) + 1 by omega]; rfl
      by_cases hc : tx T d = 10 ∨ tx T d = 13
      · have hn : nx2 T d = some (d, wide2 T T.size d) := by unfold nx2; rw [hf, if_pos hc]; rfl
        rw [sr_hit (nexts2 T) (by omega) hn, hdr]
        rw [tx_getD] at hc
        by_cases hw : tx T d = 13 ∧ d + 1 < T.size ∧ tx T (d + 1) = 10
        · have e1 : wide2 T T.size d = d + 2 := by unfold wide2; rw [if_pos hw]
          have hd2l : d + 1 < T.toList.length := by rw [Array.length_toList]; exact hw.2.1
          have hdr2 : T.toList.drop (d + 1) = T.toList.getD (d + 1) 0 :: T.toList.drop (d + 2) := drop_get hd2l
          rw [e1, ih (k - 1) (by omega) (d + 2) (by omega), hdr2]
          rw [tx_getD] at hw
          rw [tx_getD] at hw
          rw [eq_hit ⟨hw.1, hw.2.2⟩]
          rfl
        · have e1 : wide2 T T.size d = d + 1 := by unfold wide2; rw [if_neg hw]
          rw [e1, ih k (by omega) (d + 1) (by omega)]
          by_cases h2 : d + 1 < T.size
          · have hd2l : d + 1 < T.toList.length := by rw [Array.length_toList]; exact h2
            have hdr2 : T.toList.drop (d + 1) = T.toList.getD (d + 1) 0 :: T.toList.drop (d + 2) := drop_get hd2l
            have hw' : ¬ (T.toList.getD d 0 = 13 ∧ T.toList.getD (d + 1) 0 = 10) := fun q => hw ⟨by rw [tx_getD]; exact q.1, h2, by rw [tx_getD]; exact q.2⟩
            rw [hdr2, eq_end hw' (by rcases hc with h | h; exact .inr h; exact .inl h)]
            rfl
          · have : T.toList.drop (d + 1) = [] := List.drop_eq_nil_of_le (by rw [Array.length_toList]; omega)
            rw [this, eq_nil, eq_one (by rcases hc with h | h; exact .inr h; exact .inl h)]
            rfl
      · have hn : nx2 T d = nx2 T (d + 1) := by unfold nx2; rw [hf, if_neg hc]
        rw [sr_keep (nexts2 T) hd hn, ih k (by omega) (d + 1) (by omega), hdr]
        rw [tx_getD] at hc
        have hc' : ¬ (T.toList.getD d 0 = 13 ∨ T.toList.getD d 0 = 10) := fun q => hc (by rcases q with h | h; exact .inr h; exact .inl h)
        cases hr : T.toList.drop (d + 1) with
        | nil => rw [eq_nil, eq_one' hc']
        | cons a r => rw [eq_else hc']
theorem endsS_eq (x : Str) : (endsS x).cps.toList = endsQ x.cps.toList := by
  have h : (Str.ofString "\x0d\n").cps.toList = [13, 10] := by decide +kernel
  unfold endsS
  rw [h]
  exact (ends_rest x.cps x.cps.size 0 (by omega)).trans (by simp)
end Mine
end
section
open PySem PySem.W PyProof.Rows PySem.Calls PySem.Spec
set_option Elab.async false
set_option maxRecDepth 100000
set_option maxHeartbeats 1000000
namespace Mine
theorem dq_hit {r : List Nat} : dotsQ true (46 :: r) = 46 :: 46 :: dotsQ false r := by rw [dotsQ, if_pos ⟨rfl, rfl⟩]
theorem dq_miss {b : Bool} {c : Nat} {r : List Nat} (h : ¬ (b = true ∧ c = 46)) : dotsQ b (c :: r) = c :: dotsQ (c == 10) r := by rw [dotsQ, if_neg h]
theorem dots_rest (T : Array Nat) : ∀ (k d : Nat), d + k = T.size → subRest T [46, 46] (nx1 T) d = dotsQ (decide (d = 0 ∨ tx T (d - 1) = 10)) (T.toList.drop d) := by
  intro k
  induction k with
  | zero =>
    intro d hk
    have : d = T.size := by omega
    rw [this, sr_end (nexts1 T), List.drop_eq_nil_of_le (by rw [Array.length_toList]; exact Nat.le_refl _)]
    rfl
  | succ k ih =>
    intro d hk
    have hd : d < T.size := by omega
    have hdl : d < T.toList.length := by rw [Array.length_toList]; exact hd
    have hdr : T.toList.drop d = T.toList.getD d 0 :: T.toList.drop (d + 1) := drop_get hdl
    have hf : find1 T T.size (T.size - d) d = if (d = 0 ∨ tx T (d - 1) = 10) ∧ tx T d = 46 then some d else find1 T T.size (T.size - (d + 1)) (d + 1) := by
      rw [show T.size - d = (T.size - (d + 1)) + 1 by omega]; rfl
    have ih' := ih (d + 1) (by omega)
    have e1 : decide (d + 1 = 0 ∨ tx T (d + 1 - 1) = 10) = (T.toList.getD d 0 == 10) := by
      rw [show d + 1 - 1 = d from rfl, tx_getD, Bool.eq_iff_iff]; simp
    by_cases hc : (d = 0 ∨ tx T (d - 1) = 10) ∧ tx T d = 46
    · have hn : nx1 T d = some (d, d + 1) := by unfold nx1; rw [hf, if_pos hc]; rfl
      rw [sr_hit (nexts1 T) (by omega) hn, hdr, ih', e1, decide_eq_true hc.1]
      have h46 := hc.2
      rw [tx_getD] at h46
      rw [h46, dq_hit]; rfl
    · have hn : nx1 T d = nx1 T (d + 1) := by unfold nx1; rw [hf, if_neg hc]
      rw [sr_keep (nexts1 T) hd hn, ih', e1, hdr, dq_miss]
      rintro ⟨q1, q2⟩
      rw [← tx_getD] at q2
      exact hc ⟨of_decide_eq_true q1, q2⟩
theorem dotsS_eq (x : Str) : (dotsS x).cps.toList = dotsQ true x.cps.toList := by
  have h : (Str.ofString "..").cps.toList = [46, 46] := by decide +kernel
  unfold dotsS
  rw [h]
  exact (dots_rest x.cps x.cps.size 0 (by omega)).trans (by simp)
theorem quoteS_eq (x : Str) : (quoteS x).cps.toList = dotsQ true (endsQ x.cps.toList) := by
  unfold quoteS; rw [dotsS_eq, endsS_eq]
noncomputable def dotRow : List Nat → List Nat
  | [] => []
  | c :: r => if c = 46 then 46 :: 46 :: r else c :: r
noncomputable def SigL (l : List Nat) : Prop := ∀ c ∈ l, c = 46 ∨ c = 9
theorem ends_sig {l r : List Nat} (h : SigL l) : endsQ (l ++ r) = l ++ endsQ r := by
  induction l with
  | nil => rfl
  | cons c l ih =>
    have hc := h c (.head _)
    have h2 : ¬ (c = 13 ∨ c = 10) := by rcases hc with rfl | rfl <;> decide
    have := ih fun z hz => h z (.tail _ hz)
    show endsQ (c :: (l ++ r)) = c :: (l ++ endsQ r)
    rw [← this]
    cases e : l ++ r with
    | nil => rw [eq_one' h2]; rfl
    | cons d q => rw [eq_else h2]
noncomputable def IsEnd (e : List Nat) : Prop := e = [10] ∨ e = [13] ∨ e = [13, 10]
theorem ends_end {e r : List Nat} (h : IsEnd e) (hr : ∀ q, r ≠ 10 :: q) : endsQ (e ++ r) = 13 :: 10 :: endsQ r := by
  rcases h with rfl | rfl | rfl
  · cases r with
    | nil => rw [eq_nil]; exact eq_one (.inr rfl)
    | cons a q => exact eq_end (by omega) (.inr rfl)
  · cases r with
    | nil => rw [eq_nil]; exact eq_one (.inl rfl)
    | cons a q => exact eq_end (fun z => hr q (by rw [z.2])) (.inl rfl)
  · exact eq_hit ⟨rfl, rfl⟩
theorem ends_end10 {r : List Nat} : endsQ (10 :: r) = 13 :: 10 :: endsQ r := by
  cases r with
  | nil => rw [eq_nil]; exact eq_one (.inr rfl)
  | cons a q => exact eq_end (by omega) (.inr rfl)
noncomputable def mailL (e : List Nat) (rows : List (List Nat)) : List Nat := rows.flatMap (· ++ e)
theorem mail_cons {e x : List Nat} {rows : List (List Nat)} : mailL e (x :: rows) = x ++ (e ++ mailL e rows) := by simp [mailL]
theorem ends_mail {e : List Nat} (he : IsEnd e) : ∀ {rows : List (List Nat)}, (∀ x ∈ rows, SigL x) → endsQ (mailL e rows) = mailL [13, 10] rows
  | [], _ => rfl
  | x :: rows, h => by
    have ih := ends_mail he fun y hy => h y (.tail _ hy)
    rw [mail_cons, ends_sig (h x (.head _)), mail_cons, ← ih]
    congr 1
    by_cases h10 : e = [10]
    · subst h10; exact ends_end10
    · refine ends_end he fun q hq => ?_
      cases rows with
      | nil => exact nomatch hq
      | cons y ys =>
        rw [mail_cons] at hq
        cases y with
        | nil =>
          rcases he with rfl | rfl | rfl
          · exact h10 rfl
          · exact nomatch hq
          · exact nomatch hq
        | cons c z =>
          have := h (c :: z) (.tail _ (.head _)) c (.head _)
          have h2 : c = 10 := (List.cons.inj hq).1
          omega
theorem dots_in {r : List Nat} : ∀ {l : List Nat}, SigL l → dotsQ false (l ++ 13 :: 10 :: r) = l ++ 13 :: 10 :: dotsQ true r
  | [], _ => by
    show dotsQ false (13 :: 10 :: r) = _
    rw [dq_miss (by simp), dq_miss (by simp)]; rfl
  | c :: l, h => by
    have hc := h c (.head _)
    have := dots_in (r := r) fun z hz => h z (.tail _ hz)
    show dotsQ false (c :: (l ++ 13 :: 10 :: r)) = _
    rw [dq_miss (by simp), show (c == 10) = false by rcases hc with rfl | rfl <;> rfl, this]; rfl
theorem dots_row {r l : List Nat} (h : SigL l) : dotsQ true (l ++ 13 :: 10 :: r) = dotRow l ++ 13 :: 10 :: dotsQ true r := by
  cases l with
  | nil =>
    show dotsQ true (13 :: 10 :: r) = _
    rw [dq_miss (by simp), dq_miss (by simp)]; rfl
  | cons c l =>
    have hc := h c (.head _)
    have hl : SigL l := fun z hz => h z (.tail _ hz)
    rcases hc with rfl | rfl
    · show dotsQ true (46 :: (l ++ _)) = _
      rw [dq_hit, dots_in hl]; rfl
    · show dotsQ true (9 :: (l ++ _)) = _
      rw [dq_miss (by simp), show ((9 : Nat) == 10) = false from rfl, dots_in hl]; rfl
theorem dots_mail : ∀ {rows : List (List Nat)}, (∀ x ∈ rows, SigL x) → dotsQ true (mailL [13, 10] rows) = mailL [13, 10] (rows.map dotRow)
  | [], _ => rfl
  | x :: rows, h => by
    rw [mail_cons]
    show dotsQ true (x ++ 13 :: 10 :: mailL [13, 10] rows) = _
    rw [dots_row (h x (.head _)), dots_mail fun y hy => h y (.tail _ hy), List.map_cons, mail_cons]; rfl
theorem sig_dotRow {l : List Nat} (h : SigL l) : SigL (dotRow l) := by
  cases l with
  | nil => exact h
  | cons c r =>
    show SigL (if c = 46 then 46 :: 46 :: r else c :: r)
    by_cases e : c = 46
    · rw [if_pos e]
      intro z hz
      rcases List.mem_cons.mp hz with rfl | hz
      · exact .inl rfl
      · exact h z (by rw [e]; exact hz)
    · rw [if_neg e]; exact h
theorem quote_mail {x : Str} {e : List Nat} {rows : List (List Nat)} (he : IsEnd e) (h : ∀ x ∈ rows, SigL x) (hx : x.cps.toList = mailL e rows) : (quoteS x).cps.toList = mailL [13, 10] (rows.map dotRow) := by
  rw [quoteS_eq, hx, ends_mail he h, dots_mail h]
end Mine
end
section
open PySem PySem.W PyProof.Rows PySem.Calls PySem.Spec
set_option Elab.async false
set_option maxRecDepth 100000
set_option maxHeartbeats 1000000
namespace Mine
noncomputable def ltS : List Nat → List Nat → Bool
  | [], [] => false
  | [], b :: _ => b == 46
  | a :: _, [] => a == 9
  | a :: r, b :: s => if a = b then ltS r s else a == 9
noncomputable def slB : List Nat → List Nat → Bool
  | x :: a, y :: b => Nat.blt x y || (x == y && slB a b)
  | _, _ => false
theorem sl_lt : ∀ {a b : List Nat}, slB a b = true → ∀ u v, (a ++ u < b ++ v) ∧ ¬ (b ++ v < a ++ u)
  | [], _, h, _, _ => nomatch h
  | _ :: _, [], h, _, _ => nomatch h
  | x :: a, y :: b, h, u, v => by
    simp only [slB, Bool.or_eq_true, Bool.and_eq_true, beq_iff_eq, Nat.blt_eq] at h
    simp only [List.cons_append, List.cons_lt_cons_iff]
    rcases h with h | ⟨rfl, h⟩
    · exact ⟨.inl h, fun q => by omega⟩
    · have := sl_lt h u v
      exact ⟨.inr ⟨rfl, this.1⟩, fun q => q.elim (fun z => by omega) fun z => this.2 z.2⟩
theorem ap_lt (p u v : List Nat) : (p ++ u < p ++ v) ↔ u < v := by
  induction p with
  | nil => exact Iff.rfl
  | cons x p ih =>
    simp only [List.cons_append, List.cons_lt_cons_iff, ih]
    exact ⟨fun h => h.elim (fun z => absurd z (Nat.lt_irrefl _)) fun z => z.2, fun h => Or.inr ⟨trivial, h⟩⟩
noncomputable def encL (A C D : List Nat) (l : List Nat) : List Nat := l.flatMap (fun c => if c = 46 then D else A) ++ C
theorem enc_dot {A C D r : List Nat} : encL A C D (46 :: r) = D ++ encL A C D r := by simp [encL]
theorem enc_tab {A C D r : List Nat} : encL A C D (9 :: r) = A ++ encL A C D r := by simp [encL]
theorem enc_nil {A C D : List Nat} : encL A C D [] = C ++ [] := by simp [encL]
theorem enc_lt {A C D : List Nat} (h1 : slB A C = true) (h2 : slB C D = true) (h3 : slB A D = true) : ∀ {l m : List Nat}, SigL l → SigL m → (encL A C D l < encL A C D m ↔ ltS l m = true)
  | [], [], _, _ => by simp [ltS, List.lt_irrefl]
  | [], b :: m, _, hm => by
    rcases hm b (.head _) with rfl | rfl
    · rw [enc_nil, enc_dot]; exact ⟨fun _ => rfl, fun _ => (sl_lt h2 _ _).1⟩
    · rw [enc_nil, enc_tab]; exact ⟨fun q => absurd q (sl_lt h1 _ _).2, fun q => nomatch q⟩
  | a :: l, [], hl, _ => by
    rcases hl a (.head _) with rfl | rfl
    · rw [enc_nil, enc_dot]; exact ⟨fun q => absurd q (sl_lt h2 _ _).2, fun q => nomatch q⟩
    · rw [enc_nil, enc_tab]; exact ⟨fun _ => rfl, fun _ => (sl_lt h1 _ _).1⟩
  | a :: l, b :: m, hl, hm => by
    have ih := enc_lt h1 h2 h3 (l := l) (m := m) (fun z hz => hl z (.tail _ hz)) (fun z hz => hm z (.tail _ hz))
    rcases hl a (.head _) with rfl | rfl <;> rcases hm b (.head _) with rfl | rfl
    · rw [enc_dot, enc_dot, ap_lt, ih]; rfl
    · rw [enc_dot, enc_tab]; exact ⟨fun q => absurd q (sl_lt h3 _ _).2, fun q => nomatch q⟩
    · rw [enc_dot, enc_tab]; exact ⟨fun _ => rfl, fun _ => (sl_lt h3 _ _).1⟩
    · rw [enc_tab, enc_tab, ap_lt, ih]; rfl
theorem sigL_of {x : Str} (h : Sig x) : SigL x.cps.toList := h
theorem q0_eq {e x : Str} (h : Sig x) (he : IsEnd e.cps.toList) : q0 e x = dotRow x.cps.toList ++ [13, 10] := by
  have := quote_mail (x := x ++ e) (rows := [x.cps.toList]) he (by intro y hy; rw [List.mem_singleton.mp hy]; exact h) (by rw [Str.cps_append, Array.toList_append]; simp [mailL])
  unfold q0
  rw [this]; simp [mailL]
theorem dotRow_lt : ∀ {l m : List Nat}, SigL l → SigL m → (dotRow l ++ [13, 10] < dotRow m ++ [13, 10] ↔ encL [9] [13, 10] [46] l < encL [9] [13, 10] [46] m)
  | [], [], _, _ => by simp [dotRow, encL]
  | [], b :: m, _, hm => by
    rcases hm b (.head _) with rfl | rfl <;> simp [dotRow, encL, List.cons_lt_cons_iff]
  | a :: l, [], hl, _ => by
    rcases hl a (.head _) with rfl | rfl <;> simp [dotRow, encL, List.cons_lt_cons_iff]
  | a :: l, b :: m, hl, hm => by
    have key : ∀ {z : List Nat}, SigL z → encL [9] [13, 10] [46] z = z ++ [13, 10] := by
      intro z hz
      induction z with
      | nil => rfl
      | cons c z ih =>
        have := ih fun y hy => hz y (.tail _ hy)
        rcases hz c (.head _) with rfl | rfl
        · rw [enc_dot, this]; rfl
        · rw [enc_tab, this]; rfl
    rw [key hl, key hm]
    rcases hl a (.head _) with rfl | rfl <;> rcases hm b (.head _) with rfl | rfl <;> simp [dotRow, List.cons_lt_cons_iff]
theorem q0_lt {e x y : Str} (he : IsEnd e.cps.toList) (hx : Sig x) (hy : Sig y) : decide (q0 e x < q0 e y) = ltS x.cps.toList y.cps.toList := by
  rw [Bool.eq_iff_iff, decide_eq_true_iff, q0_eq hx he, q0_eq hy he, dotRow_lt hx hy, enc_lt (by decide) (by decide) (by decide) hx hy]
noncomputable def eslAll : List (String × String) → List Nat → List Nat
  | [], t => t
  | p :: r, t => eslAll r (esl ((Str.ofString p.1).cps.toList.headD 0) (Str.ofString p.2).cps.toList t)
theorem escS_all : ∀ (l : List (String × String)) (x : Str), (escS x l).cps.toList = eslAll l x.cps.toList
  | [], _ => rfl
  | p :: r, x => by rw [escS, escS_all r]; rfl
theorem eslAll_append : ∀ (l : List (String × String)) (a b : List Nat), eslAll l (a ++ b) = eslAll l a ++ eslAll l b
  | [], _, _ => rfl
  | p :: r, a, b => by rw [eslAll, esl_append, eslAll_append r]; rfl
theorem eslAll_nil (l : List (String × String)) : eslAll l [] = [] := by
  induction l with
  | nil => rfl
  | cons p r ih => rw [eslAll]; exact ih
theorem eslAll_sig (l : List (String × String)) : ∀ {x : List Nat}, SigL x → eslAll l x = x.flatMap (fun c => if c = 46 then eslAll l [46] else eslAll l [9])
  | [], _ => eslAll_nil l
  | c :: x, h => by
    rw [show c :: x = [c] ++ x from rfl, eslAll_append, eslAll_sig l fun z hz => h z (.tail _ hz)]
    rcases h c (.head _) with rfl | rfl <;> simp
theorem fq_enc {l : List (String × String)} {x : Str} (h : Sig x) : fq l x = encL (eslAll l [9]) (eslAll l [13, 10]) (eslAll l [46]) x.cps.toList := by
  have e : (Str.ofString "\r\n").cps.toList = [13, 10] := by decide +kernel
  unfold fq encL
  rw [escS_all, Str.cps_append, Array.toList_append, eslAll_append, e, eslAll_sig l h]
theorem fq_lt {kw : Nat} {x y : Str} (hk : kw < 5) (hx : Sig x) (hy : Sig y) : decide (fq (escsK kw) x < fq (escsK kw) y) = ltS x.cps.toList y.cps.toList := by
  have h : (List.range 5).all (fun kw => slB (eslAll (escsK kw) [9]) (eslAll (escsK kw) [13, 10]) && slB (eslAll (escsK kw) [13, 10]) (eslAll (escsK kw) [46]) && slB (eslAll (escsK kw) [9]) (eslAll (escsK kw) [46])) = true := by decide +kernel
  have h := List.all_eq_true.mp h kw (List.mem_range.mpr hk)
  simp only [Bool.and_eq_true] at h
  rw [Bool.eq_iff_iff, decide_eq_true_iff, fq_enc hx, fq_enc hy, enc_lt h.1.1 h.1.2 h.2 hx hy]
end Mine
end
section
open PySem PySem.W PyProof.Rows PySem.Calls PySem.Spec
set_option Elab.async false
set_option maxRecDepth 100000
set_option maxHeartbeats 1000000
namespace Mine
noncomputable def dv : Int → List Nat → Int
  | v, [] => v
  | v, c :: r => dv (v * 64 + c) r
noncomputable def frN : List Nat → Nat → Int
  | [], n => 13 * 64 ^ n
  | _ :: _, 0 => 0
  | c :: r, n + 1 => c * 64 ^ (n + 1) + frN r n
theorem varV_dv : ∀ {l : List Nat} {b val : Int}, SigL l → Builtin.bitAnd b 64 ≠ 0 → 0 ≤ val → varV b val (l.map (fun (c : Nat) => 64 + (c : Int)) ++ [13]) = some (dv val l * 64 + 13)
  | [], b, val, _, hb, h0 => by
    show varV b val [13] = _
    rw [varV, if_neg hb, varV, if_pos (by decide), or_step h0 (by omega)]; rfl
  | c :: l, b, val, hl, hb, h0 => by
    have hc := hl c (.head _)
    have h2 : Builtin.bitAnd (64 + (c : Int)) 64 ≠ 0 := by rcases hc with rfl | rfl <;> decide
    show varV b val ((64 + (c : Int)) :: (l.map (fun (c : Nat) => 64 + (c : Int)) ++ [13])) = _
    rw [varV, if_neg hb, or_step h0 (by omega), show (64 + (c : Int)) % 64 = c by rcases hc with rfl | rfl <;> rfl, varV_dv (fun z hz => hl z (.tail _ hz)) h2 (by omega)]
    rfl
theorem numS_dv {x : Str} (h : Sig x) : numS x = dv 0 x.cps.toList * 64 + 13 := by
  have h : SigL x.cps.toList := h
  unfold numS octs
  generalize x.cps.toList = l at h
  cases l with
  | nil => decide
  | cons c l =>
    have hc := h c (.head _)
    show (varV (64 + (c : Int) + 128) (Builtin.bitAnd (64 + (c : Int) + 128) 63) (l.map (fun (c : Nat) => 64 + (c : Int)) ++ [13])).getD 0 = _
    rw [show Builtin.bitAnd (64 + (c : Int) + 128) 63 = c by rcases hc with rfl | rfl <;> decide, varV_dv (fun z hz => h z (.tail _ hz)) (by rcases hc with rfl | rfl <;> decide) (by omega)]
    simp [dv]
theorem dv_fr : ∀ {l : List Nat} {n : Nat} {v : Int}, l.length ≤ n → (dv v l * 64 + 13) * 64 ^ (n - l.length) = v * 64 ^ (n + 1) + frN l n
  | [], n, v, _ => by
    rw [List.length_nil, Nat.sub_zero, Int.pow_succ, dv, frN, Int.add_mul, Int.mul_assoc, Int.mul_comm 64]
  | _ :: _, 0, _, h => by simp at h
  | c :: l, n + 1, v, h => by
    rw [List.length_cons, Nat.add_sub_add_right, dv, dv_fr (by simpa using h), frN, Int.add_mul, Int.mul_assoc, Int.pow_succ (64 : Int) (n + 1), Int.mul_comm 64, Int.add_assoc]
theorem fr2_fr {x : Str} (h : Sig x) (hl : x.length ≤ 12) : fr2 x = frN x.cps.toList 12 := by
  have hl' : x.cps.toList.length ≤ 12 := by simpa [Str.length] using hl
  have := dv_fr (v := 0) hl'
  unfold fr2
  rw [numS_dv h, show (12 - (x.length : Int)).toNat = 12 - x.cps.toList.length by simp [Str.length], this]
  simp
theorem fr_bound : ∀ {l : List Nat} {n : Nat}, SigL l → l.length ≤ n → 0 ≤ frN l n ∧ frN l n < 64 ^ (n + 1)
  | [], n, _, _ => by
    rw [frN, Int.pow_succ]
    have : (0 : Int) < 64 ^ n := Int.pow_pos (by omega)
    omega
  | _ :: _, 0, _, h => by simp at h
  | c :: l, n + 1, hs, h => by
    have ih := fr_bound (n := n) (fun z hz => hs z (.tail _ hz)) (by simpa using h)
    rw [frN, Int.pow_succ (64 : Int) (n + 1)]
    generalize (64 : Int) ^ (n + 1) = z at *
    rcases hs c (.head _) with rfl | rfl <;> omega
theorem fr_lt : ∀ {l m : List Nat} {n : Nat}, SigL l → SigL m → l.length ≤ n → m.length ≤ n → (frN l n < frN m n ↔ ltS l m = true)
  | [], [], n, _, _, _, _ => by simp [ltS]
  | [], _ :: _, 0, _, _, _, h => by simp at h
  | _ :: _, _, 0, _, _, h, _ => by simp at h
  | [], c :: m, n + 1, _, hm, _, h => by
    have b := fr_bound (n := n) (fun z hz => hm z (.tail _ hz)) (by simpa using h)
    rw [frN, frN]
    generalize (64 : Int) ^ (n + 1) = z at *
    rcases hm c (.head _) with rfl | rfl
    · exact ⟨fun _ => rfl, fun _ => by omega⟩
    · exact ⟨fun q => by omega, fun q => nomatch q⟩
  | c :: l, [], n + 1, hl, _, h, _ => by
    have b := fr_bound (n := n) (fun z hz => hl z (.tail _ hz)) (by simpa using h)
    rw [frN, frN]
    generalize (64 : Int) ^ (n + 1) = z at *
    rcases hl c (.head _) with rfl | rfl
    · exact ⟨fun q => by omega, fun q => nomatch q⟩
    · exact ⟨fun _ => rfl, fun _ => by omega⟩
  | c :: l, d :: m, n + 1, hl, hm, h, h' => by
    have a := fr_bound (n := n) (fun z hz => hl z (.tail _ hz)) (by simpa using h)
    have b := fr_bound (n := n) (fun z hz => hm z (.tail _ hz)) (by simpa using h')
    have ih := fr_lt (n := n) (fun z hz => hl z (.tail _ hz)) (fun z hz => hm z (.tail _ hz)) (by simpa using h) (by simpa using h')
    rw [frN, frN]
    generalize (64 : Int) ^ (n + 1) = z at *
    rcases hl c (.head _) with rfl | rfl <;> rcases hm d (.head _) with rfl | rfl
    · rw [Int.add_lt_add_iff_left, ih]; rfl
    · exact ⟨fun q => by omega, fun q => nomatch q⟩
    · exact ⟨fun _ => rfl, fun _ => by omega⟩
    · rw [Int.add_lt_add_iff_left, ih]; rfl
theorem fr2_lt {x y : Str} (hx : Sig x) (hy : Sig y) (lx : x.length ≤ 12) (ly : y.length ≤ 12) : decide (fr2 x < fr2 y) = ltS x.cps.toList y.cps.toList := by
  rw [Bool.eq_iff_iff, decide_eq_true_iff, fr2_fr hx lx, fr2_fr hy ly, fr_lt hx hy (by simpa [Str.length] using lx) (by simpa [Str.length] using ly)]
theorem found_same {f1 f2 g1 g2 : Str → Bool} (h : ∀ x, Sig x → x.length ≤ 12 → f1 x = g1 x ∧ f2 x = g2 x) : ∀ (n : Nat) (x : Str), Sig x → x.length + n ≤ 13 → foundF f1 f2 n x = foundF g1 g2 n x
  | 0, _, _, _ => rfl
  | n + 1, x, hx, hl => by
    have e := h x hx (by omega)
    have l1 : (x ++ Str.ofString ".").length = x.length + 1 := fd_one x "." (by decide)
    have l2 : (x ++ Str.ofString "\t").length = x.length + 1 := fd_one x "\t" (by decide)
    rw [foundF, foundF, e.1, e.2, found_same h n _ (sig_dot hx) (by omega), found_same h n _ (sig_tab hx) (by omega)]
theorem fd_all {lo hi e R : Str} {kw : Nat} (hk : kw < 5) (l1 : lo.length ≤ 12) (l2 : hi.length ≤ 12) (s1 : Sig lo) (s2 : Sig hi) (he : IsEnd e.cps.toList) (le : e.length ≤ 2)
    (h : foundF (fun x => ltS lo.cps.toList x.cps.toList) (fun x => ltS x.cps.toList hi.cps.toList) 12 (Str.ofString "") = some R) : ∀ j : Nat, j < 3 → FdPre j lo hi e kw R := by
  intro j hj
  refine ⟨hk, l1, l2, le, s1, s2, ?_⟩
  have g : ∀ {f1 f2 : Str → Bool}, (∀ x, Sig x → x.length ≤ 12 → f1 x = ltS lo.cps.toList x.cps.toList ∧ f2 x = ltS x.cps.toList hi.cps.toList) → foundF f1 f2 12 (Str.ofString "") = some R :=
    fun q => (found_same q 12 _ sig_nil (by decide)).trans h
  have hj' : j = 0 ∨ j = 1 ∨ j = 2 := by omega
  rcases hj' with rfl | rfl | rfl
  · exact .inl ⟨rfl, g fun x hx _ => ⟨q0_lt he s1 hx, q0_lt he hx s2⟩⟩
  · exact .inr (.inl ⟨rfl, g fun x hx _ => ⟨fq_lt hk s1 hx, fq_lt hk hx s2⟩⟩)
  · exact .inr (.inr ⟨rfl, g fun x hx lx => ⟨fr2_lt s1 hx l1 lx, fr2_lt hx s2 lx l2⟩⟩)
end Mine
end
section
open PySem PySem.W PyProof.Rows PySem.Calls PySem.Spec
set_option Elab.async false
set_option maxRecDepth 100000
set_option maxHeartbeats 1000000
namespace Mine
/-! what a row of signs is worth, as a sum along it -/
noncomputable def vf : Int → Nat → List Nat → Int
  | v, _, [] => v
  | v, 0, _ :: _ => v
  | v, j + 1, c :: r => vf (if c = 46 then v + 2 ^ j else v - 2 ^ j) j r
noncomputable def vi (a : Nat) : Int → List Nat → Int
  | v, [] => v
  | v, c :: r => if c = a then vi a (if c = 46 then v + 1024 else v - 1024) r else vf (if c = 46 then v + 512 else v - 512) 9 r
noncomputable def val : List Nat → Int
  | [] => 0
  | c :: r => vi c (if c = 46 then 1024 else -1024) r
theorem pos2 (j : Nat) : (0 : Int) < 2 ^ j := Int.pow_pos (by decide)
theorem half2 (j : Nat) : Int.fdiv (2 ^ (j + 1)) 2 = (2 : Int) ^ j := by
  rw [Int.fdiv_eq_ediv_of_nonneg _ (by decide), Int.pow_succ]
  exact Int.mul_ediv_cancel _ (by decide)
theorem lt2 {j : Nat} (h : j ≤ 9) : (2 : Int) ^ j < 1024 := by
  have : (2 : Nat) ^ j ≤ 2 ^ 9 := Nat.pow_le_pow_right (by decide) h
  have : (2 : Int) ^ j ≤ 2 ^ 9 := by exact_mod_cast this
  exact Int.lt_of_le_of_lt this (by decide)
theorem cast46 (c : Nat) : ((c : Int) = 46) = (c = 46) := by
  apply propext; omega
theorem vf_fold (a : Int) : ∀ (l : List Nat) (j : Nat) (v : Int), j ≤ 9 → l.length ≤ j → ((l.map fun (c : Nat) => (c : Int)).foldl (wstep a) (v, 2 ^ j)).1 = vf v j l
  | [], _, _, _, _ => by simp [vf]
  | _ :: _, 0, _, _, h => by simp at h
  | c :: r, j + 1, v, hj, h => by
    rw [List.map_cons, List.foldl_cons, wstep]
    dsimp only
    have e : (if (2 : Int) ^ (j + 1) < 1024 ∨ (c : Int) ≠ a then Int.fdiv (2 ^ (j + 1)) 2 else 2 ^ (j + 1)) = 2 ^ j := by rw [if_pos (.inl (lt2 hj)), half2]
    simp only [e, cast46]
    rw [vf, ← vf_fold a r j _ (by omega) (by simpa using h)]
theorem vi_fold (a : Nat) : ∀ (l : List Nat) (v : Int), l.length ≤ 10 → ((l.map fun (c : Nat) => (c : Int)).foldl (wstep (a : Int)) (v, 1024)).1 = vi a v l
  | [], _, _ => by simp [vi]
  | c :: r, v, h => by
    rw [List.map_cons, List.foldl_cons, wstep, vi]
    dsimp only
    have h : r.length ≤ 9 := by simpa using h
    by_cases e : c = a
    · subst e
      have e : (if (1024 : Int) < 1024 ∨ (c : Int) ≠ (c : Int) then Int.fdiv 1024 2 else 1024) = 1024 := if_neg (by simp)
      simp only [e, cast46]
      rw [if_pos trivial, ← vi_fold c r _ (by omega)]
    · have e2 : (if (1024 : Int) < 1024 ∨ (c : Int) ≠ (a : Int) then Int.fdiv 1024 2 else 1024) = 512 := if_pos (.inr (by omega))
      simp only [e2, cast46]
      rw [if_neg e, ← vf_fold (a : Int) r 9 _ (Nat.le_refl _) h]; rfl
theorem worth_val {x : Str} (h : x.length ≤ 11) : worthS x = val x.cps.toList := by
  unfold worthS wfold KStt.codes
  have hl : x.cps.toList.length = x.length := rfl
  generalize x.cps.toList = l at hl
  cases l with
  | nil => rfl
  | cons c r =>
    have h2 : r.length ≤ 10 := by rw [List.length_cons] at hl; omega
    rw [List.map_cons, List.headD_cons, List.foldl_cons, val, ← vi_fold c r _ h2, wstep]
    simp only [cast46, ne_eq, not_true_eq_false, or_false, Int.lt_irrefl, if_false, Int.zero_add, Int.zero_sub]
/-! the order -/
theorem lt_head {f : List Nat → Int} {v : Int} {n : Nat} (h0 : f [] = v) (hu : ∀ r, r.length < n → v < f (46 :: r)) (hd : ∀ r, r.length < n → f (9 :: r) < v)
    (hs : ∀ c l m, (c = 46 ∨ c = 9) → SigL l → SigL m → l.length < n → m.length < n → (f (c :: l) < f (c :: m) ↔ ltS l m = true)) :
    ∀ {l m : List Nat}, SigL l → SigL m → l.length ≤ n → m.length ≤ n → (f l < f m ↔ ltS l m = true)
  | [], [], _, _, _, _ => by simp [ltS]
  | [], d :: m, _, hm, _, h => by
    rw [h0]
    rcases hm d (.head _) with rfl | rfl
    · exact ⟨fun _ => rfl, fun _ => hu m h⟩
    · exact ⟨fun q => absurd (Int.lt_trans q (hd m h)) (Int.lt_irrefl _), fun q => nomatch q⟩
  | c :: l, [], hl, _, h, _ => by
    rw [h0]
    rcases hl c (.head _) with rfl | rfl
    · exact ⟨fun q => absurd (Int.lt_trans q (hu l h)) (Int.lt_irrefl _), fun q => nomatch q⟩
    · exact ⟨fun _ => rfl, fun _ => hd l h⟩
  | c :: l, d :: m, hl, hm, h, h' => by
    have hc := hl c (.head _)
    by_cases e : c = d
    · subst e
      rw [hs c l m hc (fun z hz => hl z (.tail _ hz)) (fun z hz => hm z (.tail _ hz)) h h', ltS, if_pos rfl]
    · rcases hc with rfl | rfl <;> rcases hm d (.head _) with rfl | rfl
      · exact absurd rfl e
      · exact ⟨fun q => absurd (Int.lt_trans (Int.lt_trans q (hd m h')) (hu l h)) (Int.lt_irrefl _), fun q => nomatch q⟩
      · exact ⟨fun _ => rfl, fun _ => Int.lt_trans (hd l h) (hu m h')⟩
      · exact absurd rfl e
theorem vf_bound : ∀ (l : List Nat) (j : Nat) (v : Int), l.length ≤ j → v - 2 ^ j < vf v j l ∧ vf v j l < v + 2 ^ j
  | [], j, v, _ => by
    have := pos2 j
    rw [vf]; omega
  | _ :: _, 0, _, h => by simp at h
  | c :: r, j + 1, v, h => by
    have := vf_bound r j (if c = 46 then v + 2 ^ j else v - 2 ^ j) (by simpa using h)
    rw [vf, Int.pow_succ]
    by_cases q : c = 46
    · rw [if_pos q] at this ⊢; omega
    · rw [if_neg q] at this ⊢; omega
theorem vf_lt : ∀ (n : Nat) {l m : List Nat} {v : Int}, SigL l → SigL m → l.length ≤ n → m.length ≤ n → (vf v n l < vf v n m ↔ ltS l m = true)
  | 0, [], [], _, _, _, _, _ => by simp [ltS]
  | 0, _ :: _, _, _, _, _, h, _ => by simp at h
  | 0, [], _ :: _, _, _, _, _, h => by simp at h
  | n + 1, l, m, v, hl, hm, h, h' => lt_head (f := vf v (n + 1)) (by rw [vf]) (fun r q => by
      have := vf_bound r n (v + 2 ^ n) (by omega)
      rw [vf, if_pos rfl]; omega) (fun r q => by
      have := vf_bound r n (v - 2 ^ n) (by omega)
      rw [vf, if_neg (by decide)]; omega) (fun c l m _ hl hm q q' => by rw [vf, vf]; exact vf_lt n hl hm (by omega) (by omega)) hl hm h h'
theorem vi_bound : ∀ (l : List Nat) (v : Int), l.length ≤ 10 → v - 1024 < vi 46 v l ∧ vi 9 v l < v + 1024
  | [], v, _ => by rw [vi, vi]; omega
  | c :: r, v, h => by
    have h : r.length ≤ 9 := by simpa using h
    have a := vi_bound r (if c = 46 then v + 1024 else v - 1024) (by omega)
    have b := vf_bound r 9 (if c = 46 then v + 512 else v - 512) h
    have e : (2 : Int) ^ 9 = 512 := rfl
    rw [e] at b
    rw [vi, vi]
    constructor
    · by_cases q : c = 46
      · rw [if_pos q]; rw [if_pos q] at a ⊢; omega
      · rw [if_neg q]; rw [if_neg q] at b ⊢; omega
    · by_cases q : c = 9
      · rw [if_pos q]; rw [if_neg (by omega)] at a ⊢; omega
      · rw [if_neg q]; split at b <;> rename_i q2
        · rw [if_pos q2]; omega
        · rw [if_neg q2]; omega
theorem vi_lt {a : Nat} (ha : a = 46 ∨ a = 9) : ∀ (n : Nat) {l m : List Nat} {v : Int}, n ≤ 10 → SigL l → SigL m → l.length ≤ n → m.length ≤ n → (vi a v l < vi a v m ↔ ltS l m = true)
  | 0, [], [], _, _, _, _, _, _ => by simp [ltS]
  | 0, _ :: _, _, _, _, _, _, h, _ => by simp at h
  | 0, [], _ :: _, _, _, _, _, _, h => by simp at h
  | n + 1, l, m, v, hn, hl, hm, h, h' => lt_head (f := vi a v) (by rw [vi]) (fun r q => by
      have x := vi_bound r (v + 1024) (by omega)
      have y := vf_bound r 9 (v + 512) (by omega)
      have e : (2 : Int) ^ 9 = 512 := rfl
      rcases ha with rfl | rfl
      · rw [vi, if_pos rfl, if_pos rfl]; omega
      · rw [vi, if_neg (by decide), if_pos rfl]; omega) (fun r q => by
      have x := vi_bound r (v - 1024) (by omega)
      have y := vf_bound r 9 (v - 512) (by omega)
      have e : (2 : Int) ^ 9 = 512 := rfl
      rcases ha with rfl | rfl
      · rw [vi, if_neg (by decide), if_neg (by decide)]; omega
      · rw [vi, if_pos rfl, if_neg (by decide)]; omega) (fun c l m _ hl hm q q' => by
      rw [vi, vi]
      by_cases e : c = a
      · rw [if_pos e, if_pos e]; exact vi_lt ha n (by omega) hl hm (by omega) (by omega)
      · rw [if_neg e, if_neg e]; exact vf_lt 9 hl hm (by omega) (by omega)) hl hm h h'
theorem val_lt {l m : List Nat} (hl : SigL l) (hm : SigL m) (h : l.length ≤ 11) (h' : m.length ≤ 11) : val l < val m ↔ ltS l m = true :=
  lt_head (f := val) (n := 11) rfl (fun r q => by have := (vi_bound r 1024 (by omega)).1; show 0 < vi 46 1024 r; omega)
    (fun r q => by have := (vi_bound r (-1024) (by omega)).2; show vi 9 (-1024) r < 0; omega)
    (fun c l m hc hl hm q q' => vi_lt hc 10 (Nat.le_refl _) hl hm (by omega) (by omega)) hl hm h h'
end Mine
end
section
open PySem PySem.W PyProof.Rows PySem.Calls PySem.Spec
set_option Elab.async false
set_option maxRecDepth 100000
set_option maxHeartbeats 1000000
namespace Mine
/-! what lies between two numbers -/
theorem step_skip {L H t : Int} {j e : Nat} (hje : j + 1 ≤ e) (hL : 2 ^ (j + 1) * t ≤ L) (hH : H ≤ 2 ^ (j + 1) * t + 2 ^ (j + 1)) : L.fdiv (2 ^ e) * 2 ^ e + 2 ^ e ≥ H := by
  obtain ⟨d, rfl⟩ := Nat.exists_eq_add_of_le hje
  rw [Int.fdiv_eq_ediv_of_nonneg _ (Int.le_of_lt (pos2 _))]
  have h1 := Int.lt_ediv_add_one_mul_self L (pos2 (j + 1 + d))
  rw [Int.add_mul, Int.one_mul] at h1
  have e : ∀ z : Int, z * 2 ^ (j + 1 + d) + 2 ^ (j + 1 + d) = 2 ^ (j + 1) * ((z + 1) * 2 ^ d) := fun z => by
    rw [Int.pow_add, Int.mul_comm (2 ^ (j + 1)) ((z + 1) * 2 ^ d), Int.mul_assoc, Int.mul_comm (2 ^ d), Int.add_mul, Int.one_mul]
  rw [e] at h1 ⊢
  generalize (L / 2 ^ (j + 1 + d) + 1) * 2 ^ d = u at h1 ⊢
  have hp := pos2 (j + 1)
  have h2 : t < u := by
    have : 2 ^ (j + 1) * t < 2 ^ (j + 1) * u := Int.lt_of_le_of_lt hL h1
    exact Int.lt_of_mul_lt_mul_left this (Int.le_of_lt hp)
  have h3 : 2 ^ (j + 1) * (t + 1) ≤ 2 ^ (j + 1) * u := Int.mul_le_mul_of_nonneg_left h2 (Int.le_of_lt hp)
  rw [Int.mul_add, Int.mul_one] at h3
  omega
theorem step_find {L H t : Int} {j : Nat} (hL : 2 ^ (j + 1) * t ≤ L) (hH : H ≤ 2 ^ (j + 1) * t + 2 ^ (j + 1)) (hs : L.fdiv (2 ^ j) * 2 ^ j + 2 ^ j < H) :
    ∀ (d m : Nat), d < m → stepF L H m (2 ^ (j + d)) = some (2 ^ j)
  | 0, m + 1, _ => by rw [stepF, if_neg (by rw [Nat.add_zero]; omega)]; rfl
  | d + 1, m + 1, h => by
    rw [stepF, if_pos (step_skip (j := j) (by omega) hL hH), show j + (d + 1) = (j + d) + 1 from rfl, half2]
    exact step_find hL hH hs d m (by omega)
theorem fdiv_in {L v p : Int} (hp : 0 < p) {t : Int} (hv : v = p * t) (h1 : v - p ≤ L) (h2 : L < v) : L.fdiv p * p + p = v := by
  rw [Int.fdiv_eq_ediv_of_nonneg _ (Int.le_of_lt hp)]
  have : L / p = t - 1 := by
    refine Int.le_antisymm (Int.le_of_lt_add_one ?_) (Int.le_ediv_of_mul_le hp ?_)
    · rw [Int.sub_add_cancel]; exact Int.ediv_lt_of_lt_mul hp (by rw [Int.mul_comm, ← hv]; exact h2)
    · rw [Int.sub_mul, Int.one_mul, Int.mul_comm, ← hv]; exact h1
  rw [this, Int.sub_mul, Int.one_mul, hv, Int.mul_comm]; omega
theorem small_up {a b c : Int} {n : Nat} (ha : -20000 ≤ a) (ha' : a ≤ 20000) (hb : -20000 ≤ b) (hb' : b ≤ 20000) (hc : 0 < c) (hc' : c ≤ 1024) (hr : Builtin.Range.rangeSize a b c = (n : Int)) (hn : n ≤ 4096) : Builtin.Range.small a b c = true := by
  unfold Builtin.Range.small
  rw [hr]
  simp only [Builtin.Range.rangeFitsLong, Bool.and_eq_true, Bool.or_eq_true, decide_eq_true_eq, beq_iff_eq, if_pos hc]
  omega
theorem bt_frac {L H v t : Int} {j : Nat} (hj : j ≤ 9) (hv : v = 2 ^ (j + 1) * t + 2 ^ j) (h1 : v - 2 ^ j ≤ L) (h2 : L < v) (h3 : v < H) (h4 : H ≤ v + 2 ^ j) (b1 : -10000 ≤ L) (b2 : H ≤ 10000) : BtPre L H (2 ^ j) v 1 := by
  have hp := pos2 j
  have hq : (2 : Int) ^ (j + 1) = 2 ^ j * 2 := Int.pow_succ ..
  have hv2 : v = 2 ^ j * (2 * t + 1) := by rw [hv, hq, Int.mul_add, Int.mul_assoc, Int.mul_one]
  have e := fdiv_in hp hv2 h1 h2
  have hr : Builtin.Range.rangeSize v H (2 ^ j) = 1 := by
    unfold Builtin.Range.rangeSize
    rw [if_pos (by omega), if_pos h3, Int.ediv_eq_zero_of_lt (by omega) (by omega)]; rfl
  have h10 : (1024 : Int) = 2 ^ (j + (10 - j)) := by rw [Nat.add_sub_cancel' (by omega)]; rfl
  refine ⟨?_, by omega, ?_, by rw [e]; exact hr, by decide, by decide, ?_⟩
  · rw [h10]
    exact step_find (t := t) (by omega) (by omega) (by omega) (10 - j) 12 (by omega)
  · rw [e]; exact small_up (by omega) (by omega) (by omega) (by omega) hp (by have := lt2 hj; omega) hr (by decide)
  · intro M hM _
    unfold btL at hM
    rw [e] at hM
    simpa using hM
theorem bt_whole {L H v q : Int} (hv : v = 1024 * q) (h2 : L < v) (h3 : v < H) (hp : 1 ≤ q → v - 1024 ≤ L) (hn : q ≤ -1 → H ≤ v + 1024) (b1 : -10000 ≤ L) (b2 : H ≤ 10000) : ∃ n, BtPre L H 1024 v n := by
  have e : L.fdiv 1024 * 1024 + 1024 = 1024 * (L / 1024 + 1) := by rw [Int.fdiv_eq_ediv_of_nonneg _ (by decide)]; omega
  have hs : 1024 * (L / 1024 + 1) ≤ v := by omega
  have hr : Builtin.Range.rangeSize (1024 * (L / 1024 + 1)) H 1024 = (((H - 1024 * (L / 1024 + 1) - 1) / 1024 + 1).toNat : Int) := by
    unfold Builtin.Range.rangeSize
    rw [if_pos (by decide), if_pos (by omega)]; omega
  refine ⟨((H - 1024 * (L / 1024 + 1) - 1) / 1024 + 1).toNat, ?_, by decide, ?_, by rw [e]; exact hr, by omega, by omega, ?_⟩
  · rw [stepF, if_neg (by rw [e]; omega)]
  · rw [e]; exact small_up (by omega) (by omega) (by omega) (by omega) (by decide) (by decide) hr (by omega)
  · intro M hM hmin
    unfold btL at hM hmin
    rw [e] at hM hmin
    obtain ⟨i, hi, rfl⟩ := List.mem_map.mp hM
    have hi := List.mem_range.mp hi
    have hin : v ∈ (List.range ((H - 1024 * (L / 1024 + 1) - 1) / 1024 + 1).toNat).map fun (i : Nat) => 1024 * (L / 1024 + 1) + (i : Int) * 1024 :=
      List.mem_map.mpr ⟨(q - (L / 1024 + 1)).toNat, List.mem_range.mpr (by omega), by omega⟩
    have := hmin v hin
    omega
end Mine
end
section
open PySem PySem.W PyProof.Rows PySem.Calls PySem.Spec
set_option Elab.async false
set_option maxRecDepth 100000
set_option maxHeartbeats 1000000
namespace Mine
/-! the search of a row -/
noncomputable def Hit (L H : Int) (r : Option Str) : Prop := ∃ R S n, r = some R ∧ R.length ≤ 11 ∧ BtPre L H S (val R.cps.toList) n
structure Ask (L H : Int) (f1 f2 : Str → Bool) : Prop where
  lo : -8192 ≤ L
  hi : H ≤ 8192
  lt : L < H
  t : ∀ z, Sig z → z.length ≤ 11 → f1 z = decide (L < val z.cps.toList) ∧ f2 z = decide (val z.cps.toList < H)
theorem dot_list (z : Str) (r : List Nat) : (z ++ Str.ofString ".").cps.toList ++ r = z.cps.toList ++ 46 :: r := by
  rw [Str.cps_append, Array.toList_append, show (Str.ofString ".").cps.toList = [46] by decide +kernel, List.append_assoc]; rfl
theorem tab_list (z : Str) (r : List Nat) : (z ++ Str.ofString "\t").cps.toList ++ r = z.cps.toList ++ 9 :: r := by
  rw [Str.cps_append, Array.toList_append, show (Str.ofString "\t").cps.toList = [9] by decide +kernel, List.append_assoc]; rfl
section
variable {L H : Int} {f1 f2 : Str → Bool}
theorem turn (A : Ask L H f1 f2) {n : Nat} {z : Str} {v : Int} (hz : Sig z) (hl : z.length + (n + 1) ≤ 12) (hv : val z.cps.toList = v)
    (up : v ≤ L → Hit L H (foundF f1 f2 n (z ++ Str.ofString "."))) (dn : H ≤ v → Hit L H (foundF f1 f2 n (z ++ Str.ofString "\t"))) (on : L < v → v < H → ∃ S k, BtPre L H S v k) :
    Hit L H (foundF f1 f2 (n + 1) z) := by
  have h := A.t z hz (by omega)
  rw [hv] at h
  rw [foundF, h.1, h.2]
  by_cases h1 : L < v
  · rw [if_neg (by simp [h1])]
    by_cases h2 : v < H
    · rw [if_neg (by simp [h2])]
      obtain ⟨S, k, b⟩ := on h1 h2
      exact ⟨z, S, k, rfl, by omega, hv ▸ b⟩
    · rw [if_pos (by simp [h2])]; exact dn (by omega)
  · rw [if_pos (by simp [h1])]; exact up (by omega)
theorem one_more {z : Str} {n : Nat} (hl : z.length + (n + 1) ≤ 12) : (z ++ Str.ofString ".").length + n ≤ 12 ∧ (z ++ Str.ofString "\t").length + n ≤ 12 := by
  rw [fd_one z "." (by decide), fd_one z "\t" (by decide)]; omega
theorem search_frac (A : Ask L H f1 f2) {i : Nat} (hi : 1 ≤ i) {a b : Int} (hL : L = 2 ^ i * a) (hH : H = 2 ^ i * b) : ∀ (m j n : Nat) (z : Str) (v t : Int), j + 1 = i + m → j ≤ 9 → m + 1 ≤ n → z.length + n ≤ 12 → Sig z → (∀ r, val (z.cps.toList ++ r) = vf v j r) → v = 2 ^ (j + 1) * t + 2 ^ j → v - 2 ^ j ≤ L → H ≤ v + 2 ^ j → Hit L H (foundF f1 f2 n z)
  | m, j, 0, z, v, t, e, hj, hn, hl, hz, hA, hv, h1, h2 => absurd hn (Nat.not_succ_le_zero _)
  | 0, j, n + 1, z, v, t, e, hj, hn, hl, hz, hA, hv, h1, h2 => by
    have h0 : val z.cps.toList = v := by have := hA []; rwa [List.append_nil, vf] at this
    have hlt := A.lt
    have hp := pos2 j
    have hab : a < b := Int.lt_of_mul_lt_mul_left (by rw [← hL, ← hH]; exact hlt) (Int.le_of_lt (pos2 i))
    have hg : L + 2 ^ i ≤ H := by
      have : 2 ^ i * (a + 1) ≤ 2 ^ i * b := Int.mul_le_mul_of_nonneg_left hab (Int.le_of_lt (pos2 i))
      rw [Int.mul_add, Int.mul_one] at this; omega
    have hi2 : (2 : Int) ^ i = 2 ^ j * 2 := by rw [show i = j + 1 by omega, Int.pow_succ]
    exact turn A hz hl h0 (fun q => by omega) (fun q => by omega) fun q1 q2 => ⟨_, _, bt_frac hj hv h1 q1 q2 h2 (by have := A.lo; omega) (by have := A.hi; omega)⟩
  | m + 1, 0, n + 1, z, v, t, e, hj, hn, hl, hz, hA, hv, h1, h2 => by omega
  | m + 1, j + 1, n + 1, z, v, t, e, hj, hn, hl, hz, hA, hv, h1, h2 => by
    have h0 : val z.cps.toList = v := by have := hA []; rwa [List.append_nil, vf] at this
    have e1 : (2 : Int) ^ (j + 1 + 1) = 2 ^ j * 4 := by rw [Int.pow_succ, Int.pow_succ, Int.mul_assoc]; rfl
    have e2 : (2 : Int) ^ (j + 1) = 2 ^ j * 2 := Int.pow_succ ..
    have e3 : (2 : Int) ^ (j + 1) * (2 * t + 1) = 2 ^ (j + 1 + 1) * t + 2 ^ (j + 1) := by rw [Int.pow_succ (2 : Int) (j + 1), Int.mul_add, Int.mul_one, Int.mul_assoc]
    have e4 : (2 : Int) ^ (j + 1) * (2 * t) = 2 ^ (j + 1 + 1) * t := by rw [Int.pow_succ (2 : Int) (j + 1), Int.mul_assoc]
    have o := one_more hl
    refine turn A hz hl h0 (fun q => ?_) (fun q => ?_) fun q1 q2 => ⟨_, _, bt_frac hj hv h1 q1 q2 h2 (by have := A.lo; omega) (by have := A.hi; omega)⟩
    · exact search_frac A hi hL hH m j n _ (v + 2 ^ j) (2 * t + 1) (by omega) (by omega) (by omega) o.1 (sig_dot hz) (fun r => by rw [dot_list, hA, vf, if_pos rfl]) (by omega) (by omega) (by omega)
    · exact search_frac A hi hL hH m j n _ (v - 2 ^ j) (2 * t) (by omega) (by omega) (by omega) o.2 (sig_tab hz) (fun r => by rw [tab_list, hA, vf, if_neg (by decide)]) (by omega) (by omega) (by omega)
end
noncomputable def Fine (N : Int) : Prop := ∀ k : Nat, 1 ≤ k → k ≤ 8 → 1024 * (k : Int) - 1024 ≤ N.natAbs → (N.natAbs : Int) ≤ 1024 * k → ∃ a, N = 2 ^ (k + 2) * a
section
variable {L H : Int} {f1 f2 : Str → Bool}
theorem search_up (A : Ask L H f1 f2) (gL : Fine L) (gH : Fine H) : ∀ (d k n : Nat) (z : Str), k + d = 9 → 1 ≤ k → k + n = 12 → z.length = k → Sig z → (∀ r, val (z.cps.toList ++ r) = vi 46 (1024 * k) r) → 1024 * (k : Int) - 1024 ≤ L → Hit L H (foundF f1 f2 n z)
  | 0, k, n, z, e, _, _, _, _, _, h => by have := A.hi; have := A.lt; omega
  | d + 1, k, 0, z, e, _, e2, _, _, _, _ => by omega
  | d + 1, k, n + 1, z, e, hk, e2, hl, hz, hA, h => by
    have h0 : val z.cps.toList = 1024 * k := by have := hA []; rwa [List.append_nil, vi] at this
    have hlo := A.lo
    have hhi := A.hi
    have hlt := A.lt
    refine turn A hz (by omega) h0 (fun q => ?_) (fun q => ?_) fun q1 q2 => ⟨1024, bt_whole (q := k) rfl q1 q2 (fun _ => h) (fun q => by omega) (by omega) (by omega)⟩
    · exact search_up A gL gH d (k + 1) n _ (by omega) (by omega) (by omega) (by rw [fd_one z "." (by decide)]; omega) (sig_dot hz) (fun r => by rw [dot_list, hA, vi, if_pos rfl, if_pos rfl]; congr 1) (by omega)
    · obtain ⟨a, ea⟩ := gL k hk (by omega) (by omega) (by omega)
      obtain ⟨b, eb⟩ := gH k hk (by omega) (by omega) (by omega)
      exact search_frac A (i := k + 2) (by omega) ea eb (8 - k) 9 n _ (1024 * k - 512) (k - 1) (by omega) (by omega) (by omega) (by rw [fd_one z "\t" (by decide)]; omega) (sig_tab hz)
        (fun r => by rw [tab_list, hA, vi, if_neg (by decide), if_neg (by decide)]) (by show _ = 1024 * _ + 512; omega) (by show _ - 512 ≤ _; omega) (by show _ ≤ _ + 512; omega)
theorem search_dn (A : Ask L H f1 f2) (gL : Fine L) (gH : Fine H) : ∀ (d k n : Nat) (z : Str), k + d = 9 → 1 ≤ k → k + n = 12 → z.length = k → Sig z → (∀ r, val (z.cps.toList ++ r) = vi 9 (-(1024 * k)) r) → H ≤ -(1024 * (k : Int)) + 1024 → Hit L H (foundF f1 f2 n z)
  | 0, k, n, z, e, _, _, _, _, _, h => by have := A.lo; have := A.lt; omega
  | d + 1, k, 0, z, e, _, e2, _, _, _, _ => by omega
  | d + 1, k, n + 1, z, e, hk, e2, hl, hz, hA, h => by
    have h0 : val z.cps.toList = -(1024 * k) := by have := hA []; rwa [List.append_nil, vi] at this
    have hlo := A.lo
    have hhi := A.hi
    have hlt := A.lt
    refine turn A hz (by omega) h0 (fun q => ?_) (fun q => ?_) fun q1 q2 => ⟨1024, bt_whole (q := -k) (by omega) q1 q2 (fun q => by omega) (fun _ => h) (by omega) (by omega)⟩
    · obtain ⟨a, ea⟩ := gL k hk (by omega) (by omega) (by omega)
      obtain ⟨b, eb⟩ := gH k hk (by omega) (by omega) (by omega)
      exact search_frac A (i := k + 2) (by omega) ea eb (8 - k) 9 n _ (-(1024 * k) + 512) (-k) (by omega) (by omega) (by omega) (by rw [fd_one z "." (by decide)]; omega) (sig_dot hz)
        (fun r => by rw [dot_list, hA, vi, if_neg (by decide), if_pos rfl]) (by show _ = 1024 * _ + 512; omega) (by show _ - 512 ≤ _; omega) (by show _ ≤ _ + 512; omega)
    · exact search_dn A gL gH d (k + 1) n _ (by omega) (by omega) (by omega) (by rw [fd_one z "\t" (by decide)]; omega) (sig_tab hz) (fun r => by rw [tab_list, hA, vi, if_pos rfl, if_neg (by decide)]; congr 1; omega) (by omega)
theorem search_all (A : Ask L H f1 f2) (gL : Fine L) (gH : Fine H) : Hit L H (foundF f1 f2 12 (Str.ofString "")) := by
  have hlo := A.lo
  have hhi := A.hi
  refine turn A (n := 11) sig_nil (by decide) (v := 0) rfl (fun q => ?_) (fun q => ?_) fun q1 q2 => ⟨1024, bt_whole (q := 0) rfl q1 q2 (fun q => by omega) (fun q => by omega) (by omega) (by omega)⟩
  · exact search_up A gL gH 8 1 11 _ rfl (by decide) rfl (by decide) (sig_dot sig_nil) (fun r => by rw [dot_list]; rfl) (by omega)
  · exact search_dn A gL gH 8 1 11 _ rfl (by decide) rfl (by decide) (sig_tab sig_nil) (fun r => by rw [tab_list]; rfl) (by omega)
end
end Mine
end
section
open PySem PySem.W PyProof.Rows PySem.Calls PySem.Spec
set_option Elab.async false
set_option maxRecDepth 100000
set_option maxHeartbeats 1000000
namespace Mine
/-! joining and splitting -/
theorem empty_eq : Str.ofString "" = ⟨#[]⟩ := by decide +kernel
theorem join_cps : ∀ l : List Str, (Txt.join (Str.ofString "") l).cps.toList = l.flatMap (·.cps.toList) := by
  have key : ∀ l : List Str, (Str.join (⟨#[]⟩ : Str) l).cps.toList = l.flatMap (·.cps.toList) := by
    intro l
    induction l with
    | nil => rfl
    | cons x r ih => rw [join_nil_cons, Str.cps_append, Array.toList_append, ih]; rfl
  intro l
  rw [eq_of_beq (join_plain_closes _ _), empty_eq, key]
theorem crlf_cps : (Str.ofString "\r\n").cps.toList = [13, 10] := by decide +kernel
theorem join_mail (e : Str) (rows : List Str) : (Txt.join (Str.ofString "") (rows.map (· ++ e))).cps.toList = mailL e.cps.toList (rows.map (·.cps.toList)) := by
  rw [join_cps]
  unfold mailL
  rw [List.flatMap_map, List.flatMap_map]
  congr 1
  funext x
  rw [Str.cps_append, Array.toList_append]
section
open PySem.StrLaws PySem.Builtin PySem.Builtin.Str
theorem at_iff {x : Str} {i : Nat} : At x (Str.ofString "\r\n") x.length i ↔ i + 2 ≤ x.length ∧ (x.cps.toList.drop i).take 2 = [13, 10] := by
  unfold At
  rw [subAt_eq, crlf_cps, beq_iff_eq]
  exact Iff.rfl
theorem split_parts {x : Str} : ∀ (rows : List Str) (pre : List Nat) (cuts : List Nat) (f : Nat), (∀ r ∈ rows, SigL r.cps.toList) → x.cps.toList = pre ++ mailL [13, 10] (rows.map (·.cps.toList)) →
    ChainG x (Str.ofString "\r\n") x.length pre.length cuts f → (∀ k, f ≤ k → ¬ At x (Str.ofString "\r\n") x.length k) → partsFrom x 2 pre.length cuts = rows ++ [Str.ofString ""]
  | [], pre, cuts, f, _, hx, hc, _ => by
    have hl : x.length = pre.length := by show x.cps.toList.length = _; rw [hx]; simp [mailL]
    cases cuts with
    | nil =>
      show [strSub x pre.length x.length] = _
      rw [List.nil_append]
      congr 1
      refine Str.ext' (Array.toList_inj.mp ?_)
      rw [strSub_toList, hx]
      simp [mailL, empty_eq]
    | cons c r =>
      have h1 := hc.1
      have h2 := hc.2.1.1
      rw [show (Str.ofString "\r\n").length = 2 from rfl] at h2
      omega
  | r :: rows, pre, cuts, f, hs, hx, hc, hf => by
    have hx' : x.cps.toList = pre ++ (r.cps.toList ++ (13 :: 10 :: mailL [13, 10] (rows.map (·.cps.toList)))) := by
      rw [hx, List.map_cons, mail_cons]; rfl
    have hl : x.length = pre.length + r.cps.toList.length + 2 + (mailL [13, 10] (rows.map (·.cps.toList))).length := by
      show x.cps.toList.length = _
      rw [hx']; simp only [List.length_append, List.length_cons]; omega
    have hA : At x (Str.ofString "\r\n") x.length (pre.length + r.cps.toList.length) := by
      refine at_iff.mpr ⟨by omega, ?_⟩
      rw [hx', ← List.append_assoc, ← List.length_append, List.drop_left]; rfl
    have hN : ∀ k, pre.length ≤ k → k < pre.length + r.cps.toList.length → ¬ At x (Str.ofString "\r\n") x.length k := by
      intro k h1 h2 q
      have q := (at_iff.mp q).2
      obtain ⟨i, rfl⟩ := Nat.exists_eq_add_of_le h1
      rw [hx', List.drop_append, List.drop_of_length_le (by omega), List.nil_append, Nat.add_sub_cancel_left, List.drop_append_of_le_length (by omega)] at q
      have hi : i < r.cps.toList.length := by omega
      rw [List.drop_eq_getElem_cons hi, List.cons_append, List.take_succ_cons] at q
      have h13 := (List.cons.inj q).1
      have := hs r (.head _) _ (List.getElem_mem hi)
      omega
    cases cuts with
    | nil =>
      have e : f = pre.length := hc
      exact absurd hA (hf _ (by omega))
    | cons c cs =>
      obtain ⟨c1, c2, c3, c4⟩ := hc
      have ec : c = pre.length + r.cps.toList.length := by
        rcases Nat.lt_trichotomy c (pre.length + r.cps.toList.length) with h | h | h
        · exact absurd c2 (hN c c1 h)
        · exact h
        · exact absurd hA (c3 _ (by omega) h)
      have el : c + 2 = (pre ++ (r.cps.toList ++ [13, 10])).length := by rw [List.length_append, List.length_append, ec]; simp; omega
      have ih := split_parts rows (pre ++ (r.cps.toList ++ [13, 10])) cs f (fun z hz => hs z (.tail _ hz)) (by rw [hx']; simp) (by rw [← el]; exact c4) hf
      show strSub x pre.length c :: partsFrom x 2 (c + 2) cs = r :: (rows ++ [Str.ofString ""])
      rw [el, ih]
      congr 1
      refine Str.ext' (Array.toList_inj.mp ?_)
      rw [strSub_toList, hx', ec, Nat.add_sub_cancel_left, List.drop_left, List.take_left]
theorem split_mail {x : Str} {rows : List Str} (hs : ∀ r ∈ rows, SigL r.cps.toList) (hx : x.cps.toList = mailL [13, 10] (rows.map (·.cps.toList))) (hne : rows ≠ []) : Txt.split x (Str.ofString "\r\n") = rows ++ [Str.ofString ""] := by
  obtain ⟨f, hG, hn⟩ := occ_tight x (Str.ofString "\r\n") (by decide)
  have key := split_parts (x := x) rows [] _ f hs hx hG hn
  have hl : 2 ≤ x.length := by
    show 2 ≤ x.cps.toList.length
    rw [hx]
    cases rows with
    | nil => exact absurd rfl hne
    | cons r rs => rw [List.map_cons, mail_cons]; simp only [List.length_append, List.length_cons]; omega
  have hk : strKind (Str.ofString "\r\n") = 1 := by decide +kernel
  have hk2 := strKind_pos x
  unfold Txt.split
  rw [if_neg (by rw [hk, show (Str.ofString "\r\n").length = 2 from rfl]; simp; omega)]
  split
  · rename_i h
    have h := List.isEmpty_iff.mp h
    rw [h] at key
    have k2 : [strSub x 0 x.length] = rows ++ [Str.ofString ""] := key
    cases rows with
    | nil => exact absurd rfl hne
    | cons r rs => simp at k2
  · rw [partsBetween_eq]; exact key
end
end Mine
end
section
open PySem PySem.W PyProof.Rows PySem.Calls PySem.Spec
set_option Elab.async false
set_option maxRecDepth 100000
set_option maxHeartbeats 4000000
namespace Mine
noncomputable def rowK (k : Nat) : Str := drF 127 (Str.ofString "") (1 + (k : Int))
theorem drawn_rowK (a : Int) : drawnS a = rowK (a.fmod 127).toNat := by
  have h := fm_in a 127 (by decide)
  unfold drawnS rowK
  rw [Int.toNat_of_nonneg h.1]
theorem rowK_0 : Str.ofString "" = rowK 0 := by decide +kernel
theorem rowK_1 : Str.ofString "\t" = rowK 1 := by decide +kernel
noncomputable def spellS (v : Int) : Str := (spF v 12 (Str.ofString "") 0 1024).getD (Str.ofString "")
noncomputable def numK (T : Int) (k : Nat) : Int := upW T (worthS (rowK k))
noncomputable def sigB (x : Str) : Bool := x.cps.toList.all fun c => c == 46 || c == 9
theorem sig_of {x : Str} (h : sigB x = true) : Sig x := fun c hc => by
  have := List.all_eq_true.mp h c hc
  simpa using this
noncomputable def dotT (T : Int) (l : List Nat) : List Nat := if T = 1 then dotRow l else dotRow (dotRow l)
noncomputable def fineB (N : Int) : Bool := (List.range 8).all fun k => decide (N.natAbs + 1024 < 1024 * (k + 1)) || decide (1024 * (k + 1) < N.natAbs) || decide (N % 2 ^ (k + 1 + 2) = 0)
noncomputable def fgIdx (l : List Nat) : List Nat := ((List.range' 0 (l.length - 1)).filter fun j => l.getD (j + 1) 0 == 46) ++ [l.length - 1]
theorem item_dot {x : Str} {j : Nat} (h : j < x.length) : (Txt.item x (j : Int) == Str.ofString ".") = (x.cps.toList.getD j 0 == 46) := by
  have e : Str.ofString "." = ⟨#[46]⟩ := by decide +kernel
  have hs : x.cps.size = x.length := rfl
  have e1 : seqIndex? (j : Int) x.length = some j := by simp [seqIndex?]; omega
  have e2 : Txt.item x (j : Int) = ⟨#[x.cps.toList.getD j 0]⟩ := by
    simp [Txt.item, Txt.charAt, e1, h, hs]
  rw [e, e2, Bool.eq_iff_iff, beq_iff_eq, beq_iff_eq]
  simp
theorem told_idx (x : Str) : fgTold (tailS x) = (fgIdx (tailL x)).map fgName := by
  have hl : (tailS x).length = (tailL x).length := by simp [tailS, Str.length]
  have hc : (tailS x).cps.toList = tailL x := by simp [tailS]
  unfold fgTold fgIdx
  rw [List.map_append, hl]
  congr 2
  · refine List.filter_congr fun j hj => ?_
    have hj := List.mem_range'_1.mp hj
    have := item_dot (x := tailS x) (j := j + 1) (by rw [hl]; omega)
    rw [hc] at this
    exact this
  · simp
theorem name_of : ∀ j : Fin 5, fgName j = flName (9 - j) := by decide +kernel
theorem flag_eq {n : Int} {x : Str} (hl : (tailL x).length ≤ 5) (h0 : (n = 0) = (tailL x = [])) (h : (List.range 10).filter (fun k => n / 2 ^ k % 2 == 1) = ((fgIdx (tailL x)).map fun j => 9 - j).reverse ∨ n = 0) : flagS n = figS x := by
  unfold flagS figS
  have ht : (tailS x = Str.ofString "") = (tailL x = []) := by
    rw [empty_eq]; simp [tailS]
  by_cases e : n = 0
  · rw [if_pos e, if_pos (by rw [ht, ← h0]; exact e)]
  · rw [if_neg e, if_neg (by rw [ht, ← h0]; exact e)]
    congr 1
    unfold flN
    rw [h.resolve_right e, told_idx, ← List.map_reverse, ← List.map_reverse, List.map_map]
    refine List.map_congr_left fun j hj => ?_
    have hj : j < 5 := by
      have := List.mem_reverse.mp hj
      unfold fgIdx at this
      rcases List.mem_append.mp this with q | q
      · have := List.mem_range'_1.mp (List.mem_filter.mp q).1; omega
      · rw [List.mem_singleton.mp q]; omega
    exact (name_of ⟨j, hj⟩).symm
noncomputable def flagB (n : Int) (l : List Nat) : Bool := (decide (n = 0) == decide (l = [])) && (decide (n = 0) || decide ((List.range 10).filter (fun i => n / 2 ^ i % 2 == 1) = ((fgIdx l).map fun j => 9 - j).reverse))
theorem flag_of {n : Int} {x : Str} (hl : (tailL x).length ≤ 5) (h : flagB n (tailL x) = true) : flagS n = figS x := by
  simp only [flagB, Bool.and_eq_true, beq_iff_eq, Bool.or_eq_true, decide_eq_true_eq, decide_eq_decide] at h
  exact flag_eq hl (propext h.1) h.2.symm
noncomputable def rowB (v : Int) (x : Str) : Bool :=
  decide (x.length ≤ 8) && sigB x && decide (0 ≤ leastI v) && decide (leastI v ≤ 100) &&
  decide (frontL x.cps.toList = (List.replicate ((leastI v).fdiv 3).toNat [52]).flatten ++ (List.replicate ((leastI v).fmod 3).toNat [23]).flatten) && decide ((tailL x).length ≤ 5) && flagB (v.fmod 1024) (tailL x) &&
  decide (varS (octs x) = some (13 + ((List.range' 0 x.length).map (ordT x)).sum))
noncomputable def allB (T : Int) (k : Nat) (v : Int) (x : Str) : Bool :=
  rowB v x && decide (spF v 12 (Str.ofString "") 0 1024 = some x) && decide (x.cps.toList = dotT T (rowK k).cps.toList) && decide (val x.cps.toList = v) && fineB v && decide (-8192 ≤ v) && decide (v ≤ 8192)
noncomputable def allK (P : Nat → Bool) : Bool := (List.range 127).all P
theorem rows1 : allK (fun k => allB 1 k (numK 1 k) (spellS (numK 1 k))) = true := by decide +kernel
theorem rows2 : allK (fun k => allB 2 k (numK 2 k) (spellS (numK 2 k))) = true := by decide +kernel
theorem rows0 : allK (fun k => decide ((rowK k).length ≤ 6) && sigB (rowK k) && decide (-100000 ≤ worthS (rowK k)) && decide (worthS (rowK k) ≤ 100000)) = true := by decide +kernel
theorem fine_of {N : Int} (h : fineB N = true) : Fine N := by
  intro k h1 h2 h3 h4
  have := List.all_eq_true.mp h (k - 1) (List.mem_range.mpr (by omega))
  rw [show k - 1 + 1 = k by omega] at this
  simp only [Bool.or_eq_true, decide_eq_true_eq] at this
  rcases this with (q | q) | q
  · omega
  · omega
  · exact Int.dvd_of_emod_eq_zero q
theorem esc_tab : (List.range 5).all (fun kw => decide (eslAll (escsK kw) [46] = [46]) && decide (eslAll (escsK kw) [9] = (tabs kw).cps.toList) && decide (eslAll (escsK kw) [13, 10] = (closes kw).cps.toList)) = true := by decide +kernel
theorem fm_congr {α β : Type} {f g : α → List β} : ∀ (l : List α), (∀ c ∈ l, f c = g c) → l.flatMap f = l.flatMap g
  | [], _ => rfl
  | c :: l, h => by rw [List.flatMap_cons, List.flatMap_cons, h c (.head _), fm_congr l fun z hz => h z (.tail _ hz)]
theorem esc_of {kw : Nat} (hk : kw < 5) {x : Str} (h : Sig x) : escS (x ++ Str.ofString "\r\n") (escsK kw) = Txt.join (Str.ofString "") ((sigsS x).map (tabF (tabs kw))) ++ closes kw := by
  have e := List.all_eq_true.mp esc_tab kw (List.mem_range.mpr hk)
  simp only [Bool.and_eq_true, decide_eq_true_eq] at e
  obtain ⟨⟨e1, e2⟩, e3⟩ := e
  refine Str.ext' (Array.toList_inj.mp ?_)
  rw [escS_all, Str.cps_append, Str.cps_append, Array.toList_append, Array.toList_append, eslAll_append, crlf_cps, e3, join_cps, eslAll_sig _ h]
  congr 1
  unfold sigsS
  rw [List.map_map, List.flatMap_map]
  have ht : (Str.ofString "\t") = ⟨#[9]⟩ := by decide +kernel
  refine fm_congr _ fun c hc => ?_
  simp only [Function.comp, tabF, ht]
  rcases h c hc with rfl | rfl
  · rw [if_pos rfl, e1, if_neg (by decide)]
  · rw [if_neg (by decide), e2, if_pos rfl]
structure KOk (T : Int) (v : Int) (x : Str) : Prop where
  b : rowB v x = true
  sp : spF v 12 (Str.ofString "") 0 1024 = some x
  vl : val x.cps.toList = v
  fine : Fine v
  lo : -8192 ≤ v
  hi : v ≤ 8192
theorem k_ok {T : Int} (hT : T = 1 ∨ T = 2) {k : Nat} (hk : k < 127) : KOk T (numK T k) (spellS (numK T k)) ∧ (spellS (numK T k)).cps.toList = dotT T (rowK k).cps.toList := by
  have h : allB T k (numK T k) (spellS (numK T k)) = true := by
    rcases hT with rfl | rfl
    · exact List.all_eq_true.mp rows1 k (List.mem_range.mpr hk)
    · exact List.all_eq_true.mp rows2 k (List.mem_range.mpr hk)
  simp only [allB, Bool.and_eq_true, decide_eq_true_eq] at h
  obtain ⟨⟨⟨⟨⟨⟨a1, a2⟩, a3⟩, a4⟩, a5⟩, a6⟩, a7⟩ := h
  exact ⟨⟨a1, a2, a4, fine_of a5, a6, a7⟩, a3⟩
theorem KOk.len {T v : Int} {x : Str} (h : KOk T v x) : x.length ≤ 8 ∧ Sig x := by
  have := h.b
  simp only [rowB, Bool.and_eq_true, decide_eq_true_eq] at this
  exact ⟨this.1.1.1.1.1.1.1, sig_of this.1.1.1.1.1.1.2⟩
theorem KOk.row {T v : Int} {x : Str} (h : KOk T v x) {kw : Nat} (hk : kw < 5) : RowOk kw (tabs kw) (closes kw) v x := by
  have b := h.b
  simp only [rowB, Bool.and_eq_true, decide_eq_true_eq] at b
  obtain ⟨⟨⟨⟨⟨⟨⟨a3, a4⟩, a5⟩, a6⟩, a7⟩, a8⟩, a9⟩, a10⟩ := b
  exact ⟨by have := h.lo; omega, by have := h.hi; omega, by omega, sig_of a4, a5, a6, a7, a8, flag_of a8 a9, ⟨_, a10, rfl⟩, esc_of hk (sig_of a4)⟩
theorem KOk.pair {T v v' : Int} {x x' : Str} (h : KOk T v x) (h' : KOk T v' x') (hlt : v < v') {kw : Nat} (hk : kw < 5) {e : Str} (he : IsEnd e.cps.toList) (le : e.length ≤ 2) :
    ∃ S R n, BtPre v v' S R n ∧ ∀ j : Nat, j < 3 → ∃ R', FdPre j x x' e kw R' ∧ R'.length ≤ 64 ∧ worthS R' = R := by
  obtain ⟨l, s⟩ := h.len
  obtain ⟨l', s'⟩ := h'.len
  have hl : ∀ z : Str, z.cps.toList.length = z.length := fun _ => rfl
  have A : Ask v v' (fun z => ltS x.cps.toList z.cps.toList) (fun z => ltS z.cps.toList x'.cps.toList) := ⟨h.lo, h'.hi, hlt, fun z hz lz => by
    refine ⟨?_, ?_⟩
    · rw [Bool.eq_iff_iff, decide_eq_true_iff, ← val_lt s hz (by rw [hl]; omega) (by rw [hl]; omega), h.vl]
    · rw [Bool.eq_iff_iff, decide_eq_true_iff, ← val_lt hz s' (by rw [hl]; omega) (by rw [hl]; omega), h'.vl]⟩
  obtain ⟨R, S, n, e1, e2, e3⟩ := search_all A h.fine h'.fine
  exact ⟨S, _, n, e3, fun j hj => ⟨R, fd_all hk (by omega) (by omega) s s' he le e1 j hj, by omega, worth_val e2⟩⟩
theorem zip_self {f : Int → Str} : ∀ (l : List Int), l.zip (l.map f) = l.map fun v => (v, f v)
  | [] => rfl
  | _ :: r => by rw [List.map_cons, List.zip_cons_cons, zip_self r, List.map_cons]
theorem mail_len {e : List Nat} {B : Nat} : ∀ {rows : List (List Nat)}, (∀ r ∈ rows, r.length + e.length ≤ B) → (mailL e rows).length ≤ B * rows.length
  | [], _ => Nat.zero_le _
  | x :: rows, h => by
    have h1 := h x (.head _)
    have h2 := mail_len (rows := rows) fun r hr => h r (.tail _ hr)
    rw [mail_cons, List.length_append, List.length_append, List.length_cons, Nat.mul_succ]; omega
theorem ends_is (k : Nat) (h : k < 3) : IsEnd (ends k).cps.toList ∧ (ends k).length ≤ 2 := by
  have : k = 0 ∨ k = 1 ∨ k = 2 := by omega
  unfold IsEnd
  rcases this with rfl | rfl | rfl <;> decide +kernel
theorem plain_of {T : Int} (hT : T = 1 ∨ T = 2) {e : Str} (he : IsEnd e.cps.toList) (le : e.length ≤ 2) {kw : Nat} (hk : kw < 5) (ks : List Nat) (h5 : ks.length = 5) (hks : ∀ k ∈ ks, k < 127) (rows : List Str) (hr : rows = ks.map rowK) (nums : List Int) (hn : nums = ks.map (numK T)) (mail : Str) (hm : mail = sentS T (Txt.join (Str.ofString "") (rows.map (· ++ e)))) :
    (∀ r ∈ rows, r.length ≤ 12 ∧ -100000 ≤ worthS r ∧ worthS r ≤ 100000) ∧
    (((rows.map (· ++ e)).map (·.length)).sum + (rows.map (· ++ e)).length * (Str.ofString "").length ≤ 16777216) ∧
    ((Txt.join (Str.ofString "") (rows.map (· ++ e))).length ≤ 200) ∧
    (∀ v ∈ nums, spF v 12 (Str.ofString "") 0 1024 = some (spellS v) ∧ (spellS v).length ≤ 12) ∧
    ((((nums.map fun v => spellS v ++ Str.ofString "\r\n").map (·.length)).sum + (nums.map fun v => spellS v ++ Str.ofString "\r\n").length * (Str.ofString "").length ≤ 16777216)) ∧
    (mail = Txt.join (Str.ofString "") (nums.map fun v => spellS v ++ Str.ofString "\r\n")) ∧
    (mail.length ≤ 200) ∧
    (Txt.split mail (Str.ofString "\r\n") = nums.map spellS ++ [Str.ofString ""]) ∧
    (∀ p ∈ nums.zip (nums.map spellS), RowOk kw (tabs kw) (closes kw) p.1 p.2) ∧
    (∀ p ∈ nums.zip (nums.map spellS), ∀ q ∈ nums.zip (nums.map spellS), p.1 < q.1 → ∃ S R n, BtPre p.1 q.1 S R n ∧ ∀ j : Nat, j < 3 → ∃ R', FdPre j p.2 q.2 e kw R' ∧ R'.length ≤ 64 ∧ worthS R' = R) := by
  have hl : ∀ z : Str, z.cps.toList.length = z.length := fun _ => rfl
  have r0 : ∀ r ∈ rows, (r.length ≤ 6 ∧ Sig r) ∧ -100000 ≤ worthS r ∧ worthS r ≤ 100000 := fun r q => by
    rw [hr] at q
    obtain ⟨k, hk', rfl⟩ := List.mem_map.mp q
    have := List.all_eq_true.mp rows0 k (List.mem_range.mpr (hks k hk'))
    simp only [Bool.and_eq_true, decide_eq_true_eq] at this
    exact ⟨⟨this.1.1.1, sig_of this.1.1.2⟩, this.1.2, this.2⟩
  have n0 : ∀ v ∈ nums, KOk T v (spellS v) := fun v q => by
    rw [hn] at q
    obtain ⟨k, hk', rfl⟩ := List.mem_map.mp q
    exact (k_ok hT (hks k hk')).1
  have ln : nums.length = 5 := by rw [hn, List.length_map, h5]
  have lr : rows.length = 5 := by rw [hr, List.length_map, h5]
  have e0 : (Str.ofString "").length = 0 := by decide
  have e2 : (Str.ofString "\r\n").length = 2 := by decide
  have hcr : nums.map (fun v => spellS v ++ Str.ofString "\r\n") = (nums.map spellS).map (· ++ Str.ofString "\r\n") := by rw [List.map_map]; rfl
  have hc : (nums.map spellS).map (·.cps.toList) = (rows.map (·.cps.toList)).map (dotT T) := by
    rw [hn, hr, List.map_map, List.map_map, List.map_map, List.map_map]
    refine List.map_congr_left fun k hk' => ?_
    exact (k_ok hT (hks k hk')).2
  have sg : ∀ x ∈ rows.map (·.cps.toList), SigL x := fun x hx => by
    obtain ⟨r, hr', rfl⟩ := List.mem_map.mp hx
    exact (r0 r hr').1.2
  have hq : mail.cps.toList = mailL [13, 10] ((nums.map spellS).map (·.cps.toList)) := by
    have q1 := quote_mail he sg (join_mail e rows)
    rw [hm, hc]
    unfold sentS dotT
    rcases hT with rfl | rfl
    · rw [if_pos rfl]; simpa using q1
    · rw [if_neg (by decide)]
      have q2 := quote_mail (.inr (.inr rfl)) (fun x hx => by obtain ⟨y, hy, rfl⟩ := List.mem_map.mp hx; exact sig_dotRow (sg y hy)) q1
      rw [q2, List.map_map]; simp [Function.comp_def]
  have sn : ∀ r ∈ nums.map spellS, r.length ≤ 8 ∧ SigL r.cps.toList := fun r q => by
    obtain ⟨v, hv, rfl⟩ := List.mem_map.mp q
    exact (n0 v hv).len
  have hml : mail.length ≤ 50 := by
    rw [← hl, hq]
    have := mail_len (e := [13, 10]) (B := 10) (rows := (nums.map spellS).map (·.cps.toList)) fun r q => by
      obtain ⟨x, hx, rfl⟩ := List.mem_map.mp q
      have := (sn x hx).1
      rw [hl]; simp; omega
    rw [List.length_map, List.length_map, ln] at this; exact this
  have hz : nums.zip (nums.map spellS) = nums.map fun v => (v, spellS v) := zip_self nums
  refine ⟨fun r q => ⟨by have := (r0 r q).1.1; omega, (r0 r q).2⟩, ?_, ?_, fun v q => ⟨(n0 v q).sp, by have := (n0 v q).len.1; omega⟩, ?_, ?_, by omega, ?_, ?_, ?_⟩
  · have := sum_le (B := 8) (l := rows.map (· ++ e)) fun y hy => by
      obtain ⟨r, hr', rfl⟩ := List.mem_map.mp hy
      have := (r0 r hr').1.1
      rw [Str.length_append]; omega
    rw [e0, List.length_map, lr] at *; omega
  · rw [← hl, join_mail]
    have := mail_len (e := e.cps.toList) (B := 8) (rows := rows.map (·.cps.toList)) fun r q => by
      obtain ⟨x, hx, rfl⟩ := List.mem_map.mp q
      have := (r0 x hx).1.1
      rw [hl, hl]; omega
    rw [List.length_map, lr] at this; omega
  · have := sum_le (B := 10) (l := nums.map fun v => spellS v ++ Str.ofString "\r\n") fun y hy => by
      obtain ⟨v, hv, rfl⟩ := List.mem_map.mp hy
      have := (n0 v hv).len.1
      rw [Str.length_append]; omega
    rw [e0, List.length_map, ln] at *; omega
  · refine Str.ext' (Array.toList_inj.mp ?_)
    rw [hq, hcr, join_mail, crlf_cps]
  · refine split_mail (fun r q => (sn r q).2) hq fun q => ?_
    have := congrArg List.length q
    rw [List.length_map, ln] at this; exact nomatch this
  · intro p hp
    rw [hz] at hp
    obtain ⟨v, hv, rfl⟩ := List.mem_map.mp hp
    exact (n0 v hv).row hk
  · intro p hp q hq' hlt
    rw [hz] at hp hq'
    obtain ⟨v, hv, rfl⟩ := List.mem_map.mp hp
    obtain ⟨u, hu, rfl⟩ := List.mem_map.mp hq'
    exact (n0 v hv).pair (n0 u hu) hlt hk he le
theorem fm_lt (a : Int) {n : Int} (h : 0 < n) : 0 ≤ a.fmod n ∧ a.fmod n < n := ⟨Int.fmod_nonneg_of_pos a h, Int.fmod_lt_of_pos a h⟩
theorem plain (a b c d : Int) : PlainOk a b c d spellS := by
  have ha := fm_lt a (n := 127) (by decide)
  have hb := fm_lt b (n := 127) (by decide)
  have hc := fm_lt c (n := 127) (by decide)
  have hd := fm_lt d (n := 2) (by decide)
  have he := fm_lt (d.fdiv 2) (n := 3) (by decide)
  have hw := fm_lt (d.fdiv 6) (n := 5) (by decide)
  have e := ends_is ((d.fdiv 2).fmod 3).toNat (by omega)
  have hr : rowsD a b c = [(a.fmod 127).toNat, (b.fmod 127).toNat, (c.fmod 127).toNat, 0, 1].map rowK := by
    unfold rowsD; rw [drawn_rowK, drawn_rowK, drawn_rowK, rowK_0, rowK_1]; rfl
  have hn : numsD a b c d = [(a.fmod 127).toNat, (b.fmod 127).toNat, (c.fmod 127).toNat, 0, 1].map (numK (1 + d.fmod 2)) := by
    unfold numsD; rw [hr, List.map_map, List.map_map]; rfl
  obtain ⟨p1, p2, p3, p4, p5, p6, p7, p8, p9, p10⟩ := plain_of (T := 1 + d.fmod 2) (by omega) e.1 e.2 (kw := kwD d) (by unfold kwD; omega) _ rfl (by
    intro k hk
    simp only [List.mem_cons, List.not_mem_nil, or_false] at hk
    omega) _ hr _ hn (mailD a b c d) rfl
  exact ⟨p1, p2, p3, p4, p5, p6, p7, p8, p9, p10⟩
theorem walk_thm (w : World) : LeftD (lawDR w) := walk_all spellS (fun a b c d _ _ _ _ => plain a b c d) w
end Mine
end
section
open PySem PySem.W PyProof.Rows PySem.Calls PySem.Spec
set_option maxRecDepth 100000
set_option maxHeartbeats 0
set_option Elab.async true
namespace Mine
theorem hdB.tw2849482463312613176 : True := trivial
theorem hdB.tw10060322204140854051 : True := trivial
theorem hdB.tw10108678295390518827 : True := trivial
theorem hdB.tw10307350567725656123 : True := trivial
theorem hdB.tw10388381751457000505 : True := trivial
theorem hdB.tw10441261176214844751 : True := trivial
theorem hdB.tw10468598853506537525 : True := trivial
theorem hdB.tw10564106306941357646 : True := trivial
theorem hdB.tw10597516979169754136 : True := trivial
theorem hdB.tw10969156294677094118 : True := trivial
theorem hdB.tw11333571021560049383 : True := trivial
theorem hdB.tw11482827068820897443 : True := trivial
theorem hdB.tw1158832275023106724 : True := trivial
theorem hdB.tw11608616608011105570 : True := trivial
theorem hdB.tw11674153074825473853 : True := trivial
theorem hdB.tw11711746375825675780 : True := trivial
theorem hdB.tw11795842734721691587 : True := trivial
theorem hdB.tw1190763802638642144 : True := trivial
theorem hdB.tw12120035862186282598 : True := trivial
theorem hdB.tw12121465228893195976 : True := trivial
theorem hdB.tw12350290554024461484 : True := trivial
theorem hdB.tw12390307180394536303 : True := trivial
theorem hdB.tw12459982240640925766 : True := trivial
theorem hdB.tw12472836561579236130 : True := trivial
theorem hdB.tw12784517793750228074 : True := trivial
theorem hdB.tw12895445867983455260 : True := trivial
theorem hdB.tw12909508526821591484 : True := trivial
theorem hdB.tw12925433372861902915 : True := trivial
theorem hdB.tw1339195135427977619 : True := trivial
theorem hdB.tw13616919266760702678 : True := trivial
theorem hdB.tw13667637310302148573 : True := trivial
theorem hdB.tw13669759399153914181 : True := trivial
theorem hdB.tw13673512206823028918 : True := trivial
theorem hdB.tw13746921442394327067 : True := trivial
theorem hdB.tw13795074699196632630 : True := trivial
theorem hdB.tw13808371311324995885 : True := trivial
theorem hdB.tw13820951910118067618 : True := trivial
theorem hdB.tw13938864372151246667 : True := trivial
theorem hdB.tw14178025227080847483 : True := trivial
theorem hdB.tw1472128085703946464 : True := trivial
theorem hdB.tw14800520555378786896 : True := trivial
theorem hdB.tw15039698750832274017 : True := trivial
theorem hdB.tw15149662732187716555 : True := trivial
theorem hdB.tw15436375928466811668 : True := trivial
theorem hdB.tw15587482639380473116 : True := trivial
theorem hdB.tw15692277606033611776 : True := trivial
theorem hdB.tw15886106866482169956 : True := trivial
theorem hdB.tw15934568189790066707 : True := trivial
theorem hdB.tw16412120454687595198 : True := trivial
theorem hdB.tw16445799617791635359 : True := trivial
theorem hdB.tw16665667537133598754 : True := trivial
theorem hdB.tw16800492414846272916 : True := trivial
theorem hdB.tw16827805947678527737 : True := trivial
theorem hdB.tw17123866650101628069 : True := trivial
theorem hdB.tw17187605485511430966 : True := trivial
theorem hdB.tw17420311958413718024 : True := trivial
theorem hdB.tw17434296428519164491 : True := trivial
theorem hdB.tw17729147277269775027 : True := trivial
theorem hdB.tw17734793083080367011 : True := trivial
theorem hdB.tw18206664062352576257 : True := trivial
theorem hdB.tw1943324981752363096 : True := trivial
theorem hdB.tw2039222615482643339 : True := trivial
theorem hdB.tw2354170974341163307 : True := trivial
theorem hdB.tw2665809999045362088 : True := trivial
theorem hdB.tw2672407585380104792 : True := trivial
theorem hdB.tw270889976600660389 : True := trivial
theorem hdB.tw2727973133835581905 : True := trivial
theorem hdB.tw2831461591821254551 : True := trivial
theorem hdB.tw2893601867376165715 : True := trivial
theorem hdB.tw304498082078896603 : True := trivial
theorem hdB.tw3268217366877557047 : True := trivial
theorem hdB.tw3306611048574011544 : True := trivial
theorem hdB.tw3506847140678825357 : True := trivial
theorem hdB.tw3682958360469743793 : True := trivial
theorem hdB.tw3832316067602002327 : True := trivial
theorem hdB.tw3917319093876902811 : True := trivial
theorem hdB.tw4271149756769322762 : True := trivial
theorem hdB.tw4420651534285528108 : True := trivial
theorem hdB.tw4545316125209686589 : True := trivial
theorem hdB.tw4819786184586176959 : True := trivial
theorem hdB.tw4967869514264762311 : True := trivial
theorem hdB.tw5326279744383688220 : True := trivial
theorem hdB.tw5446816296623458443 : True := trivial
theorem hdB.tw5672518587710906203 : True := trivial
theorem hdB.tw5730048582233762540 : True := trivial
theorem hdB.tw5777407546050399979 : True := trivial
theorem hdB.tw5870520432641999468 : True := trivial
theorem hdB.tw594502157681275256 : True := trivial
theorem hdB.tw6009676905036952368 : True := trivial
theorem hdB.tw6024390819026391608 : True := trivial
theorem hdB.tw619201577190429196 : True := trivial
theorem hdB.tw6413035107479245678 : True := trivial
theorem hdB.tw6435024659882922718 : True := trivial
theorem hdB.tw682091708474766446 : True := trivial
theorem hdB.tw7370903057073754117 : True := trivial
theorem hdB.tw7429813505782984202 : True := trivial
theorem hdB.tw7543728327453514637 : True := trivial
theorem hdB.tw7551803222299772709 : True := trivial
theorem hdB.tw7554889739185199633 : True := trivial
theorem hdB.tw756595864480212695 : True := trivial
theorem hdB.tw7826120709584893094 : True := trivial
theorem hdB.tw7940194487319868815 : True := trivial
theorem hdB.tw8438267663177039796 : True := trivial
theorem hdB.tw8825484905173009530 : True := trivial
theorem hdB.tw9014896600579322603 : True := trivial
theorem hdB.tw9076447329833981088 : True := trivial
theorem hdB.tw9236426176275505474 : True := trivial
theorem hdB.tw9675038262582241039 : True := trivial
theorem hdB.tw9945731310052136310 : True := trivial
theorem hdB : PySem.Challenge.rw_tc0048_01.Holds := by
  w_on
  o_law
  o_head (kmHook hdA.heap_1_1 asL asL_eq [245])
  case hw => w_witness2
  case hc => exact fun w => walk_thm w w
end Mine
end
theorem PySem.Challenge.cw_tc0048_01_holds : PySem.Challenge.rw_tc0048_01.Holds := by
  exact Mine.hdB
