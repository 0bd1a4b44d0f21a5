import PyProof.Rows.All
import Wide.All
import OpenK.AllK
import Wide.FinOn
import PySem.Challenge.RW_ny0248_01
set_option Elab.async false
set_option linter.all false
section
open PySem PySem.W PyProof.Rows
namespace Mine
set_option maxRecDepth 100000 in
set_option maxHeartbeats 8000000 in
open_top hd for PySem.Challenge.rw_ny0248_01
end Mine
end
section
namespace Mine
theorem walk_off : True := by
  w_top off
  trivial
end Mine
end
section
namespace Mine
/-! short ends for what omega would prove at length -/
theorem o_a {u a c d M : Nat} (h : u + a < M) (e : c + d ≤ a) : u + c + d < M := by omega
theorem o_b {u a c M : Nat} (h : u + a < M) (e : c ≤ a) : u + c < M := by omega
theorem o_c {u a M : Nat} (h : u + a < M) : u < M := by omega
theorem o_le {x n N : Nat} (h : x ≤ n) (e : n ≤ N) : x ≤ N := Nat.le_trans h e
theorem o_1 {x n c N : Nat} (h : x ≤ n) (e : n + c ≤ N) : x + c ≤ N := by omega
theorem o_2 {x n c N : Nat} (h : x ≤ n) (e : 2 * n + c ≤ N) : 2 * x + c ≤ N := by omega
theorem o_lt {x n N : Nat} (h : x ≤ n) (e : n < N) : x < N := by omega
theorem o_ll {x n N : Nat} (h : x < n) (e : n ≤ N) : x < N := by omega
theorem o_l {x n N : Nat} (h : x < n) (e : n ≤ N) : x ≤ N := by omega
theorem o_n (x : Nat) : -2 ^ 63 ≤ (x : Int) := by omega
theorem o_0 (x : Nat) : 0 ≤ (x : Int) := by omega
theorem o_i {x n : Nat} (h : x ≤ n) (e : n < 2 ^ 63) : (x : Int) < 2 ^ 63 := by omega
theorem o_j {i x n : Nat} (hi : i < x) (h : x ≤ n) (e : n < 2 ^ 63) : (i : Int) < 2 ^ 63 := by omega
theorem o_k {i x n : Nat} (hi : i < x) (h : x < n) (e : n < 2 ^ 63) : (i : Int) < 2 ^ 63 := by omega
theorem o_m {x n : Nat} (h : x < n) (e : n < 2 ^ 63) : (x : Int) < 2 ^ 63 := by omega
theorem o_e {a b n N : Nat} (h : a = b) (g : b ≤ n) (e : n ≤ N) : a ≤ N := by omega
theorem o_s {i x : Nat} (h : i < x) : i + 1 ≤ x := h
theorem c_2 {A B C : Prop} (h : A ∧ B ∧ C) : B := h.2.1
theorem c_3 {A B C D : Prop} (h : A ∧ B ∧ C ∧ D) : C := h.2.2.1
theorem c_4 {A B C D E : Prop} (h : A ∧ B ∧ C ∧ D ∧ E) : D := h.2.2.2.1
theorem c_5 {A B C D E F : Prop} (h : A ∧ B ∧ C ∧ D ∧ E ∧ F) : E := h.2.2.2.2.1
theorem c_6 {A B C D E F G : Prop} (h : A ∧ B ∧ C ∧ D ∧ E ∧ F ∧ G) : F := h.2.2.2.2.2.1
theorem c_7 {A B C D E F G H : Prop} (h : A ∧ B ∧ C ∧ D ∧ E ∧ F ∧ G ∧ H) : G := h.2.2.2.2.2.2.1
theorem c_8 {A B C D E F G H I : Prop} (h : A ∧ B ∧ C ∧ D ∧ E ∧ F ∧ G ∧ H ∧ I) : H := h.2.2.2.2.2.2.2.1
theorem c_9 {A B C D E F G H I J : Prop} (h : A ∧ B ∧ C ∧ D ∧ E ∧ F ∧ G ∧ H ∧ I ∧ J) : I := h.2.2.2.2.2.2.2.2.1
theorem d_2 {A B : Prop} (h : A ∧ B) : B := h.2
theorem d_3 {A B C : Prop} (h : A ∧ B ∧ C) : C := h.2.2
theorem d_4 {A B C D : Prop} (h : A ∧ B ∧ C ∧ D) : D := h.2.2.2
theorem d_5 {A B C D E : Prop} (h : A ∧ B ∧ C ∧ D ∧ E) : E := h.2.2.2.2
theorem d_6 {A B C D E F : Prop} (h : A ∧ B ∧ C ∧ D ∧ E ∧ F) : F := h.2.2.2.2.2
theorem d_7 {A B C D E F G : Prop} (h : A ∧ B ∧ C ∧ D ∧ E ∧ F ∧ G) : G := h.2.2.2.2.2.2
theorem d_8 {A B C D E F G H : Prop} (h : A ∧ B ∧ C ∧ D ∧ E ∧ F ∧ G ∧ H) : H := h.2.2.2.2.2.2.2
theorem d_9 {A B C D E F G H I : Prop} (h : A ∧ B ∧ C ∧ D ∧ E ∧ F ∧ G ∧ H ∧ I) : I := h.2.2.2.2.2.2.2.2
end Mine
end
section
open PySem PySem.W PyProof.Rows PySem.Spec
namespace Mine
noncomputable abbrev PG : Program := PySem.Challenge.rw_ny0248_01.row.prog
noncomputable abbrev LS : List Str := looseW hd.view_39 [Str.ofString "tspecials", Str.ofString "_name_disallowed_re", Str.ofString "_value_disallowed_re", Str.ofString "_formatparam"]
abbrev Led := List (Addr × Obj)

/-- what a call of the def at f with these arguments gives, from a ledger, to its caller; n: frames that it may use -/
def Fn (w : World) (n : Nat) (f : Addr) (vs : List Value) (kw : List (Str × Value)) (news : Led) (P : Value → Led → Prop) : Prop :=
  ∀ (mean : ExcName → Option Value) (mg mb : Str → Option Value) (dp un : Nat) (gd : Option (List Code)) (cn : Str) (cs : Scope) (a : Addr) (ccd : Value) (cl : List (Str × Addr)) (outer : List Env) (A₀ : Around) (base h₀ : Heap) (L : Addr) (m : Str → Option Value) (s : Shared) (Q E : Value → Shared → Prop),
    Below A₀ base outer h₀ → Fr h₀ L s.heap m → (hd.heap_39 w.params).In h₀ → News h₀ L s.heap news → Top hd.view_39 LS mean mg mb h₀ → cs.kind = .function →
    dp + n < recursionLimit → un + 8 * n < cLine →
    (∀ r news' h' tk', Fr h₀ L h' m → News h₀ L h' news' → P r news' → Q r { s with heap := h', toks := tk' }) →
    wpAny (model PG w) (ktrTop dp un gd cn cs L a ccd cl outer) (call (.ref f) vs kw) Q E s

theorem Fn.use {w : World} {n : Nat} {f : Addr} {vs : List Value} {kw : List (Str × Value)} {news : Led} {P : Value → Led → Prop} (C : Fn w n f vs kw news P)
    {mean : ExcName → Option Value} {mg mb : Str → Option Value} {dp un : Nat} {gd : Option (List Code)} {cn : Str} {cs : Scope} {a : Addr} {ccd : Value} {cl : List (Str × Addr)} {outer : List Env} {A₀ : Around} {base h₀ : Heap} {L : Addr} {m : Str → Option Value} {s : Shared} {Q E : Value → Shared → Prop}
    (B : Below A₀ base outer h₀) (F : Fr h₀ L s.heap m) (X : (hd.heap_39 w.params).In h₀) (N : News h₀ L s.heap news) (T : Top hd.view_39 LS mean mg mb h₀) (hk : cs.kind = .function)
    (hdp : dp + n < recursionLimit) (hun : un + 8 * n < cLine)
    (ret : ∀ r news' h' tk', Fr h₀ L h' m → News h₀ L h' news' → P r news' → Q r { s with heap := h', toks := tk' }) :
    wpAny (model PG w) (ktrTop dp un gd cn cs L a ccd cl outer) (call (.ref f) vs kw) Q E s := C _ _ _ _ _ _ _ _ _ _ _ _ _ _ _ _ _ _ _ _ B F X N T hk hdp hun ret
end Mine
end
section
open PySem PySem.W PySem.Calls PyProof.Rows PySem.Spec PyProof.V
namespace Mine
/-- the frozen part of the ledger stays -/
abbrev Has (h : Heap) (rest : Led) : Prop := ∀ p ∈ rest, h.get? p.1 = some p.2
abbrev RestR (rest : Led) (R : Result → Shared → Prop) : Result → Shared → Prop := fun r s' => Has s'.heap rest → R r s'

section
variable {prog : Program} {w : World} {A A₀ : Around} {s : Shared} {K : Frag} {L : Addr} {h₀ base : Heap} {m mg mb : Str → Option Value} {muts rest : Led} {p : Program} {loose : List Str} {mean : ExcName → Option Value}
theorem rest_in (NR : Has s.heap rest) (sep : ∀ p ∈ rest, p.1 ∉ muts.map (·.1)) : ∀ p ∈ rest, (hideAll s.heap (muts.map (·.1))).get? p.1 = some p.2 :=
  fun p hp => hideAll_get _ (NR p hp) (sep p hp)
theorem rest_out {g : Heap} {R : Result → Shared → Prop} {v : Value} {s' : Shared} (G : ∀ p ∈ rest, g.get? p.1 = some p.2) (hl : LeaveK h₀ L m g (RestR rest R) v s') : Has s'.heap rest := by
  obtain ⟨L', m', news', F', _, _⟩ := hl
  exact fun p hp => F'.keep _ _ (G p hp)

theorem code_defS {env : Env} {outer : List Env} {R : Result → Shared → Prop} {name qual : Str} {params : Arguments} {body : List Stmt} {scope : Scope} {dV kV doc pm cdv ct oc : Value} {an od : Option Addr} {osl : Array (Option Value)} {f : Addr} {args : Args} {binds : List (Str × Value)}
    (B : Below A₀ base outer h₀) (F : Fr h₀ L s.heap m) (X₀ : K.In h₀) (N : News h₀ L s.heap muts) (NR : Has s.heap rest) (sep : ∀ p ∈ rest, p.1 ∉ muts.map (·.1)) (T : Top p loose mean mg mb h₀) (hA : A.frames = some (env :: outer)) (hf : env.frame = some L) (hke : env.scope.kind = .function)
    (ho : K.lookup f = some ⟨oc, od, .func (fnOf name qual params body scope dV kV doc pm an cdv ct), osl⟩) (hcd : codeIn K cdv qual = true) (hroom : A.depth < recursionLimit)
    (hbind : BindsTo s (fnOf name qual params body scope dV kV doc pm an cdv ct) args binds) (hloc : ∀ y ∈ binds, scope.names.lookup y.1 = some .local)
    (h : ∀ g L' h₁, Fr h₀ L g m → Fr g L' h₁ (fun y => binds.reverse.lookup y) → News g L' h₁ muts → Below A base (env :: outer) g → K.In g → Top p loose mean mg mb g → (∀ p ∈ rest, g.get? p.1 = some p.2) →
      wpAny (model prog w) (A.deeper (envOf qual scope L' f cdv)) (execs body (envOf qual scope L' f cdv))
        (fun fl s' => LeaveK h₀ L m g (RestR rest R) (match fl with | .ret v => v | _ => .none) s')
        (fun e s' => wpAny (model prog w) (A.deeper (envOf qual scope L' f cdv)) (leaving (envOf qual scope L' f cdv) e) (fun _ s'' => R (.error e) s'') (fun e' s'' => R (.error e') s'') s')
        { s with heap := h₁, toks := s.toks + binds.length })
    (hco : scope.isCoroutine = false) (hgen : scope.isGenerator = false) (hk : scope.kind = .function)
    (hcell : ∀ x ∈ scope.names, x.2 ≠ .cell) : codeAny (model prog w) A (.call (.ref f) args) R s :=
  code_defG B F X₀ N T hA hf hke ho hcd hroom hbind hloc (fun g L' h₁ FG F' N' B' X' T' G => wpAny_mono (h g L' h₁ FG F' N' B' X' T' fun p hp => G _ _ (NR p hp) (sep p hp)) (fun _ _ hl => by
    obtain ⟨L', m', news', F', N', k⟩ := hl
    exact ⟨L', m', news', F', N', fun a b => k a b fun p hp => F'.keep _ _ (G _ _ (NR p hp) (sep p hp))⟩) fun _ _ y => y) hco hgen hk hcell

/-- a def that changes nothing: all stays -/
abbrev KeepA (h h' : Heap) : Prop := ∀ b o, h.get? b = some o → h'.get? b = some o
abbrev KeepR (h : Heap) (R : Result → Shared → Prop) : Result → Shared → Prop := fun r s' => KeepA h s'.heap → R r s'
theorem code_defP {env : Env} {outer : List Env} {R : Result → Shared → Prop} {name qual : Str} {params : Arguments} {body : List Stmt} {scope : Scope} {dV kV doc pm cdv ct oc : Value} {an od : Option Addr} {osl : Array (Option Value)} {f : Addr} {args : Args} {binds : List (Str × Value)}
    (B : Below A₀ base outer h₀) (F : Fr h₀ L s.heap m) (X₀ : K.In h₀) (T : Top p loose mean mg mb h₀) (hA : A.frames = some (env :: outer)) (hf : env.frame = some L) (hke : env.scope.kind = .function)
    (ho : K.lookup f = some ⟨oc, od, .func (fnOf name qual params body scope dV kV doc pm an cdv ct), osl⟩) (hcd : codeIn K cdv qual = true) (hroom : A.depth < recursionLimit)
    (hbind : BindsTo s (fnOf name qual params body scope dV kV doc pm an cdv ct) args binds) (hloc : ∀ y ∈ binds, scope.names.lookup y.1 = some .local)
    (h : ∀ g L' h₁, Fr h₀ L g m → Fr g L' h₁ (fun y => binds.reverse.lookup y) → News g L' h₁ [] → Below A base (env :: outer) g → K.In g → Top p loose mean mg mb g → KeepA s.heap g →
      wpAny (model prog w) (A.deeper (envOf qual scope L' f cdv)) (execs body (envOf qual scope L' f cdv))
        (fun fl s' => LeaveK h₀ L m g (KeepR s.heap R) (match fl with | .ret v => v | _ => .none) s')
        (fun e s' => wpAny (model prog w) (A.deeper (envOf qual scope L' f cdv)) (leaving (envOf qual scope L' f cdv) e) (fun _ s'' => R (.error e) s'') (fun e' s'' => R (.error e') s'') s')
        { s with heap := h₁, toks := s.toks + binds.length })
    (hco : scope.isCoroutine = false) (hgen : scope.isGenerator = false) (hk : scope.kind = .function)
    (hcell : ∀ x ∈ scope.names, x.2 ≠ .cell) : codeAny (model prog w) A (.call (.ref f) args) R s :=
  code_defG (news := []) B F X₀ News.nil T hA hf hke ho hcd hroom hbind hloc (fun g L' h₁ FG F' N' B' X' T' G => wpAny_mono (h g L' h₁ FG F' N' B' X' T' fun b o e => G b o e (fun q => nomatch q)) (fun _ _ hl => by
    obtain ⟨L', m', news', F', N', k⟩ := hl
    exact ⟨L', m', news', F', N', fun a c => k a c fun b o e => F'.keep _ _ (G b o e (fun q => nomatch q))⟩) fun _ _ y => y) hco hgen hk hcell

theorem kp_frameS {E : Value → Shared → Prop} {env : Env} {outer : List Env} {R : Result → Shared → Prop} {qual : Str} {body : List Stmt} {scope : Scope} {cdv : Value} {f : Addr} {cl : List (Str × Addr)} {binds : List (Str × Value)} (B : Below A₀ base outer h₀) (F : Fr h₀ L s.heap m) (N : News h₀ L s.heap muts) (NR : Has s.heap rest) (sep : ∀ p ∈ rest, p.1 ∉ muts.map (·.1)) (hlim : h₀.NoLimit) (hA : A.frames = some (env :: outer)) (hf : env.frame = some L) (hke : env.scope.kind = .function)
    (hloc : ∀ y ∈ binds, scope.names.lookup y.1 = some .local)
    (h : ∀ g L' h₁, Fr h₀ L g m → Fr g L' h₁ (fun y => binds.reverse.lookup y) → News g L' h₁ muts → Below A base (env :: outer) g → h₀.StaysIn g → (∀ p ∈ rest, g.get? p.1 = some p.2) →
      wpAny (model prog w) (A.deeper (envX qual scope L' f cdv cl)) (execs body (envX qual scope L' f cdv cl))
        (fun fl s' => LeaveK h₀ L m g (RestR rest R) (match fl with | .ret v => v | _ => .none) s')
        (fun e s' => wpAny (model prog w) (A.deeper (envX qual scope L' f cdv cl)) (leaving (envX qual scope L' f cdv cl) e) (fun _ s'' => R (.error e) s'') (fun e' s'' => R (.error e') s'') s')
        { s with heap := h₁, toks := s.toks + binds.length })
    (hcell : ∀ x ∈ scope.names, x.2 ≠ .cell) (hk : scope.kind = .function) :
    wpAny (model prog w) A.in1 (newFunctionEnv scope mainGlobals cl binds (qual ++ ".<locals>.") (some f) cdv none builtinsNs) (fun env' s₂ => s₂.heap.NoLimit ∧ codeAny (model prog w) A (.func body env') R s₂) E s := by
  obtain ⟨FG, BG, st, lv⟩ := groundX (R := RestR rest R) B F N hA hf hke
  have G := rest_in (muts := muts) NR sep
  refine wpAny_newFunctionEnv hcell hloc (fun h₁ hns hsb => ⟨(hlim.keeps F.keep).fresh _ hsb, codeAny_func ?_⟩) hk
  have hk₁ : ∀ b o, s.heap.get? b = some o → h₁.get? b = some o := fun b o e => hsb.extBut b o (Nat.ne_of_lt (Heap.lt_size e)) (Heap.get?_push_of_some _ e)
  show wpAny (model prog w) (A.deeper (envX qual scope s.heap.objs.size f cdv cl)) (execs body (envX qual scope s.heap.objs.size f cdv cl)) _ _ _
  exact wpAny_mono (h _ s.heap.objs.size h₁ FG ⟨hns, fun b o e => hk₁ b o (of_hideAll _ e), Nat.le_of_eq (hideAll_size _ _)⟩
    (fun p hp => ⟨hk₁ _ _ (N p hp).1, Nat.ne_of_lt (Heap.lt_size (N p hp).1), hideAll_none _ (List.mem_map_of_mem hp)⟩) BG st G) (fun fl s' hl => lv _ _ hl (rest_out G hl)) fun _ _ y => y

theorem kp_moreS {env : Env} {outer : List Env} {R : Result → Shared → Prop} {name qual : Str} {params : Arguments} {body : List Stmt} {scope : Scope} {dV kV doc pm cdv ct oc : Value} {an od : Option Addr} {osl : Array (Option Value)} {f : Addr} {args : Args} {nm : Str} {ex front : List (Str × Value)} {DD : List (PyData × PyData)} {g₁ : Addr → Sem (List (Str × Value))}
    (B : Below A₀ base outer h₀) (F : Fr h₀ L s.heap m) (X₀ : K.In h₀) (N : News h₀ L s.heap muts) (NR : Has s.heap rest) (hrL : ∀ p ∈ rest, p.1 ≠ L) (sep : ∀ p ∈ rest, p.1 ∉ muts.map (·.1)) (T : Top p loose mean mg mb h₀) (hA : A.frames = some (env :: outer)) (hf : env.frame = some L) (hke : env.scope.kind = .function)
    (ho : K.lookup f = some ⟨oc, od, .func (fnOf name qual params body scope dV kV doc pm an cdv ct), osl⟩) (hcd : codeIn K cdv qual = true) (hroom : A.depth < recursionLimit)
    (hx : args.kw.filter (fun x => !ownKw params x.1) = ex) (hnm : params.kwarg.map (·.arg) = some nm) (hn : kwDistinct ex = true) (hD : FlatPairs PyData.str ex DD)
    (_hfr : peek K ⟨prog, w.params⟩ (bindArgs (fnCut (fnOf name qual params body scope dV kV doc pm an cdv ct)) (argsCut params args)) = some front)
    (hp : peekA K ⟨prog, w.params⟩ (bindArgs (fnOf name qual params body scope dV kV doc pm an cdv ct) args) = some (dictOf [] 0, g₁))
    (hk₁ : ∀ D, g₁ D = (forIn ex PUnit.unit (fun x _ => (nsSet D x.1 x.2 >>= fun _ => pure (ForInStep.yield PUnit.unit))) >>= fun _ => pure (front ++ [(nm, Value.ref D)])))
    (hloc : ∀ D, ∀ y ∈ front ++ [(nm, Value.ref D)], scope.names.lookup y.1 = some .local)
    (h : ∀ D o g L' h₁ tk, (∀ p ∈ muts, p.1 < D) → (D == sysModules) = false → o.IsDictOf (strKind prog w) ex → FlatPairs PyData.str ex DD → Fr h₀ L g m → Fr g L' h₁ (fun y => (front ++ [(nm, Value.ref D)]).reverse.lookup y) → News g L' h₁ ((D, o) :: muts) → Below A base (env :: outer) g → K.In g → Top p loose mean mg mb g → (∀ p ∈ rest, g.get? p.1 = some p.2) →
      wpAny (model prog w) (A.deeper (envOf qual scope L' f cdv)) (execs body (envOf qual scope L' f cdv))
        (fun fl s' => LeaveK h₀ L m g (RestR rest R) (match fl with | .ret v => v | _ => .none) s')
        (fun e s' => wpAny (model prog w) (A.deeper (envOf qual scope L' f cdv)) (leaving (envOf qual scope L' f cdv) e) (fun _ s'' => R (.error e) s'') (fun e' s'' => R (.error e') s'') s')
        { s with heap := h₁, toks := tk })
    (hco : scope.isCoroutine = false) (hgen : scope.isGenerator = false) (hk : scope.kind = .function)
    (hcell : ∀ x ∈ scope.names, x.2 ≠ .cell) : codeAny (model prog w) A (.call (.ref f) args) R s := by
  have _ := hx
  have _ := hnm
  have hn' := kwDistinct_nodup hn
  refine codeAny_call_function (fd := fnOf name qual params body scope dV kV doc pm an cdv ct) (body := body) hroom ((X₀.keeps F.keep) _ _ ho) rfl hco hgen rfl (codeRec_of (X₀.keeps F.keep) hcd) ?_
  have NA : News h₀ L s.heap (muts ++ rest.filter fun p => (h₀.get? p.1).isNone) := fun p hp => (List.mem_append.mp hp).elim (N p) fun hp => by
    obtain ⟨h1, h2⟩ := List.mem_filter.mp hp
    exact ⟨NR p h1, hrL p h1, by simpa using h2⟩
  refine wp_of_peekA (o := dictOf [] 0) F NA (X₀.keeps F.keep) rfl _ g₁ hp fun h' F' N' l => ?_
  rw [hk₁]
  refine wpAny_bind (kp_fill ex { s with heap := h' } [] 0 F' N' (fun p hp => Nat.ne_of_lt (l p hp)) (fun _ he => nomatch he) (fun _ he => nomatch he) hn' fun h'' F'' N'' => wpAny_pure ?_)
  have NR'' : Has h'' rest := fun p hp => by
    cases e : h₀.get? p.1 with
    | some o =>
      have e1 := F.keep _ _ e
      rw [NR p hp] at e1
      rw [F''.keep _ _ e, e1]
    | none => exact (N'' p (.tail _ (List.mem_append_right _ (List.mem_filter.mpr ⟨hp, by rw [e]; rfl⟩)))).1
  exact kp_frameS (muts := (s.heap.objs.size, _) :: muts) (rest := rest) (cl := []) (s := { s with heap := h'', toks := s.toks + ex.length }) B F'' (fun p hp => N'' p (by rcases List.mem_cons.mp hp with rfl | hp; exact .head _; exact .tail _ (List.mem_append_left _ hp))) NR''
    (fun p hp q => by rcases List.mem_cons.mp (show p.1 ∈ s.heap.objs.size :: muts.map (·.1) from q) with q | q; exact Nat.ne_of_lt (Heap.lt_size (NR p hp)) q; exact sep p hp q) T.nolimit hA hf hke (hloc _)
    (fun g L' h₁ FG FL NG BG st G => h _ _ g L' h₁ _ (fun p hp => l p (List.mem_append_left _ hp)) (F.notModules (modules_low T.nolimit)) (kp_isDict s.toks (0 + ex.length) hn') hD FG FL NG BG (X₀.keeps st) (T.keeps st) G) hcell hk
end

/-- a def that changes the written part muts of the ledger and leaves the rest as it is -/
def FnM (w : World) (n : Nat) (f : Addr) (vs : List Value) (kw : List (Str × Value)) (muts rest : Led) (P : Value → Led → Prop) : Prop :=
  ∀ (mean : ExcName → Option Value) (mg mb : Str → Option Value) (dp un : Nat) (gd : Option (List Code)) (cn : Str) (cs : Scope) (a : Addr) (ccd : Value) (cl : List (Str × Addr)) (outer : List Env) (A₀ : Around) (base h₀ : Heap) (L : Addr) (m : Str → Option Value) (s : Shared) (Q E : Value → Shared → Prop),
    Below A₀ base outer h₀ → Fr h₀ L s.heap m → (hd.heap_39 w.params).In h₀ → News h₀ L s.heap muts → Has s.heap rest → (∀ p ∈ rest, p.1 ≠ L) → (∀ p ∈ rest, p.1 ∉ muts.map (·.1)) → Top hd.view_39 LS mean mg mb h₀ → cs.kind = .function →
    dp + n < recursionLimit → un + 8 * n < cLine →
    (∀ r muts' h' tk', Fr h₀ L h' m → News h₀ L h' muts' → Has h' rest → P r muts' → Q r { s with heap := h', toks := tk' }) →
    wpAny (model PG w) (ktrTop dp un gd cn cs L a ccd cl outer) (call (.ref f) vs kw) Q E s
/-- where the frozen part lies in the ledger -/
theorem FnM.use {w : World} {n : Nat} {f : Addr} {vs : List Value} {kw : List (Str × Value)} {muts rest news : Led} {P : Value → Led → Prop} (C : FnM w n f vs kw muts rest P)
    {mean : ExcName → Option Value} {mg mb : Str → Option Value} {dp un : Nat} {gd : Option (List Code)} {cn : Str} {cs : Scope} {a : Addr} {ccd : Value} {cl : List (Str × Addr)} {outer : List Env} {A₀ : Around} {base h₀ : Heap} {L : Addr} {m : Str → Option Value} {s : Shared} {Q E : Value → Shared → Prop}
    (B : Below A₀ base outer h₀) (F : Fr h₀ L s.heap m) (X : (hd.heap_39 w.params).In h₀) (N : News h₀ L s.heap news) (T : Top hd.view_39 LS mean mg mb h₀) (hk : cs.kind = .function)
    (hdp : dp + n < recursionLimit) (hun : un + 8 * n < cLine) (h1 : ∀ p ∈ muts, p ∈ news) (h2 : ∀ p ∈ rest, p ∈ news) (sep : ∀ p ∈ rest, p.1 ∉ muts.map (·.1))
    (ret : ∀ r muts' h' tk', Fr h₀ L h' m → News h₀ L h' (muts' ++ rest) → P r muts' → Q r { s with heap := h', toks := tk' }) :
    wpAny (model PG w) (ktrTop dp un gd cn cs L a ccd cl outer) (call (.ref f) vs kw) Q E s :=
  C _ _ _ _ _ _ _ _ _ _ _ _ _ _ _ _ _ _ _ _ B F X (fun p hp => N p (h1 p hp)) (fun p hp => (N p (h2 p hp)).1) (fun p hp => (N p (h2 p hp)).2.1) sep T hk hdp hun fun r muts' h' tk' F' N' NR' hP => ret r muts' h' tk' F' (fun p hp => (List.mem_append.mp hp).elim (N' p) fun hp => ⟨NR' p hp, (N p (h2 p hp)).2⟩) hP
/-- where the frozen part lies in the base -/
theorem FnM.useB {w : World} {n : Nat} {f : Addr} {vs : List Value} {kw : List (Str × Value)} {muts rest : Led} {P : Value → Led → Prop} (C : FnM w n f vs kw muts rest P)
    {mean : ExcName → Option Value} {mg mb : Str → Option Value} {dp un : Nat} {gd : Option (List Code)} {cn : Str} {cs : Scope} {a : Addr} {ccd : Value} {cl : List (Str × Addr)} {outer : List Env} {A₀ : Around} {base h₀ : Heap} {L : Addr} {m : Str → Option Value} {s : Shared} {Q E : Value → Shared → Prop}
    (B : Below A₀ base outer h₀) (F : Fr h₀ L s.heap m) (X : (hd.heap_39 w.params).In h₀) (N : News h₀ L s.heap muts) (T : Top hd.view_39 LS mean mg mb h₀) (hk : cs.kind = .function)
    (hdp : dp + n < recursionLimit) (hun : un + 8 * n < cLine) (G : ∀ p ∈ rest, h₀.get? p.1 = some p.2)
    (ret : ∀ r muts' h' tk', Fr h₀ L h' m → News h₀ L h' muts' → P r muts' → Q r { s with heap := h', toks := tk' }) :
    wpAny (model PG w) (ktrTop dp un gd cn cs L a ccd cl outer) (call (.ref f) vs kw) Q E s :=
  C _ _ _ _ _ _ _ _ _ _ _ _ _ _ _ _ _ _ _ _ B F X N (fun p hp => F.keep _ _ (G p hp)) (fun p hp => Nat.ne_of_lt (Nat.lt_of_lt_of_le (Heap.lt_size (G p hp)) F.above))
    (fun p hp q => by obtain ⟨x, hx, e⟩ := List.mem_map.mp q; have := (N x hx).2.2; rw [e, G p hp] at this; cases this) T hk hdp hun fun r muts' h' tk' F' N' _ hP => ret r muts' h' tk' F' N' hP

/-- a def that changes nothing that stands -/
def FnP (w : World) (n : Nat) (f : Addr) (vs : List Value) (kw : List (Str × Value)) (rest : Led) (P : Value → Heap → Prop) : Prop :=
  ∀ (mean : ExcName → Option Value) (mg mb : Str → Option Value) (dp un : Nat) (gd : Option (List Code)) (cn : Str) (cs : Scope) (a : Addr) (ccd : Value) (cl : List (Str × Addr)) (outer : List Env) (A₀ : Around) (base h₀ : Heap) (L : Addr) (m : Str → Option Value) (s : Shared) (Q E : Value → Shared → Prop),
    Below A₀ base outer h₀ → Fr h₀ L s.heap m → (hd.heap_39 w.params).In h₀ → (∀ p ∈ rest, s.heap.get? p.1 = some p.2) → Top hd.view_39 LS mean mg mb h₀ → cs.kind = .function →
    dp + n < recursionLimit → un + 8 * n < cLine →
    (∀ r h' tk', KeepA s.heap h' → P r h' → Q r { s with heap := h', toks := tk' }) →
    wpAny (model PG w) (ktrTop dp un gd cn cs L a ccd cl outer) (call (.ref f) vs kw) Q E s
theorem fr_keep {h₀ h h' : Heap} {L : Addr} {m : Str → Option Value} (F : Fr h₀ L h m) (k : KeepA h h') : Fr h₀ L h' m := ⟨F.ns.keeps k, fun b o e => k _ _ (F.keep b o e), F.above⟩
theorem news_keep {h₀ h h' : Heap} {L : Addr} {news : Led} (N : News h₀ L h news) (k : KeepA h h') : News h₀ L h' news := fun p hp => ⟨k _ _ (N p hp).1, (N p hp).2⟩
theorem FnP.use {w : World} {n : Nat} {f : Addr} {vs : List Value} {kw : List (Str × Value)} {rest news : Led} {P : Value → Heap → Prop} (C : FnP w n f vs kw rest P)
    {mean : ExcName → Option Value} {mg mb : Str → Option Value} {dp un : Nat} {gd : Option (List Code)} {cn : Str} {cs : Scope} {a : Addr} {ccd : Value} {cl : List (Str × Addr)} {outer : List Env} {A₀ : Around} {base h₀ : Heap} {L : Addr} {m : Str → Option Value} {s : Shared} {Q E : Value → Shared → Prop}
    (B : Below A₀ base outer h₀) (F : Fr h₀ L s.heap m) (X : (hd.heap_39 w.params).In h₀) (N : News h₀ L s.heap news) (T : Top hd.view_39 LS mean mg mb h₀) (hk : cs.kind = .function)
    (hdp : dp + n < recursionLimit) (hun : un + 8 * n < cLine) (hr : ∀ p ∈ rest, s.heap.get? p.1 = some p.2)
    (ret : ∀ r h' tk', Fr h₀ L h' m → News h₀ L h' news → KeepA s.heap h' → P r h' → Q r { s with heap := h', toks := tk' }) :
    wpAny (model PG w) (ktrTop dp un gd cn cs L a ccd cl outer) (call (.ref f) vs kw) Q E s :=
  C _ _ _ _ _ _ _ _ _ _ _ _ _ _ _ _ _ _ _ _ B F X hr T hk hdp hun fun r h' tk' k hP => ret r h' tk' (fr_keep F k) (news_keep N k) k hP
end Mine
end
section Shared1
namespace Mine
local macro_rules | `(tactic| walk_at $s:str) => `(tactic| k_extra $s)
local macro_rules | `(tactic| omega) => `(tactic| k_extra "om")
theorem lines_om : True := by
  (k_with "om" => (with_reducible first | assumption | exact Nat.ne_of_lt ‹_› | exact Nat.ne_of_gt ‹_› | exact Ne.symm ‹_› | exact Mine.o_a ‹_› (by decide) | exact Mine.o_b ‹_› (by decide) | exact Mine.o_c ‹_› | exact Mine.o_le (n := 100) ‹_› (by decide) | exact Mine.o_le ‹_› (by decide) | exact Mine.o_l ‹_› (by decide) | exact Mine.o_1 (n := 100) ‹_› (by decide) | exact Mine.o_2 (n := 100) ‹_› (by decide) | exact Mine.o_lt (n := 100) ‹_› (by decide) | exact Mine.o_lt ‹_› (by decide) | exact Mine.o_ll ‹_› (by decide) | exact Mine.o_s ‹_› | exact Mine.o_n _ | exact Mine.o_0 _ | exact Mine.o_i ‹_› (by decide) | exact Mine.o_m ‹_› (by decide) | exact Mine.o_j (n := 100) ‹_› ‹_› (by decide) | exact Mine.o_k ‹_› ‹_› (by decide) | exact Mine.o_e (n := 100) ‹_› ‹_› (by decide) | exact Nat.ne_of_lt (by k_extra "cj") | exact Nat.ne_of_gt (by k_extra "cj") | exact Ne.symm (by k_extra "cj") | k_extra "cj" | fail))
  (k_with "cj" => (first | exact And.left ‹_› | exact Mine.c_2 ‹_› | exact Mine.c_3 ‹_› | exact Mine.c_4 ‹_› | exact Mine.c_5 ‹_› | exact Mine.c_6 ‹_› | exact Mine.c_7 ‹_› | exact Mine.c_8 ‹_› | exact Mine.c_9 ‹_› | exact And.right ‹_› | exact Mine.d_3 ‹_› | exact Mine.d_4 ‹_› | exact Mine.d_5 ‹_› | exact Mine.d_6 ‹_› | exact Mine.d_7 ‹_› | exact Mine.d_8 ‹_› | exact Mine.d_9 ‹_› | fail))
  trivial
section
open PySem PySem.W PyProof.Rows PySem.Spec PySem.MeetsSeq3
open PySem.AutoSeq1 (wpAny_loadPart')
set_option maxRecDepth 100000
/-- a list object as the call makes it -/
abbrev lst (vs : Array Value) (n : Nat) : Obj := { cls := .type "list", dict := none, data := .seq vs n, slots := #[] }

/-- the loop of list.__lt__ where the two items here are ints that differ -/
theorem lt_loop_ne (l b : Addr) (items items2 : Array Value) (n n2 : Nat) (i : Nat) (k1 k2 : Int) (u1 u2 : Tok) (h1 : items[i]? = some (.int k1 u1)) (h2 : items2[i]? = some (.int k2 u2)) (hk : (k1 == k2) = false) :
    Meets (Builtin.«list.__eq__.loop» ⟨[.ref l, .ref b, rawInt i, rawInt 0], []⟩)
      (fun _ R s => s.heap.get? l = some (lst items n) ∧ s.heap.get? b = some (lst items2 n2) ∧ R (.ok (.ret (.bool (decide (k1 < k2))))) s) := by
  intro prog w A R s h
  obtain ⟨hp, g, d, tk, os⟩ := s; obtain ⟨hl, hb, h⟩ := h
  have hi1 : items[((i : Nat) : Int).toNat]? = some (.int k1 u1) := by simpa using h1
  have hi2 : items2[((i : Nat) : Int).toNat]? = some (.int k2 u2) := by simpa using h2
  wp_walk using wpAny_loadPart' hl, wpAny_loadPart' hb
  rw [hi1, hi2]
  refine wpAny_bind (wpAny_eqBool_int ?_)
  rw [hk]
  wp_walk using wpAny_loadPart' hl, wpAny_loadPart' hb
  rw [hi1, hi2]
  refine wpAny_bind (wpAny_lt_int ?_)
  exact wpAny_pure h
/-- .. or are equal: the next place tells -/
theorem lt_loop_eq (l b : Addr) (items items2 : Array Value) (n n2 : Nat) (i : Nat) (k1 k2 : Int) (u1 u2 : Tok) (c : Bool) (h1 : items[i]? = some (.int k1 u1)) (h2 : items2[i]? = some (.int k2 u2)) (hk : (k1 == k2) = true)
    (ih : Meets (Builtin.«list.__eq__.loop» ⟨[.ref l, .ref b, rawInt ((i + 1 : Nat) : Int), rawInt 0], []⟩)
      (fun _ R s => s.heap.get? l = some (lst items n) ∧ s.heap.get? b = some (lst items2 n2) ∧ R (.ok (.ret (.bool c))) s)) :
    Meets (Builtin.«list.__eq__.loop» ⟨[.ref l, .ref b, rawInt i, rawInt 0], []⟩)
      (fun _ R s => s.heap.get? l = some (lst items n) ∧ s.heap.get? b = some (lst items2 n2) ∧ R (.ok (.ret (.bool c))) s) := by
  intro prog w A R s h
  obtain ⟨hp, g, d, tk, os⟩ := s; obtain ⟨hl, hb, h⟩ := h
  have hi1 : items[((i : Nat) : Int).toNat]? = some (.int k1 u1) := by simpa using h1
  have hi2 : items2[((i : Nat) : Int).toNat]? = some (.int k2 u2) := by simpa using h2
  have hc : ((i : Int) + 1) = ((i + 1 : Nat) : Int) := by push_cast; rfl
  wp_walk using wpAny_loadPart' hl, wpAny_loadPart' hb
  rw [hi1, hi2]
  refine wpAny_bind (wpAny_eqBool_int ?_)
  rw [hk]
  wp_walk
  rw [hc]
  exact ⟨plainId_quiet plain_eq_loop _, codeAny_builtin entry_eq_loop (by
    rw [Around.under_plainId plain_eq_loop _]
    exact ih prog w A R _ ⟨hl, hb, h⟩)⟩
/-- the order of two wishes: the worth below nought, then the place -/
def wlt (w1 k1 w2 k2 : Int) : Bool := if w1 == w2 then decide (k1 < k2) else decide (w1 < w2)
theorem list_lt (l b : Addr) (w1 w2 k1 k2 : Int) (t1 t2 u1 u2 : Tok) (x y : Value) (n n2 : Nat) (hk : k1 ≠ k2) :
    Meets (Builtin.«list.__lt__» ⟨[.ref l, .ref b], []⟩)
      (fun _ R s => s.heap.get? l = some (lst #[.int w1 t1, .int k1 u1, x] n) ∧ s.heap.get? b = some (lst #[.int w2 t2, .int k2 u2, y] n2) ∧ R (.ok (.ret (.bool (wlt w1 k1 w2 k2)))) s) := by
  intro prog w A R s h
  obtain ⟨hp, g, d, tk, os⟩ := s; obtain ⟨hl, hb, h⟩ := h
  have f3 := AutoSeq1.sub_list_list
  wp_walk using wpAny_loadPart' hl, wpAny_loadPart' hb
  refine ⟨plainId_quiet plain_eq_loop _, codeAny_builtin entry_eq_loop ?_⟩
  rw [Around.under_plainId plain_eq_loop _]
  unfold wlt at h
  cases e : (w1 == w2) with
  | true =>
    rw [e] at h
    exact lt_loop_eq l b _ _ n n2 0 w1 w2 t1 t2 _ rfl rfl e (lt_loop_ne l b _ _ n n2 1 k1 k2 u1 u2 rfl rfl (by simpa using hk)) prog w A R _ ⟨hl, hb, h⟩
  | false =>
    rw [e] at h
    exact lt_loop_ne l b _ _ n n2 0 w1 w2 t1 t2 rfl rfl e prog w A R _ ⟨hl, hb, h⟩
theorem cmp_lt {prog : Program} {w : World} {A : Around} {E : Value → Shared → Prop} {s : Shared} {l b : Addr} {w1 w2 k1 k2 : Int} {t1 t2 u1 u2 : Tok} {x y : Value} {n n2 : Nat} {Q : Value → Shared → Prop}
    (hl : s.heap.get? l = some (lst #[.int w1 t1, .int k1 u1, x] n)) (hb : s.heap.get? b = some (lst #[.int w2 t2, .int k2 u2, y] n2)) (hk : k1 ≠ k2) (hu : A.units < cLine) (h : Q (.bool (wlt w1 k1 w2 k2)) s) :
    wpAny (model prog w) A (compareOp .Lt (.ref l) (.ref b)) Q E s := by
  show wpAny _ _ (richCompare .Lt (.ref l) (.ref b)) Q E s
  exact richCompare_meets_room (op := .Lt) (⟨_, hl, rfl⟩ : s.TypeIs (.ref l) "list") (⟨_, hb, rfl⟩ : s.TypeIs (.ref b) "list") F.slot_list_lt F.entry_list_lt (F.args_list_lt_2 _ _) (list_lt l b w1 w2 k1 k2 t1 t2 u1 u2 x y n n2 hk) ⟨hl, hb, by simp, h⟩ hu
end
section
open PySem PySem.W PySem.Calls PyProof.Rows PySem.Spec
set_option maxRecDepth 100000
section
variable {prog : Program} {w : World} {A : Around} {E : Value → Shared → Prop} {s : Shared} {h₀ : Heap} {L D : Addr} {m : Str → Option Value} {news news' : List (Addr × Obj)} {vs : Array Value} {n : Nat} {k : Int} {t u : Tok} {v : Value}
theorem item_led {value slice : PySem.Expr} {Q : Value → Shared → Prop} (N : News h₀ L s.heap news) (hm : (D, listOf vs n) ∈ news) (h0 : 0 ≤ k) (hfit : k < 2 ^ 63) (hx : vs[k.toNat]? = some v) (h : Q v s)
    (hs : subscripted slice false (.ref D) (.int k u) = operate [.ref D, .int k u] (getItem (.ref D) (.int k u)) := by with_unfolding_all rfl) :
    wpAny (model prog w) A (subscriptTail value slice (.ref D) (.int k u)) Q E s :=
  have hl : s.heap.IsList D vs := PySem.IsL.isList (n := n) (N _ hm).1
  tail_any hl.typeIs slot_list_getitem.lookup (wpAny_getItem_list hl h0 hfit hx h) hs
theorem item_base {value slice : PySem.Expr} {Q : Value → Shared → Prop} (F : Fr h₀ L s.heap m) (hg : h₀.get? D = some (lst vs n)) (h0 : 0 ≤ k) (hfit : k < 2 ^ 63) (hx : vs[k.toNat]? = some v) (h : Q v s)
    (hs : subscripted slice false (.ref D) (.int k u) = operate [.ref D, .int k u] (getItem (.ref D) (.int k u)) := by with_unfolding_all rfl) :
    wpAny (model prog w) A (subscriptTail value slice (.ref D) (.int k u)) Q E s :=
  have hl : s.heap.IsList D vs := PySem.IsL.isList (n := n) (F.keep _ _ hg)
  tail_any hl.typeIs slot_list_getitem.lookup (wpAny_getItem_list hl h0 hfit hx h) hs
theorem len_led {Q : Value → Shared → Prop} (N : News h₀ L s.heap news) (hm : (D, listOf vs n) ∈ news) (hfit : (vs.size : Int) < 2 ^ 63) (h : Q (.int vs.size (s.toks + 1)) { s with toks := s.toks + 1 + 1 }) :
    wpAny (model prog w) A (call (.builtin "len") [.ref D]) Q E s := call_len_list (PySem.IsL.isList (n := n) (N _ hm).1) hfit h
theorem len_base {Q : Value → Shared → Prop} (F : Fr h₀ L s.heap m) (hg : h₀.get? D = some (lst vs n)) (hfit : (vs.size : Int) < 2 ^ 63) (h : Q (.int vs.size (s.toks + 1)) { s with toks := s.toks + 1 + 1 }) :
    wpAny (model prog w) A (call (.builtin "len") [.ref D]) Q E s := call_len_list (PySem.IsL.isList (n := n) (F.keep _ _ hg)) hfit h
theorem set_led {Q : Unit → Shared → Prop} (F : Fr h₀ L s.heap m) (N : News h₀ L s.heap news) (U : Upd D (listOf vs n) (listOf (vs.setIfInBounds k.toNat v) n) news news') (h0 : 0 ≤ k) (h1 : k < vs.size) (hfit : k < 2 ^ 63)
    (h : ∀ h', Fr h₀ L h' m → News h₀ L h' news' → Q () { s with heap := h' }) :
    wpAny (model prog w) A (setItem (.ref D) (.int k t) v) Q E s := by
  obtain ⟨pre, post, rfl, rfl, a, b⟩ := U.split
  have z := N (D, listOf vs n) (List.mem_append.mpr (.inr (.head _)))
  exact ki_setAt z.1 h0 hfit (by omega) (h _ (F.change (Heap.SameBut.update ..) z.2.1 z.2.2) (ki_turn _ N a b rfl (by simp)))
end

theorem hideQ {prog : Program} {w : World} {A : Around} {α : Type} {x : Sem α} {s : Shared} {Q₀ : α → Shared → Prop} {E : Value → Shared → Prop} (h : ∀ Q, (∀ v s₁, Q₀ v s₁ → Q v s₁) → wpAny (model prog w) A x Q E s) : wpAny (model prog w) A x Q₀ E s := h Q₀ fun _ _ x => x
inductive TurnE (h₀ : Heap) (L : Addr) (s : Shared) (J : Nat → (Str → Option Value) → List (Addr × Obj) → Prop) (n : Nat) (s₃ : Shared) : Prop
  | mk (h' : Heap) (tk : Nat) (m₂ : Str → Option Value) (news₂ : List (Addr × Obj)) (n' : Nat) (e : s₃ = { s with heap := h', toks := tk }) (F : Fr h₀ L h' m₂) (N : News h₀ L h' news₂) (hn : n' < n) (j : J n' m₂ news₂)
/-- the end of a turn of a while with break and continue -/
def TurnB (h₀ : Heap) (L : Addr) (s : Shared) (Q : Flow → Shared → Prop) (J : Nat → (Str → Option Value) → List (Addr × Obj) → Prop) (n : Nat) (f : Flow) (s₃ : Shared) : Prop := match f with
  | .next | .cont => TurnE h₀ L s J n s₃
  | .brk => Q .next s₃
  | .ret v => Q (.ret v) s₃
section
variable {prog : Program} {w : World} {A : Around} {E : Value → Shared → Prop} {Q : Flow → Shared → Prop} {s : Shared} {env : Env} {h₀ : Heap} {L : Addr}
theorem While_B {test : Expr} {body : List Stmt} {pos : Pos} {m : Str → Option Value} {news : List (Addr × Obj)} (J : Nat → (Str → Option Value) → List (Addr × Obj) → Prop) {n₀ : Nat}
    (F : Fr h₀ L s.heap m) (N : News h₀ L s.heap news) (hJ : J n₀ m news)
    (turn : ∀ n m₁ news₁ h₁ tk₁, Fr h₀ L h₁ m₁ → News h₀ L h₁ news₁ → J n m₁ news₁ →
      wpAny (model prog w) A (isTrue test env (eval test env)) (fun b s₂ =>
        if b = true then wpAny (model prog w) A (execs body env) (TurnB h₀ L s Q J n) E s₂ else Q .next s₂) E { s with heap := h₁, toks := tk₁ })
    (hE : PassesOwn (model prog w) A env E) :
    wpAny (model prog w) A (exec (.While test body [] pos) env) Q E s := by
  refine wpAny_While (codeAny_whileLoop (fun n s' => ∃ h₁ tk₁ m₁ news₁, s' = { s with heap := h₁, toks := tk₁ } ∧ Fr h₀ L h₁ m₁ ∧ News h₀ L h₁ news₁ ∧ J n m₁ news₁) ?_ n₀ ⟨s.heap, s.toks, m, news, rfl, F, N, hJ⟩)
  rintro n s' ⟨h₁, tk₁, m₁, news₁, rfl, F₁, N₁, J₁⟩
  refine wpAny_mono (turn n m₁ news₁ h₁ tk₁ F₁ N₁ J₁) (fun b s₂ h₂ => ?_) hE
  cases b with
  | false =>
    simp only [Bool.false_eq_true, if_false] at h₂ ⊢
    exact wpAny_execs_nil h₂
  | true =>
    simp only [if_true] at h₂ ⊢
    refine wpAny_mono h₂ (fun f s₃ h₃ => ?_) hE
    cases f with
    | next =>
      obtain ⟨h', tk, m₂, news₂, n', rfl, F₂, N₂, hn, J₂⟩ := h₃
      exact ⟨n', hn, h', tk, m₂, news₂, rfl, F₂, N₂, J₂⟩
    | cont =>
      obtain ⟨h', tk, m₂, news₂, n', rfl, F₂, N₂, hn, J₂⟩ := h₃
      exact ⟨n', hn, h', tk, m₂, news₂, rfl, F₂, N₂, J₂⟩
    | brk => exact h₃
    | ret v => exact h₃
end
end
section
open PySem PySem.W PyProof.Rows PySem.Spec
theorem kf_h1 : (PySem.Challenge.rw_ny0248_01, hd.heap_39) = (PySem.Challenge.rw_ny0248_01, hd.heap_39) := by k_fill; rfl
theorem lines_H1 : True := by
  k_with_none
  (k_with "om" => (with_reducible first | assumption | exact Nat.ne_of_lt ‹_› | exact Nat.ne_of_gt ‹_› | exact Ne.symm ‹_› | exact Mine.o_a ‹_› (by decide) | exact Mine.o_b ‹_› (by decide) | exact Mine.o_c ‹_› | exact Mine.o_le (n := 100) ‹_› (by decide) | exact Mine.o_le ‹_› (by decide) | exact Mine.o_l ‹_› (by decide) | exact Mine.o_1 (n := 100) ‹_› (by decide) | exact Mine.o_2 (n := 100) ‹_› (by decide) | exact Mine.o_lt (n := 100) ‹_› (by decide) | exact Mine.o_lt ‹_› (by decide) | exact Mine.o_ll ‹_› (by decide) | exact Mine.o_s ‹_› | exact Mine.o_n _ | exact Mine.o_0 _ | exact Mine.o_i ‹_› (by decide) | exact Mine.o_m ‹_› (by decide) | exact Mine.o_j (n := 100) ‹_› ‹_› (by decide) | exact Mine.o_k ‹_› ‹_› (by decide) | exact Mine.o_e (n := 100) ‹_› ‹_› (by decide) | exact Nat.ne_of_lt (by k_extra "cj") | exact Nat.ne_of_gt (by k_extra "cj") | exact Ne.symm (by k_extra "cj") | k_extra "cj" | fail))
  (k_with "cj" => (first | exact And.left ‹_› | exact Mine.c_2 ‹_› | exact Mine.c_3 ‹_› | exact Mine.c_4 ‹_› | exact Mine.c_5 ‹_› | exact Mine.c_6 ‹_› | exact Mine.c_7 ‹_› | exact Mine.c_8 ‹_› | exact Mine.c_9 ‹_› | exact And.right ‹_› | exact Mine.d_3 ‹_› | exact Mine.d_4 ‹_› | exact Mine.d_5 ‹_› | exact Mine.d_6 ‹_› | exact Mine.d_7 ‹_› | exact Mine.d_8 ‹_› | exact Mine.d_9 ‹_› | fail))
  (k_with "fn ctx" => (((case k1 => k_asm); (case k2 => k_asm); (case k3 => k_asm); (case k4 => k_asm); (case k5 => k_asm); (case kK => first | exact rfl | assumption); (case kd => ktr_room); (case ku => ktr_units))))
  (k_with "eval Name" => ((k_here; k_dflt (refine' ld ?k1 ?k2 ?_; (case k1 => k_asm); (case k2 => assumption); k_whole))))
  (k_with "loadName" => ((k_here; k_dflt (refine' ldn ?k1 ?k2 ?_; (case k1 => k_asm); (case k2 => first | exact rfl | assumption); k_whole))))
  (k_with "subscriptTail Name Name ref int" => ((k_here; k_dflt (refine' item_led ?k1 ?k2 ?k3 ?k4 ?k5 ?_ ?k7; (case k7 => with_unfolding_all rfl); (case k1 => k_asm); (case k2 => k_mem); (case k5 => with_reducible assumption); (case k3 => first | with_reducible assumption | omega); (case k4 => first | with_reducible assumption | omega); k_whole))))
  (k_with "setItem ref int" => ((k_here; k_dflt (refine' set_led ?k1 ?k2 ?k3 ?k4 ?k5 ?k6 ?_; (case k1 => k_asm); (case k2 => k_asm); (case k3 => k_upd); (case k4 => first | with_reducible assumption | omega); (case k5 => first | with_reducible assumption | omega); (case k6 => first | with_reducible assumption | omega); k_whole); intro zqh' zqF' zqN'; (try dsimp only at zqN'); (try k_sweep))))
  (k_with "compareOp Lt ref" => ((k_here; k_dflt (refine' cmp_W ?k1 ?k2 ?k3 ?k4 ?k5 ?k6 ?_; (case k1 => k_asm); (case k2 => assumption); (case k3 => assumption); (case k4 => assumption); (case k5 => assumption); (case k6 => ktr_units); k_whole))))
  trivial

/-- a wish on the heap: where it lies, its worth below nought, its place, its kind -/
structure W where
  a : Addr
  w : Int
  k : Int
  s : Str
abbrev W.v (x : W) : Value := .ref x.a
def OkW (rest : Led) (x : W) : Prop := ∃ n t1 t2 t3, (x.a, lst #[.int x.w t1, .int x.k t2, .str x.s t3] n) ∈ rest
def vals (ws : List W) : Array Value := (ws.map W.v).toArray
def ltW (x y : W) : Bool := wlt x.w x.k y.w y.k
theorem vals_size (ws : List W) : (vals ws).size = ws.length := by simp [vals]
theorem vals_get {ws : List W} {i : Nat} {x : W} (h : ws[i]? = some x) : (vals ws)[i]? = some x.v := by simp [vals, h]
theorem vals_set (ws : List W) (i : Nat) (x : W) : (vals ws).setIfInBounds i x.v = vals (ws.set i x) := by
  apply Array.toList_inj.mp
  simp [vals, List.map_set]
/-- what _siftdown does -/
def sd (x : W) (ws : List W) (pos : Nat) : List W :=
  if _h : pos = 0 then ws.set 0 x
  else match ws[(pos - 1) / 2]? with
    | none => ws
    | some p => if ltW x p = true then sd x (ws.set pos p) ((pos - 1) / 2) else ws.set pos x
termination_by pos
decreasing_by omega
theorem sd_zero (x : W) (ws : List W) : sd x ws 0 = ws.set 0 x := by rw [sd]; simp
theorem sd_up {x p : W} {ws : List W} {pos : Nat} (h : pos ≠ 0) (hp : ws[(pos - 1) / 2]? = some p) (hl : ltW x p = true) : sd x ws pos = sd x (ws.set pos p) ((pos - 1) / 2) := by
  rw [sd]; simp [h, hp, hl]
theorem sd_end {x p : W} {ws : List W} {pos : Nat} (h : pos ≠ 0) (hp : ws[(pos - 1) / 2]? = some p) (hl : ltW x p = false) : sd x ws pos = ws.set pos x := by
  rw [sd]; simp [h, hp, hl]
theorem cmp_W {prog : Program} {w : World} {A : Around} {E : Value → Shared → Prop} {s : Shared} {rest : Led} {g : Heap} {L : Addr} {m : Str → Option Value} {x y : W} {Q : Value → Shared → Prop} (F : Fr g L s.heap m) (G : ∀ p ∈ rest, g.get? p.1 = some p.2)
    (hx : OkW rest x) (hy : OkW rest y) (hk : x.k ≠ y.k) (hu : A.units < cLine) (h : Q (.bool (ltW x y)) s) : wpAny (model prog w) A (compareOp .Lt (.ref x.a) (.ref y.a)) Q E s := by
  obtain ⟨n, t1, t2, t3, hx⟩ := hx
  obtain ⟨n', u1, u2, u3, hy⟩ := hy
  exact cmp_lt (F.keep _ _ (G _ hx)) (F.keep _ _ (G _ hy)) hk hu h
/-- between the turns of _siftdown's loop -/
inductive JD (hp : Addr) (rest : Led) (x : W) (out : List W) (n : Nat) (m : Str → Option Value) (news : Led) : Prop
  | mk (ws : List W) (e : Nat) (t0 t1 : Tok) (hn : news = [(hp, listOf (vals ws) e)]) (q1 : m (Str.ofString "heap") = some (.ref hp)) (q2 : m (Str.ofString "startpos") = some (.int 0 t0)) (q3 : m (Str.ofString "pos") = some (.int (n : Int) t1)) (q4 : m (Str.ofString "newitem") = some (.ref x.a))
    (b1 : n < ws.length) (b2 : ws.length < 2 ^ 20) (b3 : ∀ y ∈ ws, OkW rest y) (b4 : ∀ i y, i < n → ws[i]? = some y → x.k ≠ y.k) (b5 : sd x ws n = out)
theorem okSet {rest : Led} {ws : List W} {n i : Nat} {p : W} (b3 : ∀ y ∈ ws, OkW rest y) (h : ws[i]? = some p) : ∀ y ∈ ws.set n p, OkW rest y := by
  intro y hy
  rcases List.mem_or_eq_of_mem_set hy with hy | hy
  · exact b3 y hy
  · exact hy ▸ b3 _ (List.mem_of_getElem? h)
theorem half_lt {n k : Nat} (_ : n ≠ 0) (hk : n < k) : (n - 1) / 2 < k := by omega
theorem half_lt' {n : Nat} (h : n ≠ 0) : (n - 1) / 2 < n := by omega
theorem JD.up {hp : Addr} {rest : Led} {x p : W} {out ws : List W} {n e : Nat} {m : Str → Option Value} {t0 t1 : Tok} {k : Int} (hz : n ≠ 0) (b1 : n < ws.length) (b2 : ws.length < 2 ^ 20) (b3 : ∀ y ∈ ws, OkW rest y) (b4 : ∀ i y, i < n → ws[i]? = some y → x.k ≠ y.k) (b5 : sd x ws n = out) (hpp : ws[(n - 1) / 2]? = some p) (hl : ltW x p = true)
    (q1 : m (Str.ofString "heap") = some (.ref hp)) (q2 : m (Str.ofString "startpos") = some (.int 0 t0)) (q3 : m (Str.ofString "pos") = some (.int k t1)) (hk : k = (((n - 1) / 2 : Nat) : Int)) (q4 : m (Str.ofString "newitem") = some (.ref x.a)) : JD hp rest x out ((n - 1) / 2) m [(hp, listOf (vals (ws.set n p)) e)] := by
  refine ⟨ws.set n p, e, t0, t1, rfl, q1, q2, hk ▸ q3, q4, ?_, ?_, okSet b3 hpp, ?_, ?_⟩
  · rw [List.length_set]; exact half_lt hz b1
  · rw [List.length_set]; exact b2
  · intro i y hi hy
    have := half_lt' hz
    rw [List.getElem?_set_ne (by omega)] at hy
    exact b4 i y (by omega) hy
  · rw [← b5, sd_up hz hpp hl]

theorem half63 {n k : Nat} (_ : n ≠ 0) (hk : n < k) (hl : k < 2 ^ 20) : (((n - 1) / 2 : Nat) : Int) < 2 ^ 63 := by omega
theorem par_ix {n : Nat} (h : n ≠ 0) : ((n : Int) - 1).fdiv (2 ^ Int.toNat 1) = (((n - 1) / 2 : Nat) : Int) := by
  have e : (2 ^ Int.toNat 1 : Int) = 2 := by decide
  rw [e, Int.fdiv_eq_ediv_of_nonneg _ (by decide)]
  omega
set_option maxRecDepth 100000 in
set_option maxHeartbeats 8000000 in
theorem siftdown {w : World} {hp : Addr} {n pos : Nat} {ws : List W} {x : W} {rest : Led} {t1 t2 : Tok} (hx : ws[pos]? = some x) (hl : ws.length < 2 ^ 20) (hok : ∀ y ∈ ws, OkW rest y) (hkk : ∀ i y, i < pos → ws[i]? = some y → x.k ≠ y.k) :
   FnM w 3 66 [.ref hp, .int 0 t1, .int (pos : Int) t2] [] [(hp, listOf (vals ws) n)] rest
  (fun r muts' => r = .none ∧ ∃ n', muts' = [(hp, listOf (vals (sd x ws pos)) n')]) := by
  unfold FnM
  intro mean mg mb dp un gd cn cs a ccd cl outer A₀ base h₀ L m s Q E B F X N NR hrL sep T hk hdp hun hret
  refine wpAny_call ?_
  k_dflt (refine' code_defS ?k1 ?k2 ?k3 ?k4 ?kR ?kS ?k5 ?kA ?kF ?kK ?k6 ?k7 ?k8 ?k9 ?kB ?_ ?c2 ?c3 ?c4 ?c5; (case kA => exact rfl); (case kF => exact rfl); (case kK => exact hk); (case k1 => exact B); (case k2 => exact F); (case k3 => exact X); (case k4 => exact N); (case kR => exact NR); (case kS => exact sep); (case k5 => exact T); (case k6 => k_is); (case k7 => k_is); (case k8 => ktr_room); (case k9 => first | exact BindsTo.of_eq rfl | exact binds_K (by k_in) rfl (by k_is) rfl rfl rfl); (case c5 => decide); (case kB => exact locs rfl); (case c2 => exact rfl); (case c3 => exact rfl); (case c4 => exact rfl); k_whole; intro g' L' h' FG' F' N' B' X' T' G'; (try dsimp only); (try k_lift B'); (try k_fold))
  have hlt : pos < ws.length := (List.getElem?_eq_some_iff.mp hx).1
  have hv : (vals ws)[((pos : Nat) : Int).toNat]? = some (.ref x.a) := by simpa using vals_get hx
  repeat' (first | (k_unfold; (try dsimp only)) | ((fail_if_success (with_reducible show wpAny _ _ (exec (Stmt.While _ _ _ _) _) _ _ _)); walk1) | ((fail_if_success (with_reducible show wpAny _ _ (exec (Stmt.While _ _ _ _) _) _ _ _)); dsimp only; walk1))
  rename Fr g' L' _ _ => kF9
  rename News g' L' _ _ => kN9
  refine hideQ fun Q₁ hQ₁ => ?_
  refine While_B (JD hp rest x (sd x ws pos)) (n₀ := pos) kF9 kN9 ⟨ws, n, _, _, rfl, rfl, rfl, rfl, rfl, hlt, hl, hok, hkk, rfl⟩ ?_ (by passes_own)
  clear kF9 kN9
  intro n₁ m₁ news₁ h₁ tk₁ F₁ N₁ hJ
  obtain ⟨ws₁, e₁, u0, u1, rfl, q1, q2, q3, q4, b1, b2, b3, b4, b5⟩ := hJ
  have c0 : (0 : Int) ≤ (n₁ : Int) := Int.natCast_nonneg _
  have c1 : (n₁ : Int) < 2 ^ 63 := by omega
  have c2 : (n₁ : Int) < (vals ws₁).size := by rw [vals_size]; omega
  by_cases hz : n₁ = 0
  · subst hz
    k_steps
    (try dsimp only)
    refine hQ₁ _ _ ?_
    k_steps
    (try dsimp only)
    rename News h₀ L _ [_] => kN9
    rw [show (Value.ref x.a) = x.v from rfl, vals_set, Int.toNat_natCast] at kN9
    rw [sd_zero] at b5
    exact hret _ _ _ _ (by k_asm) (b5 ▸ kN9) (by assumption) ⟨rfl, _, rfl⟩
  · obtain ⟨p, hpp⟩ : ∃ p, ws₁[(n₁ - 1) / 2]? = some p := ⟨_, List.getElem?_eq_getElem (half_lt hz b1)⟩
    have hix := par_ix hz
    have d0 : 0 ≤ ((n₁ : Int) - 1).fdiv (2 ^ Int.toNat 1) := by rw [hix]; exact Int.natCast_nonneg _
    have d1 : ((n₁ : Int) - 1).fdiv (2 ^ Int.toNat 1) < 2 ^ 63 := by rw [hix]; exact half63 hz b1 b2
    have d2 : (vals ws₁)[(((n₁ : Int) - 1).fdiv (2 ^ Int.toNat 1)).toNat]? = some (.ref p.a) := by rw [hix, Int.toNat_natCast]; exact vals_get hpp
    have ox : OkW rest x := hok _ (List.mem_of_getElem? hx)
    have op : OkW rest p := b3 _ (List.mem_of_getElem? hpp)
    have ok : x.k ≠ p.k := b4 _ _ (half_lt' hz) hpp
    k_steps
    all_goals (try dsimp only [TurnB])
    · rename News g' L' _ _ => kN9
      rw [Int.toNat_natCast] at kN9
      rw [show (Value.ref p.a) = p.v from rfl, vals_set] at kN9
      rename Fr g' L' _ _ => kF9
      exact ⟨_, _, _, _, (n₁ - 1) / 2, rfl, kF9, kN9, half_lt' hz, .up hz b1 b2 b3 b4 b5 hpp (by assumption) q1 q2 rfl hix q4⟩
    · refine hQ₁ _ _ ?_
      k_steps
      (try dsimp only)
      rename News h₀ L _ [_] => kN9
      rw [show (Value.ref x.a) = x.v from rfl, vals_set, Int.toNat_natCast] at kN9
      rw [sd_end hz hpp (by assumption)] at b5
      exact hret _ _ _ _ (by k_asm) (b5 ▸ kN9) (by assumption) ⟨rfl, _, rfl⟩
end
section
open PySem PySem.W PyProof.Rows PySem.Spec
theorem lines_H2 : True := by
  k_with_none
  (k_with "om" => (with_reducible first | assumption | exact Nat.ne_of_lt ‹_› | exact Nat.ne_of_gt ‹_› | exact Ne.symm ‹_› | exact Mine.o_a ‹_› (by decide) | exact Mine.o_b ‹_› (by decide) | exact Mine.o_c ‹_› | exact Mine.o_le (n := 100) ‹_› (by decide) | exact Mine.o_le ‹_› (by decide) | exact Mine.o_l ‹_› (by decide) | exact Mine.o_1 (n := 100) ‹_› (by decide) | exact Mine.o_2 (n := 100) ‹_› (by decide) | exact Mine.o_lt (n := 100) ‹_› (by decide) | exact Mine.o_lt ‹_› (by decide) | exact Mine.o_ll ‹_› (by decide) | exact Mine.o_s ‹_› | exact Mine.o_n _ | exact Mine.o_0 _ | exact Mine.o_i ‹_› (by decide) | exact Mine.o_m ‹_› (by decide) | exact Mine.o_j (n := 100) ‹_› ‹_› (by decide) | exact Mine.o_k ‹_› ‹_› (by decide) | exact Mine.o_e (n := 100) ‹_› ‹_› (by decide) | exact Nat.ne_of_lt (by k_extra "cj") | exact Nat.ne_of_gt (by k_extra "cj") | exact Ne.symm (by k_extra "cj") | k_extra "cj" | fail))
  (k_with "cj" => (first | exact And.left ‹_› | exact Mine.c_2 ‹_› | exact Mine.c_3 ‹_› | exact Mine.c_4 ‹_› | exact Mine.c_5 ‹_› | exact Mine.c_6 ‹_› | exact Mine.c_7 ‹_› | exact Mine.c_8 ‹_› | exact Mine.c_9 ‹_› | exact And.right ‹_› | exact Mine.d_3 ‹_› | exact Mine.d_4 ‹_› | exact Mine.d_5 ‹_› | exact Mine.d_6 ‹_› | exact Mine.d_7 ‹_› | exact Mine.d_8 ‹_› | exact Mine.d_9 ‹_› | fail))
  (k_with "fn ctx" => (((case k1 => k_asm); (case k2 => k_asm); (case k3 => k_asm); (case k4 => k_asm); (case k5 => k_asm); (case kK => first | exact rfl | assumption); (case kd => ktr_room); (case ku => ktr_units))))
  (k_with "eval Name" => ((k_here; k_dflt (refine' ld ?k1 ?k2 ?_; (case k1 => k_asm); (case k2 => assumption); k_whole))))
  (k_with "loadName" => ((k_here; k_dflt (refine' ldn ?k1 ?k2 ?_; (case k1 => k_asm); (case k2 => first | exact rfl | assumption); k_whole))))
  (k_with "subscriptTail Name Name ref int" => ((k_here; k_dflt (refine' item_led ?k1 ?k2 ?k3 ?k4 ?k5 ?_ ?k7; (case k7 => with_unfolding_all rfl); (case k1 => k_asm); (case k2 => k_mem); (case k5 => with_reducible assumption); (case k3 => first | with_reducible assumption | omega); (case k4 => first | with_reducible assumption | omega); k_whole))))
  (k_with "setItem ref int" => ((k_here; k_dflt (refine' set_led ?k1 ?k2 ?k3 ?k4 ?k5 ?k6 ?_; (case k1 => k_asm); (case k2 => k_asm); (case k3 => k_upd); (case k4 => first | with_reducible assumption | omega); (case k5 => first | with_reducible assumption | omega); (case k6 => first | with_reducible assumption | omega); k_whole); intro zqh' zqF' zqN'; (try dsimp only at zqN'); (try k_sweep))))
  (k_with "compareOp Lt ref" => ((k_here; k_dflt (refine' cmp_W ?k1 ?k2 ?k3 ?k4 ?k5 ?k6 ?_; (case k1 => k_asm); (case k2 => assumption); (case k3 => assumption); (case k4 => assumption); (case k5 => assumption); (case k6 => ktr_units); k_whole))))
  (k_with "call builtin:len" => ((k_here; (with_reducible show wpAny _ _ (call (Value.builtin "len") [Value.ref _]) _ _ _); k_dflt (first | (refine' len_led ?k1 ?k2 ?k3 ?_; (case k1 => k_asm); (case k2 => k_mem); (case k3 => first | with_reducible assumption | omega); k_whole) | (refine' len_base ?k1 ?k2 ?k3 ?_; (case k1 => k_asm); (case k2 => with_reducible assumption); (case k3 => first | with_reducible assumption | omega); k_whole)))))
  (k_with "call ref" => ((k_here; (with_reducible show wpAny _ _ (call (Value.ref 66) _ _) _ _ _); fail "own")))
  trivial

theorem vals_push (ws : List W) (x : W) : (vals ws).push (.ref x.a) = vals (ws ++ [x]) := by
  apply Array.toList_inj.mp
  simp [vals]
/-- what heappush does -/
def hpush (ws : List W) (x : W) : List W := sd x (ws ++ [x]) ws.length
set_option maxRecDepth 100000 in
set_option maxHeartbeats 8000000 in
theorem heappush {w : World} {hp : Addr} {n : Nat} {ws : List W} {x : W} {rest : Led} (hl : ws.length < 2 ^ 19) (hok : ∀ y ∈ ws, OkW rest y) (hx : OkW rest x) (hkk : ∀ y ∈ ws, x.k ≠ y.k) :
   FnM w 6 52 [.ref hp, .ref x.a] [] [(hp, listOf (vals ws) n)] rest
  (fun r muts' => r = .none ∧ ∃ n', muts' = [(hp, listOf (vals (hpush ws x)) n')]) := by
  unfold FnM
  intro mean mg mb dp un gd cn cs a ccd cl outer A₀ base h₀ L m s Q E B F X N NR hrL sep T hk hdp hun hret
  refine wpAny_call ?_
  k_dflt (refine' code_defS ?k1 ?k2 ?k3 ?k4 ?kR ?kS ?k5 ?kA ?kF ?kK ?k6 ?k7 ?k8 ?k9 ?kB ?_ ?c2 ?c3 ?c4 ?c5; (case kA => exact rfl); (case kF => exact rfl); (case kK => exact hk); (case k1 => exact B); (case k2 => exact F); (case k3 => exact X); (case k4 => exact N); (case kR => exact NR); (case kS => exact sep); (case k5 => exact T); (case k6 => k_is); (case k7 => k_is); (case k8 => ktr_room); (case k9 => first | exact BindsTo.of_eq rfl | exact binds_K (by k_in) rfl (by k_is) rfl rfl rfl); (case c5 => decide); (case kB => exact locs rfl); (case c2 => exact rfl); (case c3 => exact rfl); (case c4 => exact rfl); k_whole; intro g' L' h' FG' F' N' B' X' T' G'; (try dsimp only); (try k_lift B'); (try k_fold))
  have hsz : (vals ws).size ≤ sizeLine := by rw [vals_size, sizeLine_eq]; omega
  have hsz2 : (((vals ws).push (.ref x.a)).size : Int) < 2 ^ 63 := by rw [Array.size_push, vals_size]; omega
  repeat' (first | (k_unfold; (try dsimp only)) | ((fail_if_success (with_reducible show wpAny _ _ (call (Value.ref 66) _ _) _ _ _)); walk1) | ((fail_if_success (with_reducible show wpAny _ _ (call (Value.ref 66) _ _) _ _ _)); dsimp only; walk1))
  have e : ((((vals ws).push (.ref x.a)).size : Int) - 1) = ((ws.length : Nat) : Int) := by rw [Array.size_push, vals_size]; omega
  rename News g' L' _ _ => kN9
  rw [vals_push] at kN9
  rw [e]
  k_dflt (refine' (siftdown (rest := rest) (ws := ws ++ [x]) (x := x) (pos := ws.length) (by simp) (by simp; omega) (by intro y hy; rcases List.mem_append.mp hy with hy | hy; exact hok y hy; exact List.mem_singleton.mp hy ▸ hx) (by intro i y hi hy; rw [List.getElem?_append_left hi] at hy; exact hkk y (List.mem_of_getElem? hy))).useB ?k1 ?k2 ?k3 ?k4 ?k5 ?kK ?kd ?ku ?kG ?_; (walk_at "fn ctx"); (case kG => exact G'))
  intro r9 n9 h9 tk9 F9 N9 ho9
  obtain ⟨hr9, e9, hn9⟩ := ho9
  subst hr9; subst hn9
  k_steps
  (try dsimp only)
  rename News h₀ L _ [_] => kN9
  exact hret _ _ _ _ (by k_asm) kN9 (by assumption) ⟨rfl, _, rfl⟩

/-- what _siftup's loop does: the smaller child moves up until a leaf is free -/
def chd (ws : List W) (pos : Nat) : Nat :=
  if 2 * pos + 2 < ws.length then (match ws[2 * pos + 1]?, ws[2 * pos + 2]? with | some a, some b => if ltW a b = true then 2 * pos + 1 else 2 * pos + 2 | _, _ => 2 * pos + 1) else 2 * pos + 1
theorem chd_ge (ws : List W) (pos : Nat) : 2 * pos + 1 ≤ chd ws pos ∧ chd ws pos ≤ 2 * pos + 2 := by
  unfold chd; repeat' split
  all_goals omega
theorem chd_lt {ws : List W} {pos : Nat} (h : 2 * pos + 1 < ws.length) : chd ws pos < ws.length := by
  unfold chd; repeat' split
  all_goals omega
def suL (ws : List W) (pos : Nat) : List W × Nat :=
  if h : 2 * pos + 1 < ws.length then suL (ws.set pos (ws[chd ws pos]'(chd_lt h))) (chd ws pos) else (ws, pos)
termination_by ws.length - pos
decreasing_by
  have := chd_ge ws pos
  rw [List.length_set]; omega
theorem suL_up {ws : List W} {pos : Nat} {y : W} (h : 2 * pos + 1 < ws.length) (hy : ws[chd ws pos]? = some y) : suL ws pos = suL (ws.set pos y) (chd ws pos) := by
  rw [suL]
  have e : ws[chd ws pos]'(chd_lt h) = y := (List.getElem?_eq_some_iff.mp hy).2
  simp [h, e]
theorem suL_end {ws : List W} {pos : Nat} (h : ¬ 2 * pos + 1 < ws.length) : suL ws pos = (ws, pos) := by
  rw [suL]; simp [h]
/-- what _siftup does from the top -/
def su (ws : List W) (x : W) : List W := sd x ((suL ws 0).1.set (suL ws 0).2 x) (suL ws 0).2
/-- apart from one place no two of a place alike -/
def Dist (p : Nat) (x : W) (ws : List W) : Prop := (∀ i y, i ≠ p → ws[i]? = some y → x.k ≠ y.k) ∧ ∀ i j y z, i ≠ j → i ≠ p → j ≠ p → ws[i]? = some y → ws[j]? = some z → y.k ≠ z.k
theorem Dist.up {p c : Nat} {x y : W} {ws : List W} (h : Dist p x ws) (hc : c ≠ p) (hy : ws[c]? = some y) : Dist c x (ws.set p y) := by
  refine ⟨fun i z hi hz => ?_, fun i j a b hij hi hj ha hb => ?_⟩
  · by_cases hp : i = p
    · subst hp
      rw [List.getElem?_set] at hz
      split at hz
      · split at hz
        · cases hz; exact h.1 c _ hc hy
        · cases hz
      · rename_i q; exact absurd rfl q
    · rw [List.getElem?_set_ne (Ne.symm hp)] at hz
      exact h.1 i z hp hz
  · have val : ∀ i a, i ≠ c → (ws.set p y)[i]? = some a → ∃ i', i' ≠ p ∧ ws[i']? = some a ∧ (i' = i ∨ (i = p ∧ i' = c)) := by
      intro i a hi ha
      by_cases hp : i = p
      · subst hp
        rw [List.getElem?_set] at ha
        split at ha
        · split at ha
          · cases ha; exact ⟨c, hc, hy, .inr ⟨rfl, rfl⟩⟩
          · cases ha
        · rename_i q; exact absurd rfl q
      · rw [List.getElem?_set_ne (Ne.symm hp)] at ha
        exact ⟨i, hp, ha, .inl rfl⟩
    obtain ⟨i', h1, h2, h3⟩ := val i a hi ha
    obtain ⟨j', g1, g2, g3⟩ := val j b hj hb
    exact h.2 i' j' a b (by rcases h3 with h3 | ⟨h3, h3'⟩ <;> rcases g3 with g3 | ⟨g3, g3'⟩ <;> omega) h1 g1 h2 g2
inductive JU (hp : Addr) (rest : Led) (x : W) (len : Nat) (out : List W × Nat) (n : Nat) (m : Str → Option Value) (news : Led) : Prop
  | mk (ws : List W) (p e : Nat) (t0 t1 t2 t3 : Tok) (h0 : n = len - p) (hn : news = [(hp, listOf (vals ws) e)]) (q1 : m (Str.ofString "heap") = some (.ref hp)) (q2 : m (Str.ofString "startpos") = some (.int 0 t0)) (q3 : m (Str.ofString "endpos") = some (.int (len : Int) t3))
    (q4 : m (Str.ofString "pos") = some (.int (p : Int) t1)) (q5 : m (Str.ofString "childpos") = some (.int (2 * (p : Int) + 1) t2)) (q6 : m (Str.ofString "newitem") = some (.ref x.a))
    (b1 : p < ws.length) (b2 : ws.length = len) (b3 : ∀ y ∈ ws, OkW rest y) (b4 : Dist p x ws) (b5 : suL ws p = out)
theorem chd_a {ws : List W} {p : Nat} {a b : W} (hy : 2 * p + 2 < ws.length) (ha : ws[2 * p + 1]? = some a) (hb : ws[2 * p + 2]? = some b) (h : ltW a b = true) : chd ws p = 2 * p + 1 := by
  unfold chd; rw [if_pos hy, ha, hb]; dsimp only; rw [if_pos h]
theorem chd_b {ws : List W} {p : Nat} {a b : W} (hy : 2 * p + 2 < ws.length) (ha : ws[2 * p + 1]? = some a) (hb : ws[2 * p + 2]? = some b) (h : ltW a b = false) : chd ws p = 2 * p + 2 := by
  unfold chd; rw [if_pos hy, ha, hb]; dsimp only; rw [if_neg (by simp; exact h)]
theorem chd_c {ws : List W} {p : Nat} (hy : ¬ 2 * p + 2 < ws.length) : chd ws p = 2 * p + 1 := by
  unfold chd; rw [if_neg hy]
theorem Dist.ch {p : Nat} {x a b : W} {ws : List W} (h : Dist p x ws) (ha : ws[2 * p + 1]? = some a) (hb : ws[2 * p + 2]? = some b) : a.k ≠ b.k := h.2 (2 * p + 1) (2 * p + 2) a b (by omega) (by omega) (by omega) ha hb
theorem JU.down {hp : Addr} {rest : Led} {h₀ : Heap} {L : Addr} {s : Shared} {h : Heap} {tk : Nat} {x a : W} {len e : Nat} {out : List W × Nat} {ws : List W} {p c : Nat} {m : Str → Option Value} {t0 t1 t2 t3 : Tok} (F : Fr h₀ L h m) (N : News h₀ L h [(hp, listOf ((vals ws).setIfInBounds (p : Int).toNat a.v) e)]) (b2 : ws.length = len) (b3 : ∀ y ∈ ws, OkW rest y) (b4 : Dist p x ws) (b5 : suL ws p = out) (hz : 2 * p + 1 < ws.length) (hc : chd ws p = c) (ha : ws[c]? = some a)
    (q1 : m (Str.ofString "heap") = some (.ref hp)) (q2 : m (Str.ofString "startpos") = some (.int 0 t0)) (q3 : m (Str.ofString "endpos") = some (.int (len : Int) t3)) (q4 : m (Str.ofString "pos") = some (.int (c : Int) t1)) (q5 : m (Str.ofString "childpos") = some (.int (2 * (c : Int) + 1) t2)) (q6 : m (Str.ofString "newitem") = some (.ref x.a)) :
    TurnE h₀ L s (JU hp rest x len out) (len - p) { s with heap := h, toks := tk } := by
  have g := chd_ge ws p
  have l := chd_lt hz
  rw [hc] at g l
  rw [Int.toNat_natCast, vals_set] at N
  refine ⟨_, _, _, _, len - c, rfl, F, N, by omega, ws.set p a, c, e, t0, t1, t2, t3, rfl, rfl, q1, q2, q3, q4, q5, q6, ?_, ?_, okSet b3 ha, b4.up (by omega) ha, ?_⟩
  · rw [List.length_set]; exact l
  · rw [List.length_set]; exact b2
  · rw [← b5, suL_up hz (hc.symm ▸ ha), hc]
theorem Dist.lo {p : Nat} {x : W} {ws : List W} (h : Dist p x ws) : ∀ i y, i < p → (ws.set p x)[i]? = some y → x.k ≠ y.k := by
  intro i y hi hy; rw [List.getElem?_set_ne (by omega)] at hy; exact h.1 i y (by omega) hy
theorem okSet' {rest : Led} {ws : List W} {n : Nat} {p : W} (b3 : ∀ y ∈ ws, OkW rest y) (h : OkW rest p) : ∀ y ∈ ws.set n p, OkW rest y := by
  intro y hy
  rcases List.mem_or_eq_of_mem_set hy with hy | hy
  · exact b3 y hy
  · exact hy ▸ h
set_option maxRecDepth 100000 in
set_option maxHeartbeats 8000000 in
theorem siftup {w : World} {hp : Addr} {n : Nat} {ws : List W} {x : W} {rest : Led} {t1 : Tok} (hx : ws[0]? = some x) (hl : ws.length < 2 ^ 20) (hok : ∀ y ∈ ws, OkW rest y) (hd0 : Dist 0 x ws) :
   FnM w 6 73 [.ref hp, .int 0 t1] [] [(hp, listOf (vals ws) n)] rest
  (fun r muts' => r = .none ∧ ∃ n', muts' = [(hp, listOf (vals (su ws x)) n')]) := by
  unfold FnM
  intro mean mg mb dp un gd cn cs a ccd cl outer A₀ base h₀ L m s Q E B F X N NR hrL sep T hk hdp hun hret
  refine wpAny_call ?_
  k_dflt (refine' code_defS ?k1 ?k2 ?k3 ?k4 ?kR ?kS ?k5 ?kA ?kF ?kK ?k6 ?k7 ?k8 ?k9 ?kB ?_ ?c2 ?c3 ?c4 ?c5; (case kA => exact rfl); (case kF => exact rfl); (case kK => exact hk); (case k1 => exact B); (case k2 => exact F); (case k3 => exact X); (case k4 => exact N); (case kR => exact NR); (case kS => exact sep); (case k5 => exact T); (case k6 => k_is); (case k7 => k_is); (case k8 => ktr_room); (case k9 => first | exact BindsTo.of_eq rfl | exact binds_K (by k_in) rfl (by k_is) rfl rfl rfl); (case c5 => decide); (case kB => exact locs rfl); (case c2 => exact rfl); (case c3 => exact rfl); (case c4 => exact rfl); k_whole; intro g' L' h' FG' F' N' B' X' T' G'; (try dsimp only); (try k_lift B'); (try k_fold))
  have hlt : 0 < ws.length := (List.getElem?_eq_some_iff.mp hx).1
  have hv : (vals ws)[(0 : Int).toNat]? = some (.ref x.a) := vals_get hx
  have hsz : ((vals ws).size : Int) < 2 ^ 63 := by rw [vals_size]; omega
  repeat' (first | (k_unfold; (try dsimp only)) | ((fail_if_success (with_reducible show wpAny _ _ (exec (Stmt.While _ _ _ _) _) _ _ _)); walk1) | ((fail_if_success (with_reducible show wpAny _ _ (exec (Stmt.While _ _ _ _) _) _ _ _)); dsimp only; walk1))
  rename Fr g' L' _ _ => kF9
  rename News g' L' _ _ => kN9
  refine hideQ fun Q₁ hQ₁ => ?_
  refine While_B (JU hp rest x ws.length (suL ws 0)) (n₀ := ws.length) kF9 kN9 ⟨ws, 0, n, _, _, _, _, rfl, rfl, rfl, rfl, congrArg (fun z => some (Value.int z _)) (by rw [vals_size]), rfl, rfl, rfl, hlt, rfl, hok, hd0, rfl⟩ ?_ (by passes_own)
  clear kF9 kN9
  intro n₁ m₁ news₁ h₁ tk₁ F₁ N₁ hJ
  obtain ⟨ws₁, p, e₁, u0, u1, u2, u3, rfl, rfl, q1, q2, q3, q4, q5, q6, b1, b2, b3, b4, b5⟩ := hJ
  have c0 : (0 : Int) ≤ (p : Int) := Int.natCast_nonneg _
  have c1 : (p : Int) < 2 ^ 63 := by omega
  have c2 : (p : Int) < (vals ws₁).size := by rw [vals_size]; omega
  by_cases hz : 2 * p + 1 < ws₁.length
  · obtain ⟨a, ha⟩ : ∃ a, ws₁[2 * p + 1]? = some a := ⟨_, List.getElem?_eq_getElem hz⟩
    have d1 : (vals ws₁)[(2 * (p : Int) + 1).toNat]? = some (.ref a.a) := vals_get ha
    have oa : OkW rest a := b3 _ (List.mem_of_getElem? ha)
    by_cases hy : 2 * p + 2 < ws₁.length
    · obtain ⟨b, hb⟩ : ∃ b, ws₁[2 * p + 2]? = some b := ⟨_, List.getElem?_eq_getElem hy⟩
      have d2 : (vals ws₁)[(2 * (p : Int) + 1 + 1).toNat]? = some (.ref b.a) := vals_get hb
      have ob : OkW rest b := b3 _ (List.mem_of_getElem? hb)
      have okk : a.k ≠ b.k := b4.ch ha hb
      k_steps
      all_goals (try dsimp only [TurnB])
      · rename News g' L' _ _ => kN9
        rename Fr g' L' _ _ => kF9
        exact JU.down kF9 kN9 b2 b3 b4 b5 hz (chd_a hy ha hb (by assumption)) ha q1 q2 q3 rfl rfl q6
      · rename News g' L' _ _ => kN9
        rename Fr g' L' _ _ => kF9
        exact JU.down kF9 kN9 b2 b3 b4 b5 hz (chd_b hy ha hb (by assumption)) hb q1 q2 q3 rfl rfl q6
    · k_steps
      all_goals (try dsimp only [TurnB])
      · rename News g' L' _ _ => kN9
        rename Fr g' L' _ _ => kF9
        exact JU.down kF9 kN9 b2 b3 b4 b5 hz (chd_c hy) ha q1 q2 q3 rfl rfl q6
  · k_steps
    refine hQ₁ _ _ ?_
    k_steps
    all_goals (try dsimp only)
    rename News g' L' _ _ => kN9
    rw [Int.toNat_natCast, show (Value.ref x.a) = x.v from rfl, vals_set] at kN9
    rw [suL_end hz] at b5
    have e1 : (suL ws 0).1 = ws₁ := by rw [← b5]
    have e2 : (suL ws 0).2 = p := by rw [← b5]
    k_dflt (refine' (siftdown (rest := rest) (ws := ws₁.set p x) (x := x) (pos := p) (by simp [b1]) (by rw [List.length_set]; omega) (okSet' b3 (hok _ (List.mem_of_getElem? hx))) b4.lo).useB ?k1 ?k2 ?k3 ?k4 ?k5 ?kK ?kd ?ku ?kG ?_; (walk_at "fn ctx"); (case kG => exact G'))
    intro r9 n9 h9 tk9 F9 N9 ho9
    obtain ⟨hr9, e9, hn9⟩ := ho9
    subst hr9; subst hn9
    k_steps
    (try dsimp only)
    rename News h₀ L _ [_] => kN9
    refine hret _ _ _ _ (by k_asm) kN9 (by assumption) ⟨rfl, e9, ?_⟩
    unfold su; rw [e1, e2]
end
section
open PySem PySem.W PyProof.Rows PySem.Spec
theorem lines_H3 : True := by
  k_with_none
  (k_with "om" => (with_reducible first | assumption | exact Nat.ne_of_lt ‹_› | exact Nat.ne_of_gt ‹_› | exact Ne.symm ‹_› | exact Mine.o_a ‹_› (by decide) | exact Mine.o_b ‹_› (by decide) | exact Mine.o_c ‹_› | exact Mine.o_le (n := 100) ‹_› (by decide) | exact Mine.o_le ‹_› (by decide) | exact Mine.o_l ‹_› (by decide) | exact Mine.o_1 (n := 100) ‹_› (by decide) | exact Mine.o_2 (n := 100) ‹_› (by decide) | exact Mine.o_lt (n := 100) ‹_› (by decide) | exact Mine.o_lt ‹_› (by decide) | exact Mine.o_ll ‹_› (by decide) | exact Mine.o_s ‹_› | exact Mine.o_n _ | exact Mine.o_0 _ | exact Mine.o_i ‹_› (by decide) | exact Mine.o_m ‹_› (by decide) | exact Mine.o_j (n := 100) ‹_› ‹_› (by decide) | exact Mine.o_k ‹_› ‹_› (by decide) | exact Mine.o_e (n := 100) ‹_› ‹_› (by decide) | exact Nat.ne_of_lt (by k_extra "cj") | exact Nat.ne_of_gt (by k_extra "cj") | exact Ne.symm (by k_extra "cj") | k_extra "cj" | fail))
  (k_with "cj" => (first | exact And.left ‹_› | exact Mine.c_2 ‹_› | exact Mine.c_3 ‹_› | exact Mine.c_4 ‹_› | exact Mine.c_5 ‹_› | exact Mine.c_6 ‹_› | exact Mine.c_7 ‹_› | exact Mine.c_8 ‹_› | exact Mine.c_9 ‹_› | exact And.right ‹_› | exact Mine.d_3 ‹_› | exact Mine.d_4 ‹_› | exact Mine.d_5 ‹_› | exact Mine.d_6 ‹_› | exact Mine.d_7 ‹_› | exact Mine.d_8 ‹_› | exact Mine.d_9 ‹_› | fail))
  (k_with "fn ctx" => (((case k1 => k_asm); (case k2 => k_asm); (case k3 => k_asm); (case k4 => k_asm); (case k5 => k_asm); (case kK => first | exact rfl | assumption); (case kd => ktr_room); (case ku => ktr_units))))
  (k_with "eval Name" => ((k_here; k_dflt (refine' ld ?k1 ?k2 ?_; (case k1 => k_asm); (case k2 => assumption); k_whole))))
  (k_with "loadName" => ((k_here; k_dflt (refine' ldn ?k1 ?k2 ?_; (case k1 => k_asm); (case k2 => first | exact rfl | assumption); k_whole))))
  (k_with "subscriptTail Name Name ref int" => ((k_here; k_dflt (refine' item_led ?k1 ?k2 ?k3 ?k4 ?k5 ?_ ?k7; (case k7 => with_unfolding_all rfl); (case k1 => k_asm); (case k2 => k_mem); (case k5 => with_reducible assumption); (case k3 => first | with_reducible assumption | omega); (case k4 => first | with_reducible assumption | omega); k_whole))))
  (k_with "setItem ref int" => ((k_here; k_dflt (refine' set_led ?k1 ?k2 ?k3 ?k4 ?k5 ?k6 ?_; (case k1 => k_asm); (case k2 => k_asm); (case k3 => k_upd); (case k4 => first | with_reducible assumption | omega); (case k5 => first | with_reducible assumption | omega); (case k6 => first | with_reducible assumption | omega); k_whole); intro zqh' zqF' zqN'; (try dsimp only at zqN'); (try k_sweep))))
  (k_with "compareOp Lt ref" => ((k_here; k_dflt (refine' cmp_W ?k1 ?k2 ?k3 ?k4 ?k5 ?k6 ?_; (case k1 => k_asm); (case k2 => assumption); (case k3 => assumption); (case k4 => assumption); (case k5 => assumption); (case k6 => ktr_units); k_whole))))
  (k_with "call builtin:len" => ((k_here; (with_reducible show wpAny _ _ (call (Value.builtin "len") [Value.ref _]) _ _ _); k_dflt (first | (refine' len_led ?k1 ?k2 ?k3 ?_; (case k1 => k_asm); (case k2 => k_mem); (case k3 => first | with_reducible assumption | omega); k_whole) | (refine' len_base ?k1 ?k2 ?k3 ?_; (case k1 => k_asm); (case k2 => with_reducible assumption); (case k3 => first | with_reducible assumption | omega); k_whole)))))
  (k_with "call builtin:list.pop" => ((k_here; k_dflt (refine' pop_W ?F ?N ?U ?z ?_; (case F => k_asm); (case N => k_asm); (case U => k_upd); (case z => omega)); intro zqh' zqF' zqN'; (try k_sweep))))
  (k_with "truthy ref" => ((k_here; k_dflt (first | (refine' truthy_W0 ?N ?U ?_; (case N => k_asm); (case U => k_mem)) | (refine' truthy_W1 ?N ?U ?z ?_; (case N => k_asm); (case U => k_mem); (case z => assumption))))))
  trivial

section
variable {prog : Program} {w : World} {A : Around} {E : Value → Shared → Prop} {s : Shared} {h₀ : Heap} {L D : Addr} {m : Str → Option Value} {news news' : List (Addr × Obj)} {n : Nat}
theorem pop_W {ws : List W} {z : W} {Q : Value → Shared → Prop} (F : Fr h₀ L s.heap m) (N : News h₀ L s.heap news) (U : Upd D (listOf (vals (ws ++ [z])) n) (listOf (vals ws) (n + 1)) news news') (hz : ws.length < 2 ^ 20)
    (h : ∀ h', Fr h₀ L h' m → News h₀ L h' news' → Q (.ref z.a) { s with heap := h' }) : wpAny (model prog w) A (call (.builtin "list.pop") [.ref D]) Q E s := by
  refine kl_pop (its := vals (ws ++ [z])) F N (p := ws.map W.v) (y := z.v) ?_ U ?_ h
  · show kl_last ((ws ++ [z]).map W.v) = _
    rw [List.map_append]; exact kpa_last _ _
  · show ((ws ++ [z]).map W.v).length ≤ sizeLine
    rw [sizeLine_eq, List.length_map, List.length_append]; simp; omega
theorem truthy_W0 {Q : Bool → Shared → Prop} (N : News h₀ L s.heap news) (hm : (D, listOf (vals []) n) ∈ news) (h : Q false { s with toks := s.toks + 1 + 1 }) : wpAny (model prog w) A (truthy (.ref D)) Q E s :=
  wpAny_truthy_list (PySem.IsL.isList (n := n) (N _ hm).1) (by rw [vals_size]; decide) h
theorem truthy_W1 {y : W} {ws : List W} {Q : Bool → Shared → Prop} (N : News h₀ L s.heap news) (hm : (D, listOf (vals (y :: ws)) n) ∈ news) (hz : (y :: ws).length < 2 ^ 20) (h : Q true { s with toks := s.toks + 1 + 1 }) : wpAny (model prog w) A (truthy (.ref D)) Q E s := by
  refine wpAny_truthy_list (PySem.IsL.isList (n := n) (N _ hm).1) (by rw [vals_size]; omega) ?_
  have e : (vals (y :: ws)).isEmpty = false := by simp [vals]
  rw [e]; exact h
end
/-- what heappop leaves -/
def hpopL (ws : List W) (z : W) : List W := match ws with
  | [] => []
  | _ :: _ => su (ws.set 0 z) z
def hpopV (ws : List W) (z : W) : W := match ws with
  | [] => z
  | y :: _ => y
/-- no two of a place alike -/
def DistA (ws : List W) : Prop := ∀ (i j : Nat) (y z : W), i ≠ j → ws[i]? = some y → ws[j]? = some z → y.k ≠ z.k
theorem DistA.top {y z : W} {ws : List W} (h : DistA ((y :: ws) ++ [z])) : Dist 0 z (z :: ws) := by
  have last : ((y :: ws) ++ [z])[ws.length + 1]? = some z := by simp
  have at' : ∀ i a, i ≠ 0 → (z :: ws)[i]? = some a → ((y :: ws) ++ [z])[i]? = some a ∧ i ≠ ws.length + 1 := by
    intro i a hi ha
    obtain ⟨j, rfl⟩ := Nat.exists_eq_succ_of_ne_zero hi
    have hj : j < ws.length := by
      rw [List.getElem?_cons_succ] at ha
      exact (List.getElem?_eq_some_iff.mp ha).1
    rw [List.getElem?_cons_succ] at ha
    refine ⟨?_, by omega⟩
    rw [List.cons_append, List.getElem?_cons_succ, List.getElem?_append_left hj]; exact ha
  refine ⟨fun i a hi ha => ?_, fun i j a b hij hi hj ha hb => ?_⟩
  · obtain ⟨h1, h2⟩ := at' i a hi ha
    exact (h i _ a z h2 h1 last).symm
  · exact h i j a b hij (at' i a hi ha).1 (at' j b hj hb).1
set_option maxRecDepth 100000 in
set_option maxHeartbeats 8000000 in
theorem heappop {w : World} {hp : Addr} {n : Nat} {ws : List W} {z : W} {rest : Led} (hl : ws.length < 2 ^ 19) (hok : ∀ y ∈ ws ++ [z], OkW rest y) (hd0 : DistA (ws ++ [z])) :
   FnM w 9 59 [.ref hp] [] [(hp, listOf (vals (ws ++ [z])) n)] rest
  (fun r muts' => r = .ref (hpopV ws z).a ∧ ∃ n', muts' = [(hp, listOf (vals (hpopL ws z)) n')]) := by
  unfold FnM
  intro mean mg mb dp un gd cn cs a ccd cl outer A₀ base h₀ L m s Q E B F X N NR hrL sep T hk hdp hun hret
  refine wpAny_call ?_
  k_dflt (refine' code_defS ?k1 ?k2 ?k3 ?k4 ?kR ?kS ?k5 ?kA ?kF ?kK ?k6 ?k7 ?k8 ?k9 ?kB ?_ ?c2 ?c3 ?c4 ?c5; (case kA => exact rfl); (case kF => exact rfl); (case kK => exact hk); (case k1 => exact B); (case k2 => exact F); (case k3 => exact X); (case k4 => exact N); (case kR => exact NR); (case kS => exact sep); (case k5 => exact T); (case k6 => k_is); (case k7 => k_is); (case k8 => ktr_room); (case k9 => first | exact BindsTo.of_eq rfl | exact binds_K (by k_in) rfl (by k_is) rfl rfl rfl); (case c5 => decide); (case kB => exact locs rfl); (case c2 => exact rfl); (case c3 => exact rfl); (case c4 => exact rfl); k_whole; intro g' L' h' FG' F' N' B' X' T' G'; (try dsimp only); (try k_lift B'); (try k_fold))
  cases ws with
  | nil =>
    k_steps
    (try dsimp only)
    rename News h₀ L _ [_] => kN9
    exact hret _ _ _ _ (by k_asm) kN9 (by assumption) ⟨rfl, _, rfl⟩
  | cons y ws =>
    have hl' : (y :: ws).length < 2 ^ 20 := by omega
    have i0 : (vals (y :: ws))[(0 : Int).toNat]? = some (.ref y.a) := vals_get rfl
    have i1 : (0 : Int) < (vals (y :: ws)).size := by rw [vals_size, List.length_cons]; omega
    k_steps
    rename News g' L' _ _ => kN9
    rw [show (0 : Int).toNat = 0 from rfl, show (Value.ref z.a) = z.v from rfl, vals_set] at kN9
    k_dflt (refine' (siftup (rest := rest) (ws := z :: ws) (x := z) rfl (by simpa using hl') (by intro a ha; rcases List.mem_cons.mp ha with rfl | ha; exact hok _ (by simp); exact hok _ (by simp [ha])) hd0.top).useB ?k1 ?k2 ?k3 ?k4 ?k5 ?kK ?kd ?ku ?kG ?_; (walk_at "fn ctx"); (case kG => exact G'))
    intro r9 n9 h9 tk9 F9 N9 ho9
    obtain ⟨hr9, e9, hn9⟩ := ho9
    subst hr9; subst hn9
    k_steps
    (try dsimp only)
    rename News h₀ L _ [_] => kN9
    exact hret _ _ _ _ (by k_asm) kN9 (by assumption) ⟨rfl, e9, rfl⟩
end
section
open PySem PySem.W PySem.Calls PyProof.Rows PySem.Spec PyProof.V
/-- a new exception with no traceback yet, whatever its context -/
structure NewX (h h' : Heap) (e : Addr) (cls : String) (c : Value) : Prop where
  keeps : ∀ b o, h.get? b = some o → h'.get? b = some o
  new : h.get? e = none
  there : ∃ ob vs t, h'.get? e = some ob ∧ ob.cls = .type cls ∧ ob.data = .fields vs ∧ vs = #[t, .none, c, .none, .bool false, .none]
/-- nothing is handled, or something without a context -/
def Calm (A : Around) (h : Heap) : Prop := A.handled = none ∨ ∃ e o vs, A.handled = some (.ref e) ∧ h.get? e = some o ∧ o.data = .fields vs ∧ vs[2]? = some .none
theorem entry_unchain : entryFor table "proto.unchain" = some Builtin.«proto.unchain» := entryFor_of_fast (by kernel_rfl)
section
variable {α : Type} {prog : Program} {w : World} {A : Around} {E : Value → Shared → Prop} {s : Shared}
theorem raiseNew_calm {cls : String} {h : Heap} {e : Addr} {ob : Obj} {t : Value} {Q : α → Shared → Prop} (C : Calm A h) (hk : ∀ b o, h.get? b = some o → s.heap.get? b = some o) (hn : h.get? e = none)
    (he : s.heap.get? e = some ob) (hc : ob.cls = .type cls) (hd : ob.data = .fields #[t, .none, .none, .none, .bool false, .none])
    (k : ∀ h' tk e, NewX h h' e cls (A.handled.getD .none) → E (.ref e) { s with heap := h', toks := tk }) : wpAny (model prog w) A (raiseNew (.ref e) : Sem α) Q E s := by
  unfold raiseNew
  refine wpAny_bind (wpAny_handled ?_)
  rcases C with C | ⟨e₀, o₀, vs, hA, h₀, hd₀, hv⟩
  · rw [C]
    first
      | refine wpAny_throw ?_
      | refine wpAny_bind (wpAny_pure (wpAny_throw ?_))
    exact k _ _ _ ⟨hk, hn, ob, _, t, he, hc, hd, by rw [C]; rfl⟩
  · rw [hA]
    have hne : e₀ ≠ e := fun q => by rw [q, hn] at h₀; cases h₀
    have h1 : ((Value.ref e₀ != Value.ref e) = true) := by simpa using hne
    simp only [h1, if_true]
    refine wpAny_bind (wpAny_holding (wpAny_runValue (codeAny_builtin entry_unchain ?_)))
    show wpAny _ _ (field (.ref e₀) 2 >>= _) _ _ s
    refine wpAny_bind (wpAny_field (hk _ _ h₀) hd₀ hv ?_)
    rw [if_pos (by decide)]
    refine wpAny_bind (wpAny_pure ?_)
    refine wpAny_pure ?_
    show wpAny _ _ (setField (.ref e) 2 (.ref e₀) >>= _) _ _ s
    refine wpAny_bind (wpAny_setField he hd (by show 2 < 6; decide) ?_)
    refine wpAny_throw ?_
    refine k _ _ _ ⟨fun b o hb => ?_, hn, _, _, t, Heap.get?_update_self _ he (Obj.isFreed_of_fields (Obj.data_mapFields hd _)), ?_, Obj.data_mapFields hd _, by rw [hA]; rfl⟩
    · exact (Heap.get?_update_ne _ _ _ _ (fun q => by rw [q, hn] at hb; cases hb)).trans (hk b o hb)
    · obtain ⟨c, d, dt, sl⟩ := ob; cases dt <;> exact hc
theorem raiseWordsX {cls msg : String} {Q : α → Shared → Prop} (hp : PlainExc cls) (hA : Calm A s.heap)
    (hE : ∀ h' tk e, NewX s.heap h' e cls (A.handled.getD .none) → E (.ref e) { s with heap := h', toks := tk }) : wpAny (model prog w) A (raiseErrorWords cls msg : Sem α) Q E s := by
  unfold raiseErrorWords
  refine wpAny_bind (wpAny_mkText (wpAny_bind ?_))
  unfold newExc newTuple
  refine wpAny_bind (wpAny_newObj_type ?_)
  refine wpAny_bind (m := firstArgMember _ _) (wpAny_of_eq (a := Value.none) (by simp only [firstArgMember, hp.first]; rfl) ?_)
  rw [hp.own]
  refine wpAny_newObj_type ?_
  exact raiseNew_calm (h := s.heap) (t := .ref s.heap.objs.size) hA (fun b o hb => Heap.get?_push_of_some _ (Heap.get?_push_of_some _ hb)) (Heap.get?_none_of_le (by simp)) (Heap.get?_push_size _ rfl) rfl (by simp) fun h' tk e x => hE _ _ _ x
theorem item_getOut {l : Addr} {items : Array Value} {k : Int} {t : Tok} {Q : Value → Shared → Prop} (hA : Calm A s.heap) (hl : s.heap.IsList l items)
    (hout : (items.size : Int) ≤ k) (hlo : -(2 ^ 63) ≤ k) (hhi : k < 2 ^ 63)
    (hE : ∀ h' tk e, NewX s.heap h' e "IndexError" (A.handled.getD .none) → E (.ref e) { s with heap := h', toks := tk }) :
    wpAny (model prog w) A (getItem (.ref l) (.int k t)) Q E s := by
  obtain ⟨o, ho, hc, ne, hd⟩ := id hl
  unfold getItem
  try with_reducible refine wpAny_holding ?_
  first | refine wpAny_bind (wpAny_pure ?_) | skip
  refine wpAny_bind (wpAny_sequenceKey hl.typeIs (by decide) ?_)
  refine wpAny_bind (wpAny_callSpecial?_slot (name := Str.ofString "__getitem__") hl.typeIs slot_list_getitem
    (wpAny_call_entry slot_list_getitem hl.typeIs entry_list_getitem ?_ (args_list_getitem _ _)))
  show wpAny _ _ (Builtin.List.listSubscript? (.int k t) >>= _) _ _ s
  refine wpAny_bind (wpAny_listSubscript_int (fitsIndex_both hlo hhi) ?_)
  clear hlo hhi
  cases k with
  | ofNat j =>
    have hx : items[j]? = none := Array.getElem?_eq_none (by have : (items.size : Int) ≤ (j : Int) := hout; omega)
    show wpAny _ _ ((seqItemAt l j >>= fun r => pure (r.map (j, ·))) >>= _) _ _ s
    refine wpAny_bind (wpAny_bind (wpAny_seqItemAt ho hd (wpAny_pure ?_)))
    rw [hx]
    first
      | exact wpAny_bind (wpAny_rule (raiseWordsX plainExc_IndexError hA hE))
      | exact wpAny_bind (wpAny_rule (wpAny_bind (raiseWordsX plainExc_IndexError hA hE)))
      | exact wpAny_bind (wpAny_bind (wpAny_rule (raiseWordsX plainExc_IndexError hA hE)))
      | exact wpAny_rule (raiseWordsX plainExc_IndexError hA hE)
  | negSucc j => exact absurd hout (by have := Int.negSucc_lt_zero j; omega)
theorem item_outX {value slice : PySem.Expr} {l : Addr} {items : Array Value} {k : Int} {u : Tok} {Q : Value → Shared → Prop} (hA : Calm A s.heap) (hl : s.heap.IsList l items)
    (hout : (items.size : Int) ≤ k) (hlo : -(2 ^ 63) ≤ k) (hhi : k < 2 ^ 63)
    (hE : ∀ h' tk e, NewX s.heap h' e "IndexError" (A.handled.getD .none) → E (.ref e) { s with heap := h', toks := tk })
    (hs : subscripted slice false (.ref l) (.int k u) = operate [.ref l, .int k u] (getItem (.ref l) (.int k u)) := by with_unfolding_all rfl) :
    wpAny (model prog w) A (subscriptTail value slice (.ref l) (.int k u)) Q E s :=
  tail_any hl.typeIs slot_list_getitem.lookup (item_getOut hA hl hout hlo hhi hE) hs
end
end
section
open PySem PySem.W PySem.Calls PyProof.Rows PySem.Spec PyProof.V
structure Hld (g : Heap) (L : Addr) (h : Heap) (m : Str → Option Value) (news : Led) (e : Addr) (cx fl : Value) : Prop where
  fr : Fr g L h m
  ex : ∃ oe vs T oT ts, News g L h ((e, oe) :: (T, oT) :: news) ∧ e ≠ T ∧ (∀ p ∈ news, p.1 ≠ e ∧ p.1 ≠ T) ∧ oe.cls = .type "IndexError" ∧ oe.data = .fields vs ∧ vs[1]? = some (.ref T) ∧ vs[2]? = some cx ∧ oT.data = .fields ts ∧ ts[3]? = some fl
section
variable {prog : Program} {w : World} {A A₀ : Around} {E : Value → Shared → Prop} {s' : Shared} {base g h : Heap} {outer : List Env} {L a e : Addr} {m : Str → Option Value} {name : Str} {scope : Scope} {cd : Value} {news : Led} {cx fl : Value}
theorem Hld.toNA (H : Hld g L h m news e cx fl) : TT.HeldNA g L h m e "IndexError" news fl := by
  obtain ⟨F, oe, vs, T, oT, ts, N, hne, hap, hc, hd, h1, _, hdT, h3⟩ := H
  have Ne := N (e, oe) (.head _)
  have NT := N (T, oT) (.tail _ (.head _))
  refine ⟨⟨F, ⟨oe, vs, T, oT, ts, Ne.1, hc, hd, h1, NT.1, hdT, h3, NT.2.1, (fun q => hne q.symm), NT.2.2⟩, Ne.2.2⟩, fun p hp => N p (.tail _ (.tail _ hp)), ?_⟩
  intro ob ws tb e1 e2 e3 p hp
  have q1 := Ne.1.symm.trans e1
  cases q1
  have q2 := hd.symm.trans e2
  cases q2
  rw [h1] at e3
  cases e3
  exact (hap p hp).2
theorem entryX {env : Env} {oe : Obj} {vs : Array Value} {Q : Unit → Shared → Prop} {s : Shared}
    (hfr : A.frames = some (env :: outer)) (hl : s.heap.FunFrames base (env :: outer)) (hf : env.frame = some L)
    (he : s.heap.get? e = some oe) (hd : oe.data = .fields vs) (h1 : vs[1]? = some .none)
    (k : ∀ h' T oe' oT ts, (∀ b o, s.heap.get? b = some o → b ∉ (env :: outer).filterMap (·.frame) → b ≠ e → h'.get? b = some o) → (∀ b o, s.heap.get? b = some o → b ≠ e → ∃ sl, h'.get? b = some { o with slots := sl }) →
      s.heap.get? T = none → h'.get? e = some oe' → oe'.cls = oe.cls → oe'.data = .fields (vs.setIfInBounds 1 (.ref T)) → h'.get? T = some oT → oT.data = .fields ts → ts[3]? = some (rawInt L) → Q () { s with heap := h' }) :
    wpAny (model prog w) A (noteFrame (.ref e) env) Q E s := by
  have hsz : 1 < vs.size := (Array.getElem?_eq_some_iff.mp h1).1
  unfold noteFrame
  simp only [hf]
  refine wpAny_bind (wpAny_field he hd h1 ?_)
  rw [if_neg (by decide)]
  have hene : e ∉ (env :: outer).filterMap (·.frame) := fun hm => by
    obtain ⟨_, o, ho, hnf⟩ := hl.mem hm
    rw [he] at ho; injection ho with ho; subst ho; exact hnf vs hd
  refine wpAny_bind (wpAny_frameOf_fun hfr hl hf fun h₁ hs₁ => ?_)
  refine wpAny_bind (wpAny_entryPlaceOf fun pl hpl => ?_)
  unfold EntryCells.newEntry newFields
  refine wpAny_bind (wpAny_newObj_type ?_ (hpl.sizeOk5 _ _ _ _ _))
  have he₁ : h₁.get? e = some oe := (hs₁.2.1 e hene).trans he
  have he₂ := Heap.get?_push_of_some (h := h₁) { cls := .type "traceback", dict := none, data := .fields ([.none, .ref L, .none, rawInt L, .none] ++ (if pl.isEmpty then List.replicate 6 Value.none else pl)).toArray } he₁
  have hTe : h₁.objs.size ≠ e := Nat.ne_of_gt (Heap.lt_size he₁)
  have hd₃ := Obj.data_mapFields hd (·.setIfInBounds 1 (Value.ref h₁.objs.size))
  have he₃ := Heap.get?_update_self (Obj.mapFields (·.setIfInBounds 1 (Value.ref h₁.objs.size))) he₂ (Obj.isFreed_of_fields hd₃)
  have hT₃ := (Heap.get?_update_other (h₁.push { cls := .type "traceback", dict := none, data := .fields ([.none, .ref L, .none, rawInt L, .none] ++ (if pl.isEmpty then List.replicate 6 Value.none else pl)).toArray })
    (Obj.mapFields (·.setIfInBounds 1 (Value.ref h₁.objs.size))) (Ne.symm hTe)).trans (Heap.get?_push_size h₁ rfl)
  refine wpAny_setField he₂ hd hsz (k _ h₁.objs.size _ _ _ ?_ ?_ ?_ he₃ (Obj.cls_mapFields _ _) hd₃ hT₃ rfl ?_)
  · intro b o hb hnf hbe
    rw [Heap.get?_update_other _ _ (Ne.symm hbe)]
    exact Heap.get?_push_of_some _ ((hs₁.2.1 b hnf).trans hb)
  · intro b o hb hbe
    obtain ⟨sl, hs⟩ := hs₁.2.2 b o hb
    refine ⟨sl, ?_⟩
    rw [Heap.get?_update_other _ _ (Ne.symm hbe)]
    exact Heap.get?_push_of_some _ hs
  · cases q : s.heap.get? h₁.objs.size with
    | none => rfl
    | some o => obtain ⟨sl, hs⟩ := hs₁.2.2 _ o q; exact absurd (Heap.lt_size hs) (Nat.lt_irrefl _)
  · first | (simp; done) | (rcases hpl with rfl | ⟨_, _, _, _, _, _, _, rfl⟩ <;> simp)
theorem noteX {c : Value} {Q : Unit → Shared → Prop} (hA : A.frames = some (envOf name scope L a cd :: outer)) (K : Below A₀ base outer g) (F : Fr g L h m) (N : News g L h news) (hx : NewX h s'.heap e "IndexError" c)
    (k : ∀ h' g', KtsTurn (outer.filterMap (·.frame)) g g' → Below A₀ base outer g' → Hld g' L h' m news e c (rawInt L) → Q () { s' with heap := h' }) (hk : scope.kind = .function := by rfl) :
    wpAny (model prog w) A (noteFrame (.ref e) (envOf name scope L a cd)) Q E s' := by
  obtain ⟨ob, vs, t, he, hc, hd, hvs⟩ := hx.there
  have K' := K.push (name := name) (a := a) (cd := cd) F hk
  have hl : s'.heap.FunFrames base (envOf name scope L a cd :: outer) := K'.frames.of_keeps fun b o hb _ => ⟨o, hx.keeps b o hb, rfl⟩
  refine entryX hA hl rfl he hd (by rw [hvs]; rfl) fun h' T oe' oT ts k1 k2 hT he' hc' hd' hoT hdT h3 => ?_
  have hne : ∀ b o, h.get? b = some o → b ≠ e := fun b o hb q => by rw [q, hx.new] at hb; cases hb
  obtain ⟨g', Tn, F', B'⟩ := kts_ground (B := hideAll h ((envOf name scope L a cd :: outer).filterMap (·.frame))) (h₅ := h') (name := name) (scope := scope) (a := a) (cd := cd) K F
    (fun b o hb hn => hideAll_get _ hb hn)
    (fun b o hb => k1 b o (hx.keeps b o (of_hideAll _ hb)) (fun hm => by rw [hideAll_none _ hm] at hb; cases hb) (hne b o (of_hideAll _ hb)))
    (fun b o hb _ => k2 b o (hx.keeps b o hb) (hne b o hb))
  have hTh : h.get? T = none := by
    cases q : h.get? T with
    | none => rfl
    | some o => rw [hx.keeps _ _ q] at hT; cases hT
  have hTe : e ≠ T := fun q => by rw [← q, he] at hT; cases hT
  have hTL : T ≠ L := fun q => by obtain ⟨oL, es, ep, hL, _⟩ := F.ns; rw [q, hL] at hTh; cases hTh
  have hLe : e ≠ L := fun q => by obtain ⟨oL, es, ep, hL, _⟩ := F.ns; have := hx.new; rw [q, hL] at this; cases this
  have none' : ∀ b, h.get? b = none → g'.get? b = none := fun b hb => Tn.none_ _ (kts_none F.keep hb)
  refine k h' g' Tn B' ⟨F', oe', _, T, oT, ts, ?_, hTe, ?_, hc'.trans hc, hd', ?_, ?_, hdT, h3⟩
  · intro p hp
    rcases List.mem_cons.mp hp with rfl | hp
    · exact ⟨he', hLe, none' _ hx.new⟩
    rcases List.mem_cons.mp hp with rfl | hp
    · exact ⟨hoT, hTL, none' _ hTh⟩
    obtain ⟨n1, n2, n3⟩ := N p hp
    refine ⟨k1 _ _ (hx.keeps _ _ n1) (fun hm => ?_) (hne _ _ n1), n2, Tn.none_ _ n3⟩
    rcases kts_mem hm with z | z
    · exact n2 z
    · obtain ⟨_, o, ho, _⟩ := K.frames.mem z
      rw [n3] at ho
      cases ho
  · intro p hp
    obtain ⟨n1, n2, n3⟩ := N p hp
    exact ⟨hne _ _ n1, fun q => by rw [q, hTh] at n1; cases n1⟩
  · rw [hvs]; rfl
  · rw [hvs]; rfl
theorem againX {Q : Unit → Shared → Prop} {s : Shared} {env : Env} (hf : env.frame = some L) (H : Hld g L s.heap m news e cx (rawInt L)) (k : Q () s) : wpAny (model prog w) A (noteFrame (.ref e) env) Q E s := by
  obtain ⟨F, oe, vs, T, oT, ts, N, hne, hap, hc, hd, h1, _, hdT, h3⟩ := H
  unfold noteFrame
  simp only [hf]
  refine wpAny_bind (wpAny_field (N _ (.head _)).1 hd h1 ?_)
  rw [if_pos (show (Value.ref T != Value.none) = true from by simp)]
  refine wpAny_bind (wpAny_field (N _ (.tail _ (.head _))).1 hdT h3 ?_)
  rw [if_pos (by simp [rawInt])]
  exact wpAny_pure k
theorem flightX {Q : Unit → Shared → Prop} {s : Shared} {fr : Option Addr} (H : Hld g L s.heap m news e cx fl)
    (k : ∀ h', Hld g L h' m news e cx (fr.elim .none fun f => rawInt f) → Q () { s with heap := h' }) : wpAny (model prog w) A (setFlight (.ref e) fr) Q E s := by
  obtain ⟨F, oe, vs, T, oT, ts, N, hne, hap, hc, hd, h1, h2, hdT, h3⟩ := H
  have NT := N _ (.tail _ (.head _))
  have Ne' := N _ (.head _)
  unfold setFlight
  refine wpAny_bind (wpAny_field Ne'.1 hd h1 ?_)
  rw [if_pos (show (Value.ref T != Value.none) = true from by simp)]
  refine wpAny_setField NT.1 hdT (Array.getElem?_eq_some_iff.mp h3).1 (k _ ?_)
  obtain ⟨oL, esL, epL, hL, hLd, hLk, hLf⟩ := F.ns
  refine ⟨⟨⟨oL, esL, epL, (Heap.get?_update_ne _ _ _ _ (Ne.symm NT.2.1)).trans hL, hLd, hLk, hLf⟩, fun b o hb => (Heap.get?_update_ne _ _ _ _ (fun q => by have := NT.2.2; rw [← q, hb] at this; cases this)).trans (F.keep b o hb), F.above⟩,
    oe, vs, T, _, _, ?_, hne, hap, hc, hd, h1, h2, Obj.data_mapFields hdT (fun x : Array Value => x.setIfInBounds 3 (fr.elim Value.none fun f => rawInt f)), by rw [Array.getElem?_setIfInBounds]; rw [if_pos rfl, if_pos (Array.getElem?_eq_some_iff.mp h3).1]⟩
  intro p hp
  rcases List.mem_cons.mp hp with rfl | hp
  · exact ⟨(Heap.get?_update_ne _ _ _ _ hne).trans Ne'.1, Ne'.2⟩
  rcases List.mem_cons.mp hp with rfl | hp
  · exact ⟨Heap.get?_update_self _ NT.1 (Obj.isFreed_of_fields (Obj.data_mapFields hdT _)), NT.2⟩
  · exact ⟨(Heap.get?_update_ne _ _ _ _ (hap p hp).2).trans (N p (.tail _ (.tail _ hp))).1, (N p (.tail _ (.tail _ hp))).2⟩
theorem passX {α : Type} {Q : α → Shared → Prop} {s : Shared} {env : Env} {what : String} (hf : env.frame = some L) (H : Hld g L s.heap m news e cx fl)
    (k : ∀ h', Hld g L h' m news e cx (rawInt L) → E (.ref e) { s with heap := h' }) : wpAny (model prog w) A (PySem.passOn what (.ref e) env : Sem α) Q E s := by
  obtain ⟨F, oe, vs, T, oT, ts, N, hne, hap, hc, hd, h1, h2, hdT, h3⟩ := id H
  unfold PySem.passOn
  refine wpAny_bind (wpAny_field (N _ (.head _)).1 hd h1 ?_)
  rw [if_neg (show ¬ ((Value.ref T == Value.none) = true) from by simp), hf]
  first
    | exact wpAny_bind (wpAny_pure (wpAny_bind (flightX H fun h' H' => wpAny_throw (k h' H'))))
    | exact wpAny_bind (flightX H fun h' H' => wpAny_throw (k h' H'))
end
end
section
open PySem PySem.W PySem.Calls PyProof.Rows PySem.Spec PyProof.V
section
variable {prog : Program} {w : World} {A : Around} {E : Value → Shared → Prop} {s : Shared} {env : Env}
theorem Try_X {body : List Stmt} {hd₀ : ExceptHandler} {hs : List ExceptHandler} {pos : Pos} {Q : Flow → Shared → Prop} (HS : Value → Shared → Prop)
    (hand : ∀ e s₁, HS e s₁ → wpAny (model prog w) A (noteFrame e env) (fun _ s₂ => wpAny (model prog w) A (setFlight e none) (fun _ s₃ => wpAny (model prog w) A (handleBy e env (hd₀ :: hs)) Q E s₃) E s₂) E s₁)
    (h : ∀ Eo, PassesOwn (model prog w) A env Eo → (∀ v A'', PassesOwnAt (model prog w) (A.mark v) A'' env Eo) → (∀ e s₁, HS e s₁ → Eo e s₁) →
      wpAny (model prog w) A (execs body env) Q Eo s) :
    wpAny (model prog w) A (exec (.Try body (hd₀ :: hs) [] [] pos) env) Q E s := by
  refine wpAny_Try_except (wpAny_mono (h _ PassesOwn.looking (fun v A'' => PassesOwnAt.lookingOf (SameStack.mark A v)) hand) (fun f s₁ hq => ?_) fun _ _ x => x)
  cases f with
  | next => exact wpAny_execs_nil hq
  | _ => exact hq
theorem Fin_X {body : List Stmt} {f₀ : Stmt} {fs : List Stmt} {pos : Pos} {Q : Flow → Shared → Prop} (HS : Value → Shared → Prop) (hPO : PassesOwn (model prog w) A env E) (hPA : ∀ v A'', PassesOwnAt (model prog w) (A.mark v) A'' env E)
    (hand : ∀ e s₁, HS e s₁ → wpAny (model prog w) A (noteFrame e env) (fun _ s₂ => e ≠ byPass ∧ wpAny (model prog w) A (noteFrame e env) (fun _ s₃ => wpAny (model prog w) A (setFlight e none) (fun _ s₄ =>
      wpAny (model prog w) (A.mark (some e)) (execs (f₀ :: fs) env) (fun g s₅ => match g with | .next => wpAny (model prog w) A (PySem.passOn "try.finally" e env) Q E s₅ | g => wpAny (model prog w) A (setFlight e none) (fun _ s₆ => Q g s₆) E s₅) E s₄) E s₃) E s₂) (fun _ _ => False) s₁)
    (h : ∀ Eo, PassesOwn (model prog w) A env Eo → (∀ e s₁, HS e s₁ → Eo e s₁) →
      wpAny (model prog w) A (execs body env) (fun f s₁ => wpAny (model prog w) A (execs (f₀ :: fs) env) (fun g s' => match g with | .next => Q f s' | g => Q g s') E s₁) Eo s) :
    wpAny (model prog w) A (exec (.Try body [] [] (f₀ :: fs) pos) env) Q E s := by
  refine wpAny_Try_finally (wpAny_mono (h _ PassesOwn.looking fun e s₁ x => wpAny_mono (hand e s₁ x) (fun _ s₂ y => ⟨y.1, wpAny_mono y.2 (fun _ s₃ z => wpAny_mono z (fun _ s₄ u => wpAny_mono u (fun g s₅ q => ?_) (hPA _ _)) fun _ _ x => x) fun _ _ x => x⟩) fun _ _ x => x.elim) (fun f s₁ hq => ?_) fun _ _ x => x)
  · have k := wpAny_mono hq (fun g s' q => q) hPO
    cases f with
    | next => exact wpAny_execs_nil k
    | _ => exact k
  · cases g <;> exact q
theorem noteE {base g : Heap} {outer : List Env} {L a e : Addr} {m : Str → Option Value} {name : Str} {scope : Scope} {cd : Value} {news : Led} {A₀ : Around} {Q : Unit → Shared → Prop}
    (hA : A.frames = some (envOf name scope L a cd :: outer)) (B : Below A₀ base outer g) (hx : (∃ h c, Fr g L h m ∧ News g L h news ∧ NewX h s.heap e "IndexError" c) ∨ (∃ cx, Hld g L s.heap m news e cx (rawInt L)))
    (k : ∀ h' g' cx, KtsTurn (outer.filterMap (·.frame)) g g' → Below A₀ base outer g' → Hld g' L h' m news e cx (rawInt L) → Q () { s with heap := h' }) (hk : scope.kind = .function := by rfl) :
    wpAny (model prog w) A (noteFrame (.ref e) (envOf name scope L a cd)) Q E s := by
  rcases hx with ⟨h, c, F₁, N₁, hx⟩ | ⟨cx, H⟩
  · exact noteX hA B F₁ N₁ hx (fun h₂ g₂ Tn₂ B₂ H₂ => k h₂ g₂ _ Tn₂ B₂ H₂) hk
  · exact againX rfl H (k s.heap g _ KtsTurn.refl B H)
end
/-- what stands stays, the frames up to their slots -/
structure KeepU (fs : List Addr) (h h' : Heap) : Prop where
  other : ∀ b o, h.get? b = some o → b ∉ fs → h'.get? b = some o
  frame : ∀ b o, h.get? b = some o → b ∈ fs → ∃ sl, h'.get? b = some { o with slots := sl }
theorem KeepU.of {fs : List Addr} {g g' h' : Heap} (t : KtsTurn fs g g') (k : ∀ b o, g'.get? b = some o → h'.get? b = some o) : KeepU fs g h' :=
  ⟨fun b o e n => k _ _ (t.other b o e n), fun b o e n => by obtain ⟨sl, hs⟩ := t.frame b o e n; exact ⟨sl, k _ _ hs⟩⟩
/-- a def that changes nothing that stands, but raises and catches: the frames' slots change -/
def FnE (w : World) (n : Nat) (f : Addr) (vs : List Value) (kw : List (Str × Value)) (rest : Led) (P : Value → Heap → Heap → Prop) : Prop :=
  ∀ (mean : ExcName → Option Value) (mg mb : Str → Option Value) (dp un : Nat) (gd : Option (List Code)) (cn : Str) (cs : Scope) (a : Addr) (ccd : Value) (cl : List (Str × Addr)) (outer : List Env) (A₀ : Around) (base h₀ : Heap) (L : Addr) (m : Str → Option Value) (s : Shared) (Q : Value → Shared → Prop) (E : Value → Shared → Prop),
    Below A₀ base outer h₀ → Fr h₀ L s.heap m → (hd.heap_39 w.params).In base → (∀ p ∈ rest, s.heap.get? p.1 = some p.2 ∧ p.1 ∉ L :: outer.filterMap (·.frame)) → Top hd.view_39 LS mean mg mb base → cs.kind = .function →
    dp + n < recursionLimit → un + 8 * n < cLine →
    (∀ r h' tk', KeepU (L :: outer.filterMap (·.frame)) s.heap h' → P r s.heap h' → Q r { s with heap := h', toks := tk' }) →
    wpAny (model PG w) (ktrTop dp un gd cn cs L a ccd cl outer) (call (.ref f) vs kw) Q E s
section
variable {prog : Program} {w : World} {A A₀ : Around} {s : Shared} {K : Frag} {L : Addr} {h₀ base : Heap} {m mg mb : Str → Option Value} {p : Program} {loose : List Str} {mean : ExcName → Option Value}
theorem code_defU {env : Env} {outer : List Env} {R : Result → Shared → Prop} {name qual : Str} {params : Arguments} {body : List Stmt} {scope : Scope} {dV kV doc pm cdv ct oc : Value} {an od : Option Addr} {osl : Array (Option Value)} {f : Addr} {args : Args} {binds : List (Str × Value)}
    (B : Below A₀ base outer h₀) (F : Fr h₀ L s.heap m) (X₀ : K.In base) (T : Top p loose mean mg mb base) (hA : A.frames = some (env :: outer)) (hf : env.frame = some L) (hke : env.scope.kind = .function)
    (ho : K.lookup f = some ⟨oc, od, .func (fnOf name qual params body scope dV kV doc pm an cdv ct), osl⟩) (hcd : codeIn K cdv qual = true) (hroom : A.depth < recursionLimit)
    (hbind : BindsTo s (fnOf name qual params body scope dV kV doc pm an cdv ct) args binds) (hloc : ∀ y ∈ binds, scope.names.lookup y.1 = some .local)
    (h : ∀ L' h₁, Fr s.heap L' h₁ (fun y => binds.reverse.lookup y) → News s.heap L' h₁ [] → Below A base (env :: outer) s.heap → K.In s.heap → Top p loose mean mg mb s.heap →
      wpAny (model prog w) (A.deeper (envOf qual scope L' f cdv)) (execs body (envOf qual scope L' f cdv))
        (fun fl s' => R (.ok (.ret (match fl with | .ret v => v | _ => .none))) s')
        (fun e s' => wpAny (model prog w) (A.deeper (envOf qual scope L' f cdv)) (leaving (envOf qual scope L' f cdv) e) (fun _ s'' => R (.error e) s'') (fun e' s'' => R (.error e') s'') s')
        { s with heap := h₁, toks := s.toks + binds.length })
    (hco : scope.isCoroutine = false) (hgen : scope.isGenerator = false) (hk : scope.kind = .function)
    (hcell : ∀ x ∈ scope.names, x.2 ≠ .cell) : codeAny (model prog w) A (.call (.ref f) args) R s := by
  obtain ⟨FG, BG, st, _⟩ := groundX (R := R) (news := []) B F News.nil hA hf hke
  have BG' : Below A base (env :: outer) s.heap := BG
  have X' : K.In s.heap := X₀.keeps BG'.stays
  have T' : Top p loose mean mg mb s.heap := T.keeps BG'.stays
  refine codeAny_call_def (fd := fnX name qual params body scope [] dV kV doc pm an cdv ct) (body := body) (binds := binds) hroom (X' _ _ ho) rfl T'.nolimit (codeRec_of X' hcd) rfl hbind hcell hloc (fun h₁ hns hk₁ => ?_) hco hgen hk
  exact wpAny_mono (h s.heap.objs.size h₁ ⟨hns, fun b o e => hk₁ b o e, Nat.le_refl _⟩ News.nil BG' X' T') (fun fl s' hl => hl) fun _ _ y => y
end
end
section
open PySem PySem.W PyProof.Rows PySem.Spec
set_option maxRecDepth 100000
theorem plainAttrs_pat : PlainAttrs "re.Pattern" :=
  ⟨⟨"object.__getattribute__", by rw [typeLookup_type, builtinLookup_eq_fast]; kernel_rfl, by decide +kernel⟩, by rw [typeLookup_type, builtinLookup_eq_fast]; kernel_rfl⟩
theorem slot_pat_search : Slot "re.Pattern" "search" "re.Pattern.search" :=
  .of (owner := "re.Pattern") (n := "search") (by rw [typeLookup_type, builtinLookup_eq_fast]; kernel_rfl) (by decide +kernel) (by decide +kernel) (by decide +kernel)
    (by first | exact .inl (by decide +kernel) | exact .inr (by decide +kernel)) (by rw [isSubtype_type]; kernel_rfl)
theorem entry_pat_search : entryFor table "re.Pattern.search" = some Builtin.«re.Pattern.search» := entryFor_of_fast (by kernel_rfl)
theorem args_pat_search (a b : Value) : argsOk "re.Pattern.search" ⟨[a, b], []⟩ := by unfold argsOk; kernel_rfl
theorem type_pat_search : typeOf (.builtin "re.Pattern.search") = pure (.type "method_descriptor") := by show builtinType _ = _; rw [builtinType_eq_fast]; kernel_rfl

theorem reNamed_one (v : Value) : Builtin.Re.reNamed "re.Pattern.search" "search" ["string", "pos", "endpos"] 1 [v] [] = pure [some v, none, none] := by rfl

/-- the machine of this pattern's code fails on this text -/
def fails (code : Array Nat) (x : Str) : Bool := match ((Sre.forSearch code x.cps 0 0 (min ((2 ^ 63 - 1 : Int)).toNat x.cps.size) false).runFor 4).outcome with
  | some .failed => true
  | _ => false

section
variable {prog : Program} {w : World} {A : Around} {E : Value → Shared → Prop} {s : Shared}
theorem rules_pass {α : Type} {l : List α} {c : α → Bool} {tag : α → String} {Q : PUnit → Shared → Prop} (h : Q ⟨⟩ s) :
    wpAny (model prog w) A (forIn l PUnit.unit (fun i _ => do
      if c i = true then rule (tag i)
      pure (ForInStep.yield PUnit.unit))) Q E s := by
  induction l with
  | nil => exact wpAny_pure h
  | cons a l ih =>
    rw [List.forIn_cons]
    refine wpAny_bind ?_
    split
    · exact wpAny_bind (wpAny_rule (wpAny_pure ih))
    · exact wpAny_pure ih
theorem drive_end {m : Sre.M} {Q : Sre.M → Shared → Prop} (ho : (m.runFor 4).outcome.isSome = true) (h : Q (m.runFor 4) s) : wpAny (model prog w) A (Builtin.Re.reDrive (2 ^ 64) m) Q E s := by
  show wpAny (model prog w) A (Builtin.Re.reDrive (18446744073709551615 + 1) m) Q E s
  unfold Builtin.Re.reDrive
  show wpAny (model prog w) A (if (m.runFor 4).outcome.isSome = true then pure (m.runFor 4) else _) Q E s
  rw [if_pos ho]
  exact wpAny_pure h
theorem search_none {P C : Addr} {f0 f1 f3 f4 : Value} {items : Array Value} {d1 d2 : Option Addr} {s1 s2 : Array (Option Value)} {cl : Value} {ep : Nat} {x : Str} {t t2 t6 : Tok} {Q : Value → Shared → Prop}
    (ho : s.heap.get? P = some ⟨.type "re.Pattern", d1, .fields #[f0, f1, .int 0 t2, f3, f4, .ref C, .int 0 t6], s1⟩)
    (hc : s.heap.get? C = some ⟨cl, d2, .seq items ep, s2⟩)
    (hf : fails ((items.map Builtin.Re.reRawOf).map (·.toNat)) x = true) (h : Q .none s) :
    wpAny (model prog w) A (call (.builtin "re.Pattern.search") [.ref P, .str x t]) Q E s := by
  refine wpAny_call_entry slot_pat_search (⟨_, ho, rfl⟩ : s.TypeIs (.ref P) "re.Pattern") entry_pat_search ?_ (args_pat_search _ _)
  unfold Builtin.«re.Pattern.search» Builtin.Re.reTarget
  refine wpAny_bind (wpAny_bind (wpAny_of_eq (reNamed_one _) ?_))
  refine wpAny_bind (wpAny_pure (wpAny_bind (wpAny_pure ?_)))
  refine wpAny_bind (wpAny_bind (wpAny_load ho (wpAny_pure ?_)))
  refine wpAny_bind (wpAny_bind (wpAny_pure (wpAny_pure ?_)))
  show wpAny (model prog w) A.in1 (Builtin.Re.reNoCollectionInside (Value.str x t) 0 >>= fun _ => Builtin.Re.reRawItems (.ref C) >>= fun its => pure ({ pattern := Value.ref P, string := Value.str x t, code := its.map (·.toNat), text := x.cps, kind := 0, groups := 0, pos := min ((0 : Int).toNat) x.cps.size, lim := min ((2 ^ 63 - 1 : Int).toNat) x.cps.size } : Builtin.Re.ReTarget)) _ _ _
  refine wpAny_bind (m := Builtin.Re.reNoCollectionInside (Value.str x t) 0) (wpAny_pure ?_)
  refine wpAny_bind (m := Builtin.Re.reRawItems (.ref C)) (wpAny_bind (wpAny_bind (wpAny_load hc (wpAny_pure (wpAny_pure (wpAny_pure ?_))))))
  have hz : min ((0 : Int).toNat) x.cps.size = 0 := Nat.zero_min _
  rw [hz]
  dsimp only [Option.getD_some]
  unfold Builtin.Re.reAnswer Builtin.Re.reRunToEnd
  have hs : ∃ m : Sre.M, m = ((Sre.forSearch ((items.map Builtin.Re.reRawOf).map (·.toNat)) x.cps 0 0 (min ((2 ^ 63 - 1 : Int)).toNat x.cps.size) false).runFor 4) ∧ m.outcome = some .failed := by
    refine ⟨_, rfl, ?_⟩
    unfold fails at hf
    split at hf
    · assumption
    · cases hf
  obtain ⟨m, hm, hof⟩ := hs
  refine wpAny_bind (wpAny_bind (drive_end (by show Option.isSome _ = true; rw [← hm, hof]; rfl) ?_))
  refine wpAny_bind (rules_pass ?_)
  show wpAny (model prog w) A.in1 (match ((Sre.forSearch ((items.map Builtin.Re.reRawOf).map (·.toNat)) x.cps 0 0 (min ((2 ^ 63 - 1 : Int)).toNat x.cps.size) false).runFor 4).outcome with | some .matched => pure (some _) | some .failed => pure none | some (.stuck why) => unsupported _ | none => unsupported _) _ _ _
  rw [← hm, hof]
  exact wpAny_pure (wpAny_pure ⟨_, rfl, h⟩)
theorem pat_method {K : Frag} {h₀ : Heap} {L P : Addr} {m : Str → Option Value} {fs : Array Value} {sl : Array (Option Value)} {pl : Sem Bool} {Q : Value × List Value → Shared → Prop} (F : Fr h₀ L s.heap m) (X : K.In h₀)
    (hl : K.lookup P = some ⟨.type "re.Pattern", none, .fields fs, sl⟩) (h : Q (.builtin "re.Pattern.search", [.ref P]) s) : wpAny (model prog w) A (getMethod (.ref P) "search" pl) Q E s :=
  getMethod_builtin (T := "re.Pattern") (⟨_, F.keep _ _ (X _ _ hl), rfl⟩ : s.TypeIs (.ref P) "re.Pattern") plainAttrs_pat slot_pat_search type_pat_search (fun a e => by cases e; exact ⟨_, F.keep _ _ (X _ _ hl), rfl⟩) h
theorem pat_search {K : Frag} {h₀ : Heap} {L P C : Addr} {m : Str → Option Value} {f0 f1 f3 f4 : Value} {items : Array Value} {d1 d2 : Option Addr} {s1 s2 : Array (Option Value)} {cl : Value} {ep : Nat} {x : Str} {t t2 t6 : Tok} {Q : Value → Shared → Prop}
    (F : Fr h₀ L s.heap m) (X : K.In h₀) (ho : K.lookup P = some ⟨.type "re.Pattern", d1, .fields #[f0, f1, .int 0 t2, f3, f4, .ref C, .int 0 t6], s1⟩)
    (hc : K.lookup C = some ⟨cl, d2, .seq items ep, s2⟩) (hf : fails ((items.map Builtin.Re.reRawOf).map (·.toNat)) x = true) (h : Q .none s) :
    wpAny (model prog w) A (call (.builtin "re.Pattern.search") [.ref P, .str x t]) Q E s :=
  search_none (F.keep _ _ (X _ _ ho)) (F.keep _ _ (X _ _ hc)) hf h
end
def nameCode : Array Nat := ((#[Value.int 14 0, Value.int 10 0, Value.int 4 0, Value.int 1 0, Value.int 1 0, Value.int 22 0, Value.int 0 0, Value.int 31 0, Value.int 16 0, Value.int 127 0, Value.int 0 0, Value.int 13 0, Value.int 7 0, Value.int 22 0,
  Value.int 0 0, Value.int 31 0, Value.int 16 0, Value.int 127 0, Value.int 0 0, Value.int 1 0] : Array Value).map Builtin.Re.reRawOf).map (·.toNat)
def valueCode : Array Nat := ((#[Value.int 14 0, Value.int 14 0, Value.int 4 0, Value.int 1 0, Value.int 1 0, Value.int 9 0, Value.int 4294966783 0, Value.int 0 0, Value.int 0 0, Value.int 2147483648 0, Value.int 0 0, Value.int 0 0, Value.int 0 0, Value.int 0 0, Value.int 0 0,
  Value.int 13 0, Value.int 11 0, Value.int 9 0, Value.int 4294966783 0, Value.int 0 0, Value.int 0 0, Value.int 2147483648 0, Value.int 0 0, Value.int 0 0, Value.int 0 0, Value.int 0 0, Value.int 0 0, Value.int 1 0] : Array Value).map Builtin.Re.reRawOf).map (·.toNat)
theorem fails_test : fails nameCode (Str.ofString "Content-Type") = true := by decide +kernel
theorem fails_test2 : fails valueCode (Str.ofString "text/a") = true := by decide +kernel
theorem fails_test3 : fails valueCode (Str.ofString "text\t/a\x01") = false := by decide +kernel
end
section
open PySem PySem.W PyProof.Rows PySem.Spec PySem.Builtin PySem.Builtin.Str
set_option maxRecDepth 100000
/-- y does not occur in x -/
def lacks (x y : Str) : Bool := (occurrences x y 0 x.length (x.length + 1)).isEmpty
section
variable {prog : Program} {w : World} {A : Around} {E : Value → Shared → Prop} {s : Shared} {x y z : Str} {t u v : Tok} {Q : Value → Shared → Prop}
theorem replace_same (ho : lacks x y = true) (h : Q (.str x t) s) : wpAny (model prog w) A (call (.builtin "str.replace") [.str x t, .str y u, .str z v]) Q E s := by
  have hc : ((occurrences x y 0 x.length (x.length + 1)).isEmpty || (y.length == 0 && z.length == 0)) = true := by unfold lacks at ho; rw [ho]; rfl
  refine call_gives F.slot_str_replace (typeIs_str _ _ _) F.entry_str_replace (F.args_str_replace_3 _ _ _) (gives_str_replace x y z t u v fun h => by rw [hc] at h; cases h) ?_
  rw [hc]
  exact h
end
end
section
open PySem PySem.W PyProof.Rows PySem.Spec
theorem lines_C2 : True := by
  k_with_none
  (k_with "om" => (with_reducible first | assumption | exact Nat.ne_of_lt ‹_› | exact Nat.ne_of_gt ‹_› | exact Ne.symm ‹_› | exact Mine.o_a ‹_› (by decide) | exact Mine.o_b ‹_› (by decide) | exact Mine.o_c ‹_› | exact Mine.o_le (n := 100) ‹_› (by decide) | exact Mine.o_le ‹_› (by decide) | exact Mine.o_l ‹_› (by decide) | exact Mine.o_1 (n := 100) ‹_› (by decide) | exact Mine.o_2 (n := 100) ‹_› (by decide) | exact Mine.o_lt (n := 100) ‹_› (by decide) | exact Mine.o_lt ‹_› (by decide) | exact Mine.o_ll ‹_› (by decide) | exact Mine.o_s ‹_› | exact Mine.o_n _ | exact Mine.o_0 _ | exact Mine.o_i ‹_› (by decide) | exact Mine.o_m ‹_› (by decide) | exact Mine.o_j (n := 100) ‹_› ‹_› (by decide) | exact Mine.o_k ‹_› ‹_› (by decide) | exact Mine.o_e (n := 100) ‹_› ‹_› (by decide) | exact Nat.ne_of_lt (by k_extra "cj") | exact Nat.ne_of_gt (by k_extra "cj") | exact Ne.symm (by k_extra "cj") | k_extra "cj" | fail))
  (k_with "cj" => (first | exact And.left ‹_› | exact Mine.c_2 ‹_› | exact Mine.c_3 ‹_› | exact Mine.c_4 ‹_› | exact Mine.c_5 ‹_› | exact Mine.c_6 ‹_› | exact Mine.c_7 ‹_› | exact Mine.c_8 ‹_› | exact Mine.c_9 ‹_› | exact And.right ‹_› | exact Mine.d_3 ‹_› | exact Mine.d_4 ‹_› | exact Mine.d_5 ‹_› | exact Mine.d_6 ‹_› | exact Mine.d_7 ‹_› | exact Mine.d_8 ‹_› | exact Mine.d_9 ‹_› | fail))
  (k_with "fn ctx" => (((case k1 => k_asm); (case k2 => k_asm); (case k3 => k_asm); (case k4 => k_asm); (case k5 => k_asm); (case kK => first | exact rfl | assumption); (case kd => ktr_room); (case ku => ktr_units))))
  (k_with "getMethod ref" => ((k_here; k_dflt (refine' pat_method ?k1 ?k2 ?k3 ?_; (case k1 => k_asm); (case k2 => k_asm); (case k3 => k_is); k_whole))))
  (k_with "call builtin:re.Pattern.search" => ((k_here; k_dflt (refine' pat_search ?k1 ?k2 ?k3 ?k4 ?k5 ?_; (case k1 => k_asm); (case k2 => k_asm); (case k3 => k_is); (case k4 => k_is); (case k5 => assumption); k_whole))))
  (k_with "call builtin:str.replace" => (refine replace_same (by first | assumption | decide +kernel) ?_))
  trivial

def kindS (k : Int) : Str := Str.ofString "text/" ++ Txt.item (Str.ofString "abcdefgh") (k.fmod 8)
def worthS (x : Int) : Str := Str.ofString (toString (((x.fdiv 8).fmod 11).fdiv 10)) ++ Str.ofString "." ++ Str.ofString (toString (((x.fdiv 8).fmod 11).fmod 10))
def parS (p v : Str) : Str := Str.empty ++ p ++ Str.ofString "=\"" ++ v ++ Str.ofString "\""
set_option maxRecDepth 100000 in
set_option maxHeartbeats 8000000 in
theorem law_kind {w : World} {k : Int} {t : Tok} : FnP w 2 228 [.int k t] [] [] (fun r _ => ∃ t', r = .str (kindS k) t') := by
  unfold FnP
  intro mean mg mb dp un gd cn cs a ccd cl outer A₀ base h₀ L m s Q E B F X hrest T hk hdp hun hret
  refine wpAny_call ?_
  k_dflt (refine' code_defP ?k1 ?k2 ?k3 ?k5 ?kA ?kF ?kK ?k6 ?k7 ?k8 ?k9 ?kB ?_ ?c2 ?c3 ?c4 ?c5; (case kA => exact rfl); (case kF => exact rfl); (case kK => exact hk); (case k1 => exact B); (case k2 => exact F); (case k3 => exact X); (case k5 => exact T); (case k6 => k_is); (case k7 => k_is); (case k8 => ktr_room); (case k9 => first | exact BindsTo.of_eq rfl | exact binds_K (by k_in) rfl (by k_is) rfl rfl rfl); (case c5 => decide); (case kB => exact locs rfl); (case c2 => exact rfl); (case c3 => exact rfl); (case c4 => exact rfl); k_whole; intro g' L' h' FG' F' N' B' X' T' G'; (try dsimp only); (try k_lift B'); (try k_fold))
  k_steps
  exact hret _ _ _ (by assumption) ⟨_, rfl⟩
set_option maxRecDepth 100000 in
set_option maxHeartbeats 8000000 in
theorem law_worth {w : World} {x : Int} {t : Tok} : FnP w 2 235 [.int x t] [] [] (fun r _ => ∃ t', r = .str (worthS x) t') := by
  unfold FnP
  intro mean mg mb dp un gd cn cs a ccd cl outer A₀ base h₀ L m s Q E B F X hrest T hk hdp hun hret
  refine wpAny_call ?_
  k_dflt (refine' code_defP ?k1 ?k2 ?k3 ?k5 ?kA ?kF ?kK ?k6 ?k7 ?k8 ?k9 ?kB ?_ ?c2 ?c3 ?c4 ?c5; (case kA => exact rfl); (case kF => exact rfl); (case kK => exact hk); (case k1 => exact B); (case k2 => exact F); (case k3 => exact X); (case k5 => exact T); (case k6 => k_is); (case k7 => k_is); (case k8 => ktr_room); (case k9 => first | exact BindsTo.of_eq rfl | exact binds_K (by k_in) rfl (by k_is) rfl rfl rfl); (case c5 => decide); (case kB => exact locs rfl); (case c2 => exact rfl); (case c3 => exact rfl); (case c4 => exact rfl); k_whole; intro g' L' h' FG' F' N' B' X' T' G'; (try dsimp only); (try k_lift B'); (try k_fold))
  k_steps
  exact hret _ _ _ (by assumption) ⟨_, rfl⟩
set_option maxRecDepth 100000 in
set_option maxHeartbeats 8000000 in
theorem conv_name {w : World} {self : Value} {v : Str} {t : Tok} (hf : fails nameCode v = true) : FnP w 2 118 [self, .str v t] [(Str.ofString "name", .bool true)] [] (fun r _ => r = .str v t) := by
  unfold FnP
  intro mean mg mb dp un gd cn cs a ccd cl outer A₀ base h₀ L m s Q E B F X hrest T hk hdp hun hret
  refine wpAny_call ?_
  k_dflt (refine' code_defP ?k1 ?k2 ?k3 ?k5 ?kA ?kF ?kK ?k6 ?k7 ?k8 ?k9 ?kB ?_ ?c2 ?c3 ?c4 ?c5; (case kA => exact rfl); (case kF => exact rfl); (case kK => exact hk); (case k1 => exact B); (case k2 => exact F); (case k3 => exact X); (case k5 => exact T); (case k6 => k_is); (case k7 => k_is); (case k8 => ktr_room); (case k9 => first | exact BindsTo.of_eq rfl | exact binds_K (by k_in) rfl (by k_is) rfl rfl rfl); (case c5 => decide); (case kB => exact locs rfl); (case c2 => exact rfl); (case c3 => exact rfl); (case c4 => exact rfl); k_whole; intro g' L' h' FG' F' N' B' X' T' G'; (try dsimp only); (try k_lift B'); (try k_fold))
  k_steps
  exact hret _ _ _ (by assumption) rfl
set_option maxRecDepth 100000 in
set_option maxHeartbeats 8000000 in
theorem conv_value {w : World} {self : Value} {v : Str} {t : Tok} (hf : fails valueCode v = true) : FnP w 2 118 [self, .str v t] [(Str.ofString "name", .bool false)] [] (fun r _ => r = .str v t) := by
  unfold FnP
  intro mean mg mb dp un gd cn cs a ccd cl outer A₀ base h₀ L m s Q E B F X hrest T hk hdp hun hret
  refine wpAny_call ?_
  k_dflt (refine' code_defP ?k1 ?k2 ?k3 ?k5 ?kA ?kF ?kK ?k6 ?k7 ?k8 ?k9 ?kB ?_ ?c2 ?c3 ?c4 ?c5; (case kA => exact rfl); (case kF => exact rfl); (case kK => exact hk); (case k1 => exact B); (case k2 => exact F); (case k3 => exact X); (case k5 => exact T); (case k6 => k_is); (case k7 => k_is); (case k8 => ktr_room); (case k9 => first | exact BindsTo.of_eq rfl | exact binds_K (by k_in) rfl (by k_is) rfl rfl rfl); (case c5 => decide); (case kB => exact locs rfl); (case c2 => exact rfl); (case c3 => exact rfl); (case c4 => exact rfl); k_whole; intro g' L' h' FG' F' N' B' X' T' G'; (try dsimp only); (try k_lift B'); (try k_fold))
  k_steps
  exact hret _ _ _ (by assumption) rfl
set_option maxRecDepth 100000 in
set_option maxHeartbeats 8000000 in
theorem fmt_param {w : World} {p v : Str} {t1 t2 : Tok} (hp : p.length = 1) (hv : v.length = 3) (h1 : lacks v (Str.ofString "\\") = true) (h2 : lacks v (Str.ofString "\"") = true) : FnP w 2 96 [.str p t1, .str v t2] [] [] (fun r _ => ∃ t', r = .str (parS p v) t') := by
  unfold FnP
  intro mean mg mb dp un gd cn cs a ccd cl outer A₀ base h₀ L m s Q E B F X hrest T hk hdp hun hret
  refine wpAny_call ?_
  k_dflt (refine' code_defP ?k1 ?k2 ?k3 ?k5 ?kA ?kF ?kK ?k6 ?k7 ?k8 ?k9 ?kB ?_ ?c2 ?c3 ?c4 ?c5; (case kA => exact rfl); (case kF => exact rfl); (case kK => exact hk); (case k1 => exact B); (case k2 => exact F); (case k3 => exact X); (case k5 => exact T); (case k6 => k_is); (case k7 => k_is); (case k8 => ktr_room); (case k9 => first | exact BindsTo.of_eq rfl | exact binds_K (by k_in) rfl (by k_is) rfl rfl rfl); (case c5 => decide); (case kB => exact locs rfl); (case c2 => exact rfl); (case c3 => exact rfl); (case c4 => exact rfl); k_whole; intro g' L' h' FG' F' N' B' X' T' G'; (try dsimp only); (try k_lift B'); (try k_fold))
  k_steps
  · simp only [Str.length_append, hp, sizeLine_eq]; decide
  exact hret _ _ _ (by assumption) ⟨_, rfl⟩
end
section
open PySem PySem.W PyProof.Rows PySem.Spec
theorem lines_C3 : True := by
  k_with_none
  (k_with "om" => (with_reducible first | assumption | exact Nat.ne_of_lt ‹_› | exact Nat.ne_of_gt ‹_› | exact Ne.symm ‹_› | exact Mine.o_a ‹_› (by decide) | exact Mine.o_b ‹_› (by decide) | exact Mine.o_c ‹_› | exact Mine.o_le (n := 100) ‹_› (by decide) | exact Mine.o_le ‹_› (by decide) | exact Mine.o_l ‹_› (by decide) | exact Mine.o_1 (n := 100) ‹_› (by decide) | exact Mine.o_2 (n := 100) ‹_› (by decide) | exact Mine.o_lt (n := 100) ‹_› (by decide) | exact Mine.o_lt ‹_› (by decide) | exact Mine.o_ll ‹_› (by decide) | exact Mine.o_s ‹_› | exact Mine.o_n _ | exact Mine.o_0 _ | exact Mine.o_i ‹_› (by decide) | exact Mine.o_m ‹_› (by decide) | exact Mine.o_j (n := 100) ‹_› ‹_› (by decide) | exact Mine.o_k ‹_› ‹_› (by decide) | exact Mine.o_e (n := 100) ‹_› ‹_› (by decide) | exact Nat.ne_of_lt (by k_extra "cj") | exact Nat.ne_of_gt (by k_extra "cj") | exact Ne.symm (by k_extra "cj") | k_extra "cj" | fail))
  (k_with "cj" => (first | exact And.left ‹_› | exact Mine.c_2 ‹_› | exact Mine.c_3 ‹_› | exact Mine.c_4 ‹_› | exact Mine.c_5 ‹_› | exact Mine.c_6 ‹_› | exact Mine.c_7 ‹_› | exact Mine.c_8 ‹_› | exact Mine.c_9 ‹_› | exact And.right ‹_› | exact Mine.d_3 ‹_› | exact Mine.d_4 ‹_› | exact Mine.d_5 ‹_› | exact Mine.d_6 ‹_› | exact Mine.d_7 ‹_› | exact Mine.d_8 ‹_› | exact Mine.d_9 ‹_› | fail))
  (k_with "callWith ref" => ((k_here; (with_reducible show wpAny _ _ (callWith _ (Value.ref _) _ (backTo _ (starEach (_ :: _) _)) (backToKw _ (keywordEach (_ :: _) _))) _ _ _); k_dflt (refine' callWith_KW ?k1 ?k2 ?k3 ?_; (case k1 => k_asm); (case k2 => k_is); (case k3 => exact rfl); k_whole))))
  (k_with "fn ctx" => (((case k1 => k_asm); (case k2 => k_asm); (case k3 => k_asm); (case k4 => k_asm); (case k5 => k_asm); (case kK => first | exact rfl | assumption); (case kd => ktr_room); (case ku => ktr_units))))
  (k_with "call builtin:str.replace" => (refine replace_same (by first | assumption | decide +kernel) ?_))
  (k_with "call ref" => ((k_here; (with_reducible show wpAny _ _ (call (Value.ref 118) _ _) _ _ _); k_dflt ((show wpAny _ _ (call (Value.ref 118) [_, Value.str _ _] [(Str.ofString "name", Value.bool true)]) _ _ _); refine' ((conv_name ?hf0)).use ?k1 ?k2 ?k3 ?k4 ?k5 ?kK ?kd ?ku ?kz ?_; (case hf0 => first | assumption | decide +kernel); (walk_at "fn ctx"); (case kz => exact fun _ h => nomatch h); intro zqr9 zqh9 zqtk9 zqF9 zqN9 zqk9 zqho9; (try dsimp only at zqho9); subst zqho9; (try dsimp only); (try k_sweep)))))
  (k_with "call ref" => ((k_here; (with_reducible show wpAny _ _ (call (Value.ref 118) _ _) _ _ _); k_dflt ((show wpAny _ _ (call (Value.ref 118) [_, Value.str _ _] [(Str.ofString "name", Value.bool false)]) _ _ _); refine' ((conv_value ?hf0)).use ?k1 ?k2 ?k3 ?k4 ?k5 ?kK ?kd ?ku ?kz ?_; (case hf0 => first | assumption | decide +kernel); (walk_at "fn ctx"); (case kz => exact fun _ h => nomatch h); intro zqr9 zqh9 zqtk9 zqF9 zqN9 zqk9 zqho9; (try dsimp only at zqho9); subst zqho9; (try dsimp only); (try k_sweep)))))
  (k_with "call ref" => ((k_here; (with_reducible show wpAny _ _ (call (Value.ref 96) _ _) _ _ _); k_dflt (refine' ((fmt_param ?hf0 ?hf1 ?hf2 ?hf3)).use ?k1 ?k2 ?k3 ?k4 ?k5 ?kK ?kd ?ku ?kz ?_; (case hf0 => first | assumption | decide +kernel); (case hf1 => first | assumption | decide +kernel); (case hf2 => first | assumption | decide +kernel); (case hf3 => first | assumption | decide +kernel); (walk_at "fn ctx"); (case kz => exact fun _ h => nomatch h); intro zqr9 zqh9 zqtk9 zqF9 zqN9 zqk9 zqho9; obtain ⟨zqt9, zqhr9⟩ := zqho9; subst zqhr9; (try dsimp only); (try k_sweep)))))
  (k_with "call builtin:str.join" => ((k_here; (with_reducible show wpAny _ _ (call (Value.builtin _) [Value.str _ _, Value.ref _]) _ _ _); k_dflt (first | (refine' join_list (by is_list) (StrsAre.cons _ _ (StrsAre.cons _ _ StrsAre.nil)) ?z ?_; (case z => exact joins2 (by assumption) (by first | assumption | exact parS_len (by assumption))); intro zqt9 zqk9) | (refine' join_list (by is_list) (StrsAre.cons _ _ StrsAre.nil) ?z ?_; (case z => exact joins1 (by assumption)); intro zqt9 zqk9)))))
  trivial
theorem joins2 {a b : Str} (ha : a.length ≤ 100) (hb : b.length ≤ 100) : (([a, b] : List Str).map (·.length)).sum + ([a, b] : List Str).length * (Str.ofString "; ").length ≤ 16777216 := by
  have : (Str.ofString "; ").length = 2 := by decide +kernel
  simp [this]; omega
theorem joins1 {a : Str} (ha : a.length ≤ 100) : (([a] : List Str).map (·.length)).sum + ([a] : List Str).length * (Str.ofString "; ").length ≤ 16777216 := by
  have : (Str.ofString "; ").length = 2 := by decide +kernel
  simp [this]; omega
theorem parS_len {v : Str} (hv : v.length = 3) : (parS (Str.ofString "q") v).length ≤ 100 := by
  have h1 : (Str.ofString "q").length = 1 := by decide +kernel
  have h2 : (Str.ofString "=\"").length = 2 := by decide +kernel
  have h3 : (Str.ofString "\"").length = 1 := by decide +kernel
  have h4 : Str.empty.length = 0 := rfl
  simp only [parS, Str.length_append, h1, h2, h3, h4, hv]; omega
abbrev tup2 (a b : Value) : Obj := { cls := .type "tuple", data := .seq #[a, b] }
set_option maxRecDepth 100000 in
set_option maxHeartbeats 8000000 in
theorem add_header {w : World} {x dx hl : Addr} {hh : Int} {tk0 nd n : Nat} {vs : Array Value} {rest : Led} {nm kd wt: Str} {t1 t2 t3: Tok}
   (d1 : x ≠ dx) (d2 : x ≠ hl) (d3 : dx ≠ hl) (hvs: vs.size ≤ 1000)
   (f1: fails nameCode nm = true) (f2 : fails valueCode kd = true) (f3: fails valueCode wt = true) (h3 : wt.length = 3) (h4 : kd.length ≤ 100) (h1 : lacks wt (Str.ofString "\\") = true) (h2 : lacks wt (Str.ofString "\"") = true) :
   FnM w 6 214 [.ref x, .str nm t1, .str kd t2] [(Str.ofString "q", .str wt t3)] [(x, instObj 217 dx), (dx, dictOf [⟨hh, .str (Str.ofString "_headers") tk0, .ref hl⟩] nd), (hl, listOf vs n)] rest
  (fun r muts' => r = .none ∧ ∃ a t5, muts' = [(a, tup2 (.str nm t1) (.str (Txt.join (Str.ofString "; ") [kd, parS (Str.ofString "q") wt]) t5)), (x, instObj 217 dx), (dx, dictOf [⟨hh, .str (Str.ofString "_headers") tk0, .ref hl⟩] nd), (hl, listOf (vs.push (.ref a)) (n+1))] ∧ x < a ∧ dx < a ∧ hl < a) := by
  unfold FnM
  intro mean mg mb dp un gd cn cs a ccd cl outer A₀ base h₀ L m s Q E B F X N NR hrL sep T hk hdp hun hret
  refine wpAny_call ?_
  k_dflt (refine' kp_moreS ?k1 ?k2 ?k3 ?k4 ?kU ?kL ?kS ?k5 ?kA ?kF ?kK ?k6 ?k7 ?k8 ?kX ?kM ?kN ?kD ?kR ?kP ?kT ?kB ?_ ?c2 ?c3 ?c4 ?c5; (case kA => exact rfl); (case kF => exact rfl); (case kK => exact hk); (case k1 => exact B); (case k2 => exact F); (case k3 => exact X); (case k4 => exact N); (case kU => exact NR); (case kL => exact hrL); (case kS => exact sep); (case k5 => exact T); (case k6 => k_is); (case k7 => k_is); (case k8 => ktr_room); (case kX => kp_lit); (case kM => exact rfl); (case kN => exact rfl); (case kD => kp_flats); (case kR => exact rfl); (case kP => exact rfl); (case kT => exact fun _ => rfl); (case kB => exact fun _ => locs rfl); (case c5 => decide); (case c2 => exact rfl); (case c3 => exact rfl); (case c4 => exact rfl); k_whole; intro D' o' g' L' h' tk' l1 lo' hs' fs' FG' F' N' B' X' T' G'; (try k_lt l1); (try dsimp only); (try k_lift B'); (try k_fold))
  k_steps
  (try dsimp only)
  rename News h₀ L _ (List.cons _ _) => kN9
  refine' hret _ _ _ _ ?kf (cb_drop kN9 ?ks) ?kr ⟨rfl, _, _, rfl, ?kl⟩
  case kf => k_asm
  case ks => kcj_all
  case kr => assumption
  case kl => exact ⟨ltN (by omega), ltN (by omega), ltN (by omega)⟩
set_option maxRecDepth 100000 in
set_option maxHeartbeats 8000000 in
theorem add_header0 {w : World} {x dx hl : Addr} {hh : Int} {tk0 nd n : Nat} {vs : Array Value} {rest : Led} {nm kd: Str} {t1 t2: Tok}
   (d1 : x ≠ dx) (d2 : x ≠ hl) (d3 : dx ≠ hl) (hvs: vs.size ≤ 1000)
   (f1: fails nameCode nm = true) (f2 : fails valueCode kd = true) (h4 : kd.length ≤ 100) :
   FnM w 6 214 [.ref x, .str nm t1, .str kd t2] [] [(x, instObj 217 dx), (dx, dictOf [⟨hh, .str (Str.ofString "_headers") tk0, .ref hl⟩] nd), (hl, listOf vs n)] rest
  (fun r muts' => r = .none ∧ ∃ a t5, muts' = [(a, tup2 (.str nm t1) (.str (Txt.join (Str.ofString "; ") [kd]) t5)), (x, instObj 217 dx), (dx, dictOf [⟨hh, .str (Str.ofString "_headers") tk0, .ref hl⟩] nd), (hl, listOf (vs.push (.ref a)) (n+1))] ∧ x < a ∧ dx < a ∧ hl < a) := by
  unfold FnM
  intro mean mg mb dp un gd cn cs a ccd cl outer A₀ base h₀ L m s Q E B F X N NR hrL sep T hk hdp hun hret
  refine wpAny_call ?_
  k_dflt (refine' kp_moreS ?k1 ?k2 ?k3 ?k4 ?kU ?kL ?kS ?k5 ?kA ?kF ?kK ?k6 ?k7 ?k8 ?kX ?kM ?kN ?kD ?kR ?kP ?kT ?kB ?_ ?c2 ?c3 ?c4 ?c5; (case kA => exact rfl); (case kF => exact rfl); (case kK => exact hk); (case k1 => exact B); (case k2 => exact F); (case k3 => exact X); (case k4 => exact N); (case kU => exact NR); (case kL => exact hrL); (case kS => exact sep); (case k5 => exact T); (case k6 => k_is); (case k7 => k_is); (case k8 => ktr_room); (case kX => kp_lit); (case kM => exact rfl); (case kN => exact rfl); (case kD => kp_flats); (case kR => exact rfl); (case kP => exact rfl); (case kT => exact fun _ => rfl); (case kB => exact fun _ => locs rfl); (case c5 => decide); (case c2 => exact rfl); (case c3 => exact rfl); (case c4 => exact rfl); k_whole; intro D' o' g' L' h' tk' l1 lo' hs' fs' FG' F' N' B' X' T' G'; (try k_lt l1); (try dsimp only); (try k_lift B'); (try k_fold))
  k_steps
  (try dsimp only)
  rename News h₀ L _ (List.cons _ _) => kN9
  refine' hret _ _ _ _ ?kf (cb_drop kN9 ?ks) ?kr ⟨rfl, _, _, rfl, ?kl⟩
  case kf => k_asm
  case ks => kcj_all
  case kr => assumption
  case kl => exact ⟨ltN (by omega), ltN (by omega), ltN (by omega)⟩
end
section
open PySem PySem.W PySem.Calls PyProof.Rows PySem.Spec PyProof.V
set_option maxRecDepth 100000
/-- a text with its token -/
abbrev ST := Str × Tok
abbrev ST.v (x : ST) : Value := .str x.1 x.2
def svals (xs : List ST) : Array Value := (xs.map ST.v).toArray
theorem svals_size (xs : List ST) : (svals xs).size = xs.length := by simp [svals]
theorem svals_get {xs : List ST} {i : Nat} {x : ST} (h : xs[i]? = some x) : (svals xs)[((i : Nat) : Int).toNat]? = some x.v := by simp [svals, h]
theorem svals_push (xs : List ST) (x : ST) : (svals xs).push x.v = svals (xs ++ [x]) := by simp [svals]
theorem svals_append (xs ys : List ST) : svals xs ++ svals ys = svals (xs ++ ys) := by simp [svals]
section
variable {prog : Program} {w : World} {A : Around} {E : Value → Shared → Prop} {s : Shared} {h₀ : Heap} {L l D b : Addr} {m : Str → Option Value} {news : List (Addr × Obj)} {value slice : PySem.Expr} {n n2 : Nat} {xs ms zs : List ST} {Q : Value → Shared → Prop}
theorem pick_from (its : Array Value) (i : Nat) : slicePick its (some (i : Int)) none none = (its.toList.drop i).toArray := by
  have e : sliceBounds (some (i : Int)) none none its.size = (((min i its.size : Nat) : Int), ((its.size : Nat) : Int), 1) := by
    simp only [sliceBounds, Option.getD_none, show (1 : Int) > 0 by decide, if_true, if_neg (show ¬ ((i : Int) < 0) by omega)]
    congr 1
    omega
  rw [kmk_pick_nat _ e]
  congr 1
  rw [← Array.length_toList, kmk_drop_min]
  exact List.take_of_length_le (by rw [List.length_drop]; omega)
theorem slice_from {i : Nat} {t : Tok} (F : Fr h₀ L s.heap m) (N : News h₀ L s.heap news) (hg : h₀.get? l = some (lst (svals xs) n)) (hz : xs.length < 2 ^ 20)
    (h : ∀ D h', Fr h₀ L h' m → News h₀ L h' ((D, listOf (svals (xs.drop i)) 0) :: news) → (∀ p ∈ news, p.1 < D) → Q (.ref D) { s with heap := h' })
    (hs : subscripted slice false (.ref l) (.ref s.heap.objs.size) = operate [.ref s.heap.objs.size, .ref l] (getItem (.ref l) (.ref s.heap.objs.size))) (ht : ∀ r, letTemporaryGo value (.ref l) r = pure ()) :
    wpAny (model prog w) A (subscriptTail value slice (.ref l) (.ref s.heap.objs.size)) Q E { s with heap := s.heap.push { cls := .type "slice", data := .fields #[.int (i : Int) t, .none, .none] } } := by
  refine kmk_slice (its := svals xs) F N (PySem.IsL.isList (n := n) (F.keep _ _ hg)) (IsPart.int _ _) IsPart.none (fun D h' F' N' l1 => h D h' F' ?_ l1) hs ht (by rw [svals_size, sizeLine_eq]; omega)
  rw [pick_from] at N'
  have e : ((svals xs).toList.drop i).toArray = svals (xs.drop i) := by simp [svals]
  rw [e] at N'; exact N'
theorem extend_ST {news' : Nat → List (Addr × Obj)} (F : Fr h₀ L s.heap m) (N : News h₀ L s.heap news) (hb : (b, listOf (svals zs) n2) ∈ news)
    (U : ∀ n', Upd D (listOf (svals ms) n) (listOf (svals (ms ++ zs)) n') news (news' n')) (hz : ms.length + zs.length < 2 ^ 20)
    (h : ∀ n' h', Fr h₀ L h' m → News h₀ L h' (news' n') → Q .none { s with heap := h' }) : wpAny (model prog w) A (call (.builtin "list.extend") [.ref D, .ref b]) Q E s := by
  have hd : ¬(!(svals ms).isEmpty && Builtin.List.listTooLong ((svals ms).size + (svals zs).size)) = true := by
    rw [svals_size, svals_size]
    have : Builtin.List.listTooLong (ms.length + zs.length) = false := by unfold Builtin.List.listTooLong; simp [sizeLine_eq]; omega
    rw [this]; simp
  have l1 : (svals ms).toList.length = ms.length := by simp [svals]
  have l2 : (svals zs).toList.length = zs.length := by simp [svals]
  cases zs with
  | nil =>
    refine kxn_extend F N hb rfl (by have := U n; rw [List.append_nil] at this; exact this) hd (by rw [l1, sizeLine_eq]; simp at hz; omega) (by rw [svals_size, svals_size, sizeLine_eq]; omega) (h n)
  | cons z zs =>
    refine kl_extend F N hb (by rw [show (svals ms).toList ++ (svals (z :: zs)).toList = (svals (ms ++ z :: zs)).toList by simp [svals]]; rfl) (by rw [l2]; simp) (U (n + 1)) hd (by rw [l1, sizeLine_eq]; omega) (by rw [svals_size, svals_size, sizeLine_eq]; omega) (h (n + 1))
end
end
section
open PySem PySem.W PyProof.Rows PySem.Spec PySem.Calls PyProof.V
theorem iteT' {c : Prop} [Decidable c] {P Q : Prop} (hc : c) (h : P) : if c then P else Q := by rw [if_pos hc]; exact h
theorem iteF' {c : Prop} [Decidable c] {P Q : Prop} (hc : ¬ c) (h : Q) : if c then P else Q := by rw [if_neg hc]; exact h
theorem dropCons {α : Type} {xs : List α} {i : Nat} {x : α} (h : xs[i]? = some x) : xs.drop i = x :: xs.drop (i + 1) := by
  obtain ⟨hi, rfl⟩ := List.getElem?_eq_some_iff.mp h
  exact List.drop_eq_getElem_cons hi
theorem dwStop {xs : List ST} {i : Nat} {z : ST} {x : Str} (h : xs[i]? = some z) (hne : ¬ z.1 = x) : (xs.drop i).dropWhile (fun z => z.1 == x) = xs.drop i := by
  rw [dropCons h, List.dropWhile_cons, if_neg (by simpa using hne)]
theorem dwGo {xs : List ST} {i : Nat} {z : ST} {x : Str} (h : xs[i]? = some z) (hne : z.1 = x) : (xs.drop (i + 1)).dropWhile (fun z => z.1 == x) = (xs.drop i).dropWhile (fun z => z.1 == x) := by
  rw [dropCons h, List.dropWhile_cons, if_pos (by simpa using hne)]
def Scn (M : Str → Option Value) (news : Led) (idx : Str) (xs : List ST) (x : Str) (i₀ : Nat) (n : Nat) (m : Str → Option Value) (news' : Led) : Prop :=
  news' = news ∧ (∀ y, y ≠ idx → m y = M y) ∧ ∃ i t, m idx = some (.int (i : Nat) t) ∧ i₀ ≤ i ∧ i ≤ xs.length ∧ n = xs.length - i ∧ (xs.drop i).dropWhile (fun z => z.1 == x) = (xs.drop i₀).dropWhile (fun z => z.1 == x)
section
variable {w : World} {A : Around} {cn : Str} {cs : Scope} {L a : Addr} {ccd : Value} {cl : List (Str × Addr)} {g : Heap} {s : Shared} {Q : Flow → Shared → Prop} {E : Value → Shared → Prop} {m : Str → Option Value} {news : Led} {nl ni ne : Str} {le : Addr} {nn i₀ kk : Nat} {xs : List ST} {x : Str} {tx t0 : Tok} {p1 p2 p3 p4 p5 p6 p7 p8 p9 : Pos}
set_option maxRecDepth 100000 in
set_option maxHeartbeats 8000000 in
theorem scan (hk : cs.kind = .function) (c1 : (envX cn cs L a ccd cl).kindOf nl = some .local) (c2 : (envX cn cs L a ccd cl).kindOf ni = some .local) (c3 : (envX cn cs L a ccd cl).kindOf ne = some .local)
    (b1 : (nl == ("__debug__" : Str)) = false) (b2 : (ni == ("__debug__" : Str)) = false) (b3 : (ne == ("__debug__" : Str)) = false) (n1 : nl ≠ ni) (n3 : ne ≠ ni)
    (F : Fr g L s.heap m) (N : News g L s.heap news) (hg : g.get? le = some (lst (svals xs) nn)) (m1 : m nl = some (.ref le)) (m2 : m ni = some (.int (i₀ : Nat) t0)) (m3 : m ne = some (.str x tx)) (hi : i₀ ≤ xs.length) (hl : xs.length < 2 ^ 19)
    (calm : ∀ h, News g L h news → Calm A h) (hPO : PassesOwn (model PG w) A (envX cn cs L a ccd cl) E)
    (next : ∀ m' i t h tk, (∀ y, y ≠ ni → m' y = m y) → m' ni = some (.int (i : Nat) t) → i₀ ≤ i → i < xs.length → (xs.drop i₀).dropWhile (fun z => z.1 == x) = xs.drop i → Fr g L h m' → News g L h news → Q .next { s with heap := h, toks := tk })
    (out : ∀ m' t h h' tk e, (∀ y, y ≠ ni → m' y = m y) → m' ni = some (.int (xs.length : Nat) t) → (xs.drop i₀).dropWhile (fun z => z.1 == x) = xs.drop xs.length → Fr g L h m' → News g L h news → NewX h h' e "IndexError" (A.handled.getD .none) → E (.ref e) { s with heap := h', toks := tk }) :
    wpAny (model PG w) A (exec (.While (.Compare (.Subscript (.Name nl p1) (.Name ni p2) p3) [.Eq] [.Name ne p4] p5) [.AugAssign (.Name ni p6) .Add (.Constant (.int 1) kk p7) p8] [] p9) (envX cn cs L a ccd cl)) Q E s := by
  refine While_B (Scn m news ni xs x i₀) F N ⟨rfl, fun _ _ => rfl, i₀, _, m2, Nat.le_refl _, hi, rfl, rfl⟩ ?_ hPO
  clear F N m2
  intro n4 m4 news4 h4 tk4 F4 N4 hJ4
  obtain ⟨rfl, hm4, i4, t4, hi4, h04, hle4, hn4, hdw4⟩ := hJ4
  have r1 : m4 nl = some (.ref le) := (hm4 nl n1).trans m1
  have r3 : m4 ne = some (.str x tx) := (hm4 ne n3).trans m3
  by_cases hlt4 : i4 < xs.length
  · have hz4 : xs[i4]? = some xs[i4] := List.getElem?_eq_getElem hlt4
    generalize xs[i4] = z4 at hz4
    have hw4 := svals_get hz4
    repeat' (first | (k_unfold; (try dsimp only)) | ((fail_if_success (with_reducible show @ite _ _ _ _ _)); (fail_if_success (with_reducible show wpAny _ _ (eval (Expr.Name _ _) _) _ _ _)); (fail_if_success (with_reducible show wpAny _ _ (storeName _ _ _) _ _ _)); walk1) | ((fail_if_success (with_reducible show @ite _ _ _ _ _)); (fail_if_success (with_reducible show wpAny _ _ (eval (Expr.Name _ _) _) _ _ _)); (fail_if_success (with_reducible show wpAny _ _ (storeName _ _ _) _ _ _)); dsimp only; walk1))
    refine nameX_L F4 r1 ?_ hk c1 b1
    refine nameX_L F4 hi4 ?_ hk c2 b2
    refine item_base F4 hg (by omega) (by omega) hw4 ?_ (by with_unfolding_all rfl)
    refine nameX_L F4 r3 ?_ hk c3 b3
    repeat' (first | (k_unfold; (try dsimp only)) | ((fail_if_success (with_reducible show @ite _ _ _ _ _)); (fail_if_success (with_reducible show wpAny _ _ (eval (Expr.Name _ _) _) _ _ _)); (fail_if_success (with_reducible show wpAny _ _ (storeName _ _ _) _ _ _)); walk1) | ((fail_if_success (with_reducible show @ite _ _ _ _ _)); (fail_if_success (with_reducible show wpAny _ _ (eval (Expr.Name _ _) _) _ _ _)); (fail_if_success (with_reducible show wpAny _ _ (storeName _ _ _) _ _ _)); dsimp only; walk1))
    by_cases hc : (z4.1 == x) = true
    · refine iteT' hc ?_
      repeat' (first | (k_unfold; (try dsimp only)) | ((fail_if_success (with_reducible show @ite _ _ _ _ _)); (fail_if_success (with_reducible show wpAny _ _ (eval (Expr.Name _ _) _) _ _ _)); (fail_if_success (with_reducible show wpAny _ _ (storeName _ _ _) _ _ _)); walk1) | ((fail_if_success (with_reducible show @ite _ _ _ _ _)); (fail_if_success (with_reducible show wpAny _ _ (eval (Expr.Name _ _) _) _ _ _)); (fail_if_success (with_reducible show wpAny _ _ (storeName _ _ _) _ _ _)); dsimp only; walk1))
      refine wpAny_loadName_local hk c2 F4.ns hi4 ?_
      repeat' (first | (k_unfold; (try dsimp only)) | ((fail_if_success (with_reducible show @ite _ _ _ _ _)); (fail_if_success (with_reducible show wpAny _ _ (eval (Expr.Name _ _) _) _ _ _)); (fail_if_success (with_reducible show wpAny _ _ (storeName _ _ _) _ _ _)); walk1) | ((fail_if_success (with_reducible show @ite _ _ _ _ _)); (fail_if_success (with_reducible show wpAny _ _ (eval (Expr.Name _ _) _) _ _ _)); (fail_if_success (with_reducible show wpAny _ _ (storeName _ _ _) _ _ _)); dsimp only; walk1))
      refine storeX_L F4 N4 (fun h' F' N' => ?_) hk c2
      repeat' (first | (k_unfold; (try dsimp only)) | ((fail_if_success (with_reducible show @ite _ _ _ _ _)); (fail_if_success (with_reducible show wpAny _ _ (eval (Expr.Name _ _) _) _ _ _)); (fail_if_success (with_reducible show wpAny _ _ (storeName _ _ _) _ _ _)); walk1) | ((fail_if_success (with_reducible show @ite _ _ _ _ _)); (fail_if_success (with_reducible show wpAny _ _ (eval (Expr.Name _ _) _) _ _ _)); (fail_if_success (with_reducible show wpAny _ _ (storeName _ _ _) _ _ _)); dsimp only; walk1))
      refine ⟨_, _, _, _, xs.length - (i4 + 1), rfl, F', N', by omega, rfl, fun y hy => (if_neg hy).trans (hm4 y hy), i4 + 1, _, if_pos rfl, by omega, by omega, rfl, (dwGo hz4 (by simpa using hc)).trans hdw4⟩
    · refine iteF' hc ?_
      exact next m4 i4 _ _ _ hm4 hi4 h04 hlt4 (hdw4.symm.trans (dwStop hz4 (by simpa using hc))) F4 N4
  · have hout : ((svals xs).size : Int) ≤ (i4 : Int) := by rw [svals_size]; omega
    obtain rfl : i4 = xs.length := by omega
    repeat' (first | (k_unfold; (try dsimp only)) | ((fail_if_success (with_reducible show @ite _ _ _ _ _)); (fail_if_success (with_reducible show wpAny _ _ (eval (Expr.Name _ _) _) _ _ _)); (fail_if_success (with_reducible show wpAny _ _ (storeName _ _ _) _ _ _)); walk1) | ((fail_if_success (with_reducible show @ite _ _ _ _ _)); (fail_if_success (with_reducible show wpAny _ _ (eval (Expr.Name _ _) _) _ _ _)); (fail_if_success (with_reducible show wpAny _ _ (storeName _ _ _) _ _ _)); dsimp only; walk1))
    refine nameX_L F4 r1 ?_ hk c1 b1
    refine nameX_L F4 hi4 ?_ hk c2 b2
    refine item_outX (calm _ N4) (PySem.IsL.isList (F4.keep _ _ hg)) hout (by omega) (by omega) (fun h' tk' e' x' => ?_) (by with_unfolding_all rfl)
    exact out m4 _ _ _ _ _ hm4 hi4 (hdw4.symm.trans (by rw [List.drop_of_length_le (Nat.le_refl _)]; rfl)) F4 N4 x'
end
end
section
open PySem PySem.W PyProof.Rows PySem.Spec
theorem lines_D1 : True := by
  k_with_none
  (k_with "om" => (with_reducible first | assumption | exact Nat.ne_of_lt ‹_› | exact Nat.ne_of_gt ‹_› | exact Ne.symm ‹_› | exact Mine.o_a ‹_› (by decide) | exact Mine.o_b ‹_› (by decide) | exact Mine.o_c ‹_› | exact Mine.o_le (n := 100) ‹_› (by decide) | exact Mine.o_le ‹_› (by decide) | exact Mine.o_l ‹_› (by decide) | exact Mine.o_1 (n := 100) ‹_› (by decide) | exact Mine.o_2 (n := 100) ‹_› (by decide) | exact Mine.o_lt (n := 100) ‹_› (by decide) | exact Mine.o_lt ‹_› (by decide) | exact Mine.o_ll ‹_› (by decide) | exact Mine.o_s ‹_› | exact Mine.o_n _ | exact Mine.o_0 _ | exact Mine.o_i ‹_› (by decide) | exact Mine.o_m ‹_› (by decide) | exact Mine.o_j (n := 100) ‹_› ‹_› (by decide) | exact Mine.o_k ‹_› ‹_› (by decide) | exact Mine.o_e (n := 100) ‹_› ‹_› (by decide) | exact Nat.ne_of_lt (by k_extra "cj") | exact Nat.ne_of_gt (by k_extra "cj") | exact Ne.symm (by k_extra "cj") | k_extra "cj" | fail))
  (k_with "cj" => (first | exact And.left ‹_› | exact Mine.c_2 ‹_› | exact Mine.c_3 ‹_› | exact Mine.c_4 ‹_› | exact Mine.c_5 ‹_› | exact Mine.c_6 ‹_› | exact Mine.c_7 ‹_› | exact Mine.c_8 ‹_› | exact Mine.c_9 ‹_› | exact And.right ‹_› | exact Mine.d_3 ‹_› | exact Mine.d_4 ‹_› | exact Mine.d_5 ‹_› | exact Mine.d_6 ‹_› | exact Mine.d_7 ‹_› | exact Mine.d_8 ‹_› | exact Mine.d_9 ‹_› | fail))
  (k_with "fn ctx" => (((case k1 => k_asm); (case k2 => k_asm); (case k3 => k_asm); (case k4 => k_asm); (case k5 => k_asm); (case kK => first | exact rfl | assumption); (case kd => ktr_room); (case ku => ktr_units))))
  (k_with "eval Name" => ((k_here; k_dflt (refine' ld ?k1 ?k2 ?_; (case k1 => k_asm); (case k2 => assumption); k_whole))))
  (k_with "loadName" => ((k_here; k_dflt (refine' ldn ?k1 ?k2 ?_; (case k1 => k_asm); (case k2 => first | exact rfl | assumption); k_whole))))
  (k_with "setItem ref int" => ((k_here; k_dflt (refine' set_led ?k1 ?k2 ?k3 ?k4 ?k5 ?k6 ?_; (case k1 => k_asm); (case k2 => k_asm); (case k3 => k_upd); (case k4 => first | with_reducible assumption | omega); (case k5 => first | with_reducible assumption | omega); (case k6 => first | with_reducible assumption | omega); k_whole); intro zqh' zqF' zqN'; (try dsimp only at zqN'); (try k_sweep))))
  (k_with "k_steps1" => ((repeat' (first | (k_unfold; (try dsimp only)) | ((fail_if_success (with_reducible show wpAny _ _ (exec (Stmt.While _ _ _ _) _) _ _ _)); (fail_if_success (with_reducible show wpAny _ _ (exec (Stmt.Try _ _ _ _ _) _) _ _ _)); walk1) | ((fail_if_success (with_reducible show wpAny _ _ (exec (Stmt.While _ _ _ _) _) _ _ _)); (fail_if_success (with_reducible show wpAny _ _ (exec (Stmt.Try _ _ _ _ _) _) _ _ _)); dsimp only; walk1)))))
  (k_with "subscriptTail Name Name ref int" => ((k_here; k_dflt (refine' item_outX ?k1 ?k2 ?k3 ?k4 ?k5 ?_ ?k7; (case k7 => with_unfolding_all rfl); (case k1 => first | exact Or.inl rfl | (rename ∀ A : Around, _ → Calm A _ => hc9; exact hc9 _ rfl)); (case k2 => exact PySem.IsL.isList (Fr.keep (by k_asm) _ _ (by with_reducible assumption))); (case k3 => with_reducible assumption); (case k4 => omega); (case k5 => omega); k_whole); intro zqh' zqtk' e' x')))
  (k_with "subscriptTail Name Name ref int" => ((k_here; k_dflt (refine' item_base ?k1 ?k2 ?k3 ?k4 ?k5 ?_ ?k7; (case k7 => with_unfolding_all rfl); (case k1 => k_asm); (case k2 => with_reducible assumption); (case k5 => with_reducible assumption); (case k3 => omega); (case k4 => omega); k_whole))))
  (k_with "subscriptTail Name Slice ref ref" => ((k_here; (with_reducible show wpAny _ _ (subscriptTail _ (PySem.Expr.Slice (some _) none none _) (Value.ref _) (Value.ref _)) _ _ _); k_dflt (refine' slice_from ?F ?N ?l ?z ?_ ?s ?t; (case F => k_asm); (case N => k_asm); (case l => with_reducible assumption); (case z => omega); (case s => with_unfolding_all rfl); (case t => kmk_pure)); intro zqD' zqh' zqF' zqN' zql1; (try k_lt zql1); (try k_sweep))))
  (k_with "call builtin:list.append" => ((k_here; (with_reducible show wpAny _ _ (call (Value.builtin _) [Value.ref _, _]) _ _ _); k_dflt (refine' append_K ?k1 ?k2 ?k3 ?_ ?z; (case k1 => k_asm); (case k2 => k_asm); (case k3 => k_upd); (case z => (rw [svals_size, sizeLine_eq]; omega)); k_whole); intro zqh' zqF' zqN'; rw [svals_push] at zqN'; (try k_sweep))))
  (k_with "call builtin:list.extend" => ((k_here; (with_reducible show wpAny _ _ (call (Value.builtin _) [Value.ref _, Value.ref _]) _ _ _); k_dflt (refine' extend_ST ?F ?N ?b ?U ?z ?_; (case F => k_asm); (case N => k_asm); (case b => k_mem); (case U => intro zqn9; k_upd); (case z => (simp only [List.length_drop]; omega))); intro zqn9 zqh' zqF' zqN'; (try dsimp only at zqN'); (try k_sweep))))
  trivial

def slt (x y : Str) : Bool := decide (x.cps.toList < y.cps.toList)
/-- what sorted_list_difference tells -/
def sldf (xs ys : List ST) : List ST × List ST := match xs, ys with
    | [], ys => ([], ys)
    | x :: xs, [] => (x :: xs, [])
    | x :: xs, y :: ys =>
      if slt x.1 y.1 then (x :: (sldf (xs.dropWhile fun z => z.1 == x.1) (y :: ys)).1, (sldf (xs.dropWhile fun z => z.1 == x.1) (y :: ys)).2)
      else if slt y.1 x.1 then ((sldf (x :: xs) (ys.dropWhile fun z => z.1 == y.1)).1, y :: (sldf (x :: xs) (ys.dropWhile fun z => z.1 == y.1)).2)
      else sldf (xs.dropWhile fun z => z.1 == x.1) (ys.dropWhile fun z => z.1 == y.1)
termination_by xs.length + ys.length
decreasing_by
  all_goals simp_wf
  all_goals (have h1 := (List.dropWhile_sublist (fun z : ST => z.1 == x.1) (l := xs)).length_le; have h2 := (List.dropWhile_sublist (fun z : ST => z.1 == y.1) (l := ys)).length_le; omega)
theorem sldf_l (ys : List ST) : sldf [] ys = ([], ys) := by unfold sldf; rfl
theorem sldf_r (xs : List ST) : sldf xs [] = (xs, []) := by cases xs <;> (unfold sldf; rfl)
theorem turn_none {fs : List Addr} {g g' : Heap} {b : Addr} (t : KtsTurn fs g g') (h : g'.get? b = none) : g.get? b = none := by
  cases q : g.get? b with
  | none => rfl
  | some o => obtain ⟨sl, hs⟩ := t.up q; rw [h] at hs; cases hs
theorem drop_cons {α : Type} {xs : List α} {i : Nat} {x : α} (h : xs[i]? = some x) : xs.drop i = x :: xs.drop (i + 1) := by
  obtain ⟨hi, rfl⟩ := List.getElem?_eq_some_iff.mp h
  exact List.drop_eq_getElem_cons hi
theorem dw_stop {xs : List ST} {i : Nat} {z : ST} {x : Str} (h : xs[i]? = some z) (hne : ¬ z.1 = x) : (xs.drop i).dropWhile (fun z => z.1 == x) = xs.drop i := by
  rw [drop_cons h, List.dropWhile_cons, if_neg (by simpa using hne)]
theorem dw_go {xs : List ST} {i : Nat} {z : ST} {x : Str} (h : xs[i]? = some z) (hne : z.1 = x) : (xs.drop (i + 1)).dropWhile (fun z => z.1 == x) = (xs.drop i).dropWhile (fun z => z.1 == x) := by
  rw [drop_cons h, List.dropWhile_cons, if_pos (by simpa using hne)]
theorem dw_end {xs : List ST} {i : Nat} {x : Str} (h : xs.length ≤ i) : (xs.drop i).dropWhile (fun z => z.1 == x) = xs.drop i := by
  rw [List.drop_of_length_le h]; rfl
theorem sldf_lt {xs ys : List ST} {i i' j : Nat} {x y : ST} (hx : xs[i]? = some x) (hy : ys[j]? = some y) (h : x.1.cps.toList < y.1.cps.toList) (hd : (xs.drop (i + 1)).dropWhile (fun z => z.1 == x.1) = xs.drop i') :
    sldf (xs.drop i) (ys.drop j) = (x :: (sldf (xs.drop i') (ys.drop j)).1, (sldf (xs.drop i') (ys.drop j)).2) := by
  rw [drop_cons hx, drop_cons hy, sldf, if_pos (by simpa [slt] using h), hd]
theorem sldf_gt {xs ys : List ST} {i j' j : Nat} {x y : ST} (hx : xs[i]? = some x) (hy : ys[j]? = some y) (h0 : ¬ x.1.cps.toList < y.1.cps.toList) (h : y.1.cps.toList < x.1.cps.toList) (hd : (ys.drop (j + 1)).dropWhile (fun z => z.1 == y.1) = ys.drop j') :
    sldf (xs.drop i) (ys.drop j) = ((sldf (xs.drop i) (ys.drop j')).1, y :: (sldf (xs.drop i) (ys.drop j')).2) := by
  rw [drop_cons hx, drop_cons hy, sldf, if_neg (by simpa [slt] using h0), if_pos (by simpa [slt] using h), hd]
theorem sldf_eq' {xs ys : List ST} {i i' j' j : Nat} {x y : ST} (hx : xs[i]? = some x) (hy : ys[j]? = some y) (h0 : ¬ x.1.cps.toList < y.1.cps.toList) (h : ¬ y.1.cps.toList < x.1.cps.toList)
    (hd : (xs.drop (i + 1)).dropWhile (fun z => z.1 == x.1) = xs.drop i') (hd' : (ys.drop (j + 1)).dropWhile (fun z => z.1 == y.1) = ys.drop j') :
    sldf (xs.drop i) (ys.drop j) = sldf (xs.drop i') (ys.drop j') := by
  rw [drop_cons hx, drop_cons hy, sldf, if_neg (by simpa [slt] using h0), if_neg (by simpa [slt] using h), hd, hd']
theorem sldf_end {xs ys : List ST} {i j : Nat} (h : xs.length ≤ i ∨ ys.length ≤ j) : sldf (xs.drop i) (ys.drop j) = (xs.drop i, ys.drop j) := by
  rcases h with h | h
  · rw [List.drop_of_length_le h, sldf_l]
  · rw [List.drop_of_length_le h, sldf_r]
/-- the names and lists of sorted_list_difference between two steps -/
inductive StN (le la : Addr) (m : Str → Option Value) (news : Led) (ms us : List ST) (i j : Nat) : Prop
  | mk (ml ul : Addr) (nm nu : Nat) (ti tj : Tok) (q1 : m (Str.ofString "expected") = some (.ref le)) (q2 : m (Str.ofString "actual") = some (.ref la)) (q3 : m (Str.ofString "i") = some (.int i ti)) (q4 : m (Str.ofString "j") = some (.int j tj))
    (q5 : m (Str.ofString "missing") = some (.ref ml)) (q6 : m (Str.ofString "unexpected") = some (.ref ul)) (hlt : @LT.lt Nat _ ml ul) (hn : news = [(ul, listOf (svals us) nu), (ml, listOf (svals ms) nm)])
theorem StN.iTo {le la : Addr} {m m' : Str → Option Value} {news : Led} {ms us : List ST} {i j i' : Nat} {t : Tok} (S : StN le la m news ms us i j) (h : ∀ y, y ≠ Str.ofString "i" → m' y = m y) (hi : m' (Str.ofString "i") = some (.int (i' : Nat) t)) : StN le la m' news ms us i' j := by
  obtain ⟨ml, ul, nm, nu, ti, tj, q1, q2, q3, q4, q5, q6, hlt, hn⟩ := S
  exact ⟨ml, ul, nm, nu, t, tj, (h _ (by decide)).trans q1, (h _ (by decide)).trans q2, hi, (h _ (by decide)).trans q4, (h _ (by decide)).trans q5, (h _ (by decide)).trans q6, hlt, hn⟩
theorem StN.jTo {le la : Addr} {m m' : Str → Option Value} {news : Led} {ms us : List ST} {i j j' : Nat} {t : Tok} (S : StN le la m news ms us i j) (h : ∀ y, y ≠ Str.ofString "j" → m' y = m y) (hj : m' (Str.ofString "j") = some (.int (j' : Nat) t)) : StN le la m' news ms us i j' := by
  obtain ⟨ml, ul, nm, nu, ti, tj, q1, q2, q3, q4, q5, q6, hlt, hn⟩ := S
  exact ⟨ml, ul, nm, nu, ti, t, (h _ (by decide)).trans q1, (h _ (by decide)).trans q2, (h _ (by decide)).trans q3, hj, (h _ (by decide)).trans q5, (h _ (by decide)).trans q6, hlt, hn⟩
theorem StN.at {g h : Heap} {L le la : Addr} {m : Str → Option Value} {ms us : List ST} {i j : Nat} {ml ul : Addr} {nm nu : Nat} {ti tj : Tok} (F : Fr g L h m) (q1 : m (Str.ofString "expected") = some (.ref le)) (q2 : m (Str.ofString "actual") = some (.ref la)) (q3 : m (Str.ofString "i") = some (.int i ti)) (q4 : m (Str.ofString "j") = some (.int j tj))
    (q5 : m (Str.ofString "missing") = some (.ref ml)) (q6 : m (Str.ofString "unexpected") = some (.ref ul)) (hlt : @LT.lt Nat _ ml ul) (N : News g L h [(ul, listOf (svals us) nu), (ml, listOf (svals ms) nm)]) : StN le la m [(ul, listOf (svals us) nu), (ml, listOf (svals ms) nm)] ms us i j :=
  ⟨ml, ul, nm, nu, ti, tj, q1, q2, q3, q4, q5, q6, hlt, rfl⟩
theorem StN.jA {le la : Addr} {m : Str → Option Value} {news : Led} {ms us : List ST} {i j : Nat} (S : StN le la m news ms us i j) : ∃ tj, m (Str.ofString "j") = some (.int j tj) ∧ m (Str.ofString "actual") = some (.ref la) := by
  obtain ⟨ml, ul, nm, nu, ti, tj, q1, q2, q3, q4, q5, q6, hlt, hn⟩ := S
  exact ⟨tj, q4, q2⟩
/-- the invariant of the outer loop -/
inductive SldJ (le la : Addr) (xs ys : List ST) (n : Nat) (m : Str → Option Value) (news : Led) : Prop
  | mk (ms us : List ST) (i j : Nat) (S : StN le la m news ms us i j) (h1 : ms.length ≤ i) (h2 : us.length ≤ j) (h3 : i ≤ xs.length) (h4 : j ≤ ys.length) (h5 : n = (xs.length - i) + (ys.length - j) + 1) (h6 : (ms ++ (sldf (xs.drop i) (ys.drop j)).1, us ++ (sldf (xs.drop i) (ys.drop j)).2) = sldf xs ys)
/-- what stands when the IndexError comes out -/
inductive ExS (s : Shared) (A : Around) (base : Heap) (outer : List Env) (L : Addr) (le la : Addr) (xs ys : List ST) (v : Value) (s₁ : Shared) : Prop
  | mk (e : Addr) (g₁ : Heap) (m₁ : Str → Option Value) (news₁ : Led) (ms us : List ST) (i j : Nat) (tk : Nat) (h' : Heap) (hv : v = .ref e) (T : KtsTurn (outer.filterMap (·.frame)) s.heap g₁) (B : Below A base outer g₁) (S : StN le la m₁ news₁ ms us i j) (h1 : ms.length ≤ i) (h2 : us.length ≤ j) (h3 : i ≤ xs.length) (h4 : j ≤ ys.length) (hR : (ms ++ xs.drop i, us ++ ys.drop j) = sldf xs ys)
    (hs : s₁ = { s with heap := h', toks := tk }) (hh : (∃ h c, Fr g₁ L h m₁ ∧ News g₁ L h news₁ ∧ NewX h h' e "IndexError" c) ∨ (∃ cx, Hld g₁ L h' m₁ news₁ e cx (rawInt L)))
theorem ExS.up {s : Shared} {A : Around} {base : Heap} {outer : List Env} {L le la : Addr} {xs ys : List ST} {g₁ : Heap} {m₂ : Str → Option Value} {news₂ : Led} {ms us : List ST} {i j : Nat} {h h' : Heap} {tk : Nat} {e : Addr} {c : Value} (t1 : KtsTurn (List.filterMap (·.frame) outer) s.heap g₁)
    (t2 : Below A base outer g₁) (t3 : StN le la m₂ news₂ ms us i j) (t4 : ms.length ≤ i) (t5 : us.length ≤ j) (t6 : i ≤ xs.length) (t7 : j ≤ ys.length) (t8 : (ms ++ (sldf (xs.drop i) (ys.drop j)).1, us ++ (sldf (xs.drop i) (ys.drop j)).2) = sldf xs ys) (t9 : xs.length ≤ i ∨ ys.length ≤ j)
    (t10 : Fr g₁ L h m₂) (t11 : News g₁ L h news₂) (t12 : NewX h h' e "IndexError" c) : ExS s A base outer L le la xs ys (.ref e) { s with heap := h', toks := tk } :=
  ⟨_, _, _, _, _, _, _, _, _, _, rfl, t1, t2, t3, t4, t5, t6, t7, by rw [sldf_end t9] at t8; exact t8, rfl, .inl ⟨_, _, t10, t11, t12⟩⟩
/-- what stands when the IndexError comes to the finally -/
inductive FiS (s : Shared) (L le la : Addr) (xs : List ST) (news : Led) (ms us : List ST) (i j : Nat) (x : Str) (y : Value) (v : Value) (s₁ : Shared) : Prop
  | mk (e : Addr) (tk : Nat) (h' h : Heap) (m₂ : Str → Option Value) (hv : v = .ref e) (hs : s₁ = { s with heap := h', toks := tk }) (F : Fr s.heap L h m₂) (N : News s.heap L h news) (hx : NewX h h' e "IndexError" .none) (S : StN le la m₂ news ms us xs.length j) (ha : m₂ (Str.ofString "a") = some y) (hd : (xs.drop (i + 1)).dropWhile (fun z => z.1 == x) = xs.drop xs.length)
set_option maxRecDepth 100000 in
set_option maxHeartbeats 8000000 in
theorem sld {w : World} {le la : Addr} {ne na : Nat} {xs ys : List ST} {rest : Led} (h1 : (le, lst (svals xs) ne) ∈ rest) (h2 : (la, lst (svals ys) na) ∈ rest) (hl1 : xs.length < 2 ^ 19) (hl2 : ys.length < 2 ^ 19) :
   FnE w 6 45 [.ref le, .ref la] [] rest
  (fun r h h' => ∃ T ml ul nm nu, r = .ref T ∧ h'.get? T = some (tup2 (.ref ml) (.ref ul)) ∧ h'.get? ml = some (listOf (svals (sldf xs ys).1) nm) ∧ h'.get? ul = some (listOf (svals (sldf xs ys).2) nu) ∧ h.get? T = none ∧ h.get? ml = none ∧ h.get? ul = none ∧ @LT.lt Nat _ ml ul ∧ @LT.lt Nat _ ul T) := by
  unfold FnE
  intro mean mg mb dp un gd cn cs a ccd cl outer A₀ base h₀ L m s Q E B F X hrest T hk hdp hun hret
  refine wpAny_call ?_
  k_dflt (refine' code_defU ?k1 ?k2 ?k3 ?k5 ?kA ?kF ?kK ?k6 ?k7 ?k8 ?k9 ?kB ?_ ?c2 ?c3 ?c4 ?c5; (case kA => exact rfl); (case kF => exact rfl); (case kK => exact hk); (case k1 => exact B); (case k2 => exact F); (case k3 => exact X); (case k5 => exact T); (case k6 => k_is); (case k7 => k_is); (case k8 => ktr_room); (case k9 => first | exact BindsTo.of_eq rfl | exact binds_K (by k_in) rfl (by k_is) rfl rfl rfl); (case c5 => decide); (case kB => exact locs rfl); (case c2 => exact rfl); (case c3 => exact rfl); (case c4 => exact rfl); k_whole; intro L' h' F' N' B' X' T'; (try dsimp only); (try k_lift B'); (try k_fold))

  repeat' (first | (k_unfold; (try dsimp only)) | ((fail_if_success (with_reducible show wpAny _ _ (exec (Stmt.While _ _ _ _) _) _ _ _)); walk1) | ((fail_if_success (with_reducible show wpAny _ _ (exec (Stmt.While _ _ _ _) _) _ _ _)); dsimp only; walk1))


  rename Fr s.heap L' _ _ => kF9
  rename News s.heap L' _ _ => kN9
  have hg1 : s.heap.get? le = some (lst (svals xs) ne) := (hrest _ h1).1
  have hg2 : s.heap.get? la = some (lst (svals ys) na) := (hrest _ h2).1
  have hf1 : le ∉ L :: outer.filterMap (·.frame) := (hrest _ h1).2
  have hf2 : la ∉ L :: outer.filterMap (·.frame) := (hrest _ h2).2
  refine hideQ fun Q₁ hQ₁ => ?_
  refine While_B (SldJ le la xs ys) (n₀ := xs.length + ys.length + 1) kF9 kN9 ⟨[], [], 0, 0, ⟨_, _, _, _, _, _, rfl, rfl, rfl, rfl, rfl, rfl, (by assumption), rfl⟩, Nat.le_refl _, Nat.le_refl _, Nat.zero_le _, Nat.zero_le _, by simp, by simp⟩ ?_ (by passes_own)
  clear kF9 kN9
  intro n₁ m₁ news₁ h₁ tk₁ F₁ N₁ hJ
  obtain ⟨ms, us, i, j, hS, hmi, huj, hi, hj, hn, hR⟩ := hJ
  repeat' (first | (k_unfold; (try dsimp only)) | ((fail_if_success (with_reducible show wpAny _ _ (exec (Stmt.Try _ _ _ _ _) _) _ _ _)); walk1) | ((fail_if_success (with_reducible show wpAny _ _ (exec (Stmt.Try _ _ _ _ _) _) _ _ _)); dsimp only; walk1))
  refine Try_X (ExS s (ktrTop dp un gd cn cs L a ccd cl outer) base (envX cn cs L a ccd cl :: outer) L' le la xs ys) ?hand ?body
  case body =>
    intro Eo hPO hPA hHS
    have hS' := hS
    obtain ⟨ml, ul, nm, nu, ti, tj, q1, q2, q3, q4, q5, q6, hlt, rfl⟩ := hS
    by_cases hil : i < xs.length
    · have hx0 : xs[i]? = some xs[i] := List.getElem?_eq_getElem hil
      generalize xs[i] = x at hx0
      have hx1 := svals_get hx0
      by_cases hjl : j < ys.length
      · have hy0 : ys[j]? = some ys[j] := List.getElem?_eq_getElem hjl
        generalize ys[j] = y at hy0
        have hy1 := svals_get hy0
        walk_at "k_steps1"
        · rename Fr s.heap L' _ _ => kF9
          rename News s.heap L' _ _ => kN9
          have S := StN.at (ms := ms ++ [x]) (us := us) kF9 q1 q2 rfl q4 q5 q6 hlt kN9
          refine scan (nl := Str.ofString "expected") (ni := Str.ofString "i") (ne := Str.ofString "e") (x := x.1) (i₀ := i + 1) rfl rfl rfl rfl (by decide) (by decide) (by decide) (by decide) (by decide) kF9 kN9 hg1 q1 rfl rfl (by omega) hl1 (fun _ _ => .inl rfl) hPO (fun m3 i3 t3 h3 tk3 hm3 hi3 h03 hlt3 hd3 F3 N3 => ?_) (fun m3 t3 h3 hx3 tk3 e3 hm3 hi3 hd3 F3 N3 kX9 => ?_)
          all_goals clear kF9 kN9
          · walk_at "k_steps1"
            (try dsimp only [TurnB])
            exact ⟨_, _, _, _, (xs.length - i3) + (ys.length - j) + 1, rfl, F3, N3, by omega, ms ++ [x], us, i3, j, S.iTo hm3 hi3, by simp; omega, huj, Nat.le_of_lt hlt3, hj, rfl, by rw [← hR, sldf_lt hx0 hy0 (by assumption) hd3]; simp⟩
          · exact hHS _ _ (.up KtsTurn.refl B' (S.iTo hm3 hi3) (by simp; omega) huj (Nat.le_refl _) hj (by rw [← hR, sldf_lt hx0 hy0 (by assumption) hd3]; simp) (.inl (Nat.le_refl _)) F3 N3 kX9)
        · rename Fr s.heap L' _ _ => kF9
          rename News s.heap L' _ _ => kN9
          have S := StN.at (ms := ms) (us := us ++ [y]) kF9 q1 q2 q3 rfl q5 q6 hlt kN9
          refine scan (nl := Str.ofString "actual") (ni := Str.ofString "j") (ne := Str.ofString "a") (x := y.1) (i₀ := j + 1) rfl rfl rfl rfl (by decide) (by decide) (by decide) (by decide) (by decide) kF9 kN9 hg2 q2 rfl rfl (by omega) hl2 (fun _ _ => .inl rfl) hPO (fun m3 i3 t3 h3 tk3 hm3 hi3 h03 hlt3 hd3 F3 N3 => ?_) (fun m3 t3 h3 hx3 tk3 e3 hm3 hi3 hd3 F3 N3 kX9 => ?_)
          all_goals clear kF9 kN9
          · walk_at "k_steps1"
            (try dsimp only [TurnB])
            exact ⟨_, _, _, _, (xs.length - i) + (ys.length - i3) + 1, rfl, F3, N3, by omega, ms, us ++ [y], i, i3, S.jTo hm3 hi3, hmi, by simp; omega, hi, Nat.le_of_lt hlt3, rfl, by rw [← hR, sldf_gt hx0 hy0 (by assumption) (by assumption) hd3]; simp⟩
          · exact hHS _ _ (.up KtsTurn.refl B' (S.jTo hm3 hi3) hmi (by simp; omega) hi (Nat.le_refl _) (by rw [← hR, sldf_gt hx0 hy0 (by assumption) (by assumption) hd3]; simp) (.inr (Nat.le_refl _)) F3 N3 kX9)
        · refine Fin_X (FiS s L' le la xs [(ul, listOf (svals us) nu), (ml, listOf (svals ms) nm)] ms us i j x.1 y.v) hPO hPA ?hf ?bf
          case bf =>
            intro Ef hPOf hHSf
            walk_at "k_steps1"
            rename Fr s.heap L' _ _ => kF9
            rename News s.heap L' _ _ => kN9
            have S := StN.at kF9 q1 q2 rfl q4 q5 q6 hlt kN9
            refine scan (nl := Str.ofString "expected") (ni := Str.ofString "i") (ne := Str.ofString "e") (x := x.1) (i₀ := i + 1) rfl rfl rfl rfl (by decide) (by decide) (by decide) (by decide) (by decide) kF9 kN9 hg1 q1 rfl rfl (by omega) hl1 (fun _ _ => .inl rfl) hPOf (fun m3 i3 t3 h3 tk3 hm3 hi3 h03 hlt3 hd3 F3 N3 => ?_) (fun m3 t3 h3 hx3 tk3 e3 hm3 hi3 hd3 F3 N3 kX9 => ?_)
            all_goals clear kF9 kN9
            · replace S := S.iTo hm3 hi3
              have r3_a : m3 (Str.ofString "a") = some y.v := hm3 (Str.ofString "a") (by decide)
              have r3_j : m3 (Str.ofString "j") = some (.int j tj) := (hm3 (Str.ofString "j") (by decide)).trans q4
              have r3_q : m3 (Str.ofString "actual") = some (.ref la) := (hm3 (Str.ofString "actual") (by decide)).trans q2
              clear hm3 hi3
              walk_at "k_steps1"
              rename Fr s.heap L' _ _ => kF9
              rename News s.heap L' _ _ => kN9
              refine scan (nl := Str.ofString "actual") (ni := Str.ofString "j") (ne := Str.ofString "a") (x := y.1) (i₀ := j + 1) rfl rfl rfl rfl (by decide) (by decide) (by decide) (by decide) (by decide) kF9 kN9 hg2 r3_q rfl r3_a (by omega) hl2 (fun _ _ => .inl rfl) hPO (fun m4 i4 t4 h4 tk4 hm4 hi4 h04 hlt4 hd4 F4 N4 => ?_) (fun m4 t4 h4 hx4 tk4 e4 hm4 hi4 hd4 F4 N4 kX9 => ?_)
              all_goals clear kF9 kN9
              · walk_at "k_steps1"
                (try dsimp only [TurnB])
                exact ⟨_, _, _, _, (xs.length - i3) + (ys.length - i4) + 1, rfl, F4, N4, by omega, ms, us, i3, i4, S.jTo (fun y hy => (hm4 y hy).trans (if_neg hy)) hi4, by omega, by omega, Nat.le_of_lt hlt3, Nat.le_of_lt hlt4, rfl, by rw [← hR, sldf_eq' hx0 hy0 (by assumption) (by assumption) hd3 hd4]⟩
              · exact hHS _ _ (.up KtsTurn.refl B' (S.jTo (fun y hy => (hm4 y hy).trans (if_neg hy)) hi4) (by omega) (by omega) (Nat.le_of_lt hlt3) (Nat.le_refl _) (by rw [← hR, sldf_eq' hx0 hy0 (by assumption) (by assumption) hd3 hd4]) (.inr (Nat.le_refl _)) F4 N4 kX9)
            · exact hHSf _ _ ⟨_, _, _, h3, m3, rfl, rfl, F3, N3, kX9, S.iTo hm3 hi3, hm3 (Str.ofString "a") (by decide), hd3⟩
          case hf =>
            clear hS' q1 q2 q3 q4 q5 q6
            rintro v s₁ ⟨e, tk9, h', h, m₂, rfl, rfl, F₂, N₂, hx, S, p_a, hdi⟩
            refine noteX rfl B' F₂ N₂ hx fun h₂ g₂ Tn₂ B₂ H₂ => ⟨ref_ne_byPass _, againX rfl H₂ (flightX (fr := none) H₂ fun h₃ H₃ => ?_)⟩
            clear F₂ N₂ hx H₂
            obtain ⟨F₃, oe, vs, Ta, oT, ts, N₃, heT, hap, hc, hd, hv1, hv2, hdT, hv3⟩ := H₃
            have G2 : g₂.get? la = some (lst (svals ys) na) := Tn₂.other _ _ hg2 hf2
            obtain ⟨tj', p_j, p_actual⟩ := S.jA
            walk_at "k_steps1"
            rename Fr g₂ L' _ _ => kF9
            rename News g₂ L' _ _ => kN9
            refine scan (nl := Str.ofString "actual") (ni := Str.ofString "j") (ne := Str.ofString "a") (x := y.1) (i₀ := j + 1) rfl rfl rfl rfl (by decide) (by decide) (by decide) (by decide) (by decide) kF9 kN9 G2 p_actual rfl p_a (by omega) hl2 (fun h N => .inr ⟨e, oe, vs, rfl, (N (e, oe) (.head _)).1, hd, hv2⟩) (hPA _ _) (fun m4 i4 t4 h4 tk4 hm4 hi4 h04 hlt4 hd4 F4 N4 => ?_) (fun m4 t4 h4 hx4 tk4 e4 hm4 hi4 hd4 F4 N4 kX9 => ?_)
            all_goals clear kF9 kN9
            · walk_at "k_steps1"
              (try dsimp only [TurnB])
              have eR : (ms ++ List.drop xs.length xs, us ++ List.drop i4 ys) = sldf xs ys := by
                have := hR
                rw [sldf_eq' hx0 hy0 (by assumption) (by assumption) hdi hd4, sldf_end (.inl (Nat.le_refl _))] at this
                exact this
              exact passX rfl ⟨F4, oe, vs, Ta, oT, ts, N4, heT, hap, hc, hd, hv1, hv2, hdT, hv3⟩ fun h₅ H₅ => hHS _ _ ⟨e, g₂, m4, _, ms, us, xs.length, i4, _, h₅, rfl, Tn₂, B₂, S.jTo (fun y hy => (hm4 y hy).trans (if_neg hy)) hi4, by omega, by omega, Nat.le_refl _, (Nat.le_of_lt hlt4), eR, rfl, .inr ⟨_, H₅⟩⟩
            · exact hHS _ _ (.up Tn₂ B₂ (S.jTo (fun y hy => (hm4 y hy).trans (if_neg hy)) hi4) (by omega) (by omega) (Nat.le_refl _) (Nat.le_refl _) (by rw [← hR, sldf_eq' hx0 hy0 (by assumption) (by assumption) hdi hd4]) (.inr (Nat.le_refl _)) F4 (fun p hp => N4 p (.tail _ (.tail _ hp))) kX9)
      · have hout : ((svals ys).size : Int) ≤ (j : Int) := by rw [svals_size]; omega
        walk_at "k_steps1"
        rename Fr s.heap L' _ _ => kF9
        rename News s.heap L' _ _ => kN9
        rename NewX _ _ _ _ _ => kX9
        exact hHS _ _ (.up KtsTurn.refl B' (.at kF9 q1 q2 q3 q4 q5 q6 hlt kN9) hmi huj hi hj hR (.inr (by omega)) kF9 kN9 kX9)
    · have hout : ((svals xs).size : Int) ≤ (i : Int) := by rw [svals_size]; omega
      walk_at "k_steps1"
      rename Fr s.heap L' _ _ => kF9
      rename News s.heap L' _ _ => kN9
      rename NewX _ _ _ _ _ => kX9
      exact hHS _ _ (.up KtsTurn.refl B' hS' hmi huj hi hj hR (.inl (by omega)) kF9 kN9 kX9)
  case hand =>
    clear hS hmi huj hi hj hn hR F₁ N₁
    rintro v s₁ ⟨e, g₁, m₁, news₁, ms, us, i, j, tk, h', rfl, Tn, B₁, hS, hmi, huj, hi, hj, hR, rfl, hx⟩
    refine noteE rfl B₁ hx fun h₂ g₂ cx Tn₂ B₂ H₂ => ?_
    refine flightX (s := { s with heap := h₂, toks := tk }) H₂ fun h₃ H₃ => ?_
    refine TT.clause_hitTN H₃.toNA (T.keeps B₂.stays) (k := fun h₄ F₄ N₄ => ?suite)
    obtain ⟨ml, ul, nm, nu, ti, tj, q1, q2, q3, q4, q5, q6, hlt, rfl⟩ := hS
    have G1 : g₂.get? le = some (lst (svals xs) ne) := (Tn.trans Tn₂).other _ _ hg1 hf1
    have G2 : g₂.get? la = some (lst (svals ys) na) := (Tn.trans Tn₂).other _ _ hg2 hf2
    clear H₃ H₂ hx
    k_steps
    (try dsimp only [TurnB])
    refine hQ₁ _ _ ?_
    k_steps
    (try dsimp only)
    rename Fr g₂ L' _ _ => kF9
    rename News g₂ L' _ _ => kN9
    have Tn₃ := Tn.trans Tn₂
    have hR1 := congrArg Prod.fst hR
    have hR2 := congrArg Prod.snd hR
    dsimp only at hR1 hR2
    rw [hR1, hR2] at kN9
    refine hret _ _ _ (KeepU.of Tn₃ kF9.keep) ⟨_, ml, ul, _, _, rfl, (kN9 _ (.head _)).1, (kN9 _ (.tail _ (.tail _ (.tail _ (.tail _ (.head _)))))).1, (kN9 _ (.tail _ (.tail _ (.tail _ (.head _))))).1,
      turn_none Tn₃ (kN9 _ (.head _)).2.2, turn_none Tn₃ (kN9 _ (.tail _ (.tail _ (.tail _ (.tail _ (.head _)))))).2.2, turn_none Tn₃ (kN9 _ (.tail _ (.tail _ (.tail _ (.head _))))).2.2, hlt, ?_⟩
    omega
end
section
open PySem PySem.W PySem.Calls PyProof.Rows PySem.Spec PyProof.V
/-- a def that changes nothing that stands: the heap ahead and the heap behind -/
def FnQ (w : World) (n : Nat) (f : Addr) (vs : List Value) (kw : List (Str × Value)) (rest : Led) (P : Value → Heap → Heap → Prop) : Prop :=
  ∀ (mean : ExcName → Option Value) (mg mb : Str → Option Value) (dp un : Nat) (gd : Option (List Code)) (cn : Str) (cs : Scope) (a : Addr) (ccd : Value) (cl : List (Str × Addr)) (outer : List Env) (A₀ : Around) (base h₀ : Heap) (L : Addr) (m : Str → Option Value) (s : Shared) (Q : Value → Shared → Prop) (E : Value → Shared → Prop),
    Below A₀ base outer h₀ → Fr h₀ L s.heap m → (hd.heap_39 w.params).In h₀ → (∀ p ∈ rest, s.heap.get? p.1 = some p.2) → Top hd.view_39 LS mean mg mb h₀ → cs.kind = .function →
    dp + n < recursionLimit → un + 8 * n < cLine →
    (∀ r h' tk', KeepA s.heap h' → P r s.heap h' → Q r { s with heap := h', toks := tk' }) →
    wpAny (model PG w) (ktrTop dp un gd cn cs L a ccd cl outer) (call (.ref f) vs kw) Q E s
/-- a def that changes only muts; what it leaves is told with the heap ahead -/
def FnN (w : World) (n : Nat) (f : Addr) (vs : List Value) (kw : List (Str × Value)) (muts rest : Led) (P : Value → Heap → Led → Prop) : Prop :=
  ∀ (mean : ExcName → Option Value) (mg mb : Str → Option Value) (dp un : Nat) (gd : Option (List Code)) (cn : Str) (cs : Scope) (a : Addr) (ccd : Value) (cl : List (Str × Addr)) (outer : List Env) (A₀ : Around) (base h₀ : Heap) (L : Addr) (m : Str → Option Value) (s : Shared) (Q : Value → Shared → Prop) (E : Value → Shared → Prop),
    Below A₀ base outer h₀ → Fr h₀ L s.heap m → (hd.heap_39 w.params).In h₀ → News h₀ L s.heap muts → Has s.heap rest → (∀ p ∈ rest, p.1 ≠ L) → (∀ p ∈ rest, p.1 ∉ muts.map (·.1)) → Top hd.view_39 LS mean mg mb h₀ → cs.kind = .function →
    dp + n < recursionLimit → un + 8 * n < cLine →
    (∀ r muts' h' tk', Fr h₀ L h' m → News h₀ L h' muts' → Has h' rest → P r s.heap muts' → Q r { s with heap := h', toks := tk' }) →
    wpAny (model PG w) (ktrTop dp un gd cn cs L a ccd cl outer) (call (.ref f) vs kw) Q E s
theorem FnN.use {w : World} {n : Nat} {f : Addr} {vs : List Value} {kw : List (Str × Value)} {muts rest news : Led} {P : Value → Heap → Led → Prop} (C : FnN w n f vs kw muts rest P)
    {mean : ExcName → Option Value} {mg mb : Str → Option Value} {dp un : Nat} {gd : Option (List Code)} {cn : Str} {cs : Scope} {a : Addr} {ccd : Value} {cl : List (Str × Addr)} {outer : List Env} {A₀ : Around} {base h₀ : Heap} {L : Addr} {m : Str → Option Value} {s : Shared} {Q : Value → Shared → Prop} {E : Value → Shared → Prop}
    (B : Below A₀ base outer h₀) (F : Fr h₀ L s.heap m) (X : (hd.heap_39 w.params).In h₀) (N : News h₀ L s.heap news) (T : Top hd.view_39 LS mean mg mb h₀) (hk : cs.kind = .function)
    (hdp : dp + n < recursionLimit) (hun : un + 8 * n < cLine) (h1 : ∀ p ∈ muts, p ∈ news) (h2 : ∀ p ∈ rest, p ∈ news) (sep : ∀ p ∈ rest, p.1 ∉ muts.map (·.1))
    (ret : ∀ r muts' h' tk', Fr h₀ L h' m → News h₀ L h' (muts' ++ rest) → P r s.heap muts' → Q r { s with heap := h', toks := tk' }) :
    wpAny (model PG w) (ktrTop dp un gd cn cs L a ccd cl outer) (call (.ref f) vs kw) Q E s :=
  C _ _ _ _ _ _ _ _ _ _ _ _ _ _ _ _ _ _ _ _ B F X (fun p hp => N p (h1 p hp)) (fun p hp => (N p (h2 p hp)).1) (fun p hp => (N p (h2 p hp)).2.1) sep T hk hdp hun fun r muts' h' tk' F' N' NR' hP =>
    ret r muts' h' tk' F' (fun p hp => (List.mem_append.mp hp).elim (N' p) fun hp => ⟨NR' p hp, (N p (h2 p hp)).2⟩) hP
theorem FnN.useB {w : World} {n : Nat} {f : Addr} {vs : List Value} {kw : List (Str × Value)} {muts rest : Led} {P : Value → Heap → Led → Prop} (C : FnN w n f vs kw muts rest P)
    {mean : ExcName → Option Value} {mg mb : Str → Option Value} {dp un : Nat} {gd : Option (List Code)} {cn : Str} {cs : Scope} {a : Addr} {ccd : Value} {cl : List (Str × Addr)} {outer : List Env} {A₀ : Around} {base h₀ : Heap} {L : Addr} {m : Str → Option Value} {s : Shared} {Q : Value → Shared → Prop} {E : Value → Shared → Prop}
    (B : Below A₀ base outer h₀) (F : Fr h₀ L s.heap m) (X : (hd.heap_39 w.params).In h₀) (N : News h₀ L s.heap muts) (T : Top hd.view_39 LS mean mg mb h₀) (hk : cs.kind = .function)
    (hdp : dp + n < recursionLimit) (hun : un + 8 * n < cLine) (G : ∀ p ∈ rest, h₀.get? p.1 = some p.2)
    (ret : ∀ r muts' h' tk', Fr h₀ L h' m → News h₀ L h' muts' → P r s.heap muts' → Q r { s with heap := h', toks := tk' }) :
    wpAny (model PG w) (ktrTop dp un gd cn cs L a ccd cl outer) (call (.ref f) vs kw) Q E s :=
  C _ _ _ _ _ _ _ _ _ _ _ _ _ _ _ _ _ _ _ _ B F X N (fun p hp => F.keep _ _ (G p hp)) (fun p hp => Nat.ne_of_lt (Nat.lt_of_lt_of_le (Heap.lt_size (G p hp)) F.above))
    (fun p hp q => by obtain ⟨x, hx, e⟩ := List.mem_map.mp q; have := (N x hx).2.2; rw [e, G p hp] at this; cases this) T hk hdp hun fun r muts' h' tk' F' N' _ hP => ret r muts' h' tk' F' N' hP
/-- a FnM told so -/
theorem FnM.toN {w : World} {n : Nat} {f : Addr} {vs : List Value} {kw : List (Str × Value)} {muts rest : Led} {P : Value → Led → Prop} (C : FnM w n f vs kw muts rest P) : FnN w n f vs kw muts rest (fun r _ l => P r l) := C
theorem fresh_of {h g : Heap} {muts : Led} {D : Addr} (GS : ∀ b o, h.get? b = some o → b ∉ muts.map (·.1) → g.get? b = some o) (hg : g.get? D = none) (hn : D ∉ muts.map (·.1)) : h.get? D = none := by
  cases q : h.get? D with
  | none => rfl
  | some o => rw [GS _ _ q hn] at hg; cases hg
section
variable {prog : Program} {w : World} {A₀ A : Around} {s : Shared} {K : Frag} {base h₀ : Heap} {outer : List Env} {L : Addr} {m mg mb : Str → Option Value} {p : Program} {loose : List Str} {mean : ExcName → Option Value} {env : Env} {muts rest : Led}
  {R : Result → Shared → Prop} {name qual : Str} {params : Arguments} {body : List Stmt} {scope : Scope} {dV kV doc pm cdv ct oc : Value} {an od : Option Addr} {osl : Array (Option Value)} {f : Addr} {args : Args} {binds : List (Str × Value)}
theorem code_defCS (B : Below A₀ base outer h₀) (F : Fr h₀ L s.heap m) (X₀ : K.In h₀) (N : News h₀ L s.heap muts) (NR : Has s.heap rest) (sep : ∀ p ∈ rest, p.1 ∉ muts.map (·.1)) (T : Top p loose mean mg mb h₀) (hA : A.frames = some (env :: outer)) (hf : env.frame = some L) (hke : env.scope.kind = .function)
    (ho : K.lookup f = some ⟨oc, od, .func (fnOf name qual params body scope dV kV doc pm an cdv ct), osl⟩) (hcd : codeIn K cdv qual = true) (hroom : A.depth < recursionLimit)
    (hbind : BindsTo s (fnOf name qual params body scope dV kV doc pm an cdv ct) args binds)
    (hkind : (binds.all fun y => scope.names.lookup y.1 == some .local || scope.names.lookup y.1 == some .cell) = true)
    (hnd : ((cellsFrom 0 scope.names []).map (·.1)).Nodup)
    (h : ∀ g L' h₁ tk cells, Fr h₀ L g m → Fr g L' h₁ (bindL (envOfC qual scope L' f cdv).kindOf binds fun _ => none) → News g L' h₁ (cells ++ muts) →
      CellsAre (bindC (envOfC qual scope L' f cdv).kindOf binds fun _ => none) (cellsFrom (L' + 1) scope.names []) cells → Below A base (env :: outer) g → K.In g → Top p loose mean mg mb g → (∀ p ∈ muts, p.1 < L') → (∀ p ∈ rest, g.get? p.1 = some p.2) → (∀ b o, s.heap.get? b = some o → b ∉ muts.map (·.1) → g.get? b = some o) →
      wpAny (model prog w) (A.deeper (envOfC qual scope L' f cdv)) (execs body (envOfC qual scope L' f cdv))
        (fun fl s' => LeaveK h₀ L m g (RestR rest R) (match fl with | .ret v => v | _ => .none) s')
        (fun e s' => wpAny (model prog w) (A.deeper (envOfC qual scope L' f cdv)) (leaving (envOfC qual scope L' f cdv) e) (fun _ s'' => R (.error e) s'') (fun e' s'' => R (.error e') s'') s')
        { s with heap := h₁, toks := tk })
    (hco : scope.isCoroutine = false) (hgen : scope.isGenerator = false) (hk : scope.kind = .function) : codeAny (model prog w) A (.call (.ref f) args) R s := by
  obtain ⟨FG, BG, st, lv⟩ := groundX (R := RestR rest R) B F N hA hf hke
  have G := rest_in (muts := muts) NR sep
  refine codeAny_call_function hroom ((X₀.keeps F.keep) _ _ ho) rfl hco hgen rfl (codeRec_of (X₀.keeps F.keep) hcd) (hbind _ _ _ _ ?_)
  refine wpAny_newFunctionEnv_cells hk (kindsX hkind _) fun env' he s' x => ?_
  subst he
  refine ⟨((T.nolimit).keeps F.keep).keeps x.toInCall.keep, codeAny_func ?_⟩
  obtain ⟨h₁, tk, rfl, _⟩ := x.done
  have hk₁ := x.toInCall.keep
  obtain ⟨cells, NC, Y⟩ := Cl.news (h₀ := s.heap) (Nat.le_refl _) fun n c hm => ⟨x.cell n c (lookup_of_mem_nodup (cellsFrom_names scope.names 0 (s.heap.objs.size + 1) [] [] rfl ▸ hnd) hm), x.above n c hm⟩
  refine wpAny_mono (h _ s.heap.objs.size h₁ tk cells FG ⟨x.toInCall.ns, fun b o e => hk₁ b o (of_hideAll _ e), Nat.le_of_eq (hideAll_size _ _)⟩ (fun p hp => ?_) Y BG (X₀.keeps st) (T.keeps st) (fun p hp => Heap.lt_size (N p hp).1) G fun b o e n => hideAll_get _ e n) (fun fl s' hl => lv _ _ hl (rest_out G hl)) fun _ _ y => y
  rcases List.mem_append.mp hp with hp | hp
  · refine ⟨(NC p hp).1, (NC p hp).2.1, ?_⟩
    cases q : (hideAll s.heap (muts.map (·.1))).get? p.1 with
    | none => rfl
    | some o => have := of_hideAll _ q; rw [(NC p hp).2.2] at this; cases this
  · exact ⟨hk₁ _ _ (N p hp).1, Nat.ne_of_lt (Heap.lt_size (N p hp).1), hideAll_none _ (List.mem_map_of_mem hp)⟩
theorem code_defCP (B : Below A₀ base outer h₀) (F : Fr h₀ L s.heap m) (X₀ : K.In h₀) (T : Top p loose mean mg mb h₀) (hA : A.frames = some (env :: outer)) (hf : env.frame = some L) (hke : env.scope.kind = .function)
    (ho : K.lookup f = some ⟨oc, od, .func (fnOf name qual params body scope dV kV doc pm an cdv ct), osl⟩) (hcd : codeIn K cdv qual = true) (hroom : A.depth < recursionLimit)
    (hbind : BindsTo s (fnOf name qual params body scope dV kV doc pm an cdv ct) args binds)
    (hkind : (binds.all fun y => scope.names.lookup y.1 == some .local || scope.names.lookup y.1 == some .cell) = true)
    (hnd : ((cellsFrom 0 scope.names []).map (·.1)).Nodup)
    (h : ∀ g L' h₁ tk cells, Fr h₀ L g m → Fr g L' h₁ (bindL (envOfC qual scope L' f cdv).kindOf binds fun _ => none) → News g L' h₁ (cells ++ []) →
      CellsAre (bindC (envOfC qual scope L' f cdv).kindOf binds fun _ => none) (cellsFrom (L' + 1) scope.names []) cells → Below A base (env :: outer) g → K.In g → Top p loose mean mg mb g → KeepA s.heap g → KeepA g s.heap →
      wpAny (model prog w) (A.deeper (envOfC qual scope L' f cdv)) (execs body (envOfC qual scope L' f cdv))
        (fun fl s' => LeaveK h₀ L m g (KeepR s.heap R) (match fl with | .ret v => v | _ => .none) s')
        (fun e s' => wpAny (model prog w) (A.deeper (envOfC qual scope L' f cdv)) (leaving (envOfC qual scope L' f cdv) e) (fun _ s'' => R (.error e) s'') (fun e' s'' => R (.error e') s'') s')
        { s with heap := h₁, toks := tk })
    (hco : scope.isCoroutine = false) (hgen : scope.isGenerator = false) (hk : scope.kind = .function) : codeAny (model prog w) A (.call (.ref f) args) R s := by
  obtain ⟨FG, BG, st, lv⟩ := groundX (R := KeepR s.heap R) (news := []) B F News.nil hA hf hke
  refine codeAny_call_function hroom ((X₀.keeps F.keep) _ _ ho) rfl hco hgen rfl (codeRec_of (X₀.keeps F.keep) hcd) (hbind _ _ _ _ ?_)
  refine wpAny_newFunctionEnv_cells hk (kindsX hkind _) fun env' he s' x => ?_
  subst he
  refine ⟨((T.nolimit).keeps F.keep).keeps x.toInCall.keep, codeAny_func ?_⟩
  obtain ⟨h₁, tk, rfl, _⟩ := x.done
  have hk₁ := x.toInCall.keep
  obtain ⟨cells, NC, Y⟩ := Cl.news (h₀ := s.heap) (Nat.le_refl _) fun n c hm => ⟨x.cell n c (lookup_of_mem_nodup (cellsFrom_names scope.names 0 (s.heap.objs.size + 1) [] [] rfl ▸ hnd) hm), x.above n c hm⟩
  have hk2 : KeepA s.heap (hideAll s.heap (([] : Led).map (·.1))) := fun b o e => hideAll_get _ e (fun q => nomatch q)
  refine wpAny_mono (h _ s.heap.objs.size h₁ tk cells FG ⟨x.toInCall.ns, fun b o e => hk₁ b o (of_hideAll _ e), Nat.le_of_eq (hideAll_size _ _)⟩ (fun p hp => ?_) Y BG (X₀.keeps st) (T.keeps st) hk2 (fun b o e => of_hideAll _ e)) (fun fl s' hl => lv _ _ hl ?_) fun _ _ y => y
  · rcases List.mem_append.mp hp with hp | hp
    · refine ⟨(NC p hp).1, (NC p hp).2.1, ?_⟩
      cases q : (hideAll s.heap (([] : Led).map (·.1))).get? p.1 with
      | none => rfl
      | some o => have := of_hideAll _ q; rw [(NC p hp).2.2] at this; cases this
    · exact nomatch hp
  · obtain ⟨L', m', news', F', N', _⟩ := hl
    exact fun b o e => F'.keep _ _ (hk2 b o e)
end
end
section
open PySem PySem.W PySem.Calls PyProof.Rows PySem.Spec PyProof.V
section
variable {prog : Program} {w : World} {A : Around} {E : Value → Shared → Prop} {s : Shared} {h₀ : Heap} {L : Addr} {m : Str → Option Value} {env : Env} {x : Str} {body : List Stmt} {Q : Flow → Shared → Prop}
theorem CompEnd.mono {s₁ s₂ : Shared} {I C D : Addr} {oI oC oD : Obj} {S : Led → Prop} {r r' : Value → Led → Prop} {y : Value} (h : LCg.CompEnd h₀ L m s₁ I oI C oC D oD S r y s₂) (k : ∀ n, r y n → r' y n) : LCg.CompEnd h₀ L m s₁ I oI C oC D oD S r' y s₂ := by
  obtain ⟨h', tk, news', e, F, N, o, hS, hr⟩ := h
  exact ⟨h', tk, news', e, F, N, o, hS, k _ hr⟩
/-- a comprehension with a test, by an invariant over place, list so far and ledger -/
theorem restT_ind {ct elt : Expr} {scope : Scope} {cl : List (Str × Addr)} {S : Led → Prop} {P : Nat → Value → Prop} {Fin : List Value → Led → Prop} {n : Nat} (Inv : Nat → List Value → Led → Prop)
    (elem : ∀ i, i < n → ∀ ys news, Inv i ys news → ∀ v I oI C oC D m₂ h tk (E' : Value → Shared → Prop), P i v → LCg.NsObj oC m₂ → m₂ x = some v → Fr h₀ L h m → News h₀ L h ((I, oI) :: (C, oC) :: (D, LCg.lst ys) :: news) → LCg.Off3 I C D news → ((@Ne Nat I C) ∧ (@Ne Nat I D) ∧ (@Ne Nat C D)) →
      wpAny (model prog w) A (isTrue ct (compEnvC scope cl C env) (eval ct (compEnvC scope cl C env))) (fun ok s' => if ok = true then
        wpAny (model prog w) A (eval elt (compEnvC scope cl C env)) (LCg.CompEnd h₀ L m { s with heap := h, toks := tk } I oI C oC D (LCg.lst ys) S (fun y news' => Inv (i + 1) (ys ++ [y]) news')) E' s'
        else LCg.CompEnd h₀ L m { s with heap := h, toks := tk } I oI C oC D (LCg.lst ys) S (fun _ news' => Inv (i + 1) ys news') Value.none s') E' { s with heap := h, toks := tk })
    (fin : ∀ ys news, Inv n ys news → Fin ys news) : ∀ k i ys news, i + k = n → Inv i ys news → LCt.CompRestT prog w A h₀ L m env ct elt x scope cl s S P Fin k i ys news
  | 0, i, ys, news, hk, hI => fin _ _ (by obtain rfl : i = n := (by omega); exact hI)
  | k + 1, i, ys, news, hk, hI => fun v I oI C oC D m₂ h tk E' h1 h2 h3 h4 h5 h6 h7 => by
    refine wpAny_mono (elem i (by omega) ys news hI v I oI C oC D m₂ h tk E' h1 h2 h3 h4 h5 h6 h7) (fun ok s' q => ?_) fun _ _ e => e
    cases ok with
    | true =>
      simp only [if_true] at q ⊢
      exact wpAny_mono q (fun y s'' z => CompEnd.mono z fun nw hi => restT_ind Inv elem fin k (i + 1) _ nw (by omega) hi) fun _ _ e => e
    | false =>
      simp only [Bool.false_eq_true, if_false] at q ⊢
      exact CompEnd.mono q fun nw hi => restT_ind Inv elem fin k (i + 1) _ nw (by omega) hi
/-- the same without a test -/
theorem rest_ind {elt : Expr} {scope : Scope} {cl : List (Str × Addr)} {S : Led → Prop} {P : Nat → Value → Prop} {Fin : List Value → Led → Prop} {n : Nat} (Inv : Nat → List Value → Led → Prop)
    (elem : ∀ i, i < n → ∀ ys news, Inv i ys news → ∀ v I oI C oC D m₂ h tk (E' : Value → Shared → Prop), P i v → LCg.NsObj oC m₂ → m₂ x = some v → Fr h₀ L h m → News h₀ L h ((I, oI) :: (C, oC) :: (D, LCg.lst ys) :: news) → LCg.Off3 I C D news → ((@Ne Nat I C) ∧ (@Ne Nat I D) ∧ (@Ne Nat C D)) →
      wpAny (model prog w) A (eval elt (compEnvC scope cl C env)) (LCg.CompEnd h₀ L m { s with heap := h, toks := tk } I oI C oC D (LCg.lst ys) S (fun y news' => Inv (i + 1) (ys ++ [y]) news')) E' { s with heap := h, toks := tk })
    (fin : ∀ ys news, Inv n ys news → Fin ys news) : ∀ k i ys news, i + k = n → Inv i ys news → LCg.CompRest prog w A h₀ L m env elt x scope cl s S P Fin k i ys news
  | 0, i, ys, news, hk, hI => fin _ _ (by obtain rfl : i = n := (by omega); exact hI)
  | k + 1, i, ys, news, hk, hI => fun v I oI C oC D m₂ h tk E' h1 h2 h3 h4 h5 h6 h7 =>
    wpAny_mono (elem i (by omega) ys news hI v I oI C oC D m₂ h tk E' h1 h2 h3 h4 h5 h6 h7) (fun y s'' z => CompEnd.mono z fun nw hi => rest_ind Inv elem fin k (i + 1) _ nw (by omega) hi) fun _ _ e => e
theorem UnrPost.mono {s₁ s₂ : Shared} {I : Addr} {it : Obj} {r r' : (Str → Option Value) → Led → Prop} {f : Flow} (h : UnrPost h₀ L s₁ I it r Q f s₂) (k : ∀ m n, r m n → r' m n) : UnrPost h₀ L s₁ I it r' Q f s₂ := by
  cases f with
  | ret v => exact h
  | brk => exact h
  | next => obtain ⟨h', tk, m', news', e, F, N, o, hr⟩ := h; exact ⟨h', tk, m', news', e, F, N, o, k _ _ hr⟩
  | cont => obtain ⟨h', tk, m', news', e, F, N, o, hr⟩ := h; exact ⟨h', tk, m', news', e, F, N, o, k _ _ hr⟩
/-- a for over a list of the ledger, by an invariant over what is left, names and ledger -/
theorem listRest_ind {I : Addr} {lp : Addr × Obj} (J : List Value → (Str → Option Value) → Led → Prop)
    (turn : ∀ v r m news, J (v :: r) m news → ∀ (it : Obj) h tk, it.cls = .type "list_iterator" → Fr h₀ env.locals h (fun y => if y = x then some v else m y) → News h₀ env.locals h ((I, it) :: news) →
      wpAny (model prog w) A (execs body env) (UnrPost h₀ env.locals { s with heap := h, toks := tk } I it (fun m' n' => lp ∈ n' ∧ J r m' n') Q) E { s with heap := h, toks := tk })
    (fin : ∀ m news, J [] m news → ∀ h tk, Fr h₀ env.locals h m → News h₀ env.locals h news → Q .next { s with heap := h, toks := tk }) :
    ∀ vs m news, J vs m news → ListRest prog w A E h₀ env x body Q s I lp vs m news
  | [], m, news, hJ => fin m news hJ
  | v :: r, m, news, hJ => fun it h tk hc F N => wpAny_mono (turn v r m news hJ it h tk hc F N) (fun _ _ z => UnrPost.mono z fun m' n' q => ⟨q.1, listRest_ind J turn fin r m' n' q.2⟩) fun _ _ e => e
/-- a for over range(n), by an invariant over the place, names and ledger -/
theorem rangeRest_ind {I : Addr} {a : Int} {n : Nat} (J : Nat → (Str → Option Value) → Led → Prop)
    (turn : ∀ i, i < n → ∀ m news, J i m news → ∀ t h tk, Fr h₀ env.locals h (fun y => if y = x then some (.int (a + (i : Int)) t) else m y) → News h₀ env.locals h ((I, itR (a + ((i + 1 : Nat) : Int)) ((n : Int) - ((i + 1 : Nat) : Int))) :: news) →
      wpAny (model prog w) A (execs body env) (UnrPost h₀ env.locals { s with heap := h, toks := tk } I (itR (a + ((i + 1 : Nat) : Int)) ((n : Int) - ((i + 1 : Nat) : Int))) (J (i + 1)) Q) E { s with heap := h, toks := tk })
    (fin : ∀ m news, J n m news → ∀ h tk, Fr h₀ env.locals h m → News h₀ env.locals h news → Q .next { s with heap := h, toks := tk }) :
    ∀ k i m news, i + k = n → J i m news → RangeRest prog w A E h₀ env x body Q s I a n k i m news
  | 0, i, m, news, hk, hJ => fin m news (by obtain rfl : i = n := (by omega); exact hJ)
  | k + 1, i, m, news, hk, hJ => fun t h tk F N => wpAny_mono (turn i (by omega) m news hJ t h tk F N) (fun _ _ z => UnrPost.mono z fun m' n' q => rangeRest_ind J turn fin k (i + 1) m' n' (by omega) q) fun _ _ e => e
end
end
section
open PySem PySem.W PySem.Calls PyProof.Rows PySem.Spec PyProof.V
inductive RnJ (s : Shared) (h₀ : Heap) (L I : Addr) (a : Int) (n : Nat) (J : Nat → (Str → Option Value) → Led → Prop) (k : Nat) (s' : Shared) : Prop
  | mk (h : Heap) (tk i : Nat) (m : Str → Option Value) (news : Led) (e : s' = { s with heap := h, toks := tk }) (hi : i ≤ n) (hk : k = n + 1 - i) (F : Fr h₀ L h m) (N : News h₀ L h news) (o : ∀ p ∈ news, p.1 ≠ I) (hI : IsRangeIter h I (a + (i : Nat) * 1) ((n : Int) - (i : Nat)) 1) (j : J i m news)
section
variable {prog : Program} {w : World} {A : Around} {E : Value → Shared → Prop} {s : Shared} {h₀ : Heap} {L : Addr} {env : Env} {x : Str} {px : Pos} {body : List Stmt} {Q : Flow → Shared → Prop}
/-- a for over a range whose target is any name: the store is left to the walk -/
theorem iter_rangeAny {r : Addr} {a b : Int} {t u v : Tok} {n : Nat} {m₀ : Str → Option Value} {news₀ : Led} (J : Nat → (Str → Option Value) → Led → Prop)
    (hh : A.handled = none) (hr : IsRange s.heap r a b 1 t u v) (hsm : Builtin.Range.small a b 1 = true) (hn : Builtin.Range.rangeSize a b 1 = (n : Int)) (F : Fr h₀ L s.heap m₀) (N : News h₀ L s.heap news₀) (hJ : J 0 m₀ news₀)
    (turn : ∀ I i, i < n → ∀ m news, (∀ p ∈ news, p.1 ≠ I) → J i m news → ∀ t h tk, Fr h₀ L h m → News h₀ L h ((I, itR (a + ((i + 1 : Nat) : Int)) ((n : Int) - ((i + 1 : Nat) : Int))) :: news) →
      wpAny (model prog w) A (storeName env x (.int (a + (i : Int)) t)) (fun _ s₂ => wpAny (model prog w) A (execs body env) (UnrPost h₀ L { s with heap := h, toks := tk } I (itR (a + ((i + 1 : Nat) : Int)) ((n : Int) - ((i + 1 : Nat) : Int))) (J (i + 1)) Q) E s₂) E { s with heap := h, toks := tk })
    (fin : ∀ m news, J n m news → ∀ h tk, Fr h₀ L h m → News h₀ L h news → Q .next { s with heap := h, toks := tk })
    (hE : PassesOwn (model prog w) A env E) :
    wpAny (model prog w) A (pyIter (.ref r)) (fun it s₂ => codeAny (model prog w) A (.forLoop (.Name x px) it body [] env) (fun r s' => match r with | .ok f => Q f s' | .error e => cameBackBy (model prog w) A env E e s') s₂) E s := by
  refine wpAny_pyIter_range hr hsm ?_
  generalize hI : s.heap.objs.size = I
  have hnew : h₀.get? I = none := hI ▸ next_is_new F
  have hLI : L ≠ I := hI ▸ Nat.ne_of_lt F.ns.lt
  have W := Walks.range (prog := prog) (w := w) hh I a 1 n
  refine codeAny_forLoop_any (RnJ s h₀ L I a n J) ?_ (n + 1)
    ⟨_, _, 0, m₀, news₀, rfl, Nat.zero_le _, rfl, F.push _, fun p hp => ⟨Heap.get?_push_of_some _ (N p hp).1, (N p hp).2⟩, fun p hp => hI ▸ Nat.ne_of_lt (Heap.lt_size (N p hp).1), ?_, hJ⟩
  · rintro k s' ⟨h, tk, i, m, news, rfl, hi, rfl, F', N', off, hst, hJ'⟩
    by_cases hlt : i < n
    · refine W.item i _ _ _ hlt hst fun v h₂ tk₂ hPv hst₂ hk₂ => ?_
      obtain ⟨t', rfl⟩ := hPv
      have F₂ : Fr h₀ L h₂ m := LCg.fr_but F' hk₂ hLI hnew
      have N₂ : News h₀ L h₂ news := LCg.news_but N' hk₂ off
      have hit : h₂.get? I = some (itR (a + ((i + 1 : Nat) : Int)) ((n : Int) - ((i + 1 : Nat) : Int))) := by
        have q : IsRangeIter h₂ I (a + ((i + 1 : Nat) : Int) * 1) ((n : Int) - ((i + 1 : Nat) : Int)) 1 := hst₂
        rw [Int.mul_one] at q
        exact q
      have N₃ : News h₀ L h₂ ((I, itR (a + ((i + 1 : Nat) : Int)) ((n : Int) - ((i + 1 : Nat) : Int))) :: news) := fun p hp => by
        rcases List.mem_cons.mp hp with rfl | hp
        · exact ⟨hit, Ne.symm hLI, hnew⟩
        · exact N₂ p hp
      refine wpAny_of_eq rfl ?_
      refine wpAny_assign_Name ?_
      rw [Int.mul_one]
      refine wpAny_mono (turn I i hlt m news off hJ' t' h₂ tk₂ F₂ N₃) (fun _ s₂ z => wpAny_mono z (fun f s₃ q => ?_) hE) hE
      have back : UnrEnd h₀ L { s with heap := h₂, toks := tk₂ } I (itR (a + ((i + 1 : Nat) : Int)) ((n : Int) - ((i + 1 : Nat) : Int))) (J (i + 1)) s₃ → ∃ k', k' < n + 1 - i ∧ RnJ s h₀ L I a n J k' s₃ := by
        rintro ⟨h', tk', m', news', rfl, F₄, N₄, off₄, hJ₄⟩
        refine ⟨n + 1 - (i + 1), by omega, h', tk', i + 1, m', news', rfl, hlt, rfl, F₄, fun p hp => N₄ p (.tail _ hp), off₄, ?_, hJ₄⟩
        rw [Int.mul_one]
        exact (N₄ _ (.head _)).1
      cases f with
      | next => exact back q
      | cont => exact back q
      | brk => exact q
      | ret v => exact q
    · obtain rfl : i = n := Nat.le_antisymm hi (Nat.not_lt.mp hlt)
      refine W.done _ _ _ hst fun h₂ tk₂ hk₂ => ?_
      exact wpAny_execs_nil (fin m news hJ' h₂ tk₂ (LCg.fr_but F' hk₂ hLI hnew) (LCg.news_but N' hk₂ off))
  · show IsRangeIter _ _ _ _ _
    rw [hn]
    subst hI
    simpa using Heap.get?_push_size _ rfl
end
end
section
open PySem PySem.W PySem.Calls PyProof.Rows PySem.Spec PyProof.V
/-- four addresses apart from a ledger -/
def Off4 (I K C D : Addr) (l : Led) : Prop := ∀ p ∈ l, p.1 ≠ I ∧ p.1 ≠ K ∧ p.1 ≠ C ∧ p.1 ≠ D
inductive CEnd (h₀ : Heap) (L : Addr) (m : Str → Option Value) (s₁ : Shared) (I K C D : Addr) (oI oK oC oD : Obj) (r : Value → Led → Prop) (y : Value) (s₂ : Shared) : Prop
  | mk (h' : Heap) (tk : Nat) (news' : Led) (e : s₂ = { s₁ with heap := h', toks := tk }) (F : Fr h₀ L h' m) (N : News h₀ L h' ((I, oI) :: (K, oK) :: (C, oC) :: (D, oD) :: news')) (o : Off4 I K C D news') (hr : r y news')
inductive RJ (s₁ : Shared) (h₀ : Heap) (L : Addr) (m : Str → Option Value) (I K C D : Addr) (a : Int) (n : Nat) (Inv : Nat → List Value → Led → Prop) (k : Nat) (s' : Shared) : Prop
  | mk (h' : Heap) (tk i : Nat) (ys : List Value) (news' : Led) (v₀ : Option Value) (e : s' = { s₁ with heap := h', toks := tk }) (hi : i ≤ n) (hk : k = n + 1 - i) (hy : ys.length ≤ i) (hI : IsRangeIter h' I (a + (i : Nat) * 1) ((n : Int) - (i : Nat)) 1) (F : Fr h₀ L h' m) (hC : h'.Ns C (fun _ => none)) (hK : h'.IsCell K v₀) (N : News h₀ L h' ((D, LCg.lst ys) :: news'))
    (o : Off4 I K C D news') (j : Inv i ys news')
theorem newsQ {h₀ h : Heap} {L b : Addr} {o : Obj} {r : Led} (z : h.get? b = some o ∧ b ≠ L ∧ h₀.get? b = none) (N : News h₀ L h r) : News h₀ L h ((b, o) :: r) := fun p hp => by
  rcases List.mem_cons.mp hp with rfl | hp
  · exact z
  · exact N p hp
section
variable {prog : Program} {w : World} {A : Around} {E : Value → Shared → Prop} {s : Shared} {h₀ : Heap} {L : Addr} {m : Str → Option Value} {env : Env} {x : Str} {px pos : Pos} {ct elt iter : Expr} {scope : Scope} {cl : List (Str × Addr)} {Q : Value → Shared → Prop}
theorem loop_RC {s₁ : Shared} {I K C D : Addr} {a : Int} {n : Nat} {h₁ : Heap} {tk₁ : Nat} {news : Led} {R : Result → Shared → Prop} (Inv : Nat → List Value → Led → Prop) (hh : A.handled = none) (hsz : n ≤ sizeLine) (hkind : scope.kind = .function) (hx : ∀ K C, (compEnvC scope ((x, K) :: cl) C env).kindOf x = some .cell)
    (F : Fr h₀ L h₁ m) (N : News h₀ L h₁ news) (off : Off4 I K C D news) (ne : (@Ne Nat I K) ∧ (@Ne Nat I C) ∧ (@Ne Nat I D) ∧ (@Ne Nat K C) ∧ (@Ne Nat K D) ∧ (@Ne Nat C D)) (nL : I ≠ L ∧ K ≠ L ∧ C ≠ L ∧ D ≠ L)
    (n₀ : h₀.get? I = none ∧ h₀.get? K = none ∧ h₀.get? C = none ∧ h₀.get? D = none) (hI : IsRangeIter h₁ I a n 1) (hK : h₁.IsCell K none) (hC : h₁.Ns C (fun _ => none)) (hD : h₁.get? D = some (LCg.lst [])) (hI0 : Inv 0 [] news)
    (elem : ∀ i, i < n → ∀ ys news, Inv i ys news → ∀ t I oI K oK C oC D h tk (E' : Value → Shared → Prop), oK.data = .cell (some (.int (a + (i : Int)) t)) → Fr h₀ L h m → News h₀ L h ((I, oI) :: (K, oK) :: (C, oC) :: (D, LCg.lst ys) :: news) → Off4 I K C D news →
          ((@Ne Nat I K) ∧ (@Ne Nat I C) ∧ (@Ne Nat I D) ∧ (@Ne Nat K C) ∧ (@Ne Nat K D) ∧ (@Ne Nat C D)) →
          wpAny (model prog w) A (isTrue ct (compEnvC scope ((x, K) :: cl) C env) (eval ct (compEnvC scope ((x, K) :: cl) C env))) (fun ok s' => if ok = true then
            wpAny (model prog w) A (eval elt (compEnvC scope ((x, K) :: cl) C env)) (CEnd h₀ L m { s₁ with heap := h, toks := tk } I K C D oI oK oC (LCg.lst ys) (fun y news' => Inv (i + 1) (ys ++ [y]) news')) E' s'
            else CEnd h₀ L m { s₁ with heap := h, toks := tk } I K C D oI oK oC (LCg.lst ys) (fun _ news' => Inv (i + 1) ys news') Value.none s') E' { s₁ with heap := h, toks := tk })
    (fin : ∀ ys news h tk, Inv n ys news → Fr h₀ L h m → News h₀ L h ((D, LCg.lst ys) :: news) → Off4 I K C D news → h.Ns C (fun _ => none) → R (.ok .next) { s₁ with heap := h, toks := tk }) :
    codeAny (model prog w) A (.compLoop (.ListComp elt [⟨.Name x px, iter, [ct], 0⟩] scope pos) 0 (.ref I) (.ref D) (compEnvC scope ((x, K) :: cl) C env)) R { s₁ with heap := h₁, toks := tk₁ } := by
  obtain ⟨nIK, nIC, nID, nKC, nKD, nCD⟩ := ne
  obtain ⟨lI, lK, lC, lD⟩ := nL
  obtain ⟨zI, zK, zC, zD⟩ := n₀
  have W := Walks.range (prog := prog) (w := w) hh I a 1 n
  refine codeAny_compLoop_tests
    (RJ s₁ h₀ L m I K C D a n Inv) ?_ (n + 1)
    ⟨h₁, _, 0, [], news, none, rfl, Nat.zero_le _, rfl, Nat.le_refl _, by simpa using hI, F, hC, hK, newsQ ⟨hD, lD, zD⟩ N, off, hI0⟩
  · rintro k s' ⟨h', tk, i, ys, news', v₀, rfl, hi, rfl, hyl, hst', F', hn', hk', N', off', hI'⟩
    by_cases hlt : i < n
    · refine W.item i _ _ _ hlt hst' fun v h₂ tk₂ hPv hst₂ hk₂ => ?_
      obtain ⟨t', rfl⟩ := hPv
      have k2 : ∀ b o, b ≠ I → h'.get? b = some o → h₂.get? b = some o := fun b o hb e => hk₂ b o (by simpa using hb) e
      refine wpAny_assign_Name (wpAny_storeName_cell hkind (hx K C) (by simp [compEnvC]) ((show h₂.IsCell K v₀ from let ⟨o, ho, hd⟩ := hk'; ⟨o, k2 K o (Ne.symm nIK) ho, hd⟩)) fun h₃ hc₃ hs₃ => ?_)
      refine wpAny_tests_one ?_
      have k3 : ∀ b o, b ≠ K → h₂.get? b = some o → h₃.get? b = some o := fun b o hb e => hs₃.extBut b o hb e
      have F₃ : Fr h₀ L h₃ m := (LCg.fr_but F' hk₂ (Ne.symm lI) zI).change hs₃ lK zK
      obtain ⟨oK, hoK, hdK⟩ := hc₃
      have hit : h₂.get? I = some (itR (a + ((i + 1 : Nat) : Int)) ((n : Int) - ((i + 1 : Nat) : Int))) := by
        have q : IsRangeIter h₂ I (a + ((i + 1 : Nat) : Int) * 1) ((n : Int) - ((i + 1 : Nat) : Int)) 1 := hst₂
        rw [Int.mul_one] at q
        exact q
      obtain ⟨oC, heC, hoC⟩ := LCg.ns_obj hn'
      have N₃ : News h₀ L h₃ ((I, itR (a + ((i + 1 : Nat) : Int)) ((n : Int) - ((i + 1 : Nat) : Int))) :: (K, oK) :: (C, oC) :: (D, LCg.lst ys) :: news') :=
        newsQ ⟨k3 _ _ nIK hit, lI, zI⟩ (newsQ ⟨hoK, lK, zK⟩ (newsQ ⟨k3 _ _ (Ne.symm nKC) (k2 _ _ (Ne.symm nIC) heC), lC, zC⟩ (newsQ ⟨k3 _ _ (Ne.symm nKD) (k2 _ _ (Ne.symm nID) (N' _ (.head _)).1), lD, zD⟩ fun p hp => ⟨k3 _ _ (off' p hp).2.1 (k2 _ _ (off' p hp).1 (N' p (.tail _ hp)).1), (N' p (.tail _ hp)).2⟩)))
      rw [Int.mul_one] at hdK
      refine wpAny_mono (elem i hlt ys news' hI' t' I _ K oK C oC D h₃ _ _ hdK F₃ N₃ off' ⟨nIK, nIC, nID, nKC, nKD, nCD⟩) (fun ok s₄ h₄ => ?_) fun _ _ e => e
      have back : ∀ (zs : List Value) (nw : Led) (h₅ : Heap) (tk₅ : Nat), zs.length ≤ i + 1 → Fr h₀ L h₅ m → News h₀ L h₅ ((I, itR (a + ((i + 1 : Nat) : Int)) ((n : Int) - ((i + 1 : Nat) : Int))) :: (K, oK) :: (C, oC) :: (D, LCg.lst zs) :: nw) → Off4 I K C D nw → Inv (i + 1) zs nw →
          ∃ k', k' < n + 1 - i ∧ RJ s₁ h₀ L m I K C D a n Inv k' { s₁ with heap := h₅, toks := tk₅ } := fun zs nw h₅ tk₅ hz F₅ N₅ o₅ hi₅ =>
        ⟨n + 1 - (i + 1), by omega, h₅, tk₅, i + 1, zs, nw, _, rfl, hlt, rfl, hz, by rw [Int.mul_one]; exact (N₅ _ (.head _)).1, F₅, hoC.ns (N₅ _ (.tail _ (.tail _ (.head _)))).1, ⟨oK, (N₅ _ (.tail _ (.head _))).1, hdK⟩, fun p hp => N₅ p (.tail _ (.tail _ (.tail _ hp))), o₅, hi₅⟩
      cases ok with
      | true =>
        simp only [if_true] at h₄ ⊢
        refine wpAny_mono h₄ (fun y s₅ h₅ => ?_) fun _ _ e => e
        obtain ⟨h₅, tk₅, nw, rfl, F₅, N₅, o₅, hi₅⟩ := h₅
        have zD' := N₅ (D, LCg.lst ys) (.tail _ (.tail _ (.tail _ (.head _))))
        refine append_at (hsz := by show ys.toArray.size ≤ sizeLine; rw [List.size_toArray]; exact Nat.le_trans (Nat.le_trans hyl hi) hsz) zD'.1 fun h₆ hs₆ hD₆ => ?_
        refine back (ys ++ [y]) nw h₆ tk₅ (by rw [List.length_append, List.length_singleton]; exact Nat.succ_le_succ hyl) (F₅.change hs₆ lD zD) (newsQ ⟨hs₆.extBut _ _ nID (N₅ _ (.head _)).1, lI, zI⟩ (newsQ ⟨hs₆.extBut _ _ nKD (N₅ _ (.tail _ (.head _))).1, lK, zK⟩ (newsQ ⟨hs₆.extBut _ _ nCD (N₅ _ (.tail _ (.tail _ (.head _)))).1, lC, zC⟩
          (newsQ ⟨hD₆.trans (congrArg some (LCg.lst_snoc ys y)), lD, zD⟩ fun p hp => ⟨hs₆.extBut _ _ (o₅ p hp).2.2.2 (N₅ p (.tail _ (.tail _ (.tail _ (.tail _ hp))))).1, (N₅ p (.tail _ (.tail _ (.tail _ (.tail _ hp))))).2⟩)))) o₅ hi₅
      | false =>
        simp only [Bool.false_eq_true, if_false] at h₄ ⊢
        obtain ⟨h₅, tk₅, nw, rfl, F₅, N₅, o₅, hi₅⟩ := h₄
        exact back ys nw h₅ tk₅ (Nat.le_succ_of_le hyl) F₅ N₅ o₅ hi₅
    · obtain rfl : i = n := Nat.le_antisymm hi (Nat.not_lt.mp hlt)
      refine W.done _ _ _ hst' fun h₂ tk₂ hk₂ => ?_
      have k2 : ∀ b o, b ≠ I → h'.get? b = some o → h₂.get? b = some o := fun b o hb e => hk₂ b o (by simpa using hb) e
      refine fin ys news' h₂ tk₂ hI' (LCg.fr_but F' hk₂ (Ne.symm lI) zI) (LCg.news_but N' hk₂ fun p hp => ?_) off' (hn'.at' fun o e => k2 _ o (Ne.symm nIC) e)
      rcases List.mem_cons.mp hp with rfl | hp
      · exact Ne.symm nID
      · exact (off' p hp).1
theorem ListComp_RC (F₀ : Fr h₀ L s.heap m) (hclos : closureFor scope env = pure cl) (hkind : scope.kind = .function) (hnames : ∀ y ∈ scope.names, y.2 = .local → scope.names.lookup y.1 = some .local)
    (hcf : ∀ n, cellsFrom n scope.names cl = (x, n) :: cl) (hpc : ∀ h, pushCells h scope.names = h.push { cls := .type "cell", data := .cell none }) (hx : ∀ K C, (compEnvC scope ((x, K) :: cl) C env).kindOf x = some .cell)
    (h : wpAny (model prog w) A (eval iter env) (fun xv s₁ => ∃ r a b t u v n news, xv = .ref r ∧ A.handled = none ∧ Fr h₀ L s₁.heap m ∧ News h₀ L s₁.heap news ∧ IsRange s₁.heap r a b 1 t u v ∧ Builtin.Range.small a b 1 = true ∧ Builtin.Range.rangeSize a b 1 = ((n : Nat) : Int) ∧ n ≤ sizeLine ∧
      ∃ Inv : Nat → List Value → Led → Prop, Inv 0 [] news ∧
        (∀ i, i < n → ∀ ys news, Inv i ys news → ∀ t I oI K oK C oC D h tk (E' : Value → Shared → Prop), oK.data = .cell (some (.int (a + (i : Int)) t)) → Fr h₀ L h m → News h₀ L h ((I, oI) :: (K, oK) :: (C, oC) :: (D, LCg.lst ys) :: news) → Off4 I K C D news →
          ((@Ne Nat I K) ∧ (@Ne Nat I C) ∧ (@Ne Nat I D) ∧ (@Ne Nat K C) ∧ (@Ne Nat K D) ∧ (@Ne Nat C D)) →
          wpAny (model prog w) A (isTrue ct (compEnvC scope ((x, K) :: cl) C env) (eval ct (compEnvC scope ((x, K) :: cl) C env))) (fun ok s' => if ok = true then
            wpAny (model prog w) A (eval elt (compEnvC scope ((x, K) :: cl) C env)) (CEnd h₀ L m { s₁ with heap := h, toks := tk } I K C D oI oK oC (LCg.lst ys) (fun y news' => Inv (i + 1) (ys ++ [y]) news')) E' s'
            else CEnd h₀ L m { s₁ with heap := h, toks := tk } I K C D oI oK oC (LCg.lst ys) (fun _ news' => Inv (i + 1) ys news') Value.none s') E' { s₁ with heap := h, toks := tk }) ∧
        (∀ ys news, Inv n ys news → ∀ D h tk, Fr h₀ L h m → News h₀ L h ((D, LCg.lst ys) :: news) → (∀ p ∈ news, p.1 ≠ D) → Q (.ref D) { s₁ with heap := h, toks := tk })) E s)
    (hs : ∀ x, foldedSetIterable iter env x = pure x := by intro _; rfl) :
    wpAny (model prog w) A (eval (.ListComp elt [⟨.Name x px, iter, [ct], 0⟩] scope pos) env) Q E s := by
  rw [eval_ListComp]
  refine wpAny_comprehension_free (use := none) rfl hs hclos hkind hnames (wpAny_mono h (fun xv s₁ h₁ => ?_) fun _ _ e => e)
  obtain ⟨r, a, b, t, u, v, n, news, rfl, hh, F, N, hr, hsm, hn, hsz, Inv, hI0, elem, fin⟩ := h₁
  refine wpAny_pyIter_range hr hsm ?_
  refine wpAny_newObj_type ?_
  simp only [newFunctionEnv, Option.isSome_some, if_true]
  refine wpAny_bind (wpAny_alloc ?_)
  refine wpAny_bind (wpAny_layCells _ (fun name kind cells => by cases hkc : kind == NameKind.cell <;> simp [hkc]) _ _ _ _ ?_)
  rw [hcf, hpc]
  simp only [List.forIn_nil]
  refine wpAny_bind (wpAny_pure (wpAny_pure ?_))
  generalize hH1 : s₁.heap.push { cls := .type "range_iterator", data := .fields #[rawInt a, rawInt (Builtin.Range.rangeSize a b 1), rawInt 1] } = H1
  generalize hH2 : H1.push { cls := .type "list", data := .seq #[] } = H2
  generalize hH3 : H2.push { cls := .type "dict", data := .dict #[] } = H3
  generalize hH4 : H3.push { cls := .type "cell", data := .cell none } = H4
  have z1 : H1.objs.size = s₁.heap.objs.size + 1 := by rw [← hH1, Heap.size_push]
  have z2 : H2.objs.size = s₁.heap.objs.size + 2 := by rw [← hH2, Heap.size_push, z1]
  have z3 : H3.objs.size = s₁.heap.objs.size + 3 := by rw [← hH3, Heap.size_push, z2]
  have k4 : ∀ b o, H3.get? b = some o → H4.get? b = some o := fun b o e => hH4 ▸ Heap.get?_push_of_some _ e
  have k3 : ∀ b o, H2.get? b = some o → H4.get? b = some o := fun b o e => k4 b o (hH3 ▸ Heap.get?_push_of_some _ e)
  have k2 : ∀ b o, H1.get? b = some o → H4.get? b = some o := fun b o e => k3 b o (hH2 ▸ Heap.get?_push_of_some _ e)
  have k1 : ∀ b o, s₁.heap.get? b = some o → H4.get? b = some o := fun b o e => k2 b o (hH1 ▸ Heap.get?_push_of_some _ e)
  have fresh₀ : ∀ c, s₁.heap.objs.size ≤ c → h₀.get? c = none := fun c hc => by
    cases e : h₀.get? c with
    | none => rfl
    | some o' => exact absurd (Heap.lt_size (F.keep c o' e)) (Nat.not_lt.mpr hc)
  have hLlt : @LT.lt Nat _ L s₁.heap.objs.size := F.ns.lt
  have hI : IsRangeIter H4 s₁.heap.objs.size a n 1 := by
    rw [← hn]
    exact k2 _ _ (hH1 ▸ Heap.get?_push_size _ rfl)
  have hD : H4.get? H1.objs.size = some (LCg.lst []) := k3 _ _ (hH2 ▸ Heap.get?_push_size _ rfl)
  have hC : H4.Ns H2.objs.size (fun _ => none) := (hH3 ▸ Heap.Ns.new H2 (.type "dict")).keeps k4
  have hK : H4.IsCell H3.objs.size none := ⟨_, hH4 ▸ Heap.get?_push_size _ rfl, rfl⟩
  have loop : codeAny (model prog w) A (.compLoop (.ListComp elt [⟨.Name x px, iter, [ct], 0⟩] scope pos) 0 (.ref s₁.heap.objs.size) (.ref H1.objs.size) (compEnvC scope ((x, H3.objs.size) :: cl) H2.objs.size env))
      (compPost (model prog w) A E none Q (.ref H1.objs.size) H2.objs.size) { s₁ with heap := H4, toks := s₁.toks } := by
    refine loop_RC Inv hh hsz hkind hx (F.keeps k1) (fun p hp => ⟨k1 _ _ (N p hp).1, (N p hp).2⟩) (fun p hp => ?_) ⟨?_, ?_, ?_, ?_, ?_, ?_⟩ ⟨?_, ?_, ?_, ?_⟩ ⟨fresh₀ _ (Nat.le_refl _), fresh₀ _ (by omega), fresh₀ _ (by omega), fresh₀ _ (by omega)⟩ hI hK hC hD hI0 elem ?_
    · have : @LT.lt Nat _ p.1 s₁.heap.objs.size := Heap.lt_size (N p hp).1
      exact ⟨neN (by omega), neN (by omega), neN (by omega), neN (by omega)⟩
    all_goals first | (exact neN (by omega)) | skip
    intro ys news' h tk hi F' N' off' hn'
    refine ⟨_, hn', fun h'' hs'' => fin ys news' hi _ h'' tk (F'.change hs'' (neN (by omega)) (fresh₀ _ (by omega))) (fun p hp => ?_) fun p hp => (off' p hp).2.2.2⟩
    refine ⟨hs''.extBut _ _ ?_ (N' p hp).1, (N' p hp).2⟩
    rcases List.mem_cons.mp hp with rfl | hp
    · exact neN (by omega)
    · exact (off' p hp).2.2.1
  exact codeAny_compStart_list loop ((Walks.range (prog := prog) (w := w) hh s₁.heap.objs.size a 1 n).self 0 { s₁ with heap := H4 } _ _ (by simpa using hI) loop)
end
end
section
open PySem PySem.W PyProof.Rows PySem.Spec
theorem lines_Q3 : True := by
  k_with_none
  (k_with "om" => (with_reducible first | assumption | exact Nat.ne_of_lt ‹_› | exact Nat.ne_of_gt ‹_› | exact Ne.symm ‹_› | exact Mine.o_a ‹_› (by decide) | exact Mine.o_b ‹_› (by decide) | exact Mine.o_c ‹_› | exact Mine.o_le (n := 100) ‹_› (by decide) | exact Mine.o_le ‹_› (by decide) | exact Mine.o_l ‹_› (by decide) | exact Mine.o_1 (n := 100) ‹_› (by decide) | exact Mine.o_2 (n := 100) ‹_› (by decide) | exact Mine.o_lt (n := 100) ‹_› (by decide) | exact Mine.o_lt ‹_› (by decide) | exact Mine.o_ll ‹_› (by decide) | exact Mine.o_s ‹_› | exact Mine.o_n _ | exact Mine.o_0 _ | exact Mine.o_i ‹_› (by decide) | exact Mine.o_m ‹_› (by decide) | exact Mine.o_j (n := 100) ‹_› ‹_› (by decide) | exact Mine.o_k ‹_› ‹_› (by decide) | exact Mine.o_e (n := 100) ‹_› ‹_› (by decide) | exact Nat.ne_of_lt (by k_extra "cj") | exact Nat.ne_of_gt (by k_extra "cj") | exact Ne.symm (by k_extra "cj") | k_extra "cj" | fail))
  (k_with "cj" => (first | exact And.left ‹_› | exact Mine.c_2 ‹_› | exact Mine.c_3 ‹_› | exact Mine.c_4 ‹_› | exact Mine.c_5 ‹_› | exact Mine.c_6 ‹_› | exact Mine.c_7 ‹_› | exact Mine.c_8 ‹_› | exact Mine.c_9 ‹_› | exact And.right ‹_› | exact Mine.d_3 ‹_› | exact Mine.d_4 ‹_› | exact Mine.d_5 ‹_› | exact Mine.d_6 ‹_› | exact Mine.d_7 ‹_› | exact Mine.d_8 ‹_› | exact Mine.d_9 ‹_› | fail))
  (k_with "fn ctx" => (((case k1 => k_asm); (case k2 => k_asm); (case k3 => k_asm); (case k4 => k_asm); (case k5 => k_asm); (case kK => first | exact rfl | assumption); (case kd => ktr_room); (case ku => ktr_units))))
  (k_with "call ref" => ((k_here; (with_reducible show wpAny _ _ (call (Value.ref 118) _ _) _ _ _); k_dflt ((show wpAny _ _ (call (Value.ref 118) [_, Value.str _ _] [(Str.ofString "name", Value.bool true)]) _ _ _); refine' ((conv_name ?hf0)).use ?k1 ?k2 ?k3 ?k4 ?k5 ?kK ?kd ?ku ?kz ?_; (case hf0 => first | assumption | decide +kernel); (walk_at "fn ctx"); (case kz => exact fun _ h => nomatch h); intro zqr9 zqh9 zqtk9 zqF9 zqN9 zqk9 zqho9; (try dsimp only at zqho9); subst zqho9; (try dsimp only); (try k_sweep)))))
  (k_with "call ref" => ((k_here; (with_reducible show wpAny _ _ (call (Value.ref 118) _ _) _ _ _); k_dflt ((show wpAny _ _ (call (Value.ref 118) [_, Value.str _ _] [(Str.ofString "name", Value.bool false)]) _ _ _); refine' ((conv_value ?hf0)).use ?k1 ?k2 ?k3 ?k4 ?k5 ?kK ?kd ?ku ?kz ?_; (case hf0 => first | assumption | decide +kernel); (walk_at "fn ctx"); (case kz => exact fun _ h => nomatch h); intro zqr9 zqh9 zqtk9 zqF9 zqN9 zqk9 zqho9; (try dsimp only at zqho9); subst zqho9; (try dsimp only); (try k_sweep)))))
  (k_with "k_stepsC" => ((repeat' (first | (k_unfold; (try dsimp only)) | ((fail_if_success (with_reducible show wpAny _ _ (eval (Expr.ListComp _ _ _ _) _) _ _ _)); (fail_if_success (with_reducible show LCt.CompSrcT _ _ _ _ _ _ _ _ _ _ _ _ _ _ _)); (fail_if_success (with_reducible show LCg.CompSrc _ _ _ _ _ _ _ _ _ _ _ _ _ _)); (fail_if_success (with_reducible show LCg.CompEnd _ _ _ _ _ _ _ _ _ _ _ _ _ _)); (fail_if_success (with_reducible show wpAny _ _ (exec (Stmt.Assign [_] (Expr.ListComp _ _ _ _) _) _) _ _ _)); (fail_if_success (with_reducible show @ite _ _ _ _ _)); walk1) | ((fail_if_success (with_reducible show wpAny _ _ (eval (Expr.ListComp _ _ _ _) _) _ _ _)); (fail_if_success (with_reducible show LCt.CompSrcT _ _ _ _ _ _ _ _ _ _ _ _ _ _ _)); (fail_if_success (with_reducible show LCg.CompSrc _ _ _ _ _ _ _ _ _ _ _ _ _ _)); (fail_if_success (with_reducible show LCg.CompEnd _ _ _ _ _ _ _ _ _ _ _ _ _ _)); (fail_if_success (with_reducible show wpAny _ _ (exec (Stmt.Assign [_] (Expr.ListComp _ _ _ _) _) _) _ _ _)); (fail_if_success (with_reducible show @ite _ _ _ _ _)); dsimp only; walk1)))))
  (k_with "subscriptTail Name Constant ref int" => ((k_here; (with_reducible show wpAny _ _ (subscriptTail _ _ (Value.ref _) (Value.int 0 _)) _ _ _); k_dflt (refine' item_tb0 ?k1 ?k2 ?_ ?k7; (case k7 => with_unfolding_all rfl); (case k1 => k_asm); (case k2 => with_reducible assumption); k_whole))))
  (k_with "subscriptTail Name Constant ref int" => ((k_here; (with_reducible show wpAny _ _ (subscriptTail _ _ (Value.ref _) (Value.int 1 _)) _ _ _); k_dflt (refine' item_tb1 ?k1 ?k2 ?_ ?k7; (case k7 => with_unfolding_all rfl); (case k1 => k_asm); (case k2 => with_reducible assumption); k_whole))))
  (k_with "call builtin:str.lower" => ((k_here; (with_reducible show wpAny _ _ (call (Value.builtin "str.lower") [Value.str _ _]) _ _ _); (refine SCL.lower (by omega) ?_); intro _)))
  trivial

section
variable {prog : Program} {w : World} {A : Around} {E : Value → Shared → Prop} {s : Shared} {h₀ : Heap} {L a : Addr} {m : Str → Option Value} {v0 v1 : Value} {u : Tok}
theorem item_tb0 {value slice : PySem.Expr} {Q : Value → Shared → Prop} (F : Fr h₀ L s.heap m) (hg : h₀.get? a = some (tup2 v0 v1)) (h : Q v0 s)
    (hs : subscripted slice false (.ref a) (.int 0 u) = operate [.ref a, .int 0 u] (getItem (.ref a) (.int 0 u)) := by with_unfolding_all rfl) :
    wpAny (model prog w) A (subscriptTail value slice (.ref a) (.int 0 u)) Q E s :=
  item_tupleT (l := [v0, v1]) (j := 0) ⟨_, F.keep _ _ hg, rfl, _, rfl⟩ (by decide) (by decide) rfl rfl h hs
theorem item_tb1 {value slice : PySem.Expr} {Q : Value → Shared → Prop} (F : Fr h₀ L s.heap m) (hg : h₀.get? a = some (tup2 v0 v1)) (h : Q v1 s)
    (hs : subscripted slice false (.ref a) (.int 1 u) = operate [.ref a, .int 1 u] (getItem (.ref a) (.int 1 u)) := by with_unfolding_all rfl) :
    wpAny (model prog w) A (subscriptTail value slice (.ref a) (.int 1 u)) Q E s :=
  item_tupleT (l := [v0, v1]) (j := 1) ⟨_, F.keep _ _ hg, rfl, _, rfl⟩ (by decide) (by decide) rfl rfl h hs
end
theorem iteT {c : Prop} [Decidable c] {P Q : Prop} (hc : c) (h : P) : if c then P else Q := by rw [if_pos hc]; exact h
theorem iteF {c : Prop} [Decidable c] {P Q : Prop} (hc : ¬ c) (h : Q) : if c then P else Q := by rw [if_neg hc]; exact h
/-- a header: its tuple, its name and its text -/
structure Hd where
  a : Addr
  nm : Str
  tn : Tok
  val : Str
  tv : Tok
abbrev Hd.o (h : Hd) : Obj := tup2 (.str h.nm h.tn) (.str h.val h.tv)
abbrev Hd.v (h : Hd) : Value := .ref h.a
def hvals (hs : List Hd) : Array Value := (hs.map Hd.v).toArray
theorem hvals_size (hs : List Hd) : (hvals hs).size = hs.length := by simp [hvals]
def OkH (rest : Led) (h : Hd) : Prop := (h.a, h.o) ∈ rest ∧ h.nm.length ≤ 100
def gotAll (hs : List Hd) (n : Str) : List ST := (hs.filter fun k => Txt.lower k.nm == n).map fun k => (k.val, k.tv)
set_option maxRecDepth 100000 in
set_option maxHeartbeats 8000000 in
theorem get_all {w : World} {x dx hl : Addr} {hh : Int} {tk0 nd n : Nat} {hs : List Hd} {rest : Led} {nm : Str} {t1 : Tok}
   (hsz : hs.length ≤ 1000) (hok : ∀ h ∈ hs, OkH rest h) (f1 : fails nameCode (Txt.lower nm) = true) (hnl : nm.length ≤ 100) :
   FnN w 6 156 [.ref x, .str nm t1] [] [(x, instObj 217 dx), (dx, dictOf [⟨hh, .str (Str.ofString "_headers") tk0, .ref hl⟩] nd), (hl, listOf (hvals hs) n)] rest
  (fun r h muts' => ∃ D n', r = .ref D ∧ muts' = [(D, listOf (svals (gotAll hs (Txt.lower nm))) n'), (x, instObj 217 dx), (dx, dictOf [⟨hh, .str (Str.ofString "_headers") tk0, .ref hl⟩] nd), (hl, listOf (hvals hs) n)] ∧ h.get? D = none) := by
  unfold FnN
  intro mean mg mb dp un gd cn cs a ccd cl outer A₀ base h₀ L m s Q E B F X N NR hrL sep T hk hdp hun hret
  refine wpAny_call ?_
  k_dflt (refine' code_defCS ?k1 ?k2 ?k3 ?k4 ?kR ?kS ?k5 ?kA ?kF ?kK ?k6 ?k7 ?k8 ?k9 ?kB ?kD ?_ ?c2 ?c3 ?c4; (case kA => exact rfl); (case kF => exact rfl); (case kK => exact hk); (case k1 => exact B); (case k2 => exact F); (case k3 => exact X); (case k4 => exact N); (case kR => exact NR); (case kS => exact sep); (case k5 => exact T); (case k6 => k_is); (case k7 => k_is); (case k8 => ktr_room); (case k9 => first | exact BindsTo.of_eq rfl | exact binds_K (by k_in) rfl (by k_is) rfl rfl rfl); (case kB => exact rfl); (case kD => decide +kernel); (case c2 => exact rfl); (case c3 => exact rfl); (case c4 => exact rfl); k_whole; intro g' L' h' tk' cells' FG' F' N' Y' B' X' T' l1 G' GS'; (try k_lt l1); k_cells Y'; (try simp only [List.cons_append, List.nil_append] at N'); (try dsimp only); (try k_lift B'); (try k_fold))

  walk_at "k_stepsC"
  rename Fr g' L' _ _ => kF9
  refine LCt.ListComp_T (F₀ := kF9) (by with_unfolding_all rfl) (by decide) (by rfl) (by decide) (by rfl) ?_
  walk_at "k_stepsC"
  rename News g' L' _ _ => kN9
  refine LCt.CompSrcT.ledger (its := hvals hs) rfl kF9 kN9 (by k_mem) (by rw [hvals_size, sizeLine_eq]; omega) (fun g => restT_ind (fun i ys news => news = [_, _, _, _] ∧ ys = (gotAll (hs.take i) (Txt.lower nm)).map ST.v) ?elem ?fin _ 0 [] _ (Nat.zero_add _) ⟨rfl, rfl⟩)
  case fin =>
    rintro ys news ⟨rfl, rfl⟩
    clear kF9 kN9
    intro D h tk F9 N9 off9
    have hD : s.heap.get? D = none := fresh_of GS' (N9 _ (.head _)).2.2 (by
      obtain ⟨o1, o2, o3, o4, _⟩ := off9
      simp only [List.map_cons, List.map_nil, List.mem_cons, List.not_mem_nil, or_false, not_or]
      exact ⟨fun e => o2 e.symm, fun e => o3 e.symm, fun e => o4 e.symm⟩)
    rw [hvals_size, List.take_length] at N9
    dsimp only
    k_steps
    (try dsimp only)
    rename News h₀ L _ (List.cons _ _) => kN9
    refine' hret _ _ _ _ ?kf (cb_drop kN9 ?ks) ?kr ⟨_, _, rfl, rfl, hD⟩
    case kf => k_asm
    case ks => kcj_all
    case kr => assumption
  case elem =>
    clear kF9 kN9
    intro i hi ys news hI v I oI C oC D m₂ h tk E' hP hNs hx F9 N9 off hne
    obtain ⟨rfl, rfl⟩ := hI
    have hi' : i < hs.length := by rw [← hvals_size]; exact hi
    have hk0 : hs[i]? = some hs[i] := List.getElem?_eq_getElem hi'
    generalize hs[i] = k at hk0
    have hv : v = .ref k.a := by have := hP; simp [hvals, hk0] at this; exact this.symm
    subst hv
    have hkm := hok k (List.mem_of_getElem? hk0)
    have hkb : g'.get? k.a = some k.o := G' _ hkm.1
    have hkl := hkm.2
    walk_at "k_stepsC"
    have htake : hs.take (i + 1) = hs.take i ++ [k] := by rw [List.take_add_one, hk0]; rfl
    by_cases hq : (Txt.lower k.nm == Txt.lower nm) = true
    · refine iteT hq ?_
      walk_at "k_stepsC"
      rename Fr g' L' _ _ => kF9
      rename News g' L' _ _ => kN9
      exact LCg.CompEnd.intro kF9 kN9 _ (fun p hp => hp) off (.inr ⟨_, (by k_mem), rfl, _, rfl⟩) ⟨rfl, by simp [gotAll, htake, hq]⟩
    · refine iteF hq ?_
      rename Fr g' L' _ _ => kF9
      rename News g' L' _ _ => kN9
      exact LCg.CompEnd.intro kF9 kN9 _ (fun p hp => hp) off (.inr ⟨_, (by k_mem), rfl, _, rfl⟩) ⟨rfl, by simp [gotAll, htake, hq]⟩
end
section
open PySem PySem.W PySem.Calls PyProof.Rows PySem.Spec PyProof.V
set_option maxRecDepth 100000
section
variable {prog : Program} {w : World} {A : Around} {E : Value → Shared → Prop} {s : Shared} {h₀ : Heap} {L : Addr} {m : Str → Option Value} {news : List (Addr × Obj)}
theorem setItem_all {l sl D : Addr} {items new : Array Value} {n : Nat} {Q : Unit → Shared → Prop} (hl : s.heap.get? l = some (listOf items n)) (hs : s.heap.IsSliceOf sl .none .none .none) (hD : s.heap.IsList D new) (hne : D ≠ l)
    (hz : items.size + new.size < 2 ^ 20)
    (h : ∀ f : Array Value → Array Value, f items = new → Q () { s with heap := s.heap.update l (Obj.mapSeq f) }) : wpAny (model prog w) A (setItem (.ref l) (.ref sl) (.ref D)) Q E s := by
  have hll : s.heap.IsList l items := PySem.IsL.isList (n := n) hl
  obtain ⟨os, hos, hcs, hds⟩ := id hs
  have hTs : s.TypeIs (.ref sl) "slice" := ⟨os, hos, hcs⟩
  obtain ⟨oD, hoD, hcD, nD, hdD⟩ := id hD
  have hTD : s.TypeIs (.ref D) "list" := ⟨oD, hoD, hcD⟩
  unfold setItem
  try with_reducible refine wpAny_holding ?_
  first | refine wpAny_bind (wpAny_pure ?_) | skip
  refine wpAny_bind (wpAny_sequenceKey hll.typeIs (by decide) ?_)
  refine wpAny_bind (wpAny_callSpecial?_slot (name := Str.ofString "__setitem__") hll.typeIs slot_list_setitem
    (wpAny_call_entry slot_list_setitem hll.typeIs entry_list_setitem ?_ (args_list_setitem _ _ _)))
  show wpAny _ _ (Builtin.List.listSubscript? (.ref sl) >>= _) _ _ s
  refine wpAny_bind ?_
  unfold Builtin.List.listSubscript?
  refine wpAny_bind (wpAny_specialOf hTs slice_no_index ?_)
  simp only [Option.isNone_none, if_true]
  refine wpAny_pure ?_
  show wpAny _ _ (typeOf (.ref sl) >>= _) _ _ s
  refine wpAny_bind (wpAny_typeOf hTs ?_)
  rw [if_neg (by decide)]
  rw [listSliceParts_eq]
  refine wpAny_bind (wpAny_bind (wpAny_field hos hds (x := .none) rfl (wpAny_bind (wpAny_listPart .none ?_))))
  rw [if_neg (by decide)]
  refine wpAny_bind (wpAny_field hos hds (x := .none) rfl (wpAny_bind (wpAny_listPart .none ?_)))
  refine wpAny_bind (wpAny_field hos hds (x := .none) rfl (wpAny_bind (wpAny_listPart .none (wpAny_pure ?_))))
  have hsame : Builtin.List.listSameRef (.ref l) (.ref D) = false := by simp [Builtin.List.listSameRef, Ne.symm hne]
  simp only [hsame, Bool.false_eq_true, if_false]
  unfold Builtin.List.listAllItems
  refine wpAny_bind ?_
  refine wpAny_bind (wpAny_typeOf hTD ?_)
  rw [if_pos (by decide)]
  unfold Builtin.List.listItems
  refine wpAny_bind (wpAny_seqItems hoD hdD (wpAny_pure ?_))
  refine wpAny_bind (wpAny_bind (wpAny_seqItems hl rfl (wpAny_pure ?_)))
  refine wpAny_bind (wpAny_of_eq (sliceIndices_raw none none none items.size (by simp)) ?_)
  have e : sliceBounds none none none items.size = ((0 : Int), ((items.size : Nat) : Int), 1) := by simp [sliceBounds]
  rw [e]
  rw [if_pos (show (((0 : Int), ((items.size : Nat) : Int), (1 : Int)).2.snd == 1) = true from rfl)]
  refine wpAny_bind (wpAny_rule ?_)
  have hll' : Builtin.List.listTooLong (items.size + new.size) = false := by unfold Builtin.List.listTooLong; simp [sizeLine_eq]; omega
  rw [if_neg (by rw [hll']; decide)]
  refine wpAny_bind (wpAny_updateSeq hl rfl ?_ (by rw [sizeLine_eq]; omega) ?_)
  · refine wpAny_bind (wpAny_letGo ?_)
    refine wpAny_pure ?_
    exact ⟨_, rfl, wpAny_pure (h _ (by simp))⟩
  · simp; rw [sizeLine_eq]; omega
theorem setall_led {news' : Nat → List (Addr × Obj)} {l sl D : Addr} {items new : Array Value} {n nD : Nat} {Q : Unit → Shared → Prop} (F : Fr h₀ L s.heap m) (N : News h₀ L s.heap news) (hs : s.heap.IsSliceOf sl .none .none .none) (hD : (D, listOf new nD) ∈ news) (hne : D ≠ l)
    (U : ∀ n', Upd l (listOf items n) (listOf new n') news (news' n')) (hz : items.size + new.size < 2 ^ 20)
    (h : ∀ n' h', Fr h₀ L h' m → News h₀ L h' (news' n') → Q () { s with heap := h' }) : wpAny (model prog w) A (setItem (.ref l) (.ref sl) (.ref D)) Q E s := by
  have key : ∀ n' (f : Array Value → Array Value), f items = new → (∀ pre post, News h₀ L s.heap (pre ++ (l, listOf items n) :: post) → (∀ p ∈ pre, p.1 ≠ l) → (∀ p ∈ post, p.1 ≠ l) → News h₀ L (s.heap.update l (Obj.mapSeq f)) (pre ++ (l, listOf new n') :: post)) →
      Q () { s with heap := s.heap.update l (Obj.mapSeq f) } := by
    intro n' f hf hN
    have U' := U n'
    obtain ⟨pre, post, rfl, e2, a, b⟩ := U'.split
    have z := N (l, listOf items n) (List.mem_append.mpr (.inr (.head _)))
    refine h n' _ (F.change (Heap.SameBut.update ..) z.2.1 z.2.2) ?_
    rw [e2]; exact hN pre post N a b
  have U' := U n
  obtain ⟨pre, post, e1, _, _, _⟩ := U'.split
  have z := N (l, listOf items n) (e1 ▸ List.mem_append.mpr (.inr (.head _)))
  refine setItem_all z.1 hs (PySem.IsL.isList (n := nD) (N _ hD).1) hne hz fun f hf => ?_
  by_cases hsz : new.size = items.size
  · exact key n f hf fun pre post N' a b => kl_turn0 f N' a b hf hsz
  · exact key (n + 1) f hf fun pre post N' a b => kl_turn f N' a b hf hsz
theorem setall_K {news' : Nat → List (Addr × Obj)} {l D : Addr} {items new : Array Value} {n nD : Nat} {Q : Unit → Shared → Prop} (F : Fr h₀ L s.heap m) (N : News h₀ L s.heap news) (hD : (D, listOf new nD) ∈ news) (hne : D ≠ l)
    (U : ∀ n', Upd l (listOf items n) (listOf new n') news (news' n')) (hz : items.size + new.size < 2 ^ 20)
    (h : ∀ n' h', Fr h₀ L h' m → News h₀ L h' (news' n') → Q () { s with heap := h' }) :
    wpAny (model prog w) A (setItem (.ref l) (.ref s.heap.objs.size) (.ref D)) Q E { s with heap := s.heap.push { cls := .type "slice", data := .fields #[.none, .none, .none] } } :=
  setall_led (s := { s with heap := s.heap.push { cls := .type "slice", data := .fields #[.none, .none, .none] } }) (F.push _) (N.grown fun _ _ e => Heap.get?_push_of_some _ e) (Heap.IsSliceOf.new ..) hD hne U hz h
end
end
section
open PySem PySem.W PyProof.Rows PySem.Spec
theorem lines_Q4 : True := by
  k_with_none
  (k_with "om" => (with_reducible first | assumption | exact Nat.ne_of_lt ‹_› | exact Nat.ne_of_gt ‹_› | exact Ne.symm ‹_› | exact Mine.o_a ‹_› (by decide) | exact Mine.o_b ‹_› (by decide) | exact Mine.o_c ‹_› | exact Mine.o_le (n := 100) ‹_› (by decide) | exact Mine.o_le ‹_› (by decide) | exact Mine.o_l ‹_› (by decide) | exact Mine.o_1 (n := 100) ‹_› (by decide) | exact Mine.o_2 (n := 100) ‹_› (by decide) | exact Mine.o_lt (n := 100) ‹_› (by decide) | exact Mine.o_lt ‹_› (by decide) | exact Mine.o_ll ‹_› (by decide) | exact Mine.o_s ‹_› | exact Mine.o_n _ | exact Mine.o_0 _ | exact Mine.o_i ‹_› (by decide) | exact Mine.o_m ‹_› (by decide) | exact Mine.o_j (n := 100) ‹_› ‹_› (by decide) | exact Mine.o_k ‹_› ‹_› (by decide) | exact Mine.o_e (n := 100) ‹_› ‹_› (by decide) | exact Nat.ne_of_lt (by k_extra "cj") | exact Nat.ne_of_gt (by k_extra "cj") | exact Ne.symm (by k_extra "cj") | k_extra "cj" | fail))
  (k_with "cj" => (first | exact And.left ‹_› | exact Mine.c_2 ‹_› | exact Mine.c_3 ‹_› | exact Mine.c_4 ‹_› | exact Mine.c_5 ‹_› | exact Mine.c_6 ‹_› | exact Mine.c_7 ‹_› | exact Mine.c_8 ‹_› | exact Mine.c_9 ‹_› | exact And.right ‹_› | exact Mine.d_3 ‹_› | exact Mine.d_4 ‹_› | exact Mine.d_5 ‹_› | exact Mine.d_6 ‹_› | exact Mine.d_7 ‹_› | exact Mine.d_8 ‹_› | exact Mine.d_9 ‹_› | fail))
  (k_with "callWith ref" => ((k_here; (with_reducible show wpAny _ _ (callWith _ (Value.ref _) _ (backTo _ (starEach (_ :: _) _)) (backToKw _ (keywordEach (_ :: _) _))) _ _ _); k_dflt (refine' callWith_KW ?k1 ?k2 ?k3 ?_; (case k1 => k_asm); (case k2 => k_is); (case k3 => exact rfl); k_whole))))
  (k_with "fn ctx" => (((case k1 => k_asm); (case k2 => k_asm); (case k3 => k_asm); (case k4 => k_asm); (case k5 => k_asm); (case kK => first | exact rfl | assumption); (case kd => ktr_room); (case ku => ktr_units))))
  (k_with "call ref" => ((k_here; (with_reducible show wpAny _ _ (call (Value.ref 118) _ _) _ _ _); k_dflt ((show wpAny _ _ (call (Value.ref 118) [_, Value.str _ _] [(Str.ofString "name", Value.bool true)]) _ _ _); refine' ((conv_name ?hf0)).use ?k1 ?k2 ?k3 ?k4 ?k5 ?kK ?kd ?ku ?kz ?_; (case hf0 => first | assumption | decide +kernel); (walk_at "fn ctx"); (case kz => exact fun _ h => nomatch h); intro zqr9 zqh9 zqtk9 zqF9 zqN9 zqk9 zqho9; (try dsimp only at zqho9); subst zqho9; (try dsimp only); (try k_sweep)))))
  (k_with "call ref" => ((k_here; (with_reducible show wpAny _ _ (call (Value.ref 118) _ _) _ _ _); k_dflt ((show wpAny _ _ (call (Value.ref 118) [_, Value.str _ _] [(Str.ofString "name", Value.bool false)]) _ _ _); refine' ((conv_value ?hf0)).use ?k1 ?k2 ?k3 ?k4 ?k5 ?kK ?kd ?ku ?kz ?_; (case hf0 => first | assumption | decide +kernel); (walk_at "fn ctx"); (case kz => exact fun _ h => nomatch h); intro zqr9 zqh9 zqtk9 zqF9 zqN9 zqk9 zqho9; (try dsimp only at zqho9); subst zqho9; (try dsimp only); (try k_sweep)))))
  (k_with "k_stepsC" => ((repeat' (first | (k_unfold; (try dsimp only)) | ((fail_if_success (with_reducible show wpAny _ _ (eval (Expr.ListComp _ _ _ _) _) _ _ _)); (fail_if_success (with_reducible show LCt.CompSrcT _ _ _ _ _ _ _ _ _ _ _ _ _ _ _)); (fail_if_success (with_reducible show LCg.CompSrc _ _ _ _ _ _ _ _ _ _ _ _ _ _)); (fail_if_success (with_reducible show LCg.CompEnd _ _ _ _ _ _ _ _ _ _ _ _ _ _)); (fail_if_success (with_reducible show @ite _ _ _ _ _)); walk1) | ((fail_if_success (with_reducible show wpAny _ _ (eval (Expr.ListComp _ _ _ _) _) _ _ _)); (fail_if_success (with_reducible show LCt.CompSrcT _ _ _ _ _ _ _ _ _ _ _ _ _ _ _)); (fail_if_success (with_reducible show LCg.CompSrc _ _ _ _ _ _ _ _ _ _ _ _ _ _)); (fail_if_success (with_reducible show LCg.CompEnd _ _ _ _ _ _ _ _ _ _ _ _ _ _)); (fail_if_success (with_reducible show @ite _ _ _ _ _)); dsimp only; walk1)))))
  (k_with "subscriptTail Name Constant ref int" => ((k_here; (with_reducible show wpAny _ _ (subscriptTail _ _ (Value.ref _) (Value.int 0 _)) _ _ _); k_dflt (refine' item_tb0 ?k1 ?k2 ?_ ?k7; (case k7 => with_unfolding_all rfl); (case k1 => k_asm); (case k2 => with_reducible assumption); k_whole))))
  (k_with "subscriptTail Name Constant ref int" => ((k_here; (with_reducible show wpAny _ _ (subscriptTail _ _ (Value.ref _) (Value.int 1 _)) _ _ _); k_dflt (refine' item_tb1 ?k1 ?k2 ?_ ?k7; (case k7 => with_unfolding_all rfl); (case k1 => k_asm); (case k2 => with_reducible assumption); k_whole))))
  (k_with "setItem ref ref" => ((k_here; k_dflt (refine' setall_K ?F ?N ?D ?ne ?U ?z ?_; (case F => k_asm); (case N => k_asm); (case D => k_mem); (case ne => k_ne); (case U => intro zqn9; k_upd); (case z => (simp only [hvals_size, List.size_toArray, List.length_map]; omega)); k_whole); intro zqn9 zqh' zqF' zqN'; (try dsimp only at zqN'); (try k_sweep))))
  (k_with "call builtin:str.lower" => ((k_here; (with_reducible show wpAny _ _ (call (Value.builtin "str.lower") [Value.str _ _]) _ _ _); (refine SCL.lower (by omega) ?_); intro _)))
  trivial

set_option maxRecDepth 100000 in
set_option maxHeartbeats 8000000 in
theorem delitem {w : World} {x dx hl : Addr} {hh : Int} {tk0 nd n : Nat} {hs : List Hd} {rest : Led} {nm : Str} {t1 : Tok}
   (d1 : x ≠ dx) (d2 : x ≠ hl) (d3 : dx ≠ hl) (hsz : hs.length ≤ 1000) (hok : ∀ h ∈ hs, OkH rest h) (f1 : fails nameCode (Txt.lower nm) = true) (hnl : nm.length ≤ 100) :
   FnN w 6 137 [.ref x, .str nm t1] [] [(x, instObj 217 dx), (dx, dictOf [⟨hh, .str (Str.ofString "_headers") tk0, .ref hl⟩] nd), (hl, listOf (hvals hs) n)] rest
  (fun r h muts' => ∃ n', r = .none ∧ muts' = [(x, instObj 217 dx), (dx, dictOf [⟨hh, .str (Str.ofString "_headers") tk0, .ref hl⟩] nd), (hl, listOf (hvals (hs.filter fun k => Txt.lower k.nm != Txt.lower nm)) n')]) := by
  unfold FnN
  intro mean mg mb dp un gd cn cs a ccd cl outer A₀ base h₀ L m s Q E B F X N NR hrL sep T hk hdp hun hret
  refine wpAny_call ?_
  k_dflt (refine' code_defCS ?k1 ?k2 ?k3 ?k4 ?kR ?kS ?k5 ?kA ?kF ?kK ?k6 ?k7 ?k8 ?k9 ?kB ?kD ?_ ?c2 ?c3 ?c4; (case kA => exact rfl); (case kF => exact rfl); (case kK => exact hk); (case k1 => exact B); (case k2 => exact F); (case k3 => exact X); (case k4 => exact N); (case kR => exact NR); (case kS => exact sep); (case k5 => exact T); (case k6 => k_is); (case k7 => k_is); (case k8 => ktr_room); (case k9 => first | exact BindsTo.of_eq rfl | exact binds_K (by k_in) rfl (by k_is) rfl rfl rfl); (case kB => exact rfl); (case kD => decide +kernel); (case c2 => exact rfl); (case c3 => exact rfl); (case c4 => exact rfl); k_whole; intro g' L' h' tk' cells' FG' F' N' Y' B' X' T' l1 G' GS'; (try k_lt l1); k_cells Y'; (try simp only [List.cons_append, List.nil_append] at N'); (try dsimp only); (try k_lift B'); (try k_fold))

  walk_at "k_stepsC"
  rename Fr g' L' _ _ => kF9
  refine LCt.ListComp_T (F₀ := kF9) (by with_unfolding_all rfl) (by decide) (by rfl) (by decide) (by rfl) ?_
  walk_at "k_stepsC"
  rename News g' L' _ _ => kN9
  refine LCt.CompSrcT.ledger (its := hvals hs) rfl kF9 kN9 (by k_mem) (by rw [hvals_size, sizeLine_eq]; omega) (fun g => restT_ind (fun i ys news => news = [_, _, _, _] ∧ ys = ((hs.take i).filter fun k => Txt.lower k.nm != Txt.lower nm).map Hd.v) ?elem ?fin _ 0 [] _ (Nat.zero_add _) ⟨rfl, rfl⟩)
  case fin =>
    rintro ys news ⟨rfl, rfl⟩
    clear kF9 kN9
    intro D h tk F9 N9 off9
    rw [hvals_size, List.take_length] at N9
    obtain ⟨o1, o2, o3, o4, _⟩ := off9
    have hfl := List.length_filter_le (fun k => Txt.lower k.nm != Txt.lower nm) hs
    simp only at o1 o2 o3 o4
    dsimp only
    k_steps
    (try dsimp only)
    rename News h₀ L _ (List.cons _ _) => kN9
    have eh : ∀ l : List Hd, (l.map Hd.v).toArray = hvals l := fun _ => rfl
    simp only [eh] at kN9
    refine' hret _ _ _ _ ?kf (cb_drop kN9 ?ks) ?kr ⟨_, rfl, rfl⟩
    case kf => k_asm
    case ks => kcj_all
    case kr => assumption
  case elem =>
    clear kF9 kN9
    intro i hi ys news hI v I oI C oC D m₂ h tk E' hP hNs hx F9 N9 off hne
    obtain ⟨rfl, rfl⟩ := hI
    have hi' : i < hs.length := by rw [← hvals_size]; exact hi
    have hk0 : hs[i]? = some hs[i] := List.getElem?_eq_getElem hi'
    generalize hs[i] = k at hk0
    have hv : v = .ref k.a := by have := hP; simp [hvals, hk0] at this; exact this.symm
    subst hv
    have hkm := hok k (List.mem_of_getElem? hk0)
    have hkb : g'.get? k.a = some k.o := G' _ hkm.1
    have hkl := hkm.2
    walk_at "k_stepsC"
    have htake : hs.take (i + 1) = hs.take i ++ [k] := by rw [List.take_add_one, hk0]; rfl
    by_cases hq : (Txt.lower k.nm != Txt.lower nm) = true
    · refine iteT hq ?_
      walk_at "k_stepsC"
      rename Fr g' L' _ _ => kF9
      rename News g' L' _ _ => kN9
      exact LCg.CompEnd.intro kF9 kN9 _ (fun p hp => hp) off (.inr ⟨_, (by k_mem), rfl, _, rfl⟩) ⟨rfl, by simp only [htake, List.filter_append, List.map_append, List.filter_cons, List.filter_nil, hq]; simp⟩
    · refine iteF hq ?_
      rename Fr g' L' _ _ => kF9
      rename News g' L' _ _ => kN9
      exact LCg.CompEnd.intro kF9 kN9 _ (fun p hp => hp) off (.inr ⟨_, (by k_mem), rfl, _, rfl⟩) ⟨rfl, by simp only [htake, List.filter_append, List.map_append, List.filter_cons, List.filter_nil, hq]; simp⟩
end
section
open PySem PySem.W PyProof.Rows PySem.Spec
theorem lines_Q5 : True := by
  k_with_none
  (k_with "om" => (with_reducible first | assumption | exact Nat.ne_of_lt ‹_› | exact Nat.ne_of_gt ‹_› | exact Ne.symm ‹_› | exact Mine.o_a ‹_› (by decide) | exact Mine.o_b ‹_› (by decide) | exact Mine.o_c ‹_› | exact Mine.o_le (n := 100) ‹_› (by decide) | exact Mine.o_le ‹_› (by decide) | exact Mine.o_l ‹_› (by decide) | exact Mine.o_1 (n := 100) ‹_› (by decide) | exact Mine.o_2 (n := 100) ‹_› (by decide) | exact Mine.o_lt (n := 100) ‹_› (by decide) | exact Mine.o_lt ‹_› (by decide) | exact Mine.o_ll ‹_› (by decide) | exact Mine.o_s ‹_› | exact Mine.o_n _ | exact Mine.o_0 _ | exact Mine.o_i ‹_› (by decide) | exact Mine.o_m ‹_› (by decide) | exact Mine.o_j (n := 100) ‹_› ‹_› (by decide) | exact Mine.o_k ‹_› ‹_› (by decide) | exact Mine.o_e (n := 100) ‹_› ‹_› (by decide) | exact Nat.ne_of_lt (by k_extra "cj") | exact Nat.ne_of_gt (by k_extra "cj") | exact Ne.symm (by k_extra "cj") | k_extra "cj" | fail))
  (k_with "cj" => (first | exact And.left ‹_› | exact Mine.c_2 ‹_› | exact Mine.c_3 ‹_› | exact Mine.c_4 ‹_› | exact Mine.c_5 ‹_› | exact Mine.c_6 ‹_› | exact Mine.c_7 ‹_› | exact Mine.c_8 ‹_› | exact Mine.c_9 ‹_› | exact And.right ‹_› | exact Mine.d_3 ‹_› | exact Mine.d_4 ‹_› | exact Mine.d_5 ‹_› | exact Mine.d_6 ‹_› | exact Mine.d_7 ‹_› | exact Mine.d_8 ‹_› | exact Mine.d_9 ‹_› | fail))
  (k_with "callWith ref" => ((k_here; (with_reducible show wpAny _ _ (callWith _ (Value.ref _) _ (backTo _ (starEach (_ :: _) _)) (backToKw _ (keywordEach (_ :: _) _))) _ _ _); k_dflt (refine' callWith_KW ?k1 ?k2 ?k3 ?_; (case k1 => k_asm); (case k2 => k_is); (case k3 => exact rfl); k_whole))))
  (k_with "fn ctx" => (((case k1 => k_asm); (case k2 => k_asm); (case k3 => k_asm); (case k4 => k_asm); (case k5 => k_asm); (case kK => first | exact rfl | assumption); (case kd => ktr_room); (case ku => ktr_units))))
  (k_with "call ref" => ((k_here; (with_reducible show wpAny _ _ (call (Value.ref 118) _ _) _ _ _); k_dflt ((show wpAny _ _ (call (Value.ref 118) [_, Value.str _ _] [(Str.ofString "name", Value.bool true)]) _ _ _); refine' ((conv_name ?hf0)).use ?k1 ?k2 ?k3 ?k4 ?k5 ?kK ?kd ?ku ?kz ?_; (case hf0 => first | assumption | decide +kernel); (walk_at "fn ctx"); (case kz => exact fun _ h => nomatch h); intro zqr9 zqh9 zqtk9 zqF9 zqN9 zqk9 zqho9; (try dsimp only at zqho9); subst zqho9; (try dsimp only); (try k_sweep)))))
  (k_with "call ref" => ((k_here; (with_reducible show wpAny _ _ (call (Value.ref 118) _ _) _ _ _); k_dflt ((show wpAny _ _ (call (Value.ref 118) [_, Value.str _ _] [(Str.ofString "name", Value.bool false)]) _ _ _); refine' ((conv_value ?hf0)).use ?k1 ?k2 ?k3 ?k4 ?k5 ?kK ?kd ?ku ?kz ?_; (case hf0 => first | assumption | decide +kernel); (walk_at "fn ctx"); (case kz => exact fun _ h => nomatch h); intro zqr9 zqh9 zqtk9 zqF9 zqN9 zqk9 zqho9; (try dsimp only at zqho9); subst zqho9; (try dsimp only); (try k_sweep)))))
  (k_with "delItem ref" => ((k_here; (with_reducible show wpAny _ _ (delItem (Value.ref _) _) _ _ _); k_dflt (refine' del_K ?F ?X ?I ?hQ ?hS ?hF ?_; (case F => k_asm); (case X => k_asm); (case I => k_inst); (case hS => k_is); (case hF => k_is); (case hQ => k_is); k_whole))))
  (k_with "subscriptTail" => ((k_here; (with_reducible show wpAny _ _ (subscriptTail _ (PySem.Expr.Slice none none none _) (Value.ref _) (Value.ref _)) _ _ _); k_dflt (refine' slice_all ?F ?N ?l ?z ?_ ?s ?t; (case F => k_asm); (case N => k_asm); (case l => k_mem); (case z => (simp only [hvals_size]; omega)); (case s => with_unfolding_all rfl); (case t => kmk_pure)); intro zqD' zqh' zqF' zqN' zql1; (try k_lt zql1); (try k_sweep))))
  trivial

section
variable {M : Model} {A : Around} {E : Value → Shared → Prop} {s : Shared} {K : Frag} {x C L f : Addr} {h₀ : Heap} {m : Str → Option Value} {ox : Obj} {od : Option Obj} {i v : Value}
theorem del_K {Q : Unit → Shared → Prop} (F : Fr h₀ L s.heap m) (X₀ : K.In h₀) (I : InstAt s.heap x ox C od) (hq : noSeq K C = true) (hs : findIn K (.ref C) "__delitem__" = some (some (.ref f))) (hf : isFn K (.ref f) = true)
    (h : wpAny M A (call (.ref f) [.ref x, i]) (fun _ s' => Q () s') E s) : wpAny M A (delItem (.ref x) i) Q E s := by
  have X := X₀.keeps F.keep
  unfold delItem sequenceKey
  refine wpAny_holding (wpAny_bind (wpAny_bind (I.type.here ?_)))
  refine wpAny_bind ((anyM_none X hq).here ?_)
  rw [if_pos (show (!false) = true from rfl)]
  exact wpAny_pure (wpAny_bind (special_fn X I hs (beq_iff_eq.mp hf) (wpAny_mono h (fun _ _ z => wpAny_pure z) fun _ _ z => z)))
end
set_option maxRecDepth 100000 in
set_option maxHeartbeats 8000000 in
theorem setitem {w : World} {x dx hl : Addr} {hh : Int} {tk0 nd n : Nat} {hs : List Hd} {rest : Led} {nm vl : Str} {t1 t2 : Tok}
   (d1 : x ≠ dx) (d2 : x ≠ hl) (d3 : dx ≠ hl) (hsz : hs.length ≤ 1000) (hok : ∀ h ∈ hs, OkH rest h) (f1 : fails nameCode (Txt.lower nm) = true) (f2 : fails nameCode nm = true) (f3 : fails valueCode vl = true) (hnl : nm.length ≤ 100) :
   FnN w 8 132 [.ref x, .str nm t1, .str vl t2] [] [(x, instObj 217 dx), (dx, dictOf [⟨hh, .str (Str.ofString "_headers") tk0, .ref hl⟩] nd), (hl, listOf (hvals hs) n)] rest
  (fun r h muts' => ∃ a n', r = .none ∧ muts' = [(a, tup2 (.str nm t1) (.str vl t2)), (x, instObj 217 dx), (dx, dictOf [⟨hh, .str (Str.ofString "_headers") tk0, .ref hl⟩] nd), (hl, listOf ((hvals (hs.filter fun k => Txt.lower k.nm != Txt.lower nm)).push (.ref a)) n')]) := by
  unfold FnN
  intro mean mg mb dp un gd cn cs a ccd cl outer A₀ base h₀ L m s Q E B F X N NR hrL sep T hk hdp hun hret
  refine wpAny_call ?_
  k_dflt (refine' code_defS ?k1 ?k2 ?k3 ?k4 ?kR ?kS ?k5 ?kA ?kF ?kK ?k6 ?k7 ?k8 ?k9 ?kB ?_ ?c2 ?c3 ?c4 ?c5; (case kA => exact rfl); (case kF => exact rfl); (case kK => exact hk); (case k1 => exact B); (case k2 => exact F); (case k3 => exact X); (case k4 => exact N); (case kR => exact NR); (case kS => exact sep); (case k5 => exact T); (case k6 => k_is); (case k7 => k_is); (case k8 => ktr_room); (case k9 => first | exact BindsTo.of_eq rfl | exact binds_K (by k_in) rfl (by k_is) rfl rfl rfl); (case c5 => decide); (case kB => exact locs rfl); (case c2 => exact rfl); (case c3 => exact rfl); (case c4 => exact rfl); k_whole; intro g' L' h' FG' F' N' B' X' T' G'; (try dsimp only); (try k_lift B'); (try k_fold))
  repeat' (first | (k_unfold; (try dsimp only)) | ((fail_if_success (with_reducible show wpAny _ _ (call (Value.ref 137) _ _) _ _ _)); walk1) | ((fail_if_success (with_reducible show wpAny _ _ (call (Value.ref 137) _ _) _ _ _)); dsimp only; walk1))
  k_dflt (refine' (delitem (rest := rest) d1 d2 d3 hsz hok f1 hnl).useB ?k1 ?k2 ?k3 ?k4 ?k5 ?kK ?kd ?ku ?kG ?_; (walk_at "fn ctx"); (case kG => exact G'))
  intro r9 n9 h9 tk9 F9 N9 ho9
  obtain ⟨n', hr9, hn9⟩ := ho9
  subst hr9; subst hn9
  have hfl := List.length_filter_le (fun k => Txt.lower k.nm != Txt.lower nm) hs
  have hsz' : (hvals (hs.filter fun k => Txt.lower k.nm != Txt.lower nm)).size ≤ 1000 := by rw [hvals_size]; omega
  k_steps
  (try dsimp only)
  rename News h₀ L _ (List.cons _ _) => kN9
  refine' hret _ _ _ _ ?kf (cb_drop kN9 ?ks) ?kr ⟨_, _, rfl, rfl⟩
  case kf => k_asm
  case ks => kcj_all
  case kr => assumption

section
variable {prog : Program} {w : World} {A : Around} {E : Value → Shared → Prop} {s : Shared} {h₀ : Heap} {L l : Addr} {m : Str → Option Value} {news : List (Addr × Obj)} {value slice : PySem.Expr} {n : Nat} {its : Array Value} {Q : Value → Shared → Prop}
theorem slice_all (F : Fr h₀ L s.heap m) (N : News h₀ L s.heap news) (hg : (l, listOf its n) ∈ news) (hz : its.size < 2 ^ 20)
    (h : ∀ D h', Fr h₀ L h' m → News h₀ L h' ((D, listOf its 0) :: news) → (∀ p ∈ news, p.1 < D) → Q (.ref D) { s with heap := h' })
    (hs : subscripted slice false (.ref l) (.ref s.heap.objs.size) = operate [.ref s.heap.objs.size, .ref l] (getItem (.ref l) (.ref s.heap.objs.size))) (ht : ∀ r, letTemporaryGo value (.ref l) r = pure ()) :
    wpAny (model prog w) A (subscriptTail value slice (.ref l) (.ref s.heap.objs.size)) Q E { s with heap := s.heap.push { cls := .type "slice", data := .fields #[.none, .none, .none] } } := by
  refine kmk_slice (its := its) F N (PySem.IsL.isList (n := n) (N _ hg).1) IsPart.none IsPart.none (fun D h' F' N' l1 => h D h' F' ?_ l1) hs ht (by rw [sizeLine_eq]; omega)
  rw [slicePick_all] at N'
  exact N'
end
set_option maxRecDepth 100000 in
set_option maxHeartbeats 8000000 in
theorem items {w : World} {x dx hl : Addr} {hh : Int} {tk0 nd n : Nat} {hs : List Hd} {rest : Led}
   (hsz : hs.length ≤ 1000) :
   FnN w 4 181 [.ref x] [] [(x, instObj 217 dx), (dx, dictOf [⟨hh, .str (Str.ofString "_headers") tk0, .ref hl⟩] nd), (hl, listOf (hvals hs) n)] rest
  (fun r h muts' => ∃ D, r = .ref D ∧ muts' = [(D, listOf (hvals hs) 0), (x, instObj 217 dx), (dx, dictOf [⟨hh, .str (Str.ofString "_headers") tk0, .ref hl⟩] nd), (hl, listOf (hvals hs) n)]) := by
  unfold FnN
  intro mean mg mb dp un gd cn cs a ccd cl outer A₀ base h₀ L m s Q E B F X N NR hrL sep T hk hdp hun hret
  refine wpAny_call ?_
  k_dflt (refine' code_defS ?k1 ?k2 ?k3 ?k4 ?kR ?kS ?k5 ?kA ?kF ?kK ?k6 ?k7 ?k8 ?k9 ?kB ?_ ?c2 ?c3 ?c4 ?c5; (case kA => exact rfl); (case kF => exact rfl); (case kK => exact hk); (case k1 => exact B); (case k2 => exact F); (case k3 => exact X); (case k4 => exact N); (case kR => exact NR); (case kS => exact sep); (case k5 => exact T); (case k6 => k_is); (case k7 => k_is); (case k8 => ktr_room); (case k9 => first | exact BindsTo.of_eq rfl | exact binds_K (by k_in) rfl (by k_is) rfl rfl rfl); (case c5 => decide); (case kB => exact locs rfl); (case c2 => exact rfl); (case c3 => exact rfl); (case c4 => exact rfl); k_whole; intro g' L' h' FG' F' N' B' X' T' G'; (try dsimp only); (try k_lift B'); (try k_fold))

  k_steps
  (try dsimp only)
  rename News h₀ L _ (List.cons _ _) => kN9
  refine' hret _ _ _ _ ?kf (cb_drop kN9 ?ks) ?kr ⟨_, rfl, rfl⟩
  case kf => k_asm
  case ks => kcj_all
  case kr => assumption
end
section
open PySem PySem.W PySem.Calls PyProof.Rows PySem.Spec PyProof.V
set_option maxRecDepth 100000
theorem fmod_fin (k : Int) (n : Nat) (hn : 0 < n) : ∃ c : Fin n, k.fmod n = (c : Nat) := by
  have h1 : 0 ≤ k.fmod n := Int.fmod_nonneg_of_pos k (by omega)
  have h2 : k.fmod n < n := Int.fmod_lt_of_pos k (by omega)
  exact ⟨⟨(k.fmod n).toNat, by omega⟩, by simp; omega⟩
def kd (c : Nat) : Str := Str.ofString "text/" ++ Txt.item (Str.ofString "abcdefgh") (c : Int)
def wt (c : Nat) : Str := Str.ofString (toString ((c : Int).fdiv 10)) ++ Str.ofString "." ++ Str.ofString (toString ((c : Int).fmod 10))
theorem kindS_fin (k : Int) : ∃ c : Fin 8, k.fmod 8 = (c : Nat) ∧ kindS k = kd c := by
  obtain ⟨c, hc⟩ := fmod_fin k 8 (by decide)
  have hc' : k.fmod 8 = (c : Nat) := hc
  exact ⟨c, hc', by unfold kindS kd; rw [hc']⟩
theorem worthS_fin (x : Int) : ∃ c : Fin 11, (x.fdiv 8).fmod 11 = (c : Nat) ∧ worthS x = wt c := by
  obtain ⟨c, hc⟩ := fmod_fin (x.fdiv 8) 11 (by decide)
  have hc' : (x.fdiv 8).fmod 11 = (c : Nat) := hc
  exact ⟨c, hc', by unfold worthS wt; rw [hc']⟩
theorem kd_all : ∀ c : Fin 8, (kd c).length = 6 ∧ fails valueCode (kd c) = true := by decide +kernel
theorem wt_all : ∀ c : Fin 11, (wt c).length = 3 ∧ fails valueCode (wt c) = true ∧ lacks (wt c) (Str.ofString "\\") = true ∧ lacks (wt c) (Str.ofString "\"") = true := by decide +kernel
theorem kindS_len (k : Int) : (kindS k).length = 6 := by obtain ⟨c, _, e⟩ := kindS_fin k; rw [e]; exact (kd_all c).1
theorem worthS_len (k : Int) : (worthS k).length = 3 := by obtain ⟨c, _, e⟩ := worthS_fin k; rw [e]; exact (wt_all c).1
theorem kindS_ok (k : Int) : fails valueCode (kindS k) = true := by obtain ⟨c, _, e⟩ := kindS_fin k; rw [e]; exact (kd_all c).2
theorem worthS_ok (k : Int) : fails valueCode (worthS k) = true ∧ lacks (worthS k) (Str.ofString "\\") = true ∧ lacks (worthS k) (Str.ofString "\"") = true := by obtain ⟨c, _, e⟩ := worthS_fin k; rw [e]; exact (wt_all c).2
end
section
open PySem PySem.W PySem.Calls PyProof.Rows PySem.Spec PyProof.V
set_option maxRecDepth 100000
def pr0 : Params := { strHash := fun _ => 0, shareClass := fun _ => 0, mergeTok := id, idOf := fun _ => 0, idOfShared := fun _ _ => 0, followText := fun _ => false, idOfImm := fun _ => 0 }
section
variable {o : Option Obj} {name qual : Str} {params : Arguments} {body : List Stmt} {scope : Scope} {dV kV doc pm cdv ct oc : Value} {an od : Option Addr} {osl : Array (Option Value)}
abbrev bodyOf (_ : o = some ⟨oc, od, .func (fnOf name qual params body scope dV kV doc pm an cdv ct), osl⟩) : List Stmt := body
abbrev scopeOf (_ : o = some ⟨oc, od, .func (fnOf name qual params body scope dV kV doc pm an cdv ct), osl⟩) : Scope := scope
end
abbrev st0 {a : Stmt} {r : List Stmt} {l : List Stmt} (_ : l = a :: r) : Stmt := a
abbrev tl0 {a : Stmt} {r : List Stmt} {l : List Stmt} (_ : l = a :: r) : List Stmt := r
noncomputable def dueTl0 : List Stmt := by
  refine' bodyOf (o := (hd.heap_39 pr0).lookup 245) ?h
  case h => k_is
noncomputable def dueScope : Scope := by
  refine' scopeOf (o := (hd.heap_39 pr0).lookup 245) ?h
  case h => k_is
noncomputable def dueSt0 : Stmt := by
  refine' st0 (l := dueTl0) ?h
  case h => exact rfl
noncomputable def dueTl1 : List Stmt := by
  refine' tl0 (l := dueTl0) ?h
  case h => exact rfl
noncomputable def dueSt1 : Stmt := by
  refine' st0 (l := dueTl1) ?h
  case h => exact rfl
noncomputable def dueTl2 : List Stmt := by
  refine' tl0 (l := dueTl1) ?h
  case h => exact rfl
noncomputable def dueSt2 : Stmt := by
  refine' st0 (l := dueTl2) ?h
  case h => exact rfl
noncomputable def dueTl3 : List Stmt := by
  refine' tl0 (l := dueTl2) ?h
  case h => exact rfl
noncomputable def dueSt3 : Stmt := by
  refine' st0 (l := dueTl3) ?h
  case h => exact rfl
noncomputable def dueTl4 : List Stmt := by
  refine' tl0 (l := dueTl3) ?h
  case h => exact rfl
noncomputable def dueSt4 : Stmt := by
  refine' st0 (l := dueTl4) ?h
  case h => exact rfl
noncomputable def dueTl5 : List Stmt := by
  refine' tl0 (l := dueTl4) ?h
  case h => exact rfl
noncomputable def dueSt5 : Stmt := by
  refine' st0 (l := dueTl5) ?h
  case h => exact rfl
noncomputable def dueTl6 : List Stmt := by
  refine' tl0 (l := dueTl5) ?h
  case h => exact rfl
noncomputable def dueSt6 : Stmt := by
  refine' st0 (l := dueTl6) ?h
  case h => exact rfl
noncomputable def dueTl7 : List Stmt := by
  refine' tl0 (l := dueTl6) ?h
  case h => exact rfl
noncomputable def dueSt7 : Stmt := by
  refine' st0 (l := dueTl7) ?h
  case h => exact rfl
noncomputable def dueTl8 : List Stmt := by
  refine' tl0 (l := dueTl7) ?h
  case h => exact rfl
noncomputable def dueSt8 : Stmt := by
  refine' st0 (l := dueTl8) ?h
  case h => exact rfl
noncomputable def dueTl9 : List Stmt := by
  refine' tl0 (l := dueTl8) ?h
  case h => exact rfl
noncomputable def dueSt9 : Stmt := by
  refine' st0 (l := dueTl9) ?h
  case h => exact rfl
noncomputable def dueTl10 : List Stmt := by
  refine' tl0 (l := dueTl9) ?h
  case h => exact rfl
noncomputable def srvTl0 : List Stmt := by
  refine' bodyOf (o := (hd.heap_39 pr0).lookup 240) ?h
  case h => k_is
noncomputable def srvScope : Scope := by
  refine' scopeOf (o := (hd.heap_39 pr0).lookup 240) ?h
  case h => k_is
noncomputable def srvSt0 : Stmt := by
  refine' st0 (l := srvTl0) ?h
  case h => exact rfl
noncomputable def srvTl1 : List Stmt := by
  refine' tl0 (l := srvTl0) ?h
  case h => exact rfl
noncomputable def srvSt1 : Stmt := by
  refine' st0 (l := srvTl1) ?h
  case h => exact rfl
noncomputable def srvTl2 : List Stmt := by
  refine' tl0 (l := srvTl1) ?h
  case h => exact rfl
noncomputable def srvSt2 : Stmt := by
  refine' st0 (l := srvTl2) ?h
  case h => exact rfl
noncomputable def srvTl3 : List Stmt := by
  refine' tl0 (l := srvTl2) ?h
  case h => exact rfl
noncomputable def srvSt3 : Stmt := by
  refine' st0 (l := srvTl3) ?h
  case h => exact rfl
noncomputable def srvTl4 : List Stmt := by
  refine' tl0 (l := srvTl3) ?h
  case h => exact rfl
noncomputable def srvSt4 : Stmt := by
  refine' st0 (l := srvTl4) ?h
  case h => exact rfl
noncomputable def srvTl5 : List Stmt := by
  refine' tl0 (l := srvTl4) ?h
  case h => exact rfl
noncomputable def srvSt5 : Stmt := by
  refine' st0 (l := srvTl5) ?h
  case h => exact rfl
noncomputable def srvTl6 : List Stmt := by
  refine' tl0 (l := srvTl5) ?h
  case h => exact rfl
noncomputable def srvSt6 : Stmt := by
  refine' st0 (l := srvTl6) ?h
  case h => exact rfl
noncomputable def srvTl7 : List Stmt := by
  refine' tl0 (l := srvTl6) ?h
  case h => exact rfl
noncomputable def srvSt7 : Stmt := by
  refine' st0 (l := srvTl7) ?h
  case h => exact rfl
noncomputable def srvTl8 : List Stmt := by
  refine' tl0 (l := srvTl7) ?h
  case h => exact rfl
noncomputable def srvSt8 : Stmt := by
  refine' st0 (l := srvTl8) ?h
  case h => exact rfl
noncomputable def srvTl9 : List Stmt := by
  refine' tl0 (l := srvTl8) ?h
  case h => exact rfl
noncomputable def srvSt9 : Stmt := by
  refine' st0 (l := srvTl9) ?h
  case h => exact rfl
noncomputable def srvTl10 : List Stmt := by
  refine' tl0 (l := srvTl9) ?h
  case h => exact rfl
noncomputable def srvSt10 : Stmt := by
  refine' st0 (l := srvTl10) ?h
  case h => exact rfl
noncomputable def srvTl11 : List Stmt := by
  refine' tl0 (l := srvTl10) ?h
  case h => exact rfl
noncomputable def srvSt11 : Stmt := by
  refine' st0 (l := srvTl11) ?h
  case h => exact rfl
noncomputable def srvTl12 : List Stmt := by
  refine' tl0 (l := srvTl11) ?h
  case h => exact rfl
noncomputable def srvSt12 : Stmt := by
  refine' st0 (l := srvTl12) ?h
  case h => exact rfl
noncomputable def srvTl13 : List Stmt := by
  refine' tl0 (l := srvTl12) ?h
  case h => exact rfl
noncomputable def srvSt13 : Stmt := by
  refine' st0 (l := srvTl13) ?h
  case h => exact rfl
noncomputable def srvTl14 : List Stmt := by
  refine' tl0 (l := srvTl13) ?h
  case h => exact rfl
noncomputable abbrev dueEnv (L : Addr) : Env := envOfC (Str.ofString "_law_due") dueScope L 245 (.ref 244)
noncomputable abbrev srvEnv (L : Addr) : Env := envOfC (Str.ofString "_law_served") srvScope L 240 (.ref 239)
/-- what a call stands on -/
structure Ctx (w : World) (mean : ExcName → Option Value) (mg mb : Str → Option Value) (dp un : Nat) (gd : Option (List Code)) (cn : Str) (cs : Scope) (a : Addr) (ccd : Value) (cl : List (Str × Addr)) (outer : List Env) (base g : Heap) (L : Addr) : Prop where
  B : Below (ktrTop dp un gd cn cs L a ccd cl outer) base (envX cn cs L a ccd cl :: outer) g
  X : (hd.heap_39 w.params).In g
  T : Top hd.view_39 LS mean mg mb g
  hk : cs.kind = .function
  hdp : dp + 30 < recursionLimit
  hun : un + 8 * 30 < cLine
/-- off a place, item by item -/
def AllNe (d : Nat) : Led → Prop
  | [] => True
  | p :: r => @Ne Nat p.1 d ∧ AllNe d r
theorem allNe_of {d : Addr} : ∀ {l : Led}, (∀ p ∈ l, p.1 ≠ d) → AllNe d l
  | [], _ => trivial
  | p :: _, h => ⟨h p (.head _), allNe_of fun q hq => h q (.tail _ hq)⟩
end
section
open PySem PySem.W PyProof.Rows PySem.Spec
theorem lines_R2 : True := by
  k_with_none
  (k_with "om" => (with_reducible first | assumption | exact Nat.ne_of_lt ‹_› | exact Nat.ne_of_gt ‹_› | exact Ne.symm ‹_› | exact Mine.o_a ‹_› (by decide) | exact Mine.o_b ‹_› (by decide) | exact Mine.o_c ‹_› | exact Mine.o_le (n := 100) ‹_› (by decide) | exact Mine.o_le ‹_› (by decide) | exact Mine.o_l ‹_› (by decide) | exact Mine.o_1 (n := 100) ‹_› (by decide) | exact Mine.o_2 (n := 100) ‹_› (by decide) | exact Mine.o_lt (n := 100) ‹_› (by decide) | exact Mine.o_lt ‹_› (by decide) | exact Mine.o_ll ‹_› (by decide) | exact Mine.o_s ‹_› | exact Mine.o_n _ | exact Mine.o_0 _ | exact Mine.o_i ‹_› (by decide) | exact Mine.o_m ‹_› (by decide) | exact Mine.o_j (n := 100) ‹_› ‹_› (by decide) | exact Mine.o_k ‹_› ‹_› (by decide) | exact Mine.o_e (n := 100) ‹_› ‹_› (by decide) | exact Nat.ne_of_lt (by k_extra "cj") | exact Nat.ne_of_gt (by k_extra "cj") | exact Ne.symm (by k_extra "cj") | k_extra "cj" | fail))
  (k_with "cj" => (first | exact And.left ‹_› | exact Mine.c_2 ‹_› | exact Mine.c_3 ‹_› | exact Mine.c_4 ‹_› | exact Mine.c_5 ‹_› | exact Mine.c_6 ‹_› | exact Mine.c_7 ‹_› | exact Mine.c_8 ‹_› | exact Mine.c_9 ‹_› | exact And.right ‹_› | exact Mine.d_3 ‹_› | exact Mine.d_4 ‹_› | exact Mine.d_5 ‹_› | exact Mine.d_6 ‹_› | exact Mine.d_7 ‹_› | exact Mine.d_8 ‹_› | exact Mine.d_9 ‹_› | fail))
  (k_with "fn ctx" => (((case k1 => k_asm); (case k2 => k_asm); (case k3 => k_asm); (case k4 => k_asm); (case k5 => k_asm); (case kK => first | exact rfl | assumption); (case kd => ktr_room); (case ku => ktr_units))))
  (k_with "call ref" => ((k_here; (with_reducible show wpAny _ _ (call (Value.ref 228) _ _) _ _ _); k_dflt (refine' (law_kind).use ?k1 ?k2 ?k3 ?k4 ?k5 ?kK ?kd ?ku ?kz ?_; (walk_at "fn ctx"); (case kz => exact fun _ h => nomatch h); intro zqr9 zqh9 zqtk9 zqF9 zqN9 zqk9 zqho9; obtain ⟨zqt9, zqhr9⟩ := zqho9; subst zqhr9; (try dsimp only); (try k_sweep)))))
  (k_with "call ref" => ((k_here; (with_reducible show wpAny _ _ (call (Value.ref 235) _ _) _ _ _); k_dflt (refine' (law_worth).use ?k1 ?k2 ?k3 ?k4 ?k5 ?kK ?kd ?ku ?kz ?_; (walk_at "fn ctx"); (case kz => exact fun _ h => nomatch h); intro zqr9 zqh9 zqtk9 zqF9 zqN9 zqk9 zqho9; obtain ⟨zqt9, zqhr9⟩ := zqho9; subst zqhr9; (try dsimp only); (try k_sweep)))))
  (k_with "call builtin:len" => ((k_here; (with_reducible show wpAny _ _ (call (Value.builtin "len") [Value.ref _]) _ _ _); k_dflt (first | (refine' len_led ?k1 ?k2 ?k3 ?_; (case k1 => k_asm); (case k2 => k_mem); (case k3 => first | with_reducible assumption | omega); k_whole) | (refine' len_base ?k1 ?k2 ?k3 ?_; (case k1 => k_asm); (case k2 => with_reducible assumption); (case k3 => first | with_reducible assumption | omega); k_whole)))))
  (k_with "binaryOp Mult ref int" => ((k_here; (with_reducible show wpAny _ _ (binaryOp Operator.Mult (Value.ref _) (Value.int _ _)) _ _ _); k_dflt (refine' mul_none ?F ?N ?l ?z ?_; (case F => k_asm); (case N => k_asm); (case l => k_mem); (case z => (rw [ivals_size]; omega))); intro zqD' zqh' zqF' zqN' zql1; (try k_lt zql1); (try k_sweep))))
  (k_with "binaryOp Add str str" => ((k_here; (with_reducible show wpAny _ _ (binaryOp Operator.Add (Value.str _ _) (Value.str _ _)) _ _ _); refine add_len (by simp only [Str.length_append, kindS_len, worthS_len]; decide) ?_; intro _ _)))
  trivial
/-- an int with its token -/
abbrev IT := Int × Tok
abbrev IT.v (x : IT) : Value := .int x.1 x.2
def ivals (xs : List IT) : Array Value := (xs.map IT.v).toArray
theorem ivals_size (xs : List IT) : (ivals xs).size = xs.length := by simp [ivals]
theorem add_len {prog : Program} {w : World} {A : Around} {E : Value → Shared → Prop} {s : Shared} {x y : Str} {t u : Tok} {Q : Value → Shared → Prop} (hsz : x.length + y.length ≤ 1000000) (h : ∀ t' tk, Q (.str (x ++ y) t') { s with toks := tk }) : wpAny (model prog w) A (binaryOp .Add (.str x t) (.str y u)) Q E s := by
  refine SBL.add (hsz := ?_) ?_
  · intro t' tk _; exact h t' tk
  · rw [sizeLine_eq]; omega
section
variable {prog : Program} {w : World} {A : Around} {E : Value → Shared → Prop} {s : Shared} {h₀ : Heap} {L l : Addr} {m : Str → Option Value} {news : List (Addr × Obj)} {k n : Nat} {u : Tok} {Q : Value → Shared → Prop}
theorem mul_none (Fm : Fr h₀ L s.heap m) (N : News h₀ L s.heap news) (hl : (l, listOf #[.none] k) ∈ news) (hn : n ≤ 100)
    (h : ∀ D h', Fr h₀ L h' m → News h₀ L h' ((D, listOf (List.replicate n Value.none).toArray 0) :: news) → (∀ p ∈ news, p.1 < D) → Q (.ref D) { s with heap := h' }) : wpAny (model prog w) A (binaryOp .Mult (.ref l) (.int (n : Int) u)) Q E s :=
  KMa.mul (vs := [.none]) Fm N (PySem.IsL.isList (n := k) (N _ hl).1) (by omega) (by omega) (by simp; omega) (by simp) h
end
def rowS (x : Int) : Str := kindS x ++ Str.ofString "; q=\"" ++ worthS x ++ Str.ofString "\""
section
variable {w : World} {mean : ExcName → Option Value} {mg mb : Str → Option Value} {dp un : Nat} {gd : Option (List Code)} {cn : Str} {cs : Scope} {a : Addr} {ccd : Value} {cl : List (Str × Addr)} {outer : List Env} {base g' : Heap} {L L' : Addr} {s : Shared} {Q : Flow → Shared → Prop} {E : Value → Shared → Prop} {m : Str → Option Value}
variable {nl tl : Addr} {n1 n2 : Nat} {xs : List IT} {th : List ST} {c1 c2 c3 c4 c5 : Obj}
set_option maxRecDepth 100000 in
set_option maxHeartbeats 8000000 in
theorem due_rows (C : Ctx w mean mg mb dp un gd cn cs a ccd cl outer base g' L) (hb1 : g'.get? nl = some (lst (ivals xs) n1)) (hl1 : xs.length ≤ 100)
    (F : Fr g' L' s.heap m) (N : News g' L' s.heap [(L' + 1 + 1 + 1 + 1 + 1, c5), (L' + 1 + 1 + 1 + 1, c4), (L' + 1 + 1 + 1, c3), (L' + 1 + 1, c2), (L' + 1, c1)]) (d1 : c1.data = .cell (some (.ref nl))) {v3 : Option Value} (d3 : c3.data = .cell v3)
    (k : ∀ D c3' (zs : List ST) h tk, Fr g' L' h m → News g' L' h [(D, LCg.lst (zs.map ST.v)), (L' + 1 + 1 + 1 + 1 + 1, c5), (L' + 1 + 1 + 1 + 1, c4), (L' + 1 + 1 + 1, c3'), (L' + 1 + 1, c2), (L' + 1, c1)] → c3'.data = .cell (some (.ref D)) → LCg.Off1 D [(L' + 1 + 1 + 1 + 1 + 1, c5), (L' + 1 + 1 + 1 + 1, c4), (L' + 1 + 1 + 1, c3), (L' + 1 + 1, c2), (L' + 1, c1)] → zs.map (·.1) = xs.map (fun x => rowS x.1) → Q .next { s with heap := h, toks := tk }) :
    wpAny (model PG w) ((ktrTop dp un gd cn cs L a ccd cl outer).deeper (dueEnv L')) (exec dueSt0 (dueEnv L')) Q E s := by
  obtain ⟨B', X', T', hk, hdp, hun⟩ := C
  unfold dueSt0 dueEnv
  dsimp only [st0, tl0]

  have hi1 : g'.IsList nl (ivals xs) := PySem.IsL.isList hb1
  repeat' (first | (k_unfold; (try dsimp only)) | ((fail_if_success (with_reducible show wpAny _ _ (eval (Expr.ListComp _ _ _ _) _) _ _ _)); (fail_if_success (with_reducible show LCt.CompSrcT _ _ _ _ _ _ _ _ _ _ _ _ _ _ _)); (fail_if_success (with_reducible show LCg.CompSrc _ _ _ _ _ _ _ _ _ _ _ _ _ _)); (fail_if_success (with_reducible show LCg.CompEnd _ _ _ _ _ _ _ _ _ _ _ _ _ _)); (fail_if_success (with_reducible show @ite _ _ _ _ _)); (fail_if_success (with_reducible show wpAny _ _ (pyIter _) _ _ _)); (fail_if_success (with_reducible show Q _ _)); walk1) | ((fail_if_success (with_reducible show wpAny _ _ (eval (Expr.ListComp _ _ _ _) _) _ _ _)); (fail_if_success (with_reducible show LCt.CompSrcT _ _ _ _ _ _ _ _ _ _ _ _ _ _ _)); (fail_if_success (with_reducible show LCg.CompSrc _ _ _ _ _ _ _ _ _ _ _ _ _ _)); (fail_if_success (with_reducible show LCg.CompEnd _ _ _ _ _ _ _ _ _ _ _ _ _ _)); (fail_if_success (with_reducible show @ite _ _ _ _ _)); (fail_if_success (with_reducible show wpAny _ _ (pyIter _) _ _ _)); (fail_if_success (with_reducible show Q _ _)); dsimp only; walk1))

  rename Fr g' L' _ _ => kF9
  refine LCg.ListComp_U (F₀ := kF9) (by with_unfolding_all rfl) (by decide) (by rfl) (by decide) (by rfl) ?_
  repeat' (first | (k_unfold; (try dsimp only)) | ((fail_if_success (with_reducible show wpAny _ _ (eval (Expr.ListComp _ _ _ _) _) _ _ _)); (fail_if_success (with_reducible show LCt.CompSrcT _ _ _ _ _ _ _ _ _ _ _ _ _ _ _)); (fail_if_success (with_reducible show LCg.CompSrc _ _ _ _ _ _ _ _ _ _ _ _ _ _)); (fail_if_success (with_reducible show LCg.CompEnd _ _ _ _ _ _ _ _ _ _ _ _ _ _)); (fail_if_success (with_reducible show @ite _ _ _ _ _)); (fail_if_success (with_reducible show wpAny _ _ (pyIter _) _ _ _)); (fail_if_success (with_reducible show Q _ _)); walk1) | ((fail_if_success (with_reducible show wpAny _ _ (eval (Expr.ListComp _ _ _ _) _) _ _ _)); (fail_if_success (with_reducible show LCt.CompSrcT _ _ _ _ _ _ _ _ _ _ _ _ _ _ _)); (fail_if_success (with_reducible show LCg.CompSrc _ _ _ _ _ _ _ _ _ _ _ _ _ _)); (fail_if_success (with_reducible show LCg.CompEnd _ _ _ _ _ _ _ _ _ _ _ _ _ _)); (fail_if_success (with_reducible show @ite _ _ _ _ _)); (fail_if_success (with_reducible show wpAny _ _ (pyIter _) _ _ _)); (fail_if_success (with_reducible show Q _ _)); dsimp only; walk1))

  rename News g' L' _ _ => kN9
  refine LCg.CompSrc.base rfl kF9 kN9 hi1 (by rw [ivals_size, sizeLine_eq]; omega) (fun g => rest_ind (fun i ys news => news = [_, _, _, _, _] ∧ ∃ zs : List ST, ys = zs.map ST.v ∧ zs.map (·.1) = (xs.take i).map fun x => rowS x.1) ?elem ?fin _ 0 [] _ (Nat.zero_add _) ⟨rfl, [], rfl, rfl⟩)
  case fin =>
    clear kF9 kN9
    rintro ys news ⟨rfl, zs, rfl, hz⟩
    rw [ivals_size, List.take_length] at hz
    intro D h tk F9 N9 off9
    repeat' (first | (k_unfold; (try dsimp only)) | ((fail_if_success (with_reducible show wpAny _ _ (eval (Expr.ListComp _ _ _ _) _) _ _ _)); (fail_if_success (with_reducible show LCt.CompSrcT _ _ _ _ _ _ _ _ _ _ _ _ _ _ _)); (fail_if_success (with_reducible show LCg.CompSrc _ _ _ _ _ _ _ _ _ _ _ _ _ _)); (fail_if_success (with_reducible show LCg.CompEnd _ _ _ _ _ _ _ _ _ _ _ _ _ _)); (fail_if_success (with_reducible show @ite _ _ _ _ _)); (fail_if_success (with_reducible show wpAny _ _ (pyIter _) _ _ _)); (fail_if_success (with_reducible show Q _ _)); walk1) | ((fail_if_success (with_reducible show wpAny _ _ (eval (Expr.ListComp _ _ _ _) _) _ _ _)); (fail_if_success (with_reducible show LCt.CompSrcT _ _ _ _ _ _ _ _ _ _ _ _ _ _ _)); (fail_if_success (with_reducible show LCg.CompSrc _ _ _ _ _ _ _ _ _ _ _ _ _ _)); (fail_if_success (with_reducible show LCg.CompEnd _ _ _ _ _ _ _ _ _ _ _ _ _ _)); (fail_if_success (with_reducible show @ite _ _ _ _ _)); (fail_if_success (with_reducible show wpAny _ _ (pyIter _) _ _ _)); (fail_if_success (with_reducible show Q _ _)); dsimp only; walk1))

    rename Fr g' L' _ _ => kF9
    rename News g' L' _ _ => kN9
    exact k _ _ _ _ _ kF9 kN9 (by assumption) off9 hz
  case elem =>
    clear kF9 kN9
    intro i hi ys news hI v I oI C oC D m₂ h tk E' hP hNs hx F9 N9 off hne
    obtain ⟨rfl, zs, rfl, hz⟩ := hI
    have hi' : i < xs.length := by rw [← ivals_size]; exact hi
    have hk0 : xs[i]? = some xs[i] := List.getElem?_eq_getElem hi'
    generalize xs[i] = k at hk0
    have hv : v = .int k.1 k.2 := by have := hP; simp [ivals, hk0] at this; exact this.symm
    subst hv
    repeat' (first | (k_unfold; (try dsimp only)) | ((fail_if_success (with_reducible show wpAny _ _ (eval (Expr.ListComp _ _ _ _) _) _ _ _)); (fail_if_success (with_reducible show LCt.CompSrcT _ _ _ _ _ _ _ _ _ _ _ _ _ _ _)); (fail_if_success (with_reducible show LCg.CompSrc _ _ _ _ _ _ _ _ _ _ _ _ _ _)); (fail_if_success (with_reducible show LCg.CompEnd _ _ _ _ _ _ _ _ _ _ _ _ _ _)); (fail_if_success (with_reducible show @ite _ _ _ _ _)); (fail_if_success (with_reducible show wpAny _ _ (pyIter _) _ _ _)); (fail_if_success (with_reducible show Q _ _)); walk1) | ((fail_if_success (with_reducible show wpAny _ _ (eval (Expr.ListComp _ _ _ _) _) _ _ _)); (fail_if_success (with_reducible show LCt.CompSrcT _ _ _ _ _ _ _ _ _ _ _ _ _ _ _)); (fail_if_success (with_reducible show LCg.CompSrc _ _ _ _ _ _ _ _ _ _ _ _ _ _)); (fail_if_success (with_reducible show LCg.CompEnd _ _ _ _ _ _ _ _ _ _ _ _ _ _)); (fail_if_success (with_reducible show @ite _ _ _ _ _)); (fail_if_success (with_reducible show wpAny _ _ (pyIter _) _ _ _)); (fail_if_success (with_reducible show Q _ _)); dsimp only; walk1))

    have htake : xs.take (i + 1) = xs.take i ++ [k] := by rw [List.take_add_one, hk0]; rfl
    rename Fr g' L' _ _ => kF9
    rename News g' L' _ _ => kN9
    exact LCg.CompEnd.intro kF9 kN9 _ (fun p hp => hp) off (.inl hi1) ⟨rfl, zs ++ [(rowS k.1, _)], by simp only [List.map_append, List.map_cons, List.map_nil, ST.v, rowS]; rfl, by simp only [List.map_append, List.map_cons, List.map_nil, htake, hz]⟩
end
end
section
open PySem PySem.W PyProof.Rows PySem.Spec
theorem lines_R3 : True := by
  k_with_none
  (k_with "om" => (with_reducible first | assumption | exact Nat.ne_of_lt ‹_› | exact Nat.ne_of_gt ‹_› | exact Ne.symm ‹_› | exact Mine.o_a ‹_› (by decide) | exact Mine.o_b ‹_› (by decide) | exact Mine.o_c ‹_› | exact Mine.o_le (n := 100) ‹_› (by decide) | exact Mine.o_le ‹_› (by decide) | exact Mine.o_l ‹_› (by decide) | exact Mine.o_1 (n := 100) ‹_› (by decide) | exact Mine.o_2 (n := 100) ‹_› (by decide) | exact Mine.o_lt (n := 100) ‹_› (by decide) | exact Mine.o_lt ‹_› (by decide) | exact Mine.o_ll ‹_› (by decide) | exact Mine.o_s ‹_› | exact Mine.o_n _ | exact Mine.o_0 _ | exact Mine.o_i ‹_› (by decide) | exact Mine.o_m ‹_› (by decide) | exact Mine.o_j (n := 100) ‹_› ‹_› (by decide) | exact Mine.o_k ‹_› ‹_› (by decide) | exact Mine.o_e (n := 100) ‹_› ‹_› (by decide) | exact Nat.ne_of_lt (by k_extra "cj") | exact Nat.ne_of_gt (by k_extra "cj") | exact Ne.symm (by k_extra "cj") | k_extra "cj" | fail))
  (k_with "cj" => (first | exact And.left ‹_› | exact Mine.c_2 ‹_› | exact Mine.c_3 ‹_› | exact Mine.c_4 ‹_› | exact Mine.c_5 ‹_› | exact Mine.c_6 ‹_› | exact Mine.c_7 ‹_› | exact Mine.c_8 ‹_› | exact Mine.c_9 ‹_› | exact And.right ‹_› | exact Mine.d_3 ‹_› | exact Mine.d_4 ‹_› | exact Mine.d_5 ‹_› | exact Mine.d_6 ‹_› | exact Mine.d_7 ‹_› | exact Mine.d_8 ‹_› | exact Mine.d_9 ‹_› | fail))
  (k_with "fn ctx" => (((case k1 => k_asm); (case k2 => k_asm); (case k3 => k_asm); (case k4 => k_asm); (case k5 => k_asm); (case kK => first | exact rfl | assumption); (case kd => ktr_room); (case ku => ktr_units))))
  (k_with "call ref" => ((k_here; (with_reducible show wpAny _ _ (call (Value.ref 228) _ _) _ _ _); k_dflt (refine' (law_kind).use ?k1 ?k2 ?k3 ?k4 ?k5 ?kK ?kd ?ku ?kz ?_; (walk_at "fn ctx"); (case kz => exact fun _ h => nomatch h); intro zqr9 zqh9 zqtk9 zqF9 zqN9 zqk9 zqho9; obtain ⟨zqt9, zqhr9⟩ := zqho9; subst zqhr9; (try dsimp only); (try k_sweep)))))
  (k_with "call ref" => ((k_here; (with_reducible show wpAny _ _ (call (Value.ref 235) _ _) _ _ _); k_dflt (refine' (law_worth).use ?k1 ?k2 ?k3 ?k4 ?k5 ?kK ?kd ?ku ?kz ?_; (walk_at "fn ctx"); (case kz => exact fun _ h => nomatch h); intro zqr9 zqh9 zqtk9 zqF9 zqN9 zqk9 zqho9; obtain ⟨zqt9, zqhr9⟩ := zqho9; subst zqhr9; (try dsimp only); (try k_sweep)))))
  (k_with "call builtin:len" => ((k_here; (with_reducible show wpAny _ _ (call (Value.builtin "len") [Value.ref _]) _ _ _); k_dflt (first | (refine' len_led ?k1 ?k2 ?k3 ?_; (case k1 => k_asm); (case k2 => k_mem); (case k3 => first | with_reducible assumption | omega); k_whole) | (refine' len_base ?k1 ?k2 ?k3 ?_; (case k1 => k_asm); (case k2 => with_reducible assumption); (case k3 => first | with_reducible assumption | omega); k_whole)))))
  (k_with "binaryOp Mult ref int" => ((k_here; (with_reducible show wpAny _ _ (binaryOp Operator.Mult (Value.ref _) (Value.int _ _)) _ _ _); k_dflt (refine' mul_none ?F ?N ?l ?z ?_; (case F => k_asm); (case N => k_asm); (case l => k_mem); (case z => (rw [ivals_size]; omega))); intro zqD' zqh' zqF' zqN' zql1; (try k_lt zql1); (try k_sweep))))
  trivial
section
variable {w : World} {mean : ExcName → Option Value} {mg mb : Str → Option Value} {dp un : Nat} {gd : Option (List Code)} {cn : Str} {cs : Scope} {a : Addr} {ccd : Value} {cl : List (Str × Addr)} {outer : List Env} {base g' : Heap} {L L' : Addr} {s : Shared} {Q : Flow → Shared → Prop} {E : Value → Shared → Prop} {m : Str → Option Value}
variable {nl tl : Addr} {n1 n2 : Nat} {xs : List IT} {th : List ST} {c1 c2 c3 c4 c5 : Obj}
set_option maxRecDepth 100000 in
set_option maxHeartbeats 8000000 in
theorem due_order (C : Ctx w mean mg mb dp un gd cn cs a ccd cl outer base g' L) (hb1 : g'.get? nl = some (lst (ivals xs) n1)) (hl1 : xs.length ≤ 100) {Dr : Addr} {zs : List ST}
    (F : Fr g' L' s.heap m) (N : News g' L' s.heap [(Dr, LCg.lst (zs.map ST.v)), (L' + 1 + 1 + 1 + 1 + 1, c5), (L' + 1 + 1 + 1 + 1, c4), (L' + 1 + 1 + 1, c3), (L' + 1 + 1, c2), (L' + 1, c1)]) (d1 : c1.data = .cell (some (.ref nl)))
    (k : ∀ D h tk, Fr g' L' h (fun y => if y = Str.ofString "order" then some (.ref D) else m y) → News g' L' h [(D, listOf (List.replicate xs.length Value.none).toArray 0), (Dr, LCg.lst (zs.map ST.v)), (L' + 1 + 1 + 1 + 1 + 1, c5), (L' + 1 + 1 + 1 + 1, c4), (L' + 1 + 1 + 1, c3), (L' + 1 + 1, c2), (L' + 1, c1)] → (@LT.lt Nat _ (L' + 1 + 1 + 1 + 1 + 1) D) → (@LT.lt Nat _ Dr D) → Q .next { s with heap := h, toks := tk }) :
    wpAny (model PG w) ((ktrTop dp un gd cn cs L a ccd cl outer).deeper (dueEnv L')) (exec dueSt1 (dueEnv L')) Q E s := by
  obtain ⟨B', X', T', hk, hdp, hun⟩ := C
  unfold dueSt1 dueEnv
  dsimp only [st0, tl0]

  have hz1 : ((ivals xs).size : Int) < 2 ^ 63 := by rw [ivals_size]; omega
  repeat' (first | (k_unfold; (try dsimp only)) | ((fail_if_success (with_reducible show wpAny _ _ (eval (Expr.ListComp _ _ _ _) _) _ _ _)); (fail_if_success (with_reducible show LCt.CompSrcT _ _ _ _ _ _ _ _ _ _ _ _ _ _ _)); (fail_if_success (with_reducible show LCg.CompSrc _ _ _ _ _ _ _ _ _ _ _ _ _ _)); (fail_if_success (with_reducible show LCg.CompEnd _ _ _ _ _ _ _ _ _ _ _ _ _ _)); (fail_if_success (with_reducible show @ite _ _ _ _ _)); (fail_if_success (with_reducible show wpAny _ _ (pyIter _) _ _ _)); (fail_if_success (with_reducible show Q _ _)); walk1) | ((fail_if_success (with_reducible show wpAny _ _ (eval (Expr.ListComp _ _ _ _) _) _ _ _)); (fail_if_success (with_reducible show LCt.CompSrcT _ _ _ _ _ _ _ _ _ _ _ _ _ _ _)); (fail_if_success (with_reducible show LCg.CompSrc _ _ _ _ _ _ _ _ _ _ _ _ _ _)); (fail_if_success (with_reducible show LCg.CompEnd _ _ _ _ _ _ _ _ _ _ _ _ _ _)); (fail_if_success (with_reducible show @ite _ _ _ _ _)); (fail_if_success (with_reducible show wpAny _ _ (pyIter _) _ _ _)); (fail_if_success (with_reducible show Q _ _)); dsimp only; walk1))

  rename Fr g' L' _ _ => kF9
  rename News g' L' _ _ => kN9
  rw [ivals_size] at kN9
  exact k _ _ _ kF9 (cb_drop kN9 (by kcj_all)) (by omega) (by omega)
end
end
section
section
open Classical
theorem set_set_perm {α : Type} {l : List α} {i j : Nat} {p x : α} (hi : i < l.length) (hj : l[j]? = some p) (hne : i ≠ j) : List.Perm ((l.set i p).set j x) (l.set i x) := by
  have hjl : j < l.length := (List.getElem?_eq_some_iff.mp hj).1
  have hjp : l[j] = p := (List.getElem?_eq_some_iff.mp hj).2
  rw [List.perm_iff_count]
  intro a
  have e1 : (l.set i p).length = l.length := List.length_set
  rw [List.count_set (by rw [e1]; exact hjl), List.count_set hi, List.count_set hi, List.getElem_set_ne hne, hjp]
  have hpos : (if l[i] == a then 1 else 0) ≤ List.count a l := by
    split
    · rename_i h
      have : l[i] = a := by simpa using h
      rw [← this]
      exact List.count_pos_iff.mpr (List.getElem_mem hi)
    · exact Nat.zero_le _
  omega
end
theorem sd_perm (x : W) : ∀ (pos : Nat) (ws : List W), pos < ws.length → List.Perm (sd x ws pos) (ws.set pos x) := by
  intro pos
  induction pos using Nat.strongRecOn with
  | _ pos ih =>
    intro ws hl
    by_cases h0 : pos = 0
    · subst h0; rw [sd_zero]
    · have hpar : (pos - 1) / 2 < ws.length := by omega
      have hp : ws[(pos - 1) / 2]? = some ws[(pos - 1) / 2] := List.getElem?_eq_getElem hpar
      generalize ws[(pos - 1) / 2] = p at hp
      by_cases hlt : ltW x p = true
      · rw [sd_up h0 hp hlt]
        refine (ih _ (by omega) _ (by rw [List.length_set]; omega)).trans ?_
        exact set_set_perm hl hp (by omega)
      · rw [sd]; simp [h0, hp, hlt]
/-- at most -/
def leW (y z : W) : Prop := ltW z y = false
theorem leW_iff {y z : W} : leW y z ↔ (y.w < z.w ∨ (y.w = z.w ∧ y.k ≤ z.k)) := by
  unfold leW ltW wlt
  by_cases h : z.w = y.w
  · simp [h]
  · have : ¬ ((z.w == y.w) = true) := by simpa using h
    simp [this]; omega
theorem ltW_iff {y z : W} : ltW y z = true ↔ (y.w < z.w ∨ (y.w = z.w ∧ y.k < z.k)) := by
  unfold ltW wlt
  by_cases h : y.w = z.w
  · simp [h]
  · have : ¬ ((y.w == z.w) = true) := by simpa using h
    simp [this]; omega
theorem leW_trans {x y z : W} (h1 : leW x y) (h2 : leW y z) : leW x z := by rw [leW_iff] at *; omega
theorem leW_of_lt {x y : W} (h : ltW x y = true) : leW x y := by rw [leW_iff]; rw [ltW_iff] at h; omega
theorem leW_refl (x : W) : leW x x := by rw [leW_iff]; omega
def IsHp (ws : List W) : Prop := ∀ i y z, 0 < i → ws[(i - 1) / 2]? = some y → ws[i]? = some z → leW y z
/-- a heap but for one place -/
def Hole (ws : List W) (pos : Nat) : Prop :=
  (∀ i y z, 0 < i → i ≠ pos → (i - 1) / 2 ≠ pos → ws[(i - 1) / 2]? = some y → ws[i]? = some z → leW y z) ∧
  (∀ i y z, 0 < pos → 0 < i → (i - 1) / 2 = pos → ws[(pos - 1) / 2]? = some y → ws[i]? = some z → leW y z)
theorem getSet {ws : List W} {i j : Nat} {x z : W} (h : (ws.set i x)[j]? = some z) : (i = j ∧ z = x) ∨ (i ≠ j ∧ ws[j]? = some z) := by
  rw [List.getElem?_set] at h
  split at h
  · rename_i e
    split at h
    · cases h; exact .inl ⟨e, rfl⟩
    · cases h
  · rename_i e; exact .inr ⟨e, h⟩
theorem fill_heap {ws : List W} {pos : Nat} {x : W} (H : Hole ws pos) (hc : ∀ i z, 0 < i → (i - 1) / 2 = pos → ws[i]? = some z → leW x z) (hp : ∀ p, 0 < pos → ws[(pos - 1) / 2]? = some p → leW p x) : IsHp (ws.set pos x) := by
  intro i y z hi hy hz
  rcases getSet hy with ⟨e, rfl⟩ | ⟨e, hy'⟩
  · rcases getSet hz with ⟨e', rfl⟩ | ⟨e', hz'⟩
    · exact leW_refl _
    · exact hc i z hi e.symm hz'
  · rcases getSet hz with ⟨e', rfl⟩ | ⟨e', hz'⟩
    · subst e'; exact hp y hi hy'
    · exact H.1 i y z hi (Ne.symm e') (Ne.symm e) hy' hz'
theorem sd_heap (x : W) : ∀ (pos : Nat) (ws : List W), pos < ws.length → Hole ws pos → (∀ i z, 0 < i → (i - 1) / 2 = pos → ws[i]? = some z → leW x z) → IsHp (sd x ws pos) := by
  intro pos
  induction pos using Nat.strongRecOn with
  | _ pos ih =>
    intro ws hl H hc
    by_cases h0 : pos = 0
    · subst h0; rw [sd_zero]; exact fill_heap H hc (fun p h => absurd h (by omega))
    · have hpar : (pos - 1) / 2 < ws.length := by omega
      have hp : ws[(pos - 1) / 2]? = some ws[(pos - 1) / 2] := List.getElem?_eq_getElem hpar
      generalize ws[(pos - 1) / 2] = p at hp
      by_cases hlt : ltW x p = true
      · rw [sd_up h0 hp hlt]
        refine ih _ (by omega) _ (by rw [List.length_set]; omega) ⟨fun i y z hi h1 h2 hy hz => ?_, fun i y z h1 hi h2 hy hz => ?_⟩ fun i z hi h2 hz => ?_
        · rcases getSet hy with ⟨e, rfl⟩ | ⟨e, hy'⟩
          · rcases getSet hz with ⟨e', rfl⟩ | ⟨e', hz'⟩
            · exact leW_refl _
            · exact H.2 i _ z (by omega) hi e.symm hp hz'
          · rcases getSet hz with ⟨e', rfl⟩ | ⟨e', hz'⟩
            · exact absurd (e' ▸ rfl) h2
            · exact H.1 i y z hi (Ne.symm e') (Ne.symm e) hy' hz'
        · have hgp : leW y p := by
            rcases getSet hy with ⟨e, rfl⟩ | ⟨e, hy'⟩
            · exact leW_refl _
            · exact H.1 _ y p h1 (by omega) (Ne.symm e) hy' hp
          rcases getSet hz with ⟨e', rfl⟩ | ⟨e', hz'⟩
          · exact hgp
          · exact leW_trans hgp (H.1 i p z hi (Ne.symm e') (by omega) (h2 ▸ hp) hz')
        · rcases getSet hz with ⟨e', rfl⟩ | ⟨e', hz'⟩
          · exact leW_of_lt hlt
          · exact leW_trans (leW_of_lt hlt) (H.1 i p z hi (Ne.symm e') (by omega) (h2 ▸ hp) hz')
      · have e : sd x ws pos = ws.set pos x := by rw [sd]; simp [h0, hp, hlt]
        rw [e]
        exact fill_heap H hc (fun q _ hq => by rw [hp] at hq; cases hq; exact Bool.eq_false_iff.mpr hlt)
theorem chd_par (ws : List W) (pos : Nat) : (chd ws pos - 1) / 2 = pos ∧ 0 < chd ws pos := by have := chd_ge ws pos; omega
/-- the smaller child -/
theorem chd_min {ws : List W} {pos : Nat} {y : W} (hy : ws[chd ws pos]? = some y) {i : Nat} {z : W} (hi : 0 < i) (hp : (i - 1) / 2 = pos) (hz : ws[i]? = some z) : leW y z := by
  have hil : i < ws.length := (List.getElem?_eq_some_iff.mp hz).1
  have hcase : i = 2 * pos + 1 ∨ i = 2 * pos + 2 := by omega
  unfold chd at hy
  by_cases h2 : 2 * pos + 2 < ws.length
  · rw [if_pos h2] at hy
    have ha : ws[2 * pos + 1]? = some ws[2 * pos + 1] := List.getElem?_eq_getElem (by omega)
    have hb : ws[2 * pos + 2]? = some ws[2 * pos + 2] := List.getElem?_eq_getElem h2
    generalize ws[2 * pos + 1] = a at ha
    generalize ws[2 * pos + 2] = b at hb
    simp only [ha, hb] at hy
    by_cases hl : ltW a b = true
    · rw [if_pos hl, ha] at hy
      cases hy
      rcases hcase with e | e
      · rw [e, ha] at hz; cases hz; exact leW_refl _
      · rw [e, hb] at hz; cases hz; exact leW_of_lt hl
    · rw [if_neg hl, hb] at hy
      cases hy
      rcases hcase with e | e
      · rw [e, ha] at hz; cases hz; exact Bool.eq_false_iff.mpr hl
      · rw [e, hb] at hz; cases hz; exact leW_refl _
  · rw [if_neg h2] at hy
    have e : i = 2 * pos + 1 := by omega
    rw [e, hy] at hz; cases hz; exact leW_refl _
theorem suL_spec (x : W) : ∀ (n : Nat) (ws : List W) (pos : Nat), ws.length - pos ≤ n → pos < ws.length → Hole ws pos →
    Hole (suL ws pos).1 (suL ws pos).2 ∧ (suL ws pos).2 < (suL ws pos).1.length ∧ (suL ws pos).1.length = ws.length ∧ ¬ (2 * (suL ws pos).2 + 1 < ws.length) ∧ List.Perm ((suL ws pos).1.set (suL ws pos).2 x) (ws.set pos x) := by
  intro n
  induction n with
  | zero => intro ws pos h1 h2; omega
  | succ n ih =>
    intro ws pos hn hl H
    by_cases hc : 2 * pos + 1 < ws.length
    · have hcl := chd_lt hc
      have hcg := chd_ge ws pos
      have hpar := chd_par ws pos
      have hy : ws[chd ws pos]? = some ws[chd ws pos] := List.getElem?_eq_getElem hcl
      generalize ws[chd ws pos] = y at hy
      rw [suL_up hc hy]
      have hset : (ws.set pos y).length = ws.length := List.length_set
      obtain ⟨r1, r2, r3, r4, r5⟩ := ih (ws.set pos y) (chd ws pos) (by rw [hset]; omega) (by rw [hset]; exact hcl) ⟨fun i a b hi h1 h2 ha hb => by
          rcases getSet ha with ⟨e, rfl⟩ | ⟨e, ha'⟩
          · rcases getSet hb with ⟨e', rfl⟩ | ⟨e', hb'⟩
            · exact leW_refl _
            · exact chd_min hy hi e.symm hb'
          · rcases getSet hb with ⟨e', rfl⟩ | ⟨e', hb'⟩
            · exact H.2 _ _ _ (by omega) hpar.2 hpar.1 (e' ▸ ha') hy
            · exact H.1 i a b hi (Ne.symm e') (Ne.symm e) ha' hb', fun i a b h1 hi h2 ha hb => by
          rw [hpar.1] at ha
          rcases getSet ha with ⟨_, rfl⟩ | ⟨e, _⟩
          · rcases getSet hb with ⟨e', rfl⟩ | ⟨e', hb'⟩
            · exact leW_refl _
            · exact H.1 i _ b hi (Ne.symm e') (by omega) (h2 ▸ hy) hb'
          · exact absurd rfl e⟩
      refine ⟨r1, r2, by rw [r3, hset], by rw [hset] at r4; exact r4, r5.trans ?_⟩
      exact set_set_perm hl hy (by omega)
    · have e : suL ws pos = (ws, pos) := by rw [suL]; simp [hc]
      rw [e]
      exact ⟨H, hl, rfl, hc, List.Perm.refl _⟩
theorem su_spec {ws : List W} {x : W} (hl : 0 < ws.length) (H : Hole ws 0) : IsHp (su ws x) ∧ List.Perm (su ws x) (ws.set 0 x) := by
  obtain ⟨r1, r2, r3, r4, r5⟩ := suL_spec x ws.length ws 0 (by omega) hl H
  unfold su
  generalize (suL ws 0).1 = us at *
  generalize (suL ws 0).2 = q at *
  have hus : (us.set q x).length = us.length := List.length_set
  refine ⟨sd_heap x q _ (by rw [hus]; exact r2) ⟨fun i y z hi h1 h2 hy hz => ?_, fun i y z h1 hi h2 hy hz => ?_⟩ fun i z hi h2 hz => ?_, ?_⟩
  · rcases getSet hy with ⟨e, _⟩ | ⟨e, hy'⟩
    · exact absurd e.symm h2
    · rcases getSet hz with ⟨e', _⟩ | ⟨e', hz'⟩
      · exact absurd e'.symm h1
      · exact r1.1 i y z hi h1 h2 hy' hz'
  · have := (List.getElem?_eq_some_iff.mp hz).1
    rw [hus] at this
    omega
  · have := (List.getElem?_eq_some_iff.mp hz).1
    rw [hus] at this
    omega
  · refine (sd_perm x q _ (by rw [hus]; exact r2)).trans ?_
    rw [List.set_set]
    exact r5
theorem heap_root {ws : List W} {r : W} (H : IsHp ws) (hr : ws[0]? = some r) : ∀ (i : Nat) (z : W), ws[i]? = some z → leW r z := by
  intro i
  induction i using Nat.strongRecOn with
  | _ i ih =>
    intro z hz
    by_cases h0 : i = 0
    · subst h0; rw [hr] at hz; cases hz; exact leW_refl _
    · have hl : i < ws.length := (List.getElem?_eq_some_iff.mp hz).1
      have hp : ws[(i - 1) / 2]? = some ws[(i - 1) / 2] := List.getElem?_eq_getElem (by omega)
      exact leW_trans (ih _ (by omega) _ hp) (H i _ z (by omega) hp hz)
theorem hpush_spec {ws : List W} {x : W} (H : IsHp ws) : IsHp (hpush ws x) ∧ List.Perm (hpush ws x) (x :: ws) := by
  unfold hpush
  have hl : ws.length < (ws ++ [x]).length := by simp
  have hcut : ∀ i z, i ≠ ws.length → (ws ++ [x])[i]? = some z → ws[i]? = some z := by
    intro i z hne hz
    have := (List.getElem?_eq_some_iff.mp hz).1
    rw [List.length_append, List.length_singleton] at this
    rw [List.getElem?_append_left (by omega)] at hz
    exact hz
  refine ⟨sd_heap x _ _ hl ⟨fun i y z hi h1 h2 hy hz => H i y z hi (hcut _ _ h2 hy) (hcut _ _ h1 hz), fun i y z h1 hi h2 hy hz => ?_⟩ fun i z hi h2 hz => ?_, ?_⟩
  · have := (List.getElem?_eq_some_iff.mp hz).1
    rw [List.length_append, List.length_singleton] at this
    omega
  · have := (List.getElem?_eq_some_iff.mp hz).1
    rw [List.length_append, List.length_singleton] at this
    omega
  · refine (sd_perm x _ _ hl).trans ?_
    have e : (ws ++ [x]).set ws.length x = ws ++ [x] := by simp
    rw [e]
    exact List.perm_append_singleton x ws
theorem hpop_spec {ws : List W} {z : W} (H : IsHp (ws ++ [z])) : IsHp (hpopL ws z) ∧ List.Perm (hpopV ws z :: hpopL ws z) (ws ++ [z]) ∧ ∀ y ∈ hpopL ws z, leW (hpopV ws z) y := by
  cases ws with
  | nil => exact ⟨fun i y z hi hy hz => by simp [hpopL] at hz, List.Perm.refl _, fun y hy => by simp [hpopL] at hy⟩
  | cons r t =>
    have hroot : ((r :: t) ++ [z])[0]? = some r := rfl
    have hle := heap_root H hroot
    have hcut : ∀ i y, i ≠ 0 → ((r :: t).set 0 z)[i]? = some y → ((r :: t) ++ [z])[i]? = some y := by
      intro i y hi hy
      rw [List.getElem?_set_ne (by omega)] at hy
      have hlt := (List.getElem?_eq_some_iff.mp hy).1
      rw [List.getElem?_append_left hlt]; exact hy
    obtain ⟨h1, h2⟩ := su_spec (ws := (r :: t).set 0 z) (x := z) (by simp) ⟨fun i y a hi hn hp hy ha => H i y a hi (hcut _ _ hp hy) (hcut _ _ hn ha), fun i y a h => absurd h (by omega)⟩
    have e : ((r :: t).set 0 z).set 0 z = z :: t := rfl
    rw [e] at h2
    have hperm : List.Perm (r :: su ((r :: t).set 0 z) z) ((r :: t) ++ [z]) := by
      refine (List.Perm.cons r h2).trans (List.Perm.cons r ?_)
      exact (List.perm_append_singleton z t).symm
    refine ⟨h1, hperm, fun y hy => ?_⟩
    have hm : y ∈ (r :: t) ++ [z] := hperm.mem_iff.mp (List.mem_cons_of_mem _ hy)
    obtain ⟨i, hi⟩ := List.getElem?_of_mem hm
    exact hle i y hi
end
section
theorem ltW_irrefl (x : W) : ltW x x = false := by
  cases h : ltW x x with
  | false => rfl
  | true => rw [ltW_iff] at h; omega
theorem ltW_asymm {x y : W} (h : ltW x y = true) : ltW y x = false := by
  cases h' : ltW y x with
  | false => rfl
  | true => rw [ltW_iff] at h h'; omega
/-- the place in a sorted list is the number of those ahead -/
theorem sorted_idx {ps : List W} (hs : ps.Pairwise (fun a b => ltW a b = true)) {i : Nat} {e : W} (h : ps[i]? = some e) : ps.countP (fun y => ltW y e) = i := by
  obtain ⟨hi, he⟩ := List.getElem?_eq_some_iff.mp h
  have hsplit : ps = ps.take i ++ e :: ps.drop (i + 1) := by
    rw [← he, ← List.drop_eq_getElem_cons hi, List.take_append_drop]
  rw [hsplit] at hs
  rw [List.pairwise_append] at hs
  obtain ⟨_, h2, h3⟩ := hs
  rw [List.pairwise_cons] at h2
  rw [hsplit, List.countP_append, List.countP_cons]
  have c1 : (ps.take i).countP (fun y => ltW y e) = i := by
    rw [List.countP_eq_length.mpr fun y hy => h3 y hy e (List.mem_cons_self ..)]
    rw [List.length_take]; omega
  have c2 : (ps.drop (i + 1)).countP (fun y => ltW y e) = 0 := by
    rw [List.countP_eq_zero]
    intro y hy
    rw [ltW_asymm (h2.1 y hy)]; decide
  rw [c1, c2, ltW_irrefl]
  simp
/-- .. and so in any list of the same ones -/
theorem sorted_at {ps os : List W} (hs : ps.Pairwise (fun a b => ltW a b = true)) (hp : List.Perm ps os) {e : W} (he : e ∈ os) : ps[os.countP (fun y => ltW y e)]? = some e := by
  obtain ⟨i, hi⟩ := List.getElem?_of_mem (hp.mem_iff.mpr he)
  have := sorted_idx hs hi
  rw [← hp.countP_eq, this]
  exact hi
theorem count_pos {os : List W} (hk : ∀ (i : Nat) (y : W), os[i]? = some y → y.k = (i : Int)) {k : Nat} {e : W} (he : os[k]? = some e) :
    os.countP (fun y => ltW y e) = os.countP (fun y => decide (y.w < e.w)) + (os.take k).countP (fun y => decide (y.w = e.w)) := by
  obtain ⟨hi, hee⟩ := List.getElem?_eq_some_iff.mp he
  have hek : e.k = (k : Int) := hk _ _ he
  have hsplit : os = os.take k ++ e :: os.drop (k + 1) := by
    rw [← hee, ← List.drop_eq_getElem_cons hi, List.take_append_drop]
  have t1 : ∀ y ∈ os.take k, ltW y e = (decide (y.w < e.w) || decide (y.w = e.w)) := by
    intro y hy
    obtain ⟨j, hj⟩ := List.getElem?_of_mem hy
    have hjl := (List.getElem?_eq_some_iff.mp hj).1
    rw [List.length_take] at hjl
    rw [List.getElem?_take_of_lt (by omega)] at hj
    have hyk := hk _ _ hj
    rw [Bool.eq_iff_iff, ltW_iff]
    simp; omega
  have t2 : ∀ y ∈ os.drop (k + 1), ltW y e = decide (y.w < e.w) := by
    intro y hy
    obtain ⟨j, hj⟩ := List.getElem?_of_mem hy
    rw [List.getElem?_drop] at hj
    have hyk := hk _ _ hj
    rw [Bool.eq_iff_iff, ltW_iff]
    simp; omega
  have c1 : ∀ l : List W, l.countP (fun y => decide (y.w < e.w) || decide (y.w = e.w)) = l.countP (fun y => decide (y.w < e.w)) + l.countP (fun y => decide (y.w = e.w)) := by
    intro l
    induction l with
    | nil => rfl
    | cons a l ih =>
      rw [List.countP_cons, List.countP_cons, List.countP_cons, ih]
      by_cases h1 : a.w < e.w
      · have h2 : ¬ a.w = e.w := by omega
        simp [h1, h2]; omega
      · by_cases h2 : a.w = e.w
        · simp [h2]; omega
        · simp [h1, h2]
  have e1 : (os.take k).countP (fun y => ltW y e) = (os.take k).countP (fun y => decide (y.w < e.w)) + (os.take k).countP (fun y => decide (y.w = e.w)) := by
    rw [← c1]; exact List.countP_congr fun y hy => by rw [t1 y hy]
  have e2 : (os.drop (k + 1)).countP (fun y => ltW y e) = (os.drop (k + 1)).countP (fun y => decide (y.w < e.w)) := List.countP_congr fun y hy => by rw [t2 y hy]
  have l1 : os.countP (fun y => ltW y e) = (os.take k).countP (fun y => ltW y e) + (os.drop (k + 1)).countP (fun y => ltW y e) := by
    conv => lhs; rw [hsplit]
    rw [List.countP_append, List.countP_cons, ltW_irrefl]; simp
  have l2 : os.countP (fun y => decide (y.w < e.w)) = (os.take k).countP (fun y => decide (y.w < e.w)) + (os.drop (k + 1)).countP (fun y => decide (y.w < e.w)) := by
    conv => lhs; rw [hsplit]
    rw [List.countP_append, List.countP_cons]; simp
  omega
/-- the order list of _law_due after i turns -/
def ordL (n : Nat) (pos : Nat → Nat) : Nat → List (Option Nat)
  | 0 => List.replicate n none
  | i + 1 => (ordL n pos i).set (pos i) (some i)
theorem ordL_len (n : Nat) (pos : Nat → Nat) : ∀ i, (ordL n pos i).length = n
  | 0 => List.length_replicate
  | i + 1 => by rw [ordL, List.length_set, ordL_len n pos i]
theorem ordL_get {n : Nat} {pos : Nat → Nat} {ps : List Nat} (hl : ps.length = n) (hn : ps.Nodup) (hp : ∀ k, k < n → ps[pos k]? = some k) :
    ∀ (i : Nat), i ≤ n → ∀ (j k : Nat), ps[j]? = some k → (ordL n pos i)[j]? = some (if k < i then some k else none)
  | 0, _, j, k, hj => by
    have := (List.getElem?_eq_some_iff.mp hj).1
    rw [ordL, List.getElem?_replicate, if_pos (by omega), if_neg (by omega)]
  | i + 1, hi, j, k, hj => by
    have ih := ordL_get hl hn hp i (by omega) j k hj
    have hjl := (List.getElem?_eq_some_iff.mp hj).1
    have hpi := hp i (by omega)
    rw [ordL, List.getElem?_set]
    by_cases e : pos i = j
    · rw [e, hj] at hpi
      cases hpi
      rw [if_pos e, if_pos (by rw [ordL_len, e]; omega), if_pos (by omega)]
    · rw [if_neg e, ih]
      have hne : k ≠ i := by
        intro h
        subst h
        have h1 := (List.getElem?_eq_some_iff.mp hj)
        have h2 := (List.getElem?_eq_some_iff.mp hpi)
        rcases Nat.lt_trichotomy (pos k) j with hlt | heq | hgt
        · exact (List.pairwise_iff_getElem.mp hn _ _ h2.1 h1.1 hlt) (h2.2.trans h1.2.symm)
        · exact e heq
        · exact (List.pairwise_iff_getElem.mp hn _ _ h1.1 h2.1 hgt) (h1.2.trans h2.2.symm)
      by_cases hk : k < i
      · rw [if_pos hk, if_pos (by omega)]
      · rw [if_neg hk, if_neg (by omega)]
theorem ordL_all {n : Nat} {pos : Nat → Nat} {ps : List Nat} (hl : ps.length = n) (hn : ps.Nodup) (hb : ∀ k ∈ ps, k < n) (hp : ∀ k, k < n → ps[pos k]? = some k) : ordL n pos n = ps.map some := by
  apply List.ext_getElem?
  intro j
  rw [List.getElem?_map]
  cases h : ps[j]? with
  | none =>
    have := List.getElem?_eq_none_iff.mp h
    rw [List.getElem?_eq_none (by rw [ordL_len]; omega)]; rfl
  | some k =>
    rw [ordL_get hl hn hp n (Nat.le_refl _) j k h, if_pos (hb k (List.mem_of_getElem? h))]; rfl
end
section
def wth (x : Int) : Int := (x.fdiv 8).fmod 11
def posOf (ns : List Int) (k : Nat) : Nat := (ns.filter fun x => decide (wth (ns.getD k 0) < wth x)).length + ((ns.take k).map wth).count (wth (ns.getD k 0))
theorem count_two (c : Int) : ∀ l : List Int, (l.filter fun x => decide (c < wth x)).length + (l.map wth).count c ≤ l.length
  | [] => by simp
  | x :: l => by
    have ih := count_two c l
    by_cases h : c < wth x
    · have hne : ¬ (wth x = c) := by omega
      rw [List.filter_cons_of_pos (by simpa using h), List.map_cons, List.count_cons_of_ne (by simpa using hne)]
      simp only [List.length_cons]; omega
    · rw [List.filter_cons_of_neg (by simpa using h), List.map_cons, List.count_cons]
      simp only [List.length_cons]
      split <;> omega
theorem posOf_lt {ns : List Int} {k : Nat} (h : k < ns.length) : posOf ns k < ns.length := by
  have hx : ns.getD k 0 = ns[k] := by simp [List.getD, h]
  unfold posOf
  rw [hx]
  have e : ns = ns.take k ++ ns[k] :: ns.drop (k + 1) := by
    conv => lhs; rw [← List.take_append_drop k ns]
    rw [List.drop_eq_getElem_cons h]
  generalize hc : wth ns[k] = c
  have h1 : (ns.filter fun x => decide (c < wth x)).length = ((ns.take k).filter fun x => decide (c < wth x)).length + ((ns.drop (k + 1)).filter fun x => decide (c < wth x)).length := by
    conv => lhs; rw [e]
    rw [List.filter_append, List.filter_cons_of_neg (by simp [hc]), List.length_append]
  have h2 := count_two c (ns.take k)
  have h3 := List.length_filter_le (fun x => decide (c < wth x)) (ns.drop (k + 1))
  rw [List.length_drop] at h3
  rw [List.length_take] at h2
  omega
end
section
open PySem PySem.W PyProof.Rows PySem.Spec
theorem lk_hit {c : Prop} [Decidable c] {v : Value} {b : Option Value} (hc : c) : (if c then some v else b) = some v := if_pos hc
theorem lk_ne {c : Prop} [Decidable c] {u b : Option Value} {v : Value} (hn : ¬ c) (h : b = some v) : (if c then u else b) = some v := (if_neg hn).trans h
theorem lines_R4 : True := by
  k_with_none
  (k_with "om" => (with_reducible first | assumption | exact Nat.ne_of_lt ‹_› | exact Nat.ne_of_gt ‹_› | exact Ne.symm ‹_› | exact Mine.o_a ‹_› (by decide) | exact Mine.o_b ‹_› (by decide) | exact Mine.o_c ‹_› | exact Mine.o_le (n := 100) ‹_› (by decide) | exact Mine.o_le ‹_› (by decide) | exact Mine.o_l ‹_› (by decide) | exact Mine.o_1 (n := 100) ‹_› (by decide) | exact Mine.o_2 (n := 100) ‹_› (by decide) | exact Mine.o_lt (n := 100) ‹_› (by decide) | exact Mine.o_lt ‹_› (by decide) | exact Mine.o_ll ‹_› (by decide) | exact Mine.o_s ‹_› | exact Mine.o_n _ | exact Mine.o_0 _ | exact Mine.o_i ‹_› (by decide) | exact Mine.o_m ‹_› (by decide) | exact Mine.o_j (n := 100) ‹_› ‹_› (by decide) | exact Mine.o_k ‹_› ‹_› (by decide) | exact Mine.o_e (n := 100) ‹_› ‹_› (by decide) | exact Nat.ne_of_lt (by k_extra "cj") | exact Nat.ne_of_gt (by k_extra "cj") | exact Ne.symm (by k_extra "cj") | k_extra "cj" | fail))
  (k_with "cj" => (first | exact And.left ‹_› | exact Mine.c_2 ‹_› | exact Mine.c_3 ‹_› | exact Mine.c_4 ‹_› | exact Mine.c_5 ‹_› | exact Mine.c_6 ‹_› | exact Mine.c_7 ‹_› | exact Mine.c_8 ‹_› | exact Mine.c_9 ‹_› | exact And.right ‹_› | exact Mine.d_3 ‹_› | exact Mine.d_4 ‹_› | exact Mine.d_5 ‹_› | exact Mine.d_6 ‹_› | exact Mine.d_7 ‹_› | exact Mine.d_8 ‹_› | exact Mine.d_9 ‹_› | fail))
  (k_with "setItem ref int" => ((k_here; k_dflt (refine' set_led ?k1 ?k2 ?k3 ?k4 ?k5 ?k6 ?_; (case k1 => k_asm); (case k2 => k_asm); (case k3 => k_upd); (case k4 => first | with_reducible assumption | omega); (case k5 => first | with_reducible assumption | omega); (case k6 => first | with_reducible assumption | omega); k_whole); intro zqh' zqF' zqN'; (try dsimp only at zqN'); (try k_sweep))))
  (k_with "fn ctx" => (((case k1 => k_asm); (case k2 => k_asm); (case k3 => k_asm); (case k4 => k_asm); (case k5 => k_asm); (case kK => first | exact rfl | assumption); (case kd => ktr_room); (case ku => ktr_units))))
  (k_with "call ref" => ((k_here; (with_reducible show wpAny _ _ (call (Value.ref 228) _ _) _ _ _); k_dflt (refine' (law_kind).use ?k1 ?k2 ?k3 ?k4 ?k5 ?kK ?kd ?ku ?kz ?_; (walk_at "fn ctx"); (case kz => exact fun _ h => nomatch h); intro zqr9 zqh9 zqtk9 zqF9 zqN9 zqk9 zqho9; obtain ⟨zqt9, zqhr9⟩ := zqho9; subst zqhr9; (try dsimp only); (try k_sweep)))))
  (k_with "call ref" => ((k_here; (with_reducible show wpAny _ _ (call (Value.ref 235) _ _) _ _ _); k_dflt (refine' (law_worth).use ?k1 ?k2 ?k3 ?k4 ?k5 ?kK ?kd ?ku ?kz ?_; (walk_at "fn ctx"); (case kz => exact fun _ h => nomatch h); intro zqr9 zqh9 zqtk9 zqF9 zqN9 zqk9 zqho9; obtain ⟨zqt9, zqhr9⟩ := zqho9; subst zqhr9; (try dsimp only); (try k_sweep)))))
  (k_with "call builtin:len" => ((k_here; (with_reducible show wpAny _ _ (call (Value.builtin "len") [Value.ref _]) _ _ _); k_dflt (first | (refine' len_led ?k1 ?k2 ?k3 ?_; (case k1 => k_asm); (case k2 => k_mem); (case k3 => first | with_reducible assumption | omega | (simp only [List.size_toArray, List.length_map]; omega)); k_whole) | (refine' len_base ?k1 ?k2 ?k3 ?_; (case k1 => k_asm); (case k2 => with_reducible assumption); (case k3 => first | with_reducible assumption | omega); k_whole)))))
  (k_with "m look" => (first | with_reducible assumption | (with_reducible exact lk_hit rfl) | (with_reducible refine' lk_ne ?hh ?hv; (case hh => decide); (case hv => walk_at "m look"))))
  (k_with "eval Name" => ((k_here; k_dflt (refine' nameX_L ?F ?v ?_ ?a ?b; (case b => rfl); (case a => rfl); (case F => k_asm); (case v => walk_at "m look"); k_whole))))
  (k_with "subscriptTail Name Slice ref ref" => ((k_here; (with_reducible show wpAny _ _ (subscriptTail _ (PySem.Expr.Slice none (some _) none _) (Value.ref _) (Value.ref _)) _ _ _); k_dflt (refine' slice_to ?F ?N ?l ?z ?_ ?s ?t; (case F => k_asm); (case N => k_asm); (case l => with_reducible assumption); (case z => omega); (case s => with_unfolding_all rfl); (case t => kmk_pure)); intro zqD' zqh' zqF' zqN' zql1; (try k_lt zql1); (try k_sweep))))
  (k_with "call builtin:list.count" => ((k_here; (with_reducible show wpAny _ _ (call (Value.builtin _) [Value.ref _, Value.int _ _]) _ _ _); k_dflt (refine count_list_ints (by is_list) (intsAre_IT _) ?_))))
  (k_with "subscriptTail Name Name ref int" => ((k_here; k_dflt (refine' item_base ?k1 ?k2 ?k3 ?k4 ?k5 ?_ ?k7; (case k7 => with_unfolding_all rfl); (case k1 => k_asm); (case k2 => with_reducible assumption); (case k5 => with_reducible assumption); (case k3 => first | with_reducible assumption | omega); (case k4 => first | with_reducible assumption | omega); k_whole))))
  trivial
/-- an entry of the order list -/
abbrev OT := Option (Nat × Tok)
def OT.v : OT → Value
  | none => .none
  | some (k, t) => .int (k : Int) t
theorem ivals_get {xs : List IT} {i : Nat} {x : IT} (h : xs[i]? = some x) : (ivals xs)[((i : Nat) : Int).toNat]? = some (.int x.1 x.2) := by simp [ivals, h]
theorem rs_size (n : Nat) : Builtin.Range.rangeSize 0 (n : Int) 1 = (n : Int) := by rw [rangeSize_one]; split <;> omega
theorem rs_small {n : Nat} (h : n ≤ 1000) : Builtin.Range.small 0 (n : Int) 1 = true := small_one (by omega) (by omega) (by omega) (by omega)
theorem pick_to (its : Array Value) (i : Nat) : slicePick its none (some (i : Int)) none = (its.toList.take i).toArray := by
  have e : sliceBounds none (some (i : Int)) none its.size = (((0 : Nat) : Int), ((min i its.size : Nat) : Int), 1) := by
    simp only [sliceBounds, Option.getD_none, show (1 : Int) > 0 by decide, if_true, if_neg (show ¬ ((i : Int) < 0) by omega)]
    congr 1
    congr 1
    omega
  rw [kmk_pick_nat _ e]
  congr 1
  simp only [List.drop_zero, Nat.sub_zero]
  rw [← Array.length_toList, List.take_eq_take_iff]
  omega
theorem slice_to {prog : Program} {w : World} {A : Around} {E : Value → Shared → Prop} {s : Shared} {h₀ : Heap} {L l : Addr} {m : Str → Option Value} {news : List (Addr × Obj)} {value slice : PySem.Expr} {n : Nat} {xs : List IT} {Q : Value → Shared → Prop} {i : Nat} {t : Tok} (F : Fr h₀ L s.heap m) (N : News h₀ L s.heap news) (hg : h₀.get? l = some (lst (ivals xs) n)) (hz : xs.length < 2 ^ 20)
    (h : ∀ D h', Fr h₀ L h' m → News h₀ L h' ((D, listOf (ivals (xs.take i)) 0) :: news) → (∀ p ∈ news, p.1 < D) → Q (.ref D) { s with heap := h' })
    (hs : subscripted slice false (.ref l) (.ref s.heap.objs.size) = operate [.ref s.heap.objs.size, .ref l] (getItem (.ref l) (.ref s.heap.objs.size))) (ht : ∀ r, letTemporaryGo value (.ref l) r = pure ()) :
    wpAny (model prog w) A (subscriptTail value slice (.ref l) (.ref s.heap.objs.size)) Q E { s with heap := s.heap.push { cls := .type "slice", data := .fields #[.none, .int (i : Int) t, .none] } } := by
  refine kmk_slice (its := ivals xs) F N (PySem.IsL.isList (n := n) (F.keep _ _ hg)) IsPart.none (IsPart.int _ _) (fun D h' F' N' l1 => h D h' F' ?_ l1) hs ht (by rw [ivals_size, sizeLine_eq]; omega)
  rw [pick_to] at N'
  have e : ((ivals xs).toList.take i).toArray = ivals (xs.take i) := by simp [ivals, List.map_take]
  rw [e] at N'; exact N'
theorem intsAre_IT : ∀ us : List IT, IntsAre (us.map IT.v) (us.map (·.1))
  | [] => IntsAre.nil
  | x :: us => IntsAre.cons _ _ (intsAre_IT us)
def nums (xs : List IT) : List Int := xs.map (·.1)
def JFor (m₀ : Str → Option Value) (xs : List IT) (Do Dr : Addr) (zs : List ST) (L' : Addr) (c1 c2 c3 c5 : Obj) (i : Nat) (m : Str → Option Value) (news : Led) : Prop :=
  ∃ (ol : List OT) (n : Nat) (c4 : Obj) (v4 : Option Value), ol.map (Option.map (·.1)) = ordL xs.length (posOf (nums xs)) i ∧ c4.data = .cell v4 ∧ m (Str.ofString "order") = some (.ref Do) ∧
    news = [(Do, listOf (ol.map OT.v).toArray n), (Dr, LCg.lst (zs.map ST.v)), (L' + 1 + 1 + 1 + 1 + 1, c5), (L' + 1 + 1 + 1 + 1, c4), (L' + 1 + 1 + 1, c3), (L' + 1 + 1, c2), (L' + 1, c1)]
local macro_rules | `(tactic| k_ne) => `(tactic| (refine neN ?_; (try dsimp only); first | with_reducible assumption | exact fun e => absurd (Eq.symm e) (by with_reducible assumption) | omega))
section
variable {w : World} {mean : ExcName → Option Value} {mg mb : Str → Option Value} {dp un : Nat} {gd : Option (List Code)} {cn : Str} {cs : Scope} {a : Addr} {ccd : Value} {cl : List (Str × Addr)} {outer : List Env} {base g' : Heap} {L L' : Addr} {s : Shared} {Q : Flow → Shared → Prop} {E : Value → Shared → Prop} {m : Str → Option Value}
variable {nl tl : Addr} {n1 n2 : Nat} {xs : List IT} {th : List ST} {c1 c2 c3 c4 c5 : Obj}
set_option maxRecDepth 100000 in
set_option maxHeartbeats 8000000 in
theorem due_for (C : Ctx w mean mg mb dp un gd cn cs a ccd cl outer base g' L) (hb1 : g'.get? nl = some (lst (ivals xs) n1)) (hl1 : xs.length ≤ 100) {Do Dr : Addr} {zs : List ST} {n0 : Nat} {ol : List OT}
    (F : Fr g' L' s.heap m) (N : News g' L' s.heap [(Do, listOf (List.replicate xs.length Value.none).toArray n0), (Dr, LCg.lst (zs.map ST.v)), (L' + 1 + 1 + 1 + 1 + 1, c5), (L' + 1 + 1 + 1 + 1, c4), (L' + 1 + 1 + 1, c3), (L' + 1 + 1, c2), (L' + 1, c1)]) (d1 : c1.data = .cell (some (.ref nl))) {v4 : Option Value} (d4 : c4.data = .cell v4)
    (o1 : @LT.lt Nat _ (L' + 1 + 1 + 1 + 1 + 1) Do) (o2 : @LT.lt Nat _ Dr Do) (o3 : ∀ p ∈ [(L' + 1 + 1 + 1 + 1 + 1, c5), (L' + 1 + 1 + 1 + 1, c4), (L' + 1 + 1 + 1, c3), (L' + 1 + 1, c2), (L' + 1, c1)], p.1 ≠ Dr)  (hm : m (Str.ofString "order") = some (.ref Do)) (hE : PassesOwn (model PG w) ((ktrTop dp un gd cn cs L a ccd cl outer).deeper (dueEnv L')) (dueEnv L') E)
    (k : ∀ m' n' (ol : List OT) c4' v4' h tk, Fr g' L' h m' → m' (Str.ofString "order") = some (.ref Do) → News g' L' h [(Do, listOf (ol.map OT.v).toArray n'), (Dr, LCg.lst (zs.map ST.v)), (L' + 1 + 1 + 1 + 1 + 1, c5), (L' + 1 + 1 + 1 + 1, c4'), (L' + 1 + 1 + 1, c3), (L' + 1 + 1, c2), (L' + 1, c1)] → c4'.data = .cell v4' → ol.map (Option.map (·.1)) = ordL xs.length (posOf (nums xs)) xs.length → Q .next { s with heap := h, toks := tk }) :
    wpAny (model PG w) ((ktrTop dp un gd cn cs L a ccd cl outer).deeper (dueEnv L')) (exec dueSt2 (dueEnv L')) Q E s := by
  obtain ⟨B', X', T', hk, hdp, hun⟩ := C
  unfold dueSt2 dueEnv
  dsimp only [st0, tl0]

  have hz1 : ((ivals xs).size : Int) < 2 ^ 63 := by rw [ivals_size]; omega
  have hi1 : g'.IsList nl (ivals xs) := PySem.IsL.isList hb1
  refine wpAny_For ?_
  repeat' (first | (k_unfold; (try dsimp only)) | ((fail_if_success (with_reducible show wpAny _ _ (eval (Expr.ListComp _ _ _ _) _) _ _ _)); (fail_if_success (with_reducible show wpAny _ _ (exec (Stmt.Assign [_] (Expr.ListComp _ _ _ _) _) _) _ _ _)); (fail_if_success (with_reducible show LCt.CompSrcT _ _ _ _ _ _ _ _ _ _ _ _ _ _ _)); (fail_if_success (with_reducible show LCg.CompSrc _ _ _ _ _ _ _ _ _ _ _ _ _ _)); (fail_if_success (with_reducible show LCg.CompEnd _ _ _ _ _ _ _ _ _ _ _ _ _ _)); (fail_if_success (with_reducible show @ite _ _ _ _ _)); (fail_if_success (with_reducible show wpAny _ _ (pyIter _) _ _ _)); (fail_if_success (with_reducible show Q _ _)); (fail_if_success (with_reducible show UnrPost _ _ _ _ _ _ _ _ _)); walk1) | ((fail_if_success (with_reducible show wpAny _ _ (eval (Expr.ListComp _ _ _ _) _) _ _ _)); (fail_if_success (with_reducible show wpAny _ _ (exec (Stmt.Assign [_] (Expr.ListComp _ _ _ _) _) _) _ _ _)); (fail_if_success (with_reducible show LCt.CompSrcT _ _ _ _ _ _ _ _ _ _ _ _ _ _ _)); (fail_if_success (with_reducible show LCg.CompSrc _ _ _ _ _ _ _ _ _ _ _ _ _ _)); (fail_if_success (with_reducible show LCg.CompEnd _ _ _ _ _ _ _ _ _ _ _ _ _ _)); (fail_if_success (with_reducible show @ite _ _ _ _ _)); (fail_if_success (with_reducible show wpAny _ _ (pyIter _) _ _ _)); (fail_if_success (with_reducible show Q _ _)); (fail_if_success (with_reducible show UnrPost _ _ _ _ _ _ _ _ _)); dsimp only; walk1))

  rename Fr g' L' _ _ => kF9
  rename News g' L' _ _ => kN9
  rename IsRange _ _ _ _ _ _ _ _ => kR9
  refine iter_rangeAny (JFor m xs Do Dr zs L' c1 c2 c3 c5) rfl kR9 (rs_small (by rw [ivals_size]; omega)) (rs_size _) kF9 kN9 ⟨List.replicate xs.length none, n0, c4, v4, ?i1, d4, hm, ?i2⟩ ?turn ?fin hE
  case i1 => simp [ordL]
  case i2 => simp [OT.v]
  case fin =>
    rintro m' news ⟨ol, n, c4', v4', q1, q2, q3, rfl⟩ h tk F9 N9
    rw [ivals_size] at q1
    exact k _ _ _ _ _ _ _ F9 q3 N9 q2 q1
  case turn =>
    clear kF9 kN9 kR9
    rintro I i hi m' news off ⟨ol, n, c4', v4', q1, q2, q3, rfl⟩ t h tk F9 N9
    rw [ivals_size] at hi
    rw [Int.zero_add]
    obtain ⟨y, hy⟩ : ∃ y, xs[i]? = some y := ⟨_, List.getElem?_eq_getElem hi⟩
    have hxk := ivals_get hy
    have e0 : (0 : Int) ≤ (i : Int) := Int.natCast_nonneg _
    have e1 : (i : Int) < 2 ^ 63 := by omega
    have g1 : ¬ @Eq Nat (L' + 1 + 1 + 1 + 1 + 1) Do := by clear off; omega
    have g2 : ¬ @Eq Nat (L' + 1 + 1 + 1 + 1) Do := by clear off; omega
    have g3 : ¬ @Eq Nat (L' + 1 + 1 + 1) Do := by clear off; omega
    have g4 : ¬ @Eq Nat (L' + 1 + 1) Do := by clear off; omega
    have g5 : ¬ @Eq Nat (L' + 1) Do := by clear off; omega
    have g6 : ¬ @Eq Nat Dr Do := by clear off; omega
    have off' := allNe_of off
    simp only [AllNe, and_true] at off'
    obtain ⟨u1, u2, u3, u4, u5, u6, u7⟩ := off'
    have o3' := allNe_of o3
    simp only [AllNe, and_true] at o3'
    obtain ⟨v1, v2, v3, v4, v5⟩ := o3'
    repeat' (first | (k_unfold; (try dsimp only)) | ((fail_if_success (with_reducible show wpAny _ _ (eval (Expr.ListComp _ _ _ _) _) _ _ _)); (fail_if_success (with_reducible show wpAny _ _ (exec (Stmt.Assign [_] (Expr.ListComp _ _ _ _) _) _) _ _ _)); (fail_if_success (with_reducible show LCt.CompSrcT _ _ _ _ _ _ _ _ _ _ _ _ _ _ _)); (fail_if_success (with_reducible show LCg.CompSrc _ _ _ _ _ _ _ _ _ _ _ _ _ _)); (fail_if_success (with_reducible show LCg.CompEnd _ _ _ _ _ _ _ _ _ _ _ _ _ _)); (fail_if_success (with_reducible show @ite _ _ _ _ _)); (fail_if_success (with_reducible show wpAny _ _ (pyIter _) _ _ _)); (fail_if_success (with_reducible show Q _ _)); (fail_if_success (with_reducible show UnrPost _ _ _ _ _ _ _ _ _)); walk1) | ((fail_if_success (with_reducible show wpAny _ _ (eval (Expr.ListComp _ _ _ _) _) _ _ _)); (fail_if_success (with_reducible show wpAny _ _ (exec (Stmt.Assign [_] (Expr.ListComp _ _ _ _) _) _) _ _ _)); (fail_if_success (with_reducible show LCt.CompSrcT _ _ _ _ _ _ _ _ _ _ _ _ _ _ _)); (fail_if_success (with_reducible show LCg.CompSrc _ _ _ _ _ _ _ _ _ _ _ _ _ _)); (fail_if_success (with_reducible show LCg.CompEnd _ _ _ _ _ _ _ _ _ _ _ _ _ _)); (fail_if_success (with_reducible show @ite _ _ _ _ _)); (fail_if_success (with_reducible show wpAny _ _ (pyIter _) _ _ _)); (fail_if_success (with_reducible show Q _ _)); (fail_if_success (with_reducible show UnrPost _ _ _ _ _ _ _ _ _)); dsimp only; walk1))

    rename Fr g' L' _ _ => kF9
    refine LCt.Assign_ListComp_T (F₀ := kF9) (by rfl) (by with_unfolding_all rfl) (by with_unfolding_all rfl) (by decide) (by rfl) (by decide) (by rfl) (by rfl) (by rfl) ?_
    repeat' (first | (k_unfold; (try dsimp only)) | ((fail_if_success (with_reducible show wpAny _ _ (eval (Expr.ListComp _ _ _ _) _) _ _ _)); (fail_if_success (with_reducible show wpAny _ _ (exec (Stmt.Assign [_] (Expr.ListComp _ _ _ _) _) _) _ _ _)); (fail_if_success (with_reducible show LCt.CompSrcT _ _ _ _ _ _ _ _ _ _ _ _ _ _ _)); (fail_if_success (with_reducible show LCg.CompSrc _ _ _ _ _ _ _ _ _ _ _ _ _ _)); (fail_if_success (with_reducible show LCg.CompEnd _ _ _ _ _ _ _ _ _ _ _ _ _ _)); (fail_if_success (with_reducible show @ite _ _ _ _ _)); (fail_if_success (with_reducible show wpAny _ _ (pyIter _) _ _ _)); (fail_if_success (with_reducible show Q _ _)); (fail_if_success (with_reducible show UnrPost _ _ _ _ _ _ _ _ _)); walk1) | ((fail_if_success (with_reducible show wpAny _ _ (eval (Expr.ListComp _ _ _ _) _) _ _ _)); (fail_if_success (with_reducible show wpAny _ _ (exec (Stmt.Assign [_] (Expr.ListComp _ _ _ _) _) _) _ _ _)); (fail_if_success (with_reducible show LCt.CompSrcT _ _ _ _ _ _ _ _ _ _ _ _ _ _ _)); (fail_if_success (with_reducible show LCg.CompSrc _ _ _ _ _ _ _ _ _ _ _ _ _ _)); (fail_if_success (with_reducible show LCg.CompEnd _ _ _ _ _ _ _ _ _ _ _ _ _ _)); (fail_if_success (with_reducible show @ite _ _ _ _ _)); (fail_if_success (with_reducible show wpAny _ _ (pyIter _) _ _ _)); (fail_if_success (with_reducible show Q _ _)); (fail_if_success (with_reducible show UnrPost _ _ _ _ _ _ _ _ _)); dsimp only; walk1))

    rename News g' L' _ _ => kN9
    refine LCt.CompSrcT.base rfl kF9 kN9 hi1 (by rw [ivals_size, sizeLine_eq]; omega) (fun g => restT_ind (fun i ys news => news = [_, _, _, _, _, _, _, _] ∧ ys = ((xs.take i).filter fun x => decide (wth y.1 < wth x.1)).map IT.v) ?elem1 ?fin1 _ 0 [] _ (Nat.zero_add _) ⟨rfl, rfl⟩)
    case elem1 =>
      clear kF9 kN9
      intro i hi ys news hI v I oI C oC D m₂ h tk E' hP hNs hx F9 N9 off hne
      obtain ⟨rfl, rfl⟩ := hI
      have hi' : i < xs.length := by rw [← ivals_size]; exact hi
      have hk0 : xs[i]? = some xs[i] := List.getElem?_eq_getElem hi'
      generalize xs[i] = z at hk0
      have hv : v = .int z.1 z.2 := by have := hP; simp [ivals, hk0] at this; exact this.symm
      subst hv
      repeat' (first | (k_unfold; (try dsimp only)) | ((fail_if_success (with_reducible show wpAny _ _ (eval (Expr.ListComp _ _ _ _) _) _ _ _)); (fail_if_success (with_reducible show wpAny _ _ (exec (Stmt.Assign [_] (Expr.ListComp _ _ _ _) _) _) _ _ _)); (fail_if_success (with_reducible show LCt.CompSrcT _ _ _ _ _ _ _ _ _ _ _ _ _ _ _)); (fail_if_success (with_reducible show LCg.CompSrc _ _ _ _ _ _ _ _ _ _ _ _ _ _)); (fail_if_success (with_reducible show LCg.CompEnd _ _ _ _ _ _ _ _ _ _ _ _ _ _)); (fail_if_success (with_reducible show @ite _ _ _ _ _)); (fail_if_success (with_reducible show wpAny _ _ (pyIter _) _ _ _)); (fail_if_success (with_reducible show Q _ _)); (fail_if_success (with_reducible show UnrPost _ _ _ _ _ _ _ _ _)); walk1) | ((fail_if_success (with_reducible show wpAny _ _ (eval (Expr.ListComp _ _ _ _) _) _ _ _)); (fail_if_success (with_reducible show wpAny _ _ (exec (Stmt.Assign [_] (Expr.ListComp _ _ _ _) _) _) _ _ _)); (fail_if_success (with_reducible show LCt.CompSrcT _ _ _ _ _ _ _ _ _ _ _ _ _ _ _)); (fail_if_success (with_reducible show LCg.CompSrc _ _ _ _ _ _ _ _ _ _ _ _ _ _)); (fail_if_success (with_reducible show LCg.CompEnd _ _ _ _ _ _ _ _ _ _ _ _ _ _)); (fail_if_success (with_reducible show @ite _ _ _ _ _)); (fail_if_success (with_reducible show wpAny _ _ (pyIter _) _ _ _)); (fail_if_success (with_reducible show Q _ _)); (fail_if_success (with_reducible show UnrPost _ _ _ _ _ _ _ _ _)); dsimp only; walk1))

      have htake : xs.take (i + 1) = xs.take i ++ [z] := by rw [List.take_add_one, hk0]; rfl
      by_cases hq : decide (wth y.1 < wth z.1) = true
      · refine iteT hq ?_
        repeat' (first | (k_unfold; (try dsimp only)) | ((fail_if_success (with_reducible show wpAny _ _ (eval (Expr.ListComp _ _ _ _) _) _ _ _)); (fail_if_success (with_reducible show wpAny _ _ (exec (Stmt.Assign [_] (Expr.ListComp _ _ _ _) _) _) _ _ _)); (fail_if_success (with_reducible show LCt.CompSrcT _ _ _ _ _ _ _ _ _ _ _ _ _ _ _)); (fail_if_success (with_reducible show LCg.CompSrc _ _ _ _ _ _ _ _ _ _ _ _ _ _)); (fail_if_success (with_reducible show LCg.CompEnd _ _ _ _ _ _ _ _ _ _ _ _ _ _)); (fail_if_success (with_reducible show @ite _ _ _ _ _)); (fail_if_success (with_reducible show wpAny _ _ (pyIter _) _ _ _)); (fail_if_success (with_reducible show Q _ _)); (fail_if_success (with_reducible show UnrPost _ _ _ _ _ _ _ _ _)); walk1) | ((fail_if_success (with_reducible show wpAny _ _ (eval (Expr.ListComp _ _ _ _) _) _ _ _)); (fail_if_success (with_reducible show wpAny _ _ (exec (Stmt.Assign [_] (Expr.ListComp _ _ _ _) _) _) _ _ _)); (fail_if_success (with_reducible show LCt.CompSrcT _ _ _ _ _ _ _ _ _ _ _ _ _ _ _)); (fail_if_success (with_reducible show LCg.CompSrc _ _ _ _ _ _ _ _ _ _ _ _ _ _)); (fail_if_success (with_reducible show LCg.CompEnd _ _ _ _ _ _ _ _ _ _ _ _ _ _)); (fail_if_success (with_reducible show @ite _ _ _ _ _)); (fail_if_success (with_reducible show wpAny _ _ (pyIter _) _ _ _)); (fail_if_success (with_reducible show Q _ _)); (fail_if_success (with_reducible show UnrPost _ _ _ _ _ _ _ _ _)); dsimp only; walk1))

        rename Fr g' L' _ _ => kF9
        rename News g' L' _ _ => kN9
        exact LCg.CompEnd.intro kF9 kN9 _ (fun p hp => hp) off (.inl hi1) ⟨rfl, by simp only [htake, List.filter_append, List.map_append, List.filter_cons, List.filter_nil, hq]; simp⟩
      · refine iteF hq ?_
        rename Fr g' L' _ _ => kF9
        rename News g' L' _ _ => kN9
        exact LCg.CompEnd.intro kF9 kN9 _ (fun p hp => hp) off (.inl hi1) ⟨rfl, by simp only [htake, List.filter_append, List.map_append, List.filter_cons, List.filter_nil, hq]; simp⟩
    case fin1 =>
      clear kF9 kN9
      rintro ys news ⟨rfl, rfl⟩
      rw [ivals_size, List.take_length]
      intro D h tk F9 N9 off9
      dsimp only
      have offD := off9
      simp only [LCg.Off1, and_true] at offD
      have hfl := List.length_filter_le (fun x : IT => decide (wth y.1 < wth x.1)) xs
      repeat' (first | (k_unfold; (try dsimp only)) | ((fail_if_success (with_reducible show wpAny _ _ (eval (Expr.ListComp _ _ _ _) _) _ _ _)); (fail_if_success (with_reducible show wpAny _ _ (exec (Stmt.Assign [_] (Expr.ListComp _ _ _ _) _) _) _ _ _)); (fail_if_success (with_reducible show LCt.CompSrcT _ _ _ _ _ _ _ _ _ _ _ _ _ _ _)); (fail_if_success (with_reducible show LCg.CompSrc _ _ _ _ _ _ _ _ _ _ _ _ _ _)); (fail_if_success (with_reducible show LCg.CompEnd _ _ _ _ _ _ _ _ _ _ _ _ _ _)); (fail_if_success (with_reducible show @ite _ _ _ _ _)); (fail_if_success (with_reducible show wpAny _ _ (pyIter _) _ _ _)); (fail_if_success (with_reducible show Q _ _)); (fail_if_success (with_reducible show UnrPost _ _ _ _ _ _ _ _ _)); walk1) | ((fail_if_success (with_reducible show wpAny _ _ (eval (Expr.ListComp _ _ _ _) _) _ _ _)); (fail_if_success (with_reducible show wpAny _ _ (exec (Stmt.Assign [_] (Expr.ListComp _ _ _ _) _) _) _ _ _)); (fail_if_success (with_reducible show LCt.CompSrcT _ _ _ _ _ _ _ _ _ _ _ _ _ _ _)); (fail_if_success (with_reducible show LCg.CompSrc _ _ _ _ _ _ _ _ _ _ _ _ _ _)); (fail_if_success (with_reducible show LCg.CompEnd _ _ _ _ _ _ _ _ _ _ _ _ _ _)); (fail_if_success (with_reducible show @ite _ _ _ _ _)); (fail_if_success (with_reducible show wpAny _ _ (pyIter _) _ _ _)); (fail_if_success (with_reducible show Q _ _)); (fail_if_success (with_reducible show UnrPost _ _ _ _ _ _ _ _ _)); dsimp only; walk1))

      rename Fr g' L' _ _ => kF9
      refine LCg.ListComp_U (F₀ := kF9) (by with_unfolding_all rfl) (by decide) (by rfl) (by decide) (by rfl) ?_
      repeat' (first | (k_unfold; (try dsimp only)) | ((fail_if_success (with_reducible show wpAny _ _ (eval (Expr.ListComp _ _ _ _) _) _ _ _)); (fail_if_success (with_reducible show wpAny _ _ (exec (Stmt.Assign [_] (Expr.ListComp _ _ _ _) _) _) _ _ _)); (fail_if_success (with_reducible show LCt.CompSrcT _ _ _ _ _ _ _ _ _ _ _ _ _ _ _)); (fail_if_success (with_reducible show LCg.CompSrc _ _ _ _ _ _ _ _ _ _ _ _ _ _)); (fail_if_success (with_reducible show LCg.CompEnd _ _ _ _ _ _ _ _ _ _ _ _ _ _)); (fail_if_success (with_reducible show @ite _ _ _ _ _)); (fail_if_success (with_reducible show wpAny _ _ (pyIter _) _ _ _)); (fail_if_success (with_reducible show Q _ _)); (fail_if_success (with_reducible show UnrPost _ _ _ _ _ _ _ _ _)); walk1) | ((fail_if_success (with_reducible show wpAny _ _ (eval (Expr.ListComp _ _ _ _) _) _ _ _)); (fail_if_success (with_reducible show wpAny _ _ (exec (Stmt.Assign [_] (Expr.ListComp _ _ _ _) _) _) _ _ _)); (fail_if_success (with_reducible show LCt.CompSrcT _ _ _ _ _ _ _ _ _ _ _ _ _ _ _)); (fail_if_success (with_reducible show LCg.CompSrc _ _ _ _ _ _ _ _ _ _ _ _ _ _)); (fail_if_success (with_reducible show LCg.CompEnd _ _ _ _ _ _ _ _ _ _ _ _ _ _)); (fail_if_success (with_reducible show @ite _ _ _ _ _)); (fail_if_success (with_reducible show wpAny _ _ (pyIter _) _ _ _)); (fail_if_success (with_reducible show Q _ _)); (fail_if_success (with_reducible show UnrPost _ _ _ _ _ _ _ _ _)); dsimp only; walk1))

      rename Fr g' L' _ _ => kF9
      rename News g' L' _ _ => kN9
      refine LCg.CompSrc.ledger (its := ivals (xs.take i)) rfl kF9 kN9 (by k_mem) (by rw [ivals_size, sizeLine_eq, List.length_take]; omega) (fun g => rest_ind (fun j ys news => news = [_, _, _, _, _, _, _, _, _, _] ∧ ∃ us : List IT, ys = us.map IT.v ∧ us.map (·.1) = ((xs.take i).take j).map fun x => wth x.1) ?elem2 ?fin2 _ 0 [] _ (Nat.zero_add _) ⟨rfl, [], rfl, rfl⟩)
      case elem2 =>
        clear kF9 kN9
        intro j hj ys news hI v I oI C oC D m₂ h tk E' hP hNs hx F9 N9 off hne
        obtain ⟨rfl, us, rfl, hus⟩ := hI
        have hj' : j < (xs.take i).length := by rw [← ivals_size]; exact hj
        have hk0 : (xs.take i)[j]? = some (xs.take i)[j] := List.getElem?_eq_getElem hj'
        generalize (xs.take i)[j] = z at hk0
        have hv : v = .int z.1 z.2 := by have := hP; simp only [ivals, List.getElem?_toArray, List.getElem?_map, hk0] at this; simpa using this.symm
        subst hv
        repeat' (first | (k_unfold; (try dsimp only)) | ((fail_if_success (with_reducible show wpAny _ _ (eval (Expr.ListComp _ _ _ _) _) _ _ _)); (fail_if_success (with_reducible show wpAny _ _ (exec (Stmt.Assign [_] (Expr.ListComp _ _ _ _) _) _) _ _ _)); (fail_if_success (with_reducible show LCt.CompSrcT _ _ _ _ _ _ _ _ _ _ _ _ _ _ _)); (fail_if_success (with_reducible show LCg.CompSrc _ _ _ _ _ _ _ _ _ _ _ _ _ _)); (fail_if_success (with_reducible show LCg.CompEnd _ _ _ _ _ _ _ _ _ _ _ _ _ _)); (fail_if_success (with_reducible show @ite _ _ _ _ _)); (fail_if_success (with_reducible show wpAny _ _ (pyIter _) _ _ _)); (fail_if_success (with_reducible show Q _ _)); (fail_if_success (with_reducible show UnrPost _ _ _ _ _ _ _ _ _)); walk1) | ((fail_if_success (with_reducible show wpAny _ _ (eval (Expr.ListComp _ _ _ _) _) _ _ _)); (fail_if_success (with_reducible show wpAny _ _ (exec (Stmt.Assign [_] (Expr.ListComp _ _ _ _) _) _) _ _ _)); (fail_if_success (with_reducible show LCt.CompSrcT _ _ _ _ _ _ _ _ _ _ _ _ _ _ _)); (fail_if_success (with_reducible show LCg.CompSrc _ _ _ _ _ _ _ _ _ _ _ _ _ _)); (fail_if_success (with_reducible show LCg.CompEnd _ _ _ _ _ _ _ _ _ _ _ _ _ _)); (fail_if_success (with_reducible show @ite _ _ _ _ _)); (fail_if_success (with_reducible show wpAny _ _ (pyIter _) _ _ _)); (fail_if_success (with_reducible show Q _ _)); (fail_if_success (with_reducible show UnrPost _ _ _ _ _ _ _ _ _)); dsimp only; walk1))

        have htake : (xs.take i).take (j + 1) = (xs.take i).take j ++ [z] := by rw [List.take_add_one, hk0]; rfl
        rename Fr g' L' _ _ => kF9
        rename News g' L' _ _ => kN9
        exact LCg.CompEnd.intro kF9 kN9 _ (fun p hp => hp) off (.inr ⟨_, (by k_mem), rfl, _, rfl⟩) ⟨rfl, us ++ [(wth z.1, _)], by simp only [List.map_append, List.map_cons, List.map_nil]; rfl, by rw [htake]; simp only [List.map_append, List.map_cons, List.map_nil, hus]⟩
      case fin2 =>
        clear kF9 kN9
        rintro ys news ⟨rfl, us, rfl, hus⟩
        rw [ivals_size, List.take_length] at hus
        intro D2 h tk F9 N9 off92
        dsimp only
        have offD2 := off92
        simp only [LCg.Off1, and_true] at offD2
        obtain ⟨w1, w2, w3, w4, w5, w6, w7, w8, w9⟩ := offD2
        repeat' (first | (k_unfold; (try dsimp only)) | ((fail_if_success (with_reducible show wpAny _ _ (eval (Expr.ListComp _ _ _ _) _) _ _ _)); (fail_if_success (with_reducible show wpAny _ _ (exec (Stmt.Assign [_] (Expr.ListComp _ _ _ _) _) _) _ _ _)); (fail_if_success (with_reducible show LCt.CompSrcT _ _ _ _ _ _ _ _ _ _ _ _ _ _ _)); (fail_if_success (with_reducible show LCg.CompSrc _ _ _ _ _ _ _ _ _ _ _ _ _ _)); (fail_if_success (with_reducible show LCg.CompEnd _ _ _ _ _ _ _ _ _ _ _ _ _ _)); (fail_if_success (with_reducible show @ite _ _ _ _ _)); (fail_if_success (with_reducible show wpAny _ _ (pyIter _) _ _ _)); (fail_if_success (with_reducible show Q _ _)); (fail_if_success (with_reducible show UnrPost _ _ _ _ _ _ _ _ _)); walk1) | ((fail_if_success (with_reducible show wpAny _ _ (eval (Expr.ListComp _ _ _ _) _) _ _ _)); (fail_if_success (with_reducible show wpAny _ _ (exec (Stmt.Assign [_] (Expr.ListComp _ _ _ _) _) _) _ _ _)); (fail_if_success (with_reducible show LCt.CompSrcT _ _ _ _ _ _ _ _ _ _ _ _ _ _ _)); (fail_if_success (with_reducible show LCg.CompSrc _ _ _ _ _ _ _ _ _ _ _ _ _ _)); (fail_if_success (with_reducible show LCg.CompEnd _ _ _ _ _ _ _ _ _ _ _ _ _ _)); (fail_if_success (with_reducible show @ite _ _ _ _ _)); (fail_if_success (with_reducible show wpAny _ _ (pyIter _) _ _ _)); (fail_if_success (with_reducible show Q _ _)); (fail_if_success (with_reducible show UnrPost _ _ _ _ _ _ _ _ _)); dsimp only; walk1))

        have hpos : ((((xs.filter fun x : IT => decide (wth y.1 < wth x.1)).map IT.v).toArray.size : Int) + ((us.map (·.1)).count ((y.1.fdiv 8).fmod 11) : Nat)) = ((posOf (nums xs) i : Nat) : Int) := by
          have hg : (nums xs).getD i 0 = y.1 := by simp [nums, List.getD, hy]
          unfold posOf
          rw [hg, hus]
          simp only [nums, List.filter_map, List.length_map, List.size_toArray, List.map_take, List.map_map]
          push_cast
          rfl
        rw [hpos]
        have hpl : posOf (nums xs) i < xs.length := by have := posOf_lt (ns := nums xs) (k := i) (by simpa [nums] using hi); simpa [nums] using this
        have holl : ol.length = xs.length := by have := congrArg List.length q1; rw [ordL_len, List.length_map] at this; exact this
        have p0 : (0 : Int) ≤ ((posOf (nums xs) i : Nat) : Int) := Int.natCast_nonneg _
        have p1 : ((posOf (nums xs) i : Nat) : Int) < 2 ^ 63 := by omega
        have p2 : ((posOf (nums xs) i : Nat) : Int) < ((ol.map OT.v).toArray.size : Int) := by rw [List.size_toArray, List.length_map]; omega
        repeat' (first | (k_unfold; (try dsimp only)) | ((fail_if_success (with_reducible show wpAny _ _ (eval (Expr.ListComp _ _ _ _) _) _ _ _)); (fail_if_success (with_reducible show wpAny _ _ (exec (Stmt.Assign [_] (Expr.ListComp _ _ _ _) _) _) _ _ _)); (fail_if_success (with_reducible show LCt.CompSrcT _ _ _ _ _ _ _ _ _ _ _ _ _ _ _)); (fail_if_success (with_reducible show LCg.CompSrc _ _ _ _ _ _ _ _ _ _ _ _ _ _)); (fail_if_success (with_reducible show LCg.CompEnd _ _ _ _ _ _ _ _ _ _ _ _ _ _)); (fail_if_success (with_reducible show @ite _ _ _ _ _)); (fail_if_success (with_reducible show wpAny _ _ (pyIter _) _ _ _)); (fail_if_success (with_reducible show Q _ _)); (fail_if_success (with_reducible show UnrPost _ _ _ _ _ _ _ _ _)); walk1) | ((fail_if_success (with_reducible show wpAny _ _ (eval (Expr.ListComp _ _ _ _) _) _ _ _)); (fail_if_success (with_reducible show wpAny _ _ (exec (Stmt.Assign [_] (Expr.ListComp _ _ _ _) _) _) _ _ _)); (fail_if_success (with_reducible show LCt.CompSrcT _ _ _ _ _ _ _ _ _ _ _ _ _ _ _)); (fail_if_success (with_reducible show LCg.CompSrc _ _ _ _ _ _ _ _ _ _ _ _ _ _)); (fail_if_success (with_reducible show LCg.CompEnd _ _ _ _ _ _ _ _ _ _ _ _ _ _)); (fail_if_success (with_reducible show @ite _ _ _ _ _)); (fail_if_success (with_reducible show wpAny _ _ (pyIter _) _ _ _)); (fail_if_success (with_reducible show Q _ _)); (fail_if_success (with_reducible show UnrPost _ _ _ _ _ _ _ _ _)); dsimp only; walk1))

        rename Fr g' L' _ _ => kF9
        rename News g' L' _ _ => kN9
        have hset : (ol.map OT.v).toArray.setIfInBounds (((posOf (nums xs) i : Nat) : Int).toNat) (.int (i : Int) t) = ((ol.set (posOf (nums xs) i) (some (i, t))).map OT.v).toArray := by
          rw [Int.toNat_natCast]; simp [List.map_set, OT.v]
        rw [hset] at kN9
        exact ⟨_, _, _, _, rfl, kF9, cb_drop kN9 (by kcj_all), (List.forall_mem_cons.mpr ⟨u1, (List.forall_mem_cons.mpr ⟨u2, (List.forall_mem_cons.mpr ⟨u3, (List.forall_mem_cons.mpr ⟨u4, (List.forall_mem_cons.mpr ⟨u5, (List.forall_mem_cons.mpr ⟨u6, (List.forall_mem_cons.mpr ⟨u7, (List.forall_mem_nil _)⟩)⟩)⟩)⟩)⟩)⟩)⟩), ol.set (posOf (nums xs) i) (some (i, t)), n, _, _, by rw [ordL, List.map_set, q1]; rfl, (by assumption), lk_ne (by decide) q3, rfl⟩
end
end
section
open PySem PySem.W PyProof.Rows PySem.Spec
theorem lines_R5 : True := by
  k_with_none
  (k_with "om" => (with_reducible first | assumption | exact Nat.ne_of_lt ‹_› | exact Nat.ne_of_gt ‹_› | exact Ne.symm ‹_› | exact Mine.o_a ‹_› (by decide) | exact Mine.o_b ‹_› (by decide) | exact Mine.o_c ‹_› | exact Mine.o_le (n := 100) ‹_› (by decide) | exact Mine.o_le ‹_› (by decide) | exact Mine.o_l ‹_› (by decide) | exact Mine.o_1 (n := 100) ‹_› (by decide) | exact Mine.o_2 (n := 100) ‹_› (by decide) | exact Mine.o_lt (n := 100) ‹_› (by decide) | exact Mine.o_lt ‹_› (by decide) | exact Mine.o_ll ‹_› (by decide) | exact Mine.o_s ‹_› | exact Mine.o_n _ | exact Mine.o_0 _ | exact Mine.o_i ‹_› (by decide) | exact Mine.o_m ‹_› (by decide) | exact Mine.o_j (n := 100) ‹_› ‹_› (by decide) | exact Mine.o_k ‹_› ‹_› (by decide) | exact Mine.o_e (n := 100) ‹_› ‹_› (by decide) | exact Nat.ne_of_lt (by k_extra "cj") | exact Nat.ne_of_gt (by k_extra "cj") | exact Ne.symm (by k_extra "cj") | k_extra "cj" | fail))
  (k_with "cj" => (first | exact And.left ‹_› | exact Mine.c_2 ‹_› | exact Mine.c_3 ‹_› | exact Mine.c_4 ‹_› | exact Mine.c_5 ‹_› | exact Mine.c_6 ‹_› | exact Mine.c_7 ‹_› | exact Mine.c_8 ‹_› | exact Mine.c_9 ‹_› | exact And.right ‹_› | exact Mine.d_3 ‹_› | exact Mine.d_4 ‹_› | exact Mine.d_5 ‹_› | exact Mine.d_6 ‹_› | exact Mine.d_7 ‹_› | exact Mine.d_8 ‹_› | exact Mine.d_9 ‹_› | fail))
  (k_with "fn ctx" => (((case k1 => k_asm); (case k2 => k_asm); (case k3 => k_asm); (case k4 => k_asm); (case k5 => k_asm); (case kK => first | exact rfl | assumption); (case kd => ktr_room); (case ku => ktr_units))))
  (k_with "call ref" => ((k_here; (with_reducible show wpAny _ _ (call (Value.ref 228) _ _) _ _ _); k_dflt (refine' (law_kind).use ?k1 ?k2 ?k3 ?k4 ?k5 ?kK ?kd ?ku ?kz ?_; (walk_at "fn ctx"); (case kz => exact fun _ h => nomatch h); intro zqr9 zqh9 zqtk9 zqF9 zqN9 zqk9 zqho9; obtain ⟨zqt9, zqhr9⟩ := zqho9; subst zqhr9; (try dsimp only); (try k_sweep)))))
  (k_with "call ref" => ((k_here; (with_reducible show wpAny _ _ (call (Value.ref 235) _ _) _ _ _); k_dflt (refine' (law_worth).use ?k1 ?k2 ?k3 ?k4 ?k5 ?kK ?kd ?ku ?kz ?_; (walk_at "fn ctx"); (case kz => exact fun _ h => nomatch h); intro zqr9 zqh9 zqtk9 zqF9 zqN9 zqk9 zqho9; obtain ⟨zqt9, zqhr9⟩ := zqho9; subst zqhr9; (try dsimp only); (try k_sweep)))))
  (k_with "call builtin:len" => ((k_here; (with_reducible show wpAny _ _ (call (Value.builtin "len") [Value.ref _]) _ _ _); k_dflt (first | (refine' len_led ?k1 ?k2 ?k3 ?_; (case k1 => k_asm); (case k2 => k_mem); (case k3 => first | with_reducible assumption | omega | (simp only [List.size_toArray, List.length_map]; omega)); k_whole) | (refine' len_base ?k1 ?k2 ?k3 ?_; (case k1 => k_asm); (case k2 => with_reducible assumption); (case k3 => first | with_reducible assumption | omega); k_whole)))))
  (k_with "m look" => (first | with_reducible assumption | (with_reducible exact lk_hit rfl) | (with_reducible refine' lk_ne ?hh ?hv; (case hh => decide); (case hv => walk_at "m look"))))
  (k_with "eval Name" => ((k_here; k_dflt (refine' nameX_L ?F ?v ?_ ?a ?b; (case b => rfl); (case a => rfl); (case F => k_asm); (case v => walk_at "m look"); k_whole))))
  (k_with "compareOp NotEq ref ref" => ((k_here; (with_reducible show wpAny _ _ (compareOp CmpOp.NotEq (Value.ref _) (Value.ref _)) _ _ _); k_dflt (refine' ne_intsK (us := []) ?k1 ?k2 ?k3 IntsAre.nil ?k5 ?_; (case k1 => is_list); (case k2 => exact intsAre_IT _); (case k3 => is_list); (case k5 => ktr_units); k_whole))))
  trivial
def wished (ns : List Int) (k : Nat) : Bool := ns.any fun x => x.fmod 8 == (k : Int)
def kindsL (ns : List Int) : List Str := ((List.range 8).filter fun k => wished ns k).map fun (k : Nat) => kindS (k : Int)
theorem range_take : ∀ i, i ≤ 8 → (List.range 8).take i = List.range i := by decide
theorem filt_any (xs : List IT) (p : Int → Bool) : (!decide (((xs.filter fun x => p x.1).map (·.1)) = ([] : List Int))) = (nums xs).any p := by
  induction xs with
  | nil => rfl
  | cons x xs ih =>
    simp only [nums, List.map_cons, List.any_cons] at ih ⊢
    by_cases h : p x.1 = true
    · simp [h]
    · have e : (x :: xs).filter (fun x : IT => p x.1) = xs.filter (fun x : IT => p x.1) := List.filter_cons_of_neg (by simpa using h)
      rw [e, ih]; simp [h]
section
variable {w : World} {mean : ExcName → Option Value} {mg mb : Str → Option Value} {dp un : Nat} {gd : Option (List Code)} {cn : Str} {cs : Scope} {a : Addr} {ccd : Value} {cl : List (Str × Addr)} {outer : List Env} {base g' : Heap} {L L' : Addr} {s : Shared} {Q : Flow → Shared → Prop} {E : Value → Shared → Prop} {m : Str → Option Value}
variable {nl tl : Addr} {n1 n2 : Nat} {xs : List IT} {th : List ST} {c1 c2 c3 c4 c5 : Obj}
set_option maxRecDepth 100000 in
set_option maxHeartbeats 8000000 in
theorem due_kinds (C : Ctx w mean mg mb dp un gd cn cs a ccd cl outer base g' L) (hb1 : g'.get? nl = some (lst (ivals xs) n1)) (hl1 : xs.length ≤ 100) {oDo oDr : Obj} {Do Dr : Addr}
    (F : Fr g' L' s.heap m) (N : News g' L' s.heap [(Do, oDo), (Dr, oDr), (L' + 1 + 1 + 1 + 1 + 1, c5), (L' + 1 + 1 + 1 + 1, c4), (L' + 1 + 1 + 1, c3), (L' + 1 + 1, c2), (L' + 1, c1)]) (d1 : c1.data = .cell (some (.ref nl))) {v5 : Option Value} (d5 : c5.data = .cell v5)
    (o3 : ∀ p ∈ [(L' + 1 + 1 + 1 + 1 + 1, c5), (L' + 1 + 1 + 1 + 1, c4), (L' + 1 + 1 + 1, c3), (L' + 1 + 1, c2), (L' + 1, c1)], p.1 ≠ Dr) (o4 : ∀ p ∈ [(L' + 1 + 1 + 1 + 1 + 1, c5), (L' + 1 + 1 + 1 + 1, c4), (L' + 1 + 1 + 1, c3), (L' + 1 + 1, c2), (L' + 1, c1)], p.1 ≠ Do)
    (k : ∀ D (kz : List ST) c5' h tk, Fr g' L' h m → News g' L' h [(D, LCg.lst (kz.map ST.v)), (Do, oDo), (Dr, oDr), (L' + 1 + 1 + 1 + 1 + 1, c5'), (L' + 1 + 1 + 1 + 1, c4), (L' + 1 + 1 + 1, c3), (L' + 1 + 1, c2), (L' + 1, c1)] → c5'.data = .cell (some (.ref D)) → kz.map (·.1) = kindsL (nums xs) → LCg.Off1 D [(Do, oDo), (Dr, oDr), (L' + 1 + 1 + 1 + 1 + 1, c5), (L' + 1 + 1 + 1 + 1, c4), (L' + 1 + 1 + 1, c3), (L' + 1 + 1, c2), (L' + 1, c1)] → Q .next { s with heap := h, toks := tk }) :
    wpAny (model PG w) ((ktrTop dp un gd cn cs L a ccd cl outer).deeper (dueEnv L')) (exec dueSt3 (dueEnv L')) Q E s := by
  obtain ⟨B', X', T', hk, hdp, hun⟩ := C
  unfold dueSt3 dueEnv
  dsimp only [st0, tl0]

  have hz1 : ((ivals xs).size : Int) < 2 ^ 63 := by rw [ivals_size]; omega
  have hi1 : g'.IsList nl (ivals xs) := PySem.IsL.isList hb1
  repeat' (first | (k_unfold; (try dsimp only)) | ((fail_if_success (with_reducible show wpAny _ _ (eval (Expr.ListComp _ _ _ _) _) _ _ _)); (fail_if_success (with_reducible show LCt.CompSrcT _ _ _ _ _ _ _ _ _ _ _ _ _ _ _)); (fail_if_success (with_reducible show LCg.CompSrc _ _ _ _ _ _ _ _ _ _ _ _ _ _)); (fail_if_success (with_reducible show LCg.CompEnd _ _ _ _ _ _ _ _ _ _ _ _ _ _)); (fail_if_success (with_reducible show @ite _ _ _ _ _)); (fail_if_success (with_reducible show wpAny _ _ (pyIter _) _ _ _)); (fail_if_success (with_reducible show Q _ _)); (fail_if_success (with_reducible show UnrPost _ _ _ _ _ _ _ _ _)); walk1) | ((fail_if_success (with_reducible show wpAny _ _ (eval (Expr.ListComp _ _ _ _) _) _ _ _)); (fail_if_success (with_reducible show LCt.CompSrcT _ _ _ _ _ _ _ _ _ _ _ _ _ _ _)); (fail_if_success (with_reducible show LCg.CompSrc _ _ _ _ _ _ _ _ _ _ _ _ _ _)); (fail_if_success (with_reducible show LCg.CompEnd _ _ _ _ _ _ _ _ _ _ _ _ _ _)); (fail_if_success (with_reducible show @ite _ _ _ _ _)); (fail_if_success (with_reducible show wpAny _ _ (pyIter _) _ _ _)); (fail_if_success (with_reducible show Q _ _)); (fail_if_success (with_reducible show UnrPost _ _ _ _ _ _ _ _ _)); dsimp only; walk1))

  rename Fr g' L' _ _ => kF9
  refine ListComp_RC (F₀ := kF9) (by with_unfolding_all rfl) (by rfl) (by decide) (fun _ => rfl) (fun _ => rfl) (fun _ _ => rfl) ?_
  repeat' (first | (k_unfold; (try dsimp only)) | ((fail_if_success (with_reducible show wpAny _ _ (eval (Expr.ListComp _ _ _ _) _) _ _ _)); (fail_if_success (with_reducible show wpAny _ _ (exec (Stmt.Assign [_] (Expr.ListComp _ _ _ _) _) _) _ _ _)); (fail_if_success (with_reducible show LCt.CompSrcT _ _ _ _ _ _ _ _ _ _ _ _ _ _ _)); (fail_if_success (with_reducible show LCg.CompSrc _ _ _ _ _ _ _ _ _ _ _ _ _ _)); (fail_if_success (with_reducible show LCg.CompEnd _ _ _ _ _ _ _ _ _ _ _ _ _ _)); (fail_if_success (with_reducible show @ite _ _ _ _ _)); (fail_if_success (with_reducible show wpAny _ _ (pyIter _) _ _ _)); (fail_if_success (with_reducible show Q _ _)); (fail_if_success (with_reducible show UnrPost _ _ _ _ _ _ _ _ _)); (fail_if_success (with_reducible show ∃ _, _)); walk1) | ((fail_if_success (with_reducible show wpAny _ _ (eval (Expr.ListComp _ _ _ _) _) _ _ _)); (fail_if_success (with_reducible show wpAny _ _ (exec (Stmt.Assign [_] (Expr.ListComp _ _ _ _) _) _) _ _ _)); (fail_if_success (with_reducible show LCt.CompSrcT _ _ _ _ _ _ _ _ _ _ _ _ _ _ _)); (fail_if_success (with_reducible show LCg.CompSrc _ _ _ _ _ _ _ _ _ _ _ _ _ _)); (fail_if_success (with_reducible show LCg.CompEnd _ _ _ _ _ _ _ _ _ _ _ _ _ _)); (fail_if_success (with_reducible show @ite _ _ _ _ _)); (fail_if_success (with_reducible show wpAny _ _ (pyIter _) _ _ _)); (fail_if_success (with_reducible show Q _ _)); (fail_if_success (with_reducible show UnrPost _ _ _ _ _ _ _ _ _)); (fail_if_success (with_reducible show ∃ _, _)); dsimp only; walk1))

  rename Fr g' L' _ _ => kF9
  rename News g' L' _ _ => kN9
  rename IsRange _ _ _ _ _ _ _ _ => kR9
  refine ⟨_, 0, 8, _, _, _, 8, _, rfl, rfl, kF9, kN9, kR9, small_one (by omega) (by omega) (by omega) (by omega), rs_size 8, by rw [sizeLine_eq]; decide, fun i ys news => news = [_, _, _, _, _, _, _] ∧ ∃ kz : List ST, ys = kz.map ST.v ∧ kz.map (·.1) = ((List.range i).filter fun k => wished (nums xs) k).map fun (k : Nat) => kindS (k : Int), ⟨rfl, [], rfl, rfl⟩, ?elem, ?fin⟩
  case fin =>
    clear kF9 kN9 kR9
    rintro ys news ⟨rfl, kz, rfl, hkz⟩ D h tk F9 N9 off9
    have o3' := allNe_of o3
    simp only [AllNe, and_true] at o3'
    have o4' := allNe_of o4
    simp only [AllNe, and_true] at o4'
    have offD := allNe_of off9
    simp only [AllNe, and_true] at offD
    repeat' (first | (k_unfold; (try dsimp only)) | ((fail_if_success (with_reducible show wpAny _ _ (eval (Expr.ListComp _ _ _ _) _) _ _ _)); (fail_if_success (with_reducible show wpAny _ _ (exec (Stmt.Assign [_] (Expr.ListComp _ _ _ _) _) _) _ _ _)); (fail_if_success (with_reducible show LCt.CompSrcT _ _ _ _ _ _ _ _ _ _ _ _ _ _ _)); (fail_if_success (with_reducible show LCg.CompSrc _ _ _ _ _ _ _ _ _ _ _ _ _ _)); (fail_if_success (with_reducible show LCg.CompEnd _ _ _ _ _ _ _ _ _ _ _ _ _ _)); (fail_if_success (with_reducible show @ite _ _ _ _ _)); (fail_if_success (with_reducible show wpAny _ _ (pyIter _) _ _ _)); (fail_if_success (with_reducible show Q _ _)); (fail_if_success (with_reducible show UnrPost _ _ _ _ _ _ _ _ _)); (fail_if_success (with_reducible show ∃ _, _)); walk1) | ((fail_if_success (with_reducible show wpAny _ _ (eval (Expr.ListComp _ _ _ _) _) _ _ _)); (fail_if_success (with_reducible show wpAny _ _ (exec (Stmt.Assign [_] (Expr.ListComp _ _ _ _) _) _) _ _ _)); (fail_if_success (with_reducible show LCt.CompSrcT _ _ _ _ _ _ _ _ _ _ _ _ _ _ _)); (fail_if_success (with_reducible show LCg.CompSrc _ _ _ _ _ _ _ _ _ _ _ _ _ _)); (fail_if_success (with_reducible show LCg.CompEnd _ _ _ _ _ _ _ _ _ _ _ _ _ _)); (fail_if_success (with_reducible show @ite _ _ _ _ _)); (fail_if_success (with_reducible show wpAny _ _ (pyIter _) _ _ _)); (fail_if_success (with_reducible show Q _ _)); (fail_if_success (with_reducible show UnrPost _ _ _ _ _ _ _ _ _)); (fail_if_success (with_reducible show ∃ _, _)); dsimp only; walk1))

    rename Fr g' L' _ _ => kF9
    rename News g' L' _ _ => kN9
    refine k _ _ _ _ _ kF9 kN9 (by assumption) hkz ?_
    simp only [LCg.Off1, and_true]
    exact offD
  case elem =>
    clear kF9 kN9 kR9
    intro i hi ys news hI t I oI K oK C oC D h tk E' hK F9 N9 off hne
    obtain ⟨rfl, kz, rfl, hkz⟩ := hI
    rw [Int.zero_add] at hK
    repeat' (first | (k_unfold; (try dsimp only)) | ((fail_if_success (with_reducible show wpAny _ _ (eval (Expr.ListComp _ _ _ _) _) _ _ _)); (fail_if_success (with_reducible show wpAny _ _ (exec (Stmt.Assign [_] (Expr.ListComp _ _ _ _) _) _) _ _ _)); (fail_if_success (with_reducible show LCt.CompSrcT _ _ _ _ _ _ _ _ _ _ _ _ _ _ _)); (fail_if_success (with_reducible show LCg.CompSrc _ _ _ _ _ _ _ _ _ _ _ _ _ _)); (fail_if_success (with_reducible show LCg.CompEnd _ _ _ _ _ _ _ _ _ _ _ _ _ _)); (fail_if_success (with_reducible show @ite _ _ _ _ _)); (fail_if_success (with_reducible show wpAny _ _ (pyIter _) _ _ _)); (fail_if_success (with_reducible show Q _ _)); (fail_if_success (with_reducible show UnrPost _ _ _ _ _ _ _ _ _)); (fail_if_success (with_reducible show ∃ _, _)); walk1) | ((fail_if_success (with_reducible show wpAny _ _ (eval (Expr.ListComp _ _ _ _) _) _ _ _)); (fail_if_success (with_reducible show wpAny _ _ (exec (Stmt.Assign [_] (Expr.ListComp _ _ _ _) _) _) _ _ _)); (fail_if_success (with_reducible show LCt.CompSrcT _ _ _ _ _ _ _ _ _ _ _ _ _ _ _)); (fail_if_success (with_reducible show LCg.CompSrc _ _ _ _ _ _ _ _ _ _ _ _ _ _)); (fail_if_success (with_reducible show LCg.CompEnd _ _ _ _ _ _ _ _ _ _ _ _ _ _)); (fail_if_success (with_reducible show @ite _ _ _ _ _)); (fail_if_success (with_reducible show wpAny _ _ (pyIter _) _ _ _)); (fail_if_success (with_reducible show Q _ _)); (fail_if_success (with_reducible show UnrPost _ _ _ _ _ _ _ _ _)); (fail_if_success (with_reducible show ∃ _, _)); dsimp only; walk1))

    rename Fr g' L' _ _ => kF9
    refine LCt.ListComp_T (F₀ := kF9) (by with_unfolding_all rfl) (by decide) (by rfl) (by decide) (by rfl) ?_
    repeat' (first | (k_unfold; (try dsimp only)) | ((fail_if_success (with_reducible show wpAny _ _ (eval (Expr.ListComp _ _ _ _) _) _ _ _)); (fail_if_success (with_reducible show wpAny _ _ (exec (Stmt.Assign [_] (Expr.ListComp _ _ _ _) _) _) _ _ _)); (fail_if_success (with_reducible show LCt.CompSrcT _ _ _ _ _ _ _ _ _ _ _ _ _ _ _)); (fail_if_success (with_reducible show LCg.CompSrc _ _ _ _ _ _ _ _ _ _ _ _ _ _)); (fail_if_success (with_reducible show LCg.CompEnd _ _ _ _ _ _ _ _ _ _ _ _ _ _)); (fail_if_success (with_reducible show @ite _ _ _ _ _)); (fail_if_success (with_reducible show wpAny _ _ (pyIter _) _ _ _)); (fail_if_success (with_reducible show Q _ _)); (fail_if_success (with_reducible show UnrPost _ _ _ _ _ _ _ _ _)); (fail_if_success (with_reducible show ∃ _, _)); walk1) | ((fail_if_success (with_reducible show wpAny _ _ (eval (Expr.ListComp _ _ _ _) _) _ _ _)); (fail_if_success (with_reducible show wpAny _ _ (exec (Stmt.Assign [_] (Expr.ListComp _ _ _ _) _) _) _ _ _)); (fail_if_success (with_reducible show LCt.CompSrcT _ _ _ _ _ _ _ _ _ _ _ _ _ _ _)); (fail_if_success (with_reducible show LCg.CompSrc _ _ _ _ _ _ _ _ _ _ _ _ _ _)); (fail_if_success (with_reducible show LCg.CompEnd _ _ _ _ _ _ _ _ _ _ _ _ _ _)); (fail_if_success (with_reducible show @ite _ _ _ _ _)); (fail_if_success (with_reducible show wpAny _ _ (pyIter _) _ _ _)); (fail_if_success (with_reducible show Q _ _)); (fail_if_success (with_reducible show UnrPost _ _ _ _ _ _ _ _ _)); (fail_if_success (with_reducible show ∃ _, _)); dsimp only; walk1))

    rename News g' L' _ _ => kN9
    refine LCt.CompSrcT.base rfl kF9 kN9 hi1 (by rw [ivals_size, sizeLine_eq]; omega) (fun g => restT_ind (fun j ys news => news = [_, _, _, _, _, _, _, _, _, _, _] ∧ ys = ((xs.take j).filter fun x => x.1.fmod 8 == (i : Int)).map IT.v) ?elem1 ?fin1 _ 0 [] _ (Nat.zero_add _) ⟨rfl, rfl⟩)
    case elem1 =>
      clear kF9 kN9
      intro j hj ys news hI v I oI C oC D m₂ h tk E' hP hNs hx F9 N9 off hne
      obtain ⟨rfl, rfl⟩ := hI
      have hj' : j < xs.length := by rw [← ivals_size]; exact hj
      have hk0 : xs[j]? = some xs[j] := List.getElem?_eq_getElem hj'
      generalize xs[j] = z at hk0
      have hv : v = .int z.1 z.2 := by have := hP; simp [ivals, hk0] at this; exact this.symm
      subst hv
      repeat' (first | (k_unfold; (try dsimp only)) | ((fail_if_success (with_reducible show wpAny _ _ (eval (Expr.ListComp _ _ _ _) _) _ _ _)); (fail_if_success (with_reducible show wpAny _ _ (exec (Stmt.Assign [_] (Expr.ListComp _ _ _ _) _) _) _ _ _)); (fail_if_success (with_reducible show LCt.CompSrcT _ _ _ _ _ _ _ _ _ _ _ _ _ _ _)); (fail_if_success (with_reducible show LCg.CompSrc _ _ _ _ _ _ _ _ _ _ _ _ _ _)); (fail_if_success (with_reducible show LCg.CompEnd _ _ _ _ _ _ _ _ _ _ _ _ _ _)); (fail_if_success (with_reducible show @ite _ _ _ _ _)); (fail_if_success (with_reducible show wpAny _ _ (pyIter _) _ _ _)); (fail_if_success (with_reducible show Q _ _)); (fail_if_success (with_reducible show UnrPost _ _ _ _ _ _ _ _ _)); (fail_if_success (with_reducible show ∃ _, _)); walk1) | ((fail_if_success (with_reducible show wpAny _ _ (eval (Expr.ListComp _ _ _ _) _) _ _ _)); (fail_if_success (with_reducible show wpAny _ _ (exec (Stmt.Assign [_] (Expr.ListComp _ _ _ _) _) _) _ _ _)); (fail_if_success (with_reducible show LCt.CompSrcT _ _ _ _ _ _ _ _ _ _ _ _ _ _ _)); (fail_if_success (with_reducible show LCg.CompSrc _ _ _ _ _ _ _ _ _ _ _ _ _ _)); (fail_if_success (with_reducible show LCg.CompEnd _ _ _ _ _ _ _ _ _ _ _ _ _ _)); (fail_if_success (with_reducible show @ite _ _ _ _ _)); (fail_if_success (with_reducible show wpAny _ _ (pyIter _) _ _ _)); (fail_if_success (with_reducible show Q _ _)); (fail_if_success (with_reducible show UnrPost _ _ _ _ _ _ _ _ _)); (fail_if_success (with_reducible show ∃ _, _)); dsimp only; walk1))

      have htake : xs.take (j + 1) = xs.take j ++ [z] := by rw [List.take_add_one, hk0]; rfl
      by_cases hq : (z.1.fmod 8 == (i : Int)) = true
      · refine iteT hq ?_
        repeat' (first | (k_unfold; (try dsimp only)) | ((fail_if_success (with_reducible show wpAny _ _ (eval (Expr.ListComp _ _ _ _) _) _ _ _)); (fail_if_success (with_reducible show wpAny _ _ (exec (Stmt.Assign [_] (Expr.ListComp _ _ _ _) _) _) _ _ _)); (fail_if_success (with_reducible show LCt.CompSrcT _ _ _ _ _ _ _ _ _ _ _ _ _ _ _)); (fail_if_success (with_reducible show LCg.CompSrc _ _ _ _ _ _ _ _ _ _ _ _ _ _)); (fail_if_success (with_reducible show LCg.CompEnd _ _ _ _ _ _ _ _ _ _ _ _ _ _)); (fail_if_success (with_reducible show @ite _ _ _ _ _)); (fail_if_success (with_reducible show wpAny _ _ (pyIter _) _ _ _)); (fail_if_success (with_reducible show Q _ _)); (fail_if_success (with_reducible show UnrPost _ _ _ _ _ _ _ _ _)); (fail_if_success (with_reducible show ∃ _, _)); walk1) | ((fail_if_success (with_reducible show wpAny _ _ (eval (Expr.ListComp _ _ _ _) _) _ _ _)); (fail_if_success (with_reducible show wpAny _ _ (exec (Stmt.Assign [_] (Expr.ListComp _ _ _ _) _) _) _ _ _)); (fail_if_success (with_reducible show LCt.CompSrcT _ _ _ _ _ _ _ _ _ _ _ _ _ _ _)); (fail_if_success (with_reducible show LCg.CompSrc _ _ _ _ _ _ _ _ _ _ _ _ _ _)); (fail_if_success (with_reducible show LCg.CompEnd _ _ _ _ _ _ _ _ _ _ _ _ _ _)); (fail_if_success (with_reducible show @ite _ _ _ _ _)); (fail_if_success (with_reducible show wpAny _ _ (pyIter _) _ _ _)); (fail_if_success (with_reducible show Q _ _)); (fail_if_success (with_reducible show UnrPost _ _ _ _ _ _ _ _ _)); (fail_if_success (with_reducible show ∃ _, _)); dsimp only; walk1))

        rename Fr g' L' _ _ => kF9
        rename News g' L' _ _ => kN9
        exact LCg.CompEnd.intro kF9 kN9 _ (fun p hp => hp) off (.inl hi1) ⟨rfl, by simp only [htake, List.filter_append, List.map_append, List.filter_cons, List.filter_nil, hq]; simp⟩
      · refine iteF hq ?_
        rename Fr g' L' _ _ => kF9
        rename News g' L' _ _ => kN9
        exact LCg.CompEnd.intro kF9 kN9 _ (fun p hp => hp) off (.inl hi1) ⟨rfl, by simp only [htake, List.filter_append, List.map_append, List.filter_cons, List.filter_nil, hq]; simp⟩
    case fin1 =>
      clear kF9 kN9
      rintro ys news ⟨rfl, rfl⟩
      rw [ivals_size, List.take_length]
      intro D2 h tk F9 N9 off9
      dsimp only
      repeat' (first | (k_unfold; (try dsimp only)) | ((fail_if_success (with_reducible show wpAny _ _ (eval (Expr.ListComp _ _ _ _) _) _ _ _)); (fail_if_success (with_reducible show wpAny _ _ (exec (Stmt.Assign [_] (Expr.ListComp _ _ _ _) _) _) _ _ _)); (fail_if_success (with_reducible show LCt.CompSrcT _ _ _ _ _ _ _ _ _ _ _ _ _ _ _)); (fail_if_success (with_reducible show LCg.CompSrc _ _ _ _ _ _ _ _ _ _ _ _ _ _)); (fail_if_success (with_reducible show LCg.CompEnd _ _ _ _ _ _ _ _ _ _ _ _ _ _)); (fail_if_success (with_reducible show @ite _ _ _ _ _)); (fail_if_success (with_reducible show wpAny _ _ (pyIter _) _ _ _)); (fail_if_success (with_reducible show Q _ _)); (fail_if_success (with_reducible show UnrPost _ _ _ _ _ _ _ _ _)); (fail_if_success (with_reducible show ∃ _, _)); walk1) | ((fail_if_success (with_reducible show wpAny _ _ (eval (Expr.ListComp _ _ _ _) _) _ _ _)); (fail_if_success (with_reducible show wpAny _ _ (exec (Stmt.Assign [_] (Expr.ListComp _ _ _ _) _) _) _ _ _)); (fail_if_success (with_reducible show LCt.CompSrcT _ _ _ _ _ _ _ _ _ _ _ _ _ _ _)); (fail_if_success (with_reducible show LCg.CompSrc _ _ _ _ _ _ _ _ _ _ _ _ _ _)); (fail_if_success (with_reducible show LCg.CompEnd _ _ _ _ _ _ _ _ _ _ _ _ _ _)); (fail_if_success (with_reducible show @ite _ _ _ _ _)); (fail_if_success (with_reducible show wpAny _ _ (pyIter _) _ _ _)); (fail_if_success (with_reducible show Q _ _)); (fail_if_success (with_reducible show UnrPost _ _ _ _ _ _ _ _ _)); (fail_if_success (with_reducible show ∃ _, _)); dsimp only; walk1))

      have hrr : (List.range (i + 1)).filter (fun k => wished (nums xs) k) = (List.range i).filter (fun k => wished (nums xs) k) ++ (if wished (nums xs) i = true then [i] else []) := by
        rw [List.range_succ, List.filter_append]; by_cases hw : wished (nums xs) i = true <;> simp [hw]
      have hfa := filt_any xs (fun x => x.fmod 8 == (i : Int))
      by_cases hq : wished (nums xs) i = true
      · refine iteT (by rw [hfa]; exact hq) ?_
        repeat' (first | (k_unfold; (try dsimp only)) | ((fail_if_success (with_reducible show wpAny _ _ (eval (Expr.ListComp _ _ _ _) _) _ _ _)); (fail_if_success (with_reducible show wpAny _ _ (exec (Stmt.Assign [_] (Expr.ListComp _ _ _ _) _) _) _ _ _)); (fail_if_success (with_reducible show LCt.CompSrcT _ _ _ _ _ _ _ _ _ _ _ _ _ _ _)); (fail_if_success (with_reducible show LCg.CompSrc _ _ _ _ _ _ _ _ _ _ _ _ _ _)); (fail_if_success (with_reducible show LCg.CompEnd _ _ _ _ _ _ _ _ _ _ _ _ _ _)); (fail_if_success (with_reducible show @ite _ _ _ _ _)); (fail_if_success (with_reducible show wpAny _ _ (pyIter _) _ _ _)); (fail_if_success (with_reducible show Q _ _)); (fail_if_success (with_reducible show UnrPost _ _ _ _ _ _ _ _ _)); (fail_if_success (with_reducible show ∃ _, _)); walk1) | ((fail_if_success (with_reducible show wpAny _ _ (eval (Expr.ListComp _ _ _ _) _) _ _ _)); (fail_if_success (with_reducible show wpAny _ _ (exec (Stmt.Assign [_] (Expr.ListComp _ _ _ _) _) _) _ _ _)); (fail_if_success (with_reducible show LCt.CompSrcT _ _ _ _ _ _ _ _ _ _ _ _ _ _ _)); (fail_if_success (with_reducible show LCg.CompSrc _ _ _ _ _ _ _ _ _ _ _ _ _ _)); (fail_if_success (with_reducible show LCg.CompEnd _ _ _ _ _ _ _ _ _ _ _ _ _ _)); (fail_if_success (with_reducible show @ite _ _ _ _ _)); (fail_if_success (with_reducible show wpAny _ _ (pyIter _) _ _ _)); (fail_if_success (with_reducible show Q _ _)); (fail_if_success (with_reducible show UnrPost _ _ _ _ _ _ _ _ _)); (fail_if_success (with_reducible show ∃ _, _)); dsimp only; walk1))

        rename Fr g' L' _ _ => kF9
        rename News g' L' _ _ => kN9
        exact ⟨_, _, _, rfl, kF9, cb_drop kN9 (by kcj_all), off, rfl, kz ++ [(kindS (i : Int), _)], by simp only [List.map_append, List.map_cons, List.map_nil]; rfl, by rw [hrr, if_pos hq]; simp only [List.map_append, List.map_cons, List.map_nil, hkz]⟩
      · refine iteF (by rw [hfa]; exact hq) ?_
        rename Fr g' L' _ _ => kF9
        rename News g' L' _ _ => kN9
        exact ⟨_, _, _, rfl, kF9, cb_drop kN9 (by kcj_all), off, rfl, kz, rfl, by rw [hrr, if_neg hq, List.append_nil, hkz]⟩
end
end
section
open PySem PySem.W PyProof.Rows PySem.Spec
theorem lines_R6 : True := by
  k_with_none
  (k_with "om" => (with_reducible first | assumption | exact Nat.ne_of_lt ‹_› | exact Nat.ne_of_gt ‹_› | exact Ne.symm ‹_› | exact Mine.o_a ‹_› (by decide) | exact Mine.o_b ‹_› (by decide) | exact Mine.o_c ‹_› | exact Mine.o_le (n := 100) ‹_› (by decide) | exact Mine.o_le ‹_› (by decide) | exact Mine.o_l ‹_› (by decide) | exact Mine.o_1 (n := 100) ‹_› (by decide) | exact Mine.o_2 (n := 100) ‹_› (by decide) | exact Mine.o_lt (n := 100) ‹_› (by decide) | exact Mine.o_lt ‹_› (by decide) | exact Mine.o_ll ‹_› (by decide) | exact Mine.o_s ‹_› | exact Mine.o_n _ | exact Mine.o_0 _ | exact Mine.o_i ‹_› (by decide) | exact Mine.o_m ‹_› (by decide) | exact Mine.o_j (n := 100) ‹_› ‹_› (by decide) | exact Mine.o_k ‹_› ‹_› (by decide) | exact Mine.o_e (n := 100) ‹_› ‹_› (by decide) | exact Nat.ne_of_lt (by k_extra "cj") | exact Nat.ne_of_gt (by k_extra "cj") | exact Ne.symm (by k_extra "cj") | k_extra "cj" | fail))
  (k_with "cj" => (first | exact And.left ‹_› | exact Mine.c_2 ‹_› | exact Mine.c_3 ‹_› | exact Mine.c_4 ‹_› | exact Mine.c_5 ‹_› | exact Mine.c_6 ‹_› | exact Mine.c_7 ‹_› | exact Mine.c_8 ‹_› | exact Mine.c_9 ‹_› | exact And.right ‹_› | exact Mine.d_3 ‹_› | exact Mine.d_4 ‹_› | exact Mine.d_5 ‹_› | exact Mine.d_6 ‹_› | exact Mine.d_7 ‹_› | exact Mine.d_8 ‹_› | exact Mine.d_9 ‹_› | fail))
  (k_with "fn ctx" => (((case k1 => k_asm); (case k2 => k_asm); (case k3 => k_asm); (case k4 => k_asm); (case k5 => k_asm); (case kK => first | exact rfl | assumption); (case kd => ktr_room); (case ku => ktr_units))))
  (k_with "call ref" => ((k_here; (with_reducible show wpAny _ _ (call (Value.ref 228) _ _) _ _ _); k_dflt (refine' (law_kind).use ?k1 ?k2 ?k3 ?k4 ?k5 ?kK ?kd ?ku ?kz ?_; (walk_at "fn ctx"); (case kz => exact fun _ h => nomatch h); intro zqr9 zqh9 zqtk9 zqF9 zqN9 zqk9 zqho9; obtain ⟨zqt9, zqhr9⟩ := zqho9; subst zqhr9; (try dsimp only); (try k_sweep)))))
  (k_with "call ref" => ((k_here; (with_reducible show wpAny _ _ (call (Value.ref 235) _ _) _ _ _); k_dflt (refine' (law_worth).use ?k1 ?k2 ?k3 ?k4 ?k5 ?kK ?kd ?ku ?kz ?_; (walk_at "fn ctx"); (case kz => exact fun _ h => nomatch h); intro zqr9 zqh9 zqtk9 zqF9 zqN9 zqk9 zqho9; obtain ⟨zqt9, zqhr9⟩ := zqho9; subst zqhr9; (try dsimp only); (try k_sweep)))))
  (k_with "call builtin:len" => ((k_here; (with_reducible show wpAny _ _ (call (Value.builtin "len") [Value.ref _]) _ _ _); k_dflt (first | (refine' len_led ?k1 ?k2 ?k3 ?_; (case k1 => k_asm); (case k2 => k_mem); (case k3 => first | with_reducible assumption | omega | (simp only [List.size_toArray, List.length_map]; omega)); k_whole) | (refine' len_base ?k1 ?k2 ?k3 ?_; (case k1 => k_asm); (case k2 => with_reducible assumption); (case k3 => first | with_reducible assumption | omega); k_whole)))))
  (k_with "m look" => (first | with_reducible assumption | (with_reducible exact lk_hit rfl) | (with_reducible refine' lk_ne ?hh ?hv; (case hh => decide); (case hv => walk_at "m look"))))
  (k_with "eval Name" => ((k_here; k_dflt (refine' nameX_L ?F ?v ?_ ?a ?b; (case b => rfl); (case a => rfl); (case F => k_asm); (case v => walk_at "m look"); k_whole))))
  (k_with "subscriptTail Name Name ref int" => ((k_here; k_dflt (refine' item_led ?k1 ?k2 ?k3 ?k4 ?k5 ?_ ?k7; (case k7 => with_unfolding_all rfl); (case k1 => k_asm); (case k2 => k_mem); (case k5 => with_reducible assumption); (case k3 => first | with_reducible assumption | omega); (case k4 => first | with_reducible assumption | omega); k_whole))))
  (k_with "subscriptTail Name Name ref int" => ((k_here; k_dflt (refine' item_base ?k1 ?k2 ?k3 ?k4 ?k5 ?_ ?k7; (case k7 => with_unfolding_all rfl); (case k1 => k_asm); (case k2 => with_reducible assumption); (case k5 => with_reducible assumption); (case k3 => first | with_reducible assumption | omega); (case k4 => first | with_reducible assumption | omega); k_whole))))
  (k_with "subscriptTail" => ((k_here; (with_reducible show wpAny _ _ (subscriptTail _ _ (Value.ref _) (Value.int (Int.fmod (Int.fdiv _ 88) 3) _)) _ _ _); k_dflt (refine' item_acc ?k1 ?k2 ?_ ?k7; (case k7 => with_unfolding_all rfl); (case k1 => k_asm); (case k2 => k_mem); k_whole; intro zqt9))))
  trivial
def accS (x : Int) : Str := if (x.fdiv 88).fmod 3 = 0 then Str.ofString "Accept" else if (x.fdiv 88).fmod 3 = 1 then Str.ofString "ACCEPT" else Str.ofString "accept"
theorem item_acc {prog : Program} {w : World} {A : Around} {E : Value → Shared → Prop} {s : Shared} {h₀ : Heap} {L l : Addr} {news : List (Addr × Obj)} {n : Nat} {x : Int} {u t1 t2 t3 : Tok} {value slice : PySem.Expr} {Q : Value → Shared → Prop} (N : News h₀ L s.heap news) (hm : (l, listOf #[.str (Str.ofString "Accept") t1, .str (Str.ofString "ACCEPT") t2, .str (Str.ofString "accept") t3] n) ∈ news) (h : ∀ t, Q (.str (accS x) t) s)
    (hs : subscripted slice false (.ref l) (.int ((x.fdiv 88).fmod 3) u) = operate [.ref l, .int ((x.fdiv 88).fmod 3) u] (getItem (.ref l) (.int ((x.fdiv 88).fmod 3) u)) := by with_unfolding_all rfl) :
    wpAny (model prog w) A (subscriptTail value slice (.ref l) (.int ((x.fdiv 88).fmod 3) u)) Q E s := by
  obtain ⟨c, hc⟩ := fmod_fin (x.fdiv 88) 3 (by decide)
  have hc' : (x.fdiv 88).fmod 3 = ((c : Nat) : Int) := hc
  have key : ∃ t, (#[.str (Str.ofString "Accept") t1, .str (Str.ofString "ACCEPT") t2, .str (Str.ofString "accept") t3] : Array Value)[((x.fdiv 88).fmod 3).toNat]? = some (.str (accS x) t) := by
    unfold accS
    rw [hc', Int.toNat_natCast]
    rcases c with ⟨c, h3⟩
    rcases c with _ | _ | _ | c
    · exact ⟨t1, rfl⟩
    · exact ⟨t2, rfl⟩
    · exact ⟨t3, rfl⟩
    · omega
  obtain ⟨t, ht⟩ := key
  exact item_led N hm (by rw [hc']; exact Int.natCast_nonneg _) (by rw [hc']; have := c.2; omega) ht (h t) hs
/-- a pair of texts as a tuple -/
structure Pr where
  a : Addr
  x : Str
  tx : Tok
  y : Str
  ty : Tok
abbrev Pr.o (p : Pr) : Obj := tup2 (.str p.x p.tx) (.str p.y p.ty)
abbrev Pr.v (p : Pr) : Value := .ref p.a
abbrev Pr.e (p : Pr) : Addr × Obj := (p.a, p.o)
theorem pr_end {h₀ : Heap} {L I C D T : Addr} {m : Str → Option Value} {s₁ : Shared} {oI oC oD : Obj} {S : List (Addr × Obj) → Prop} {rest : Value → List (Addr × Obj) → Prop} {h' : Heap} {tk : Nat} {e1 : Addr × Obj} (front : Led) {ps : List Pr} {x y : Str} {tx ty : Tok}
    (F : Fr h₀ L h' m) (N : News h₀ L h' ((T, tup2 (.str x tx) (.str y ty)) :: e1 :: (I, oI) :: (C, oC) :: (D, oD) :: (front ++ ps.map Pr.e))) (off : LCg.Off3 I C D (front ++ ps.map Pr.e)) (hT : @LT.lt Nat _ I T ∧ @LT.lt Nat _ C T ∧ @LT.lt Nat _ D T) (hS : S (front ++ (ps ++ [(⟨T, x, tx, y, ty⟩ : Pr)]).map Pr.e))
    (r : rest (.ref T) (front ++ (ps ++ [(⟨T, x, tx, y, ty⟩ : Pr)]).map Pr.e)) : LCg.CompEnd h₀ L m s₁ I oI C oC D oD S rest (.ref T) { s₁ with heap := h', toks := tk } := by
  refine LCg.CompEnd.intro F N _ (fun p hp => ?_) (LCg.Off3.of fun p hp => ?_) hS r
  · simp only [List.map_append, List.map_cons, List.map_nil, List.mem_cons, List.mem_append, List.not_mem_nil, or_false] at hp ⊢
    rcases hp with hp | hp | hp | hp | hp | hp
    · exact .inr (.inr (.inl hp))
    · exact .inr (.inr (.inr (.inl hp)))
    · exact .inr (.inr (.inr (.inr (.inl hp))))
    · exact .inr (.inr (.inr (.inr (.inr (.inl hp)))))
    · exact .inr (.inr (.inr (.inr (.inr (.inr hp)))))
    · exact .inl hp
  · simp only [List.map_append, List.map_cons, List.map_nil, List.mem_cons, List.mem_append, List.not_mem_nil, or_false] at hp
    rcases hp with hp | hp | hp
    · exact off.mem p (List.mem_append.mpr (.inl hp))
    · exact off.mem p (List.mem_append.mpr (.inr hp))
    · rw [hp]; exact ⟨Nat.ne_of_gt hT.1, Nat.ne_of_gt hT.2.1, Nat.ne_of_gt hT.2.2⟩
section
variable {w : World} {mean : ExcName → Option Value} {mg mb : Str → Option Value} {dp un : Nat} {gd : Option (List Code)} {cn : Str} {cs : Scope} {a : Addr} {ccd : Value} {cl : List (Str × Addr)} {outer : List Env} {base g' : Heap} {L L' : Addr} {s : Shared} {Q : Flow → Shared → Prop} {E : Value → Shared → Prop} {m : Str → Option Value}
variable {nl tl : Addr} {n1 n2 : Nat} {xs : List IT} {th : List ST} {c1 c2 c3 c4 c5 : Obj}
set_option maxRecDepth 100000 in
set_option maxHeartbeats 8000000 in
theorem due_pairs (C : Ctx w mean mg mb dp un gd cn cs a ccd cl outer base g' L) (hb1 : g'.get? nl = some (lst (ivals xs) n1)) (hl1 : xs.length ≤ 100) {oDo oDk : Obj} {Do Dr Dk : Addr} {zs : List ST} (hzs : zs.map (·.1) = xs.map (fun x => rowS x.1))
    (F : Fr g' L' s.heap m) (N : News g' L' s.heap [(Dk, oDk), (Do, oDo), (Dr, LCg.lst (zs.map ST.v)), (L' + 1 + 1 + 1 + 1 + 1, c5), (L' + 1 + 1 + 1 + 1, c4), (L' + 1 + 1 + 1, c3), (L' + 1 + 1, c2), (L' + 1, c1)]) (d1 : c1.data = .cell (some (.ref nl))) (d3 : c3.data = .cell (some (.ref Dr)))
    (k : ∀ D (ps : List Pr) h tk, Fr g' L' h (fun y => if y = Str.ofString "pairs" then some (.ref D) else m y) → News g' L' h ((D, LCg.lst (ps.map Pr.v)) :: (Dk, oDk) :: (Do, oDo) :: (Dr, LCg.lst (zs.map ST.v)) :: (L' + 1 + 1 + 1 + 1 + 1, c5) :: (L' + 1 + 1 + 1 + 1, c4) :: (L' + 1 + 1 + 1, c3) :: (L' + 1 + 1, c2) :: (L' + 1, c1) :: ps.map Pr.e) → ps.map (fun p => (p.x, p.y)) = xs.map (fun x => (accS x.1, rowS x.1)) → Q .next { s with heap := h, toks := tk }) :
    wpAny (model PG w) ((ktrTop dp un gd cn cs L a ccd cl outer).deeper (dueEnv L')) (exec dueSt4 (dueEnv L')) Q E s := by
  obtain ⟨B', X', T', hk, hdp, hun⟩ := C
  unfold dueSt4 dueEnv
  dsimp only [st0, tl0]

  have hz1 : ((ivals xs).size : Int) < 2 ^ 63 := by rw [ivals_size]; omega
  have hi1 : g'.IsList nl (ivals xs) := PySem.IsL.isList hb1
  repeat' (first | (k_unfold; (try dsimp only)) | ((fail_if_success (with_reducible show wpAny _ _ (eval (Expr.ListComp _ _ _ _) _) _ _ _)); (fail_if_success (with_reducible show wpAny _ _ (exec (Stmt.Assign [_] (Expr.ListComp _ _ _ _) _) _) _ _ _)); (fail_if_success (with_reducible show LCt.CompSrcT _ _ _ _ _ _ _ _ _ _ _ _ _ _ _)); (fail_if_success (with_reducible show LCg.CompSrc _ _ _ _ _ _ _ _ _ _ _ _ _ _)); (fail_if_success (with_reducible show LCg.CompEnd _ _ _ _ _ _ _ _ _ _ _ _ _ _)); (fail_if_success (with_reducible show @ite _ _ _ _ _)); (fail_if_success (with_reducible show wpAny _ _ (pyIter _) _ _ _)); (fail_if_success (with_reducible show Q _ _)); (fail_if_success (with_reducible show UnrPost _ _ _ _ _ _ _ _ _)); (fail_if_success (with_reducible show ∃ _, _)); walk1) | ((fail_if_success (with_reducible show wpAny _ _ (eval (Expr.ListComp _ _ _ _) _) _ _ _)); (fail_if_success (with_reducible show wpAny _ _ (exec (Stmt.Assign [_] (Expr.ListComp _ _ _ _) _) _) _ _ _)); (fail_if_success (with_reducible show LCt.CompSrcT _ _ _ _ _ _ _ _ _ _ _ _ _ _ _)); (fail_if_success (with_reducible show LCg.CompSrc _ _ _ _ _ _ _ _ _ _ _ _ _ _)); (fail_if_success (with_reducible show LCg.CompEnd _ _ _ _ _ _ _ _ _ _ _ _ _ _)); (fail_if_success (with_reducible show @ite _ _ _ _ _)); (fail_if_success (with_reducible show wpAny _ _ (pyIter _) _ _ _)); (fail_if_success (with_reducible show Q _ _)); (fail_if_success (with_reducible show UnrPost _ _ _ _ _ _ _ _ _)); (fail_if_success (with_reducible show ∃ _, _)); dsimp only; walk1))

  rename Fr g' L' _ _ => kF9
  refine LCg.Assign_ListComp_U (F₀ := kF9) (by rfl) (by with_unfolding_all rfl) (by with_unfolding_all rfl) (by decide) (by rfl) (by decide) (by rfl) (by rfl) (by rfl) ?_
  repeat' (first | (k_unfold; (try dsimp only)) | ((fail_if_success (with_reducible show wpAny _ _ (eval (Expr.ListComp _ _ _ _) _) _ _ _)); (fail_if_success (with_reducible show wpAny _ _ (exec (Stmt.Assign [_] (Expr.ListComp _ _ _ _) _) _) _ _ _)); (fail_if_success (with_reducible show LCt.CompSrcT _ _ _ _ _ _ _ _ _ _ _ _ _ _ _)); (fail_if_success (with_reducible show LCg.CompSrc _ _ _ _ _ _ _ _ _ _ _ _ _ _)); (fail_if_success (with_reducible show LCg.CompEnd _ _ _ _ _ _ _ _ _ _ _ _ _ _)); (fail_if_success (with_reducible show @ite _ _ _ _ _)); (fail_if_success (with_reducible show wpAny _ _ (pyIter _) _ _ _)); (fail_if_success (with_reducible show Q _ _)); (fail_if_success (with_reducible show UnrPost _ _ _ _ _ _ _ _ _)); (fail_if_success (with_reducible show ∃ _, _)); walk1) | ((fail_if_success (with_reducible show wpAny _ _ (eval (Expr.ListComp _ _ _ _) _) _ _ _)); (fail_if_success (with_reducible show wpAny _ _ (exec (Stmt.Assign [_] (Expr.ListComp _ _ _ _) _) _) _ _ _)); (fail_if_success (with_reducible show LCt.CompSrcT _ _ _ _ _ _ _ _ _ _ _ _ _ _ _)); (fail_if_success (with_reducible show LCg.CompSrc _ _ _ _ _ _ _ _ _ _ _ _ _ _)); (fail_if_success (with_reducible show LCg.CompEnd _ _ _ _ _ _ _ _ _ _ _ _ _ _)); (fail_if_success (with_reducible show @ite _ _ _ _ _)); (fail_if_success (with_reducible show wpAny _ _ (pyIter _) _ _ _)); (fail_if_success (with_reducible show Q _ _)); (fail_if_success (with_reducible show UnrPost _ _ _ _ _ _ _ _ _)); (fail_if_success (with_reducible show ∃ _, _)); dsimp only; walk1))

  rename Fr g' L' _ _ => kF9
  rename News g' L' _ _ => kN9
  rename IsRange _ _ _ _ _ _ _ _ => kR9
  refine LCg.CompSrc.range rfl kF9 kN9 kR9 (rs_small (by rw [ivals_size]; omega)) (rs_size _) (by rw [ivals_size, sizeLine_eq]; omega) (fun g => rest_ind (fun i ys news => ∃ ps : List Pr, news = _ :: _ :: _ :: _ :: _ :: _ :: _ :: _ :: ps.map Pr.e ∧ ys = ps.map Pr.v ∧ ps.map (fun p => (p.x, p.y)) = (xs.take i).map fun x => (accS x.1, rowS x.1)) ?elem ?fin _ 0 [] _ (Nat.zero_add _) ⟨[], rfl, rfl, rfl⟩)
  case fin =>
    clear kF9 kN9 kR9
    rintro ys news ⟨ps, rfl, rfl, hps⟩ D h tk F9 N9 off9
    rw [ivals_size, List.take_length] at hps
    exact k _ _ _ _ F9 N9 hps
  case elem =>
    clear kF9 kN9 kR9
    rintro i hi ys news ⟨ps, rfl, rfl, hps⟩ v I oI C oC D m₂ h tk E' hP hNs hx F9 N9 off hne
    obtain ⟨t, rfl⟩ := hP
    rw [Int.zero_add] at hx
    rw [ivals_size] at hi
    obtain ⟨y, hy⟩ : ∃ y, xs[i]? = some y := ⟨_, List.getElem?_eq_getElem hi⟩
    have hxk := ivals_get hy
    have hzl : zs.length = xs.length := by have := congrArg List.length hzs; simpa using this
    obtain ⟨z, hz⟩ : ∃ z, zs[i]? = some z := ⟨_, List.getElem?_eq_getElem (by omega)⟩
    have hzk : (zs.map ST.v).toArray[((i : Nat) : Int).toNat]? = some (.str z.1 z.2) := by simp [hz]
    have e0 : (0 : Int) ≤ (i : Int) := Int.natCast_nonneg _
    have e1 : (i : Int) < 2 ^ 63 := by omega
    have hzr : z.1 = rowS y.1 := by
      have h1 := congrArg (fun l => l[i]?) hzs
      simp only [List.getElem?_map, hz, hy, Option.map_some] at h1
      exact Option.some.inj h1
    repeat' (first | (k_unfold; (try dsimp only)) | ((fail_if_success (with_reducible show wpAny _ _ (eval (Expr.ListComp _ _ _ _) _) _ _ _)); (fail_if_success (with_reducible show wpAny _ _ (exec (Stmt.Assign [_] (Expr.ListComp _ _ _ _) _) _) _ _ _)); (fail_if_success (with_reducible show LCt.CompSrcT _ _ _ _ _ _ _ _ _ _ _ _ _ _ _)); (fail_if_success (with_reducible show LCg.CompSrc _ _ _ _ _ _ _ _ _ _ _ _ _ _)); (fail_if_success (with_reducible show LCg.CompEnd _ _ _ _ _ _ _ _ _ _ _ _ _ _)); (fail_if_success (with_reducible show @ite _ _ _ _ _)); (fail_if_success (with_reducible show wpAny _ _ (pyIter _) _ _ _)); (fail_if_success (with_reducible show Q _ _)); (fail_if_success (with_reducible show UnrPost _ _ _ _ _ _ _ _ _)); (fail_if_success (with_reducible show ∃ _, _)); walk1) | ((fail_if_success (with_reducible show wpAny _ _ (eval (Expr.ListComp _ _ _ _) _) _ _ _)); (fail_if_success (with_reducible show wpAny _ _ (exec (Stmt.Assign [_] (Expr.ListComp _ _ _ _) _) _) _ _ _)); (fail_if_success (with_reducible show LCt.CompSrcT _ _ _ _ _ _ _ _ _ _ _ _ _ _ _)); (fail_if_success (with_reducible show LCg.CompSrc _ _ _ _ _ _ _ _ _ _ _ _ _ _)); (fail_if_success (with_reducible show LCg.CompEnd _ _ _ _ _ _ _ _ _ _ _ _ _ _)); (fail_if_success (with_reducible show @ite _ _ _ _ _)); (fail_if_success (with_reducible show wpAny _ _ (pyIter _) _ _ _)); (fail_if_success (with_reducible show Q _ _)); (fail_if_success (with_reducible show UnrPost _ _ _ _ _ _ _ _ _)); (fail_if_success (with_reducible show ∃ _, _)); dsimp only; walk1))

    have htake : xs.take (i + 1) = xs.take i ++ [y] := by rw [List.take_add_one, hy]; rfl
    rename Fr g' L' _ _ => kF9
    rename News g' L' _ _ => kN9
    refine pr_end [_, _, _, _, _, _, _, _] kF9 kN9 off (by omega) trivial ⟨ps ++ [_], rfl, by simp only [List.map_append, List.map_cons, List.map_nil], ?_⟩
    rw [htake]
    simp only [List.map_append, List.map_cons, List.map_nil, hps, hzr]
end
end
section
open PySem PySem.W PySem.Calls PyProof.Rows PySem.Spec PyProof.V
set_option maxRecDepth 100000
abbrev okS (x : Str) : Prop := PyData.strOk x = true
theorem kd_ok : ∀ c : Fin 8, okS (kd c) := by decide +kernel
theorem kindS_strOk (k : Int) : okS (kindS k) := by obtain ⟨c, _, e⟩ := kindS_fin k; rw [e]; exact kd_ok c
theorem readsAll_ST {h : Heap} : ∀ xs : List ST, ReadsAll h (xs.map ST.v) (xs.map fun x => PyData.str x.1) []
  | [] => ReadsAll.nil
  | x :: xs => ReadsAll.cons (Reads.str _ _) (readsAll_ST xs)
theorem readsAll_IT {h : Heap} : ∀ xs : List IT, ReadsAll h (xs.map IT.v) (xs.map fun x => PyData.int x.1) []
  | [] => ReadsAll.nil
  | x :: xs => ReadsAll.cons (Reads.int _ _) (readsAll_IT xs)
theorem reads_strs {h : Heap} {a : Addr} {xs : List ST} (hl : h.IsList a (svals xs)) : Reads h (.ref a) (.list (xs.map fun x => PyData.str x.1)) [a] := by
  obtain ⟨o, ho, hc, n, hd⟩ := hl
  exact reads_list_at ho hc hd (by simpa [svals] using readsAll_ST xs)
theorem lay_strs : ∀ {xs : List Str}, (∀ x ∈ xs, okS x) → PyData.canLayAll0 (xs.map PyData.str) = true ∧ PyData.depthAll (xs.map PyData.str) ≤ 1
  | [], _ => by simp [PyData.canLayAll0, PyData.depthAll]
  | x :: xs, h => by
    have ih := lay_strs fun y hy => h y (.tail _ hy)
    have hx := h x (.head _)
    simp only [List.map_cons, PyData.canLayAll0, PyData.canLay0, PyData.depthAll, PyData.depth, ih.1, Bool.and_true]
    exact ⟨hx, by have := ih.2; omega⟩
theorem any_strs (xs : List Str) (x : Str) : ((xs.map PyData.str).any fun y => PyData.eqv y (.str x)) = decide (x ∈ xs) := by
  induction xs with
  | nil => rfl
  | cons y ys ih =>
    rw [List.map_cons, List.any_cons, ih]
    simp only [PyData.eqv, List.mem_cons]
    by_cases h : y = x
    · subst h; simp
    · have h' : ¬ x = y := fun e => h e.symm
      have hb : (y == x) = false := by simpa using h
      simp [h', hb]
section
variable {prog : Program} {w : World} {A : Around} {E : Value → Shared → Prop} {s : Shared} {a : Addr} {xs : List ST} {x : Str} {t : Tok} {Q : Value → Shared → Prop}
theorem in_strs (hl : s.heap.IsList a (svals xs)) (hx : okS x) (hxs : ∀ y ∈ xs.map (·.1), okS y) (hu : A.units + 64 < cLine) (h : Q (.bool (decide (x ∈ xs.map (·.1)))) s) :
    wpAny (model prog w) A (compareOp .In (.str x t) (.ref a)) Q E s := by
  have l := lay_strs hxs
  rw [List.map_map] at l
  refine SeqAt.in_list_reads (reads_strs hl) (Reads.str x t) l.1 hx ?_ ?_
  · have := l.2
    simp only [PyData.depth]
    have h3 := Nat.min_le_left (PyData.depthAll (xs.map (PyData.str ∘ (·.1)))) 0
    show A.units + 1 + min (PyData.depthAll (xs.map (PyData.str ∘ (·.1)))) 0 < cLine
    omega
  · have e := any_strs (xs.map (·.1)) x
    rw [List.map_map] at e
    show Q (.bool ((xs.map (PyData.str ∘ (·.1))).any fun y => PyData.eqv y (.str x))) s
    rw [e]; exact h
theorem notIn_strs (hl : s.heap.IsList a (svals xs)) (hx : okS x) (hxs : ∀ y ∈ xs.map (·.1), okS y) (hu : A.units + 64 < cLine) (h : Q (.bool (!decide (x ∈ xs.map (·.1)))) s) :
    wpAny (model prog w) A (compareOp .NotIn (.str x t) (.ref a)) Q E s := by
  have l := lay_strs hxs
  rw [List.map_map] at l
  refine SeqAt.notIn_list_reads (reads_strs hl) (Reads.str x t) l.1 hx ?_ ?_
  · have := l.2
    simp only [PyData.depth]
    have h3 := Nat.min_le_left (PyData.depthAll (xs.map (PyData.str ∘ (·.1)))) 0
    show A.units + 1 + min (PyData.depthAll (xs.map (PyData.str ∘ (·.1)))) 0 < cLine
    omega
  · have e := any_strs (xs.map (·.1)) x
    rw [List.map_map] at e
    show Q (.bool (!(xs.map (PyData.str ∘ (·.1))).any fun y => PyData.eqv y (.str x))) s
    rw [e]; exact h
end
end
section
open PySem PySem.W PyProof.Rows PySem.Spec
theorem lines_R7 : True := by
  k_with_none
  (k_with "om" => (with_reducible first | assumption | exact Nat.ne_of_lt ‹_› | exact Nat.ne_of_gt ‹_› | exact Ne.symm ‹_› | exact Mine.o_a ‹_› (by decide) | exact Mine.o_b ‹_› (by decide) | exact Mine.o_c ‹_› | exact Mine.o_le (n := 100) ‹_› (by decide) | exact Mine.o_le ‹_› (by decide) | exact Mine.o_l ‹_› (by decide) | exact Mine.o_1 (n := 100) ‹_› (by decide) | exact Mine.o_2 (n := 100) ‹_› (by decide) | exact Mine.o_lt (n := 100) ‹_› (by decide) | exact Mine.o_lt ‹_› (by decide) | exact Mine.o_ll ‹_› (by decide) | exact Mine.o_s ‹_› | exact Mine.o_n _ | exact Mine.o_0 _ | exact Mine.o_i ‹_› (by decide) | exact Mine.o_m ‹_› (by decide) | exact Mine.o_j (n := 100) ‹_› ‹_› (by decide) | exact Mine.o_k ‹_› ‹_› (by decide) | exact Mine.o_e (n := 100) ‹_› ‹_› (by decide) | exact Nat.ne_of_lt (by k_extra "cj") | exact Nat.ne_of_gt (by k_extra "cj") | exact Ne.symm (by k_extra "cj") | k_extra "cj" | fail))
  (k_with "cj" => (first | exact And.left ‹_› | exact Mine.c_2 ‹_› | exact Mine.c_3 ‹_› | exact Mine.c_4 ‹_› | exact Mine.c_5 ‹_› | exact Mine.c_6 ‹_› | exact Mine.c_7 ‹_› | exact Mine.c_8 ‹_› | exact Mine.c_9 ‹_› | exact And.right ‹_› | exact Mine.d_3 ‹_› | exact Mine.d_4 ‹_› | exact Mine.d_5 ‹_› | exact Mine.d_6 ‹_› | exact Mine.d_7 ‹_› | exact Mine.d_8 ‹_› | exact Mine.d_9 ‹_› | fail))
  (k_with "fn ctx" => (((case k1 => k_asm); (case k2 => k_asm); (case k3 => k_asm); (case k4 => k_asm); (case k5 => k_asm); (case kK => first | exact rfl | assumption); (case kd => ktr_room); (case ku => ktr_units))))
  (k_with "call ref" => ((k_here; (with_reducible show wpAny _ _ (call (Value.ref 228) _ _) _ _ _); k_dflt (refine' (law_kind).use ?k1 ?k2 ?k3 ?k4 ?k5 ?kK ?kd ?ku ?kz ?_; (walk_at "fn ctx"); (case kz => exact fun _ h => nomatch h); intro zqr9 zqh9 zqtk9 zqF9 zqN9 zqk9 zqho9; obtain ⟨zqt9, zqhr9⟩ := zqho9; subst zqhr9; (try dsimp only); (try k_sweep)))))
  (k_with "call ref" => ((k_here; (with_reducible show wpAny _ _ (call (Value.ref 235) _ _) _ _ _); k_dflt (refine' (law_worth).use ?k1 ?k2 ?k3 ?k4 ?k5 ?kK ?kd ?ku ?kz ?_; (walk_at "fn ctx"); (case kz => exact fun _ h => nomatch h); intro zqr9 zqh9 zqtk9 zqF9 zqN9 zqk9 zqho9; obtain ⟨zqt9, zqhr9⟩ := zqho9; subst zqhr9; (try dsimp only); (try k_sweep)))))
  (k_with "call builtin:len" => ((k_here; (with_reducible show wpAny _ _ (call (Value.builtin "len") [Value.ref _]) _ _ _); k_dflt (first | (refine' len_led ?k1 ?k2 ?k3 ?_; (case k1 => k_asm); (case k2 => k_mem); (case k3 => first | with_reducible assumption | omega | (simp only [List.size_toArray, List.length_map]; omega)); k_whole) | (refine' len_base ?k1 ?k2 ?k3 ?_; (case k1 => k_asm); (case k2 => with_reducible assumption); (case k3 => first | with_reducible assumption | omega); k_whole)))))
  (k_with "m look" => (first | with_reducible assumption | (with_reducible exact lk_hit rfl) | (with_reducible refine' lk_ne ?hh ?hv; (case hh => decide); (case hv => walk_at "m look"))))
  (k_with "eval Name" => ((k_here; k_dflt (refine' nameX_L ?F ?v ?_ ?a ?b; (case b => rfl); (case a => rfl); (case F => k_asm); (case v => walk_at "m look"); k_whole))))
  (k_with "subscriptTail Name Name ref int" => ((k_here; k_dflt (refine' item_base ?k1 ?k2 ?k3 ?k4 ?k5 ?_ ?k7; (case k7 => with_unfolding_all rfl); (case k1 => k_asm); (case k2 => with_reducible assumption); (case k5 => with_reducible assumption); (case k3 => first | with_reducible assumption | omega); (case k4 => first | with_reducible assumption | omega); k_whole))))
  (k_with "compareOp In str ref" => ((k_here; (with_reducible show wpAny _ _ (compareOp CmpOp.In (Value.str _ _) (Value.ref _)) _ _ _); k_dflt (refine' in_strs ?k1 (kindS_strOk _) ?k3 ?k5 ?_; (case k1 => exact PySem.IsL.isList (Fr.keep (by k_asm) _ _ (by with_reducible assumption))); (case k3 => with_reducible assumption); (case k5 => ktr_units); k_whole))))
  trivial
/-- places with their tokens -/
abbrev KT := Nat × Tok
abbrev KT.v (x : KT) : Value := .int (x.1 : Int) x.2
def kvals (ks : List KT) : Array Value := (ks.map KT.v).toArray
theorem kvals_size (ks : List KT) : (kvals ks).size = ks.length := by simp [kvals]
def fits (ts : List Str) (x : Int) : Bool := decide (0 < wth x) && decide (kindS x ∈ ts)
section
variable {w : World} {mean : ExcName → Option Value} {mg mb : Str → Option Value} {dp un : Nat} {gd : Option (List Code)} {cn : Str} {cs : Scope} {a : Addr} {ccd : Value} {cl : List (Str × Addr)} {outer : List Env} {base g' : Heap} {L L' : Addr} {s : Shared} {Q : Flow → Shared → Prop} {E : Value → Shared → Prop} {m : Str → Option Value}
variable {nl tl : Addr} {n1 n2 : Nat} {xs : List IT} {th : List ST} {c1 c2 c3 c4 c5 : Obj}
set_option maxRecDepth 100000 in
set_option maxHeartbeats 8000000 in
theorem due_fit (C : Ctx w mean mg mb dp un gd cn cs a ccd cl outer base g' L) (hb1 : g'.get? nl = some (lst (ivals xs) n1)) (hl1 : xs.length ≤ 100) (hb2 : g'.get? tl = some (lst (svals th) n2)) (hth : ∀ y ∈ th.map (·.1), okS y) {oDk oDr oDp : Obj} {Do Dr Dk Dp : Addr} {ks : List KT} {no : Nat} {tail : Led} (hks : ∀ p ∈ ks, p.1 < xs.length) (hkl : ks.length ≤ 100)
    (F : Fr g' L' s.heap m) (N : News g' L' s.heap ((Dp, oDp) :: (Dk, oDk) :: (Do, listOf (kvals ks) no) :: (Dr, oDr) :: (L' + 1 + 1 + 1 + 1 + 1, c5) :: (L' + 1 + 1 + 1 + 1, c4) :: (L' + 1 + 1 + 1, c3) :: (L' + 1 + 1, c2) :: (L' + 1, c1) :: tail)) (d1 : c1.data = .cell (some (.ref nl))) (d2 : c2.data = .cell (some (.ref tl))) (hmo : m (Str.ofString "order") = some (.ref Do))
    (k : ∀ D (us : List IT) h tk, Fr g' L' h (fun y => if y = Str.ofString "fit" then some (.ref D) else m y) → News g' L' h ((D, LCg.lst (us.map IT.v)) :: (Dp, oDp) :: (Dk, oDk) :: (Do, listOf (kvals ks) no) :: (Dr, oDr) :: (L' + 1 + 1 + 1 + 1 + 1, c5) :: (L' + 1 + 1 + 1 + 1, c4) :: (L' + 1 + 1 + 1, c3) :: (L' + 1 + 1, c2) :: (L' + 1, c1) :: tail) → us.map (·.1) = (ks.map fun p => (nums xs).getD p.1 0).filter (fits (th.map (·.1))) → Q .next { s with heap := h, toks := tk }) :
    wpAny (model PG w) ((ktrTop dp un gd cn cs L a ccd cl outer).deeper (dueEnv L')) (exec dueSt5 (dueEnv L')) Q E s := by
  obtain ⟨B', X', T', hk, hdp, hun⟩ := C
  unfold dueSt5 dueEnv
  dsimp only [st0, tl0]

  have hz1 : ((ivals xs).size : Int) < 2 ^ 63 := by rw [ivals_size]; omega
  have hi1 : g'.IsList nl (ivals xs) := PySem.IsL.isList hb1
  repeat' (first | (k_unfold; (try dsimp only)) | ((fail_if_success (with_reducible show wpAny _ _ (eval (Expr.ListComp _ _ _ _) _) _ _ _)); (fail_if_success (with_reducible show wpAny _ _ (exec (Stmt.Assign [_] (Expr.ListComp _ _ _ _) _) _) _ _ _)); (fail_if_success (with_reducible show LCt.CompSrcT _ _ _ _ _ _ _ _ _ _ _ _ _ _ _)); (fail_if_success (with_reducible show LCg.CompSrc _ _ _ _ _ _ _ _ _ _ _ _ _ _)); (fail_if_success (with_reducible show LCg.CompEnd _ _ _ _ _ _ _ _ _ _ _ _ _ _)); (fail_if_success (with_reducible show @ite _ _ _ _ _)); (fail_if_success (with_reducible show wpAny _ _ (pyIter _) _ _ _)); (fail_if_success (with_reducible show Q _ _)); (fail_if_success (with_reducible show UnrPost _ _ _ _ _ _ _ _ _)); (fail_if_success (with_reducible show ∃ _, _)); walk1) | ((fail_if_success (with_reducible show wpAny _ _ (eval (Expr.ListComp _ _ _ _) _) _ _ _)); (fail_if_success (with_reducible show wpAny _ _ (exec (Stmt.Assign [_] (Expr.ListComp _ _ _ _) _) _) _ _ _)); (fail_if_success (with_reducible show LCt.CompSrcT _ _ _ _ _ _ _ _ _ _ _ _ _ _ _)); (fail_if_success (with_reducible show LCg.CompSrc _ _ _ _ _ _ _ _ _ _ _ _ _ _)); (fail_if_success (with_reducible show LCg.CompEnd _ _ _ _ _ _ _ _ _ _ _ _ _ _)); (fail_if_success (with_reducible show @ite _ _ _ _ _)); (fail_if_success (with_reducible show wpAny _ _ (pyIter _) _ _ _)); (fail_if_success (with_reducible show Q _ _)); (fail_if_success (with_reducible show UnrPost _ _ _ _ _ _ _ _ _)); (fail_if_success (with_reducible show ∃ _, _)); dsimp only; walk1))

  rename Fr g' L' _ _ => kF9
  refine LCt.Assign_ListComp_T (F₀ := kF9) (by rfl) (by with_unfolding_all rfl) (by with_unfolding_all rfl) (by decide) (by rfl) (by decide) (by rfl) (by rfl) (by rfl) ?_
  repeat' (first | (k_unfold; (try dsimp only)) | ((fail_if_success (with_reducible show wpAny _ _ (eval (Expr.ListComp _ _ _ _) _) _ _ _)); (fail_if_success (with_reducible show wpAny _ _ (exec (Stmt.Assign [_] (Expr.ListComp _ _ _ _) _) _) _ _ _)); (fail_if_success (with_reducible show LCt.CompSrcT _ _ _ _ _ _ _ _ _ _ _ _ _ _ _)); (fail_if_success (with_reducible show LCg.CompSrc _ _ _ _ _ _ _ _ _ _ _ _ _ _)); (fail_if_success (with_reducible show LCg.CompEnd _ _ _ _ _ _ _ _ _ _ _ _ _ _)); (fail_if_success (with_reducible show @ite _ _ _ _ _)); (fail_if_success (with_reducible show wpAny _ _ (pyIter _) _ _ _)); (fail_if_success (with_reducible show Q _ _)); (fail_if_success (with_reducible show UnrPost _ _ _ _ _ _ _ _ _)); (fail_if_success (with_reducible show ∃ _, _)); walk1) | ((fail_if_success (with_reducible show wpAny _ _ (eval (Expr.ListComp _ _ _ _) _) _ _ _)); (fail_if_success (with_reducible show wpAny _ _ (exec (Stmt.Assign [_] (Expr.ListComp _ _ _ _) _) _) _ _ _)); (fail_if_success (with_reducible show LCt.CompSrcT _ _ _ _ _ _ _ _ _ _ _ _ _ _ _)); (fail_if_success (with_reducible show LCg.CompSrc _ _ _ _ _ _ _ _ _ _ _ _ _ _)); (fail_if_success (with_reducible show LCg.CompEnd _ _ _ _ _ _ _ _ _ _ _ _ _ _)); (fail_if_success (with_reducible show @ite _ _ _ _ _)); (fail_if_success (with_reducible show wpAny _ _ (pyIter _) _ _ _)); (fail_if_success (with_reducible show Q _ _)); (fail_if_success (with_reducible show UnrPost _ _ _ _ _ _ _ _ _)); (fail_if_success (with_reducible show ∃ _, _)); dsimp only; walk1))

  rename Fr g' L' _ _ => kF9
  rename News g' L' _ _ => kN9
  refine LCt.CompSrcT.ledger (its := kvals ks) rfl kF9 kN9 (by k_mem) (by rw [kvals_size, sizeLine_eq]; omega) (fun g => restT_ind (fun i ys news => news = _ :: _ :: _ :: _ :: _ :: _ :: _ :: _ :: _ :: tail ∧ ∃ us : List IT, ys = us.map IT.v ∧ us.map (·.1) = ((ks.take i).map fun p => (nums xs).getD p.1 0).filter (fits (th.map (·.1)))) ?elem ?fin _ 0 [] _ (Nat.zero_add _) ⟨rfl, [], rfl, rfl⟩)
  case fin =>
    clear kF9 kN9
    rintro ys news ⟨rfl, us, rfl, hus⟩ D h tk F9 N9 off9
    rw [kvals_size, List.take_length] at hus
    exact k _ _ _ _ F9 N9 hus
  case elem =>
    clear kF9 kN9
    rintro i hi ys news ⟨rfl, us, rfl, hus⟩ v I oI C oC D m₂ h tk E' hP hNs hx F9 N9 off hne
    have hi' : i < ks.length := by rw [← kvals_size]; exact hi
    have hk0 : ks[i]? = some ks[i] := List.getElem?_eq_getElem hi'
    generalize ks[i] = z at hk0
    have hv : v = .int (z.1 : Int) z.2 := by have := hP; simp [kvals, hk0] at this; exact this.symm
    subst hv
    have hzl := hks z (List.mem_of_getElem? hk0)
    obtain ⟨y, hy⟩ : ∃ y, xs[z.1]? = some y := ⟨_, List.getElem?_eq_getElem hzl⟩
    have hxk := ivals_get hy
    have e0 : (0 : Int) ≤ (z.1 : Int) := Int.natCast_nonneg _
    have e1 : (z.1 : Int) < 2 ^ 63 := by omega
    have hg : (nums xs).getD z.1 0 = y.1 := by simp [nums, List.getD, hy]
    have htake : ks.take (i + 1) = ks.take i ++ [z] := by rw [List.take_add_one, hk0]; rfl
    repeat' (first | (k_unfold; (try dsimp only)) | ((fail_if_success (with_reducible show wpAny _ _ (eval (Expr.ListComp _ _ _ _) _) _ _ _)); (fail_if_success (with_reducible show wpAny _ _ (exec (Stmt.Assign [_] (Expr.ListComp _ _ _ _) _) _) _ _ _)); (fail_if_success (with_reducible show LCt.CompSrcT _ _ _ _ _ _ _ _ _ _ _ _ _ _ _)); (fail_if_success (with_reducible show LCg.CompSrc _ _ _ _ _ _ _ _ _ _ _ _ _ _)); (fail_if_success (with_reducible show LCg.CompEnd _ _ _ _ _ _ _ _ _ _ _ _ _ _)); (fail_if_success (with_reducible show @ite _ _ _ _ _)); (fail_if_success (with_reducible show wpAny _ _ (pyIter _) _ _ _)); (fail_if_success (with_reducible show Q _ _)); (fail_if_success (with_reducible show UnrPost _ _ _ _ _ _ _ _ _)); (fail_if_success (with_reducible show ∃ _, _)); walk1) | ((fail_if_success (with_reducible show wpAny _ _ (eval (Expr.ListComp _ _ _ _) _) _ _ _)); (fail_if_success (with_reducible show wpAny _ _ (exec (Stmt.Assign [_] (Expr.ListComp _ _ _ _) _) _) _ _ _)); (fail_if_success (with_reducible show LCt.CompSrcT _ _ _ _ _ _ _ _ _ _ _ _ _ _ _)); (fail_if_success (with_reducible show LCg.CompSrc _ _ _ _ _ _ _ _ _ _ _ _ _ _)); (fail_if_success (with_reducible show LCg.CompEnd _ _ _ _ _ _ _ _ _ _ _ _ _ _)); (fail_if_success (with_reducible show @ite _ _ _ _ _)); (fail_if_success (with_reducible show wpAny _ _ (pyIter _) _ _ _)); (fail_if_success (with_reducible show Q _ _)); (fail_if_success (with_reducible show UnrPost _ _ _ _ _ _ _ _ _)); (fail_if_success (with_reducible show ∃ _, _)); dsimp only; walk1))

    have hfil : ∀ b : Bool, fits (th.map (·.1)) y.1 = b → ((ks.take (i + 1)).map fun p => (nums xs).getD p.1 0).filter (fits (th.map (·.1))) = ((ks.take i).map fun p => (nums xs).getD p.1 0).filter (fits (th.map (·.1))) ++ (if b = true then [y.1] else []) := by
      intro b hb
      rw [htake, List.map_append, List.filter_append, List.map_cons, List.map_nil, hg, List.filter_cons, hb, List.filter_nil]
    by_cases hq : decide (0 < wth y.1) = true
    · refine iteT hq ?_
      repeat' (first | (k_unfold; (try dsimp only)) | ((fail_if_success (with_reducible show wpAny _ _ (eval (Expr.ListComp _ _ _ _) _) _ _ _)); (fail_if_success (with_reducible show wpAny _ _ (exec (Stmt.Assign [_] (Expr.ListComp _ _ _ _) _) _) _ _ _)); (fail_if_success (with_reducible show LCt.CompSrcT _ _ _ _ _ _ _ _ _ _ _ _ _ _ _)); (fail_if_success (with_reducible show LCg.CompSrc _ _ _ _ _ _ _ _ _ _ _ _ _ _)); (fail_if_success (with_reducible show LCg.CompEnd _ _ _ _ _ _ _ _ _ _ _ _ _ _)); (fail_if_success (with_reducible show @ite _ _ _ _ _)); (fail_if_success (with_reducible show wpAny _ _ (pyIter _) _ _ _)); (fail_if_success (with_reducible show Q _ _)); (fail_if_success (with_reducible show UnrPost _ _ _ _ _ _ _ _ _)); (fail_if_success (with_reducible show ∃ _, _)); walk1) | ((fail_if_success (with_reducible show wpAny _ _ (eval (Expr.ListComp _ _ _ _) _) _ _ _)); (fail_if_success (with_reducible show wpAny _ _ (exec (Stmt.Assign [_] (Expr.ListComp _ _ _ _) _) _) _ _ _)); (fail_if_success (with_reducible show LCt.CompSrcT _ _ _ _ _ _ _ _ _ _ _ _ _ _ _)); (fail_if_success (with_reducible show LCg.CompSrc _ _ _ _ _ _ _ _ _ _ _ _ _ _)); (fail_if_success (with_reducible show LCg.CompEnd _ _ _ _ _ _ _ _ _ _ _ _ _ _)); (fail_if_success (with_reducible show @ite _ _ _ _ _)); (fail_if_success (with_reducible show wpAny _ _ (pyIter _) _ _ _)); (fail_if_success (with_reducible show Q _ _)); (fail_if_success (with_reducible show UnrPost _ _ _ _ _ _ _ _ _)); (fail_if_success (with_reducible show ∃ _, _)); dsimp only; walk1))

      by_cases hq2 : decide (kindS y.1 ∈ th.map (·.1)) = true
      · refine iteT hq2 ?_
        repeat' (first | (k_unfold; (try dsimp only)) | ((fail_if_success (with_reducible show wpAny _ _ (eval (Expr.ListComp _ _ _ _) _) _ _ _)); (fail_if_success (with_reducible show wpAny _ _ (exec (Stmt.Assign [_] (Expr.ListComp _ _ _ _) _) _) _ _ _)); (fail_if_success (with_reducible show LCt.CompSrcT _ _ _ _ _ _ _ _ _ _ _ _ _ _ _)); (fail_if_success (with_reducible show LCg.CompSrc _ _ _ _ _ _ _ _ _ _ _ _ _ _)); (fail_if_success (with_reducible show LCg.CompEnd _ _ _ _ _ _ _ _ _ _ _ _ _ _)); (fail_if_success (with_reducible show @ite _ _ _ _ _)); (fail_if_success (with_reducible show wpAny _ _ (pyIter _) _ _ _)); (fail_if_success (with_reducible show Q _ _)); (fail_if_success (with_reducible show UnrPost _ _ _ _ _ _ _ _ _)); (fail_if_success (with_reducible show ∃ _, _)); walk1) | ((fail_if_success (with_reducible show wpAny _ _ (eval (Expr.ListComp _ _ _ _) _) _ _ _)); (fail_if_success (with_reducible show wpAny _ _ (exec (Stmt.Assign [_] (Expr.ListComp _ _ _ _) _) _) _ _ _)); (fail_if_success (with_reducible show LCt.CompSrcT _ _ _ _ _ _ _ _ _ _ _ _ _ _ _)); (fail_if_success (with_reducible show LCg.CompSrc _ _ _ _ _ _ _ _ _ _ _ _ _ _)); (fail_if_success (with_reducible show LCg.CompEnd _ _ _ _ _ _ _ _ _ _ _ _ _ _)); (fail_if_success (with_reducible show @ite _ _ _ _ _)); (fail_if_success (with_reducible show wpAny _ _ (pyIter _) _ _ _)); (fail_if_success (with_reducible show Q _ _)); (fail_if_success (with_reducible show UnrPost _ _ _ _ _ _ _ _ _)); (fail_if_success (with_reducible show ∃ _, _)); dsimp only; walk1))

        refine iteT rfl ?_
        repeat' (first | (k_unfold; (try dsimp only)) | ((fail_if_success (with_reducible show wpAny _ _ (eval (Expr.ListComp _ _ _ _) _) _ _ _)); (fail_if_success (with_reducible show wpAny _ _ (exec (Stmt.Assign [_] (Expr.ListComp _ _ _ _) _) _) _ _ _)); (fail_if_success (with_reducible show LCt.CompSrcT _ _ _ _ _ _ _ _ _ _ _ _ _ _ _)); (fail_if_success (with_reducible show LCg.CompSrc _ _ _ _ _ _ _ _ _ _ _ _ _ _)); (fail_if_success (with_reducible show LCg.CompEnd _ _ _ _ _ _ _ _ _ _ _ _ _ _)); (fail_if_success (with_reducible show @ite _ _ _ _ _)); (fail_if_success (with_reducible show wpAny _ _ (pyIter _) _ _ _)); (fail_if_success (with_reducible show Q _ _)); (fail_if_success (with_reducible show UnrPost _ _ _ _ _ _ _ _ _)); (fail_if_success (with_reducible show ∃ _, _)); walk1) | ((fail_if_success (with_reducible show wpAny _ _ (eval (Expr.ListComp _ _ _ _) _) _ _ _)); (fail_if_success (with_reducible show wpAny _ _ (exec (Stmt.Assign [_] (Expr.ListComp _ _ _ _) _) _) _ _ _)); (fail_if_success (with_reducible show LCt.CompSrcT _ _ _ _ _ _ _ _ _ _ _ _ _ _ _)); (fail_if_success (with_reducible show LCg.CompSrc _ _ _ _ _ _ _ _ _ _ _ _ _ _)); (fail_if_success (with_reducible show LCg.CompEnd _ _ _ _ _ _ _ _ _ _ _ _ _ _)); (fail_if_success (with_reducible show @ite _ _ _ _ _)); (fail_if_success (with_reducible show wpAny _ _ (pyIter _) _ _ _)); (fail_if_success (with_reducible show Q _ _)); (fail_if_success (with_reducible show UnrPost _ _ _ _ _ _ _ _ _)); (fail_if_success (with_reducible show ∃ _, _)); dsimp only; walk1))

        rename Fr g' L' _ _ => kF9
        rename News g' L' _ _ => kN9
        exact LCg.CompEnd.intro kF9 kN9 _ (fun p hp => hp) off (.inr ⟨_, (by k_mem), rfl, _, rfl⟩) ⟨rfl, us ++ [y], by simp only [List.map_append, List.map_cons, List.map_nil], by rw [hfil true (by unfold fits; rw [hq, hq2]; rfl)]; simp only [List.map_append, List.map_cons, List.map_nil, hus, if_true]⟩
      · refine iteF hq2 ?_
        repeat' (first | (k_unfold; (try dsimp only)) | ((fail_if_success (with_reducible show wpAny _ _ (eval (Expr.ListComp _ _ _ _) _) _ _ _)); (fail_if_success (with_reducible show wpAny _ _ (exec (Stmt.Assign [_] (Expr.ListComp _ _ _ _) _) _) _ _ _)); (fail_if_success (with_reducible show LCt.CompSrcT _ _ _ _ _ _ _ _ _ _ _ _ _ _ _)); (fail_if_success (with_reducible show LCg.CompSrc _ _ _ _ _ _ _ _ _ _ _ _ _ _)); (fail_if_success (with_reducible show LCg.CompEnd _ _ _ _ _ _ _ _ _ _ _ _ _ _)); (fail_if_success (with_reducible show @ite _ _ _ _ _)); (fail_if_success (with_reducible show wpAny _ _ (pyIter _) _ _ _)); (fail_if_success (with_reducible show Q _ _)); (fail_if_success (with_reducible show UnrPost _ _ _ _ _ _ _ _ _)); (fail_if_success (with_reducible show ∃ _, _)); walk1) | ((fail_if_success (with_reducible show wpAny _ _ (eval (Expr.ListComp _ _ _ _) _) _ _ _)); (fail_if_success (with_reducible show wpAny _ _ (exec (Stmt.Assign [_] (Expr.ListComp _ _ _ _) _) _) _ _ _)); (fail_if_success (with_reducible show LCt.CompSrcT _ _ _ _ _ _ _ _ _ _ _ _ _ _ _)); (fail_if_success (with_reducible show LCg.CompSrc _ _ _ _ _ _ _ _ _ _ _ _ _ _)); (fail_if_success (with_reducible show LCg.CompEnd _ _ _ _ _ _ _ _ _ _ _ _ _ _)); (fail_if_success (with_reducible show @ite _ _ _ _ _)); (fail_if_success (with_reducible show wpAny _ _ (pyIter _) _ _ _)); (fail_if_success (with_reducible show Q _ _)); (fail_if_success (with_reducible show UnrPost _ _ _ _ _ _ _ _ _)); (fail_if_success (with_reducible show ∃ _, _)); dsimp only; walk1))

        refine iteF (by decide) ?_
        rename Fr g' L' _ _ => kF9
        rename News g' L' _ _ => kN9
        exact LCg.CompEnd.intro kF9 kN9 _ (fun p hp => hp) off (.inr ⟨_, (by k_mem), rfl, _, rfl⟩) ⟨rfl, us, rfl, by rw [hfil false (by unfold fits; rw [hq, Bool.eq_false_iff.mpr hq2]; rfl), hus]; simp⟩
    · refine iteF hq ?_
      repeat' (first | (k_unfold; (try dsimp only)) | ((fail_if_success (with_reducible show wpAny _ _ (eval (Expr.ListComp _ _ _ _) _) _ _ _)); (fail_if_success (with_reducible show wpAny _ _ (exec (Stmt.Assign [_] (Expr.ListComp _ _ _ _) _) _) _ _ _)); (fail_if_success (with_reducible show LCt.CompSrcT _ _ _ _ _ _ _ _ _ _ _ _ _ _ _)); (fail_if_success (with_reducible show LCg.CompSrc _ _ _ _ _ _ _ _ _ _ _ _ _ _)); (fail_if_success (with_reducible show LCg.CompEnd _ _ _ _ _ _ _ _ _ _ _ _ _ _)); (fail_if_success (with_reducible show @ite _ _ _ _ _)); (fail_if_success (with_reducible show wpAny _ _ (pyIter _) _ _ _)); (fail_if_success (with_reducible show Q _ _)); (fail_if_success (with_reducible show UnrPost _ _ _ _ _ _ _ _ _)); (fail_if_success (with_reducible show ∃ _, _)); walk1) | ((fail_if_success (with_reducible show wpAny _ _ (eval (Expr.ListComp _ _ _ _) _) _ _ _)); (fail_if_success (with_reducible show wpAny _ _ (exec (Stmt.Assign [_] (Expr.ListComp _ _ _ _) _) _) _ _ _)); (fail_if_success (with_reducible show LCt.CompSrcT _ _ _ _ _ _ _ _ _ _ _ _ _ _ _)); (fail_if_success (with_reducible show LCg.CompSrc _ _ _ _ _ _ _ _ _ _ _ _ _ _)); (fail_if_success (with_reducible show LCg.CompEnd _ _ _ _ _ _ _ _ _ _ _ _ _ _)); (fail_if_success (with_reducible show @ite _ _ _ _ _)); (fail_if_success (with_reducible show wpAny _ _ (pyIter _) _ _ _)); (fail_if_success (with_reducible show Q _ _)); (fail_if_success (with_reducible show UnrPost _ _ _ _ _ _ _ _ _)); (fail_if_success (with_reducible show ∃ _, _)); dsimp only; walk1))

      refine iteF (by decide) ?_
      rename Fr g' L' _ _ => kF9
      rename News g' L' _ _ => kN9
      exact LCg.CompEnd.intro kF9 kN9 _ (fun p hp => hp) off (.inr ⟨_, (by k_mem), rfl, _, rfl⟩) ⟨rfl, us, rfl, by rw [hfil false (by unfold fits; rw [Bool.eq_false_iff.mpr hq]; rfl), hus]; simp⟩
end
end
section
open PySem PySem.W PyProof.Rows PySem.Spec
theorem lines_R8 : True := by
  k_with_none
  (k_with "om" => (with_reducible first | assumption | exact Nat.ne_of_lt ‹_› | exact Nat.ne_of_gt ‹_› | exact Ne.symm ‹_› | exact Mine.o_a ‹_› (by decide) | exact Mine.o_b ‹_› (by decide) | exact Mine.o_c ‹_› | exact Mine.o_le (n := 100) ‹_› (by decide) | exact Mine.o_le ‹_› (by decide) | exact Mine.o_l ‹_› (by decide) | exact Mine.o_1 (n := 100) ‹_› (by decide) | exact Mine.o_2 (n := 100) ‹_› (by decide) | exact Mine.o_lt (n := 100) ‹_› (by decide) | exact Mine.o_lt ‹_› (by decide) | exact Mine.o_ll ‹_› (by decide) | exact Mine.o_s ‹_› | exact Mine.o_n _ | exact Mine.o_0 _ | exact Mine.o_i ‹_› (by decide) | exact Mine.o_m ‹_› (by decide) | exact Mine.o_j (n := 100) ‹_› ‹_› (by decide) | exact Mine.o_k ‹_› ‹_› (by decide) | exact Mine.o_e (n := 100) ‹_› ‹_› (by decide) | exact Nat.ne_of_lt (by k_extra "cj") | exact Nat.ne_of_gt (by k_extra "cj") | exact Ne.symm (by k_extra "cj") | k_extra "cj" | fail))
  (k_with "cj" => (first | exact And.left ‹_› | exact Mine.c_2 ‹_› | exact Mine.c_3 ‹_› | exact Mine.c_4 ‹_› | exact Mine.c_5 ‹_› | exact Mine.c_6 ‹_› | exact Mine.c_7 ‹_› | exact Mine.c_8 ‹_› | exact Mine.c_9 ‹_› | exact And.right ‹_› | exact Mine.d_3 ‹_› | exact Mine.d_4 ‹_› | exact Mine.d_5 ‹_› | exact Mine.d_6 ‹_› | exact Mine.d_7 ‹_› | exact Mine.d_8 ‹_› | exact Mine.d_9 ‹_› | fail))
  (k_with "fn ctx" => (((case k1 => k_asm); (case k2 => k_asm); (case k3 => k_asm); (case k4 => k_asm); (case k5 => k_asm); (case kK => first | exact rfl | assumption); (case kd => ktr_room); (case ku => ktr_units))))
  (k_with "call ref" => ((k_here; (with_reducible show wpAny _ _ (call (Value.ref 228) _ _) _ _ _); k_dflt (refine' (law_kind).use ?k1 ?k2 ?k3 ?k4 ?k5 ?kK ?kd ?ku ?kz ?_; (walk_at "fn ctx"); (case kz => exact fun _ h => nomatch h); intro zqr9 zqh9 zqtk9 zqF9 zqN9 zqk9 zqho9; obtain ⟨zqt9, zqhr9⟩ := zqho9; subst zqhr9; (try dsimp only); (try k_sweep)))))
  (k_with "call ref" => ((k_here; (with_reducible show wpAny _ _ (call (Value.ref 235) _ _) _ _ _); k_dflt (refine' (law_worth).use ?k1 ?k2 ?k3 ?k4 ?k5 ?kK ?kd ?ku ?kz ?_; (walk_at "fn ctx"); (case kz => exact fun _ h => nomatch h); intro zqr9 zqh9 zqtk9 zqF9 zqN9 zqk9 zqho9; obtain ⟨zqt9, zqhr9⟩ := zqho9; subst zqhr9; (try dsimp only); (try k_sweep)))))
  (k_with "call builtin:len" => ((k_here; (with_reducible show wpAny _ _ (call (Value.builtin "len") [Value.ref _]) _ _ _); k_dflt (first | (refine' len_led ?k1 ?k2 ?k3 ?_; (case k1 => k_asm); (case k2 => k_mem); (case k3 => first | with_reducible assumption | omega | (simp only [List.size_toArray, List.length_map]; omega)); k_whole) | (refine' len_base ?k1 ?k2 ?k3 ?_; (case k1 => k_asm); (case k2 => with_reducible assumption); (case k3 => first | with_reducible assumption | omega); k_whole)))))
  (k_with "m look" => (first | with_reducible assumption | (with_reducible exact lk_hit rfl) | (with_reducible refine' lk_ne ?hh ?hv; (case hh => decide); (case hv => walk_at "m look"))))
  (k_with "eval Name" => ((k_here; k_dflt (refine' nameX_L ?F ?v ?_ ?a ?b; (case b => rfl); (case a => rfl); (case F => k_asm); (case v => walk_at "m look"); k_whole))))
  (k_with "binaryOp Add ref ref" => ((k_here; (with_reducible show wpAny _ _ (binaryOp Operator.Add (Value.ref _) (Value.ref _)) _ _ _); k_dflt (refine' kmk_add_lit ?F ?N ?a ?b rfl ?_ ?z; (case F => k_asm); (case N => k_asm); (case a => is_list); (case b => is_list); (case z => (simp only [List.length_map, List.length_append, List.length_cons, List.length_nil, sizeLine_eq]; omega)); k_whole); intro zqD' zqh' zqF' zqN' zql1; (try k_lt zql1); (try k_sweep))))
  (k_with "compareOp NotEq ref ref" => ((k_here; (with_reducible show wpAny _ _ (compareOp CmpOp.NotEq (Value.ref _) (Value.ref _)) _ _ _); k_dflt (refine' ne_intsK (us := []) ?k1 ?k2 ?k3 IntsAre.nil ?k5 ?_; (case k1 => is_list); (case k2 => exact intsAre_IT _); (case k3 => is_list); (case k5 => ktr_units); k_whole))))
  (k_with "subscriptTail Name Constant ref int" => ((k_here; k_dflt (refine' item_led ?k1 ?k2 ?k3 ?k4 ?k5 ?_ ?k7; (case k7 => with_unfolding_all rfl); (case k1 => k_asm); (case k2 => k_mem); (case k5 => with_reducible assumption); (case k3 => first | with_reducible assumption | omega); (case k4 => first | with_reducible assumption | omega); k_whole))))
  trivial
theorem old_end {g h : Heap} {L D l1 a b Df Dp : Addr} {o1 oDf o : Obj} {e2 e3 : Addr × Obj} {x1 x2 y1 y2 : Str} {t1 t2 u1 u2 : Tok} {ps : List Pr} {tail : Led}
    (N : News g L h ((D, listOf ((#[Value.ref a].toList ++ (ps.map Pr.v).toArray.toList).toArray.toList ++ #[Value.ref b].toList).toArray 0) :: (l1, o1) :: (b, tup2 (.str x2 t2) (.str y2 u2)) :: e2 :: e3 :: (a, tup2 (.str x1 t1) (.str y1 u1)) :: (Df, oDf) :: (Dp, o) :: tail)) :
    News g L h ((D, listOf (((⟨a, x1, t1, y1, u1⟩ : Pr) :: (ps ++ [(⟨b, x2, t2, y2, u2⟩ : Pr)])).map Pr.v).toArray 0) :: Pr.e ⟨a, x1, t1, y1, u1⟩ :: Pr.e ⟨b, x2, t2, y2, u2⟩ :: (Df, oDf) :: (Dp, o) :: tail) := by
  have e : ((#[Value.ref a].toList ++ (ps.map Pr.v).toArray.toList).toArray.toList ++ #[Value.ref b].toList) = ((⟨a, x1, t1, y1, u1⟩ : Pr) :: (ps ++ [(⟨b, x2, t2, y2, u2⟩ : Pr)])).map Pr.v := by simp
  rw [e] at N
  refine cb_drop N fun p hp => ?_
  simp only [List.mem_cons] at hp ⊢
  rcases hp with hp | hp | hp | hp | hp | hp
  · exact .inl hp
  · exact .inr (.inr (.inr (.inr (.inr (.inl hp)))))
  · exact .inr (.inr (.inl hp))
  · exact .inr (.inr (.inr (.inr (.inr (.inr (.inl hp))))))
  · exact .inr (.inr (.inr (.inr (.inr (.inr (.inr (.inl hp)))))))
  · exact .inr (.inr (.inr (.inr (.inr (.inr (.inr (.inr hp)))))))
theorem new_end {g h : Heap} {L D l1 b : Addr} {o1 : Obj} {x2 y2 : Str} {t2 u2 : Tok} {ps : List Pr} {whole tail : Led} {e4 : Addr × Obj} (hpe : ∀ q ∈ ps, q.e ∈ tail) (hsub : ∀ p ∈ tail, p ∈ whole)
    (N : News g L h ((D, listOf ((ps.map Pr.v).toArray.toList ++ #[Value.ref b].toList).toArray 0) :: (l1, o1) :: (b, tup2 (.str x2 t2) (.str y2 u2)) :: e4 :: whole)) :
    News g L h ((D, listOf ((ps ++ [(⟨b, x2, t2, y2, u2⟩ : Pr)]).map Pr.v).toArray 0) :: ((ps ++ [(⟨b, x2, t2, y2, u2⟩ : Pr)]).map Pr.e ++ tail)) := by
  have e : ((ps.map Pr.v).toArray.toList ++ #[Value.ref b].toList) = (ps ++ [(⟨b, x2, t2, y2, u2⟩ : Pr)]).map Pr.v := by simp
  rw [e] at N
  refine cb_drop N fun p hp => ?_
  simp only [List.mem_cons, List.mem_append, List.map_append, List.map_cons, List.map_nil, List.not_mem_nil, or_false] at hp ⊢
  rcases hp with hp | (hp | hp) | hp
  · exact .inl hp
  · obtain ⟨q, hq, rfl⟩ := List.mem_map.mp hp
    exact .inr (.inr (.inr (.inr (hsub _ (hpe q hq)))))
  · exact .inr (.inr (.inl hp))
  · exact .inr (.inr (.inr (.inr (hsub _ hp))))
section
variable {w : World} {mean : ExcName → Option Value} {mg mb : Str → Option Value} {dp un : Nat} {gd : Option (List Code)} {cn : Str} {cs : Scope} {a : Addr} {ccd : Value} {cl : List (Str × Addr)} {outer : List Env} {base g' : Heap} {L L' : Addr} {s : Shared} {Q : Flow → Shared → Prop} {E : Value → Shared → Prop} {m : Str → Option Value}
set_option maxRecDepth 100000 in
set_option maxHeartbeats 8000000 in
theorem due_old (C : Ctx w mean mg mb dp un gd cn cs a ccd cl outer base g' L) {Df Dp : Addr} {oDf : Obj} {ps : List Pr} {tail : Led} (hpl : ps.length ≤ 100)
    (F : Fr g' L' s.heap m) (N : News g' L' s.heap ((Df, oDf) :: (Dp, LCg.lst (ps.map Pr.v)) :: tail)) (hmp : m (Str.ofString "pairs") = some (.ref Dp))
    (k : ∀ Dq (q1 q2 : Pr) h tk, Fr g' L' h (fun y => if y = Str.ofString "old" then some (.ref Dq) else m y) → News g' L' h ((Dq, listOf ((q1 :: (ps ++ [q2])).map Pr.v).toArray 0) :: q1.e :: q2.e :: (Df, oDf) :: (Dp, LCg.lst (ps.map Pr.v)) :: tail) → (q1.x = Str.ofString "content-type" ∧ q1.y = Str.ofString "text/none" ∧ q2.x = Str.ofString "CONTENT-Type" ∧ q2.y = Str.ofString "text/other") → Q .next { s with heap := h, toks := tk }) :
    wpAny (model PG w) ((ktrTop dp un gd cn cs L a ccd cl outer).deeper (dueEnv L')) (exec dueSt6 (dueEnv L')) Q E s := by
  obtain ⟨B', X', T', hk, hdp, hun⟩ := C
  unfold dueSt6 dueEnv
  dsimp only [st0, tl0]

  repeat' (first | (k_unfold; (try dsimp only)) | ((fail_if_success (with_reducible show wpAny _ _ (eval (Expr.ListComp _ _ _ _) _) _ _ _)); (fail_if_success (with_reducible show wpAny _ _ (exec (Stmt.Assign [_] (Expr.ListComp _ _ _ _) _) _) _ _ _)); (fail_if_success (with_reducible show LCt.CompSrcT _ _ _ _ _ _ _ _ _ _ _ _ _ _ _)); (fail_if_success (with_reducible show LCg.CompSrc _ _ _ _ _ _ _ _ _ _ _ _ _ _)); (fail_if_success (with_reducible show LCg.CompEnd _ _ _ _ _ _ _ _ _ _ _ _ _ _)); (fail_if_success (with_reducible show @ite _ _ _ _ _)); (fail_if_success (with_reducible show wpAny _ _ (pyIter _) _ _ _)); (fail_if_success (with_reducible show Q _ _)); (fail_if_success (with_reducible show UnrPost _ _ _ _ _ _ _ _ _)); (fail_if_success (with_reducible show ∃ _, _)); walk1) | ((fail_if_success (with_reducible show wpAny _ _ (eval (Expr.ListComp _ _ _ _) _) _ _ _)); (fail_if_success (with_reducible show wpAny _ _ (exec (Stmt.Assign [_] (Expr.ListComp _ _ _ _) _) _) _ _ _)); (fail_if_success (with_reducible show LCt.CompSrcT _ _ _ _ _ _ _ _ _ _ _ _ _ _ _)); (fail_if_success (with_reducible show LCg.CompSrc _ _ _ _ _ _ _ _ _ _ _ _ _ _)); (fail_if_success (with_reducible show LCg.CompEnd _ _ _ _ _ _ _ _ _ _ _ _ _ _)); (fail_if_success (with_reducible show @ite _ _ _ _ _)); (fail_if_success (with_reducible show wpAny _ _ (pyIter _) _ _ _)); (fail_if_success (with_reducible show Q _ _)); (fail_if_success (with_reducible show UnrPost _ _ _ _ _ _ _ _ _)); (fail_if_success (with_reducible show ∃ _, _)); dsimp only; walk1))

  rename Fr g' L' _ _ => kF9
  rename News g' L' _ _ => kN9
  exact k _ _ _ _ _ kF9 (old_end kN9) ⟨rfl, rfl, rfl, rfl⟩
set_option maxRecDepth 100000 in
set_option maxHeartbeats 8000000 in
theorem due_new (C : Ctx w mean mg mb dp un gd cn cs a ccd cl outer base g' L) {Dq Df Dp : Addr} {q1 q2 : Pr} {ps : List Pr} {us : List IT} {tail : Led} (hpl : ps.length ≤ 100) (hpe : ∀ q ∈ ps, q.e ∈ tail)
    (F : Fr g' L' s.heap m) (N : News g' L' s.heap ((Dq, listOf ((q1 :: (ps ++ [q2])).map Pr.v).toArray 0) :: q1.e :: q2.e :: (Df, LCg.lst (us.map IT.v)) :: (Dp, LCg.lst (ps.map Pr.v)) :: tail)) (hmp : m (Str.ofString "pairs") = some (.ref Dp)) (hmf : m (Str.ofString "fit") = some (.ref Df)) (hmq : m (Str.ofString "old") = some (.ref Dq))
    (k : ∀ Dn nn (qs : List Pr) h tk, Fr g' L' h (fun y => if y = Str.ofString "pairs" then some (.ref Dn) else m y) → News g' L' h ((Dn, listOf (qs.map Pr.v).toArray nn) :: (qs.map Pr.e ++ tail)) → qs.map (fun p => (p.x, p.y)) = (match us with | [] => (q1 :: (ps ++ [q2])).map (fun p => (p.x, p.y)) | u :: _ => ps.map (fun p => (p.x, p.y)) ++ [(Str.ofString "Content-Type", kindS u.1)]) → Q .next { s with heap := h, toks := tk }) :
    wpAny (model PG w) ((ktrTop dp un gd cn cs L a ccd cl outer).deeper (dueEnv L')) (exec dueSt7 (dueEnv L')) Q E s := by
  obtain ⟨B', X', T', hk, hdp, hun⟩ := C
  unfold dueSt7 dueEnv
  dsimp only [st0, tl0]

  repeat' (first | (k_unfold; (try dsimp only)) | ((fail_if_success (with_reducible show wpAny _ _ (eval (Expr.ListComp _ _ _ _) _) _ _ _)); (fail_if_success (with_reducible show wpAny _ _ (exec (Stmt.Assign [_] (Expr.ListComp _ _ _ _) _) _) _ _ _)); (fail_if_success (with_reducible show LCt.CompSrcT _ _ _ _ _ _ _ _ _ _ _ _ _ _ _)); (fail_if_success (with_reducible show LCg.CompSrc _ _ _ _ _ _ _ _ _ _ _ _ _ _)); (fail_if_success (with_reducible show LCg.CompEnd _ _ _ _ _ _ _ _ _ _ _ _ _ _)); (fail_if_success (with_reducible show @ite _ _ _ _ _)); (fail_if_success (with_reducible show wpAny _ _ (pyIter _) _ _ _)); (fail_if_success (with_reducible show Q _ _)); (fail_if_success (with_reducible show UnrPost _ _ _ _ _ _ _ _ _)); (fail_if_success (with_reducible show ∃ _, _)); walk1) | ((fail_if_success (with_reducible show wpAny _ _ (eval (Expr.ListComp _ _ _ _) _) _ _ _)); (fail_if_success (with_reducible show wpAny _ _ (exec (Stmt.Assign [_] (Expr.ListComp _ _ _ _) _) _) _ _ _)); (fail_if_success (with_reducible show LCt.CompSrcT _ _ _ _ _ _ _ _ _ _ _ _ _ _ _)); (fail_if_success (with_reducible show LCg.CompSrc _ _ _ _ _ _ _ _ _ _ _ _ _ _)); (fail_if_success (with_reducible show LCg.CompEnd _ _ _ _ _ _ _ _ _ _ _ _ _ _)); (fail_if_success (with_reducible show @ite _ _ _ _ _)); (fail_if_success (with_reducible show wpAny _ _ (pyIter _) _ _ _)); (fail_if_success (with_reducible show Q _ _)); (fail_if_success (with_reducible show UnrPost _ _ _ _ _ _ _ _ _)); (fail_if_success (with_reducible show ∃ _, _)); dsimp only; walk1))

  cases us with
  | nil =>
    refine iteF (by decide) ?_
    repeat' (first | (k_unfold; (try dsimp only)) | ((fail_if_success (with_reducible show wpAny _ _ (eval (Expr.ListComp _ _ _ _) _) _ _ _)); (fail_if_success (with_reducible show wpAny _ _ (exec (Stmt.Assign [_] (Expr.ListComp _ _ _ _) _) _) _ _ _)); (fail_if_success (with_reducible show LCt.CompSrcT _ _ _ _ _ _ _ _ _ _ _ _ _ _ _)); (fail_if_success (with_reducible show LCg.CompSrc _ _ _ _ _ _ _ _ _ _ _ _ _ _)); (fail_if_success (with_reducible show LCg.CompEnd _ _ _ _ _ _ _ _ _ _ _ _ _ _)); (fail_if_success (with_reducible show @ite _ _ _ _ _)); (fail_if_success (with_reducible show wpAny _ _ (pyIter _) _ _ _)); (fail_if_success (with_reducible show Q _ _)); (fail_if_success (with_reducible show UnrPost _ _ _ _ _ _ _ _ _)); (fail_if_success (with_reducible show ∃ _, _)); walk1) | ((fail_if_success (with_reducible show wpAny _ _ (eval (Expr.ListComp _ _ _ _) _) _ _ _)); (fail_if_success (with_reducible show wpAny _ _ (exec (Stmt.Assign [_] (Expr.ListComp _ _ _ _) _) _) _ _ _)); (fail_if_success (with_reducible show LCt.CompSrcT _ _ _ _ _ _ _ _ _ _ _ _ _ _ _)); (fail_if_success (with_reducible show LCg.CompSrc _ _ _ _ _ _ _ _ _ _ _ _ _ _)); (fail_if_success (with_reducible show LCg.CompEnd _ _ _ _ _ _ _ _ _ _ _ _ _ _)); (fail_if_success (with_reducible show @ite _ _ _ _ _)); (fail_if_success (with_reducible show wpAny _ _ (pyIter _) _ _ _)); (fail_if_success (with_reducible show Q _ _)); (fail_if_success (with_reducible show UnrPost _ _ _ _ _ _ _ _ _)); (fail_if_success (with_reducible show ∃ _, _)); dsimp only; walk1))

    rename Fr g' L' _ _ => kF9
    rename News g' L' _ _ => kN9
    refine k _ 0 _ _ _ kF9 (cb_drop kN9 fun p hp => ?_) rfl
    simp only [List.mem_cons, List.mem_append, List.map_append, List.map_cons, List.map_nil, List.not_mem_nil, or_false] at hp ⊢
    rcases hp with hp | (hp | hp | hp) | hp
    · exact .inr (.inl hp)
    · exact .inr (.inr (.inl hp))
    · obtain ⟨q, hq, rfl⟩ := List.mem_map.mp hp
      exact .inr (.inr (.inr (.inr (.inr (.inr (hpe q hq))))))
    · exact .inr (.inr (.inr (.inl hp)))
    · exact .inr (.inr (.inr (.inr (.inr (.inr hp)))))
  | cons u us =>
    refine iteT (by simp) ?_
    have h0 : (((u :: us).map IT.v).toArray)[(0 : Int).toNat]? = some (.int u.1 u.2) := rfl
    repeat' (first | (k_unfold; (try dsimp only)) | ((fail_if_success (with_reducible show wpAny _ _ (eval (Expr.ListComp _ _ _ _) _) _ _ _)); (fail_if_success (with_reducible show wpAny _ _ (exec (Stmt.Assign [_] (Expr.ListComp _ _ _ _) _) _) _ _ _)); (fail_if_success (with_reducible show LCt.CompSrcT _ _ _ _ _ _ _ _ _ _ _ _ _ _ _)); (fail_if_success (with_reducible show LCg.CompSrc _ _ _ _ _ _ _ _ _ _ _ _ _ _)); (fail_if_success (with_reducible show LCg.CompEnd _ _ _ _ _ _ _ _ _ _ _ _ _ _)); (fail_if_success (with_reducible show @ite _ _ _ _ _)); (fail_if_success (with_reducible show wpAny _ _ (pyIter _) _ _ _)); (fail_if_success (with_reducible show Q _ _)); (fail_if_success (with_reducible show UnrPost _ _ _ _ _ _ _ _ _)); (fail_if_success (with_reducible show ∃ _, _)); walk1) | ((fail_if_success (with_reducible show wpAny _ _ (eval (Expr.ListComp _ _ _ _) _) _ _ _)); (fail_if_success (with_reducible show wpAny _ _ (exec (Stmt.Assign [_] (Expr.ListComp _ _ _ _) _) _) _ _ _)); (fail_if_success (with_reducible show LCt.CompSrcT _ _ _ _ _ _ _ _ _ _ _ _ _ _ _)); (fail_if_success (with_reducible show LCg.CompSrc _ _ _ _ _ _ _ _ _ _ _ _ _ _)); (fail_if_success (with_reducible show LCg.CompEnd _ _ _ _ _ _ _ _ _ _ _ _ _ _)); (fail_if_success (with_reducible show @ite _ _ _ _ _)); (fail_if_success (with_reducible show wpAny _ _ (pyIter _) _ _ _)); (fail_if_success (with_reducible show Q _ _)); (fail_if_success (with_reducible show UnrPost _ _ _ _ _ _ _ _ _)); (fail_if_success (with_reducible show ∃ _, _)); dsimp only; walk1))

    rename Fr g' L' _ _ => kF9
    rename News g' L' _ _ => kN9
    exact k _ 0 _ _ _ kF9 (new_end hpe (fun q hq => .tail _ (.tail _ (.tail _ (.tail _ (.tail _ hq))))) kN9) (by simp only [List.map_append, List.map_cons, List.map_nil])
end
end
section
open PySem PySem.W PyProof.Rows PySem.Spec
theorem lines_R9 : True := by
  k_with_none
  (k_with "om" => (with_reducible first | assumption | exact Nat.ne_of_lt ‹_› | exact Nat.ne_of_gt ‹_› | exact Ne.symm ‹_› | exact Mine.o_a ‹_› (by decide) | exact Mine.o_b ‹_› (by decide) | exact Mine.o_c ‹_› | exact Mine.o_le (n := 100) ‹_› (by decide) | exact Mine.o_le ‹_› (by decide) | exact Mine.o_l ‹_› (by decide) | exact Mine.o_1 (n := 100) ‹_› (by decide) | exact Mine.o_2 (n := 100) ‹_› (by decide) | exact Mine.o_lt (n := 100) ‹_› (by decide) | exact Mine.o_lt ‹_› (by decide) | exact Mine.o_ll ‹_› (by decide) | exact Mine.o_s ‹_› | exact Mine.o_n _ | exact Mine.o_0 _ | exact Mine.o_i ‹_› (by decide) | exact Mine.o_m ‹_› (by decide) | exact Mine.o_j (n := 100) ‹_› ‹_› (by decide) | exact Mine.o_k ‹_› ‹_› (by decide) | exact Mine.o_e (n := 100) ‹_› ‹_› (by decide) | exact Nat.ne_of_lt (by k_extra "cj") | exact Nat.ne_of_gt (by k_extra "cj") | exact Ne.symm (by k_extra "cj") | k_extra "cj" | fail))
  (k_with "cj" => (first | exact And.left ‹_› | exact Mine.c_2 ‹_› | exact Mine.c_3 ‹_› | exact Mine.c_4 ‹_› | exact Mine.c_5 ‹_› | exact Mine.c_6 ‹_› | exact Mine.c_7 ‹_› | exact Mine.c_8 ‹_› | exact Mine.c_9 ‹_› | exact And.right ‹_› | exact Mine.d_3 ‹_› | exact Mine.d_4 ‹_› | exact Mine.d_5 ‹_› | exact Mine.d_6 ‹_› | exact Mine.d_7 ‹_› | exact Mine.d_8 ‹_› | exact Mine.d_9 ‹_› | fail))
  (k_with "fn ctx" => (((case k1 => k_asm); (case k2 => k_asm); (case k3 => k_asm); (case k4 => k_asm); (case k5 => k_asm); (case kK => first | exact rfl | assumption); (case kd => ktr_room); (case ku => ktr_units))))
  (k_with "call ref" => ((k_here; (with_reducible show wpAny _ _ (call (Value.ref 228) _ _) _ _ _); k_dflt (refine' (law_kind).use ?k1 ?k2 ?k3 ?k4 ?k5 ?kK ?kd ?ku ?kz ?_; (walk_at "fn ctx"); (case kz => exact fun _ h => nomatch h); intro zqr9 zqh9 zqtk9 zqF9 zqN9 zqk9 zqho9; obtain ⟨zqt9, zqhr9⟩ := zqho9; subst zqhr9; (try dsimp only); (try k_sweep)))))
  (k_with "call ref" => ((k_here; (with_reducible show wpAny _ _ (call (Value.ref 235) _ _) _ _ _); k_dflt (refine' (law_worth).use ?k1 ?k2 ?k3 ?k4 ?k5 ?kK ?kd ?ku ?kz ?_; (walk_at "fn ctx"); (case kz => exact fun _ h => nomatch h); intro zqr9 zqh9 zqtk9 zqF9 zqN9 zqk9 zqho9; obtain ⟨zqt9, zqhr9⟩ := zqho9; subst zqhr9; (try dsimp only); (try k_sweep)))))
  (k_with "call builtin:len" => ((k_here; (with_reducible show wpAny _ _ (call (Value.builtin "len") [Value.ref _]) _ _ _); k_dflt (first | (refine' len_led ?k1 ?k2 ?k3 ?_; (case k1 => k_asm); (case k2 => k_mem); (case k3 => first | with_reducible assumption | omega | (simp only [List.size_toArray, List.length_map]; omega)); k_whole) | (refine' len_base ?k1 ?k2 ?k3 ?_; (case k1 => k_asm); (case k2 => with_reducible assumption); (case k3 => first | with_reducible assumption | omega); k_whole)))))
  (k_with "m look" => (first | with_reducible assumption | (with_reducible exact lk_hit rfl) | (with_reducible refine' lk_ne ?hh ?hv; (case hh => decide); (case hv => walk_at "m look"))))
  (k_with "eval Name" => ((k_here; k_dflt (refine' nameX_L ?F ?v ?_ ?a ?b; (case b => rfl); (case a => rfl); (case F => k_asm); (case v => walk_at "m look"); k_whole))))
  (k_with "compareOp NotIn str ref" => ((k_here; (with_reducible show wpAny _ _ (compareOp CmpOp.NotIn (Value.str _ _) (Value.ref _)) _ _ _); k_dflt (first | (refine' notIn_strs ?k1 ?k2 ?k3 ?k5 ?_; (case k1 => exact PySem.IsL.isList (Fr.keep (by k_asm) _ _ (by with_reducible assumption))); (case k2 => with_reducible assumption); (case k3 => with_reducible assumption); (case k5 => ktr_units); k_whole) | (refine' notIn_strs ?k1 ?k2 ?k3 ?k5 ?_; (case k1 => exact PySem.IsL.isList (News.get (by k_asm) (by k_mem))); (case k2 => with_reducible assumption); (case k3 => with_reducible assumption); (case k5 => ktr_units); k_whole)))))
  trivial
def lackL (as bs : List ST) : List ST := as.filter fun x => !decide (x.1 ∈ bs.map (·.1))
section
variable {w : World} {mean : ExcName → Option Value} {mg mb : Str → Option Value} {dp un : Nat} {gd : Option (List Code)} {cn : Str} {cs : Scope} {a : Addr} {ccd : Value} {cl : List (Str × Addr)} {outer : List Env} {base g' : Heap} {L L' : Addr} {s : Shared} {Q : Flow → Shared → Prop} {E : Value → Shared → Prop} {m : Str → Option Value}
variable {nl tl : Addr} {n1 n2 : Nat} {xs : List IT} {th : List ST} {c1 c2 c3 c4 c5 : Obj}
set_option maxRecDepth 100000 in
set_option maxHeartbeats 8000000 in
theorem due_miss (C : Ctx w mean mg mb dp un gd cn cs a ccd cl outer base g' L) (hb2 : g'.get? tl = some (lst (svals th) n2)) (hth : ∀ y ∈ th.map (·.1), okS y) (hl2 : th.length ≤ 100) {Dk : Addr} {kz : List ST} (hkz : ∀ y ∈ kz.map (·.1), okS y) (hl3 : kz.length ≤ 100) {tail : Led}
    (F : Fr g' L' s.heap m) (N : News g' L' s.heap ((Dk, LCg.lst (kz.map ST.v)) :: (L' + 1 + 1 + 1 + 1 + 1, c5) :: (L' + 1 + 1 + 1 + 1, c4) :: (L' + 1 + 1 + 1, c3) :: (L' + 1 + 1, c2) :: (L' + 1, c1) :: tail)) (d2 : c2.data = .cell (some (.ref tl))) (d5 : c5.data = .cell (some (.ref Dk)))
    (k : ∀ Dm Du h tk, Fr g' L' h (fun y => if y = Str.ofString "missing" then some (.ref Dm) else if y = Str.ofString "unwished" then some (.ref Du) else m y) → News g' L' h ((Du, LCg.lst ((lackL th kz).map ST.v)) :: (Dm, LCg.lst ((lackL kz th).map ST.v)) :: (Dk, LCg.lst (kz.map ST.v)) :: (L' + 1 + 1 + 1 + 1 + 1, c5) :: (L' + 1 + 1 + 1 + 1, c4) :: (L' + 1 + 1 + 1, c3) :: (L' + 1 + 1, c2) :: (L' + 1, c1) :: tail) → Q .next { s with heap := h, toks := tk }) :
    wpAny (model PG w) ((ktrTop dp un gd cn cs L a ccd cl outer).deeper (dueEnv L')) (exec dueSt8 (dueEnv L')) Q E s := by
  obtain ⟨B', X', T', hk, hdp, hun⟩ := C
  unfold dueSt8 dueEnv
  dsimp only [st0, tl0]

  have hi2 : g'.IsList tl (svals th) := PySem.IsL.isList hb2
  repeat' (first | (k_unfold; (try dsimp only)) | ((fail_if_success (with_reducible show wpAny _ _ (eval (Expr.ListComp _ _ _ _) _) _ _ _)); (fail_if_success (with_reducible show wpAny _ _ (exec (Stmt.Assign [_] (Expr.ListComp _ _ _ _) _) _) _ _ _)); (fail_if_success (with_reducible show LCt.CompSrcT _ _ _ _ _ _ _ _ _ _ _ _ _ _ _)); (fail_if_success (with_reducible show LCg.CompSrc _ _ _ _ _ _ _ _ _ _ _ _ _ _)); (fail_if_success (with_reducible show LCg.CompEnd _ _ _ _ _ _ _ _ _ _ _ _ _ _)); (fail_if_success (with_reducible show @ite _ _ _ _ _)); (fail_if_success (with_reducible show wpAny _ _ (pyIter _) _ _ _)); (fail_if_success (with_reducible show Q _ _)); (fail_if_success (with_reducible show UnrPost _ _ _ _ _ _ _ _ _)); (fail_if_success (with_reducible show ∃ _, _)); walk1) | ((fail_if_success (with_reducible show wpAny _ _ (eval (Expr.ListComp _ _ _ _) _) _ _ _)); (fail_if_success (with_reducible show wpAny _ _ (exec (Stmt.Assign [_] (Expr.ListComp _ _ _ _) _) _) _ _ _)); (fail_if_success (with_reducible show LCt.CompSrcT _ _ _ _ _ _ _ _ _ _ _ _ _ _ _)); (fail_if_success (with_reducible show LCg.CompSrc _ _ _ _ _ _ _ _ _ _ _ _ _ _)); (fail_if_success (with_reducible show LCg.CompEnd _ _ _ _ _ _ _ _ _ _ _ _ _ _)); (fail_if_success (with_reducible show @ite _ _ _ _ _)); (fail_if_success (with_reducible show wpAny _ _ (pyIter _) _ _ _)); (fail_if_success (with_reducible show Q _ _)); (fail_if_success (with_reducible show UnrPost _ _ _ _ _ _ _ _ _)); (fail_if_success (with_reducible show ∃ _, _)); dsimp only; walk1))

  rename Fr g' L' _ _ => kF9
  refine LCt.ListComp_T (F₀ := kF9) (by with_unfolding_all rfl) (by decide) (by rfl) (by decide) (by rfl) ?_
  repeat' (first | (k_unfold; (try dsimp only)) | ((fail_if_success (with_reducible show wpAny _ _ (eval (Expr.ListComp _ _ _ _) _) _ _ _)); (fail_if_success (with_reducible show wpAny _ _ (exec (Stmt.Assign [_] (Expr.ListComp _ _ _ _) _) _) _ _ _)); (fail_if_success (with_reducible show LCt.CompSrcT _ _ _ _ _ _ _ _ _ _ _ _ _ _ _)); (fail_if_success (with_reducible show LCg.CompSrc _ _ _ _ _ _ _ _ _ _ _ _ _ _)); (fail_if_success (with_reducible show LCg.CompEnd _ _ _ _ _ _ _ _ _ _ _ _ _ _)); (fail_if_success (with_reducible show @ite _ _ _ _ _)); (fail_if_success (with_reducible show wpAny _ _ (pyIter _) _ _ _)); (fail_if_success (with_reducible show Q _ _)); (fail_if_success (with_reducible show UnrPost _ _ _ _ _ _ _ _ _)); (fail_if_success (with_reducible show ∃ _, _)); walk1) | ((fail_if_success (with_reducible show wpAny _ _ (eval (Expr.ListComp _ _ _ _) _) _ _ _)); (fail_if_success (with_reducible show wpAny _ _ (exec (Stmt.Assign [_] (Expr.ListComp _ _ _ _) _) _) _ _ _)); (fail_if_success (with_reducible show LCt.CompSrcT _ _ _ _ _ _ _ _ _ _ _ _ _ _ _)); (fail_if_success (with_reducible show LCg.CompSrc _ _ _ _ _ _ _ _ _ _ _ _ _ _)); (fail_if_success (with_reducible show LCg.CompEnd _ _ _ _ _ _ _ _ _ _ _ _ _ _)); (fail_if_success (with_reducible show @ite _ _ _ _ _)); (fail_if_success (with_reducible show wpAny _ _ (pyIter _) _ _ _)); (fail_if_success (with_reducible show Q _ _)); (fail_if_success (with_reducible show UnrPost _ _ _ _ _ _ _ _ _)); (fail_if_success (with_reducible show ∃ _, _)); dsimp only; walk1))

  rename News g' L' _ _ => kN9
  refine LCt.CompSrcT.ledger (its := svals kz) rfl kF9 kN9 (by k_mem) (by rw [svals_size, sizeLine_eq]; omega) (fun g => restT_ind (fun i ys news => news = _ :: _ :: _ :: _ :: _ :: _ :: tail ∧ ys = (lackL (kz.take i) th).map ST.v) ?elem ?fin _ 0 [] _ (Nat.zero_add _) ⟨rfl, rfl⟩)
  case elem =>
    clear kF9 kN9
    rintro i hi ys news ⟨rfl, rfl⟩ v I oI C oC D m₂ h tk E' hP hNs hx F9 N9 off hne
    have hi' : i < kz.length := by rw [← svals_size]; exact hi
    have hk0 : kz[i]? = some kz[i] := List.getElem?_eq_getElem hi'
    generalize kz[i] = z at hk0
    have hv : v = .str z.1 z.2 := by have := hP; simp [svals, hk0] at this; exact this.symm
    subst hv
    have hzo : okS z.1 := hkz _ (List.mem_map_of_mem (List.mem_of_getElem? hk0))
    have htake : kz.take (i + 1) = kz.take i ++ [z] := by rw [List.take_add_one, hk0]; rfl
    repeat' (first | (k_unfold; (try dsimp only)) | ((fail_if_success (with_reducible show wpAny _ _ (eval (Expr.ListComp _ _ _ _) _) _ _ _)); (fail_if_success (with_reducible show wpAny _ _ (exec (Stmt.Assign [_] (Expr.ListComp _ _ _ _) _) _) _ _ _)); (fail_if_success (with_reducible show LCt.CompSrcT _ _ _ _ _ _ _ _ _ _ _ _ _ _ _)); (fail_if_success (with_reducible show LCg.CompSrc _ _ _ _ _ _ _ _ _ _ _ _ _ _)); (fail_if_success (with_reducible show LCg.CompEnd _ _ _ _ _ _ _ _ _ _ _ _ _ _)); (fail_if_success (with_reducible show @ite _ _ _ _ _)); (fail_if_success (with_reducible show wpAny _ _ (pyIter _) _ _ _)); (fail_if_success (with_reducible show Q _ _)); (fail_if_success (with_reducible show UnrPost _ _ _ _ _ _ _ _ _)); (fail_if_success (with_reducible show ∃ _, _)); walk1) | ((fail_if_success (with_reducible show wpAny _ _ (eval (Expr.ListComp _ _ _ _) _) _ _ _)); (fail_if_success (with_reducible show wpAny _ _ (exec (Stmt.Assign [_] (Expr.ListComp _ _ _ _) _) _) _ _ _)); (fail_if_success (with_reducible show LCt.CompSrcT _ _ _ _ _ _ _ _ _ _ _ _ _ _ _)); (fail_if_success (with_reducible show LCg.CompSrc _ _ _ _ _ _ _ _ _ _ _ _ _ _)); (fail_if_success (with_reducible show LCg.CompEnd _ _ _ _ _ _ _ _ _ _ _ _ _ _)); (fail_if_success (with_reducible show @ite _ _ _ _ _)); (fail_if_success (with_reducible show wpAny _ _ (pyIter _) _ _ _)); (fail_if_success (with_reducible show Q _ _)); (fail_if_success (with_reducible show UnrPost _ _ _ _ _ _ _ _ _)); (fail_if_success (with_reducible show ∃ _, _)); dsimp only; walk1))

    by_cases hq : (!decide (z.1 ∈ th.map (·.1))) = true
    · refine iteT hq ?_
      repeat' (first | (k_unfold; (try dsimp only)) | ((fail_if_success (with_reducible show wpAny _ _ (eval (Expr.ListComp _ _ _ _) _) _ _ _)); (fail_if_success (with_reducible show wpAny _ _ (exec (Stmt.Assign [_] (Expr.ListComp _ _ _ _) _) _) _ _ _)); (fail_if_success (with_reducible show LCt.CompSrcT _ _ _ _ _ _ _ _ _ _ _ _ _ _ _)); (fail_if_success (with_reducible show LCg.CompSrc _ _ _ _ _ _ _ _ _ _ _ _ _ _)); (fail_if_success (with_reducible show LCg.CompEnd _ _ _ _ _ _ _ _ _ _ _ _ _ _)); (fail_if_success (with_reducible show @ite _ _ _ _ _)); (fail_if_success (with_reducible show wpAny _ _ (pyIter _) _ _ _)); (fail_if_success (with_reducible show Q _ _)); (fail_if_success (with_reducible show UnrPost _ _ _ _ _ _ _ _ _)); (fail_if_success (with_reducible show ∃ _, _)); walk1) | ((fail_if_success (with_reducible show wpAny _ _ (eval (Expr.ListComp _ _ _ _) _) _ _ _)); (fail_if_success (with_reducible show wpAny _ _ (exec (Stmt.Assign [_] (Expr.ListComp _ _ _ _) _) _) _ _ _)); (fail_if_success (with_reducible show LCt.CompSrcT _ _ _ _ _ _ _ _ _ _ _ _ _ _ _)); (fail_if_success (with_reducible show LCg.CompSrc _ _ _ _ _ _ _ _ _ _ _ _ _ _)); (fail_if_success (with_reducible show LCg.CompEnd _ _ _ _ _ _ _ _ _ _ _ _ _ _)); (fail_if_success (with_reducible show @ite _ _ _ _ _)); (fail_if_success (with_reducible show wpAny _ _ (pyIter _) _ _ _)); (fail_if_success (with_reducible show Q _ _)); (fail_if_success (with_reducible show UnrPost _ _ _ _ _ _ _ _ _)); (fail_if_success (with_reducible show ∃ _, _)); dsimp only; walk1))

      rename Fr g' L' _ _ => kF9
      rename News g' L' _ _ => kN9
      exact LCg.CompEnd.intro kF9 kN9 _ (fun p hp => hp) off (.inr ⟨_, (by k_mem), rfl, _, rfl⟩) ⟨rfl, by unfold lackL; rw [htake, List.filter_append, List.filter_cons, if_pos hq]; simp⟩
    · refine iteF hq ?_
      rename Fr g' L' _ _ => kF9
      rename News g' L' _ _ => kN9
      exact LCg.CompEnd.intro kF9 kN9 _ (fun p hp => hp) off (.inr ⟨_, (by k_mem), rfl, _, rfl⟩) ⟨rfl, by unfold lackL; rw [htake, List.filter_append, List.filter_cons, if_neg hq]; simp⟩
  case fin =>
    clear kF9 kN9
    rintro ys news ⟨rfl, rfl⟩ Dm h tk F9 N9 off9
    rw [svals_size, List.take_length] at N9
    repeat' (first | (k_unfold; (try dsimp only)) | ((fail_if_success (with_reducible show wpAny _ _ (eval (Expr.ListComp _ _ _ _) _) _ _ _)); (fail_if_success (with_reducible show wpAny _ _ (exec (Stmt.Assign [_] (Expr.ListComp _ _ _ _) _) _) _ _ _)); (fail_if_success (with_reducible show LCt.CompSrcT _ _ _ _ _ _ _ _ _ _ _ _ _ _ _)); (fail_if_success (with_reducible show LCg.CompSrc _ _ _ _ _ _ _ _ _ _ _ _ _ _)); (fail_if_success (with_reducible show LCg.CompEnd _ _ _ _ _ _ _ _ _ _ _ _ _ _)); (fail_if_success (with_reducible show @ite _ _ _ _ _)); (fail_if_success (with_reducible show wpAny _ _ (pyIter _) _ _ _)); (fail_if_success (with_reducible show Q _ _)); (fail_if_success (with_reducible show UnrPost _ _ _ _ _ _ _ _ _)); (fail_if_success (with_reducible show ∃ _, _)); walk1) | ((fail_if_success (with_reducible show wpAny _ _ (eval (Expr.ListComp _ _ _ _) _) _ _ _)); (fail_if_success (with_reducible show wpAny _ _ (exec (Stmt.Assign [_] (Expr.ListComp _ _ _ _) _) _) _ _ _)); (fail_if_success (with_reducible show LCt.CompSrcT _ _ _ _ _ _ _ _ _ _ _ _ _ _ _)); (fail_if_success (with_reducible show LCg.CompSrc _ _ _ _ _ _ _ _ _ _ _ _ _ _)); (fail_if_success (with_reducible show LCg.CompEnd _ _ _ _ _ _ _ _ _ _ _ _ _ _)); (fail_if_success (with_reducible show @ite _ _ _ _ _)); (fail_if_success (with_reducible show wpAny _ _ (pyIter _) _ _ _)); (fail_if_success (with_reducible show Q _ _)); (fail_if_success (with_reducible show UnrPost _ _ _ _ _ _ _ _ _)); (fail_if_success (with_reducible show ∃ _, _)); dsimp only; walk1))

    rename Fr g' L' _ _ => kF9
    refine LCt.ListComp_T (F₀ := kF9) (by with_unfolding_all rfl) (by decide) (by rfl) (by decide) (by rfl) ?_
    repeat' (first | (k_unfold; (try dsimp only)) | ((fail_if_success (with_reducible show wpAny _ _ (eval (Expr.ListComp _ _ _ _) _) _ _ _)); (fail_if_success (with_reducible show wpAny _ _ (exec (Stmt.Assign [_] (Expr.ListComp _ _ _ _) _) _) _ _ _)); (fail_if_success (with_reducible show LCt.CompSrcT _ _ _ _ _ _ _ _ _ _ _ _ _ _ _)); (fail_if_success (with_reducible show LCg.CompSrc _ _ _ _ _ _ _ _ _ _ _ _ _ _)); (fail_if_success (with_reducible show LCg.CompEnd _ _ _ _ _ _ _ _ _ _ _ _ _ _)); (fail_if_success (with_reducible show @ite _ _ _ _ _)); (fail_if_success (with_reducible show wpAny _ _ (pyIter _) _ _ _)); (fail_if_success (with_reducible show Q _ _)); (fail_if_success (with_reducible show UnrPost _ _ _ _ _ _ _ _ _)); (fail_if_success (with_reducible show ∃ _, _)); walk1) | ((fail_if_success (with_reducible show wpAny _ _ (eval (Expr.ListComp _ _ _ _) _) _ _ _)); (fail_if_success (with_reducible show wpAny _ _ (exec (Stmt.Assign [_] (Expr.ListComp _ _ _ _) _) _) _ _ _)); (fail_if_success (with_reducible show LCt.CompSrcT _ _ _ _ _ _ _ _ _ _ _ _ _ _ _)); (fail_if_success (with_reducible show LCg.CompSrc _ _ _ _ _ _ _ _ _ _ _ _ _ _)); (fail_if_success (with_reducible show LCg.CompEnd _ _ _ _ _ _ _ _ _ _ _ _ _ _)); (fail_if_success (with_reducible show @ite _ _ _ _ _)); (fail_if_success (with_reducible show wpAny _ _ (pyIter _) _ _ _)); (fail_if_success (with_reducible show Q _ _)); (fail_if_success (with_reducible show UnrPost _ _ _ _ _ _ _ _ _)); (fail_if_success (with_reducible show ∃ _, _)); dsimp only; walk1))

    rename News g' L' _ _ => kN9
    refine LCt.CompSrcT.base rfl kF9 kN9 hi2 (by rw [svals_size, sizeLine_eq]; omega) (fun g => restT_ind (fun i ys news => news = _ :: _ :: _ :: _ :: _ :: _ :: _ :: tail ∧ ys = (lackL (th.take i) kz).map ST.v) ?elem2 ?fin2 _ 0 [] _ (Nat.zero_add _) ⟨rfl, rfl⟩)
    case elem2 =>
      clear kF9 kN9
      rintro i hi ys news ⟨rfl, rfl⟩ v I oI C oC D m₂ h tk E' hP hNs hx F9 N9 off hne
      have hi' : i < th.length := by rw [← svals_size]; exact hi
      have hk0 : th[i]? = some th[i] := List.getElem?_eq_getElem hi'
      generalize th[i] = z at hk0
      have hv : v = .str z.1 z.2 := by have := hP; simp [svals, hk0] at this; exact this.symm
      subst hv
      have hzo : okS z.1 := hth _ (List.mem_map_of_mem (List.mem_of_getElem? hk0))
      have htake : th.take (i + 1) = th.take i ++ [z] := by rw [List.take_add_one, hk0]; rfl
      repeat' (first | (k_unfold; (try dsimp only)) | ((fail_if_success (with_reducible show wpAny _ _ (eval (Expr.ListComp _ _ _ _) _) _ _ _)); (fail_if_success (with_reducible show wpAny _ _ (exec (Stmt.Assign [_] (Expr.ListComp _ _ _ _) _) _) _ _ _)); (fail_if_success (with_reducible show LCt.CompSrcT _ _ _ _ _ _ _ _ _ _ _ _ _ _ _)); (fail_if_success (with_reducible show LCg.CompSrc _ _ _ _ _ _ _ _ _ _ _ _ _ _)); (fail_if_success (with_reducible show LCg.CompEnd _ _ _ _ _ _ _ _ _ _ _ _ _ _)); (fail_if_success (with_reducible show @ite _ _ _ _ _)); (fail_if_success (with_reducible show wpAny _ _ (pyIter _) _ _ _)); (fail_if_success (with_reducible show Q _ _)); (fail_if_success (with_reducible show UnrPost _ _ _ _ _ _ _ _ _)); (fail_if_success (with_reducible show ∃ _, _)); walk1) | ((fail_if_success (with_reducible show wpAny _ _ (eval (Expr.ListComp _ _ _ _) _) _ _ _)); (fail_if_success (with_reducible show wpAny _ _ (exec (Stmt.Assign [_] (Expr.ListComp _ _ _ _) _) _) _ _ _)); (fail_if_success (with_reducible show LCt.CompSrcT _ _ _ _ _ _ _ _ _ _ _ _ _ _ _)); (fail_if_success (with_reducible show LCg.CompSrc _ _ _ _ _ _ _ _ _ _ _ _ _ _)); (fail_if_success (with_reducible show LCg.CompEnd _ _ _ _ _ _ _ _ _ _ _ _ _ _)); (fail_if_success (with_reducible show @ite _ _ _ _ _)); (fail_if_success (with_reducible show wpAny _ _ (pyIter _) _ _ _)); (fail_if_success (with_reducible show Q _ _)); (fail_if_success (with_reducible show UnrPost _ _ _ _ _ _ _ _ _)); (fail_if_success (with_reducible show ∃ _, _)); dsimp only; walk1))

      by_cases hq : (!decide (z.1 ∈ kz.map (·.1))) = true
      · refine iteT hq ?_
        repeat' (first | (k_unfold; (try dsimp only)) | ((fail_if_success (with_reducible show wpAny _ _ (eval (Expr.ListComp _ _ _ _) _) _ _ _)); (fail_if_success (with_reducible show wpAny _ _ (exec (Stmt.Assign [_] (Expr.ListComp _ _ _ _) _) _) _ _ _)); (fail_if_success (with_reducible show LCt.CompSrcT _ _ _ _ _ _ _ _ _ _ _ _ _ _ _)); (fail_if_success (with_reducible show LCg.CompSrc _ _ _ _ _ _ _ _ _ _ _ _ _ _)); (fail_if_success (with_reducible show LCg.CompEnd _ _ _ _ _ _ _ _ _ _ _ _ _ _)); (fail_if_success (with_reducible show @ite _ _ _ _ _)); (fail_if_success (with_reducible show wpAny _ _ (pyIter _) _ _ _)); (fail_if_success (with_reducible show Q _ _)); (fail_if_success (with_reducible show UnrPost _ _ _ _ _ _ _ _ _)); (fail_if_success (with_reducible show ∃ _, _)); walk1) | ((fail_if_success (with_reducible show wpAny _ _ (eval (Expr.ListComp _ _ _ _) _) _ _ _)); (fail_if_success (with_reducible show wpAny _ _ (exec (Stmt.Assign [_] (Expr.ListComp _ _ _ _) _) _) _ _ _)); (fail_if_success (with_reducible show LCt.CompSrcT _ _ _ _ _ _ _ _ _ _ _ _ _ _ _)); (fail_if_success (with_reducible show LCg.CompSrc _ _ _ _ _ _ _ _ _ _ _ _ _ _)); (fail_if_success (with_reducible show LCg.CompEnd _ _ _ _ _ _ _ _ _ _ _ _ _ _)); (fail_if_success (with_reducible show @ite _ _ _ _ _)); (fail_if_success (with_reducible show wpAny _ _ (pyIter _) _ _ _)); (fail_if_success (with_reducible show Q _ _)); (fail_if_success (with_reducible show UnrPost _ _ _ _ _ _ _ _ _)); (fail_if_success (with_reducible show ∃ _, _)); dsimp only; walk1))

        rename Fr g' L' _ _ => kF9
        rename News g' L' _ _ => kN9
        exact LCg.CompEnd.intro kF9 kN9 _ (fun p hp => hp) off (.inl hi2) ⟨rfl, by unfold lackL; rw [htake, List.filter_append, List.filter_cons, if_pos hq]; simp⟩
      · refine iteF hq ?_
        rename Fr g' L' _ _ => kF9
        rename News g' L' _ _ => kN9
        exact LCg.CompEnd.intro kF9 kN9 _ (fun p hp => hp) off (.inl hi2) ⟨rfl, by unfold lackL; rw [htake, List.filter_append, List.filter_cons, if_neg hq]; simp⟩
    case fin2 =>
      clear kF9 kN9
      rintro ys news ⟨rfl, rfl⟩ Du h tk F9 N9 off9
      rw [svals_size, List.take_length] at N9
      repeat' (first | (k_unfold; (try dsimp only)) | ((fail_if_success (with_reducible show wpAny _ _ (eval (Expr.ListComp _ _ _ _) _) _ _ _)); (fail_if_success (with_reducible show wpAny _ _ (exec (Stmt.Assign [_] (Expr.ListComp _ _ _ _) _) _) _ _ _)); (fail_if_success (with_reducible show LCt.CompSrcT _ _ _ _ _ _ _ _ _ _ _ _ _ _ _)); (fail_if_success (with_reducible show LCg.CompSrc _ _ _ _ _ _ _ _ _ _ _ _ _ _)); (fail_if_success (with_reducible show LCg.CompEnd _ _ _ _ _ _ _ _ _ _ _ _ _ _)); (fail_if_success (with_reducible show @ite _ _ _ _ _)); (fail_if_success (with_reducible show wpAny _ _ (pyIter _) _ _ _)); (fail_if_success (with_reducible show Q _ _)); (fail_if_success (with_reducible show UnrPost _ _ _ _ _ _ _ _ _)); (fail_if_success (with_reducible show ∃ _, _)); walk1) | ((fail_if_success (with_reducible show wpAny _ _ (eval (Expr.ListComp _ _ _ _) _) _ _ _)); (fail_if_success (with_reducible show wpAny _ _ (exec (Stmt.Assign [_] (Expr.ListComp _ _ _ _) _) _) _ _ _)); (fail_if_success (with_reducible show LCt.CompSrcT _ _ _ _ _ _ _ _ _ _ _ _ _ _ _)); (fail_if_success (with_reducible show LCg.CompSrc _ _ _ _ _ _ _ _ _ _ _ _ _ _)); (fail_if_success (with_reducible show LCg.CompEnd _ _ _ _ _ _ _ _ _ _ _ _ _ _)); (fail_if_success (with_reducible show @ite _ _ _ _ _)); (fail_if_success (with_reducible show wpAny _ _ (pyIter _) _ _ _)); (fail_if_success (with_reducible show Q _ _)); (fail_if_success (with_reducible show UnrPost _ _ _ _ _ _ _ _ _)); (fail_if_success (with_reducible show ∃ _, _)); dsimp only; walk1))

      rename Fr g' L' _ _ => kF9
      rename News g' L' _ _ => kN9
      exact k _ _ _ _ kF9 (cb_drop kN9 fun p hp => .tail _ hp)
set_option maxRecDepth 100000 in
set_option maxHeartbeats 8000000 in
theorem due_ret (C : Ctx w mean mg mb dp un gd cn cs a ccd cl outer base g' L) {Dr Do Dm Du Dn : Addr} {tail : Led}
    (F : Fr g' L' s.heap m) (N : News g' L' s.heap ((L' + 1 + 1 + 1 + 1 + 1, c5) :: (L' + 1 + 1 + 1 + 1, c4) :: (L' + 1 + 1 + 1, c3) :: (L' + 1 + 1, c2) :: (L' + 1, c1) :: tail)) (d3 : c3.data = .cell (some (.ref Dr)))
    (h1 : m (Str.ofString "order") = some (.ref Do)) (h2 : m (Str.ofString "missing") = some (.ref Dm)) (h3 : m (Str.ofString "unwished") = some (.ref Du)) (h4 : m (Str.ofString "pairs") = some (.ref Dn))
    (k : ∀ R h tk, Fr g' L' h m → News g' L' h ((R, listOf #[.ref Dr, .ref Do, .ref Dm, .ref Du, .ref Dn] 0) :: (L' + 1 + 1 + 1 + 1 + 1, c5) :: (L' + 1 + 1 + 1 + 1, c4) :: (L' + 1 + 1 + 1, c3) :: (L' + 1 + 1, c2) :: (L' + 1, c1) :: tail) → Q (.ret (.ref R)) { s with heap := h, toks := tk }) :
    wpAny (model PG w) ((ktrTop dp un gd cn cs L a ccd cl outer).deeper (dueEnv L')) (exec dueSt9 (dueEnv L')) Q E s := by
  obtain ⟨B', X', T', hk, hdp, hun⟩ := C
  unfold dueSt9 dueEnv
  dsimp only [st0, tl0]

  repeat' (first | (k_unfold; (try dsimp only)) | ((fail_if_success (with_reducible show wpAny _ _ (eval (Expr.ListComp _ _ _ _) _) _ _ _)); (fail_if_success (with_reducible show wpAny _ _ (exec (Stmt.Assign [_] (Expr.ListComp _ _ _ _) _) _) _ _ _)); (fail_if_success (with_reducible show LCt.CompSrcT _ _ _ _ _ _ _ _ _ _ _ _ _ _ _)); (fail_if_success (with_reducible show LCg.CompSrc _ _ _ _ _ _ _ _ _ _ _ _ _ _)); (fail_if_success (with_reducible show LCg.CompEnd _ _ _ _ _ _ _ _ _ _ _ _ _ _)); (fail_if_success (with_reducible show @ite _ _ _ _ _)); (fail_if_success (with_reducible show wpAny _ _ (pyIter _) _ _ _)); (fail_if_success (with_reducible show Q _ _)); (fail_if_success (with_reducible show UnrPost _ _ _ _ _ _ _ _ _)); (fail_if_success (with_reducible show ∃ _, _)); walk1) | ((fail_if_success (with_reducible show wpAny _ _ (eval (Expr.ListComp _ _ _ _) _) _ _ _)); (fail_if_success (with_reducible show wpAny _ _ (exec (Stmt.Assign [_] (Expr.ListComp _ _ _ _) _) _) _ _ _)); (fail_if_success (with_reducible show LCt.CompSrcT _ _ _ _ _ _ _ _ _ _ _ _ _ _ _)); (fail_if_success (with_reducible show LCg.CompSrc _ _ _ _ _ _ _ _ _ _ _ _ _ _)); (fail_if_success (with_reducible show LCg.CompEnd _ _ _ _ _ _ _ _ _ _ _ _ _ _)); (fail_if_success (with_reducible show @ite _ _ _ _ _)); (fail_if_success (with_reducible show wpAny _ _ (pyIter _) _ _ _)); (fail_if_success (with_reducible show Q _ _)); (fail_if_success (with_reducible show UnrPost _ _ _ _ _ _ _ _ _)); (fail_if_success (with_reducible show ∃ _, _)); dsimp only; walk1))

  rename Fr g' L' _ _ => kF9
  rename News g' L' _ _ => kN9
  exact k _ _ _ kF9 kN9
end
end
section
open PySem
/-- the wishes of these numbers, in their order -/
structure OsOf (ns : List Int) (os : List W) : Prop where
  ks : os.map (·.k) = (List.range ns.length).map (fun (k : Nat) => (k : Int))
  ws : os.map (·.w) = ns.map (fun x => - wth x)
theorem OsOf.len {ns : List Int} {os : List W} (H : OsOf ns os) : os.length = ns.length := by
  have := congrArg List.length H.ks; simpa using this
theorem OsOf.at {ns : List Int} {os : List W} (H : OsOf ns os) {k : Nat} {y : W} (h : os[k]? = some y) : y.k = (k : Int) ∧ y.w = - wth (ns.getD k 0) := by
  have hl := (List.getElem?_eq_some_iff.mp h).1
  have hl' : k < ns.length := H.len ▸ hl
  constructor
  · have h1 := congrArg (fun l => l[k]?) H.ks
    simp only [List.getElem?_map, h, Option.map_some, List.getElem?_range hl'] at h1
    exact Option.some.inj h1
  · have h1 := congrArg (fun l => l[k]?) H.ws
    simp only [List.getElem?_map, h, Option.map_some, List.getElem?_eq_getElem hl'] at h1
    rw [List.getD_eq_getElem?_getD, List.getElem?_eq_getElem hl']
    exact Option.some.inj h1
theorem popped_order {ns : List Int} {os ps : List W} (H : OsOf ns os) (hs : ps.Pairwise (fun a b => ltW a b = true)) (hp : List.Perm ps os) :
    ordL ns.length (posOf ns) ns.length = (ps.map fun y => y.k.toNat).map some ∧ (∀ k ∈ ps.map (fun y => y.k.toNat), k < ns.length) := by
  have hperm : List.Perm (ps.map fun y => y.k.toNat) (List.range ns.length) := by
    have h1 := hp.map (fun y : W => y.k.toNat)
    have h2 : os.map (fun y : W => y.k.toNat) = List.range ns.length := by
      have := congrArg (fun l => l.map Int.toNat) H.ks
      simp only [List.map_map] at this
      rw [show (fun y : W => y.k.toNat) = Int.toNat ∘ (fun y : W => y.k) from rfl, this]
      rw [show Int.toNat ∘ (fun k : Nat => (k : Int)) = id from by funext k; simp]
      simp
    rw [h2] at h1; exact h1
  have hb : ∀ k ∈ ps.map (fun y => y.k.toNat), k < ns.length := fun k hk => List.mem_range.mp (hperm.mem_iff.mp hk)
  refine ⟨ordL_all ?_ ?_ hb ?_, hb⟩
  · rw [hperm.length_eq, List.length_range]
  · exact hperm.nodup_iff.mpr List.nodup_range
  · intro k hk
    have hko : k < os.length := by rw [H.len]; exact hk
    obtain ⟨e, he⟩ : ∃ e, os[k]? = some e := ⟨_, List.getElem?_eq_getElem hko⟩
    have hea := H.at he
    have h1 := sorted_at hs hp (List.mem_of_getElem? he)
    have h2 := count_pos (fun i y hy => (H.at hy).1) he
    have h3 : os.countP (fun y => ltW y e) = posOf ns k := by
      rw [h2]
      unfold posOf
      congr 1
      · have : os.countP (fun y => decide (y.w < e.w)) = (os.map (·.w)).countP (fun z => decide (z < e.w)) := by rw [List.countP_map]; rfl
        rw [this, H.ws, List.countP_map, List.countP_eq_length_filter]
        congr 2
        funext x
        simp only [Function.comp, hea.2]
        congr 1
        simp only [eq_iff_iff]
        constructor <;> intro <;> omega
      · have : (os.take k).countP (fun y => decide (y.w = e.w)) = ((os.map (·.w)).take k).countP (fun z => decide (z = e.w)) := by rw [← List.map_take, List.countP_map]; rfl
        rw [this, H.ws, ← List.map_take, List.countP_map, List.count_eq_countP, List.countP_map]
        apply List.countP_congr
        intro x _
        simp only [Function.comp, hea.2, beq_iff_eq, decide_eq_true_eq]
        constructor <;> intro <;> omega
    rw [List.getElem?_map, ← h3, h1]
    simp [hea.1]
theorem exists_sorted (ns : List Int) : ∃ os ps : List W, OsOf ns os ∧ ps.Pairwise (fun a b => ltW a b = true) ∧ List.Perm ps os := by
  let os : List W := (List.range ns.length).map fun k => (⟨0, - wth (ns.getD k 0), (k : Int), Str.empty⟩ : W)
  have H : OsOf ns os := by
    constructor
    · simp only [os, List.map_map]; rfl
    · apply List.ext_getElem
      · simp [os]
      · intro i h1 h2
        have : i < ns.length := by simpa using h2
        simp [os, List.getD_eq_getElem?_getD, this]
  let ps := os.mergeSort fun a b => !ltW b a
  have hperm : List.Perm ps os := List.mergeSort_perm _ _
  refine ⟨os, ps, H, ?_, hperm⟩
  have hle : ps.Pairwise (fun a b => (!ltW b a) = true) := List.pairwise_mergeSort (fun a b c h1 h2 => by
      simp only [Bool.not_eq_true'] at h1 h2 ⊢
      exact leW_trans (x := a) (y := b) (z := c) h1 h2) (fun a b => by
      simp only [Bool.or_eq_true, Bool.not_eq_true']
      cases h : ltW a b
      · exact .inr rfl
      · exact .inl (ltW_asymm h)) _
  have hnd : ps.Pairwise (fun a b => a.k ≠ b.k) := by
    have h1 : (ps.map (·.k)).Nodup := (hperm.map (·.k)).nodup_iff.mpr (by
      rw [H.ks]
      exact List.Pairwise.map (R := fun a b : Nat => a ≠ b) _ (fun a b h e => h (by omega)) List.nodup_range)
    exact List.pairwise_map.mp h1
  refine (List.Pairwise.and hle hnd).imp ?_
  intro a b hab
  obtain ⟨h1, h2⟩ := hab
  simp only [Bool.not_eq_true'] at h1
  have h3 : leW a b := h1
  rw [leW_iff] at h3
  rw [ltW_iff]
  omega
end
section
open PySem PySem.W PyProof.Rows PySem.Spec
def ordOf (ns : List Int) : List Nat := (ordL ns.length (posOf ns) ns.length).map (·.getD 0)
def fitOf (ns : List Int) (ts : List Str) : List Int := ((ordOf ns).map fun k => ns.getD k 0).filter (fits ts)
def accL (ns : List Int) : List (Str × Str) := ns.map fun x => (accS x, rowS x)
def pairsOf (ns : List Int) (ts : List Str) : List (Str × Str) := match fitOf ns ts with
  | [] => (Str.ofString "content-type", Str.ofString "text/none") :: (accL ns ++ [(Str.ofString "CONTENT-Type", Str.ofString "text/other")])
  | u :: _ => accL ns ++ [(Str.ofString "Content-Type", kindS u)]
def lackS (as bs : List Str) : List Str := as.filter fun x => !decide (x ∈ bs)
def tupD (p : Str × Str) : PyData := .tuple [.str p.1, .str p.2]
def dueD (ns : List Int) (ts : List Str) : PyData := .list [.list (ns.map fun x => .str (rowS x)), .list ((ordOf ns).map fun (k : Nat) => .int (k : Int)), .list ((lackS (kindsL ns) ts).map .str), .list ((lackS ts (kindsL ns)).map .str), .list ((pairsOf ns ts).map tupD)]
theorem lackL_fst (as bs : List ST) : (lackL as bs).map (·.1) = lackS (as.map (·.1)) (bs.map (·.1)) := by
  unfold lackL lackS
  rw [List.filter_map]; rfl
theorem order_split {ns : List Int} {ol : List OT} (h : ol.map (Option.map (·.1)) = ordL ns.length (posOf ns) ns.length) : ∃ ks : List KT, ol.map OT.v = ks.map KT.v ∧ ks.map (·.1) = ordOf ns ∧ (∀ p ∈ ks, p.1 < ns.length) ∧ ks.length = ns.length := by
  obtain ⟨os, ps, H, hs, hp⟩ := exists_sorted ns
  obtain ⟨e, hb⟩ := popped_order H hs hp
  have e2 : ol.map (Option.map (·.1)) = (ps.map fun y => y.k.toNat).map some := h.trans e
  have hlen : ps.length = ns.length := by rw [hp.length_eq, H.len]
  have eo : ordOf ns = ps.map fun y => y.k.toNat := by unfold ordOf; rw [e, List.map_map]; exact List.map_id' _
  generalize ps.map (fun y => y.k.toNat) = qs at *
  have key : ∀ (ol : List OT) (qs : List Nat), ol.map (Option.map (·.1)) = qs.map some → ∃ ks : List KT, ol.map OT.v = ks.map KT.v ∧ ks.map (·.1) = qs := by
    intro ol
    induction ol with
    | nil => intro qs h; cases qs with
      | nil => exact ⟨[], rfl, rfl⟩
      | cons q qs => simp at h
    | cons o ol ih =>
      intro qs h
      cases qs with
      | nil => simp at h
      | cons q qs =>
        simp only [List.map_cons, List.cons.injEq] at h
        obtain ⟨ks, h1, h2⟩ := ih qs h.2
        cases o with
        | none => simp at h
        | some p =>
          obtain ⟨n, t⟩ := p
          have hn : n = q := by simpa using h.1
          subst hn
          exact ⟨(n, t) :: ks, by rw [List.map_cons, h1]; rfl, by rw [List.map_cons, h2]⟩
  obtain ⟨ks, h1, h2⟩ := key ol qs e2
  refine ⟨ks, h1, by rw [h2, eo], fun p hp => hb p.1 (h2 ▸ List.mem_map_of_mem hp), ?_⟩
  have h3 := congrArg List.length h
  rw [List.length_map, ordL_len] at h3
  have h4 := congrArg List.length h1
  simp only [List.length_map] at h4
  omega
theorem readsAll_KT {h : Heap} : ∀ xs : List KT, ReadsAll h (xs.map KT.v) (xs.map fun x => PyData.int (x.1 : Int)) []
  | [] => ReadsAll.nil
  | _ :: xs => ReadsAll.cons (Reads.int _ _) (readsAll_KT xs)
theorem readsAll_Pr {h : Heap} : ∀ qs : List Pr, (∀ q ∈ qs, h.get? q.a = some q.o) → ∃ as, ReadsAll h (qs.map Pr.v) (qs.map fun q => tupD (q.x, q.y)) as
  | [], _ => ⟨_, ReadsAll.nil⟩
  | q :: qs, hq => by
    obtain ⟨as, r⟩ := readsAll_Pr qs fun p hp => hq p (.tail _ hp)
    exact ⟨_, ReadsAll.cons (Reads.tuple (hq q (.head _)) rfl rfl (ReadsAll.cons (Reads.str _ _) (ReadsAll.cons (Reads.str _ _) ReadsAll.nil))) r⟩
theorem with_all {g h : Heap} {L : Addr} {all : Led} {P : Prop} (N : News g L h all) (f : ∀ all', (∀ p, p ∈ all → p ∈ all') → News g L h all' → P) : P := f all (fun _ hp => hp) N
theorem news_add {g h : Heap} {L : Addr} {all l : Led} {p : Addr × Obj} (N0 : News g L h all) (hp : p ∈ all) (N : News g L h l) : News g L h (p :: l) := fun q hq => by
  rcases List.mem_cons.mp hq with rfl | hq
  · exact N0 _ hp
  · exact N q hq
section
variable {w : World} {mean : ExcName → Option Value} {mg mb : Str → Option Value} {dp un : Nat} {gd : Option (List Code)} {cn : Str} {cs : Scope} {a : Addr} {ccd : Value} {cl : List (Str × Addr)} {outer : List Env} {base g' : Heap} {L L' : Addr} {s : Shared} {Q : Flow → Shared → Prop} {E : Value → Shared → Prop} {m : Str → Option Value}
variable {nl tl : Addr} {n1 n2 : Nat} {xs : List IT} {th : List ST} {c1 c2 c3 c4 c5 : Obj}
set_option maxRecDepth 100000 in
set_option maxHeartbeats 8000000 in
theorem due_body (C : Ctx w mean mg mb dp un gd cn cs a ccd cl outer base g' L) (hb1 : g'.get? nl = some (lst (ivals xs) n1)) (hl1 : xs.length ≤ 100) (hb2 : g'.get? tl = some (lst (svals th) n2)) (hth : ∀ y ∈ th.map (·.1), okS y) (hl2 : th.length ≤ 100)
    (F : Fr g' L' s.heap m) (N : News g' L' s.heap [(L' + 1 + 1 + 1 + 1 + 1, c5), (L' + 1 + 1 + 1 + 1, c4), (L' + 1 + 1 + 1, c3), (L' + 1 + 1, c2), (L' + 1, c1)]) (d1 : c1.data = .cell (some (.ref nl))) (d2 : c2.data = .cell (some (.ref tl))) {v3 v4 v5 : Option Value} (d3 : c3.data = .cell v3) (d4 : c4.data = .cell v4) (d5 : c5.data = .cell v5) (hE : PassesOwn (model PG w) ((ktrTop dp un gd cn cs L a ccd cl outer).deeper (dueEnv L')) (dueEnv L') E)
    (k : ∀ R all m' h tk, Fr g' L' h m' → News g' L' h all → (∀ h', Has h' all → ∃ as, Reads h' (.ref R) (dueD (nums xs) (th.map (·.1))) as) → Q (.ret (.ref R)) { s with heap := h, toks := tk }) :
    wpAny (model PG w) ((ktrTop dp un gd cn cs L a ccd cl outer).deeper (dueEnv L')) (execs dueTl0 (dueEnv L')) Q E s := by
  refine wpAny_execs_cons (st := dueSt0) (rest := dueTl1) (due_rows C hb1 hl1 F N d1 d3 fun Dr c3' zs h tk F1 N1 d3' off hzs => ?_)
  refine wpAny_execs_cons (st := dueSt1) (rest := dueTl2) (due_order C hb1 hl1 F1 N1 d1 fun Do h tk F2 N2 lt1 lt2 => ?_)
  refine wpAny_execs_cons (st := dueSt2) (rest := dueTl3) (due_for C hb1 hl1 (ol := []) F2 N2 d1 d4 lt1 lt2 ?o3 (lk_hit rfl) hE fun m' n' ol c4' v4' h tk F3 hm3 N3 d4' hol => ?_)
  case o3 =>
    obtain ⟨a1, a2, a3, a4, a5, _⟩ := off
    simp only at a1 a2 a3 a4 a5
    k_all
  obtain ⟨ks, hov, hko, hkb, hkl⟩ := order_split (ns := nums xs) (by simpa [nums] using hol)
  have hnl : (nums xs).length = xs.length := by simp [nums]
  rw [hnl] at hkb hkl
  rw [hov] at N3
  have offs := off
  simp only [LCg.Off1, and_true] at offs
  refine wpAny_execs_cons (st := dueSt3) (rest := dueTl4) (due_kinds C hb1 hl1 F3 N3 d1 d5 ?o4 ?o5 fun Dk kz c5' h tk F4 N4 d5' hkz off4 => ?_)
  case o4 => k_all
  case o5 => k_all
  refine wpAny_execs_cons (st := dueSt4) (rest := dueTl5) (due_pairs C hb1 hl1 hzs F4 N4 d1 d3' fun Dp ps h tk F5 N5 hps => ?_)
  have hpl : ps.length ≤ 100 := by have := congrArg List.length hps; simp only [List.length_map] at this; omega
  refine wpAny_execs_cons (st := dueSt5) (rest := dueTl6) (due_fit C hb1 hl1 hb2 hth (ks := ks) hkb (by omega) F5 N5 d1 d2 (lk_ne (by decide) hm3) fun Df us h tk F6 N6 hus => ?_)
  refine wpAny_execs_cons (st := dueSt6) (rest := dueTl7) (due_old C hpl F6 N6 (lk_ne (by decide) (lk_hit rfl)) fun Dq q1 q2 h tk F7 N7 hq => ?_)
  refine wpAny_execs_cons (st := dueSt7) (rest := dueTl8) (due_new C hpl (fun q hq => .tail _ (.tail _ (.tail _ (.tail _ (.tail _ (.tail _ (.tail _ (.tail _ (List.mem_map_of_mem hq))))))))) F7 N7 (lk_ne (by decide) (lk_ne (by decide) (lk_hit rfl))) (lk_ne (by decide) (lk_hit rfl)) (lk_hit rfl) fun Dn nn qs h tk F8 N8 hqs => ?_)
  refine with_all N8 fun all8 i8 N8 => ?_
  have m1 : (Dk, LCg.lst (kz.map ST.v)) ∈ all8 := i8 _ (.tail _ (List.mem_append_right _ (.head _)))
  have m2 : (Do, listOf (kvals ks) n') ∈ all8 := i8 _ (.tail _ (List.mem_append_right _ (.tail _ (.head _))))
  have m3 : (Dr, LCg.lst (zs.map ST.v)) ∈ all8 := i8 _ (.tail _ (List.mem_append_right _ (.tail _ (.tail _ (.head _)))))
  have m4 : (L' + 1 + 1 + 1 + 1 + 1, c5') ∈ all8 := i8 _ (.tail _ (List.mem_append_right _ (.tail _ (.tail _ (.tail _ (.head _))))))
  have m5 : (L' + 1 + 1 + 1 + 1, c4') ∈ all8 := i8 _ (.tail _ (List.mem_append_right _ (.tail _ (.tail _ (.tail _ (.tail _ (.head _)))))))
  have m6 : (L' + 1 + 1 + 1, c3') ∈ all8 := i8 _ (.tail _ (List.mem_append_right _ (.tail _ (.tail _ (.tail _ (.tail _ (.tail _ (.head _))))))))
  have m7 : (L' + 1 + 1, c2) ∈ all8 := i8 _ (.tail _ (List.mem_append_right _ (.tail _ (.tail _ (.tail _ (.tail _ (.tail _ (.tail _ (.head _)))))))))
  have m8 : (L' + 1, c1) ∈ all8 := i8 _ (.tail _ (List.mem_append_right _ (.tail _ (.tail _ (.tail _ (.tail _ (.tail _ (.tail _ (.tail _ (.head _))))))))))
  have m9 : (Dn, listOf (qs.map Pr.v).toArray nn) ∈ all8 := i8 _ (.head _)
  have m10 : ∀ q ∈ qs, q.e ∈ all8 := fun q hq => i8 _ (.tail _ (List.mem_append_left _ (List.mem_map_of_mem hq)))
  clear i8
  refine wpAny_execs_cons (st := dueSt8) (rest := dueTl9) (due_miss C hb2 hth hl2 (Dk := Dk) (kz := kz) ?hkz ?hl3 F8 (news_add N8 m1 (news_add N8 m4 (news_add N8 m5 (news_add N8 m6 (news_add N8 m7 (news_add N8 m8 N8)))))) d2 d5' fun Dm Du h tk F9 N9 => ?_)
  case hkz =>
    rw [hkz]; intro y hy
    obtain ⟨k, _, rfl⟩ := List.mem_map.mp hy
    exact kindS_strOk _
  case hl3 =>
    have := congrArg List.length hkz
    have h2 := List.length_filter_le (fun k => wished (nums xs) k) (List.range 8)
    simp only [List.length_map, kindsL, List.length_range] at this h2
    omega
  refine with_all N9 fun all9 i9 N9 => ?_
  have i9' : ∀ p ∈ all8, p ∈ all9 := fun p hp => i9 _ (.tail _ (.tail _ (.tail _ (.tail _ (.tail _ (.tail _ (.tail _ (.tail _ hp))))))))
  have mu : (Du, LCg.lst ((lackL th kz).map ST.v)) ∈ all9 := i9 _ (.head _)
  have mm : (Dm, LCg.lst ((lackL kz th).map ST.v)) ∈ all9 := i9 _ (.tail _ (.head _))
  clear i9
  refine wpAny_execs_cons (st := dueSt9) (rest := dueTl10) (due_ret C F9 (news_add N9 (i9' _ m4) (news_add N9 (i9' _ m5) (news_add N9 (i9' _ m6) (news_add N9 (i9' _ m7) (news_add N9 (i9' _ m8) N9))))) d3' (lk_ne (by decide) (lk_ne (by decide) (lk_ne (by decide) (lk_ne (by decide) (lk_ne (by decide) (lk_ne (by decide) hm3)))))) (lk_hit rfl) (lk_ne (by decide) (lk_hit rfl)) (lk_ne (by decide) (lk_ne (by decide) (lk_hit rfl))) fun R h tk F10 N10 => ?_)
  refine k _ _ _ _ _ F10 N10 fun h' hh => ?_
  have ha : ∀ p ∈ all9, h'.get? p.1 = some p.2 := fun p hp => hh p (.tail _ (.tail _ (.tail _ (.tail _ (.tail _ (.tail _ hp))))))
  have hR := hh _ (.head _)
  obtain ⟨aq, rq⟩ := readsAll_Pr (h := h') qs fun q hq => ha _ (i9' _ (m10 q hq))
  have e1 : (zs.map fun x => PyData.str x.1) = (nums xs).map fun x => .str (rowS x) := by
    have := congrArg (fun l => l.map PyData.str) hzs
    simpa [nums, List.map_map, Function.comp_def] using this
  have e2 : (ks.map fun x => PyData.int (x.1 : Int)) = (ordOf (nums xs)).map fun (k : Nat) => .int (k : Int) := by rw [← hko, List.map_map]; rfl
  have e3 : ((lackL kz th).map fun x => PyData.str x.1) = (lackS (kindsL (nums xs)) (th.map (·.1))).map .str := by rw [← hkz, ← lackL_fst, List.map_map]; rfl
  have e4 : ((lackL th kz).map fun x => PyData.str x.1) = (lackS (th.map (·.1)) (kindsL (nums xs))).map .str := by rw [← hkz, ← lackL_fst, List.map_map]; rfl
  have hpa : ps.map (fun p => (p.x, p.y)) = accL (nums xs) := by rw [hps]; simp [accL, nums, List.map_map, Function.comp_def]
  have hfit : us.map (·.1) = fitOf (nums xs) (th.map (·.1)) := by rw [hus]; unfold fitOf; rw [← hko, List.map_map]; rfl
  have e5 : (qs.map fun q => tupD (q.x, q.y)) = (pairsOf (nums xs) (th.map (·.1))).map tupD := by
    have : qs.map (fun p => (p.x, p.y)) = pairsOf (nums xs) (th.map (·.1)) := by
      rw [hqs]
      unfold pairsOf
      rw [← hfit]
      cases us with
      | nil => simp only [List.map_nil, List.map_cons, List.map_append, hpa, hq.1, hq.2.1, hq.2.2.1, hq.2.2.2]
      | cons u us => simp only [List.map_cons, hpa]
    rw [← this, List.map_map]; rfl
  unfold dueD
  rw [← e1, ← e2, ← e3, ← e4, ← e5]
  exact ⟨_, reads_list_at hR rfl rfl (ReadsAll.cons (reads_list_at (ha _ (i9' _ m3)) rfl rfl (readsAll_ST zs)) (ReadsAll.cons (reads_list_at (ha _ (i9' _ m2)) rfl rfl (readsAll_KT ks)) (ReadsAll.cons (reads_list_at (ha _ mm) rfl rfl (readsAll_ST _)) (ReadsAll.cons (reads_list_at (ha _ mu) rfl rfl (readsAll_ST _)) (ReadsAll.cons (reads_list_at (ha _ (i9' _ m9)) rfl rfl rq) ReadsAll.nil)))))⟩
end
end
section
open PySem PySem.W PySem.Calls PyProof.Rows PySem.Spec PyProof.V
set_option maxRecDepth 100000
/-- the texts by their ranks; 8: ~ -/
def kdT (c : Nat) : Str := if c < 8 then kd c else Str.ofString "~"
theorem kdT_all : ∀ a b : Fin 9, slt (kdT a) (kdT b) = decide (a.1 < b.1) ∧ (kdT a == kdT b) = decide (a.1 = b.1) := by decide +kernel
theorem kdT_slt {a b : Nat} (ha : a < 9) (hb : b < 9) : slt (kdT a) (kdT b) = decide (a < b) := (kdT_all ⟨a, ha⟩ ⟨b, hb⟩).1
theorem kdT_beq {a b : Nat} (ha : a < 9) (hb : b < 9) : (kdT a == kdT b) = decide (a = b) := (kdT_all ⟨a, ha⟩ ⟨b, hb⟩).2
theorem kdT_inj {a b : Nat} (ha : a < 9) (hb : b < 9) : kdT a = kdT b ↔ a = b := by
  have := kdT_beq ha hb
  constructor
  · intro e; rw [e] at this; simpa using this
  · intro e; rw [e]
def sldN (xs ys : List Nat) : List Nat × List Nat := match xs, ys with
    | [], ys => ([], ys)
    | x :: xs, [] => (x :: xs, [])
    | x :: xs, y :: ys =>
      if x < y then (x :: (sldN (xs.dropWhile fun z => z == x) (y :: ys)).1, (sldN (xs.dropWhile fun z => z == x) (y :: ys)).2)
      else if y < x then ((sldN (x :: xs) (ys.dropWhile fun z => z == y)).1, y :: (sldN (x :: xs) (ys.dropWhile fun z => z == y)).2)
      else sldN (xs.dropWhile fun z => z == x) (ys.dropWhile fun z => z == y)
termination_by xs.length + ys.length
decreasing_by
  all_goals simp_wf
  all_goals (have h1 := (List.dropWhile_sublist (fun z : Nat => z == x) (l := xs)).length_le; have h2 := (List.dropWhile_sublist (fun z : Nat => z == y) (l := ys)).length_le; omega)
theorem sldN_l (ys : List Nat) : sldN [] ys = ([], ys) := by unfold sldN; rfl
theorem sldN_r (xs : List Nat) : sldN xs [] = (xs, []) := by cases xs <;> (unfold sldN; rfl)
theorem sldN_lt {x y : Nat} {xs ys : List Nat} (h : x < y) : sldN (x :: xs) (y :: ys) = (x :: (sldN (xs.dropWhile fun z => z == x) (y :: ys)).1, (sldN (xs.dropWhile fun z => z == x) (y :: ys)).2) := by
  rw [sldN, if_pos h]
theorem sldN_gt {x y : Nat} {xs ys : List Nat} (h : y < x) : sldN (x :: xs) (y :: ys) = ((sldN (x :: xs) (ys.dropWhile fun z => z == y)).1, y :: (sldN (x :: xs) (ys.dropWhile fun z => z == y)).2) := by
  rw [sldN, if_neg (by omega), if_pos h]
theorem sldN_eq {x : Nat} {xs ys : List Nat} : sldN (x :: xs) (x :: ys) = sldN (xs.dropWhile fun z => z == x) (ys.dropWhile fun z => z == x) := by
  rw [sldN, if_neg (Nat.lt_irrefl _), if_neg (Nat.lt_irrefl _)]
/-- texts with ranks -/
def Rk (xs : List ST) (cs : List Nat) : Prop := xs.map (·.1) = cs.map kdT ∧ ∀ c ∈ cs, c < 9
theorem Rk.cons {x : ST} {xs : List ST} {c : Nat} {cs : List Nat} (h : Rk (x :: xs) (c :: cs)) : x.1 = kdT c ∧ c < 9 ∧ Rk xs cs := by
  obtain ⟨h1, h2⟩ := h
  simp only [List.map_cons, List.cons.injEq] at h1
  exact ⟨h1.1, h2 c (.head _), h1.2, fun d hd => h2 d (.tail _ hd)⟩
theorem Rk.drop {x : Str} {c : Nat} (hx : x = kdT c) (hc : c < 9) : ∀ {xs : List ST} {cs : List Nat}, Rk xs cs → Rk (xs.dropWhile fun z => z.1 == x) (cs.dropWhile fun z => z == c)
  | [], [], h => h
  | [], _ :: _, h => nomatch h.1
  | _ :: _, [], h => nomatch h.1
  | y :: ys, d :: ds, h => by
    obtain ⟨h1, h2, h3⟩ := h.cons
    rw [List.dropWhile_cons, List.dropWhile_cons, h1, hx, kdT_beq h2 hc]
    by_cases e : d = c
    · rw [if_pos (by simpa using e), if_pos (by simpa using e)]; exact hx ▸ Rk.drop hx hc h3
    · rw [if_neg (by simpa using e), if_neg (by simpa using e)]; exact h
theorem sld_rank : ∀ (n : Nat) (xs ys : List ST) (cs ds : List Nat), xs.length + ys.length ≤ n → Rk xs cs → Rk ys ds →
    Rk (sldf xs ys).1 (sldN cs ds).1 ∧ Rk (sldf xs ys).2 (sldN cs ds).2 := by
  intro n
  induction n with
  | zero =>
    intro xs ys cs ds hn hx hy
    obtain rfl : xs = [] := List.length_eq_zero_iff.mp (by omega)
    obtain rfl : cs = [] := by have := congrArg List.length hx.1; exact List.length_eq_zero_iff.mp (by simpa using this.symm)
    rw [sldf_l, show sldN [] ds = ([], ds) by unfold sldN; rfl]
    exact ⟨hx, hy⟩
  | succ n ih =>
    intro xs ys cs ds hn hx hy
    match xs, cs, hx with
    | [], [], hx =>
      rw [sldf_l, show sldN [] ds = ([], ds) by unfold sldN; rfl]
      exact ⟨hx, hy⟩
    | [], _ :: _, hx => exact nomatch hx.1
    | _ :: _, [], hx => exact nomatch hx.1
    | x :: xs, c :: cs, hx =>
      match ys, ds, hy with
      | [], [], hy =>
        rw [sldf_r, show sldN (c :: cs) [] = (c :: cs, []) by unfold sldN; rfl]
        exact ⟨hx, hy⟩
      | [], _ :: _, hy => exact nomatch hy.1
      | _ :: _, [], hy => exact nomatch hy.1
      | y :: ys, d :: ds, hy =>
        obtain ⟨e1, c9, hx'⟩ := hx.cons
        obtain ⟨e2, d9, hy'⟩ := hy.cons
        have l1 := (List.dropWhile_sublist (fun z : ST => z.1 == x.1) (l := xs)).length_le
        have l2 := (List.dropWhile_sublist (fun z : ST => z.1 == y.1) (l := ys)).length_le
        simp only [List.length_cons] at hn
        have dx := Rk.drop e1 c9 hx'
        have dy := Rk.drop e2 d9 hy'
        have k1 : slt x.1 y.1 = decide (c < d) := by rw [e1, e2, kdT_slt c9 d9]
        have k2 : slt y.1 x.1 = decide (d < c) := by rw [e1, e2, kdT_slt d9 c9]
        unfold sldf sldN
        simp only [k1, k2, decide_eq_true_eq]
        by_cases h1 : c < d
        · rw [if_pos h1, if_pos h1]
          obtain ⟨q1, q2⟩ := ih _ (y :: ys) _ (d :: ds) (by simp only [List.length_cons]; omega) dx hy
          exact ⟨⟨by rw [List.map_cons, List.map_cons, q1.1]; exact congrArg (· :: _) e1, fun z hz => by rcases List.mem_cons.mp hz with rfl | hz; exact c9; exact q1.2 z hz⟩, q2⟩
        · rw [if_neg h1, if_neg h1]
          by_cases h2 : d < c
          · rw [if_pos h2, if_pos h2]
            obtain ⟨q1, q2⟩ := ih (x :: xs) _ (c :: cs) _ (by simp only [List.length_cons]; omega) hx dy
            exact ⟨q1, ⟨by rw [List.map_cons, List.map_cons, q2.1]; exact congrArg (· :: _) e2, fun z hz => by rcases List.mem_cons.mp hz with rfl | hz; exact d9; exact q2.2 z hz⟩⟩
          · rw [if_neg h2, if_neg h2]
            exact ih _ _ _ _ (by omega) dx dy
theorem dw_self {x : Nat} {xs : List Nat} (h : ∀ y ∈ xs, x < y) : xs.dropWhile (fun z => z == x) = xs := by
  cases xs with
  | nil => rfl
  | cons y ys =>
    have := h y (.head _)
    rw [List.dropWhile_cons, if_neg (by simp; omega)]
theorem sldN_strict : ∀ (n : Nat) (xs ys : List Nat), xs.length + ys.length ≤ n → xs.Pairwise (· < ·) → ys.Pairwise (· < ·) →
    sldN xs ys = (xs.filter fun x => !decide (x ∈ ys), ys.filter fun y => !decide (y ∈ xs)) := by
  intro n
  induction n with
  | zero =>
    intro xs ys hn _ _
    obtain rfl : xs = [] := List.length_eq_zero_iff.mp (by omega)
    obtain rfl : ys = [] := List.length_eq_zero_iff.mp (by omega)
    unfold sldN; rfl
  | succ n ih =>
    intro xs ys hn hx hy
    match xs, ys with
    | [], ys => rw [sldN_l]; exact Prod.ext rfl (List.filter_eq_self.mpr (fun _ _ => rfl)).symm
    | x :: xs, [] => rw [sldN_r]; exact Prod.ext (List.filter_eq_self.mpr (fun _ _ => rfl)).symm rfl
    | x :: xs, y :: ys =>
      have hx1 := List.pairwise_cons.mp hx
      have hy1 := List.pairwise_cons.mp hy
      simp only [List.length_cons] at hn
      unfold sldN
      rw [dw_self hx1.1, dw_self hy1.1]
      by_cases h1 : x < y
      · rw [if_pos h1, ih xs (y :: ys) (by simp only [List.length_cons]; omega) hx1.2 hy]
        have hn1 : x ∉ y :: ys := fun hm => by
          rcases List.mem_cons.mp hm with e | hm
          · omega
          · have := hy1.1 x hm; omega
        refine Prod.ext ?_ ?_
        · show x :: xs.filter (fun x => !decide (x ∈ y :: ys)) = (x :: xs).filter (fun x => !decide (x ∈ y :: ys))
          rw [List.filter_cons_of_pos (by simpa using hn1)]
        · dsimp only
          refine List.filter_congr fun z hz => ?_
          have : z ≠ x := fun e => hn1 (e ▸ hz)
          simp only [List.mem_cons, this, false_or]
      · rw [if_neg h1]
        by_cases h2 : y < x
        · rw [if_pos h2, ih (x :: xs) ys (by simp only [List.length_cons]; omega) hx hy1.2]
          have hn1 : y ∉ x :: xs := fun hm => by
            rcases List.mem_cons.mp hm with e | hm
            · omega
            · have := hx1.1 y hm; omega
          refine Prod.ext ?_ ?_
          · dsimp only
            refine List.filter_congr fun z hz => ?_
            have : z ≠ y := fun e => hn1 (e ▸ hz)
            simp only [List.mem_cons, this, false_or]
          · show y :: ys.filter (fun z => !decide (z ∈ x :: xs)) = (y :: ys).filter (fun z => !decide (z ∈ x :: xs))
            rw [List.filter_cons_of_pos (by simpa using hn1)]
        · rw [if_neg h2, ih xs ys (by omega) hx1.2 hy1.2]
          obtain rfl : x = y := by omega
          refine Prod.ext ?_ ?_
          · show xs.filter (fun z => !decide (z ∈ ys)) = (x :: xs).filter (fun z => !decide (z ∈ x :: ys))
            rw [List.filter_cons_of_neg (by simp)]
            refine List.filter_congr fun z hz => ?_
            have : z ≠ x := by have := hx1.1 z hz; omega
            simp only [List.mem_cons, this, false_or]
          · show ys.filter (fun z => !decide (z ∈ xs)) = (x :: ys).filter (fun z => !decide (z ∈ x :: xs))
            rw [List.filter_cons_of_neg (by simp)]
            refine List.filter_congr fun z hz => ?_
            have : z ≠ x := by have := hy1.1 z hz; omega
            simp only [List.mem_cons, this, false_or]
def dblN : List Nat → List Nat
  | [] => []
  | v :: r => v :: v :: dblN r
theorem dblN_mem {c : Nat} {l : List Nat} : c ∈ dblN l → c ∈ l := by
  induction l with
  | nil => exact id
  | cons v r ih =>
    simp only [dblN, List.mem_cons]
    rintro (h | h | h)
    · exact .inl h
    · exact .inl h
    · exact .inr (ih h)
theorem dw_dbl {x : Nat} {xs : List Nat} (h : ∀ y ∈ xs, x < y) (hx : x < 8) : (x :: (dblN xs ++ [8])).dropWhile (fun z => z == x) = dblN xs ++ [8] := by
  rw [List.dropWhile_cons, if_pos (by simp)]
  refine dw_self fun y hy => ?_
  rcases List.mem_append.mp hy with hy | hy
  · exact h y (dblN_mem hy)
  · have := List.mem_singleton.mp hy; omega
theorem dbl_cons (x : Nat) (xs : List Nat) : dblN (x :: xs) ++ [8] = x :: (x :: (dblN xs ++ [8])) := rfl
theorem dbl_nil : dblN [] ++ [8] = [8] := rfl
theorem sld88 : sldN [8] [8] = ([], []) := by rw [sldN_eq]; exact sldN_l _
theorem sldN_dbl : ∀ (n : Nat) (xs ys : List Nat), xs.length + ys.length ≤ n → xs.Pairwise (· < ·) → ys.Pairwise (· < ·) → (∀ x ∈ xs, x < 8) → (∀ y ∈ ys, y < 8) →
    sldN (dblN xs ++ [8]) (dblN ys ++ [8]) = sldN xs ys := by
  intro n
  induction n with
  | zero =>
    intro xs ys hn _ _ _ _
    obtain rfl : xs = [] := List.length_eq_zero_iff.mp (by omega)
    obtain rfl : ys = [] := List.length_eq_zero_iff.mp (by omega)
    rw [dbl_nil, sld88, sldN_l]
  | succ n ih =>
    intro xs ys hn hx hy bx by'
    match xs, ys with
    | [], [] => rw [dbl_nil, sld88, sldN_l]
    | [], y :: ys =>
      have hy1 := List.pairwise_cons.mp hy
      have y8 := by' y (.head _)
      have k := ih [] ys (by simp only [List.length_cons, List.length_nil] at hn ⊢; omega) hx hy1.2 bx (fun z hz => by' z (.tail _ hz))
      rw [dbl_nil] at k
      rw [dbl_nil, dbl_cons, sldN_gt y8, dw_dbl hy1.1 y8, k, sldN_l, sldN_l]
    | x :: xs, [] =>
      have hx1 := List.pairwise_cons.mp hx
      have x8 := bx x (.head _)
      have k := ih xs [] (by simp only [List.length_cons, List.length_nil] at hn ⊢; omega) hx1.2 hy (fun z hz => bx z (.tail _ hz)) by'
      rw [dbl_nil] at k
      rw [dbl_nil, dbl_cons, sldN_lt x8, dw_dbl hx1.1 x8, k, sldN_r, sldN_r]
    | x :: xs, y :: ys =>
      have hx1 := List.pairwise_cons.mp hx
      have hy1 := List.pairwise_cons.mp hy
      have x8 := bx x (.head _)
      have y8 := by' y (.head _)
      simp only [List.length_cons] at hn
      have k1 := ih xs (y :: ys) (by simp only [List.length_cons]; omega) hx1.2 hy (fun z hz => bx z (.tail _ hz)) by'
      have k2 := ih (x :: xs) ys (by simp only [List.length_cons]; omega) hx hy1.2 bx (fun z hz => by' z (.tail _ hz))
      have k3 := ih xs ys (by omega) hx1.2 hy1.2 (fun z hz => bx z (.tail _ hz)) (fun z hz => by' z (.tail _ hz))
      rw [dbl_cons] at k1 k2
      rw [dbl_cons, dbl_cons]
      rcases Nat.lt_trichotomy x y with h | rfl | h
      · rw [sldN_lt h, dw_dbl hx1.1 x8, k1, sldN_lt h, dw_self hx1.1]
      · rw [sldN_eq, dw_dbl hx1.1 x8, dw_dbl hy1.1 y8, k3, sldN_eq, dw_self hx1.1, dw_self hy1.1]
      · rw [sldN_gt h, dw_dbl hy1.1 y8, k2, sldN_gt h, dw_self hy1.1]
end
section
open PySem PySem.W PyProof.Rows PySem.Spec
set_option maxRecDepth 100000 in
set_option maxHeartbeats 8000000 in
theorem due {w : World} {nl tl : Addr} {n1 n2 : Nat} {xs : List IT} {th : List ST} {rest : Led} (h1 : (nl, lst (ivals xs) n1) ∈ rest) (h2 : (tl, lst (svals th) n2) ∈ rest) (hl1 : xs.length ≤ 100) (hl2 : th.length ≤ 100) (hth : ∀ y ∈ th.map (·.1), okS y) :
   FnN w 40 245 [.ref nl, .ref tl] [] [] rest
  (fun r _ muts' => ∀ h', Has h' muts' → ∃ as, Reads h' r (dueD (nums xs) (th.map (·.1))) as) := by
  unfold FnN
  intro mean mg mb dp un gd cn cs a ccd cl outer A₀ base h₀ L m s Q E B F X N NR hrL sep T hk hdp hun hret
  refine wpAny_call ?_
  k_dflt (refine' code_defCS ?k1 ?k2 ?k3 ?k4 ?kR ?kS ?k5 ?kA ?kF ?kK ?k6 ?k7 ?k8 ?k9 ?kB ?kD ?_ ?c2 ?c3 ?c4; (case kA => exact rfl); (case kF => exact rfl); (case kK => exact hk); (case k1 => exact B); (case k2 => exact F); (case k3 => exact X); (case k4 => exact N); (case kR => exact NR); (case kS => exact sep); (case k5 => exact T); (case k6 => k_is); (case k7 => k_is); (case k8 => ktr_room); (case k9 => first | exact BindsTo.of_eq rfl | exact binds_K (by k_in) rfl (by k_is) rfl rfl rfl); (case kB => exact rfl); (case kD => decide +kernel); (case c2 => exact rfl); (case c3 => exact rfl); (case c4 => exact rfl); k_whole; intro g' L' h' tk' cells' FG' F' N' Y' B' X' T' l1 G' GS'; (try k_lt l1); k_cells Y'; (try simp only [List.cons_append, List.nil_append] at N'); (try dsimp only); (try k_lift B'); (try k_fold))

  have hb1 : g'.get? nl = some (lst (ivals xs) n1) := G' _ h1
  have hb2 : g'.get? tl = some (lst (svals th) n2) := G' _ h2
  refine due_body (v3 := none) (v4 := none) (v5 := none) ⟨B', X', T', hk, by omega, by omega⟩ hb1 hl1 hb2 hth hl2 F' N' ?d1 ?d2 ?d3 ?d4 ?d5 ?hE ?k
  case d1 => assumption
  case d2 => assumption
  case d3 => assumption
  case d4 => assumption
  case d5 => assumption
  case hE => passes_own
  case k =>
    intro R all m' h tk F9 N9 hr
    exact ⟨L', m', all, F9, N9, fun F0 N0 hrest => hret _ _ _ _ F0 N0 hrest hr⟩
end
section
open PySem PySem.W PyProof.Rows PySem.Spec
theorem lines_T1 : True := by
  k_with_none
  (k_with "om" => (with_reducible first | assumption | exact Nat.ne_of_lt ‹_› | exact Nat.ne_of_gt ‹_› | exact Ne.symm ‹_› | exact Mine.o_a ‹_› (by decide) | exact Mine.o_b ‹_› (by decide) | exact Mine.o_c ‹_› | exact Mine.o_le (n := 100) ‹_› (by decide) | exact Mine.o_le ‹_› (by decide) | exact Mine.o_l ‹_› (by decide) | exact Mine.o_1 (n := 100) ‹_› (by decide) | exact Mine.o_2 (n := 100) ‹_› (by decide) | exact Mine.o_lt (n := 100) ‹_› (by decide) | exact Mine.o_lt ‹_› (by decide) | exact Mine.o_ll ‹_› (by decide) | exact Mine.o_s ‹_› | exact Mine.o_n _ | exact Mine.o_0 _ | exact Mine.o_i ‹_› (by decide) | exact Mine.o_m ‹_› (by decide) | exact Mine.o_j (n := 100) ‹_› ‹_› (by decide) | exact Mine.o_k ‹_› ‹_› (by decide) | exact Mine.o_e (n := 100) ‹_› ‹_› (by decide) | exact Nat.ne_of_lt (by k_extra "cj") | exact Nat.ne_of_gt (by k_extra "cj") | exact Ne.symm (by k_extra "cj") | k_extra "cj" | fail))
  (k_with "cj" => (first | exact And.left ‹_› | exact Mine.c_2 ‹_› | exact Mine.c_3 ‹_› | exact Mine.c_4 ‹_› | exact Mine.c_5 ‹_› | exact Mine.c_6 ‹_› | exact Mine.c_7 ‹_› | exact Mine.c_8 ‹_› | exact Mine.c_9 ‹_› | exact And.right ‹_› | exact Mine.d_3 ‹_› | exact Mine.d_4 ‹_› | exact Mine.d_5 ‹_› | exact Mine.d_6 ‹_› | exact Mine.d_7 ‹_› | exact Mine.d_8 ‹_› | exact Mine.d_9 ‹_› | fail))
  (k_with "fn ctx" => (((case k1 => k_asm); (case k2 => k_asm); (case k3 => k_asm); (case k4 => k_asm); (case k5 => k_asm); (case kK => first | exact rfl | assumption); (case kd => ktr_room); (case ku => ktr_units))))
  (k_with "call ref" => ((k_here; (with_reducible show wpAny _ _ (call (Value.ref 228) _ _) _ _ _); k_dflt (refine' (law_kind).use ?k1 ?k2 ?k3 ?k4 ?k5 ?kK ?kd ?ku ?kz ?_; (walk_at "fn ctx"); (case kz => exact fun _ h => nomatch h); intro zqr9 zqh9 zqtk9 zqF9 zqN9 zqk9 zqho9; obtain ⟨zqt9, zqhr9⟩ := zqho9; subst zqhr9; (try dsimp only); (try k_sweep)))))
  (k_with "call ref" => ((k_here; (with_reducible show wpAny _ _ (call (Value.ref 235) _ _) _ _ _); k_dflt (refine' (law_worth).use ?k1 ?k2 ?k3 ?k4 ?k5 ?kK ?kd ?ku ?kz ?_; (walk_at "fn ctx"); (case kz => exact fun _ h => nomatch h); intro zqr9 zqh9 zqtk9 zqF9 zqN9 zqk9 zqho9; obtain ⟨zqt9, zqhr9⟩ := zqho9; subst zqhr9; (try dsimp only); (try k_sweep)))))
  (k_with "call builtin:len" => ((k_here; (with_reducible show wpAny _ _ (call (Value.builtin "len") [Value.ref _]) _ _ _); k_dflt (first | (refine' len_led ?k1 ?k2 ?k3 ?_; (case k1 => k_asm); (case k2 => k_mem); (case k3 => first | with_reducible assumption | omega | (simp only [List.size_toArray, List.length_map]; omega)); k_whole) | (refine' len_base ?k1 ?k2 ?k3 ?_; (case k1 => k_asm); (case k2 => with_reducible assumption); (case k3 => first | with_reducible assumption | omega); k_whole)))))
  (k_with "m look" => (first | with_reducible assumption | (with_reducible exact lk_hit rfl) | (with_reducible refine' lk_ne ?hh ?hv; (case hh => decide); (case hv => walk_at "m look"))))
  (k_with "eval Name" => ((k_here; k_dflt (refine' nameX_L ?F ?v ?_ ?a ?b; (case b => rfl); (case a => rfl); (case F => k_asm); (case v => walk_at "m look"); k_whole))))
  trivial
theorem news_tail {g h : Heap} {L : Addr} {l : Led} {p : Addr × Obj} (N : News g L h (p :: l)) : News g L h l := fun q hq => N q (.tail _ hq)
section
variable {w : World} {mean : ExcName → Option Value} {mg mb : Str → Option Value} {dp un : Nat} {gd : Option (List Code)} {cn : Str} {cs : Scope} {a : Addr} {ccd : Value} {cl : List (Str × Addr)} {outer : List Env} {base g' : Heap} {L L' : Addr} {s : Shared} {Q : Flow → Shared → Prop} {E : Value → Shared → Prop} {m : Str → Option Value}
variable {nl tl : Addr} {n1 n2 : Nat} {xs : List IT} {th : List ST} {c1 : Obj}
set_option maxRecDepth 100000 in
set_option maxHeartbeats 8000000 in
theorem srv_init (C : Ctx w mean mg mb dp un gd cn cs a ccd cl outer base g' L) 
    (F : Fr g' L' s.heap m) (N : News g' L' s.heap [(L' + 1, c1)])
    (k : ∀ x dx hl hp od (hh : Int) (tk0 nd : Nat) h tk, Fr g' L' h (fun y => if y = Str.ofString "table" then some (.ref x) else if y = Str.ofString "heap" then some (.ref hp) else if y = Str.ofString "order" then some (.ref od) else m y) → News g' L' h [(od, listOf #[] 0), (hp, listOf #[] 0), (x, instObj 217 dx), (dx, dictOf [⟨hh, .str (Str.ofString "_headers") tk0, .ref hl⟩] nd), (hl, listOf #[] 0), (L' + 1, c1)] →
      (@LT.lt Nat _ (L' + 1) hl ∧ @LT.lt Nat _ hl dx ∧ @LT.lt Nat _ dx x ∧ @LT.lt Nat _ x hp ∧ @LT.lt Nat _ hp od) → Q .next { s with heap := h, toks := tk }) :
    wpAny (model PG w) ((ktrTop dp un gd cn cs L a ccd cl outer).deeper (srvEnv L')) (exec srvSt0 (srvEnv L')) Q E s := by
  obtain ⟨B', X', T', hk, hdp, hun⟩ := C
  unfold srvSt0 srvEnv
  dsimp only [st0, tl0]

  repeat' (first | (k_unfold; (try dsimp only)) | ((fail_if_success (with_reducible show wpAny _ _ (eval (Expr.ListComp _ _ _ _) _) _ _ _)); (fail_if_success (with_reducible show wpAny _ _ (exec (Stmt.Assign [_] (Expr.ListComp _ _ _ _) _) _) _ _ _)); (fail_if_success (with_reducible show LCt.CompSrcT _ _ _ _ _ _ _ _ _ _ _ _ _ _ _)); (fail_if_success (with_reducible show LCg.CompSrc _ _ _ _ _ _ _ _ _ _ _ _ _ _)); (fail_if_success (with_reducible show LCg.CompEnd _ _ _ _ _ _ _ _ _ _ _ _ _ _)); (fail_if_success (with_reducible show @ite _ _ _ _ _)); (fail_if_success (with_reducible show wpAny _ _ (pyIter _) _ _ _)); (fail_if_success (with_reducible show Q _ _)); (fail_if_success (with_reducible show UnrPost _ _ _ _ _ _ _ _ _)); (fail_if_success (with_reducible show ∃ _, _)); walk1) | ((fail_if_success (with_reducible show wpAny _ _ (eval (Expr.ListComp _ _ _ _) _) _ _ _)); (fail_if_success (with_reducible show wpAny _ _ (exec (Stmt.Assign [_] (Expr.ListComp _ _ _ _) _) _) _ _ _)); (fail_if_success (with_reducible show LCt.CompSrcT _ _ _ _ _ _ _ _ _ _ _ _ _ _ _)); (fail_if_success (with_reducible show LCg.CompSrc _ _ _ _ _ _ _ _ _ _ _ _ _ _)); (fail_if_success (with_reducible show LCg.CompEnd _ _ _ _ _ _ _ _ _ _ _ _ _ _)); (fail_if_success (with_reducible show @ite _ _ _ _ _)); (fail_if_success (with_reducible show wpAny _ _ (pyIter _) _ _ _)); (fail_if_success (with_reducible show Q _ _)); (fail_if_success (with_reducible show UnrPost _ _ _ _ _ _ _ _ _)); (fail_if_success (with_reducible show ∃ _, _)); dsimp only; walk1))

  k_dflt (refine' call_cls ?k1 ?k2 ?k3 ?k4 ?k5 ?k6 ?_; (case k1 => k_asm); (case k2 => k_asm); (case k3 => k_asm); (case k4 => k_is); (case k5 => k_is); (case k6 => k_is); k_whole)
  intro x' d' h' F' N' l1 l2
  (try k_lt l1); (try k_lt2 l2); (try k_sweep)
  k_dflt (refine' code_def ?k1 ?k2 ?k3 ?k4 ?k5 ?kA ?kF ?kK ?k6 ?k7 ?k8 ?k9 ?kB ?_ ?c2 ?c3 ?c4 ?c5; (case kA => exact rfl); (case kF => exact rfl); (case kK => exact rfl); (case k1 => k_asm); (case k2 => k_asm); (case k3 => k_asm); (case k4 => k_asm); (case k5 => k_asm); (case k6 => k_is); (case k7 => k_is); (case k8 => (simp only [depth_under_make, depth_under_kw, depth_in1, depth_deeper]; show dp + 1 + 1 < recursionLimit; omega)); (case k9 => first | exact BindsTo.of_eq rfl | exact binds_K (by k_in) rfl (by k_is) rfl rfl rfl); (case c5 => decide); (case kB => exact locs rfl); (case c2 => exact rfl); (case c3 => exact rfl); (case c4 => exact rfl); k_whole)
  intro g2 L2 h2 FG2 F2 N2 B2 X2 T2
  clear F' N'
  (try dsimp only); (try k_lift B2); (try k_fold)
  k_steps
  rename Fr g' L' _ _ => kF9
  rename News g' L' _ _ => kN9
  have kM9 := news_tail kN9
  refine k _ _ _ _ _ _ _ _ _ _ kF9 kM9 ?_
  omega
end
end
section
open PySem PySem.W PyProof.Rows PySem.Spec
theorem lines_T2 : True := by
  k_with_none
  (k_with "om" => (with_reducible first | assumption | exact Nat.ne_of_lt ‹_› | exact Nat.ne_of_gt ‹_› | exact Ne.symm ‹_› | exact Mine.o_a ‹_› (by decide) | exact Mine.o_b ‹_› (by decide) | exact Mine.o_c ‹_› | exact Mine.o_le (n := 100) ‹_› (by decide) | exact Mine.o_le ‹_› (by decide) | exact Mine.o_l ‹_› (by decide) | exact Mine.o_1 (n := 100) ‹_› (by decide) | exact Mine.o_2 (n := 100) ‹_› (by decide) | exact Mine.o_lt (n := 100) ‹_› (by decide) | exact Mine.o_lt ‹_› (by decide) | exact Mine.o_ll ‹_› (by decide) | exact Mine.o_s ‹_› | exact Mine.o_n _ | exact Mine.o_0 _ | exact Mine.o_i ‹_› (by decide) | exact Mine.o_m ‹_› (by decide) | exact Mine.o_j (n := 100) ‹_› ‹_› (by decide) | exact Mine.o_k ‹_› ‹_› (by decide) | exact Mine.o_e (n := 100) ‹_› ‹_› (by decide) | exact Nat.ne_of_lt (by k_extra "cj") | exact Nat.ne_of_gt (by k_extra "cj") | exact Ne.symm (by k_extra "cj") | k_extra "cj" | fail))
  (k_with "cj" => (first | exact And.left ‹_› | exact Mine.c_2 ‹_› | exact Mine.c_3 ‹_› | exact Mine.c_4 ‹_› | exact Mine.c_5 ‹_› | exact Mine.c_6 ‹_› | exact Mine.c_7 ‹_› | exact Mine.c_8 ‹_› | exact Mine.c_9 ‹_› | exact And.right ‹_› | exact Mine.d_3 ‹_› | exact Mine.d_4 ‹_› | exact Mine.d_5 ‹_› | exact Mine.d_6 ‹_› | exact Mine.d_7 ‹_› | exact Mine.d_8 ‹_› | exact Mine.d_9 ‹_› | fail))
  (k_with "fn ctx" => (((case k1 => k_asm); (case k2 => k_asm); (case k3 => k_asm); (case k4 => k_asm); (case k5 => k_asm); (case kK => first | exact rfl | assumption); (case kd => ktr_room); (case ku => ktr_units))))
  (k_with "call ref" => ((k_here; (with_reducible show wpAny _ _ (call (Value.ref 228) _ _) _ _ _); k_dflt (refine' (law_kind).use ?k1 ?k2 ?k3 ?k4 ?k5 ?kK ?kd ?ku ?kz ?_; (walk_at "fn ctx"); (case kz => exact fun _ h => nomatch h); intro zqr9 zqh9 zqtk9 zqF9 zqN9 zqk9 zqho9; obtain ⟨zqt9, zqhr9⟩ := zqho9; subst zqhr9; (try dsimp only); (try k_sweep)))))
  (k_with "call ref" => ((k_here; (with_reducible show wpAny _ _ (call (Value.ref 235) _ _) _ _ _); k_dflt (refine' (law_worth).use ?k1 ?k2 ?k3 ?k4 ?k5 ?kK ?kd ?ku ?kz ?_; (walk_at "fn ctx"); (case kz => exact fun _ h => nomatch h); intro zqr9 zqh9 zqtk9 zqF9 zqN9 zqk9 zqho9; obtain ⟨zqt9, zqhr9⟩ := zqho9; subst zqhr9; (try dsimp only); (try k_sweep)))))
  (k_with "call builtin:len" => ((k_here; (with_reducible show wpAny _ _ (call (Value.builtin "len") [Value.ref _]) _ _ _); k_dflt (first | (refine' len_led ?k1 ?k2 ?k3 ?_; (case k1 => k_asm); (case k2 => k_mem); (case k3 => first | with_reducible assumption | omega | (simp only [List.size_toArray, List.length_map]; omega)); k_whole) | (refine' len_base ?k1 ?k2 ?k3 ?_; (case k1 => k_asm); (case k2 => with_reducible assumption); (case k3 => first | with_reducible assumption | omega); k_whole)))))
  (k_with "m look" => (first | with_reducible assumption | (with_reducible exact lk_hit rfl) | (with_reducible refine' lk_ne ?hh ?hv; (case hh => decide); (case hv => walk_at "m look"))))
  (k_with "eval Name" => ((k_here; k_dflt (refine' nameX_L ?F ?v ?_ ?a ?b; (case b => rfl); (case a => rfl); (case F => k_asm); (case v => walk_at "m look"); k_whole))))
  trivial
abbrev Hd.e (h : Hd) : Addr × Obj := (h.a, h.o)
theorem hvals_push (hs : List Hd) (b : Hd) : (hvals hs).push (.ref b.a) = hvals (hs ++ [b]) := by
  apply Array.toList_inj.mp
  simp [hvals]
/-- what lies at two places differs: so do the places -/
theorem ne_of_obj {g h : Heap} {L a b : Addr} {l : Led} {o o' : Obj} (N : News g L h l) (ha : (a, o) ∈ l) (hb : (b, o') ∈ l) (hn : o ≠ o') : a ≠ b := by
  intro e
  have h1 := (N _ ha).1
  have h2 := (N _ hb).1
  simp only at h1 h2
  rw [e, h2] at h1
  exact hn (Option.some.inj h1).symm
theorem tup_ne_list {v0 v1 : Value} {vs : Array Value} {n : Nat} : tup2 v0 v1 ≠ listOf vs n := by
  intro e
  have := congrArg Obj.cls e
  simp at this
/-- the ledger of served between the statements -/
abbrev srvL (od hp x dx hl L' : Addr) (oOd oHp : Obj) (hh : Int) (tk0 nd : Nat) (vs : Array Value) (n : Nat) (c1 : Obj) (tail : Led) : Led :=
  (od, oOd) :: (hp, oHp) :: (x, instObj 217 dx) :: (dx, dictOf [⟨hh, .str (Str.ofString "_headers") tk0, .ref hl⟩] nd) :: (hl, listOf vs n) :: (L' + 1, c1) :: tail
theorem sep_two {od hp x dx hl c : Addr} {tail : Led} {oOd oHp c1 o1 o2 o3 : Obj} (h1 : AllNe x ((od, oOd) :: (hp, oHp) :: (c, c1) :: tail)) (h2 : AllNe dx ((od, oOd) :: (hp, oHp) :: (c, c1) :: tail)) (h3 : AllNe hl ((od, oOd) :: (hp, oHp) :: (c, c1) :: tail)) :
    ∀ p ∈ (od, oOd) :: (hp, oHp) :: (c, c1) :: tail, p.1 ∉ ([(x, o1), (dx, o2), (hl, o3)] : Led).map (·.1) := by
  have back : ∀ {d : Nat} {l : Led}, AllNe d l → ∀ p ∈ l, p.1 ≠ d := by
    intro d l
    induction l with
    | nil => intro _ p hp; cases hp
    | cons q l ih => intro h p hp; rcases List.mem_cons.mp hp with rfl | hp; exact h.1; exact ih h.2 p hp
  intro p hp hm
  simp only [List.map_cons, List.map_nil, List.mem_cons, List.not_mem_nil, or_false] at hm
  rcases hm with hm | hm | hm
  · exact back h1 p hp hm
  · exact back h2 p hp hm
  · exact back h3 p hp hm
/-- the places apart -/
structure Apart (od hp x dx hl c : Addr) (tail : Led) : Prop where
  lt : @LT.lt Nat _ c hl ∧ @LT.lt Nat _ hl dx ∧ @LT.lt Nat _ dx x ∧ @LT.lt Nat _ x hp ∧ @LT.lt Nat _ hp od
  t1 : AllNe x tail
  t2 : AllNe dx tail
  t3 : AllNe hl tail
  t4 : AllNe hp tail
  t5 : AllNe od tail
  t6 : AllNe c tail
theorem allNe_append {d : Nat} : ∀ {l r : Led}, AllNe d l → AllNe d r → AllNe d (l ++ r)
  | [], _, _, h => h
  | _ :: _, _, h1, h2 => ⟨h1.1, allNe_append h1.2 h2⟩
theorem sep_srv {od hp x dx hl c : Addr} {tail : Led} {oOd oHp c1 o1 o2 o3 : Obj} (P : Apart od hp x dx hl c tail) :
    ∀ p ∈ (od, oOd) :: (hp, oHp) :: (c, c1) :: tail, p.1 ∉ ([(x, o1), (dx, o2), (hl, o3)] : Led).map (·.1) := by
  obtain ⟨⟨a1, a2, a3, a4, a5⟩, t1, t2, t3, t4, t5, t6⟩ := P
  refine sep_two ⟨?_, ?_, ?_, t1⟩ ⟨?_, ?_, ?_, t2⟩ ⟨?_, ?_, ?_, t3⟩
  all_goals (refine neN ?_; (try dsimp only); omega)
section
variable {w : World} {mean : ExcName → Option Value} {mg mb : Str → Option Value} {dp un : Nat} {gd : Option (List Code)} {cn : Str} {cs : Scope} {a : Addr} {ccd : Value} {cl : List (Str × Addr)} {outer : List Env} {base g' : Heap} {L L' : Addr} {s : Shared} {Q : Flow → Shared → Prop} {E : Value → Shared → Prop} {m : Str → Option Value}
variable {od hp x dx hl : Addr} {oOd oHp c1 : Obj} {hh : Int} {tk0 nd n : Nat} {hs : List Hd} {tail : Led}
theorem srv_grow {h : Heap} {b : Addr} {v0 v1 : Value} {vs : Array Value} {n : Nat} {vo : Array Value} {no : Nat} {vp : Array Value} {np : Nat} {vc : Option Value} (P : Apart od hp x dx hl (L' + 1) tail) (hc : c1.data = .cell vc) (hoD : oOd = listOf vo no) (hoP : oHp = listOf vp np)
    (N : News g' L' h ([(b, tup2 v0 v1), (x, instObj 217 dx), (dx, dictOf [⟨hh, .str (Str.ofString "_headers") tk0, .ref hl⟩] nd), (hl, listOf vs n)] ++ ((od, oOd) :: (hp, oHp) :: (L' + 1, c1) :: tail))) (hb : x < b ∧ dx < b ∧ hl < b) :
    News g' L' h (srvL od hp x dx hl L' oOd oHp hh tk0 nd vs n c1 (tail ++ [(b, tup2 v0 v1)])) ∧ Apart od hp x dx hl (L' + 1) (tail ++ [(b, tup2 v0 v1)]) := by
  obtain ⟨⟨a1, a2, a3, a4, a5⟩, t1, t2, t3, t4, t5, t6⟩ := P
  have e1 : b ≠ hp := ne_of_obj N (.head _) (List.mem_append_right _ (.tail _ (.head _))) (hoP ▸ tup_ne_list)
  have e2 : b ≠ od := ne_of_obj N (.head _) (List.mem_append_right _ (.head _)) (hoD ▸ tup_ne_list)
  have e3 : b ≠ L' + 1 := ne_of_obj N (.head _) (List.mem_append_right _ (.tail _ (.tail _ (.head _)))) (by intro e; rw [← e] at hc; cases hc)
  obtain ⟨b1, b2, b3⟩ := hb
  refine ⟨cb_drop N fun p hp => ?_, ⟨⟨a1, a2, a3, a4, a5⟩, allNe_append t1 ⟨Nat.ne_of_gt b1, trivial⟩, allNe_append t2 ⟨Nat.ne_of_gt b2, trivial⟩, allNe_append t3 ⟨Nat.ne_of_gt b3, trivial⟩, allNe_append t4 ⟨e1, trivial⟩, allNe_append t5 ⟨e2, trivial⟩, allNe_append t6 ⟨e3, trivial⟩⟩⟩
  simp only [srvL, List.mem_cons, List.mem_append, List.not_mem_nil, or_false] at hp ⊢
  rcases hp with h | h | h | h | h | h | h | h
  · exact .inr (.inl h)
  · exact .inr (.inr (.inl h))
  · exact .inl (.inr (.inl h))
  · exact .inl (.inr (.inr (.inl h)))
  · exact .inl (.inr (.inr (.inr h)))
  · exact .inr (.inr (.inr (.inl h)))
  · exact .inr (.inr (.inr (.inr h)))
  · exact .inl (.inl h)
set_option maxRecDepth 100000 in
set_option maxHeartbeats 8000000 in
theorem srv_h1 (C : Ctx w mean mg mb dp un gd cn cs a ccd cl outer base g' L) {vo vp : Array Value} {no np : Nat} {vc : Option Value} (hc : c1.data = .cell vc) (hoD : oOd = listOf vo no) (hoP : oHp = listOf vp np) (P : Apart od hp x dx hl (L' + 1) tail) (hsz : hs.length ≤ 100)
    (F : Fr g' L' s.heap m) (N : News g' L' s.heap (srvL od hp x dx hl L' oOd oHp hh tk0 nd (hvals hs) n c1 tail)) (hm : m (Str.ofString "table") = some (.ref x))
    (k : ∀ (b : Hd) n' h tk, Fr g' L' h m → News g' L' h (srvL od hp x dx hl L' oOd oHp hh tk0 nd (hvals (hs ++ [b])) n' c1 (tail ++ [b.e])) → Apart od hp x dx hl (L' + 1) (tail ++ [b.e]) → b.nm = Str.ofString "content-type" → b.val = Txt.join (Str.ofString "; ") [Str.ofString "text/none"] → Q .next { s with heap := h, toks := tk }) :
    wpAny (model PG w) ((ktrTop dp un gd cn cs L a ccd cl outer).deeper (srvEnv L')) (exec srvSt1 (srvEnv L')) Q E s := by
  obtain ⟨B', X', T', hk, hdp, hun⟩ := C
  unfold srvSt1 srvEnv
  dsimp only [st0, tl0]

  repeat' (first | (k_unfold; (try dsimp only)) | ((fail_if_success (with_reducible show wpAny _ _ (eval (Expr.ListComp _ _ _ _) _) _ _ _)); (fail_if_success (with_reducible show wpAny _ _ (exec (Stmt.Assign [_] (Expr.ListComp _ _ _ _) _) _) _ _ _)); (fail_if_success (with_reducible show LCt.CompSrcT _ _ _ _ _ _ _ _ _ _ _ _ _ _ _)); (fail_if_success (with_reducible show LCg.CompSrc _ _ _ _ _ _ _ _ _ _ _ _ _ _)); (fail_if_success (with_reducible show LCg.CompEnd _ _ _ _ _ _ _ _ _ _ _ _ _ _)); (fail_if_success (with_reducible show @ite _ _ _ _ _)); (fail_if_success (with_reducible show wpAny _ _ (pyIter _) _ _ _)); (fail_if_success (with_reducible show Q _ _)); (fail_if_success (with_reducible show UnrPost _ _ _ _ _ _ _ _ _)); (fail_if_success (with_reducible show ∃ _, _)); (fail_if_success (with_reducible show wpAny _ _ (call (Value.ref 214) _ _) _ _ _)); walk1) | ((fail_if_success (with_reducible show wpAny _ _ (eval (Expr.ListComp _ _ _ _) _) _ _ _)); (fail_if_success (with_reducible show wpAny _ _ (exec (Stmt.Assign [_] (Expr.ListComp _ _ _ _) _) _) _ _ _)); (fail_if_success (with_reducible show LCt.CompSrcT _ _ _ _ _ _ _ _ _ _ _ _ _ _ _)); (fail_if_success (with_reducible show LCg.CompSrc _ _ _ _ _ _ _ _ _ _ _ _ _ _)); (fail_if_success (with_reducible show LCg.CompEnd _ _ _ _ _ _ _ _ _ _ _ _ _ _)); (fail_if_success (with_reducible show @ite _ _ _ _ _)); (fail_if_success (with_reducible show wpAny _ _ (pyIter _) _ _ _)); (fail_if_success (with_reducible show Q _ _)); (fail_if_success (with_reducible show UnrPost _ _ _ _ _ _ _ _ _)); (fail_if_success (with_reducible show ∃ _, _)); (fail_if_success (with_reducible show wpAny _ _ (call (Value.ref 214) _ _) _ _ _)); dsimp only; walk1))

  have d1 : x ≠ dx := Nat.ne_of_gt P.lt.2.2.1
  have d2 : x ≠ hl := by have := P.lt; refine neN ?_; omega
  have d3 : dx ≠ hl := Nat.ne_of_gt P.lt.2.1
  rename News g' L' _ _ => kN9
  k_dflt (refine' (add_header0 (rest := (od, oOd) :: (hp, oHp) :: (L' + 1, c1) :: tail) (hh := hh) (tk0 := tk0) (nd := nd) (n := n) (vs := hvals hs) d1 d2 d3 (by rw [hvals_size]; omega) (by decide +kernel) (by decide +kernel) (by decide +kernel)).use ?k1 ?k2 ?k3 kN9 ?k5 ?kK ?kd ?ku ?kM ?kR ?kS ?_; (case k1 => k_asm); (case k2 => k_asm); (case k3 => k_asm); (case k5 => k_asm); (case kK => exact rfl); (case kd => ktr_room); (case ku => ktr_units))
  case kM => (simp only [List.forall_mem_cons, srvL]; refine ⟨?_, ?_, ?_, List.forall_mem_nil _⟩ <;> k_mem)
  case kR => (simp only [List.forall_mem_cons, srvL]; refine ⟨?_, ?_, ?_, ?_⟩; k_mem; k_mem; k_mem; exact fun p hp => .tail _ (.tail _ (.tail _ (.tail _ (.tail _ (.tail _ hp))))))
  case kS => exact sep_srv P
  rintro r muts' h' tk' F9 N9 ⟨hr, b, t5, hmu, hb⟩
  subst hr hmu
  obtain ⟨N10, P10⟩ := srv_grow P hc hoD hoP N9 hb
  rw [hvals_push hs ⟨b, _, s.toks, _, t5⟩] at N10
  exact k ⟨b, _, s.toks, _, t5⟩ _ _ _ F9 N10 P10 rfl rfl
set_option maxRecDepth 100000 in
set_option maxHeartbeats 8000000 in
theorem srv_h3 (C : Ctx w mean mg mb dp un gd cn cs a ccd cl outer base g' L) {vo vp : Array Value} {no np : Nat} {vc : Option Value} (hc : c1.data = .cell vc) (hoD : oOd = listOf vo no) (hoP : oHp = listOf vp np) (P : Apart od hp x dx hl (L' + 1) tail) (hsz : hs.length ≤ 100)
    (F : Fr g' L' s.heap m) (N : News g' L' s.heap (srvL od hp x dx hl L' oOd oHp hh tk0 nd (hvals hs) n c1 tail)) (hm : m (Str.ofString "table") = some (.ref x))
    (k : ∀ (b : Hd) n' h tk, Fr g' L' h m → News g' L' h (srvL od hp x dx hl L' oOd oHp hh tk0 nd (hvals (hs ++ [b])) n' c1 (tail ++ [b.e])) → Apart od hp x dx hl (L' + 1) (tail ++ [b.e]) → b.nm = Str.ofString "CONTENT-Type" → b.val = Txt.join (Str.ofString "; ") [Str.ofString "text/other"] → Q .next { s with heap := h, toks := tk }) :
    wpAny (model PG w) ((ktrTop dp un gd cn cs L a ccd cl outer).deeper (srvEnv L')) (exec srvSt3 (srvEnv L')) Q E s := by
  obtain ⟨B', X', T', hk, hdp, hun⟩ := C
  unfold srvSt3 srvEnv
  dsimp only [st0, tl0]

  repeat' (first | (k_unfold; (try dsimp only)) | ((fail_if_success (with_reducible show wpAny _ _ (eval (Expr.ListComp _ _ _ _) _) _ _ _)); (fail_if_success (with_reducible show wpAny _ _ (exec (Stmt.Assign [_] (Expr.ListComp _ _ _ _) _) _) _ _ _)); (fail_if_success (with_reducible show LCt.CompSrcT _ _ _ _ _ _ _ _ _ _ _ _ _ _ _)); (fail_if_success (with_reducible show LCg.CompSrc _ _ _ _ _ _ _ _ _ _ _ _ _ _)); (fail_if_success (with_reducible show LCg.CompEnd _ _ _ _ _ _ _ _ _ _ _ _ _ _)); (fail_if_success (with_reducible show @ite _ _ _ _ _)); (fail_if_success (with_reducible show wpAny _ _ (pyIter _) _ _ _)); (fail_if_success (with_reducible show Q _ _)); (fail_if_success (with_reducible show UnrPost _ _ _ _ _ _ _ _ _)); (fail_if_success (with_reducible show ∃ _, _)); (fail_if_success (with_reducible show wpAny _ _ (call (Value.ref 214) _ _) _ _ _)); walk1) | ((fail_if_success (with_reducible show wpAny _ _ (eval (Expr.ListComp _ _ _ _) _) _ _ _)); (fail_if_success (with_reducible show wpAny _ _ (exec (Stmt.Assign [_] (Expr.ListComp _ _ _ _) _) _) _ _ _)); (fail_if_success (with_reducible show LCt.CompSrcT _ _ _ _ _ _ _ _ _ _ _ _ _ _ _)); (fail_if_success (with_reducible show LCg.CompSrc _ _ _ _ _ _ _ _ _ _ _ _ _ _)); (fail_if_success (with_reducible show LCg.CompEnd _ _ _ _ _ _ _ _ _ _ _ _ _ _)); (fail_if_success (with_reducible show @ite _ _ _ _ _)); (fail_if_success (with_reducible show wpAny _ _ (pyIter _) _ _ _)); (fail_if_success (with_reducible show Q _ _)); (fail_if_success (with_reducible show UnrPost _ _ _ _ _ _ _ _ _)); (fail_if_success (with_reducible show ∃ _, _)); (fail_if_success (with_reducible show wpAny _ _ (call (Value.ref 214) _ _) _ _ _)); dsimp only; walk1))

  have d1 : x ≠ dx := Nat.ne_of_gt P.lt.2.2.1
  have d2 : x ≠ hl := by have := P.lt; refine neN ?_; omega
  have d3 : dx ≠ hl := Nat.ne_of_gt P.lt.2.1
  rename News g' L' _ _ => kN9
  k_dflt (refine' (add_header0 (rest := (od, oOd) :: (hp, oHp) :: (L' + 1, c1) :: tail) (hh := hh) (tk0 := tk0) (nd := nd) (n := n) (vs := hvals hs) d1 d2 d3 (by rw [hvals_size]; omega) (by decide +kernel) (by decide +kernel) (by decide +kernel)).use ?k1 ?k2 ?k3 kN9 ?k5 ?kK ?kd ?ku ?kM ?kR ?kS ?_; (case k1 => k_asm); (case k2 => k_asm); (case k3 => k_asm); (case k5 => k_asm); (case kK => exact rfl); (case kd => ktr_room); (case ku => ktr_units))
  case kM => (simp only [List.forall_mem_cons, srvL]; refine ⟨?_, ?_, ?_, List.forall_mem_nil _⟩ <;> k_mem)
  case kR => (simp only [List.forall_mem_cons, srvL]; refine ⟨?_, ?_, ?_, ?_⟩; k_mem; k_mem; k_mem; exact fun p hp => .tail _ (.tail _ (.tail _ (.tail _ (.tail _ (.tail _ hp))))))
  case kS => exact sep_srv P
  rintro r muts' h' tk' F9 N9 ⟨hr, b, t5, hmu, hb⟩
  subst hr hmu
  obtain ⟨N10, P10⟩ := srv_grow P hc hoD hoP N9 hb
  rw [hvals_push hs ⟨b, _, s.toks, _, t5⟩] at N10
  exact k ⟨b, _, s.toks, _, t5⟩ _ _ _ F9 N10 P10 rfl rfl
end
end
section
open PySem PySem.W PySem.Calls PyProof.Rows PySem.Spec PyProof.V
inductive LsJ (s : Shared) (h₀ : Heap) (L I : Addr) (l : Addr) (n : Nat) (J : Nat → (Str → Option Value) → Led → Prop) (k : Nat) (s' : Shared) : Prop
  | mk (h : Heap) (tk i : Nat) (m : Str → Option Value) (news : Led) (e : s' = { s with heap := h, toks := tk }) (hi : i ≤ n) (hk : k = n + 1 - i) (F : Fr h₀ L h m) (N : News h₀ L h news) (o : ∀ p ∈ news, p.1 ≠ I) (hI : h.IsListIter I l i) (j : J i m news)
section
variable {prog : Program} {w : World} {A : Around} {E : Value → Shared → Prop} {s : Shared} {h₀ : Heap} {L : Addr} {env : Env} {x : Str} {px : Pos} {body : List Stmt} {Q : Flow → Shared → Prop}
/-- a for over a list of the base -/
theorem iter_listAny {l : Addr} {items : Array Value} {m₀ : Str → Option Value} {news₀ : Led} (J : Nat → (Str → Option Value) → Led → Prop)
    (hh : A.handled = none) (hl : h₀.IsList l items) (F : Fr h₀ L s.heap m₀) (N : News h₀ L s.heap news₀) (hJ : J 0 m₀ news₀)
    (turn : ∀ I i v, items[i]? = some v → ∀ m news, (∀ p ∈ news, p.1 ≠ I) → J i m news → ∀ it h tk, it.cls = .type "list_iterator" → Fr h₀ L h m → News h₀ L h ((I, it) :: news) →
      wpAny (model prog w) A (storeName env x v) (fun _ s₂ => wpAny (model prog w) A (execs body env) (UnrPost h₀ L { s with heap := h, toks := tk } I it (J (i + 1)) Q) E s₂) E { s with heap := h, toks := tk })
    (fin : ∀ m news, J items.size m news → ∀ h tk, Fr h₀ L h m → News h₀ L h news → Q .next { s with heap := h, toks := tk })
    (hE : PassesOwn (model prog w) A env E) :
    wpAny (model prog w) A (pyIter (.ref l)) (fun it s₂ => codeAny (model prog w) A (.forLoop (.Name x px) it body [] env) (fun r s' => match r with | .ok f => Q f s' | .error e => cameBackBy (model prog w) A env E e s') s₂) E s := by
  have hls : s.heap.IsList l items := hl.at fun o e => F.keep l o e
  obtain ⟨ol, hol, _⟩ := id hl
  have hlt0 : l < h₀.objs.size := Heap.lt_size hol
  have hne : l ≠ s.heap.objs.size := Nat.ne_of_lt (Nat.lt_trans (Nat.lt_of_lt_of_le hlt0 F.above) F.ns.lt)
  refine wpAny_pyIter_list hls ?_
  have hnew : h₀.get? s.heap.objs.size = none := next_is_new F
  have hLI : L ≠ s.heap.objs.size := Nat.ne_of_lt F.ns.lt
  have hi0 : (s.heap.push { cls := .type "list_iterator", data := .fields #[.ref l, .int 0 0] }).IsListIter s.heap.objs.size l 0 := ⟨_, Heap.get?_push_size _ rfl, rfl, rfl⟩
  have hN0 : News h₀ L (s.heap.push { cls := .type "list_iterator", data := .fields #[.ref l, .int 0 0] }) news₀ := fun p hp => ⟨Heap.get?_push_of_some _ (N p hp).1, (N p hp).2⟩
  have hF0 : Fr h₀ L (s.heap.push { cls := .type "list_iterator", data := .fields #[.ref l, .int 0 0] }) m₀ := F.push _
  have hoff0 : ∀ p ∈ news₀, p.1 ≠ s.heap.objs.size := fun p hp => Nat.ne_of_lt (Heap.lt_size (N p hp).1)
  generalize s.heap.push { cls := .type "list_iterator", data := .fields #[.ref l, .int 0 0] } = H0 at *
  generalize s.heap.objs.size = I at *
  have W := Walks.list (prog := prog) (w := w) hh I l hne items
  refine codeAny_forLoop_any (LsJ s h₀ L I l items.size J) ?_ (items.size + 1)
    ⟨_, _, 0, m₀, news₀, rfl, Nat.zero_le _, rfl, hF0, hN0, hoff0, hi0, hJ⟩
  rintro k s' ⟨h, tk, i, m, news, rfl, hi, rfl, F', N', off, hst, hJ'⟩
  have hlh : h.IsList l items := hl.at fun o e => F'.keep l o e
  by_cases hlt : i < items.size
  · refine W.item i _ _ _ hlt ⟨hst, hlh⟩ fun v h₂ tk₂ hPv hst₂ hk₂ => ?_
    have F₂ : Fr h₀ L h₂ m := LCg.fr_but F' hk₂ hLI hnew
    have N₂ : News h₀ L h₂ news := LCg.news_but N' hk₂ off
    obtain ⟨it, hit, hitc, hitd⟩ := id hst₂.1
    have N₃ : News h₀ L h₂ ((I, it) :: news) := fun p hp => by
      rcases List.mem_cons.mp hp with rfl | hp
      · exact ⟨hit, Ne.symm hLI, hnew⟩
      · exact N₂ p hp
    refine wpAny_of_eq rfl ?_
    refine wpAny_assign_Name ?_
    refine wpAny_mono (turn I i v hPv m news off hJ' it h₂ tk₂ hitc F₂ N₃) (fun _ s₂ z => wpAny_mono z (fun f s₃ q => ?_) hE) hE
    have back : UnrEnd h₀ L { s with heap := h₂, toks := tk₂ } I it (J (i + 1)) s₃ → ∃ k', k' < items.size + 1 - i ∧ LsJ s h₀ L I l items.size J k' s₃ := by
      rintro ⟨h', tk', m', news', rfl, F₄, N₄, off₄, hJ₄⟩
      exact ⟨items.size + 1 - (i + 1), by omega, h', tk', i + 1, m', news', rfl, hlt, rfl, F₄, fun p hp => N₄ p (.tail _ hp), off₄, ⟨it, (N₄ _ (.head _)).1, hitc, hitd⟩, hJ₄⟩
    cases f with
    | next => exact back q
    | cont => exact back q
    | brk => exact q
    | ret v => exact q
  · obtain rfl : i = items.size := Nat.le_antisymm hi (Nat.not_lt.mp hlt)
    refine W.done _ _ _ ⟨hst, hlh⟩ fun h₂ tk₂ hk₂ => ?_
    exact wpAny_execs_nil (fin m news hJ' h₂ tk₂ (LCg.fr_but F' hk₂ hLI hnew) (LCg.news_but N' hk₂ off))
end
end
section
open PySem PySem.W PyProof.Rows PySem.Spec
theorem lines_T3 : True := by
  k_with_none
  (k_with "om" => (with_reducible first | assumption | exact Nat.ne_of_lt ‹_› | exact Nat.ne_of_gt ‹_› | exact Ne.symm ‹_› | exact Mine.o_a ‹_› (by decide) | exact Mine.o_b ‹_› (by decide) | exact Mine.o_c ‹_› | exact Mine.o_le (n := 100) ‹_› (by decide) | exact Mine.o_le ‹_› (by decide) | exact Mine.o_l ‹_› (by decide) | exact Mine.o_1 (n := 100) ‹_› (by decide) | exact Mine.o_2 (n := 100) ‹_› (by decide) | exact Mine.o_lt (n := 100) ‹_› (by decide) | exact Mine.o_lt ‹_› (by decide) | exact Mine.o_ll ‹_› (by decide) | exact Mine.o_s ‹_› | exact Mine.o_n _ | exact Mine.o_0 _ | exact Mine.o_i ‹_› (by decide) | exact Mine.o_m ‹_› (by decide) | exact Mine.o_j (n := 100) ‹_› ‹_› (by decide) | exact Mine.o_k ‹_› ‹_› (by decide) | exact Mine.o_e (n := 100) ‹_› ‹_› (by decide) | exact Nat.ne_of_lt (by k_extra "cj") | exact Nat.ne_of_gt (by k_extra "cj") | exact Ne.symm (by k_extra "cj") | k_extra "cj" | fail))
  (k_with "cj" => (first | exact And.left ‹_› | exact Mine.c_2 ‹_› | exact Mine.c_3 ‹_› | exact Mine.c_4 ‹_› | exact Mine.c_5 ‹_› | exact Mine.c_6 ‹_› | exact Mine.c_7 ‹_› | exact Mine.c_8 ‹_› | exact Mine.c_9 ‹_› | exact And.right ‹_› | exact Mine.d_3 ‹_› | exact Mine.d_4 ‹_› | exact Mine.d_5 ‹_› | exact Mine.d_6 ‹_› | exact Mine.d_7 ‹_› | exact Mine.d_8 ‹_› | exact Mine.d_9 ‹_› | fail))
  (k_with "callWith ref" => ((k_here; (with_reducible show wpAny _ _ (callWith _ (Value.ref _) _ (backTo _ (starEach (_ :: _) _)) (backToKw _ (keywordEach (_ :: _) _))) _ _ _); k_dflt (refine' callWith_KW ?k1 ?k2 ?k3 ?_; (case k1 => k_asm); (case k2 => k_is); (case k3 => exact rfl); k_whole))))
  (k_with "fn ctx" => (((case k1 => k_asm); (case k2 => k_asm); (case k3 => k_asm); (case k4 => k_asm); (case k5 => k_asm); (case kK => first | exact rfl | assumption); (case kd => ktr_room); (case ku => ktr_units))))
  (k_with "call ref" => ((k_here; (with_reducible show wpAny _ _ (call (Value.ref 228) _ _) _ _ _); k_dflt (refine' (law_kind).use ?k1 ?k2 ?k3 ?k4 ?k5 ?kK ?kd ?ku ?kz ?_; (walk_at "fn ctx"); (case kz => exact fun _ h => nomatch h); intro zqr9 zqh9 zqtk9 zqF9 zqN9 zqk9 zqho9; obtain ⟨zqt9, zqhr9⟩ := zqho9; subst zqhr9; (try dsimp only); (try k_sweep)))))
  (k_with "call ref" => ((k_here; (with_reducible show wpAny _ _ (call (Value.ref 235) _ _) _ _ _); k_dflt (refine' (law_worth).use ?k1 ?k2 ?k3 ?k4 ?k5 ?kK ?kd ?ku ?kz ?_; (walk_at "fn ctx"); (case kz => exact fun _ h => nomatch h); intro zqr9 zqh9 zqtk9 zqF9 zqN9 zqk9 zqho9; obtain ⟨zqt9, zqhr9⟩ := zqho9; subst zqhr9; (try dsimp only); (try k_sweep)))))
  (k_with "call builtin:len" => ((k_here; (with_reducible show wpAny _ _ (call (Value.builtin "len") [Value.ref _]) _ _ _); k_dflt (first | (refine' len_led ?k1 ?k2 ?k3 ?_; (case k1 => k_asm); (case k2 => k_mem); (case k3 => first | with_reducible assumption | omega | (simp only [List.size_toArray, List.length_map]; omega)); k_whole) | (refine' len_base ?k1 ?k2 ?k3 ?_; (case k1 => k_asm); (case k2 => with_reducible assumption); (case k3 => first | with_reducible assumption | omega); k_whole)))))
  (k_with "m look" => (first | with_reducible assumption | (with_reducible exact lk_hit rfl) | (with_reducible refine' lk_ne ?hh ?hv; (case hh => decide); (case hv => walk_at "m look"))))
  (k_with "eval Name" => ((k_here; k_dflt (refine' nameX_L ?F ?v ?_ ?a ?b; (case b => rfl); (case a => rfl); (case F => k_asm); (case v => walk_at "m look"); k_whole))))
  (k_with "subscriptTail" => ((k_here; (with_reducible show wpAny _ _ (subscriptTail _ _ (Value.ref _) (Value.int (Int.fmod (Int.fdiv _ 88) 3) _)) _ _ _); k_dflt (refine' item_acc ?k1 ?k2 ?_ ?k7; (case k7 => with_unfolding_all rfl); (case k1 => k_asm); (case k2 => k_mem); k_whole; intro zqt9))))
  trivial
theorem accS_ok : ∀ x, fails nameCode (accS x) = true ∧ (accS x).length ≤ 100 := by
  intro x; unfold accS
  split
  · decide +kernel
  · split <;> decide +kernel
/-- the text of a wish as add_header lays it -/
def rowJ (x : Int) : Str := Txt.join (Str.ofString "; ") [kindS x, parS (Str.ofString "q") (worthS x)]
def JH (od hp x dx hl L' : Addr) (oOd oHp : Obj) (hh : Int) (tk0 nd : Nat) (hs0 : List Hd) (c1 : Obj) (tail0 : Led) (xs : List IT) (m₀ : Str → Option Value) (i : Nat) (m : Str → Option Value) (news : Led) : Prop :=
  ∃ (hs : List Hd) (n : Nat), news = srvL od hp x dx hl L' oOd oHp hh tk0 nd (hvals (hs0 ++ hs)) n c1 (tail0 ++ hs.map Hd.e) ∧ Apart od hp x dx hl (L' + 1) (tail0 ++ hs.map Hd.e) ∧ (∀ y, y ≠ Str.ofString "x" → m y = m₀ y) ∧ hs.map (fun h => (h.nm, h.val)) = (xs.take i).map fun x => (accS x.1, rowJ x.1)
section
variable {w : World} {mean : ExcName → Option Value} {mg mb : Str → Option Value} {dp un : Nat} {gd : Option (List Code)} {cn : Str} {cs : Scope} {a : Addr} {ccd : Value} {cl : List (Str × Addr)} {outer : List Env} {base g' : Heap} {L L' : Addr} {s : Shared} {Q : Flow → Shared → Prop} {E : Value → Shared → Prop} {m : Str → Option Value}
variable {od hp x dx hl : Addr} {oOd oHp c1 : Obj} {hh : Int} {tk0 nd n : Nat} {hs : List Hd} {tail : Led} {nl tl : Addr} {n1 n2 : Nat} {xs : List IT} {th : List ST}
theorem srv_growH {h : Heap} {I b : Addr} {it : Obj} {nm val : Str} {tn tv : Tok} {bs : List Hd} {n n0 : Nat} {vo : Array Value} {no : Nat} {vp : Array Value} {np : Nat} {vc : Option Value} (P : Apart od hp x dx hl (L' + 1) (tail ++ bs.map Hd.e)) (hc : c1.data = .cell vc) (hoD : oOd = listOf vo no) (hoP : oHp = listOf vp np)
    (N : News g' L' h ([(b, tup2 (.str nm tn) (.str val tv)), (x, instObj 217 dx), (dx, dictOf [⟨hh, .str (Str.ofString "_headers") tk0, .ref hl⟩] nd), (hl, listOf ((hvals (hs ++ bs)).push (.ref b)) n)] ++ ((I, it) :: (od, oOd) :: (hp, oHp) :: (L' + 1, c1) :: (tail ++ bs.map Hd.e)))) (hb : x < b ∧ dx < b ∧ hl < b)
    (hit : it.cls = .type "list_iterator") (off : ∀ p ∈ srvL od hp x dx hl L' oOd oHp hh tk0 nd (hvals (hs ++ bs)) n0 c1 (tail ++ bs.map Hd.e), p.1 ≠ I) :
    News g' L' h ((I, it) :: srvL od hp x dx hl L' oOd oHp hh tk0 nd (hvals (hs ++ (bs ++ [⟨b, nm, tn, val, tv⟩]))) n c1 (tail ++ (bs ++ [(⟨b, nm, tn, val, tv⟩ : Hd)]).map Hd.e)) ∧ Apart od hp x dx hl (L' + 1) (tail ++ (bs ++ [(⟨b, nm, tn, val, tv⟩ : Hd)]).map Hd.e) ∧
      (∀ p ∈ srvL od hp x dx hl L' oOd oHp hh tk0 nd (hvals (hs ++ (bs ++ [⟨b, nm, tn, val, tv⟩]))) n c1 (tail ++ (bs ++ [(⟨b, nm, tn, val, tv⟩ : Hd)]).map Hd.e), p.1 ≠ I) := by
  obtain ⟨N11, P11⟩ := srv_grow P hc hoD hoP (cb_drop N (fun p hp => by
      rcases List.mem_append.mp hp with hp | hp
      · exact List.mem_append_left _ hp
      · exact List.mem_append_right _ (.tail _ hp))) hb
  have eI : b ≠ I := ne_of_obj N (.head _) (List.mem_append_right _ (.head _)) (by intro e; rw [← e] at hit; simp at hit)
  rw [hvals_push (hs ++ bs) ⟨b, nm, tn, val, tv⟩, List.append_assoc] at N11
  have et : tail ++ bs.map Hd.e ++ [(b, tup2 (.str nm tn) (.str val tv))] = tail ++ (bs ++ [(⟨b, nm, tn, val, tv⟩ : Hd)]).map Hd.e := by simp
  rw [et] at N11 P11
  refine ⟨news_add N (List.mem_append_right _ (.head _)) N11, P11, ?_⟩
  have off' := off
  simp only [srvL, List.forall_mem_cons, List.forall_mem_append] at off' ⊢
  obtain ⟨f1, f2, f3, f4, f5, f6, f7, f8⟩ := off'
  refine ⟨f1, f2, f3, f4, f5, f6, f7, ?_⟩
  intro p hp
  rw [List.map_append] at hp
  rcases List.mem_append.mp hp with hp | hp
  · exact f8 p hp
  · rcases List.mem_cons.mp hp with rfl | hp
    · exact eI
    · cases hp
set_option maxRecDepth 100000 in
set_option maxHeartbeats 8000000 in
theorem srv_for1 (C : Ctx w mean mg mb dp un gd cn cs a ccd cl outer base g' L) (hb1 : g'.get? nl = some (lst (ivals xs) n1)) (hl1 : xs.length ≤ 100) {vo vp : Array Value} {no np : Nat} {vc : Option Value} (hc : c1.data = .cell vc) (hoD : oOd = listOf vo no) (hoP : oHp = listOf vp np) (P : Apart od hp x dx hl (L' + 1) tail) (hsz : hs.length ≤ 10)
    (F : Fr g' L' s.heap m) (N : News g' L' s.heap (srvL od hp x dx hl L' oOd oHp hh tk0 nd (hvals hs) n c1 tail)) (hm : m (Str.ofString "table") = some (.ref x)) (hmn : m (Str.ofString "numbers") = some (.ref nl)) (hE : PassesOwn (model PG w) ((ktrTop dp un gd cn cs L a ccd cl outer).deeper (srvEnv L')) (srvEnv L') E)
    (k : ∀ (bs : List Hd) m' n' h tk, Fr g' L' h m' → News g' L' h (srvL od hp x dx hl L' oOd oHp hh tk0 nd (hvals (hs ++ bs)) n' c1 (tail ++ bs.map Hd.e)) → Apart od hp x dx hl (L' + 1) (tail ++ bs.map Hd.e) → (∀ y, y ≠ Str.ofString "x" → m' y = m y) → bs.map (fun h => (h.nm, h.val)) = xs.map (fun x => (accS x.1, rowJ x.1)) → Q .next { s with heap := h, toks := tk }) :
    wpAny (model PG w) ((ktrTop dp un gd cn cs L a ccd cl outer).deeper (srvEnv L')) (exec srvSt2 (srvEnv L')) Q E s := by
  obtain ⟨B', X', T', hk, hdp, hun⟩ := C
  unfold srvSt2 srvEnv
  dsimp only [st0, tl0]

  have hi1 : g'.IsList nl (ivals xs) := PySem.IsL.isList hb1
  refine wpAny_For ?_
  repeat' (first | (k_unfold; (try dsimp only)) | ((fail_if_success (with_reducible show wpAny _ _ (eval (Expr.ListComp _ _ _ _) _) _ _ _)); (fail_if_success (with_reducible show wpAny _ _ (exec (Stmt.Assign [_] (Expr.ListComp _ _ _ _) _) _) _ _ _)); (fail_if_success (with_reducible show LCt.CompSrcT _ _ _ _ _ _ _ _ _ _ _ _ _ _ _)); (fail_if_success (with_reducible show LCg.CompSrc _ _ _ _ _ _ _ _ _ _ _ _ _ _)); (fail_if_success (with_reducible show LCg.CompEnd _ _ _ _ _ _ _ _ _ _ _ _ _ _)); (fail_if_success (with_reducible show @ite _ _ _ _ _)); (fail_if_success (with_reducible show wpAny _ _ (pyIter _) _ _ _)); (fail_if_success (with_reducible show Q _ _)); (fail_if_success (with_reducible show UnrPost _ _ _ _ _ _ _ _ _)); (fail_if_success (with_reducible show ∃ _, _)); (fail_if_success (with_reducible show wpAny _ _ (call (Value.ref 214) _ _) _ _ _)); walk1) | ((fail_if_success (with_reducible show wpAny _ _ (eval (Expr.ListComp _ _ _ _) _) _ _ _)); (fail_if_success (with_reducible show wpAny _ _ (exec (Stmt.Assign [_] (Expr.ListComp _ _ _ _) _) _) _ _ _)); (fail_if_success (with_reducible show LCt.CompSrcT _ _ _ _ _ _ _ _ _ _ _ _ _ _ _)); (fail_if_success (with_reducible show LCg.CompSrc _ _ _ _ _ _ _ _ _ _ _ _ _ _)); (fail_if_success (with_reducible show LCg.CompEnd _ _ _ _ _ _ _ _ _ _ _ _ _ _)); (fail_if_success (with_reducible show @ite _ _ _ _ _)); (fail_if_success (with_reducible show wpAny _ _ (pyIter _) _ _ _)); (fail_if_success (with_reducible show Q _ _)); (fail_if_success (with_reducible show UnrPost _ _ _ _ _ _ _ _ _)); (fail_if_success (with_reducible show ∃ _, _)); (fail_if_success (with_reducible show wpAny _ _ (call (Value.ref 214) _ _) _ _ _)); dsimp only; walk1))

  rename Fr g' L' _ _ => kF9
  rename News g' L' _ _ => kN9
  refine iter_listAny (JH od hp x dx hl L' oOd oHp hh tk0 nd hs c1 tail xs m) rfl hi1 kF9 kN9 ⟨[], n, by simp, by simpa using P, fun _ _ => rfl, rfl⟩ ?turn ?fin hE
  case fin =>
    rintro m' news ⟨bs, n', rfl, P9, hm9, hbs⟩ h tk F9 N9
    rw [ivals_size, List.take_length] at hbs
    exact k bs m' n' h tk F9 N9 P9 hm9 hbs
  case turn =>
    clear kF9 kN9
    rintro I i v hv m' news off ⟨bs, n', rfl, P9, hm9, hbs⟩ it h tk hit F9 N9
    have hi : i < xs.length := by have := (Array.getElem?_eq_some_iff.mp hv).1; rwa [ivals_size] at this
    obtain ⟨y, hy⟩ : ∃ y, xs[i]? = some y := ⟨_, List.getElem?_eq_getElem hi⟩
    have hv' : v = .int y.1 y.2 := by simp [ivals, hy] at hv; exact hv.symm
    subst hv'
    have hmt : m' (Str.ofString "table") = some (.ref x) := (hm9 _ (by decide)).trans hm
    repeat' (first | (k_unfold; (try dsimp only)) | ((fail_if_success (with_reducible show wpAny _ _ (eval (Expr.ListComp _ _ _ _) _) _ _ _)); (fail_if_success (with_reducible show wpAny _ _ (exec (Stmt.Assign [_] (Expr.ListComp _ _ _ _) _) _) _ _ _)); (fail_if_success (with_reducible show LCt.CompSrcT _ _ _ _ _ _ _ _ _ _ _ _ _ _ _)); (fail_if_success (with_reducible show LCg.CompSrc _ _ _ _ _ _ _ _ _ _ _ _ _ _)); (fail_if_success (with_reducible show LCg.CompEnd _ _ _ _ _ _ _ _ _ _ _ _ _ _)); (fail_if_success (with_reducible show @ite _ _ _ _ _)); (fail_if_success (with_reducible show wpAny _ _ (pyIter _) _ _ _)); (fail_if_success (with_reducible show Q _ _)); (fail_if_success (with_reducible show UnrPost _ _ _ _ _ _ _ _ _)); (fail_if_success (with_reducible show ∃ _, _)); (fail_if_success (with_reducible show wpAny _ _ (call (Value.ref 214) _ _) _ _ _)); walk1) | ((fail_if_success (with_reducible show wpAny _ _ (eval (Expr.ListComp _ _ _ _) _) _ _ _)); (fail_if_success (with_reducible show wpAny _ _ (exec (Stmt.Assign [_] (Expr.ListComp _ _ _ _) _) _) _ _ _)); (fail_if_success (with_reducible show LCt.CompSrcT _ _ _ _ _ _ _ _ _ _ _ _ _ _ _)); (fail_if_success (with_reducible show LCg.CompSrc _ _ _ _ _ _ _ _ _ _ _ _ _ _)); (fail_if_success (with_reducible show LCg.CompEnd _ _ _ _ _ _ _ _ _ _ _ _ _ _)); (fail_if_success (with_reducible show @ite _ _ _ _ _)); (fail_if_success (with_reducible show wpAny _ _ (pyIter _) _ _ _)); (fail_if_success (with_reducible show Q _ _)); (fail_if_success (with_reducible show UnrPost _ _ _ _ _ _ _ _ _)); (fail_if_success (with_reducible show ∃ _, _)); (fail_if_success (with_reducible show wpAny _ _ (call (Value.ref 214) _ _) _ _ _)); dsimp only; walk1))

    have d1 : x ≠ dx := Nat.ne_of_gt P9.lt.2.2.1
    have d2 : x ≠ hl := by have := P9.lt; refine neN ?_; omega
    have d3 : dx ≠ hl := Nat.ne_of_gt P9.lt.2.1
    rename News g' L' _ _ => kN9
    have hbl : bs.length ≤ 100 := by have := congrArg List.length hbs; simp only [List.length_map, List.length_take] at this; omega
    have hoI : I ≠ x ∧ I ≠ dx ∧ I ≠ hl := ⟨fun e => off _ (.tail _ (.tail _ (.head _))) e.symm, fun e => off _ (.tail _ (.tail _ (.tail _ (.head _)))) e.symm, fun e => off _ (.tail _ (.tail _ (.tail _ (.tail _ (.head _))))) e.symm⟩
    k_dflt (refine' (add_header (rest := (I, it) :: (od, oOd) :: (hp, oHp) :: (L' + 1, c1) :: (tail ++ bs.map Hd.e)) (hh := hh) (tk0 := tk0) (nd := nd) (n := n') (vs := hvals (hs ++ bs)) d1 d2 d3 (by rw [hvals_size, List.length_append]; omega) (accS_ok _).1 (kindS_ok _) (worthS_ok _).1 (worthS_len _) (by rw [kindS_len]; decide) (worthS_ok _).2.1 (worthS_ok _).2.2).use ?k1 ?k2 ?k3 kN9 ?k5 ?kK ?kd ?ku ?kM ?kR ?kS ?_; (case k1 => k_asm); (case k2 => k_asm); (case k3 => k_asm); (case k5 => k_asm); (case kK => exact rfl); (case kd => ktr_room); (case ku => ktr_units))
    case kM => (simp only [List.forall_mem_cons, srvL]; refine ⟨?_, ?_, ?_, List.forall_mem_nil _⟩ <;> k_mem)
    case kR => (simp only [List.forall_mem_cons, srvL]; refine ⟨?_, ?_, ?_, ?_, ?_⟩; k_mem; k_mem; k_mem; k_mem; exact fun p hp => .tail _ (.tail _ (.tail _ (.tail _ (.tail _ (.tail _ (.tail _ (.tail _ hp))))))))
    case kS =>
      intro p hp
      rcases List.mem_cons.mp hp with rfl | hp
      · simp only [List.map_cons, List.map_nil, List.mem_cons, List.not_mem_nil, or_false, not_or]; exact hoI
      · exact sep_srv P9 p hp
    rintro r muts' h' tk' F10 N10 ⟨hr, b, t5, hmu, hb⟩
    subst hr hmu
    obtain ⟨N11, P11, off11⟩ := srv_growH P9 hc hoD hoP N10 hb hit off
    have htake : xs.take (i + 1) = xs.take i ++ [y] := by rw [List.take_add_one, hy]; rfl
    repeat' (first | (k_unfold; (try dsimp only)) | ((fail_if_success (with_reducible show wpAny _ _ (eval (Expr.ListComp _ _ _ _) _) _ _ _)); (fail_if_success (with_reducible show wpAny _ _ (exec (Stmt.Assign [_] (Expr.ListComp _ _ _ _) _) _) _ _ _)); (fail_if_success (with_reducible show LCt.CompSrcT _ _ _ _ _ _ _ _ _ _ _ _ _ _ _)); (fail_if_success (with_reducible show LCg.CompSrc _ _ _ _ _ _ _ _ _ _ _ _ _ _)); (fail_if_success (with_reducible show LCg.CompEnd _ _ _ _ _ _ _ _ _ _ _ _ _ _)); (fail_if_success (with_reducible show @ite _ _ _ _ _)); (fail_if_success (with_reducible show wpAny _ _ (pyIter _) _ _ _)); (fail_if_success (with_reducible show Q _ _)); (fail_if_success (with_reducible show UnrPost _ _ _ _ _ _ _ _ _)); (fail_if_success (with_reducible show ∃ _, _)); (fail_if_success (with_reducible show wpAny _ _ (call (Value.ref 214) _ _) _ _ _)); walk1) | ((fail_if_success (with_reducible show wpAny _ _ (eval (Expr.ListComp _ _ _ _) _) _ _ _)); (fail_if_success (with_reducible show wpAny _ _ (exec (Stmt.Assign [_] (Expr.ListComp _ _ _ _) _) _) _ _ _)); (fail_if_success (with_reducible show LCt.CompSrcT _ _ _ _ _ _ _ _ _ _ _ _ _ _ _)); (fail_if_success (with_reducible show LCg.CompSrc _ _ _ _ _ _ _ _ _ _ _ _ _ _)); (fail_if_success (with_reducible show LCg.CompEnd _ _ _ _ _ _ _ _ _ _ _ _ _ _)); (fail_if_success (with_reducible show @ite _ _ _ _ _)); (fail_if_success (with_reducible show wpAny _ _ (pyIter _) _ _ _)); (fail_if_success (with_reducible show Q _ _)); (fail_if_success (with_reducible show UnrPost _ _ _ _ _ _ _ _ _)); (fail_if_success (with_reducible show ∃ _, _)); (fail_if_success (with_reducible show wpAny _ _ (call (Value.ref 214) _ _) _ _ _)); dsimp only; walk1))

    exact ⟨_, _, _, _, rfl, F10, N11, off11, _, _, rfl, P11, fun z hz => (if_neg hz).trans (hm9 z hz), by rw [htake]; simp only [List.map_append, List.map_cons, List.map_nil, hbs, rowJ]⟩
end
end
section
open PySem PySem.W PyProof.Rows PySem.Spec
theorem lines_T4 : True := by
  k_with_none
  (k_with "om" => (with_reducible first | assumption | exact Nat.ne_of_lt ‹_› | exact Nat.ne_of_gt ‹_› | exact Ne.symm ‹_› | exact Mine.o_a ‹_› (by decide) | exact Mine.o_b ‹_› (by decide) | exact Mine.o_c ‹_› | exact Mine.o_le (n := 100) ‹_› (by decide) | exact Mine.o_le ‹_› (by decide) | exact Mine.o_l ‹_› (by decide) | exact Mine.o_1 (n := 100) ‹_› (by decide) | exact Mine.o_2 (n := 100) ‹_› (by decide) | exact Mine.o_lt (n := 100) ‹_› (by decide) | exact Mine.o_lt ‹_› (by decide) | exact Mine.o_ll ‹_› (by decide) | exact Mine.o_s ‹_› | exact Mine.o_n _ | exact Mine.o_0 _ | exact Mine.o_i ‹_› (by decide) | exact Mine.o_m ‹_› (by decide) | exact Mine.o_j (n := 100) ‹_› ‹_› (by decide) | exact Mine.o_k ‹_› ‹_› (by decide) | exact Mine.o_e (n := 100) ‹_› ‹_› (by decide) | exact Nat.ne_of_lt (by k_extra "cj") | exact Nat.ne_of_gt (by k_extra "cj") | exact Ne.symm (by k_extra "cj") | k_extra "cj" | fail))
  (k_with "cj" => (first | exact And.left ‹_› | exact Mine.c_2 ‹_› | exact Mine.c_3 ‹_› | exact Mine.c_4 ‹_› | exact Mine.c_5 ‹_› | exact Mine.c_6 ‹_› | exact Mine.c_7 ‹_› | exact Mine.c_8 ‹_› | exact Mine.c_9 ‹_› | exact And.right ‹_› | exact Mine.d_3 ‹_› | exact Mine.d_4 ‹_› | exact Mine.d_5 ‹_› | exact Mine.d_6 ‹_› | exact Mine.d_7 ‹_› | exact Mine.d_8 ‹_› | exact Mine.d_9 ‹_› | fail))
  (k_with "fn ctx" => (((case k1 => k_asm); (case k2 => k_asm); (case k3 => k_asm); (case k4 => k_asm); (case k5 => k_asm); (case kK => first | exact rfl | assumption); (case kd => ktr_room); (case ku => ktr_units))))
  (k_with "call ref" => ((k_here; (with_reducible show wpAny _ _ (call (Value.ref 228) _ _) _ _ _); k_dflt (refine' (law_kind).use ?k1 ?k2 ?k3 ?k4 ?k5 ?kK ?kd ?ku ?kz ?_; (walk_at "fn ctx"); (case kz => exact fun _ h => nomatch h); intro zqr9 zqh9 zqtk9 zqF9 zqN9 zqk9 zqho9; obtain ⟨zqt9, zqhr9⟩ := zqho9; subst zqhr9; (try dsimp only); (try k_sweep)))))
  (k_with "call ref" => ((k_here; (with_reducible show wpAny _ _ (call (Value.ref 235) _ _) _ _ _); k_dflt (refine' (law_worth).use ?k1 ?k2 ?k3 ?k4 ?k5 ?kK ?kd ?ku ?kz ?_; (walk_at "fn ctx"); (case kz => exact fun _ h => nomatch h); intro zqr9 zqh9 zqtk9 zqF9 zqN9 zqk9 zqho9; obtain ⟨zqt9, zqhr9⟩ := zqho9; subst zqhr9; (try dsimp only); (try k_sweep)))))
  (k_with "call builtin:len" => ((k_here; (with_reducible show wpAny _ _ (call (Value.builtin "len") [Value.ref _]) _ _ _); k_dflt (first | (refine' len_led ?k1 ?k2 ?k3 ?_; (case k1 => k_asm); (case k2 => k_mem); (case k3 => first | with_reducible assumption | omega | (simp only [List.size_toArray, List.length_map]; omega)); k_whole) | (refine' len_base ?k1 ?k2 ?k3 ?_; (case k1 => k_asm); (case k2 => with_reducible assumption); (case k3 => first | with_reducible assumption | omega); k_whole)))))
  (k_with "m look" => (first | with_reducible assumption | (with_reducible exact lk_hit rfl) | (with_reducible refine' lk_ne ?hh ?hv; (case hh => decide); (case hv => walk_at "m look"))))
  (k_with "eval Name" => ((k_here; k_dflt (refine' nameX_L ?F ?v ?_ ?a ?b; (case b => rfl); (case a => rfl); (case F => k_asm); (case v => walk_at "m look"); k_whole))))
  trivial
section
variable {w : World} {mean : ExcName → Option Value} {mg mb : Str → Option Value} {dp un : Nat} {gd : Option (List Code)} {cn : Str} {cs : Scope} {a : Addr} {ccd : Value} {cl : List (Str × Addr)} {outer : List Env} {base g' : Heap} {L L' : Addr} {s : Shared} {Q : Flow → Shared → Prop} {E : Value → Shared → Prop} {m : Str → Option Value}
variable {od hp x dx hl : Addr} {oOd oHp c1 : Obj} {hh : Int} {tk0 nd n : Nat} {hs : List Hd} {tail : Led} {nl tl : Addr} {n1 n2 : Nat} {xs : List IT} {th : List ST}
set_option maxRecDepth 100000 in
set_option maxHeartbeats 8000000 in
theorem srv_wishes (C : Ctx w mean mg mb dp un gd cn cs a ccd cl outer base g' L) (P : Apart od hp x dx hl (L' + 1) tail) (hsz : hs.length ≤ 200) (hnm : ∀ h ∈ hs, h.nm.length ≤ 100) (hin : ∀ h ∈ hs, h.e ∈ tail)
    (F : Fr g' L' s.heap m) (N : News g' L' s.heap (srvL od hp x dx hl L' oOd oHp hh tk0 nd (hvals hs) n c1 tail)) (hm : m (Str.ofString "table") = some (.ref x))
    (k : ∀ D n' h tk, Fr g' L' h (fun y => if y = Str.ofString "wishes" then some (.ref D) else m y) → News g' L' h (srvL od hp x dx hl L' oOd oHp hh tk0 nd (hvals hs) n c1 ((D, listOf (svals (gotAll hs (Txt.lower (Str.ofString "accept")))) n') :: tail)) → Apart od hp x dx hl (L' + 1) ((D, listOf (svals (gotAll hs (Txt.lower (Str.ofString "accept")))) n') :: tail) → Q .next { s with heap := h, toks := tk }) :
    wpAny (model PG w) ((ktrTop dp un gd cn cs L a ccd cl outer).deeper (srvEnv L')) (exec srvSt4 (srvEnv L')) Q E s := by
  obtain ⟨B', X', T', hk, hdp, hun⟩ := C
  unfold srvSt4 srvEnv
  dsimp only [st0, tl0]

  repeat' (first | (k_unfold; (try dsimp only)) | ((fail_if_success (with_reducible show wpAny _ _ (eval (Expr.ListComp _ _ _ _) _) _ _ _)); (fail_if_success (with_reducible show wpAny _ _ (exec (Stmt.Assign [_] (Expr.ListComp _ _ _ _) _) _) _ _ _)); (fail_if_success (with_reducible show LCt.CompSrcT _ _ _ _ _ _ _ _ _ _ _ _ _ _ _)); (fail_if_success (with_reducible show LCg.CompSrc _ _ _ _ _ _ _ _ _ _ _ _ _ _)); (fail_if_success (with_reducible show LCg.CompEnd _ _ _ _ _ _ _ _ _ _ _ _ _ _)); (fail_if_success (with_reducible show @ite _ _ _ _ _)); (fail_if_success (with_reducible show wpAny _ _ (pyIter _) _ _ _)); (fail_if_success (with_reducible show Q _ _)); (fail_if_success (with_reducible show UnrPost _ _ _ _ _ _ _ _ _)); (fail_if_success (with_reducible show ∃ _, _)); (fail_if_success (with_reducible show wpAny _ _ (call (Value.ref 156) _ _) _ _ _)); walk1) | ((fail_if_success (with_reducible show wpAny _ _ (eval (Expr.ListComp _ _ _ _) _) _ _ _)); (fail_if_success (with_reducible show wpAny _ _ (exec (Stmt.Assign [_] (Expr.ListComp _ _ _ _) _) _) _ _ _)); (fail_if_success (with_reducible show LCt.CompSrcT _ _ _ _ _ _ _ _ _ _ _ _ _ _ _)); (fail_if_success (with_reducible show LCg.CompSrc _ _ _ _ _ _ _ _ _ _ _ _ _ _)); (fail_if_success (with_reducible show LCg.CompEnd _ _ _ _ _ _ _ _ _ _ _ _ _ _)); (fail_if_success (with_reducible show @ite _ _ _ _ _)); (fail_if_success (with_reducible show wpAny _ _ (pyIter _) _ _ _)); (fail_if_success (with_reducible show Q _ _)); (fail_if_success (with_reducible show UnrPost _ _ _ _ _ _ _ _ _)); (fail_if_success (with_reducible show ∃ _, _)); (fail_if_success (with_reducible show wpAny _ _ (call (Value.ref 156) _ _) _ _ _)); dsimp only; walk1))

  rename News g' L' _ _ => kN9
  k_dflt (refine' (get_all (rest := (od, oOd) :: (hp, oHp) :: (L' + 1, c1) :: tail) (hh := hh) (tk0 := tk0) (nd := nd) (n := n) (hs := hs) (by omega) (fun h hh => ⟨.tail _ (.tail _ (.tail _ (hin h hh))), hnm h hh⟩) (by decide +kernel) (by decide +kernel)).use ?k1 ?k2 ?k3 kN9 ?k5 ?kK ?kd ?ku ?kM ?kR ?kS ?_; (case k1 => k_asm); (case k2 => k_asm); (case k3 => k_asm); (case k5 => k_asm); (case kK => exact rfl); (case kd => ktr_room); (case ku => ktr_units))
  case kM => (simp only [List.forall_mem_cons, srvL]; refine ⟨?_, ?_, ?_, List.forall_mem_nil _⟩ <;> k_mem)
  case kR => (simp only [List.forall_mem_cons, srvL]; refine ⟨?_, ?_, ?_, ?_⟩; k_mem; k_mem; k_mem; exact fun p hp => .tail _ (.tail _ (.tail _ (.tail _ (.tail _ (.tail _ hp))))))
  case kS => exact sep_srv P
  rintro r muts' h' tk' F9 N9 ⟨D, n', hr, hmu, hD⟩
  subst hr hmu
  have hfr : ∀ p ∈ srvL od hp x dx hl L' oOd oHp hh tk0 nd (hvals hs) n c1 tail, D ≠ p.1 := by
    intro p hp e
    have h1 := (kN9 p hp).1
    rw [← e] at h1
    rw [show (_ : Heap).get? D = none from hD] at h1
    cases h1
  clear kN9
  repeat' (first | (k_unfold; (try dsimp only)) | ((fail_if_success (with_reducible show wpAny _ _ (eval (Expr.ListComp _ _ _ _) _) _ _ _)); (fail_if_success (with_reducible show wpAny _ _ (exec (Stmt.Assign [_] (Expr.ListComp _ _ _ _) _) _) _ _ _)); (fail_if_success (with_reducible show LCt.CompSrcT _ _ _ _ _ _ _ _ _ _ _ _ _ _ _)); (fail_if_success (with_reducible show LCg.CompSrc _ _ _ _ _ _ _ _ _ _ _ _ _ _)); (fail_if_success (with_reducible show LCg.CompEnd _ _ _ _ _ _ _ _ _ _ _ _ _ _)); (fail_if_success (with_reducible show @ite _ _ _ _ _)); (fail_if_success (with_reducible show wpAny _ _ (pyIter _) _ _ _)); (fail_if_success (with_reducible show Q _ _)); (fail_if_success (with_reducible show UnrPost _ _ _ _ _ _ _ _ _)); (fail_if_success (with_reducible show ∃ _, _)); (fail_if_success (with_reducible show wpAny _ _ (call (Value.ref 156) _ _) _ _ _)); walk1) | ((fail_if_success (with_reducible show wpAny _ _ (eval (Expr.ListComp _ _ _ _) _) _ _ _)); (fail_if_success (with_reducible show wpAny _ _ (exec (Stmt.Assign [_] (Expr.ListComp _ _ _ _) _) _) _ _ _)); (fail_if_success (with_reducible show LCt.CompSrcT _ _ _ _ _ _ _ _ _ _ _ _ _ _ _)); (fail_if_success (with_reducible show LCg.CompSrc _ _ _ _ _ _ _ _ _ _ _ _ _ _)); (fail_if_success (with_reducible show LCg.CompEnd _ _ _ _ _ _ _ _ _ _ _ _ _ _)); (fail_if_success (with_reducible show @ite _ _ _ _ _)); (fail_if_success (with_reducible show wpAny _ _ (pyIter _) _ _ _)); (fail_if_success (with_reducible show Q _ _)); (fail_if_success (with_reducible show UnrPost _ _ _ _ _ _ _ _ _)); (fail_if_success (with_reducible show ∃ _, _)); (fail_if_success (with_reducible show wpAny _ _ (call (Value.ref 156) _ _) _ _ _)); dsimp only; walk1))

  rename Fr g' L' _ _ => kF9
  rename News g' L' _ _ => kN9
  have hfr' := hfr
  simp only [srvL, List.forall_mem_cons] at hfr'
  obtain ⟨e1, e2, e3, e4, e5, e6, _⟩ := hfr'
  refine k D n' _ _ kF9 (cb_drop kN9 fun p hp => ?_) ⟨P.lt, ⟨e3, P.t1⟩, ⟨e4, P.t2⟩, ⟨e5, P.t3⟩, ⟨e2, P.t4⟩, ⟨e1, P.t5⟩, ⟨e6, P.t6⟩⟩
  simp only [srvL, List.mem_cons, List.mem_append, List.not_mem_nil, or_false] at hp ⊢
  rcases hp with h | h | h | h | h | h | h | h
  · exact .inr (.inl h)
  · exact .inr (.inr (.inl h))
  · exact .inl (.inr (.inl h))
  · exact .inl (.inr (.inr (.inl h)))
  · exact .inl (.inr (.inr (.inr h)))
  · exact .inr (.inr (.inr (.inl h)))
  · exact .inl (.inl h)
  · exact .inr (.inr (.inr (.inr h)))
end
end
section
open PySem PySem.W PySem.Calls PyProof.Rows PySem.Spec PyProof.V
set_option maxRecDepth 100000
def worthQ (x : Int) : Str := Str.ofString "\"" ++ worthS x ++ Str.ofString "\""
def wq (d : Nat) : Str := Str.ofString "\"" ++ wt d ++ Str.ofString "\""
def rj (c d : Nat) : Str := Txt.join (Str.ofString "; ") [kd c, parS (Str.ofString "q") (wt d)]
theorem rj_all : ∀ c : Fin 8, ∀ d : Fin 11, Txt.split (rj c d) (Str.ofString "; q=") = [kd c, wq d] ∧ (rj c d).length ≤ 100 := by decide +kernel
theorem wq_all : ∀ d : Fin 11, (wq d).length = 5 ∧ PySem.intText? (Txt.item (wq d) 1 ++ Txt.item (wq d) 3) = some ((d : Nat) : Int) ∧ (Txt.item (wq d) 1 ++ Txt.item (wq d) 3).length ≤ 640 ∧ (Txt.item (wq d) 1).length + (Txt.item (wq d) 3).length ≤ 1000 := by decide +kernel
theorem row_split (x : Int) : Txt.split (rowJ x) (Str.ofString "; q=") = [kindS x, worthQ x] ∧ (rowJ x).length ≤ 100 := by
  obtain ⟨c, _, ec⟩ := kindS_fin x
  obtain ⟨d, _, ed⟩ := worthS_fin x
  unfold rowJ worthQ
  rw [ec, ed]
  exact rj_all c d
theorem wq_int (x : Int) : (worthQ x).length = 5 ∧ PySem.intText? (Txt.item (worthQ x) 1 ++ Txt.item (worthQ x) 3) = some (wth x) ∧ (Txt.item (worthQ x) 1 ++ Txt.item (worthQ x) 3).length ≤ 640 ∧ (Txt.item (worthQ x) 1).length + (Txt.item (worthQ x) 3).length ≤ 1000 := by
  obtain ⟨d, hd, ed⟩ := worthS_fin x
  unfold worthQ wth
  rw [ed, hd]
  exact wq_all d
section
variable {prog : Program} {w : World} {A : Around} {E : Value → Shared → Prop} {s : Shared} {h₀ : Heap} {L : Addr} {m : PySem.Str → Option Value} {news : List (Addr × Obj)} {x y a b : PySem.Str} {t u : Tok} {Q : Value → Shared → Prop}
theorem split_two (hF : Fr h₀ L s.heap m) (hN : News h₀ L s.heap news) (hsp : Txt.split x y = [a, b]) (hy : (y.length == 0) = false)
    (h : ∀ D ta tb h' k, Fr h₀ L h' m → News h₀ L h' ((D, listOf #[.str a ta, .str b tb] 0) :: news) → (∀ p ∈ news, p.1 < D) → Q (.ref D) { s with heap := h', toks := k }) (hsz : x.length ≤ 1000) :
    wpAny (model prog w) A (call (.builtin "str.split") [.str x t, .str y u]) Q E s := by
  refine KSpl.split1 hF hN hy (fun D l h' k e _ F' N' l1 => ?_) (by rw [sizeLine_eq]; omega)
  rw [hsp] at e
  rcases l with _ | ⟨⟨a', ta⟩, _ | ⟨⟨b', tb⟩, _ | ⟨c, l⟩⟩⟩
  · simp at e
  · simp at e
  · simp only [List.map_cons, List.map_nil, List.cons.injEq, and_true] at e
    obtain ⟨rfl, rfl⟩ := e
    exact h D ta tb h' k F' N' l1
  · simp at e
end
end
section
open PySem PySem.W PyProof.Rows PySem.Spec
theorem lines_T5 : True := by
  k_with_none
  (k_with "om" => (with_reducible first | assumption | exact Nat.ne_of_lt ‹_› | exact Nat.ne_of_gt ‹_› | exact Ne.symm ‹_› | exact Mine.o_a ‹_› (by decide) | exact Mine.o_b ‹_› (by decide) | exact Mine.o_c ‹_› | exact Mine.o_le (n := 100) ‹_› (by decide) | exact Mine.o_le ‹_› (by decide) | exact Mine.o_l ‹_› (by decide) | exact Mine.o_1 (n := 100) ‹_› (by decide) | exact Mine.o_2 (n := 100) ‹_› (by decide) | exact Mine.o_lt (n := 100) ‹_› (by decide) | exact Mine.o_lt ‹_› (by decide) | exact Mine.o_ll ‹_› (by decide) | exact Mine.o_s ‹_› | exact Mine.o_n _ | exact Mine.o_0 _ | exact Mine.o_i ‹_› (by decide) | exact Mine.o_m ‹_› (by decide) | exact Mine.o_j (n := 100) ‹_› ‹_› (by decide) | exact Mine.o_k ‹_› ‹_› (by decide) | exact Mine.o_e (n := 100) ‹_› ‹_› (by decide) | exact Nat.ne_of_lt (by k_extra "cj") | exact Nat.ne_of_gt (by k_extra "cj") | exact Ne.symm (by k_extra "cj") | k_extra "cj" | fail))
  (k_with "cj" => (first | exact And.left ‹_› | exact Mine.c_2 ‹_› | exact Mine.c_3 ‹_› | exact Mine.c_4 ‹_› | exact Mine.c_5 ‹_› | exact Mine.c_6 ‹_› | exact Mine.c_7 ‹_› | exact Mine.c_8 ‹_› | exact Mine.c_9 ‹_› | exact And.right ‹_› | exact Mine.d_3 ‹_› | exact Mine.d_4 ‹_› | exact Mine.d_5 ‹_› | exact Mine.d_6 ‹_› | exact Mine.d_7 ‹_› | exact Mine.d_8 ‹_› | exact Mine.d_9 ‹_› | fail))
  (k_with "fn ctx" => (((case k1 => k_asm); (case k2 => k_asm); (case k3 => k_asm); (case k4 => k_asm); (case k5 => k_asm); (case kK => first | exact rfl | assumption); (case kd => ktr_room); (case ku => ktr_units))))
  (k_with "call ref" => ((k_here; (with_reducible show wpAny _ _ (call (Value.ref 228) _ _) _ _ _); k_dflt (refine' (law_kind).use ?k1 ?k2 ?k3 ?k4 ?k5 ?kK ?kd ?ku ?kz ?_; (walk_at "fn ctx"); (case kz => exact fun _ h => nomatch h); intro zqr9 zqh9 zqtk9 zqF9 zqN9 zqk9 zqho9; obtain ⟨zqt9, zqhr9⟩ := zqho9; subst zqhr9; (try dsimp only); (try k_sweep)))))
  (k_with "call ref" => ((k_here; (with_reducible show wpAny _ _ (call (Value.ref 235) _ _) _ _ _); k_dflt (refine' (law_worth).use ?k1 ?k2 ?k3 ?k4 ?k5 ?kK ?kd ?ku ?kz ?_; (walk_at "fn ctx"); (case kz => exact fun _ h => nomatch h); intro zqr9 zqh9 zqtk9 zqF9 zqN9 zqk9 zqho9; obtain ⟨zqt9, zqhr9⟩ := zqho9; subst zqhr9; (try dsimp only); (try k_sweep)))))
  (k_with "call builtin:len" => ((k_here; (with_reducible show wpAny _ _ (call (Value.builtin "len") [Value.ref _]) _ _ _); k_dflt (first | (refine' len_led ?k1 ?k2 ?k3 ?_; (case k1 => k_asm); (case k2 => k_mem); (case k3 => first | with_reducible assumption | omega | (simp only [List.size_toArray, List.length_map]; omega)); k_whole) | (refine' len_base ?k1 ?k2 ?k3 ?_; (case k1 => k_asm); (case k2 => with_reducible assumption); (case k3 => first | with_reducible assumption | omega); k_whole)))))
  (k_with "m look" => (first | with_reducible assumption | (with_reducible exact lk_hit rfl) | (with_reducible refine' lk_ne ?hh ?hv; (case hh => decide); (case hv => walk_at "m look"))))
  (k_with "eval Name" => ((k_here; k_dflt (refine' nameX_L ?F ?v ?_ ?a ?b; (case b => rfl); (case a => rfl); (case F => k_asm); (case v => walk_at "m look"); k_whole))))
  (k_with "subscriptTail Name Name ref int" => ((k_here; k_dflt (refine' item_led ?k1 ?k2 ?k3 ?k4 ?k5 ?_ ?k7; (case k7 => with_unfolding_all rfl); (case k1 => k_asm); (case k2 => k_mem); (case k5 => with_reducible assumption); (case k3 => first | with_reducible assumption | omega); (case k4 => first | with_reducible assumption | omega); k_whole))))
  (k_with "subscriptTail" => ((k_here; (with_reducible show wpAny _ _ (subscriptTail _ _ (Value.str (worthQ _) _) (Value.int _ _)) _ _ _); k_dflt (refine' KXi.item (n := 5) ?k1 (by decide) (by decide) (by decide) ?_ ?k6 ?k7; (case k1 => exact (wq_int _).1); (case k6 => with_unfolding_all rfl); (case k7 => intro _; with_unfolding_all rfl); k_whole); intro _)))
  (k_with "binaryOp Add str str" => ((k_here; (with_reducible show wpAny _ _ (binaryOp Operator.Add (Value.str (Txt.item (worthQ _) _) _) (Value.str (Txt.item (worthQ _) _) _)) _ _ _); refine add_len (Nat.le_trans (wq_int _).2.2.2 (by decide)) ?_; intro _ _)))
  (k_with "call type:int" => ((k_here; (with_reducible show wpAny _ _ (call (Value.type "int") [Value.str _ _]) _ _ _); k_dflt (refine KIN.call_text (wq_int _).2.1 (wq_int _).2.2.1 ?_))))
  (k_with "call builtin:str.split" => ((k_here; (with_reducible show wpAny _ _ (call (Value.builtin "str.split") _) _ _ _); k_dflt (refine' split_two ?F ?N ?s (by decide) ?_ ?z; (case F => k_asm); (case N => k_asm); (case s => with_reducible assumption); (case z => omega); k_whole); intro zqD' zqta' zqtb' zqh' zqk' zqF' zqN' zql1; (try k_lt zql1); (try k_sweep))))
  trivial
def heapOf (os : List W) : List W := os.foldl hpush []
theorem heapOf_snoc (os : List W) (y : W) : heapOf (os ++ [y]) = hpush (heapOf os) y := by unfold heapOf; rw [List.foldl_append]; rfl
theorem heapOf_spec (os : List W) : IsHp (heapOf os) ∧ List.Perm (heapOf os) os := by
  have key : ∀ (l : List W) (n : Nat), l.length = n → IsHp (heapOf l) ∧ List.Perm (heapOf l) l := by
    intro l n
    induction n generalizing l with
    | zero =>
      intro h
      obtain rfl := List.length_eq_zero_iff.mp h
      refine ⟨fun i y z _ _ h2 => ?_, List.Perm.refl _⟩
      simp [heapOf] at h2
    | succ n ih =>
      intro h
      have hne : l ≠ [] := by intro e; rw [e] at h; simp at h
      have e := List.dropLast_concat_getLast hne
      generalize l.getLast hne = y at e
      generalize l.dropLast = l' at e
      subst e
      obtain ⟨h1, h2⟩ := ih l' (by simpa using h)
      obtain ⟨h3, h4⟩ := hpush_spec (x := y) h1
      rw [heapOf_snoc]
      exact ⟨h3, h4.trans ((h2.cons y).trans (List.perm_append_comm (l₁ := [y])))⟩
  exact key os _ rfl
structure JP (od hp x dx hl L' : Addr) (oOd : Obj) (hh : Int) (tk0 nd : Nat) (vs : Array Value) (n : Nat) (c1 : Obj) (tail : Led) (xs : List IT) (m₀ : Str → Option Value) (i : Nat) (m : Str → Option Value) (os : List W) (we : Led) (np : Nat) (news : Led) : Prop where
  led : news = srvL od hp x dx hl L' oOd (listOf (vals (heapOf os)) np) hh tk0 nd vs n c1 (tail ++ we)
  apart : Apart od hp x dx hl (L' + 1) (tail ++ we)
  names : ∀ y, y ≠ Str.ofString "k" → y ≠ Str.ofString "kind" → y ≠ Str.ofString "worth" → m y = m₀ y
  ks : os.map (·.k) = (List.range i).map fun (k : Nat) => (k : Int)
  ws : os.map (·.w) = (xs.take i).map fun x => - wth x.1
  ss : os.map (·.s) = (xs.take i).map fun x => kindS x.1
  ok : ∀ y ∈ os, OkW we y
section
variable {w : World} {mean : ExcName → Option Value} {mg mb : Str → Option Value} {dp un : Nat} {gd : Option (List Code)} {cn : Str} {cs : Scope} {a : Addr} {ccd : Value} {cl : List (Str × Addr)} {outer : List Env} {base g' : Heap} {L L' : Addr} {s : Shared} {Q : Flow → Shared → Prop} {E : Value → Shared → Prop} {m : Str → Option Value}
variable {od hp x dx hl : Addr} {oOd oHp c1 : Obj} {hh : Int} {tk0 nd n : Nat} {hs : List Hd} {tail : Led} {nl tl : Addr} {n1 n2 : Nat} {xs : List IT} {th : List ST} {vs : Array Value}
set_option maxRecDepth 100000 in
set_option maxHeartbeats 8000000 in
theorem srv_push (C : Ctx w mean mg mb dp un gd cn cs a ccd cl outer base g' L) {QV : Value → Shared → Prop} {m' : Str → Option Value} {lw D I : Addr} {oI o2 : Obj} {wv : Int} {i : Nat} {sv : Str} {t1 t2 t3 : Tok} {os : List W} {np : Nat} {tl2 we : Led} (hol : os.length < 2 ^ 18) (hok : ∀ y ∈ os, OkW we y) (hks : os.map (·.k) = (List.range i).map fun (k : Nat) => (k : Int)) (P : Apart od hp x dx hl (L' + 1) (tl2 ++ we))
    (F : Fr g' L' s.heap m') (N : News g' L' s.heap ((lw, listOf #[.int wv t1, .int (i : Int) t2, .str sv t3] 0) :: (D, o2) :: (I, oI) :: srvL od hp x dx hl L' oOd (listOf (vals (heapOf os)) np) hh tk0 nd vs n c1 (tl2 ++ we)))
    (hI : I ≠ hp) (hlw : @LT.lt Nat _ I lw ∧ @LT.lt Nat _ od lw ∧ @LT.lt Nat _ hp lw ∧ @LT.lt Nat _ x lw ∧ @LT.lt Nat _ dx lw ∧ @LT.lt Nat _ hl lw ∧ @LT.lt Nat _ (L' + 1) lw)
    (off : ∀ p ∈ srvL od hp x dx hl L' oOd (listOf (vals (heapOf os)) np) hh tk0 nd vs n c1 (tl2 ++ we), p.1 ≠ I)
    (k : ∀ h tk np', Fr g' L' h m' → News g' L' h ((I, oI) :: srvL od hp x dx hl L' oOd (listOf (vals (heapOf (os ++ [⟨lw, wv, (i : Int), sv⟩]))) np') hh tk0 nd vs n c1 (tl2 ++ (we ++ [(lw, listOf #[.int wv t1, .int (i : Int) t2, .str sv t3] 0)]))) → Apart od hp x dx hl (L' + 1) (tl2 ++ (we ++ [(lw, listOf #[.int wv t1, .int (i : Int) t2, .str sv t3] 0)])) →
      (∀ y ∈ os ++ [⟨lw, wv, (i : Int), sv⟩], OkW (we ++ [(lw, listOf #[.int wv t1, .int (i : Int) t2, .str sv t3] 0)]) y) → (∀ p ∈ srvL od hp x dx hl L' oOd (listOf (vals (heapOf (os ++ [⟨lw, wv, (i : Int), sv⟩]))) np') hh tk0 nd vs n c1 (tl2 ++ (we ++ [(lw, listOf #[.int wv t1, .int (i : Int) t2, .str sv t3] 0)])), p.1 ≠ I) → QV .none { s with heap := h, toks := tk }) :
    wpAny (model PG w) ((ktrTop dp un gd cn cs L a ccd cl outer).deeper (srvEnv L')) (call (.ref 52) [.ref hp, .ref lw]) QV E s := by
  obtain ⟨B', X', T', hk, hdp, hun⟩ := C
  obtain ⟨hh1, hh2⟩ := heapOf_spec os
  have hok' : ∀ y ∈ os ++ [(⟨lw, wv, (i : Int), sv⟩ : W)], OkW (we ++ [(lw, listOf #[.int wv t1, .int (i : Int) t2, .str sv t3] 0)]) y := by
    intro y hy
    rcases List.mem_append.mp hy with hy | hy
    · obtain ⟨n, u1, u2, u3, h⟩ := hok y hy
      exact ⟨n, u1, u2, u3, List.mem_append_left _ h⟩
    · obtain rfl := List.mem_singleton.mp hy
      exact ⟨0, t1, t2, t3, List.mem_append_right _ (.head _)⟩
  have up : ∀ {rest : Led}, (∀ p ∈ we ++ [(lw, listOf #[.int wv t1, .int (i : Int) t2, .str sv t3] 0)], p ∈ rest) → ∀ y ∈ os ++ [(⟨lw, wv, (i : Int), sv⟩ : W)], OkW rest y := fun hsub y hy => by
    obtain ⟨n, u1, u2, u3, h⟩ := hok' y hy
    exact ⟨n, u1, u2, u3, hsub _ h⟩
  have P' : Apart od hp x dx hl (L' + 1) (tl2 ++ (we ++ [(lw, listOf #[.int wv t1, .int (i : Int) t2, .str sv t3] 0)])) := by
    obtain ⟨a, q1, q2, q3, q4, q5, q6⟩ := P
    rw [← List.append_assoc]
    refine ⟨a, allNe_append q1 ⟨?_, trivial⟩, allNe_append q2 ⟨?_, trivial⟩, allNe_append q3 ⟨?_, trivial⟩, allNe_append q4 ⟨?_, trivial⟩, allNe_append q5 ⟨?_, trivial⟩, allNe_append q6 ⟨?_, trivial⟩⟩
    all_goals (refine neN ?_; (try dsimp only); omega)
  refine (heappush (n := np) (x := ⟨lw, wv, (i : Int), sv⟩) (ws := heapOf os) (rest := (I, oI) :: (od, oOd) :: (x, instObj 217 dx) :: (dx, dictOf [⟨hh, .str (Str.ofString "_headers") tk0, .ref hl⟩] nd) :: (hl, listOf vs n) :: (L' + 1, c1) :: (tl2 ++ (we ++ [(lw, listOf #[.int wv t1, .int (i : Int) t2, .str sv t3] 0)]))) (by have := hh2.length_eq; omega) ?o1 ?o2 ?o3).use B' F X' N T' rfl (by ktr_room) (by ktr_units) ?kM ?kR ?kS ?_
  case o1 => exact fun y hy => up (fun p hp => .tail _ (.tail _ (.tail _ (.tail _ (.tail _ (.tail _ (List.mem_append_right _ hp))))))) y (List.mem_append_left _ (hh2.mem_iff.mp hy))
  case o2 => exact up (fun p hp => .tail _ (.tail _ (.tail _ (.tail _ (.tail _ (.tail _ (List.mem_append_right _ hp))))))) _ (List.mem_append_right _ (.head _))
  case o3 =>
    intro y hy e
    have h1 : y.k ∈ os.map (·.k) := List.mem_map_of_mem (hh2.mem_iff.mp hy)
    rw [hks] at h1
    obtain ⟨j, hj, ej⟩ := List.mem_map.mp h1
    have := List.mem_range.mp hj
    have e' : (i : Int) = y.k := e
    omega
  case kM => (simp only [List.forall_mem_cons, srvL]; refine ⟨?_, List.forall_mem_nil _⟩; k_mem)
  case kR =>
    intro p hp
    simp only [srvL, List.mem_cons, List.mem_append, List.not_mem_nil, or_false] at hp ⊢
    rcases hp with h | h | h | h | h | h | h | h | h
    · exact .inr (.inr (.inl h))
    · exact .inr (.inr (.inr (.inl h)))
    · exact .inr (.inr (.inr (.inr (.inr (.inl h)))))
    · exact .inr (.inr (.inr (.inr (.inr (.inr (.inl h))))))
    · exact .inr (.inr (.inr (.inr (.inr (.inr (.inr (.inl h)))))))
    · exact .inr (.inr (.inr (.inr (.inr (.inr (.inr (.inr (.inl h))))))))
    · exact .inr (.inr (.inr (.inr (.inr (.inr (.inr (.inr (.inr (.inl h)))))))))
    · exact .inr (.inr (.inr (.inr (.inr (.inr (.inr (.inr (.inr (.inr h)))))))))
    · exact .inl h
  case kS =>
    have back : ∀ {d : Nat} {l : Led}, AllNe d l → ∀ p ∈ l, p.1 ≠ d := by
      intro d l
      induction l with
      | nil => intro _ p hp; cases hp
      | cons q l ih => intro h p hp; rcases List.mem_cons.mp hp with rfl | hp; exact h.1; exact ih h.2 p hp
    have lt := P'.lt
    intro p hp hm
    simp only [List.map_cons, List.map_nil, List.mem_cons, List.not_mem_nil, or_false] at hm
    simp only [List.mem_cons] at hp
    rcases hp with h | h | h | h | h | h | h
    · rw [h] at hm; exact hI hm
    · rw [h] at hm; exact absurd hm (neN (by (try dsimp only); omega))
    · rw [h] at hm; exact absurd hm (neN (by (try dsimp only); omega))
    · rw [h] at hm; exact absurd hm (neN (by (try dsimp only); omega))
    · rw [h] at hm; exact absurd hm (neN (by (try dsimp only); omega))
    · rw [h] at hm; exact absurd hm (neN (by (try dsimp only); omega))
    · exact back P'.t4 p h hm
  rintro r muts' h' tk' F9 N9 ⟨hr, np', hmu⟩
  subst hr hmu
  refine k h' tk' np' F9 (cb_drop N9 fun p hp => ?_) P' hok' ?_
  case refine_2 =>
    have off' := off
    simp only [srvL, List.forall_mem_cons, List.forall_mem_append] at off' ⊢
    obtain ⟨f1, f2, f3, f4, f5, f6, f7, f8⟩ := off'
    exact ⟨f1, f2, f3, f4, f5, f6, f7, f8, Nat.ne_of_gt hlw.1, fun _ h => nomatch h⟩
  rw [heapOf_snoc] at hp
  simp only [srvL, List.mem_cons, List.mem_append, List.not_mem_nil, or_false] at hp ⊢
  rcases hp with h | h | h | h | h | h | h | h
  · exact .inr (.inl h)
  · exact .inr (.inr (.inl h))
  · exact .inl h
  · exact .inr (.inr (.inr (.inl h)))
  · exact .inr (.inr (.inr (.inr (.inl h))))
  · exact .inr (.inr (.inr (.inr (.inr (.inl h)))))
  · exact .inr (.inr (.inr (.inr (.inr (.inr (.inl h))))))
  · exact .inr (.inr (.inr (.inr (.inr (.inr (.inr h))))))
set_option maxRecDepth 100000 in
set_option maxHeartbeats 8000000 in
theorem srv_for2 (C : Ctx w mean mg mb dp un gd cn cs a ccd cl outer base g' L) (hl1 : xs.length ≤ 100) {Dw : Addr} {wz : List ST} {nw np : Nat} (hwz : wz.map (·.1) = xs.map (fun x => rowJ x.1)) (P : Apart od hp x dx hl (L' + 1) ((Dw, listOf (svals wz) nw) :: tail))
    (F : Fr g' L' s.heap m) (N : News g' L' s.heap (srvL od hp x dx hl L' oOd (listOf #[] np) hh tk0 nd vs n c1 ((Dw, listOf (svals wz) nw) :: tail))) (hmw : m (Str.ofString "wishes") = some (.ref Dw)) (hmh : m (Str.ofString "heap") = some (.ref hp)) (hE : PassesOwn (model PG w) ((ktrTop dp un gd cn cs L a ccd cl outer).deeper (srvEnv L')) (srvEnv L') E)
    (k : ∀ m' os we np' news h tk, JP od hp x dx hl L' oOd hh tk0 nd vs n c1 ((Dw, listOf (svals wz) nw) :: tail) xs m xs.length m' os we np' news → Fr g' L' h m' → News g' L' h news → Q .next { s with heap := h, toks := tk }) :
    wpAny (model PG w) ((ktrTop dp un gd cn cs L a ccd cl outer).deeper (srvEnv L')) (exec srvSt5 (srvEnv L')) Q E s := by
  obtain ⟨B', X', T', hk, hdp, hun⟩ := C
  unfold srvSt5 srvEnv
  dsimp only [st0, tl0]

  have hwl : wz.length = xs.length := by have := congrArg List.length hwz; simpa using this
  have hz1 : ((svals wz).size : Int) < 2 ^ 63 := by rw [svals_size]; omega
  refine wpAny_For ?_
  repeat' (first | (k_unfold; (try dsimp only)) | ((fail_if_success (with_reducible show wpAny _ _ (eval (Expr.ListComp _ _ _ _) _) _ _ _)); (fail_if_success (with_reducible show wpAny _ _ (exec (Stmt.Assign [_] (Expr.ListComp _ _ _ _) _) _) _ _ _)); (fail_if_success (with_reducible show LCt.CompSrcT _ _ _ _ _ _ _ _ _ _ _ _ _ _ _)); (fail_if_success (with_reducible show LCg.CompSrc _ _ _ _ _ _ _ _ _ _ _ _ _ _)); (fail_if_success (with_reducible show LCg.CompEnd _ _ _ _ _ _ _ _ _ _ _ _ _ _)); (fail_if_success (with_reducible show @ite _ _ _ _ _)); (fail_if_success (with_reducible show wpAny _ _ (pyIter _) _ _ _)); (fail_if_success (with_reducible show Q _ _)); (fail_if_success (with_reducible show UnrPost _ _ _ _ _ _ _ _ _)); (fail_if_success (with_reducible show ∃ _, _)); (fail_if_success (with_reducible show wpAny _ _ (call (Value.ref 52) _ _) _ _ _)); walk1) | ((fail_if_success (with_reducible show wpAny _ _ (eval (Expr.ListComp _ _ _ _) _) _ _ _)); (fail_if_success (with_reducible show wpAny _ _ (exec (Stmt.Assign [_] (Expr.ListComp _ _ _ _) _) _) _ _ _)); (fail_if_success (with_reducible show LCt.CompSrcT _ _ _ _ _ _ _ _ _ _ _ _ _ _ _)); (fail_if_success (with_reducible show LCg.CompSrc _ _ _ _ _ _ _ _ _ _ _ _ _ _)); (fail_if_success (with_reducible show LCg.CompEnd _ _ _ _ _ _ _ _ _ _ _ _ _ _)); (fail_if_success (with_reducible show @ite _ _ _ _ _)); (fail_if_success (with_reducible show wpAny _ _ (pyIter _) _ _ _)); (fail_if_success (with_reducible show Q _ _)); (fail_if_success (with_reducible show UnrPost _ _ _ _ _ _ _ _ _)); (fail_if_success (with_reducible show ∃ _, _)); (fail_if_success (with_reducible show wpAny _ _ (call (Value.ref 52) _ _) _ _ _)); dsimp only; walk1))

  rename Fr g' L' _ _ => kF9
  rename News g' L' _ _ => kN9
  rename IsRange _ _ _ _ _ _ _ _ => kR9
  refine iter_rangeAny (fun i m' news => ∃ os we np', JP od hp x dx hl L' oOd hh tk0 nd vs n c1 ((Dw, listOf (svals wz) nw) :: tail) xs m i m' os we np' news) rfl kR9 (rs_small (by rw [svals_size]; omega)) (rs_size _) kF9 kN9 ⟨[], [], np, by simp [heapOf, vals], by simpa using P, fun _ _ _ _ => rfl, rfl, rfl, rfl, fun _ h => nomatch h⟩ ?turn ?fin hE
  case fin =>
    rintro m' news ⟨os, we, np', J⟩ h tk F9 N9
    rw [svals_size, hwl] at J
    exact k _ _ _ _ _ _ _ J F9 N9
  case turn =>
    clear kF9 kN9 kR9
    rintro I i hi m' news off ⟨os, we, np', J⟩ t h tk F9 N9
    rw [svals_size, hwl] at hi
    rw [Int.zero_add]
    obtain ⟨rfl, P9, hm9, hks, hws, hss, hok⟩ := J
    obtain ⟨y, hy⟩ : ∃ y, xs[i]? = some y := ⟨_, List.getElem?_eq_getElem hi⟩
    obtain ⟨z, hz⟩ : ∃ z, wz[i]? = some z := ⟨_, List.getElem?_eq_getElem (by omega)⟩
    have hzk : (svals wz)[((i : Nat) : Int).toNat]? = some (.str z.1 z.2) := svals_get hz
    have hzr : z.1 = rowJ y.1 := by
      have h1 := congrArg (fun l => l[i]?) hwz
      simp only [List.getElem?_map, hz, hy, Option.map_some] at h1
      exact Option.some.inj h1
    obtain ⟨hsp, hspl⟩ := row_split y.1
    rw [← hzr] at hsp hspl
    have e0 : (0 : Int) ≤ (i : Int) := Int.natCast_nonneg _
    have e1 : (i : Int) < 2 ^ 63 := by omega
    have hmw9 : m' (Str.ofString "wishes") = some (.ref Dw) := (hm9 _ (by decide) (by decide) (by decide)).trans hmw
    have hmh9 : m' (Str.ofString "heap") = some (.ref hp) := (hm9 _ (by decide) (by decide) (by decide)).trans hmh
    repeat' (first | (k_unfold; (try dsimp only)) | ((fail_if_success (with_reducible show wpAny _ _ (eval (Expr.ListComp _ _ _ _) _) _ _ _)); (fail_if_success (with_reducible show wpAny _ _ (exec (Stmt.Assign [_] (Expr.ListComp _ _ _ _) _) _) _ _ _)); (fail_if_success (with_reducible show LCt.CompSrcT _ _ _ _ _ _ _ _ _ _ _ _ _ _ _)); (fail_if_success (with_reducible show LCg.CompSrc _ _ _ _ _ _ _ _ _ _ _ _ _ _)); (fail_if_success (with_reducible show LCg.CompEnd _ _ _ _ _ _ _ _ _ _ _ _ _ _)); (fail_if_success (with_reducible show @ite _ _ _ _ _)); (fail_if_success (with_reducible show wpAny _ _ (pyIter _) _ _ _)); (fail_if_success (with_reducible show Q _ _)); (fail_if_success (with_reducible show UnrPost _ _ _ _ _ _ _ _ _)); (fail_if_success (with_reducible show ∃ _, _)); (fail_if_success (with_reducible show wpAny _ _ (call (Value.ref 52) _ _) _ _ _)); walk1) | ((fail_if_success (with_reducible show wpAny _ _ (eval (Expr.ListComp _ _ _ _) _) _ _ _)); (fail_if_success (with_reducible show wpAny _ _ (exec (Stmt.Assign [_] (Expr.ListComp _ _ _ _) _) _) _ _ _)); (fail_if_success (with_reducible show LCt.CompSrcT _ _ _ _ _ _ _ _ _ _ _ _ _ _ _)); (fail_if_success (with_reducible show LCg.CompSrc _ _ _ _ _ _ _ _ _ _ _ _ _ _)); (fail_if_success (with_reducible show LCg.CompEnd _ _ _ _ _ _ _ _ _ _ _ _ _ _)); (fail_if_success (with_reducible show @ite _ _ _ _ _)); (fail_if_success (with_reducible show wpAny _ _ (pyIter _) _ _ _)); (fail_if_success (with_reducible show Q _ _)); (fail_if_success (with_reducible show UnrPost _ _ _ _ _ _ _ _ _)); (fail_if_success (with_reducible show ∃ _, _)); (fail_if_success (with_reducible show wpAny _ _ (call (Value.ref 52) _ _) _ _ _)); dsimp only; walk1))

    rename Fr g' L' _ _ => kF9
    rename News g' L' _ _ => kN9
    have hol : os.length = i := by have := congrArg List.length hks; simpa using this
    have offh : I ≠ hp := fun e => off _ (.tail _ (.head _)) e.symm
    refine srv_push ⟨B', X', T', hk, hdp, hun⟩ (by omega) hok hks P9 kF9 kN9 offh (by omega) off fun h tk np'' F10 N10 P10 hok10 off10 => ?_
    repeat' (first | (k_unfold; (try dsimp only)) | ((fail_if_success (with_reducible show wpAny _ _ (eval (Expr.ListComp _ _ _ _) _) _ _ _)); (fail_if_success (with_reducible show wpAny _ _ (exec (Stmt.Assign [_] (Expr.ListComp _ _ _ _) _) _) _ _ _)); (fail_if_success (with_reducible show LCt.CompSrcT _ _ _ _ _ _ _ _ _ _ _ _ _ _ _)); (fail_if_success (with_reducible show LCg.CompSrc _ _ _ _ _ _ _ _ _ _ _ _ _ _)); (fail_if_success (with_reducible show LCg.CompEnd _ _ _ _ _ _ _ _ _ _ _ _ _ _)); (fail_if_success (with_reducible show @ite _ _ _ _ _)); (fail_if_success (with_reducible show wpAny _ _ (pyIter _) _ _ _)); (fail_if_success (with_reducible show Q _ _)); (fail_if_success (with_reducible show UnrPost _ _ _ _ _ _ _ _ _)); (fail_if_success (with_reducible show ∃ _, _)); (fail_if_success (with_reducible show wpAny _ _ (call (Value.ref 52) _ _) _ _ _)); walk1) | ((fail_if_success (with_reducible show wpAny _ _ (eval (Expr.ListComp _ _ _ _) _) _ _ _)); (fail_if_success (with_reducible show wpAny _ _ (exec (Stmt.Assign [_] (Expr.ListComp _ _ _ _) _) _) _ _ _)); (fail_if_success (with_reducible show LCt.CompSrcT _ _ _ _ _ _ _ _ _ _ _ _ _ _ _)); (fail_if_success (with_reducible show LCg.CompSrc _ _ _ _ _ _ _ _ _ _ _ _ _ _)); (fail_if_success (with_reducible show LCg.CompEnd _ _ _ _ _ _ _ _ _ _ _ _ _ _)); (fail_if_success (with_reducible show @ite _ _ _ _ _)); (fail_if_success (with_reducible show wpAny _ _ (pyIter _) _ _ _)); (fail_if_success (with_reducible show Q _ _)); (fail_if_success (with_reducible show UnrPost _ _ _ _ _ _ _ _ _)); (fail_if_success (with_reducible show ∃ _, _)); (fail_if_success (with_reducible show wpAny _ _ (call (Value.ref 52) _ _) _ _ _)); dsimp only; walk1))

    have htake : xs.take (i + 1) = xs.take i ++ [y] := by rw [List.take_add_one, hy]; rfl
    refine ⟨_, _, _, _, rfl, F10, N10, off10, _, _, np'', ⟨rfl, P10, ?_, ?_, ?_, ?_, hok10⟩⟩
    · intro z h1 h2 h3
      exact (if_neg h3).trans ((if_neg h2).trans ((if_neg h1).trans (hm9 z h1 h2 h3)))
    · rw [List.range_succ]; simp only [List.map_append, List.map_cons, List.map_nil, hks]
    · rw [htake]; simp only [List.map_append, List.map_cons, List.map_nil, hws]
    · rw [htake]; simp only [List.map_append, List.map_cons, List.map_nil, hss]
end
end
section
open PySem PySem.W PySem.Calls PyProof.Rows PySem.Spec PyProof.V
set_option maxRecDepth 100000
/-- an item of a set of strs -/
abbrev SE (w : World) (z : ST) : Int × Value := (hashStr w z.1, .str z.1 z.2)
/-- a set of these strs, its table not plain -/
def SetS (w : World) (h : Heap) (a : Addr) (zs : List ST) : Prop :=
  ∃ o es ep t, h.get? a = some o ∧ o.ExactSet ∧ o.data = .set es ep t ∧ es.toList = zs.map (SE w) ∧ zs.length < scanBound ∧ t.fits es.size = true ∧ (zs ≠ [] → t.plain = false)
theorem relayAll_plain (t : SetTable) (es : Array (Int × Value)) (n : Nat) (h : t.plain = false) : (relayAll t es n).2.1.plain = false := by
  unfold relayAll
  split
  · rename_i t' order he
    dsimp only
    split
    · unfold SetTable.relaid SetTable.laid at he
      cases hc : SetTable.layClean (SetTable.sizeAbove n - 1) (es.map (·.1)) with
      | none => rw [hc] at he; simp at he
      | some ow =>
        rw [hc] at he
        simp only [Option.bind_eq_bind, Option.bind_some, Option.pure_def, Option.some.injEq, Prod.mk.injEq] at he
        rw [← he.1]
        exact h
    · rfl
  · rfl
section
variable {prog : Program} {w : World} {A : Around} {E : Value → Shared → Prop} {s : Shared} {a : Addr} {zs : List ST} {x : Str} {t : Tok}
theorem elems_S (zs : List ST) : ElemsOf (PySem.strKind prog w) (zs.map (SE w)) := by
  intro e he
  obtain ⟨z, _, rfl⟩ := List.mem_map.mp he
  exact ⟨⟨z.1, strKind_is _ _ _ _, rfl⟩, rfl⟩
theorem SE_inj {w : World} {l : List (Int × Value)} {zs : List ST} (h : List.Perm l (zs.map (SE w))) : ∃ zs', l = zs'.map (SE w) ∧ List.Perm zs' zs := by
  have h1 : ∀ e ∈ l, ∃ z, e = SE w z := fun e he => by obtain ⟨z, _, rfl⟩ := List.mem_map.mp (h.mem_iff.mp he); exact ⟨z, rfl⟩
  have h2 : ∃ zs' : List ST, l = zs'.map (SE w) := by
    clear h
    induction l with
    | nil => exact ⟨[], rfl⟩
    | cons e l ih =>
      obtain ⟨z, rfl⟩ := h1 e (.head _)
      obtain ⟨zs', rfl⟩ := ih fun e he => h1 e (.tail _ he)
      exact ⟨z :: zs', rfl⟩
  obtain ⟨zs', rfl⟩ := h2
  refine ⟨zs', rfl, ?_⟩
  have h3 := h.map (fun e : Int × Value => match e.2 with | .str x t => (x, t) | _ => (Str.empty, 0))
  simp only [List.map_map] at h3
  have e : ∀ l : List ST, l.map ((fun e : Int × Value => match e.2 with | .str x t => (x, t) | _ => (Str.empty, 0)) ∘ SE w) = l := fun l => List.map_id' l
  rw [e, e] at h3
  exact h3
theorem addTail_S {g : Bool → Sem Unit} (hg : ∀ (b : Bool) (s₁ : Shared) (Q' : Unit → Shared → Prop), Q' () s₁ → wpAny (model prog w) A (g b) Q' E s₁)
    {o : Obj} {es : Array (Int × Value)} {ep : Nat} {tb : SetTable} (ho : s.heap.get? a = some o) (hex : o.ExactSet) (hd : o.data = .set es ep tb)
    {es1 : Array (Int × Value)} {zs1 : List ST} {t2 : SetTable} (hz1 : es1.toList = zs1.map (SE w)) (hb1 : zs1.length < scanBound) (hf2 : t2.fits es1.size = true) (hp2 : t2.plain = false) {wasDummy : Bool} {R : Option Bool → Shared → Prop}
    (h : ∀ h' zs2, Heap.SameBut a s.heap h' → List.Perm zs2 zs1 → SetS w h' a zs2 → R (some true) { s with heap := h' }) :
    wpAny (model prog w) A (do
        storeSet a es1 t2
        if (!wasDummy && t2.tooFull) = true then do
            g (relayAll t2 es1 (SetTable.grown es1.size)).2.2
            storeSet a (relayAll t2 es1 (SetTable.grown es1.size)).1 (relayAll t2 es1 (SetTable.grown es1.size)).2.1
            pure (some true)
          else pure (some true)) R E s := by
  have hsz : es1.size = zs1.length := by rw [← Array.length_toList, hz1, List.length_map]
  refine wpAny_bind (wpAny_storeSet_of ho hd ?_ (fits_of_scanBound (hsz ▸ hb1)))
  have hg1 : ∀ (h : Heap) (o : Obj) (es : Array (Int × Value)) (ep : Nat) (tb : SetTable) (es' : Array (Int × Value)) (t' : SetTable), h.get? a = some o → o.data = .set es ep tb → (h.update a (Obj.putSet es' t')).get? a = some { o with data := .set es' (ep + 1) t' } := by
    intro h o es ep tb es' t' ho hd
    have := Heap.get?_update_self (Obj.putSet es' t') ho (by rw [putSet_of es' t' hd]; rfl)
    rw [putSet_of es' t' hd] at this; exact this
  have ho1 := hg1 _ _ _ _ _ es1 t2 ho hd
  have hsb1 := Heap.SameBut.update s.heap a (Obj.putSet es1 t2)
  split
  · have hp := relayAll_perm t2 es1 (SetTable.grown es1.size)
    have hfr := relayAll_fits t2 es1 (SetTable.grown es1.size)
    have hpr := relayAll_plain t2 es1 (SetTable.grown es1.size) hp2
    generalize hRl : relayAll t2 es1 (SetTable.grown es1.size) = Rl at hp hfr hpr ⊢
    obtain ⟨es2, t3, gave2⟩ := Rl
    dsimp only at hp hfr hpr ⊢
    rw [hz1] at hp
    obtain ⟨zs2, hz2, hpz⟩ := SE_inj hp
    have hb2 : zs2.length < scanBound := by rw [hpz.length_eq]; exact hb1
    have hs2 : es2.size = zs2.length := by rw [← Array.length_toList, hz2, List.length_map]
    refine wpAny_bind (hg _ _ _ ?_)
    refine wpAny_bind (wpAny_storeSet_of ho1 rfl ?_ (fits_of_scanBound (hs2 ▸ hb2)))
    exact wpAny_pure (h _ zs2 (hsb1.trans (Heap.SameBut.update _ a _)) hpz ⟨_, _, _, _, hg1 _ _ _ _ _ es2 t3 ho1 rfl, hex, rfl, hz2, hb2, hfr, fun _ => hpr⟩)
  · exact wpAny_pure (h _ zs1 hsb1 (List.Perm.refl _) ⟨_, _, _, _, ho1, hex, rfl, hz1, hb1, hf2, fun _ => hp2⟩)
theorem addHashed_S {Q : Bool → Shared → Prop} (hS : SetS w s.heap a zs) (hroom : zs.length + 1 < scanBound)
    (h : ∀ h' zs' b, Heap.SameBut a s.heap h' → SetS w h' a zs' → (if x ∈ zs.map (·.1) then zs' = zs else List.Perm zs' (zs ++ [(x, t)])) → Q b { s with heap := h' }) :
    wpAny (model prog w) A (setAddHashed a (.str x t) (hashStr w x)) Q E s := by
  obtain ⟨o, es, ep, tb, ho, hex, hd, hes, hb, hf, hpl⟩ := hS
  have hel : ElemsOf (PySem.strKind prog w) es.toList := hes ▸ elems_S zs
  have hn : es.size = zs.length := by rw [← Array.length_toList, hes, List.length_map]
  have hbs : es.size < scanBound := hn ▸ hb
  unfold setAddHashed setAddHashedIn
  refine wpAny_holding (wpAny_bind (wpAny_setState_of ho hd hf ?_))
  dsimp only
  rw [byScan_of (knd := PySem.strKind prog w) (x := .str x t) rfl hbs hel]
  simp only [↓reduceIte]
  unfold setAddByScan
  refine wpAny_bind ?_
  refine wpAny_bind (wpAny_rule ?_)
  refine wpAny_bind (wpAny_setScan_of (knd := PySem.strKind prog w) (k := x) (strKind_is _ _ _ _) ho hd hf hel ?_)
  cases hr : List.findIdx? (fun e => (PySem.strKind prog w).is x e.2) es.toList with
  | some j =>
    dsimp only
    obtain ⟨hj, hpj, _⟩ := List.findIdx?_eq_some_iff_getElem.mp hr
    have hx : x ∈ zs.map (·.1) := by
      have hm : es.toList[j] ∈ zs.map (SE w) := hes ▸ List.getElem_mem hj
      obtain ⟨z, hz, e⟩ := List.mem_map.mp hm
      rw [← e] at hpj
      have := (PySem.strKind prog w).inj _ _ _ hpj (strKind_is prog w z.1 z.2)
      exact List.mem_map.mpr ⟨z, hz, this.symm⟩
    refine wpAny_pure (wpAny_pure ?_)
    have e : s = { s with heap := s.heap } := by cases s; rfl
    rw [e]
    exact h s.heap zs false (Heap.SameBut.refl a s.heap) ⟨o, es, ep, tb, ho, hex, hd, hes, hb, hf, hpl⟩ (by rw [if_pos hx])
  | none =>
    dsimp only
    have hx : x ∉ zs.map (·.1) := by
      intro hx
      obtain ⟨z, hz, e⟩ := List.mem_map.mp hx
      have := List.findIdx?_eq_none_iff.mp hr (SE w z) (hes ▸ List.mem_map_of_mem hz)
      rw [show (PySem.strKind prog w).is x (SE w z).2 = true from e ▸ strKind_is prog w z.1 z.2] at this
      exact Bool.noConfusion this
    have hperm := layNew_perm tb es (hashStr w x) (.str x t)
    have hfits := layNew_fits tb es (hashStr w x) (.str x t)
    generalize hL : layNew tb es (hashStr w x) (.str x t) = R at hperm hfits
    obtain ⟨es1, t1, wasDummy, gave⟩ := R
    dsimp only at hperm hfits ⊢
    rw [Array.toList_push, hes, show zs.map (SE w) ++ [(hashStr w x, Value.str x t)] = (zs ++ [(x, t)]).map (SE w) by simp] at hperm
    obtain ⟨zs1, hz1, hp1⟩ := SE_inj hperm
    have hl1 : zs1.length = zs.length + 1 := by rw [hp1.length_eq]; simp
    have hsz1 : es1.size = zs1.length := by rw [← Array.length_toList, hz1, List.length_map]
    have hgw : ∀ (b : Bool) {s₁ : Shared} {Q' : Unit → Shared → Prop}, Q' () s₁ → wpAny (model prog w) A (match b with | true => rule "set.scan.the-table-gave-way" | false => pure ()) Q' E s₁ :=
      fun b s₁ Q' hq => by cases b <;> first | exact wpAny_pure hq | exact wpAny_rule hq
    refine wpAny_bind (hgw _ ?_)
    have hend : ∀ h' zs2, Heap.SameBut a s.heap h' → List.Perm zs2 zs1 → SetS w h' a zs2 → Q true { s with heap := h' } :=
      fun h' zs2 hsb hp hS' => h h' zs2 true hsb hS' (by rw [if_neg hx]; exact hp.trans hp1)
    have hb1 : zs1.length < scanBound := by rw [hl1]; exact hroom
    split
    · refine wpAny_bind ?_
      rw [hashByValue_scannable 8 (x := .str x t) rfl]
      refine wpAny_pure ?_
      have hpk : plainKind (.str x t) = false := rfl
      rw [hpk]
      simp only [Bool.false_eq_true, ↓reduceIte]
      refine addTail_S ?_ ho hex hd hz1 hb1 (SetTable.fits_plain_off hfits) rfl ?_
      · intro b s₁ Q' hq; cases b <;> first | exact wpAny_pure hq | exact wpAny_rule hq
      · intro h' zs2 hsb hp hS'; dsimp only; exact wpAny_pure (hend h' zs2 hsb hp hS')
    · rename_i hnp
      refine wpAny_bind (wpAny_pure ?_)
      simp only [↓reduceIte]
      refine addTail_S ?_ ho hex hd hz1 hb1 hfits (by simpa using hnp) ?_
      · intro b s₁ Q' hq; cases b <;> first | exact wpAny_pure hq | exact wpAny_rule hq
      · intro h' zs2 hsb hp hS'; dsimp only; exact wpAny_pure (hend h' zs2 hsb hp hS')
theorem add_S {Q : Bool → Shared → Prop} (hS : SetS w s.heap a zs) (hroom : zs.length + 1 < scanBound)
    (h : ∀ h' zs' b tk, Heap.SameBut a s.heap h' → SetS w h' a zs' → (if x ∈ zs.map (·.1) then zs' = zs else List.Perm zs' (zs ++ [(x, t)])) → Q b { s with heap := h', toks := tk }) :
    wpAny (model prog w) A (setAdd a (.str x t)) Q E s := by
  unfold setAdd
  refine wpAny_holding (wpAny_bind (wpAny_pyHash_str ?_))
  exact addHashed_S (s := { s with toks := s.toks + 1 }) hS hroom fun h' zs' b hsb hS' hp => h h' zs' b _ hsb hS' hp
end
end
section
open PySem PySem.W PySem.Calls PyProof.Rows PySem.Spec PyProof.V
set_option maxRecDepth 100000
/-- these are those of the list, each once -/
structure Once (zs ys : List ST) : Prop where
  nodup : (zs.map (·.1)).Nodup
  same : ∀ y, y ∈ zs.map (·.1) ↔ y ∈ ys.map (·.1)
  len : zs.length ≤ ys.length
theorem Once.step {zs zs' ys : List ST} {x : Str} {t t' : Tok} (H : Once zs ys) (h : if x ∈ zs.map (·.1) then zs' = zs else List.Perm zs' (zs ++ [(x, t)])) : Once zs' (ys ++ [(x, t')]) := by
  by_cases hx : x ∈ zs.map (·.1)
  · rw [if_pos hx] at h
    subst h
    refine ⟨H.nodup, fun y => ?_, by have := H.len; simp; omega⟩
    rw [List.map_append, List.mem_append, H.same y]
    simp only [List.map_cons, List.map_nil, List.mem_singleton]
    constructor
    · exact .inl
    · rintro (h | h)
      · exact h
      · rw [h]; exact (H.same x).mp hx
  · rw [if_neg hx] at h
    have hm := h.map (·.1)
    rw [List.map_append] at hm
    refine ⟨hm.nodup_iff.mpr ?_, fun y => ?_, by have := H.len; rw [h.length_eq]; simp; omega⟩
    · rw [List.nodup_append]
      refine ⟨H.nodup, by simp, fun a ha b hb e => ?_⟩
      simp only [List.map_cons, List.map_nil, List.mem_singleton] at hb
      exact hx (hb ▸ e ▸ ha)
    · rw [hm.mem_iff, List.mem_append, List.map_append, List.mem_append, H.same y]
      simp
section
variable {prog : Program} {w : World} {A : Around} {E : Value → Shared → Prop} {s : Shared} {S I l : Addr} {xs : List ST} {R : Result → Shared → Prop}
theorem SetS.keep {h h' : Heap} {zs : List ST} (hS : SetS w h S zs) (hk : ∀ o, h.get? S = some o → h'.get? S = some o) : SetS w h' S zs := by
  obtain ⟨o, es, ep, t, ho, r⟩ := hS
  exact ⟨o, es, ep, t, hk _ ho, r⟩
theorem loop_S (hh : A.in1.handled = none) (hSI : S ≠ I) (hSl : S ≠ l) (hIl : I ≠ l) (hb : xs.length + 1 < scanBound) : ∀ (k i : Nat) (s : Shared) (zs : List ST), xs.length - i = k → i ≤ xs.length → s.heap.IsListIter I l i → s.heap.IsList l (svals xs) → SetS w s.heap S zs → Once zs (xs.take i) →
    (∀ h' zs' tk, (∀ b o, b ≠ S → b ≠ I → s.heap.get? b = some o → h'.get? b = some o) → SetS w h' S zs' → Once zs' xs → R (.ok (.ret .none)) { s with heap := h', toks := tk }) →
    codeAny (model prog w) A (.builtin "set.update.loop" ⟨[.ref S, .ref I], []⟩) R s := by
  intro k
  induction k with
  | zero =>
    intro i s zs hk hi hit hl hS hO hR
    obtain rfl : i = xs.length := by omega
    refine codeAny_builtin F.entry_set_update_loop ?_
    rw [Around.under_plainId F.plain_set_update_loop _]
    show wpAny _ A.in1 (pyNext (.ref I) >>= _) _ _ s
    refine wpAny_bind (wpAny_pyNext_list_end hh hit hl (by simp [svals]) fun h' hx => ?_)
    show wpAny _ A.in1 (ret Value.none) _ _ _
    rw [List.take_length] at hO
    exact wpAny_pure (hR h' zs s.toks (fun b o _ hbI e => hx b o hbI e) (hS.keep fun o e => hx S o hSI e) hO)
  | succ k ih =>
    intro i s zs hk hi hit hl hS hO hR
    have hlt : i < xs.length := by omega
    obtain ⟨x, hx⟩ : ∃ x, xs[i]? = some x := ⟨_, List.getElem?_eq_getElem hlt⟩
    refine codeAny_builtin F.entry_set_update_loop ?_
    rw [Around.under_plainId F.plain_set_update_loop _]
    show wpAny _ A.in1 (pyNext (.ref I) >>= _) _ _ s
    refine wpAny_bind (wpAny_pyNext_list_item (x := .str x.1 x.2) hit hl (by simp [svals, hx]) fun h' hit' hsb => ?_)
    show wpAny _ A.in1 (holding [Value.str x.1 x.2] (setAdd S (.str x.1 x.2)) >>= _) _ _ _
    have hk1 : ∀ b o, b ≠ I → s.heap.get? b = some o → h'.get? b = some o := fun b o hb e => hsb.extBut b o hb e
    refine wpAny_bind (wpAny_holding ?_)
    refine add_S (s := { s with heap := h' }) (hS.keep fun o e => hk1 S o hSI e) (by have := hO.len; rw [List.length_take] at this; omega) fun h2 zs2 b tk hsb2 hS2 hp2 => ?_
    have hk2 : ∀ b o, b ≠ S → h'.get? b = some o → h2.get? b = some o := fun b o hb e => hsb2.extBut b o hb e
    refine wpAny_pure ⟨plainId_quiet F.plain_set_update_loop _, ih (i + 1) _ zs2 (by omega) hlt ?_ ?_ hS2 ?_ ?_⟩
    · exact hit'.at fun o e => hk2 I o (Ne.symm hSI) e
    · exact hl.at fun o e => hk2 l o (Ne.symm hSl) (hk1 l o (Ne.symm hIl) e)
    · rw [List.take_add_one, hx]
      exact hO.step hp2
    · intro h3 zs3 tk3 hk3 hS3 hO3
      exact hR h3 zs3 tk3 (fun b o hbS hbI e => hk3 b o hbS hbI (hk2 b o hbS (hk1 b o hbI e))) hS3 hO3
end
end
section
open PySem PySem.W PySem.Calls PyProof.Rows PySem.Spec PyProof.V
theorem lines_U3 : True := by
  k_with_none
  (k_with "om" => (with_reducible first | assumption | exact Nat.ne_of_lt ‹_› | exact Nat.ne_of_gt ‹_› | exact Ne.symm ‹_› | exact Mine.o_a ‹_› (by decide) | exact Mine.o_b ‹_› (by decide) | exact Mine.o_c ‹_› | exact Mine.o_le (n := 100) ‹_› (by decide) | exact Mine.o_le ‹_› (by decide) | exact Mine.o_l ‹_› (by decide) | exact Mine.o_1 (n := 100) ‹_› (by decide) | exact Mine.o_2 (n := 100) ‹_› (by decide) | exact Mine.o_lt (n := 100) ‹_› (by decide) | exact Mine.o_lt ‹_› (by decide) | exact Mine.o_ll ‹_› (by decide) | exact Mine.o_s ‹_› | exact Mine.o_n _ | exact Mine.o_0 _ | exact Mine.o_i ‹_› (by decide) | exact Mine.o_m ‹_› (by decide) | exact Mine.o_j (n := 100) ‹_› ‹_› (by decide) | exact Mine.o_k ‹_› ‹_› (by decide) | exact Mine.o_e (n := 100) ‹_› ‹_› (by decide) | exact Nat.ne_of_lt (by k_extra "cj") | exact Nat.ne_of_gt (by k_extra "cj") | exact Ne.symm (by k_extra "cj") | k_extra "cj" | fail))
  (k_with "cj" => (first | exact And.left ‹_› | exact Mine.c_2 ‹_› | exact Mine.c_3 ‹_› | exact Mine.c_4 ‹_› | exact Mine.c_5 ‹_› | exact Mine.c_6 ‹_› | exact Mine.c_7 ‹_› | exact Mine.c_8 ‹_› | exact Mine.c_9 ‹_› | exact And.right ‹_› | exact Mine.d_3 ‹_› | exact Mine.d_4 ‹_› | exact Mine.d_5 ‹_› | exact Mine.d_6 ‹_› | exact Mine.d_7 ‹_› | exact Mine.d_8 ‹_› | exact Mine.d_9 ‹_› | fail))
  (k_with "u3_step" => ((first | with_reducible (first | refine wpAny_pure ?_ | refine wpAny_bind ?_ | refine wpAny_holding ?_ | refine wpAny_standAt ?_ | refine wpAny_point ?_ | refine wpAny_rule ?_ | refine wpAny_letGo ?_ | refine wpAny_mkInt' ?_ | refine wpAny_fresh' ?_ | refine wpAny_alloc' ?_ | refine wpAny_attempt ?_ | refine wpAny_throw ?_ | refine wpAny_of_eq (by assumption) ?_ | refine wpAny_typeOf (by assumption) ?_ | refine wpAny_specialOf_val (by assumption) (by assumption) ?_ | refine wpAny_specialOf (by assumption) (by assumption) ?_ | refine wpAny_isInstance_val (by assumption) (by assumption) ?_ | refine wpAny_isInstance (by assumption) (by assumption) ?_ | refine wpAny_call ?_ | refine wpAny_runValue ?_ | refine wpAny_run ?_) | ((with_reducible apply wpAny_load'); focus (heap_get; done)) | ((with_reducible apply wpAny_update'); focus (heap_get; done)) | ((with_reducible apply wpAny_loadPart'); focus (heap_get; done)) | ((with_reducible apply wpAny_updatePart'); focus (heap_get; done)) | ((with_reducible apply wpAny_handled_none); focus (assumption; done)) | ((with_reducible apply wpAny_ite_false); focus (rfl; done)) | ((with_reducible apply wpAny_ite_true); focus (rfl; done)) | ((with_reducible apply wpAny_ite_false); focus (simp [*]; done)) | ((with_reducible apply wpAny_ite_true); focus (simp [*]; done)) | wp_delta | with_reducible_and_instances refine wpAny_pure ?_ | with_reducible_and_instances refine wpAny_bind ?_)))
  trivial
section
variable {prog : Program} {w : World} {A : Around} {E : Value → Shared → Prop} {s : Shared}
set_option maxRecDepth 100000 in
set_option maxHeartbeats 3200000 in
/-- set(l) of a list of strs -/
theorem set_strs {l : Addr} {xs : List ST} {Q : Value → Shared → Prop} (hh : A.handled = none) (hl : s.heap.IsList l (svals xs)) (hb : xs.length + 1 < scanBound)
    (h : ∀ D h' zs tk, s.heap.get? D = none → (∀ b o, s.heap.get? b = some o → h'.get? b = some o) → SetS w h' D zs → Once zs xs → Q (.ref D) { s with heap := h', toks := tk }) :
    wpAny (model prog w) A (call (.type "set") [.ref l]) Q E s := by
  have hfree : s.heap.get? s.heap.objs.size = none := by
    cases e : s.heap.get? s.heap.objs.size with
    | none => rfl
    | some o => exact absurd (Heap.lt_size e) (Nat.lt_irrefl _)
  obtain ⟨c, tl, hmro⟩ := PySem.F.called_set.mro
  have hmade := PySem.F.called_set.made
  have hsub := PySem.F.called_set.sub
  refine wpAny_call (codeAny_of_tree ?_)
  show wpAny _ _ (callAny (.type "set") _) _ _ _
  refine wpAny_pure ⟨Code.quiet_builtin _ (by decide +kernel), codeAny_builtin PySem.F.entry_type_call ?_⟩
  rw [Around.under_plain (weight_type_call_type "set" [.ref l] []) rfl]
  have h1 := PySem.F.called_set.notType
  have h2 := PySem.F.called_set.canCreate
  have hct := PySem.F.typeCall_set_1 (.ref l)
  repeat (any_goals (first | assumption | walk_at "u3_step"))
  clear h1 h2 hct hmro
  refine codeAny_mono (code_set_new_1 (.ref l) (E := E) (Q₁ := fun obj s₁ => ∃ led : Bool, obj = .ref s.heap.objs.size ∧ s₁ = { s with heap := s.heap.push { cls := .type "set", dict := none, data := .set #[] 0 (.fresh 0 0 led) } }) fun led => ⟨led, rfl, rfl⟩) fun r s₁ hr => ?_
  cases r with
  | error e => exact hr
  | ok fl =>
    cases fl with
    | ret obj =>
      obtain ⟨led, rfl, rfl⟩ := hr
      have hS : (s.heap.push { cls := .type "set", dict := none, data := .set #[] 0 (.fresh 0 0 led) }).get? s.heap.objs.size = some { cls := .type "set", dict := none, data := .set #[] 0 (.fresh 0 0 led) } := Heap.get?_push_size _ rfl
      have hT : Shared.TypeIs { s with heap := s.heap.push { cls := .type "set", dict := none, data := .set #[] 0 (.fresh 0 0 led) } } (.ref s.heap.objs.size) "set" := ⟨_, hS, rfl⟩
      have hli := PySem.F.called_set.init.lookup
      have hbi := PySem.F.called_set.init.bind (.ref s.heap.objs.size)
      repeat (any_goals (first | assumption | walk_at "u3_step"))
      refine codeAny_mono (codeAny_call_builtin (R := wants (fun r s₂ => r = .none ∧ ∃ h' zs tk, s₂ = { s with heap := h', toks := tk } ∧ SetS w h' s.heap.objs.size zs ∧ Once zs xs ∧ (∀ b o, s.heap.get? b = some o → h'.get? b = some o)) E) PySem.F.called_set.init.plain PySem.F.entry_set_init (check_set_init_1 hT ?_)) fun r₂ s₂ hr₂ => ?_
      · obtain ⟨ol, hol, hcl, nl, hdl⟩ := hl
        obtain ⟨ocls, odict, odata, oslots⟩ := ol
        simp only at hcl hdl
        subst hcl; subst hdl
        have hol' : (s.heap.push { cls := .type "set", dict := none, data := .set #[] 0 (.fresh 0 0 led) }).get? l = some { cls := .type "list", dict := odict, data := .seq (svals xs) nl, slots := oslots } := Heap.get?_push_of_some _ hol
        have hsls := PySem.F.sub_list_set
        have hslf := PySem.F.sub_list_frozenset
        have hne : (Value.type "list" == Value.type "dict") = false := by decide
        have hl1 : (s.heap.push { cls := .type "set", dict := none, data := .set #[] 0 (.fresh 0 0 led) }).IsList l (svals xs) := ⟨_, hol', rfl, nl, rfl⟩
        unfold Builtin.«set.__init__» noKeywords Builtin.Frozenset.updateFrom
        generalize hPI : pyIter = PI
        repeat walk_at "u3_step"
        subst hPI
        refine wpAny_pyIter_list hl1 ?_
        refine wpAny_bind (wpAny_runValue ?_)
        have hlS : @LT.lt Nat _ l s.heap.objs.size := Heap.lt_size hol
        have hz : (s.heap.push { cls := .type "set", dict := none, data := .set #[] 0 (.fresh 0 0 led) }).objs.size = s.heap.objs.size + 1 := Heap.size_push _ _
        have hget : ((s.heap.push { cls := .type "set", dict := none, data := .set #[] 0 (.fresh 0 0 led) }).push { cls := .type "list_iterator", data := .fields #[.ref l, .int 0 0] }).get? s.heap.objs.size = some { cls := .type "set", dict := none, data := .set #[] 0 (.fresh 0 0 led) } := Heap.get?_push_of_some _ hS
        refine loop_S (S := s.heap.objs.size) (l := l) (xs := xs) (by simp [hh]) ?a1 ?a2 ?a3 hb xs.length 0 _ [] (by omega) (Nat.zero_le _) ⟨_, Heap.get?_push_size _ rfl, rfl, rfl⟩ (hl1.push _) ⟨_, #[], 0, _, hget, ⟨rfl, rfl, rfl⟩, rfl, rfl, (by unfold scanBound; decide), rfl, fun e => absurd rfl e⟩ ⟨List.nodup_nil, fun y => by simp, Nat.le_refl _⟩ ?hR
        case a1 => rw [hz]; exact neN (by omega)
        case a2 => exact neN (by omega)
        case a3 => rw [hz]; exact neN (by omega)
        case hR =>
          intro h' zs' tk hk hS' hO
          show wpAny _ _ _ _ _ _
          refine wpAny_pure ?_
          show wpAny _ _ (ret Value.none) _ _ _
          refine wpAny_pure ⟨rfl, h', zs', tk, rfl, hS', hO, fun b o e => ?_⟩
          have hb1 : @LT.lt Nat _ b s.heap.objs.size := Heap.lt_size e
          exact hk b o (neN (by omega)) (by rw [hz]; exact neN (by omega)) (Heap.get?_push_of_some _ (Heap.get?_push_of_some _ e))
      · cases r₂ with
        | error e => exact hr₂
        | ok fl₂ =>
          cases fl₂ with
          | ret r =>
            obtain ⟨rfl, h', zs, tk, rfl, hS', hO, hk'⟩ := hr₂
            repeat (any_goals (first | assumption | walk_at "u3_step"))
            exact h _ _ _ _ hfree hk' hS' hO
          | _ => exact hr₂.elim
    | _ => exact hr.elim
end
end
section
open PySem PySem.W PySem.Calls PyProof.Rows PySem.Spec PyProof.V
set_option maxRecDepth 100000
section
variable {prog : Program} {w : World} {A : Around} {E : Value → Shared → Prop} {s : Shared}
theorem wpAny_choose1 {src : Source} {n : Nat} {Q : Nat → Shared → Prop} (hn : n ≠ 0) (h : ∀ i d, i < n → Q i { s with drawn := d }) : wpAny (model prog w) A (choose src n) Q E s := fun Γ p hΓ => by
  show Sem.wp _ Γ (.choose src n .pure) _ _ p s
  rw [Sem.wp_choose]
  exact ⟨hn, h _ _ (Nat.mod_lt _ (Nat.pos_of_ne_zero hn))⟩
theorem perm_eraseIdx {α : Type} : ∀ (xs : List α) (i : Nat) (x : α), xs[i]? = some x → List.Perm (x :: xs.eraseIdx i) xs
  | [], i, x, h => by simp at h
  | a :: xs, 0, x, h => by simp at h; subst h; simp
  | a :: xs, i + 1, x, h => by
    have ih := perm_eraseIdx xs i x (by simpa using h)
    rw [List.eraseIdx_cons_succ]
    exact (List.Perm.swap a x _).trans (ih.cons a)
theorem drawOrder1 {α : Type} : ∀ (n : Nat) (xs : List α) (s : Shared) {Q : List α → Shared → Prop}, xs.length = n → (∀ ys d, List.Perm ys xs → Q ys { s with drawn := d }) → wpAny (model prog w) A (drawOrder n xs) Q E s
  | 0, xs, s, Q, hn, h => by
    obtain rfl := List.length_eq_zero_iff.mp hn
    exact wpAny_pure (by have := h [] s.drawn (List.Perm.refl _); cases s; exact this)
  | n + 1, [], s, Q, hn, h => by simp at hn
  | n + 1, a :: xs, s, Q, hn, h => by
    unfold drawOrder
    refine wpAny_bind (wpAny_choose1 (by simp) fun i d hi => ?_)
    have hx : (a :: xs)[i]? = some (a :: xs)[i] := List.getElem?_eq_getElem hi
    generalize (a :: xs)[i] = y at hx
    rw [hx]
    have hp := perm_eraseIdx _ _ _ hx
    have hl : ((a :: xs).eraseIdx i).length = n := by have := hp.length_eq; simp at this hn ⊢; omega
    refine wpAny_bind (drawOrder1 n _ _ hl fun ys d' hys => ?_)
    exact wpAny_pure (h _ _ ((hys.cons y).trans hp))
theorem pickOrder_perm {α : Type} (next : Nat → Nat) (xs : Array α) : List.Perm (pickOrder next xs).toList xs.toList := by
  have key : ∀ (fuel k : Nat) (left : List α) (out : Array α), left.length = fuel → List.Perm (pickOrder.go next fuel k left out).toList (out.toList ++ left) := by
    intro fuel
    induction fuel with
    | zero => intro k left out h; obtain rfl := List.length_eq_zero_iff.mp h; unfold pickOrder.go; simp
    | succ n ih =>
      intro k left out h
      unfold pickOrder.go
      have hlt : next k % left.length < left.length := Nat.mod_lt _ (by omega)
      have hx : left[next k % left.length]? = some left[next k % left.length] := List.getElem?_eq_getElem hlt
      generalize left[next k % left.length] = y at hx
      rw [hx]
      have hp := perm_eraseIdx _ _ _ hx
      have hl : (left.eraseIdx (next k % left.length)).length = n := by have := hp.length_eq; simp at this; omega
      refine (ih (k + 1) _ (out.push y) hl).trans ?_
      rw [Array.toList_push, List.append_assoc]
      exact (List.Perm.refl _).append hp
  unfold pickOrder
  have := key xs.size 0 xs.toList #[] (by simp)
  simpa using this
end
end
section
open PySem PySem.W PySem.Calls PyProof.Rows PySem.Spec PyProof.V
set_option maxRecDepth 100000
theorem slot_seti_next : Slot "set_iterator" "__next__" "set_iterator.__next__" :=
  .of (owner := "set_iterator") (n := "__next__") (by rw [typeLookup_type, builtinLookup_eq_fast]; kernel_rfl) (by decide +kernel) (by decide +kernel) (by decide +kernel)
    (by first | exact .inl (by decide +kernel) | exact .inr (by decide +kernel)) (by rw [isSubtype_type]; kernel_rfl)
theorem entry_seti_next : entryFor table "set_iterator.__next__" = some Builtin.«set_iterator.__next__» := entryFor_of_fast (by kernel_rfl)
theorem args_seti_next (a : Value) : argsOk "set_iterator.__next__" ⟨[a], []⟩ := by unfold argsOk; kernel_rfl
theorem entry_set_iter : entryFor table "set.__iter__" = some Builtin.«frozenset.__iter__» :=
  entryFor_alias (id' := "frozenset.__iter__") (by kernel_rfl) rfl (by decide +kernel) (by kernel_rfl)
theorem len_set_look : typeLookup (.type "set") "__len__" = pure (some (.builtin "set.__len__")) := by rw [typeLookup_type, builtinLookup_eq_fast]; kernel_rfl
/-- a set's iterator -/
def SetIt (h : Heap) (I : Addr) (first : Value) (i : Nat) (S : Addr) (n ep : Nat) : Prop :=
  h.get? I = some { cls := .type "set_iterator", data := .fields #[first, rawInt i, .ref S, rawInt n, rawInt ep] }
/-- the order in which it walks -/
def Road (w : World) (h : Heap) (first : Value) (S : Addr) (ep : Nat) (es : Array (Int × Value)) (ord : List ST) : Prop :=
  (w.params.followText "set-order" = true ∧ first = rawInt 0 ∧ (pickOrder (w.params.setOrder S ep) es).toList = ord.map (SE w)) ∨
  (w.params.followText "set-order" = false ∧ ∃ (T : Addr) (ps : List Nat) (n : Nat), first = .ref T ∧ h.get? T = some { cls := .type "tuple", data := .seq (ps.map fun p : Nat => rawInt p).toArray n } ∧ ps.map (fun p => es[p]?) = ord.map fun z => some (SE w z))
section
variable {prog : Program} {w : World} {A : Around} {E : Value → Shared → Prop} {s : Shared} {I S : Addr} {first : Value} {i ep : Nat} {es : Array (Int × Value)} {t : SetTable} {o : Obj} {ord : List ST} {z : ST}
theorem byText_is {Q : Bool → Shared → Prop} (h : Q (w.params.followText "set-order") s) : wpAny (model prog w) A setsByText Q E s := by
  unfold setsByText
  exact wpAny_bind (wpAny_askSetting (wpAny_pure h))
theorem seti_item {Q : Option Value → Shared → Prop} (hit : SetIt s.heap I first i S es.size ep) (ho : s.heap.get? S = some o) (hd : o.data = .set es ep t) (hf : t.fits es.size = true) (hr : Road w s.heap first S ep es ord) (hz : ord[i]? = some z)
    (hQ : ∀ h', SetIt h' I first (i + 1) S es.size ep → Heap.SameBut I s.heap h' → Q (some (.str z.1 z.2)) { s with heap := h' }) : wpAny (model prog w) A (pyNext (.ref I)) Q E s := by
  have hT : s.TypeIs (.ref I) "set_iterator" := ⟨_, hit, rfl⟩
  unfold pyNext
  refine wpAny_bind (wpAny_attempt (wpAny_callSpecial?_slot (name := Str.ofString "__next__") hT slot_seti_next
    (wpAny_call_entry slot_seti_next hT entry_seti_next ?_ (args_seti_next _))))
  unfold Builtin.«set_iterator.__next__»
  refine wpAny_bind (m := slotArgs "__next__" 0 _) (wpAny_pure ?_)
  dsimp only
  refine wpAny_bind (m := fieldsOf (.ref I)) (wpAny_bind (wpAny_load hit (wpAny_pure ?_)))
  dsimp only [rawInt]
  refine wpAny_bind (m := setEntries S) (wpAny_setEntries_of ho hd hf ?_)
  rw [if_neg (by simp)]
  rcases hr with ⟨hw, rfl, hpk⟩ | ⟨hw, T, ps, n, rfl, hTT, hps⟩
  · dsimp only [rawInt]
    unfold setNext
    refine wpAny_bind ?_
    refine wpAny_bind (wpAny_setState_of ho hd hf ?_)
    dsimp only
    refine wpAny_bind (byText_is ?_)
    rw [hw, if_pos rfl]
    rw [if_neg (by simp)]
    refine wpAny_bind ?_
    unfold setWalk
    refine wpAny_bind (wpAny_setState_of ho hd hf ?_)
    dsimp only
    refine wpAny_bind (byText_is ?_)
    rw [hw, if_pos rfl]
    have hx : (pickOrder (w.params.setOrder S ep) es)[((i : Nat) : Int).toNat]? = some (SE w z) := by
      rw [Int.toNat_natCast, ← Array.getElem?_toList, hpk, List.getElem?_map, hz]; rfl
    refine wpAny_bind (wpAny_askSetting (wpAny_pure (wpAny_pure ?_)))
    rw [show (pickOrder (({ program := (model prog w).prog, params := (model prog w).w.params } : Setting).params.setOrder S ep) es)[((i : Nat) : Int).toNat]? = some (SE w z) from hx]
    dsimp only [Option.map_some]
    refine wpAny_bind (wpAny_setField hit rfl (by simp) ?_)
    have hit1 : (s.heap.update I (Obj.mapFields fun x => x.setIfInBounds 0 (Value.int (((0 : Int).toNat : Nat) : Int) 0))).get? I = some { cls := .type "set_iterator", data := .fields #[rawInt 0, rawInt i, .ref S, rawInt es.size, rawInt ep] } := by
      rw [Heap.get?_update_self _ hit (Obj.isFreed_of_fields (Obj.data_mapFields rfl _))]
      rfl
    refine wpAny_bind (wpAny_setField hit1 rfl (by simp) (wpAny_pure ⟨_, rfl, wpAny_pure (hQ _ ?_ ((Heap.SameBut.update ..).trans (Heap.SameBut.update ..)))⟩))
    unfold SetIt
    rw [Heap.get?_update_self _ hit1 (Obj.isFreed_of_fields (Obj.data_mapFields rfl _))]
    rfl
  · dsimp only
    have hpi : ∃ p, ps[i]? = some p ∧ es[p]? = some (SE w z) := by
      have h1 := congrArg (fun l => l[i]?) hps
      simp only [List.getElem?_map, hz, Option.map_some] at h1
      cases hp : ps[i]? with
      | none => rw [hp] at h1; simp at h1
      | some p => rw [hp] at h1; simp at h1; exact ⟨p, rfl, h1⟩
    obtain ⟨p, hp, hep⟩ := hpi
    refine wpAny_bind (wpAny_seqItems hTT rfl ?_)
    dsimp only
    rw [show ((ps.map fun p : Nat => rawInt p).toArray)[((i : Nat) : Int).toNat]? = some (.int (p : Int) 0) by simp [hp, rawInt]]
    dsimp only
    unfold setNextDrawn
    refine wpAny_bind (wpAny_bind (wpAny_setState_of ho hd hf ?_))
    dsimp only
    rw [if_neg (by simp)]
    rw [show es[((p : Nat) : Int).toNat]? = some (SE w z) by simpa using hep]
    refine wpAny_pure (wpAny_bind (wpAny_setField hit rfl (by simp) (wpAny_pure ⟨_, rfl, wpAny_pure (hQ _ ?_ (Heap.SameBut.update ..))⟩)))
    unfold SetIt
    rw [Heap.get?_update_self _ hit (Obj.isFreed_of_fields (Obj.data_mapFields rfl _))]
    rfl
end
end
section
open PySem PySem.W PySem.Calls PyProof.Rows PySem.Spec PyProof.V
set_option maxRecDepth 100000
section
variable {prog : Program} {w : World} {A : Around} {E : Value → Shared → Prop} {s : Shared} {I S : Addr} {first : Value} {i ep : Nat} {es : Array (Int × Value)} {t : SetTable} {o : Obj} {ord : List ST} {z : ST}
theorem seti_end {Q : Option Value → Shared → Prop} (hh : A.handled = none) (hit : SetIt s.heap I first i S es.size ep) (ho : s.heap.get? S = some o) (hd : o.data = .set es ep t) (hf : t.fits es.size = true) (hr : Road w s.heap first S ep es ord) (hz : ord[i]? = none)
    (hQ : ∀ h', Heap.ExtBut I s.heap h' → Q none { s with heap := h' }) : wpAny (model prog w) A (pyNext (.ref I)) Q E s := by
  have hT : s.TypeIs (.ref I) "set_iterator" := ⟨_, hit, rfl⟩
  have stop : ∀ (s₁ : Shared), Heap.ExtBut I s.heap s₁.heap → s₁.gens = s.gens → s₁.drawn = s.drawn → s₁.toks = s.toks → s₁.os = s.os →
      wpAny (model prog w) A.in1 (newExc (.type "StopIteration") [] >>= fun e => (raiseNew e : Sem Fin)) (fun fin s' => ∃ v, fin = Fin.done (Flow.ret v) ∧ wpAny (model prog w) A (pure (some v)) Q E s')
        (fun e s' => wpAny (model prog w) A (do
          let __do_lift ← isInstance e (Value.type "StopIteration")
          if __do_lift = true then pure none else throw e) Q E s') s₁ := by
    intro s₁ hx e1 e2 e3 e4
    refine wpAny_bind ?_
    simp only [newExc, newTuple]
    refine wpAny_bind (wpAny_newObj_type ?_ (by size_fits))
    refine wpAny_bind (m := firstArgMember _ _) (wpAny_of_eq (a := Value.none) (by first | rfl | (simp only [firstArgMember]; rfl)) ?_)
    refine wpAny_newObj_type ?_ (by size_fits)
    simp only [raiseNew]
    refine wpAny_bind (wpAny_handled ?_)
    rw [show A.in1.handled = none from hh]
    refine wpAny_bind (wpAny_pure (wpAny_throw ?_))
    refine wpAny_bind (wpAny_isInstance (T := "StopIteration") (b := true) ⟨_, Heap.get?_push_size _ rfl, rfl⟩ isSubtype_stop ?_)
    refine wpAny_pure ?_
    obtain ⟨h1, g1, d1, t1, o1⟩ := s₁
    simp only at e1 e2 e3 e4
    subst e1 e2 e3 e4
    exact hQ _ ((hx.push _).push _)
  unfold pyNext
  refine wpAny_bind (wpAny_attempt (wpAny_callSpecial?_slot (name := Str.ofString "__next__") hT slot_seti_next
    (wpAny_call_entry slot_seti_next hT entry_seti_next ?_ (args_seti_next _))))
  unfold Builtin.«set_iterator.__next__»
  refine wpAny_bind (m := slotArgs "__next__" 0 _) (wpAny_pure ?_)
  dsimp only
  refine wpAny_bind (m := fieldsOf (.ref I)) (wpAny_bind (wpAny_load hit (wpAny_pure ?_)))
  dsimp only [rawInt]
  refine wpAny_bind (m := setEntries S) (wpAny_setEntries_of ho hd hf ?_)
  rw [if_neg (by simp)]
  rcases hr with ⟨hw, rfl, hpk⟩ | ⟨hw, T, ps, n, rfl, hTT, hps⟩
  · dsimp only [rawInt]
    unfold setNext
    refine wpAny_bind ?_
    refine wpAny_bind (wpAny_setState_of ho hd hf ?_)
    dsimp only
    refine wpAny_bind (byText_is ?_)
    rw [hw, if_pos rfl]
    rw [if_neg (by simp)]
    refine wpAny_bind ?_
    unfold setWalk
    refine wpAny_bind (wpAny_setState_of ho hd hf ?_)
    dsimp only
    refine wpAny_bind (byText_is ?_)
    rw [hw, if_pos rfl]
    have hx : (pickOrder (w.params.setOrder S ep) es)[((i : Nat) : Int).toNat]? = none := by
      rw [Int.toNat_natCast, ← Array.getElem?_toList, hpk, List.getElem?_map, hz]; rfl
    refine wpAny_bind (wpAny_askSetting (wpAny_pure (wpAny_pure ?_)))
    rw [show (pickOrder (({ program := (model prog w).prog, params := (model prog w).w.params } : Setting).params.setOrder S ep) es)[((i : Nat) : Int).toNat]? = none from hx]
    dsimp only [Option.map_none]
    refine wpAny_bind (wpAny_setField hit rfl (by simp) ?_)
    exact stop _ (Heap.SameBut.update ..).extBut rfl rfl rfl rfl
  · dsimp only
    have hpi : ps[i]? = none := by
      have h1 := congrArg (fun l => l[i]?) hps
      simp only [List.getElem?_map, hz, Option.map_none] at h1
      cases hp : ps[i]? with
      | none => rfl
      | some p => rw [hp] at h1; simp at h1
    refine wpAny_bind (wpAny_seqItems hTT rfl ?_)
    dsimp only
    rw [show ((ps.map fun p : Nat => rawInt p).toArray)[((i : Nat) : Int).toNat]? = none by simp [hpi]]
    dsimp only
    refine wpAny_bind (wpAny_setField hit rfl (by simp) ?_)
    have hit1 : (s.heap.update I (Obj.mapFields fun x => x.setIfInBounds 0 (Value.int 0 0))).get? I = some { cls := .type "set_iterator", data := .fields #[.int 0 0, rawInt i, .ref S, rawInt es.size, rawInt ep] } := by
      rw [Heap.get?_update_self _ hit (Obj.isFreed_of_fields (Obj.data_mapFields rfl _))]
      rfl
    refine wpAny_bind (wpAny_setField hit1 rfl (by simp) ?_)
    exact stop _ ((Heap.SameBut.update ..).trans (Heap.SameBut.update ..)).extBut rfl rfl rfl rfl
end
end
section
open PySem PySem.W PySem.Calls PyProof.Rows PySem.Spec PyProof.V
set_option maxRecDepth 100000
theorem slot_seti_iter : Slot "set_iterator" "__iter__" "set_iterator.__iter__" :=
  .of (owner := "set_iterator") (n := "__iter__") (by rw [typeLookup_type, builtinLookup_eq_fast]; kernel_rfl) (by decide +kernel) (by decide +kernel) (by decide +kernel)
    (by first | exact .inl (by decide +kernel) | exact .inr (by decide +kernel)) (by rw [isSubtype_type]; kernel_rfl)
/-- the places that the iterator reads -/
def fpOf (I S : Addr) : Value → List Addr
  | .ref T => [I, S, T]
  | _ => [I, S]
section
variable {prog : Program} {w : World} {A : Around} {I S : Addr} {first : Value} {ep : Nat} {es : Array (Int × Value)} {t : SetTable} {o : Obj} {ord : List ST}
theorem Road.keep {h h' : Heap} (hr : Road w h first S ep es ord) (hk : ∀ b ∈ fpOf I S first, ∀ o, h.get? b = some o → h'.get? b = some o) : Road w h' first S ep es ord := by
  rcases hr with hr | ⟨hw, T, ps, n, rfl, hTT, hps⟩
  · exact .inl hr
  · exact .inr ⟨hw, T, ps, n, rfl, hk T (by simp [fpOf]) _ hTT, hps⟩
theorem Road.off {h : Heap} (hr : Road w h first S ep es ord) (hit : ∃ i, SetIt h I first i S es.size ep) (hS : h.get? S = some o) (hd : o.data = .set es ep t) {h' : Heap} (hk : ∀ b o, b ≠ I → h.get? b = some o → h'.get? b = some o) : Road w h' first S ep es ord ∧ h'.get? S = some o := by
  obtain ⟨i, hit⟩ := hit
  have hSI : S ≠ I := by intro e; rw [e, hit] at hS; have := Option.some.inj hS; rw [← this] at hd; cases hd
  refine ⟨?_, hk _ _ hSI hS⟩
  rcases hr with hr | ⟨hw, T, ps, n, rfl, hTT, hps⟩
  · exact .inl hr
  · exact .inr ⟨hw, T, ps, n, rfl, hk T _ (by intro e; rw [e, hit] at hTT; simp at hTT) hTT, hps⟩
theorem walks_set (hh : A.handled = none) (hd : o.data = .set es ep t) (hf : t.fits es.size = true)
    (hself : ∀ (s : Shared) (Q : Value → Shared → Prop) (E : Value → Shared → Prop) i, SetIt s.heap I first i S es.size ep → Q (.ref I) s → wpAny (model prog w) A (pyIter (.ref I)) Q E s) :
    Walks prog w A I (fpOf I S first) [I] ord.length (fun i v => ∃ z, ord[i]? = some z ∧ v = .str z.1 z.2) (fun i h => SetIt h I first i S es.size ep ∧ h.get? S = some o ∧ Road w h first S ep es ord) where
  sub := fun b hb => by obtain rfl := List.mem_singleton.mp hb; cases first <;> simp [fpOf]
  frame := fun i h h' st hk => ⟨hk I (by cases first <;> simp [fpOf]) _ st.1, hk S (by cases first <;> simp [fpOf]) _ st.2.1, st.2.2.keep hk⟩
  item := fun i s Q E hi st hQ => by
    obtain ⟨z, hz⟩ : ∃ z, ord[i]? = some z := ⟨_, List.getElem?_eq_getElem hi⟩
    refine seti_item st.1 st.2.1 hd hf st.2.2 hz fun h' hit' hs' => ?_
    have hk : ∀ b o, b ≠ I → s.heap.get? b = some o → h'.get? b = some o := fun b o hb e => hs'.extBut b o hb e
    obtain ⟨r1, r2⟩ := st.2.2.off ⟨_, st.1⟩ st.2.1 hd hk
    exact hQ _ h' s.toks ⟨z, hz, rfl⟩ ⟨hit', r2, r1⟩ fun b o hb e => hk b o (fun h => hb (by simp [h])) e
  done := fun s Q E st hQ => seti_end hh st.1 st.2.1 hd hf st.2.2 (by simp) fun h' he' => hQ h' s.toks fun b o hb e => he' b o (fun h => hb (by simp [h])) e
  self := fun i s Q E st hQ => hself s Q E i st.1 hQ
end
end
section
open PySem PySem.W PySem.Calls PyProof.Rows PySem.Spec PyProof.V
set_option maxRecDepth 100000
theorem entry_seti_iter : entryFor table "set_iterator.__iter__" = some Builtin.«dict_keyiterator.__iter__» :=
  entryFor_alias (id' := "dict_keyiterator.__iter__") (by kernel_rfl) rfl (by decide +kernel) (by kernel_rfl)
theorem args_seti_iter (a : Value) : argsOk "set_iterator.__iter__" ⟨[a], []⟩ := by unfold argsOk; kernel_rfl
section
variable {prog : Program} {w : World} {A : Around} {E : Value → Shared → Prop} {s : Shared} {I S : Addr} {first : Value} {ep : Nat} {es : Array (Int × Value)} {t : SetTable} {o : Obj} {ord zs : List ST}
theorem seti_self {Q : Value → Shared → Prop} {i n : Nat} (hit : SetIt s.heap I first i S n ep) (h : Q (.ref I) s) : wpAny (model prog w) A (pyIter (.ref I)) Q E s := by
  have hT : s.TypeIs (.ref I) "set_iterator" := ⟨_, hit, rfl⟩
  refine wpAny_pyIter_slot hT slot_seti_iter (wpAny_call_entry slot_seti_iter hT entry_seti_iter ?_ (args_seti_iter _))
  show wpAny _ _ (ret (.ref I)) _ _ s
  exact wpAny_pure ⟨_, rfl, "set_iterator", _, hT, slot_seti_next.lookup, h⟩
/-- iter(set): the order is a permutation -/
theorem iter_set {Q : Value → Shared → Prop} (ho : s.heap.get? S = some o) (hex : o.ExactSet) (hd : o.data = .set es ep t) (hf : t.fits es.size = true) (hes : es.toList = zs.map (SE w)) (hz : 1 < zs.length) (hpl : t.plain = false) (hb : zs.length < scanBound)
    (h : ∀ I first ord h' d, s.heap.get? I = none → (∀ b o, s.heap.get? b = some o → h'.get? b = some o) → SetIt h' I first 0 S es.size ep → Road w h' first S ep es ord → List.Perm ord zs → (∀ b ∈ fpOf I S first, b < h'.objs.size) → Q (.ref I) { s with heap := h', drawn := d }) :
    wpAny (model prog w) A (pyIter (.ref S)) Q E s := by
  have hT : s.TypeIs (.ref S) "set" := ⟨_, ho, hex.1⟩
  have hsz : es.size = zs.length := by rw [← Array.length_toList, hes, List.length_map]
  have hfree : s.heap.get? s.heap.objs.size = none := by
    cases e : s.heap.get? s.heap.objs.size with
    | none => rfl
    | some o => exact absurd (Heap.lt_size e) (Nat.lt_irrefl _)
  refine wpAny_pyIter_slot hT PySem.F.slot_set_iter (wpAny_call_entry PySem.F.slot_set_iter hT entry_set_iter ?_ (PySem.F.args_set_iter_1 _))
  unfold Builtin.«frozenset.__iter__»
  refine wpAny_bind (m := Builtin.Frozenset.slot0 "__iter__" _) (wpAny_pure ?_)
  refine wpAny_bind (m := Builtin.Frozenset.sizeOf S) (wpAny_bind (wpAny_setEntries_of ho hd hf (wpAny_pure ?_)))
  have hdr : ∀ {Q' : Bool → Shared → Prop}, Q' (!(w.params.followText "set-order")) s → wpAny (model prog w) A.in1 (setDrawn S) Q' (fun e s' => E e s') s := by
    intro Q' hq
    unfold setDrawn
    refine wpAny_bind (wpAny_setState_of ho hd hf ?_)
    dsimp only
    refine wpAny_bind (byText_is ?_)
    show wpAny _ _ (pure (!(w.params.followText "set-order") && (!t.plain && decide (es.size > 1)))) _ _ _
    rw [hpl, show decide (es.size > 1) = true from decide_eq_true (by omega), Bool.not_false, Bool.true_and, Bool.and_true]
    exact wpAny_pure hq
  refine wpAny_bind (hdr ?_)
  cases hw : w.params.followText "set-order" with
  | true =>
    rw [Bool.not_true, if_neg (by decide)]
    refine wpAny_bind (wpAny_pure ?_)
    refine wpAny_bind (wpAny_setEpoch_of ho hd hf ?_)
    refine wpAny_bind ?_
    simp only [newFields]
    refine wpAny_newObj_type ?_ (by size_fits)
    have hget := Heap.get?_push_size s.heap (o := { cls := .type "set_iterator", data := .fields #[rawInt 0, rawInt 0, Value.ref S, rawInt es.size, rawInt ep] }) rfl
    have hp := pickOrder_perm (w.params.setOrder S ep) es
    rw [hes] at hp
    obtain ⟨ord, ho', hpo⟩ := SE_inj hp
    refine wpAny_pure ⟨_, rfl, "set_iterator", _, ⟨_, hget, rfl⟩, slot_seti_next.lookup, ?_⟩
    have := h s.heap.objs.size (rawInt 0) ord _ s.drawn hfree (fun b o e => Heap.get?_push_of_some _ e) hget (.inl ⟨hw, rfl, ho'⟩) hpo ?_
    · exact this
    · intro b hb
      rw [Heap.size_push]
      have hS : @LT.lt Nat _ S s.heap.objs.size := Heap.lt_size ho
      simp only [fpOf, rawInt, List.mem_cons, List.not_mem_nil, or_false] at hb
      rcases hb with rfl | rfl
      · exact Nat.lt_succ_self _
      · exact Nat.lt_succ_of_lt hS
  | false =>
    rw [Bool.not_false, if_pos rfl]
    refine wpAny_bind (drawOrder1 _ _ _ (by simp) fun ys d hys => ?_)
    simp only [newTuple]
    have hyl : ys.length = es.size := by rw [hys.length_eq, List.length_range]
    refine wpAny_bind (wpAny_newObj_type ?_ (by show _ ≤ sizeLine; rw [List.size_toArray, List.length_map, hyl, hsz]; exact fits_of_scanBound hb))
    have hT1 := Heap.get?_push_size s.heap (o := { cls := .type "tuple", data := .seq (ys.map fun i : Nat => rawInt i).toArray }) rfl
    have ho1 : (s.heap.push { cls := .type "tuple", data := .seq (ys.map fun i : Nat => rawInt i).toArray }).get? S = some o := Heap.get?_push_of_some _ ho
    refine wpAny_bind (wpAny_setEpoch_of (s := { s with heap := s.heap.push { cls := .type "tuple", data := .seq (ys.map fun i : Nat => rawInt i).toArray }, drawn := d }) ho1 hd hf ?_)
    refine wpAny_bind ?_
    simp only [newFields]
    refine wpAny_newObj_type ?_ (by size_fits)
    have hz1 : (s.heap.push { cls := .type "tuple", data := .seq (ys.map fun i : Nat => rawInt i).toArray }).objs.size = s.heap.objs.size + 1 := Heap.size_push _ _
    have hget := Heap.get?_push_size (s.heap.push { cls := .type "tuple", data := .seq (ys.map fun i : Nat => rawInt i).toArray }) (o := { cls := .type "set_iterator", data := .fields #[.ref s.heap.objs.size, rawInt 0, Value.ref S, rawInt es.size, rawInt ep] }) rfl
    refine wpAny_pure ⟨_, rfl, "set_iterator", _, ⟨_, hget, rfl⟩, slot_seti_next.lookup, ?_⟩
    have hpz : List.Perm (ys.map fun p => es[p]?) (zs.map fun z => some (SE w z)) := by
      have h1 := hys.map (fun p => es[p]?)
      have h2 : (List.range es.size).map (fun p => es[p]?) = zs.map fun z => some (SE w z) := by
        have : (List.range es.size).map (fun p => es[p]?) = es.toList.map some := by
          apply List.ext_getElem?
          intro j
          by_cases hj : j < es.size
          · simp [hj]
          · simp [hj]
        rw [this, hes, List.map_map]; rfl
      rw [h2] at h1; exact h1
    obtain ⟨ord, ho', hpo⟩ : ∃ ord : List ST, ys.map (fun p => es[p]?) = ord.map (fun z => some (SE w z)) ∧ List.Perm ord zs := by
      have h3 := hpz.map (fun e : Option (Int × Value) => e.getD (0, .none))
      rw [List.map_map, List.map_map] at h3
      obtain ⟨ord, h4, h5⟩ := SE_inj (w := w) (zs := zs) (l := ys.map ((fun e : Option (Int × Value) => e.getD (0, .none)) ∘ fun p => es[p]?)) h3
      refine ⟨ord, ?_, h5⟩
      have h6 := congrArg (fun l => l.map some) h4
      rw [List.map_map, List.map_map] at h6
      rw [show (ord.map fun z => some (SE w z)) = ord.map (some ∘ SE w) from rfl, ← h6]
      apply List.map_congr_left
      intro p hp
      have hm : es[p]? ∈ zs.map fun z => some (SE w z) := hpz.mem_iff.mp (List.mem_map_of_mem hp)
      obtain ⟨z, _, e⟩ := List.mem_map.mp hm
      simp only [Function.comp, ← e, Option.getD_some]
    have hnone : s.heap.get? (s.heap.push { cls := .type "tuple", data := .seq (ys.map fun i : Nat => rawInt i).toArray }).objs.size = none := by
      rw [hz1]
      cases e : s.heap.get? (s.heap.objs.size + 1) with
      | none => rfl
      | some o => exact absurd (Heap.lt_size e) (by have : @LT.lt Nat _ s.heap.objs.size (s.heap.objs.size + 1) := Nat.lt_succ_self _; exact Nat.not_lt.mpr (Nat.le_of_lt this))
    refine h _ (.ref s.heap.objs.size) ord _ d hnone (fun b o e => Heap.get?_push_of_some _ (Heap.get?_push_of_some _ e)) hget (.inr ⟨hw, _, ys, 0, rfl, Heap.get?_push_of_some _ hT1, ho'⟩) hpo ?_
    intro b hb
    rw [Heap.size_push, hz1]
    have hS : @LT.lt Nat _ S s.heap.objs.size := Heap.lt_size ho
    simp only [fpOf, List.mem_cons, List.not_mem_nil, or_false] at hb
    rcases hb with rfl | rfl | rfl
    · rw [hz1]; exact Nat.lt_succ_self _
    · exact Nat.lt_succ_of_lt (Nat.lt_succ_of_lt hS)
    · exact Nat.lt_succ_of_lt (Nat.lt_succ_self _)
end
end
section
open PySem PySem.W PySem.Calls PyProof.Rows PySem.Spec PyProof.V
set_option maxRecDepth 100000
section
variable {prog : Program} {w : World} {A : Around} {E : Value → Shared → Prop} {s : Shared} {S : Addr} {zs : List ST}
theorem hint_set {Q : Bool → Shared → Prop} (hT : s.TypeIs (.ref S) "set") (h : Q false s) : wpAny (model prog w) A (Builtin.List.listLengthHint (.ref S)) Q E s := by
  unfold Builtin.List.listLengthHint
  refine wpAny_bind (wpAny_specialOf hT len_set_look ?_)
  generalize hid : ("set.__len__" : String) = id0
  (fail_if_success (clear hid id0))
  wp_delta
  rw [show splitId id0 = some ("set", "__len__") from by subst hid; decide +kernel]
  subst hid
  refine wpAny_bind (wpAny_isInstance (b := true) hT (by rw [isSubtype_type]; kernel_rfl) ?_)
  rw [if_neg (by decide)]
  dsimp only
  rw [if_pos (by decide +kernel)]
  refine wpAny_bind (wpAny_typeOf hT ?_)
  exact wpAny_pure h
/-- what a walk over the set gathers -/
theorem collect_set {Q : List Value → Shared → Prop} (hh : A.handled = none) (hS : SetS w s.heap S zs) (hz : 1 < zs.length)
    (h : ∀ ord h' d tk, List.Perm ord zs → (∀ b o, s.heap.get? b = some o → h'.get? b = some o) → Q (ord.map ST.v) { s with heap := h', toks := tk, drawn := d }) :
    wpAny (model prog w) A (collect (.ref S)) Q E s := by
  obtain ⟨o, es, ep, t, ho, hex, hd, hes, hb, hf, hpl⟩ := hS
  have hpl := hpl (by intro e; rw [e] at hz; simp at hz)
  have hSlt : @LT.lt Nat _ S s.heap.objs.size := Heap.lt_size ho
  unfold collect
  refine wpAny_bind (wpAny_runValue (codeAny_builtin PySem.F.entry_proto_collect ?_))
  rw [Around.under_plainId PySem.F.plain_proto_collect _]
  show wpAny _ A.in1 (newList [] >>= fun l => again (.builtin "list.__iadd__" ⟨[l, .ref S], []⟩)) _ _ s
  refine wpAny_bind (wpAny_newObj_type ?_)
  refine wpAny_pure ⟨plainId_quiet PySem.F.plain_list_iadd _, codeAny_builtin PySem.F.entry_list_iadd ?_⟩
  rw [Around.under_plainId PySem.F.plain_list_iadd _]
  have h1 : Builtin.List.listSameRef (.ref s.heap.objs.size) (.ref S) = false := by
    have : ¬ (s.heap.objs.size = S) := fun e => by omega
    simp [Builtin.List.listSameRef, this]
  show wpAny _ A.in1 (Builtin.List.listExtendWith (.ref s.heap.objs.size) (.ref S) (.ref s.heap.objs.size)) _ _ _
  have ho1 : (s.heap.push { cls := .type "list", data := .seq ([] : List Value).toArray }).get? S = some o := Heap.get?_push_of_some _ ho
  have hT1 : Shared.TypeIs { s with heap := s.heap.push { cls := .type "list", data := .seq ([] : List Value).toArray } } (.ref S) "set" := ⟨_, ho1, hex.1⟩
  unfold Builtin.List.listExtendWith
  refine wpAny_bind (wpAny_typeOf hT1 ?_)
  rw [if_neg (by rw [h1]; decide)]
  refine wpAny_bind (iter_set (s := { s with heap := s.heap.push { cls := .type "list", data := .seq ([] : List Value).toArray } }) ho1 hex hd hf hes hz hpl hb fun I first ord h' d hI hk hit hr hpo hfp => ?_)
  have hoS : h'.get? S = some o := hk _ _ ho1
  have hTS : Shared.TypeIs { s with heap := h', drawn := d } (.ref S) "set" := ⟨_, hoS, hex.1⟩
  have hD : h'.get? s.heap.objs.size = some { cls := .type "list", data := .seq ([] : List Value).toArray } := hk _ _ (Heap.get?_push_size _ rfl)
  refine wpAny_bind (wpAny_holding ?_)
  refine hint_set hTS ?_
  dsimp only
  rw [if_pos (by decide +kernel)]
  refine wpAny_bind (wpAny_rule ?_)
  refine wpAny_bind ?_
  show wpAny _ A.in1 (updateSeq s.heap.objs.size (·.push .none) >>= fun _ => updateSeq s.heap.objs.size (·.pop)) _ _ _
  refine wpAny_bind (wpAny_updateSeq hD rfl ?_)
  have hS₂ := Heap.get?_update_self (Obj.mapSeq (·.push Value.none)) hD rfl
  refine wpAny_updateSeq hS₂ rfl ?_
  have hS₃ := Heap.get?_update_self (Obj.mapSeq (·.pop)) hS₂ rfl
  have oth : ∀ b o, b ≠ s.heap.objs.size → h'.get? b = some o → ((h'.update s.heap.objs.size (Obj.mapSeq (·.push Value.none))).update s.heap.objs.size (Obj.mapSeq (·.pop))).get? b = some o :=
    fun b o hb e => (Heap.get?_update_other _ _ (Ne.symm hb)).trans ((Heap.get?_update_other _ _ (Ne.symm hb)).trans e)
  generalize (h'.update s.heap.objs.size (Obj.mapSeq (·.push Value.none))).update s.heap.objs.size (Obj.mapSeq (·.pop)) = H at hS₃ oth ⊢
  have hne : ∀ b o, (s.heap.push { cls := .type "list", data := .seq ([] : List Value).toArray }).get? b = some o → o.cls ≠ .type "list" → b ≠ s.heap.objs.size := by
    intro b o e hc e'
    rw [e', Heap.get?_push_size _ rfl] at e
    have := Option.some.inj e
    rw [← this] at hc
    exact hc rfl
  have hSD : S ≠ s.heap.objs.size := neN (by omega)
  have hID : I ≠ s.heap.objs.size := by intro e; rw [e, Heap.get?_push_size _ rfl] at hI; cases hI
  have hit' : SetIt H I first 0 S es.size ep := oth _ _ hID hit
  have hfp' : s.heap.objs.size ∉ fpOf I S first := by
    intro hm
    rcases hr with ⟨_, rfl, _⟩ | ⟨_, T, ps, n, rfl, hTT, _⟩
    · simp only [fpOf, rawInt, List.mem_cons, List.not_mem_nil, or_false] at hm
      rcases hm with hm | hm
      · exact hID hm.symm
      · exact hSD hm.symm
    · simp only [fpOf, List.mem_cons, List.not_mem_nil, or_false] at hm
      rcases hm with hm | hm | hm
      · exact hID hm.symm
      · exact hSD hm.symm
      · rw [← hm, hD] at hTT; simp at hTT
  have hr' : Road w H first S ep es ord := hr.keep (I := I) fun b hb o e => oth b o (fun e' => hfp' (e' ▸ hb)) e
  have W := walks_set (prog := prog) (A := A.in1) (I := I) (S := S) (first := first) (ord := ord) (w := w) (by simp [hh]) hd hf (fun s Q E i hi hq => seti_self hi hq)
  have hn : ord.length ≤ sizeLine := by rw [hpo.length_eq]; exact fits_of_scanBound hb
  refine wpAny_pure ⟨plainId_quiet PySem.F.plain_extend_loop _, codeAny_extend_loopS W.toS hn _ hfp' _ ord.length 0 _ _ _ rfl (Nat.zero_le _) ⟨hit', oth _ _ hSD hoS, hr'⟩ hS₃ (ItemsOf.nil _) fun s' acc' c' hm hS' hacc => ?_⟩
  show wpAny _ A (load s.heap.objs.size >>= _) _ _ s'
  refine wpAny_bind (wpAny_load hS' ?_)
  have hacc' : acc'.toList = ord.map ST.v := by
    obtain ⟨ha1, ha2⟩ := hacc
    apply List.ext_getElem?
    intro j
    by_cases hj : j < ord.length
    · have hja : j < acc'.size := by omega
      obtain ⟨z, hz1, hz2⟩ := ha2 j acc'[j] (Array.getElem?_eq_getElem hja)
      rw [Array.getElem?_toList, Array.getElem?_eq_getElem hja, hz2, List.getElem?_map, hz1]; rfl
    · rw [List.getElem?_eq_none (by simp; omega), List.getElem?_eq_none (by simp; omega)]
  show wpAny _ A (pure acc'.toList) _ _ s'
  rw [hacc']
  refine wpAny_pure ?_
  obtain ⟨hh', gg', dd', tk', oo'⟩ := s'
  have eg : gg' = s.gens := hm.gens
  have ed : dd' = d := hm.drawn
  have eo : oo' = s.os := hm.os
  subst eg ed eo
  refine h ord hh' dd' tk' hpo fun b o' e => ?_
  have hlt : @LT.lt Nat _ b s.heap.objs.size := Heap.lt_size e
  have hbD : b ≠ s.heap.objs.size := neN (by omega)
  have hbI : b ≠ I := by
    intro e'
    have e2 := Heap.get?_push_of_some { cls := .type "list", data := .seq ([] : List Value).toArray } e
    rw [e', hI] at e2
    cases e2
  exact hm.heap b o' (by simp [hbD, hbI]) (oth b o' hbD (hk b o' (Heap.get?_push_of_some _ e)))
end
end
section
open PySem PySem.W PySem.Calls PyProof.Rows PySem.Spec PyProof.V
set_option maxRecDepth 100000
section
variable {prog : Program} {w : World} {A : Around} {E : Value → Shared → Prop} {s : Shared} {S : Addr} {zs : List ST}
theorem strsAre_ST : ∀ xs : List ST, StrsAre (xs.map ST.v) (xs.map (·.1))
  | [] => StrsAre.nil
  | _ :: xs => StrsAre.cons _ _ (strsAre_ST xs)
/-- sorted(set of strs) -/
theorem sorted_set {Q : Value → Shared → Prop} (hh : A.handled = none) (hS : SetS w s.heap S zs) (hz : 1 < zs.length) (h64 : zs.length < 64)
    (h : ∀ D h' d tk n ys, s.heap.get? D = none → (∀ b o, s.heap.get? b = some o → h'.get? b = some o) → h'.get? D = some (lst (svals ys) n) → List.Perm (ys.map (·.1)) (zs.map (·.1)) → sortedS (ys.map (·.1)) = true → Q (.ref D) { s with heap := h', toks := tk, drawn := d }) :
    wpAny (model prog w) A (call (.builtin "sorted") [.ref S]) Q E s := by
  refine Calls.call_function_entry kind_sorted plain_sorted entry_sorted (args_sorted1 _) ?_
  unfold Builtin.«sorted»
  refine wpAny_bind (m := checkCount "sorted" 1 1 _) (wpAny_pure ?_)
  refine wpAny_bind (collect_set (by simp [hh]) hS hz fun ord h1 d tk hpo hk => ?_)
  have hle : ord.length < 64 := by rw [hpo.length_eq]; exact h64
  refine wpAny_bind (wpAny_newList ?_ (by rw [List.length_map, sizeLine_eq]; omega))
  have hoL : (h1.push (seqObj "list" (ord.map ST.v).toArray 0)).get? h1.objs.size = some (seqObj "list" (ord.map ST.v).toArray 0) := Heap.get?_push_size _ rfl
  have hSA := strsAre_ST ord
  refine wpAny_bind (wpAny_holding (wpAny_call_entry slot_list_sort ⟨_, hoL, rfl⟩ entry_list_sort (list_sort_treeK strKind_oneLt hoL hSA.keysOf (fun v₁ v₂ rest e => keyKind_strs (by rw [← e]; exact hSA)) (by rw [List.length_map]; exact hle) fun st' a1 a2 => ⟨_, rfl, ?_⟩) (args_list_sort _)))
  obtain ⟨ss', b1, b2, b3⟩ := sorted_out_str hSA a1 a2
  obtain ⟨ys, hy1, hy2⟩ : ∃ ys : List ST, ((arrOf st').map (·.2)).toList = ys.map ST.v ∧ ys.map (·.1) = ss' := by
    generalize ((arrOf st').map (·.2)).toList = l at b1
    clear a1 a2 b2 b3
    induction b1 with
    | nil => exact ⟨[], rfl, rfl⟩
    | cons x t _ ih => obtain ⟨ys, e1, e2⟩ := ih; exact ⟨(x, t) :: ys, by rw [e1]; rfl, by rw [List.map_cons, e2]⟩
  have harr : (arrOf st').map (·.2) = svals ys := by apply Array.toList_inj.mp; rw [hy1]; simp [svals]
  rw [harr]
  obtain ⟨e, he⟩ := sortedHeap_at (vs := ord.map ST.v) (out := svals ys) hoL
  have hfr : s.heap.get? h1.objs.size = none := by
    cases q : s.heap.get? h1.objs.size with
    | none => rfl
    | some o => exact absurd (Heap.lt_size (hk _ _ q)) (Nat.lt_irrefl _)
  refine wpAny_pure ⟨_, rfl, h _ _ d tk e ys hfr (fun b o' q => ?_) he (by rw [hy2]; exact b2.trans (hpo.map _)) (hy2 ▸ b3)⟩
  have q1 := hk _ _ q
  have hlt : @LT.lt Nat _ b h1.objs.size := Heap.lt_size q1
  exact (sortedHeap_old (Nat.ne_of_lt hlt) (by rw [size_push']; exact Nat.lt_succ_of_lt hlt)).trans (Heap.get?_push_of_some _ q1)
end
end
section
open PySem PySem.W PyProof.Rows PySem.Spec
theorem lines_T6 : True := by
  k_with_none
  (k_with "om" => (with_reducible first | assumption | exact Nat.ne_of_lt ‹_› | exact Nat.ne_of_gt ‹_› | exact Ne.symm ‹_› | exact Mine.o_a ‹_› (by decide) | exact Mine.o_b ‹_› (by decide) | exact Mine.o_c ‹_› | exact Mine.o_le (n := 100) ‹_› (by decide) | exact Mine.o_le ‹_› (by decide) | exact Mine.o_l ‹_› (by decide) | exact Mine.o_1 (n := 100) ‹_› (by decide) | exact Mine.o_2 (n := 100) ‹_› (by decide) | exact Mine.o_lt (n := 100) ‹_› (by decide) | exact Mine.o_lt ‹_› (by decide) | exact Mine.o_ll ‹_› (by decide) | exact Mine.o_s ‹_› | exact Mine.o_n _ | exact Mine.o_0 _ | exact Mine.o_i ‹_› (by decide) | exact Mine.o_m ‹_› (by decide) | exact Mine.o_j (n := 100) ‹_› ‹_› (by decide) | exact Mine.o_k ‹_› ‹_› (by decide) | exact Mine.o_e (n := 100) ‹_› ‹_› (by decide) | exact Nat.ne_of_lt (by k_extra "cj") | exact Nat.ne_of_gt (by k_extra "cj") | exact Ne.symm (by k_extra "cj") | k_extra "cj" | fail))
  (k_with "cj" => (first | exact And.left ‹_› | exact Mine.c_2 ‹_› | exact Mine.c_3 ‹_› | exact Mine.c_4 ‹_› | exact Mine.c_5 ‹_› | exact Mine.c_6 ‹_› | exact Mine.c_7 ‹_› | exact Mine.c_8 ‹_› | exact Mine.c_9 ‹_› | exact And.right ‹_› | exact Mine.d_3 ‹_› | exact Mine.d_4 ‹_› | exact Mine.d_5 ‹_› | exact Mine.d_6 ‹_› | exact Mine.d_7 ‹_› | exact Mine.d_8 ‹_› | exact Mine.d_9 ‹_› | fail))
  (k_with "fn ctx" => (((case k1 => k_asm); (case k2 => k_asm); (case k3 => k_asm); (case k4 => k_asm); (case k5 => k_asm); (case kK => first | exact rfl | assumption); (case kd => ktr_room); (case ku => ktr_units))))
  (k_with "call ref" => ((k_here; (with_reducible show wpAny _ _ (call (Value.ref 228) _ _) _ _ _); k_dflt (refine' (law_kind).use ?k1 ?k2 ?k3 ?k4 ?k5 ?kK ?kd ?ku ?kz ?_; (walk_at "fn ctx"); (case kz => exact fun _ h => nomatch h); intro zqr9 zqh9 zqtk9 zqF9 zqN9 zqk9 zqho9; obtain ⟨zqt9, zqhr9⟩ := zqho9; subst zqhr9; (try dsimp only); (try k_sweep)))))
  (k_with "call ref" => ((k_here; (with_reducible show wpAny _ _ (call (Value.ref 235) _ _) _ _ _); k_dflt (refine' (law_worth).use ?k1 ?k2 ?k3 ?k4 ?k5 ?kK ?kd ?ku ?kz ?_; (walk_at "fn ctx"); (case kz => exact fun _ h => nomatch h); intro zqr9 zqh9 zqtk9 zqF9 zqN9 zqk9 zqho9; obtain ⟨zqt9, zqhr9⟩ := zqho9; subst zqhr9; (try dsimp only); (try k_sweep)))))
  (k_with "call builtin:len" => ((k_here; (with_reducible show wpAny _ _ (call (Value.builtin "len") [Value.ref _]) _ _ _); k_dflt (first | (refine' len_led ?k1 ?k2 ?k3 ?_; (case k1 => k_asm); (case k2 => k_mem); (case k3 => first | with_reducible assumption | omega | (simp only [List.size_toArray, List.length_map]; omega)); k_whole) | (refine' len_base ?k1 ?k2 ?k3 ?_; (case k1 => k_asm); (case k2 => with_reducible assumption); (case k3 => first | with_reducible assumption | omega); k_whole)))))
  (k_with "m look" => (first | with_reducible assumption | (with_reducible exact lk_hit rfl) | (with_reducible refine' lk_ne ?hh ?hv; (case hh => decide); (case hv => walk_at "m look"))))
  (k_with "eval Name" => ((k_here; k_dflt (refine' nameX_L ?F ?v ?_ ?a ?b; (case b => rfl); (case a => rfl); (case F => k_asm); (case v => walk_at "m look"); k_whole))))
  (k_with "subscriptTail Name Constant ref int" => ((k_here; (with_reducible show wpAny _ _ (subscriptTail _ _ (Value.ref _) (Value.int 2 _)) _ _ _); k_dflt (refine' item_led ?k1 ?k2 ?k3 ?k4 ?k5 ?_ ?k7; (case k7 => with_unfolding_all rfl); (case k1 => k_asm); (case k2 => (repeat (first | assumption | refine List.Mem.tail _ ?_))); (case k5 => exact rfl); (case k3 => decide); (case k4 => decide); k_whole))))
  trivial
section
variable {w : World} {mean : ExcName → Option Value} {mg mb : Str → Option Value} {dp un : Nat} {gd : Option (List Code)} {cn : Str} {cs : Scope} {a : Addr} {ccd : Value} {cl : List (Str × Addr)} {outer : List Env} {base g' : Heap} {L L' : Addr} {s : Shared} {Q : Flow → Shared → Prop} {E : Value → Shared → Prop} {m : Str → Option Value}
variable {od hp x dx hl : Addr} {oOd oHp c1 : Obj} {hh : Int} {tk0 nd n : Nat} {tail : Led} {nl tl : Addr} {n1 n2 : Nat} {xs : List IT} {th : List ST} {vs : Array Value}
set_option maxRecDepth 100000 in
set_option maxHeartbeats 8000000 in
theorem srv_kinds (C : Ctx w mean mg mb dp un gd cn cs a ccd cl outer base g' L) {hw : List W} {np : Nat} (hok : ∀ y ∈ hw, OkW tail y) (hl1 : hw.length ≤ 60) (P : Apart od hp x dx hl (L' + 1) tail) (hz : ∀ zs : List Str, List.Nodup zs → (∀ y, y ∈ zs ↔ y ∈ hw.map (·.s)) → 1 < zs.length)
    (F : Fr g' L' s.heap m) (N : News g' L' s.heap (srvL od hp x dx hl L' oOd (listOf (vals hw) np) hh tk0 nd vs n c1 tail)) (hm : m (Str.ofString "heap") = some (.ref hp))
    (k : ∀ D n' (ys : List ST) h tk d, Fr g' L' h (fun y => if y = Str.ofString "kinds" then some (.ref D) else m y) → News g' L' h (srvL od hp x dx hl L' oOd (listOf (vals hw) np) hh tk0 nd vs n c1 ((D, listOf (svals ys) n') :: tail)) → Apart od hp x dx hl (L' + 1) ((D, listOf (svals ys) n') :: tail) → sortedS (ys.map (·.1)) = true → (ys.map (·.1)).Nodup → (∀ y, y ∈ ys.map (·.1) ↔ y ∈ hw.map (·.s)) → Q .next { s with heap := h, toks := tk, drawn := d }) :
    wpAny (model PG w) ((ktrTop dp un gd cn cs L a ccd cl outer).deeper (srvEnv L')) (exec srvSt6 (srvEnv L')) Q E s := by
  obtain ⟨B', X', T', hk, hdp, hun⟩ := C
  unfold srvSt6 srvEnv
  dsimp only [st0, tl0]

  repeat' (first | (k_unfold; (try dsimp only)) | ((fail_if_success (with_reducible show wpAny _ _ (eval (Expr.ListComp _ _ _ _) _) _ _ _)); (fail_if_success (with_reducible show wpAny _ _ (exec (Stmt.Assign [_] (Expr.ListComp _ _ _ _) _) _) _ _ _)); (fail_if_success (with_reducible show LCt.CompSrcT _ _ _ _ _ _ _ _ _ _ _ _ _ _ _)); (fail_if_success (with_reducible show LCg.CompSrc _ _ _ _ _ _ _ _ _ _ _ _ _ _)); (fail_if_success (with_reducible show LCg.CompEnd _ _ _ _ _ _ _ _ _ _ _ _ _ _)); (fail_if_success (with_reducible show @ite _ _ _ _ _)); (fail_if_success (with_reducible show wpAny _ _ (pyIter _) _ _ _)); (fail_if_success (with_reducible show Q _ _)); (fail_if_success (with_reducible show UnrPost _ _ _ _ _ _ _ _ _)); (fail_if_success (with_reducible show ∃ _, _)); (fail_if_success (with_reducible show wpAny _ _ (call (Value.type "set") _ _) _ _ _)); (fail_if_success (with_reducible show wpAny _ _ (call (Value.builtin "sorted") _ _) _ _ _)); walk1) | ((fail_if_success (with_reducible show wpAny _ _ (eval (Expr.ListComp _ _ _ _) _) _ _ _)); (fail_if_success (with_reducible show wpAny _ _ (exec (Stmt.Assign [_] (Expr.ListComp _ _ _ _) _) _) _ _ _)); (fail_if_success (with_reducible show LCt.CompSrcT _ _ _ _ _ _ _ _ _ _ _ _ _ _ _)); (fail_if_success (with_reducible show LCg.CompSrc _ _ _ _ _ _ _ _ _ _ _ _ _ _)); (fail_if_success (with_reducible show LCg.CompEnd _ _ _ _ _ _ _ _ _ _ _ _ _ _)); (fail_if_success (with_reducible show @ite _ _ _ _ _)); (fail_if_success (with_reducible show wpAny _ _ (pyIter _) _ _ _)); (fail_if_success (with_reducible show Q _ _)); (fail_if_success (with_reducible show UnrPost _ _ _ _ _ _ _ _ _)); (fail_if_success (with_reducible show ∃ _, _)); (fail_if_success (with_reducible show wpAny _ _ (call (Value.type "set") _ _) _ _ _)); (fail_if_success (with_reducible show wpAny _ _ (call (Value.builtin "sorted") _ _) _ _ _)); dsimp only; walk1))

  rename Fr g' L' _ _ => kF9
  refine LCg.ListComp_U (F₀ := kF9) (by with_unfolding_all rfl) (by decide) (by rfl) (by decide) (by rfl) ?_
  repeat' (first | (k_unfold; (try dsimp only)) | ((fail_if_success (with_reducible show wpAny _ _ (eval (Expr.ListComp _ _ _ _) _) _ _ _)); (fail_if_success (with_reducible show wpAny _ _ (exec (Stmt.Assign [_] (Expr.ListComp _ _ _ _) _) _) _ _ _)); (fail_if_success (with_reducible show LCt.CompSrcT _ _ _ _ _ _ _ _ _ _ _ _ _ _ _)); (fail_if_success (with_reducible show LCg.CompSrc _ _ _ _ _ _ _ _ _ _ _ _ _ _)); (fail_if_success (with_reducible show LCg.CompEnd _ _ _ _ _ _ _ _ _ _ _ _ _ _)); (fail_if_success (with_reducible show @ite _ _ _ _ _)); (fail_if_success (with_reducible show wpAny _ _ (pyIter _) _ _ _)); (fail_if_success (with_reducible show Q _ _)); (fail_if_success (with_reducible show UnrPost _ _ _ _ _ _ _ _ _)); (fail_if_success (with_reducible show ∃ _, _)); (fail_if_success (with_reducible show wpAny _ _ (call (Value.type "set") _ _) _ _ _)); (fail_if_success (with_reducible show wpAny _ _ (call (Value.builtin "sorted") _ _) _ _ _)); walk1) | ((fail_if_success (with_reducible show wpAny _ _ (eval (Expr.ListComp _ _ _ _) _) _ _ _)); (fail_if_success (with_reducible show wpAny _ _ (exec (Stmt.Assign [_] (Expr.ListComp _ _ _ _) _) _) _ _ _)); (fail_if_success (with_reducible show LCt.CompSrcT _ _ _ _ _ _ _ _ _ _ _ _ _ _ _)); (fail_if_success (with_reducible show LCg.CompSrc _ _ _ _ _ _ _ _ _ _ _ _ _ _)); (fail_if_success (with_reducible show LCg.CompEnd _ _ _ _ _ _ _ _ _ _ _ _ _ _)); (fail_if_success (with_reducible show @ite _ _ _ _ _)); (fail_if_success (with_reducible show wpAny _ _ (pyIter _) _ _ _)); (fail_if_success (with_reducible show Q _ _)); (fail_if_success (with_reducible show UnrPost _ _ _ _ _ _ _ _ _)); (fail_if_success (with_reducible show ∃ _, _)); (fail_if_success (with_reducible show wpAny _ _ (call (Value.type "set") _ _) _ _ _)); (fail_if_success (with_reducible show wpAny _ _ (call (Value.builtin "sorted") _ _) _ _ _)); dsimp only; walk1))

  rename Fr g' L' _ _ => kF9
  rename News g' L' _ _ => kN9
  refine LCg.CompSrc.ledger (its := vals hw) rfl kF9 kN9 (by k_mem) (by rw [vals_size, sizeLine_eq]; omega) (fun g => rest_ind (fun i ys news => news = srvL od hp x dx hl L' oOd (listOf (vals hw) np) hh tk0 nd vs n c1 tail ∧ ∃ zs : List ST, ys = zs.map ST.v ∧ zs.map (·.1) = (hw.take i).map (·.s)) ?elem ?fin _ 0 [] _ (Nat.zero_add _) ⟨rfl, [], rfl, rfl⟩)
  case elem =>
    clear kF9 kN9
    rintro i hi ys news ⟨rfl, zs, rfl, hzs⟩ v I oI C oC D m₂ h tk E' hP hNs hx F9 N9 off hne
    have hi' : i < hw.length := by rw [← vals_size]; exact hi
    have hk0 : hw[i]? = some hw[i] := List.getElem?_eq_getElem hi'
    generalize hw[i] = z at hk0
    have hv : v = .ref z.a := by have := hP; simp [vals, hk0] at this; exact this.symm
    subst hv
    obtain ⟨zn, t1, t2, t3, hzm⟩ := hok z (List.mem_of_getElem? hk0)
    have htake : hw.take (i + 1) = hw.take i ++ [z] := by rw [List.take_add_one, hk0]; rfl
    repeat' (first | (k_unfold; (try dsimp only)) | ((fail_if_success (with_reducible show wpAny _ _ (eval (Expr.ListComp _ _ _ _) _) _ _ _)); (fail_if_success (with_reducible show wpAny _ _ (exec (Stmt.Assign [_] (Expr.ListComp _ _ _ _) _) _) _ _ _)); (fail_if_success (with_reducible show LCt.CompSrcT _ _ _ _ _ _ _ _ _ _ _ _ _ _ _)); (fail_if_success (with_reducible show LCg.CompSrc _ _ _ _ _ _ _ _ _ _ _ _ _ _)); (fail_if_success (with_reducible show LCg.CompEnd _ _ _ _ _ _ _ _ _ _ _ _ _ _)); (fail_if_success (with_reducible show @ite _ _ _ _ _)); (fail_if_success (with_reducible show wpAny _ _ (pyIter _) _ _ _)); (fail_if_success (with_reducible show Q _ _)); (fail_if_success (with_reducible show UnrPost _ _ _ _ _ _ _ _ _)); (fail_if_success (with_reducible show ∃ _, _)); (fail_if_success (with_reducible show wpAny _ _ (call (Value.type "set") _ _) _ _ _)); (fail_if_success (with_reducible show wpAny _ _ (call (Value.builtin "sorted") _ _) _ _ _)); walk1) | ((fail_if_success (with_reducible show wpAny _ _ (eval (Expr.ListComp _ _ _ _) _) _ _ _)); (fail_if_success (with_reducible show wpAny _ _ (exec (Stmt.Assign [_] (Expr.ListComp _ _ _ _) _) _) _ _ _)); (fail_if_success (with_reducible show LCt.CompSrcT _ _ _ _ _ _ _ _ _ _ _ _ _ _ _)); (fail_if_success (with_reducible show LCg.CompSrc _ _ _ _ _ _ _ _ _ _ _ _ _ _)); (fail_if_success (with_reducible show LCg.CompEnd _ _ _ _ _ _ _ _ _ _ _ _ _ _)); (fail_if_success (with_reducible show @ite _ _ _ _ _)); (fail_if_success (with_reducible show wpAny _ _ (pyIter _) _ _ _)); (fail_if_success (with_reducible show Q _ _)); (fail_if_success (with_reducible show UnrPost _ _ _ _ _ _ _ _ _)); (fail_if_success (with_reducible show ∃ _, _)); (fail_if_success (with_reducible show wpAny _ _ (call (Value.type "set") _ _) _ _ _)); (fail_if_success (with_reducible show wpAny _ _ (call (Value.builtin "sorted") _ _) _ _ _)); dsimp only; walk1))

    rename Fr g' L' _ _ => kF9
    rename News g' L' _ _ => kN9
    exact LCg.CompEnd.intro kF9 kN9 _ (fun p hp => hp) off (.inr ⟨_, (by k_mem), rfl, _, rfl⟩) ⟨rfl, zs ++ [(z.s, t3)], by (simp only [List.map_append, List.map_cons, List.map_nil]; rfl), by rw [htake]; simp only [List.map_append, List.map_cons, List.map_nil, hzs]⟩
  case fin =>
    rintro ys news ⟨rfl, zs, rfl, hzs⟩
    rw [vals_size, List.take_length] at hzs
    clear kF9 kN9
    intro D h tk F9 N9 off9
    repeat' (first | (k_unfold; (try dsimp only)) | ((fail_if_success (with_reducible show wpAny _ _ (eval (Expr.ListComp _ _ _ _) _) _ _ _)); (fail_if_success (with_reducible show wpAny _ _ (exec (Stmt.Assign [_] (Expr.ListComp _ _ _ _) _) _) _ _ _)); (fail_if_success (with_reducible show LCt.CompSrcT _ _ _ _ _ _ _ _ _ _ _ _ _ _ _)); (fail_if_success (with_reducible show LCg.CompSrc _ _ _ _ _ _ _ _ _ _ _ _ _ _)); (fail_if_success (with_reducible show LCg.CompEnd _ _ _ _ _ _ _ _ _ _ _ _ _ _)); (fail_if_success (with_reducible show @ite _ _ _ _ _)); (fail_if_success (with_reducible show wpAny _ _ (pyIter _) _ _ _)); (fail_if_success (with_reducible show Q _ _)); (fail_if_success (with_reducible show UnrPost _ _ _ _ _ _ _ _ _)); (fail_if_success (with_reducible show ∃ _, _)); (fail_if_success (with_reducible show wpAny _ _ (call (Value.type "set") _ _) _ _ _)); (fail_if_success (with_reducible show wpAny _ _ (call (Value.builtin "sorted") _ _) _ _ _)); walk1) | ((fail_if_success (with_reducible show wpAny _ _ (eval (Expr.ListComp _ _ _ _) _) _ _ _)); (fail_if_success (with_reducible show wpAny _ _ (exec (Stmt.Assign [_] (Expr.ListComp _ _ _ _) _) _) _ _ _)); (fail_if_success (with_reducible show LCt.CompSrcT _ _ _ _ _ _ _ _ _ _ _ _ _ _ _)); (fail_if_success (with_reducible show LCg.CompSrc _ _ _ _ _ _ _ _ _ _ _ _ _ _)); (fail_if_success (with_reducible show LCg.CompEnd _ _ _ _ _ _ _ _ _ _ _ _ _ _)); (fail_if_success (with_reducible show @ite _ _ _ _ _)); (fail_if_success (with_reducible show wpAny _ _ (pyIter _) _ _ _)); (fail_if_success (with_reducible show Q _ _)); (fail_if_success (with_reducible show UnrPost _ _ _ _ _ _ _ _ _)); (fail_if_success (with_reducible show ∃ _, _)); (fail_if_success (with_reducible show wpAny _ _ (call (Value.type "set") _ _) _ _ _)); (fail_if_success (with_reducible show wpAny _ _ (call (Value.builtin "sorted") _ _) _ _ _)); dsimp only; walk1))

    rename Fr g' L' _ _ => kF9
    rename News g' L' _ _ => kN9
    have hDl := (kN9 _ (.head _)).1
    have hzl : zs.length = hw.length := by have := congrArg List.length hzs; simpa using this
    refine set_strs (xs := zs) (by rfl) ?hl (by unfold scanBound; omega) fun D1 h1 us tk1 hf1 hk1 hS1 hO1 => ?_
    case hl => exact ⟨_, hDl, rfl, _, rfl⟩
    have F10 := fr_keep kF9 hk1
    have N10 := news_keep kN9 hk1
    clear kF9 kN9
    repeat' (first | (k_unfold; (try dsimp only)) | ((fail_if_success (with_reducible show wpAny _ _ (eval (Expr.ListComp _ _ _ _) _) _ _ _)); (fail_if_success (with_reducible show wpAny _ _ (exec (Stmt.Assign [_] (Expr.ListComp _ _ _ _) _) _) _ _ _)); (fail_if_success (with_reducible show LCt.CompSrcT _ _ _ _ _ _ _ _ _ _ _ _ _ _ _)); (fail_if_success (with_reducible show LCg.CompSrc _ _ _ _ _ _ _ _ _ _ _ _ _ _)); (fail_if_success (with_reducible show LCg.CompEnd _ _ _ _ _ _ _ _ _ _ _ _ _ _)); (fail_if_success (with_reducible show @ite _ _ _ _ _)); (fail_if_success (with_reducible show wpAny _ _ (pyIter _) _ _ _)); (fail_if_success (with_reducible show Q _ _)); (fail_if_success (with_reducible show UnrPost _ _ _ _ _ _ _ _ _)); (fail_if_success (with_reducible show ∃ _, _)); (fail_if_success (with_reducible show wpAny _ _ (call (Value.type "set") _ _) _ _ _)); (fail_if_success (with_reducible show wpAny _ _ (call (Value.builtin "sorted") _ _) _ _ _)); walk1) | ((fail_if_success (with_reducible show wpAny _ _ (eval (Expr.ListComp _ _ _ _) _) _ _ _)); (fail_if_success (with_reducible show wpAny _ _ (exec (Stmt.Assign [_] (Expr.ListComp _ _ _ _) _) _) _ _ _)); (fail_if_success (with_reducible show LCt.CompSrcT _ _ _ _ _ _ _ _ _ _ _ _ _ _ _)); (fail_if_success (with_reducible show LCg.CompSrc _ _ _ _ _ _ _ _ _ _ _ _ _ _)); (fail_if_success (with_reducible show LCg.CompEnd _ _ _ _ _ _ _ _ _ _ _ _ _ _)); (fail_if_success (with_reducible show @ite _ _ _ _ _)); (fail_if_success (with_reducible show wpAny _ _ (pyIter _) _ _ _)); (fail_if_success (with_reducible show Q _ _)); (fail_if_success (with_reducible show UnrPost _ _ _ _ _ _ _ _ _)); (fail_if_success (with_reducible show ∃ _, _)); (fail_if_success (with_reducible show wpAny _ _ (call (Value.type "set") _ _) _ _ _)); (fail_if_success (with_reducible show wpAny _ _ (call (Value.builtin "sorted") _ _) _ _ _)); dsimp only; walk1))

    refine sorted_set (zs := us) (by rfl) hS1 ?hz ?h64 fun D2 h2 d2 tk2 n2 ys hf2 hk2 hD2 hpm hso => ?_
    case hz =>
      have := hz (us.map (·.1)) hO1.nodup (fun y => by rw [hO1.same, hzs])
      simpa using this
    case h64 => have := hO1.len; omega
    have F11 := fr_keep F10 hk2
    have N11 := news_keep N10 hk2
    have hfr2 : g'.get? D2 = none := by
      cases q : g'.get? D2 with
      | none => rfl
      | some o => have := F10.keep _ _ q; rw [show h1.get? D2 = none from hf2] at this; cases this
    have hDL : D2 ≠ L' := by
      intro e
      obtain ⟨o, es, ep, q, _⟩ := F10.ns
      rw [← e, show h1.get? D2 = none from hf2] at q; cases q
    have hoff : ∀ p ∈ srvL od hp x dx hl L' oOd (listOf (vals hw) np) hh tk0 nd vs n c1 tail, D2 ≠ p.1 := by
      intro p hp e
      have q1 := (N10 p (.tail _ hp)).1
      rw [← e, show h1.get? D2 = none from hf2] at q1
      cases q1
    have N12 : News g' L' h2 ((D2, lst (svals ys) n2) :: (D, LCg.lst (zs.map ST.v)) :: srvL od hp x dx hl L' oOd (listOf (vals hw) np) hh tk0 nd vs n c1 tail) := by
      intro p hp
      rcases List.mem_cons.mp hp with rfl | hp
      · exact ⟨hD2, hDL, hfr2⟩
      · exact N11 p hp
    clear F10 N10 N11
    repeat' (first | (k_unfold; (try dsimp only)) | ((fail_if_success (with_reducible show wpAny _ _ (eval (Expr.ListComp _ _ _ _) _) _ _ _)); (fail_if_success (with_reducible show wpAny _ _ (exec (Stmt.Assign [_] (Expr.ListComp _ _ _ _) _) _) _ _ _)); (fail_if_success (with_reducible show LCt.CompSrcT _ _ _ _ _ _ _ _ _ _ _ _ _ _ _)); (fail_if_success (with_reducible show LCg.CompSrc _ _ _ _ _ _ _ _ _ _ _ _ _ _)); (fail_if_success (with_reducible show LCg.CompEnd _ _ _ _ _ _ _ _ _ _ _ _ _ _)); (fail_if_success (with_reducible show @ite _ _ _ _ _)); (fail_if_success (with_reducible show wpAny _ _ (pyIter _) _ _ _)); (fail_if_success (with_reducible show Q _ _)); (fail_if_success (with_reducible show UnrPost _ _ _ _ _ _ _ _ _)); (fail_if_success (with_reducible show ∃ _, _)); (fail_if_success (with_reducible show wpAny _ _ (call (Value.type "set") _ _) _ _ _)); (fail_if_success (with_reducible show wpAny _ _ (call (Value.builtin "sorted") _ _) _ _ _)); walk1) | ((fail_if_success (with_reducible show wpAny _ _ (eval (Expr.ListComp _ _ _ _) _) _ _ _)); (fail_if_success (with_reducible show wpAny _ _ (exec (Stmt.Assign [_] (Expr.ListComp _ _ _ _) _) _) _ _ _)); (fail_if_success (with_reducible show LCt.CompSrcT _ _ _ _ _ _ _ _ _ _ _ _ _ _ _)); (fail_if_success (with_reducible show LCg.CompSrc _ _ _ _ _ _ _ _ _ _ _ _ _ _)); (fail_if_success (with_reducible show LCg.CompEnd _ _ _ _ _ _ _ _ _ _ _ _ _ _)); (fail_if_success (with_reducible show @ite _ _ _ _ _)); (fail_if_success (with_reducible show wpAny _ _ (pyIter _) _ _ _)); (fail_if_success (with_reducible show Q _ _)); (fail_if_success (with_reducible show UnrPost _ _ _ _ _ _ _ _ _)); (fail_if_success (with_reducible show ∃ _, _)); (fail_if_success (with_reducible show wpAny _ _ (call (Value.type "set") _ _) _ _ _)); (fail_if_success (with_reducible show wpAny _ _ (call (Value.builtin "sorted") _ _) _ _ _)); dsimp only; walk1))

    rename Fr g' L' _ _ => kF9
    rename News g' L' _ _ => kN9
    refine k D2 n2 ys _ _ d2 kF9 (cb_drop kN9 fun p hp => ?_) ?_ hso ?_ ?_
    · simp only [srvL, List.mem_cons] at hp ⊢
      rcases hp with h | h | h | h | h | h | h | h
      · exact .inr (.inr (.inl h))
      · exact .inr (.inr (.inr (.inl h)))
      · exact .inr (.inr (.inr (.inr (.inl h))))
      · exact .inr (.inr (.inr (.inr (.inr (.inl h)))))
      · exact .inr (.inr (.inr (.inr (.inr (.inr (.inl h))))))
      · exact .inr (.inr (.inr (.inr (.inr (.inr (.inr (.inl h)))))))
      · exact .inl h
      · exact .inr (.inr (.inr (.inr (.inr (.inr (.inr (.inr h)))))))
    · have hoff' := hoff
      simp only [srvL, List.forall_mem_cons] at hoff'
      obtain ⟨e1, e2, e3, e4, e5, e6, _⟩ := hoff'
      exact ⟨P.lt, ⟨e3, P.t1⟩, ⟨e4, P.t2⟩, ⟨e5, P.t3⟩, ⟨e2, P.t4⟩, ⟨e1, P.t5⟩, ⟨e6, P.t6⟩⟩
    · exact hpm.nodup_iff.mpr hO1.nodup
    · intro y; rw [hpm.mem_iff, hO1.same, hzs]
end
end
section
open PySem PySem.W PySem.Calls PyProof.Rows PySem.Spec PyProof.V
section
variable {A₀ : Around} {base g h h' : Heap} {outer : List Env} {L a : Addr} {m : Str → Option Value}
/-- a base anew, behind a call that raises and catches -/
theorem rebase (K : Below A₀ base outer g) (F : Fr g L h m) (U : KeepU (L :: outer.filterMap (·.frame)) h h') :
    ∃ g', KtsTurn (outer.filterMap (·.frame)) g g' ∧ Fr g' L h' m ∧ Below A₀ base outer g' := by
  have hLg := kts_self F
  obtain ⟨T, S⟩ := kts_turn_at (h := h') (fs := outer.filterMap (·.frame)) (g := g)
    (fun b hb => by
      obtain ⟨_, o, ho, _⟩ := K.frames.mem hb
      exact ⟨o, ho⟩)
    (fun b o e nm => U.other b o (F.keep b o e) (fun hm => by
      rcases List.mem_cons.mp hm with z | z
      · rw [z, hLg] at e; cases e
      · exact nm z))
    (fun b o e hm => U.frame b o (F.keep b o e) (.tail _ hm))
  refine ⟨_, T, ⟨?_, S, ?_⟩, ⟨K.stack, fun b o e => T.other b o (K.stays b o e) (fun hm => by
    rw [(K.frames.mem hm).1] at e
    cases e), K.frames.of_keeps fun b o e _ => ?_⟩⟩
  · obtain ⟨o, es, ep, e, r⟩ := F.ns
    obtain ⟨sl, hs⟩ := U.frame L o e (.head _)
    exact ⟨_, es, ep, hs, r⟩
  · rw [T.size]; exact F.above
  · obtain ⟨sl, hs⟩ := T.up e
    exact ⟨_, hs, rfl⟩
theorem news_off {l : Led} (K : Below A₀ base outer g) (N : News g L h l) : ∀ p ∈ l, p.1 ∉ L :: outer.filterMap (·.frame) := by
  intro p hp hm
  rcases List.mem_cons.mp hm with z | z
  · exact (N p hp).2.1 z
  · obtain ⟨_, o, ho, _⟩ := K.frames.mem z
    rw [(N p hp).2.2] at ho; cases ho
theorem news_rebase {l : Led} {g' : Heap} (K : Below A₀ base outer g) (N : News g L h l) (U : KeepU (L :: outer.filterMap (·.frame)) h h') (T : KtsTurn (outer.filterMap (·.frame)) g g') : News g' L h' l :=
  fun p hp => ⟨U.other _ _ (N p hp).1 (news_off K N p hp), (N p hp).2.1, T.none_ _ (N p hp).2.2⟩
theorem fresh_off {b : Addr} (F : Fr g L h m) (hb : h.get? b = none) : b ≠ L ∧ g.get? b = none := by
  constructor
  · intro e
    obtain ⟨o, es, ep, q, _⟩ := F.ns
    rw [← e, hb] at q; cases q
  · cases q : g.get? b with
    | none => rfl
    | some o => have := F.keep _ _ q; rw [hb] at this; cases this
theorem news_cons {l : Led} {b : Addr} {o : Obj} {g' : Heap} (N : News g' L h' l) (hb : h'.get? b = some o) (F : Fr g L h m) (hf : h.get? b = none) (hg : ∀ c, g.get? c = none → g'.get? c = none) : News g' L h' ((b, o) :: l) := by
  intro p hp
  rcases List.mem_cons.mp hp with rfl | hp
  · exact ⟨hb, (fresh_off F hf).1, hg _ (fresh_off F hf).2⟩
  · exact N p hp
theorem news_ne {l : Led} {b : Addr} (N : News g L h l) (hb : h.get? b = none) : ∀ p ∈ l, b ≠ p.1 := by
  intro p hp e
  have h1 := (N p hp).1
  rw [← e, hb] at h1; cases h1
end
theorem FnE.use {w : World} {n : Nat} {f : Addr} {vs : List Value} {kw : List (Str × Value)} {rest : Led} {P : Value → Heap → Heap → Prop} (C : FnE w n f vs kw rest P)
    {mean : ExcName → Option Value} {mg mb : Str → Option Value} {dp un : Nat} {gd : Option (List Code)} {cn : Str} {cs : Scope} {a : Addr} {ccd : Value} {cl : List (Str × Addr)} {outer : List Env} {A₀ : Around} {base h₀ : Heap} {L : Addr} {m : Str → Option Value} {s : Shared} {Q E : Value → Shared → Prop}
    (B : Below A₀ base outer h₀) (F : Fr h₀ L s.heap m) (X : (hd.heap_39 w.params).In base) (hr : ∀ p ∈ rest, s.heap.get? p.1 = some p.2 ∧ p.1 ∉ L :: outer.filterMap (·.frame)) (T : Top hd.view_39 LS mean mg mb base) (hk : cs.kind = .function)
    (hdp : dp + n < recursionLimit) (hun : un + 8 * n < cLine)
    (ret : ∀ r h' tk', KeepU (L :: outer.filterMap (·.frame)) s.heap h' → P r s.heap h' → Q r { s with heap := h', toks := tk' }) :
    wpAny (model PG w) (ktrTop dp un gd cn cs L a ccd cl outer) (call (.ref f) vs kw) Q E s :=
  C _ _ _ _ _ _ _ _ _ _ _ _ _ _ _ _ _ _ _ _ B F X hr T hk hdp hun ret
end
section
open PySem PySem.W PySem.Calls PyProof.Rows PySem.Spec PyProof.V
set_option maxRecDepth 100000
abbrev two (elt t0 it0 t1 it1 : Expr) (scope : Scope) (pos : Pos) : Expr := .ListComp elt [⟨t0, it0, [], 0⟩, ⟨t1, it1, [], 0⟩] scope pos
theorem compTurn_two0 (elt t0 it0 t1 it1 : Expr) (scope : Scope) (pos : Pos) (it acc : Value) (env : Env) :
    compTurn (two elt t0 it0 t1 it1 scope pos) 0 it acc env = (standAt it0.pos >>= fun _ => pyNext it >>= fun r => match r with
      | none => pure (.done .next)
      | some v => letOwnedTupleGo t0 it v >>= fun _ => assign t0 env v >>= fun _ =>
        eval it1 env >>= fun x => standAt it1.pos >>= fun _ => foldedSetIterable it1 env x >>= fun x => holding [x] (pyIter x) >>= fun j => runOwn (.compStart (two elt t0 it0 t1 it1 scope pos) 1 j acc env) env >>= fun _ =>
          again (.compLoop (two elt t0 it0 t1 it1 scope pos) 0 it acc env)) := by rfl
theorem compTurn_two1 (elt t0 it0 t1 it1 : Expr) (scope : Scope) (pos : Pos) (it acc : Value) (env : Env) :
    compTurn (two elt t0 it0 t1 it1 scope pos) 1 it acc env = (standAt it1.pos >>= fun _ => pyNext it >>= fun r => match r with
      | none => pure (.done .next)
      | some v => letOwnedTupleGo t1 it v >>= fun _ => assign t1 env v >>= fun _ =>
        (eval elt env >>= fun x => call (.builtin "list.append") [acc, x] >>= fun _ => pure ()) >>= fun _ =>
          again (.compLoop (two elt t0 it0 t1 it1 scope pos) 1 it acc env)) := by rfl
section
variable {prog : Program} {w : World} {A : Around} {E : Value → Shared → Prop} {s : Shared} {env : Env} {R : Result → Shared → Prop}
theorem start_two {elt t0 it0 t1 it1 : Expr} {scope : Scope} {pos : Pos} {it acc : Value}
    (h0 : codeAny (model prog w) A (.compLoop (two elt t0 it0 t1 it1 scope pos) 1 it acc env) R s)
    (h : wpAny (model prog w) A (pyIter it) (fun it' s' => codeAny (model prog w) A (.compLoop (two elt t0 it0 t1 it1 scope pos) 1 it' acc env) R s')
      (notedBy (model prog w) A env fun x s' => R (.error x) s') s) :
    codeAny (model prog w) A (.compStart (two elt t0 it0 t1 it1 scope pos) 1 it acc env) R s := by
  refine codeAny_of_tree ?_
  show wpAny _ _ ((compStart (two elt t0 it0 t1 it1 scope pos) 1 it acc env).onRaise (fun x => do noteFrame x env; standAt theWindowsPlace)) _ _ s
  refine wpAny_notedAt ?_
  unfold compStart
  show wpAny _ _ (ask >>= _) _ _ s
  refine wpAny_bind (wpAny_askSetting (wpAny_ite ?_))
  split
  · first
      | exact wpAny_bind (wpAny_pure (wpAny_pure (And.intro rfl h0)))
      | exact wpAny_pure (And.intro rfl h0)
  · first
      | exact wpAny_bind (wpAny_rule (wpAny_bind (wpAny_standAt (wpAny_bind (wpAny_mono h (fun it' s' h' => wpAny_pure (And.intro rfl h')) fun _ _ x => x)))))
      | (refine wpAny_bind (wpAny_rule ?_); show wpAny _ _ (standAt it1.pos >>= _) _ _ s; exact wpAny_bind (wpAny_standAt (wpAny_bind (wpAny_mono h (fun it' s' h' => wpAny_pure (And.intro rfl h')) fun _ _ x => x))))
theorem loop_two1 {elt t0 it0 t1 it1 : Expr} {scope : Scope} {pos : Pos} {it acc : Value} (I : Nat → Shared → Prop)
    (turn : ∀ n s, I n s → wpAny (model prog w) A (pyNext it) (fun r s₁ => match r with
      | none => R (.ok .next) s₁
      | some v => wpAny (model prog w) A (assign t1 env v) (fun _ s₂ => wpAny (model prog w) A (eval elt env) (fun x s₃ =>
          wpAny (model prog w) A (call (.builtin "list.append") [acc, x]) (fun _ s₄ => ∃ m, m < n ∧ I m s₄) (notedBy (model prog w) A env fun e s' => R (.error e) s') s₃)
          (notedBy (model prog w) A env fun e s' => R (.error e) s') s₂) (notedBy (model prog w) A env fun e s' => R (.error e) s') s₁) (notedBy (model prog w) A env fun e s' => R (.error e) s') s)
    (n : Nat) (h : I n s) (ht : ∀ v, letOwnedTupleGo t1 it v = pure ()) :
    codeAny (model prog w) A (.compLoop (two elt t0 it0 t1 it1 scope pos) 1 it acc env) R s := by
  refine codeAny_loop rfl I (fun n s hI => ?_) n h
  show wpAny _ _ ((compTurn (two elt t0 it0 t1 it1 scope pos) 1 it acc env).onRaise (fun x => do noteFrame x env; theTreesLotGoes x)) _ _ s
  refine wpAny_noted ?_
  rw [compTurn_two1]
  refine wpAny_bind (wpAny_standAt (wpAny_bind (wpAny_mono (turn n s hI) (fun r s₁ h₁ => ?_) fun _ _ h' => h')))
  cases r with
  | none => exact wpAny_pure h₁
  | some v =>
    refine wpAny_bind (wpAny_of_eq (ht v) ?_)
    exact wpAny_bind (wpAny_mono h₁ (fun _ s₂ h₂ => wpAny_bind (wpAny_bind (wpAny_mono h₂ (fun x s₃ h₃ => wpAny_bind (wpAny_mono h₃
      (fun _ s₄ h₄ => wpAny_pure (wpAny_pure ⟨rfl, h₄⟩)) fun _ _ h' => h')) fun _ _ h' => h'))) fun _ _ h' => h')
theorem loop_two0 {elt t0 it0 t1 it1 : Expr} {scope : Scope} {pos : Pos} {it acc : Value} (I : Nat → Shared → Prop)
    (turn : ∀ n s, I n s → ∀ E, wpAny (model prog w) A (pyNext it) (fun r s₁ => match r with
      | none => R (.ok .next) s₁
      | some v => wpAny (model prog w) A (assign t0 env v) (fun _ s₂ => wpAny (model prog w) A (eval it1 env) (fun x s₃ => foldedSetIterable it1 env x = pure x ∧
          wpAny (model prog w) A (pyIter x) (fun j s₄ => codeAny (model prog w) A (.compStart (two elt t0 it0 t1 it1 scope pos) 1 j acc env) (fun r s₅ => match r with | .ok _ => ∃ m, m < n ∧ I m s₅ | .error _ => False) s₄) E s₃)
          E s₂) E s₁) E s)
    (n : Nat) (h : I n s) (ht : ∀ v, letOwnedTupleGo t0 it v = pure ()) :
    codeAny (model prog w) A (.compLoop (two elt t0 it0 t1 it1 scope pos) 0 it acc env) R s := by
  refine codeAny_loop rfl I (fun n s hI => ?_) n h
  show wpAny _ _ ((compTurn (two elt t0 it0 t1 it1 scope pos) 0 it acc env).onRaise (fun x => do noteFrame x env; theTreesLotGoes x)) _ _ s
  refine wpAny_noted ?_
  rw [compTurn_two0]
  refine wpAny_bind (wpAny_standAt (wpAny_bind (wpAny_mono (turn n s hI _) (fun r s₁ h₁ => ?_) fun _ _ h' => h')))
  cases r with
  | none => exact wpAny_pure h₁
  | some v =>
    refine wpAny_bind (wpAny_of_eq (ht v) ?_)
    refine wpAny_bind (wpAny_mono h₁ (fun _ s₂ h₂ => wpAny_bind (wpAny_mono h₂ (fun x s₃ h₃ => ?_) fun _ _ h' => h')) fun _ _ h' => h')
    refine wpAny_bind (wpAny_standAt (wpAny_bind (wpAny_of_eq h₃.1 (wpAny_bind (wpAny_holding (wpAny_mono h₃.2 (fun j s₄ h₄ => ?_) fun _ _ h' => h'))))))
    refine wpAny_bind (wpAny_runOwn ?_)
    rw [Around.mark_none]
    refine codeAny_mono h₄ fun r s₅ h₅ => ?_
    cases r with
    | ok f => exact wpAny_pure ⟨rfl, h₅⟩
    | error e => exact h₅.elim
end
end
section
open PySem PySem.W PySem.Calls PyProof.Rows PySem.Spec PyProof.V
set_option maxRecDepth 100000
def dbl : List Value → List Value
  | [] => []
  | v :: r => v :: v :: dbl r
theorem dbl_append (a b : List Value) : dbl (a ++ b) = dbl a ++ dbl b := by
  induction a with
  | nil => rfl
  | cons v a ih => simp only [List.cons_append, dbl, ih]
theorem dbl_length (a : List Value) : (dbl a).length = 2 * a.length := by
  induction a with
  | nil => rfl
  | cons v a ih => simp only [dbl, List.length_cons, ih]; omega
inductive DJ (s₁ : Shared) (I C D l : Addr) (its : Array Value) (k : Nat) (s' : Shared) : Prop
  | mk (h' : Heap) (tk i : Nat) (m' : Str → Option Value) (e : s' = { s₁ with heap := h', toks := tk }) (hi : i ≤ its.size) (hk : k = its.size + 1 - i) (hI : h'.IsListIter I l i ∧ h'.IsList l its) (hn : h'.Ns C m') (hD : h'.get? D = some (LCg.lst (dbl (its.toList.take i)))) (hb : ∀ b o, s₁.heap.get? b = some o → h'.get? b = some o)
inductive DJ1 (s₁ : Shared) (I C D l J T : Addr) (its tw : Array Value) (x : Str) (v : Value) (i k : Nat) (s' : Shared) : Prop
  | mk (h' : Heap) (tk j : Nat) (m' : Str → Option Value) (e : s' = { s₁ with heap := h', toks := tk }) (hj : j ≤ 2) (hk : k = 3 - j) (hJ : h'.IsListIter J T j ∧ h'.IsList T tw) (hI : h'.IsListIter I l (i + 1) ∧ h'.IsList l its) (hn : h'.Ns C m') (hx : m' x = some v)
    (hD : h'.get? D = some (LCg.lst (dbl (its.toList.take i) ++ List.replicate j v))) (hb : ∀ b o, s₁.heap.get? b = some o → h'.get? b = some o)
section
variable {prog : Program} {w : World} {A : Around} {E : Value → Shared → Prop} {s : Shared} {env : Env}
theorem get_lt {h : Heap} {a : Addr} {o : Obj} (e : h.get? a = some o) : @LT.lt Nat _ a h.objs.size := Heap.lt_size e
theorem comp_dbl {x y : Str} {iter : Expr} {k1 k2 : Nat} {p0 p1 p2 p3 q1 q2 pos : Pos} {scope : Scope} {cl : List (Str × Addr)} {Q : Value → Shared → Prop} (hh : A.handled = none)
    (hclos : closureFor scope env = pure cl) (hcell : ∀ z ∈ scope.names, z.2 ≠ .cell) (hkind : scope.kind = .function)
    (hnames : ∀ z ∈ scope.names, z.2 = .local → scope.names.lookup z.1 = some .local) (hx : scope.names.lookup x = some .local) (hy : scope.names.lookup y = some .local) (hxy : x ≠ y) (hxd : (x == ("__debug__" : Str)) = false)
    (h : wpAny (model prog w) A (eval iter env) (fun xv s₁ => ∃ l its, xv = .ref l ∧ s₁.heap.IsList l its ∧ its.size ≤ 1000 ∧
      ∀ D h' tk, s₁.heap.get? D = none → (∀ b o, s₁.heap.get? b = some o → h'.get? b = some o) → h'.get? D = some (LCg.lst (dbl its.toList)) → Q (.ref D) { s₁ with heap := h', toks := tk }) E s)
    (hs : ∀ x, foldedSetIterable iter env x = pure x := by intro _; rfl) :
    wpAny (model prog w) A (eval (.ListComp (.Name x p0) [⟨.Name x p1, iter, [], 0⟩, ⟨.Name y p2, .List [.Constant (.int 1) k1 q1, .Constant (.int 2) k2 q2] p3, [], 0⟩] scope pos) env) Q E s := by
  rw [eval_ListComp]
  refine wpAny_comprehension_free (use := none) rfl hs hclos hkind hnames (wpAny_mono h (fun xv s₁ h₁ => ?_) fun _ _ e => e)
  obtain ⟨l, its, rfl, hl, hsz, hQ⟩ := h₁
  have hlz : @LT.lt Nat _ l s₁.heap.objs.size := by obtain ⟨_, e, _⟩ := hl; exact Heap.lt_size e
  refine wpAny_pyIter_list hl ?_
  refine wpAny_newObj_type (wpAny_newFunctionEnv hcell (by intro y hy; simp at hy) (fun h₁ hns₁ hsb₁ => ?_) hkind)
  dsimp only at hns₁ hsb₁ ⊢
  have z1 : (s₁.heap.push { cls := .type "list_iterator", data := .fields #[.ref l, .int 0 0] }).objs.size = s₁.heap.objs.size + 1 := Heap.size_push _ _
  have z2 : ((s₁.heap.push { cls := .type "list_iterator", data := .fields #[.ref l, .int 0 0] }).push { cls := .type "list", dict := none, data := .seq ([] : List Value).toArray }).objs.size = s₁.heap.objs.size + 2 := by rw [Heap.size_push, z1]
  have hit0 := Heap.get?_push_size s₁.heap (o := { cls := .type "list_iterator", data := .fields #[.ref l, .int 0 0] }) rfl
  have hl1 : (s₁.heap.push { cls := .type "list_iterator", data := .fields #[.ref l, .int 0 0] }).IsList l its := hl.push _
  have hkp : ∀ b o, s₁.heap.get? b = some o → (s₁.heap.push { cls := .type "list_iterator", data := .fields #[.ref l, .int 0 0] }).get? b = some o := fun b o e => Heap.get?_push_of_some _ e
  generalize hHI : s₁.heap.push { cls := .type "list_iterator", data := .fields #[.ref l, .int 0 0] } = HI at *
  have hI2 : (HI.push { cls := .type "list", dict := none, data := .seq ([] : List Value).toArray }).get? s₁.heap.objs.size = some _ := Heap.get?_push_of_some _ hit0
  have hl2 : (HI.push { cls := .type "list", dict := none, data := .seq ([] : List Value).toArray }).IsList l its := hl1.push _
  have hD2 := Heap.get?_push_size HI (o := { cls := .type "list", dict := none, data := .seq ([] : List Value).toArray }) rfl
  have hkp2 : ∀ b o, HI.get? b = some o → (HI.push { cls := .type "list", dict := none, data := .seq ([] : List Value).toArray }).get? b = some o := fun b o e => Heap.get?_push_of_some _ e
  generalize hHD : HI.push { cls := .type "list", dict := none, data := .seq ([] : List Value).toArray } = HD at *
  obtain ⟨I, eI⟩ : ∃ I : Addr, I = s₁.heap.objs.size := ⟨_, rfl⟩
  obtain ⟨D, eD⟩ : ∃ D : Addr, D = HI.objs.size := ⟨_, rfl⟩
  obtain ⟨C, eC⟩ : ∃ C : Addr, C = HD.objs.size := ⟨_, rfl⟩
  rw [← eC] at hns₁ hsb₁ ⊢
  rw [← eD] at hD2 ⊢
  rw [← eI] at hit0 hI2 ⊢
  have nI : @Eq Nat I s₁.heap.objs.size := eI
  have nD : @Eq Nat D (s₁.heap.objs.size + 1) := eD.trans z1
  have nC : @Eq Nat C (s₁.heap.objs.size + 2) := eC.trans z2
  have neA : ∀ a b : Addr, ¬ @Eq Nat a b → a ≠ b := fun a b h e => h e
  have hlI : l ≠ I := neA _ _ (by omega)
  have hDI : D ≠ I := neA _ _ (by omega)
  have hDC : D ≠ C := neA _ _ (by omega)
  have hIC : I ≠ C := neA _ _ (by omega)
  have hlC : l ≠ C := neA _ _ (by omega)
  have hlD : l ≠ D := neA _ _ (by omega)
  have oldne : ∀ b o, s₁.heap.get? b = some o → b ≠ I ∧ b ≠ D ∧ b ≠ C := fun b o e => by
    have := get_lt e
    exact ⟨neA _ _ (by omega), neA _ _ (by omega), neA _ _ (by omega)⟩
  have hDf : s₁.heap.get? D = none := by
    cases q : s₁.heap.get? D with
    | none => rfl
    | some o => have := get_lt q; omega
  have hCf : s₁.heap.get? C = none := by
    cases q : s₁.heap.get? C with
    | none => rfl
    | some o => have := get_lt q; omega
  have W := Walks.list (prog := prog) (w := w) hh I l hlI its
  have hI1 : h₁.get? I = some _ := hsb₁.extBut I _ hIC (Heap.get?_push_of_some _ hI2)
  have hl3 : h₁.IsList l its := (hl2.push _).extBut hsb₁.extBut hlC
  have hD1 : h₁.get? D = some (LCg.lst (dbl (its.toList.take 0))) := hsb₁.extBut D _ hDC (Heap.get?_push_of_some _ hD2)
  have hk1 : ∀ b o, s₁.heap.get? b = some o → h₁.get? b = some o := fun b o e => hsb₁.extBut b o (oldne b o e).2.2 (Heap.get?_push_of_some _ (hkp2 b o (hkp b o e)))
  have kx : (compEnvC scope cl C env).kindOf x = some .local := lookup_relabel_local hx
  have ky : (compEnvC scope cl C env).kindOf y = some .local := lookup_relabel_local hy
  have kk : (compEnvC scope cl C env).scope.kind = .function := hkind
  have loop : ∀ s₃ : Shared, (∃ tk, s₃ = { s₁ with heap := h₁, toks := tk }) →
      codeAny (model prog w) A (.compLoop (two (.Name x p0) (.Name x p1) iter (.Name y p2) (.List [.Constant (.int 1) k1 q1, .Constant (.int 2) k2 q2] p3) scope pos) 0 (.ref I) (.ref D) (compEnvC scope cl C env))
        (compPost (model prog w) A E none Q (.ref D) C) s₃ := by
    rintro s₃ ⟨tk₃, rfl⟩
    refine loop_two0 (DJ s₁ I C D l its) ?_ (its.size + 1) ⟨h₁, _, 0, _, rfl, Nat.zero_le _, rfl, ⟨⟨_, hI1, rfl, rfl⟩, hl3⟩, hns₁, hD1, hk1⟩ (fun v => rfl)
    rintro k s' ⟨h', tk, i, m', rfl, hi, rfl, hst', hn', hD', hk'⟩ E'
    by_cases hlt : i < its.size
    · refine W.item i _ _ _ hlt hst' fun v h₂ tk₂ hPv hst₂ hk₂ => ?_
      have hk₂ : ∀ b o, b ≠ I → h'.get? b = some o → h₂.get? b = some o := fun b o hb e => hk₂ b o (by simpa using hb) e
      refine wpAny_assign_Name (wpAny_storeName_local kx (hn'.at' fun o e => hk₂ _ o hIC.symm e) (fun h₃ hn₃ hs₃ => ?_) (by rw [kk]; rfl))
      have hst₃ : h₃.IsListIter I l (i + 1) ∧ h₃.IsList l its := W.frame _ _ _ hst₂ fun b hb o e => hs₃.extBut b o (by rcases List.mem_cons.mp hb with rfl | hb; exact hIC; rw [List.mem_singleton.mp hb]; exact hlC) e
      have hD₃ : h₃.get? D = some (LCg.lst (dbl (its.toList.take i))) := hs₃.extBut D _ hDC (hk₂ D _ hDI hD')
      have hk₃ : ∀ b o, s₁.heap.get? b = some o → h₃.get? b = some o := fun b o e => hs₃.extBut b o (oldne b o e).2.2 (hk₂ b o (oldne b o e).1 (hk' b o e))
      have zI : @LT.lt Nat _ I h₃.objs.size := by obtain ⟨_, e, _⟩ := hst₃.1; exact get_lt e
      have zl : @LT.lt Nat _ l h₃.objs.size := by obtain ⟨_, e, _⟩ := hst₃.2; exact get_lt e
      have zD : @LT.lt Nat _ D h₃.objs.size := get_lt hD₃
      have zC : @LT.lt Nat _ C h₃.objs.size := by obtain ⟨_, _, _, e, _⟩ := hn₃; exact get_lt e
      refine wpAny_List (spliced_more (wpAny_Constant_int (spliced_more (wpAny_Constant_int (spliced_none ⟨by (show 2 ≤ sizeLine; rw [sizeLine_eq]; decide), rfl, ?_⟩)))))
      dsimp only
      have hT := Heap.get?_push_size h₃ (o := { cls := .type "list", data := .seq [Value.int 1 (tk₂ + 1), Value.int 2 (tk₂ + 1 + 1)].toArray }) rfl
      refine wpAny_pyIter_list (items := [Value.int 1 (tk₂ + 1), Value.int 2 (tk₂ + 1 + 1)].toArray) ⟨_, hT, rfl, _, rfl⟩ ?_
      dsimp only
      have hk4 : ∀ b o, h₃.get? b = some o → (h₃.push { cls := .type "list", data := .seq [Value.int 1 (tk₂ + 1), Value.int 2 (tk₂ + 1 + 1)].toArray }).get? b = some o := fun b o e => Heap.get?_push_of_some _ e
      have z4 : (h₃.push { cls := .type "list", data := .seq [Value.int 1 (tk₂ + 1), Value.int 2 (tk₂ + 1 + 1)].toArray }).objs.size = h₃.objs.size + 1 := Heap.size_push _ _
      generalize h₃.push { cls := .type "list", data := .seq [Value.int 1 (tk₂ + 1), Value.int 2 (tk₂ + 1 + 1)].toArray } = h4 at *
      have hJ := Heap.get?_push_size h4 (o := { cls := .type "list_iterator", data := .fields #[.ref h₃.objs.size, .int 0 0] }) rfl
      have hk5 : ∀ b o, h4.get? b = some o → (h4.push { cls := .type "list_iterator", data := .fields #[.ref h₃.objs.size, .int 0 0] }).get? b = some o := fun b o e => Heap.get?_push_of_some _ e
      generalize h4.push { cls := .type "list_iterator", data := .fields #[.ref h₃.objs.size, .int 0 0] } = h5 at *
      obtain ⟨T, eT⟩ : ∃ T : Addr, T = h₃.objs.size := ⟨_, rfl⟩
      obtain ⟨J, eJ⟩ : ∃ J : Addr, J = h4.objs.size := ⟨_, rfl⟩
      have nT : @Eq Nat T h₃.objs.size := eT
      have nJ : @Eq Nat J (h₃.objs.size + 1) := eJ.trans z4
      rw [← eT] at hT hJ
      rw [← eJ] at hJ ⊢
      clear eT eJ
      have hTJ : T ≠ J := neA _ _ (by omega)
      have hTC : T ≠ C := neA _ _ (by omega)
      have hTD : T ≠ D := neA _ _ (by omega)
      have hJC : J ≠ C := neA _ _ (by omega)
      have hJD : J ≠ D := neA _ _ (by omega)
      have hJI : I ≠ J := neA _ _ (by omega)
      have hJl : l ≠ J := neA _ _ (by omega)
      have oldJ : ∀ b o, s₁.heap.get? b = some o → b ≠ J := fun b o e => by
        have := get_lt (hk₃ b o e)
        exact neA _ _ (by omega)
      have W2 := Walks.list (prog := prog) (w := w) hh J T hTJ [Value.int 1 (tk₂ + 1), Value.int 2 (tk₂ + 1 + 1)].toArray
      have up5 : ∀ b o, h₃.get? b = some o → h5.get? b = some o := fun b o e => hk5 b o (hk4 b o e)
      have st5 : h5.IsListIter J T 0 ∧ h5.IsList T [Value.int 1 (tk₂ + 1), Value.int 2 (tk₂ + 1 + 1)].toArray := ⟨⟨_, hJ, rfl, rfl⟩, ⟨_, hk5 _ _ hT, rfl, _, rfl⟩⟩
      have loop1 : ∀ s₆ : Shared, (∃ tk, s₆ = { s₁ with heap := h5, toks := tk }) →
          codeAny (model prog w) A (.compLoop (two (.Name x p0) (.Name x p1) iter (.Name y p2) (.List [.Constant (.int 1) k1 q1, .Constant (.int 2) k2 q2] p3) scope pos) 1 (.ref J) (.ref D) (compEnvC scope cl C env))
            (fun r s₅ => match r with | .ok _ => ∃ m, m < its.size + 1 - i ∧ DJ s₁ I C D l its m s₅ | .error _ => False) s₆ := by
        rintro s₆ ⟨tk₆, rfl⟩
        refine loop_two1 (DJ1 s₁ I C D l J T its [Value.int 1 (tk₂ + 1), Value.int 2 (tk₂ + 1 + 1)].toArray x v i) ?_ 3
          ⟨h5, _, 0, _, rfl, Nat.zero_le _, rfl, st5, W.frame _ _ _ hst₃ fun b _ o e => up5 b o e, hn₃.at' fun o e => up5 _ o e, if_pos rfl, by rw [List.replicate_zero, List.append_nil]; exact up5 _ _ hD₃, fun b o e => up5 b o (hk₃ b o e)⟩ (fun v => rfl)
        rintro k s' ⟨h6, tk6, j, m6, rfl, hj, rfl, st6, stI6, hn6, hx6, hD6, hk6⟩
        by_cases hj2 : j < 2
        · refine W2.item j _ _ _ hj2 st6 fun v2 h7 tk7 hP7 st7 hk7 => ?_
          have hk7 : ∀ b o, b ≠ J → h6.get? b = some o → h7.get? b = some o := fun b o hb e => hk7 b o (by simpa using hb) e
          refine wpAny_assign_Name (wpAny_storeName_local ky (hn6.at' fun o e => hk7 _ o hJC.symm e) (fun h8 hn8 hs8 => ?_) (by rw [kk]; rfl))
          refine wpAny_Name (wpAny_loadName_local kk kx hn8 (v := v) ((if_neg hxy).trans hx6) ?_) hxd
          have hD8 : h8.get? D = some (LCg.lst (dbl (its.toList.take i) ++ List.replicate j v)) := hs8.extBut D _ hDC (hk7 D _ hJD.symm hD6)
          refine append_at (hsz := ?hz) hD8 fun h9 hs9 hD9 => ?_
          case hz =>
            rw [List.size_toArray, List.length_append, dbl_length, List.length_replicate, sizeLine_eq]
            have := List.length_take_le i its.toList
            omega
          have up9 : ∀ b o, b ≠ J → b ≠ C → b ≠ D → h6.get? b = some o → h9.get? b = some o := fun b o n1 n2 n3 e => hs9.extBut b o n3 (hs8.extBut b o n2 (hk7 b o n1 e))
          refine ⟨3 - (j + 1), by omega, h9, _, j + 1, _, rfl, hj2, rfl, ?_, ?_, hn8.sameBut hs9 hDC.symm, (if_neg hxy).trans hx6, ?_, ?_⟩
          · exact W2.frame _ _ _ (W2.frame _ _ _ st7 fun b hb o e => hs8.extBut b o (by rcases List.mem_cons.mp hb with rfl | hb; exact hJC; rw [List.mem_singleton.mp hb]; exact hTC) e)
              fun b hb o e => hs9.extBut b o (by rcases List.mem_cons.mp hb with rfl | hb; exact hJD; rw [List.mem_singleton.mp hb]; exact hTD) e
          · exact W.frame _ _ _ stI6 fun b hb o e => by
              rcases List.mem_cons.mp hb with rfl | hb
              · exact up9 _ o hJI hIC hDI.symm e
              · rw [List.mem_singleton.mp hb] at e ⊢
                exact up9 _ o hJl hlC hlD e
          · rw [hD9, LCg.lst_snoc, List.append_assoc, ← List.replicate_succ']
          · exact fun b o e => up9 b o (oldJ b o e) (oldne b o e).2.2 (oldne b o e).2.1 (hk6 b o e)
        · obtain rfl : j = 2 := by omega
          refine W2.done _ _ _ st6 fun h7 tk7 hk7 => ?_
          have hk7 : ∀ b o, b ≠ J → h6.get? b = some o → h7.get? b = some o := fun b o hb e => hk7 b o (by simpa using hb) e
          have hiv : its.toList[i]? = some v := by rw [Array.getElem?_toList]; exact hPv
          refine ⟨its.size + 1 - (i + 1), by omega, h7, _, i + 1, m6, rfl, hlt, rfl, ?_, hn6.at' fun o e => hk7 _ o hJC.symm e, ?_, fun b o e => hk7 b o (oldJ b o e) (hk6 b o e)⟩
          · exact W.frame _ _ _ stI6 fun b hb o e => by
              rcases List.mem_cons.mp hb with rfl | hb
              · exact hk7 _ o hJI e
              · rw [List.mem_singleton.mp hb] at e ⊢
                exact hk7 _ o hJl e
          · rw [hk7 D _ hJD.symm hD6, List.take_add_one, hiv, dbl_append]; rfl
      exact start_two (loop1 _ ⟨_, rfl⟩) (W2.self 0 _ _ _ st5 (loop1 _ ⟨_, rfl⟩))
    · obtain rfl : i = its.size := Nat.le_antisymm hi (Nat.not_lt.mp hlt)
      refine W.done _ _ _ hst' fun h₂ tk₂ hk₂ => ?_
      have hk₂ : ∀ b o, b ≠ I → h'.get? b = some o → h₂.get? b = some o := fun b o hb e => hk₂ b o (by simpa using hb) e
      rw [List.take_of_length_le (by simp)] at hD'
      refine ⟨m', hn'.at' fun o e => hk₂ _ o hIC.symm e, fun h'' hs'' => hQ D h'' _ hDf (fun b o e => hs''.extBut b o (oldne b o e).2.2 (hk₂ b o (oldne b o e).1 (hk' b o e))) (hs''.extBut D _ hDC (hk₂ D _ hDI hD'))⟩
  exact codeAny_compStart_list (loop _ ⟨_, rfl⟩) (W.self 0 _ _ _ ⟨⟨_, hI1, rfl, rfl⟩, hl3⟩ (loop _ ⟨_, rfl⟩))
end
end
section
open PySem PySem.W PyProof.Rows PySem.Spec
theorem lines_T7 : True := by
  k_with_none
  (k_with "om" => (with_reducible first | assumption | exact Nat.ne_of_lt ‹_› | exact Nat.ne_of_gt ‹_› | exact Ne.symm ‹_› | exact Mine.o_a ‹_› (by decide) | exact Mine.o_b ‹_› (by decide) | exact Mine.o_c ‹_› | exact Mine.o_le (n := 100) ‹_› (by decide) | exact Mine.o_le ‹_› (by decide) | exact Mine.o_l ‹_› (by decide) | exact Mine.o_1 (n := 100) ‹_› (by decide) | exact Mine.o_2 (n := 100) ‹_› (by decide) | exact Mine.o_lt (n := 100) ‹_› (by decide) | exact Mine.o_lt ‹_› (by decide) | exact Mine.o_ll ‹_› (by decide) | exact Mine.o_s ‹_› | exact Mine.o_n _ | exact Mine.o_0 _ | exact Mine.o_i ‹_› (by decide) | exact Mine.o_m ‹_› (by decide) | exact Mine.o_j (n := 100) ‹_› ‹_› (by decide) | exact Mine.o_k ‹_› ‹_› (by decide) | exact Mine.o_e (n := 100) ‹_› ‹_› (by decide) | exact Nat.ne_of_lt (by k_extra "cj") | exact Nat.ne_of_gt (by k_extra "cj") | exact Ne.symm (by k_extra "cj") | k_extra "cj" | fail))
  (k_with "cj" => (first | exact And.left ‹_› | exact Mine.c_2 ‹_› | exact Mine.c_3 ‹_› | exact Mine.c_4 ‹_› | exact Mine.c_5 ‹_› | exact Mine.c_6 ‹_› | exact Mine.c_7 ‹_› | exact Mine.c_8 ‹_› | exact Mine.c_9 ‹_› | exact And.right ‹_› | exact Mine.d_3 ‹_› | exact Mine.d_4 ‹_› | exact Mine.d_5 ‹_› | exact Mine.d_6 ‹_› | exact Mine.d_7 ‹_› | exact Mine.d_8 ‹_› | exact Mine.d_9 ‹_› | fail))
  (k_with "fn ctx" => (((case k1 => k_asm); (case k2 => k_asm); (case k3 => k_asm); (case k4 => k_asm); (case k5 => k_asm); (case kK => first | exact rfl | assumption); (case kd => ktr_room); (case ku => ktr_units))))
  (k_with "call ref" => ((k_here; (with_reducible show wpAny _ _ (call (Value.ref 228) _ _) _ _ _); k_dflt (refine' (law_kind).use ?k1 ?k2 ?k3 ?k4 ?k5 ?kK ?kd ?ku ?kz ?_; (walk_at "fn ctx"); (case kz => exact fun _ h => nomatch h); intro zqr9 zqh9 zqtk9 zqF9 zqN9 zqk9 zqho9; obtain ⟨zqt9, zqhr9⟩ := zqho9; subst zqhr9; (try dsimp only); (try k_sweep)))))
  (k_with "call ref" => ((k_here; (with_reducible show wpAny _ _ (call (Value.ref 235) _ _) _ _ _); k_dflt (refine' (law_worth).use ?k1 ?k2 ?k3 ?k4 ?k5 ?kK ?kd ?ku ?kz ?_; (walk_at "fn ctx"); (case kz => exact fun _ h => nomatch h); intro zqr9 zqh9 zqtk9 zqF9 zqN9 zqk9 zqho9; obtain ⟨zqt9, zqhr9⟩ := zqho9; subst zqhr9; (try dsimp only); (try k_sweep)))))
  (k_with "call builtin:len" => ((k_here; (with_reducible show wpAny _ _ (call (Value.builtin "len") [Value.ref _]) _ _ _); k_dflt (first | (refine' len_led ?k1 ?k2 ?k3 ?_; (case k1 => k_asm); (case k2 => k_mem); (case k3 => first | with_reducible assumption | omega | (simp only [List.size_toArray, List.length_map]; omega)); k_whole) | (refine' len_base ?k1 ?k2 ?k3 ?_; (case k1 => k_asm); (case k2 => with_reducible assumption); (case k3 => first | with_reducible assumption | omega); k_whole)))))
  (k_with "m look" => (first | with_reducible assumption | (with_reducible exact lk_hit rfl) | (with_reducible refine' lk_ne ?hh ?hv; (case hh => decide); (case hv => walk_at "m look"))))
  (k_with "eval Name" => ((k_here; k_dflt (refine' nameX_L ?F ?v ?_ ?a ?b; (case b => rfl); (case a => rfl); (case F => k_asm); (case v => walk_at "m look"); k_whole))))
  (k_with "subscriptTail" => ((k_here; (with_reducible show wpAny _ _ (subscriptTail _ (PySem.Expr.Slice none none none _) (Value.ref _) (Value.ref _)) _ _ _); k_dflt (first | (refine' slice_allB ?F ?N ?l ?z ?_ ?s ?t; (case F => k_asm); (case N => k_asm); (case l => with_reducible assumption); (case z => (rw [svals_size]; omega)); (case s => with_unfolding_all rfl); (case t => kmk_pure); k_whole) | (refine' slice_all ?F ?N ?l ?z ?_ ?s ?t; (case F => k_asm); (case N => k_asm); (case l => k_mem); (case z => (rw [svals_size]; omega)); (case s => with_unfolding_all rfl); (case t => kmk_pure); k_whole)); intro zqD' zqh' zqF' zqN' zql1; (try k_lt zql1); (try k_sweep))))
  trivial
section
variable {prog : Program} {w : World} {A : Around} {E : Value → Shared → Prop} {s : Shared} {h₀ : Heap} {L l : Addr} {m : Str → Option Value} {news : Led} {value slice : PySem.Expr} {n : Nat} {its : Array Value} {Q : Value → Shared → Prop}
theorem slice_allB (F : Fr h₀ L s.heap m) (N : News h₀ L s.heap news) (hg : h₀.get? l = some (lst its n)) (hz : its.size < 2 ^ 20)
    (h : ∀ D h', Fr h₀ L h' m → News h₀ L h' ((D, listOf its 0) :: news) → (∀ p ∈ news, p.1 < D) → Q (.ref D) { s with heap := h' })
    (hs : subscripted slice false (.ref l) (.ref s.heap.objs.size) = operate [.ref s.heap.objs.size, .ref l] (getItem (.ref l) (.ref s.heap.objs.size))) (ht : ∀ r, letTemporaryGo value (.ref l) r = pure ()) :
    wpAny (model prog w) A (subscriptTail value slice (.ref l) (.ref s.heap.objs.size)) Q E { s with heap := s.heap.push { cls := .type "slice", data := .fields #[.none, .none, .none] } } := by
  refine kmk_slice (its := its) F N (PySem.IsL.isList (n := n) (F.keep _ _ hg)) IsPart.none IsPart.none (fun D h' F' N' l1 => h D h' F' ?_ l1) hs ht (by rw [sizeLine_eq]; omega)
  rw [slicePick_all] at N'
  exact N'
end
theorem ne_allNe {d : Nat} {l : Led} (h : AllNe d l) : ∀ p ∈ l, p.1 ≠ d := by
  induction l with
  | nil => intro p hp; cases hp
  | cons q l ih =>
    intro p hp
    rcases List.mem_cons.mp hp with rfl | hp
    · exact h.1
    · exact ih h.2 p hp
section
variable {w : World} {mean : ExcName → Option Value} {mg mb : Str → Option Value} {dp un : Nat} {gd : Option (List Code)} {cn : Str} {cs : Scope} {a : Addr} {ccd : Value} {cl : List (Str × Addr)} {outer : List Env} {base g' : Heap} {L L' : Addr} {s : Shared} {Q : Flow → Shared → Prop} {E : Value → Shared → Prop} {m : Str → Option Value}
variable {od hp x dx hl : Addr} {oOd oHp c1 : Obj} {hh : Int} {tk0 nd n : Nat} {tail : Led} {nl tl : Addr} {n1 n2 : Nat} {xs : List IT} {th : List ST} {vs : Array Value}
set_option maxRecDepth 100000 in
set_option maxHeartbeats 8000000 in
theorem srv_sld1 (C : Ctx w mean mg mb dp un gd cn cs a ccd cl outer base g' L) (hb2 : g'.get? tl = some (lst (svals th) n2)) (hl2 : th.length ≤ 100) {Dk : Addr} {nk : Nat} {ys : List ST} (hly : ys.length ≤ 100) (P : Apart od hp x dx hl (L' + 1) ((Dk, listOf (svals ys) nk) :: tail))
    (F : Fr g' L' s.heap m) (XB : (hd.heap_39 w.params).In base) (TB : Top hd.view_39 LS mean mg mb base) (N : News g' L' s.heap (srvL od hp x dx hl L' oOd oHp hh tk0 nd vs n c1 ((Dk, listOf (svals ys) nk) :: tail))) (hc : c1.data = .cell none) (hmk : m (Str.ofString "kinds") = some (.ref Dk)) (hmt : m (Str.ofString "there") = some (.ref tl))
    (k : ∀ g₂ Dm Du nm nu c1' h tk, KtsTurn ((envX cn cs L a ccd cl :: outer).filterMap (·.frame)) g' g₂ → Ctx w mean mg mb dp un gd cn cs a ccd cl outer base g₂ L → Fr g₂ L' h (fun y => if y = Str.ofString "unwished" then some (.ref Du) else m y) → News g₂ L' h (srvL od hp x dx hl L' oOd oHp hh tk0 nd vs n c1' ((Dm, listOf (svals (sldf ys th).1) nm) :: (Du, listOf (svals (sldf ys th).2) nu) :: (Dk, listOf (svals ys) nk) :: tail)) → c1'.data = .cell (some (.ref Dm)) → Apart od hp x dx hl (L' + 1) ((Dm, listOf (svals (sldf ys th).1) nm) :: (Du, listOf (svals (sldf ys th).2) nu) :: (Dk, listOf (svals ys) nk) :: tail) → Q .next { s with heap := h, toks := tk }) :
    wpAny (model PG w) ((ktrTop dp un gd cn cs L a ccd cl outer).deeper (srvEnv L')) (exec srvSt7 (srvEnv L')) Q E s := by
  obtain ⟨B', X', T', hk, hdp, hun⟩ := C
  unfold srvSt7 srvEnv
  dsimp only [st0, tl0]

  repeat' (first | (k_unfold; (try dsimp only)) | ((fail_if_success (with_reducible show wpAny _ _ (eval (Expr.ListComp _ _ _ _) _) _ _ _)); (fail_if_success (with_reducible show wpAny _ _ (exec (Stmt.Assign [_] (Expr.ListComp _ _ _ _) _) _) _ _ _)); (fail_if_success (with_reducible show LCt.CompSrcT _ _ _ _ _ _ _ _ _ _ _ _ _ _ _)); (fail_if_success (with_reducible show LCg.CompSrc _ _ _ _ _ _ _ _ _ _ _ _ _ _)); (fail_if_success (with_reducible show LCg.CompEnd _ _ _ _ _ _ _ _ _ _ _ _ _ _)); (fail_if_success (with_reducible show @ite _ _ _ _ _)); (fail_if_success (with_reducible show wpAny _ _ (pyIter _) _ _ _)); (fail_if_success (with_reducible show Q _ _)); (fail_if_success (with_reducible show UnrPost _ _ _ _ _ _ _ _ _)); (fail_if_success (with_reducible show wpAny _ _ (storeName _ (Str.ofString "missing") (Value.ref _)) _ _ _)); (fail_if_success (with_reducible show ∃ _, _)); (fail_if_success (with_reducible show wpAny _ _ (call (Value.ref 45) _ _) _ _ _)); walk1) | ((fail_if_success (with_reducible show wpAny _ _ (eval (Expr.ListComp _ _ _ _) _) _ _ _)); (fail_if_success (with_reducible show wpAny _ _ (exec (Stmt.Assign [_] (Expr.ListComp _ _ _ _) _) _) _ _ _)); (fail_if_success (with_reducible show LCt.CompSrcT _ _ _ _ _ _ _ _ _ _ _ _ _ _ _)); (fail_if_success (with_reducible show LCg.CompSrc _ _ _ _ _ _ _ _ _ _ _ _ _ _)); (fail_if_success (with_reducible show LCg.CompEnd _ _ _ _ _ _ _ _ _ _ _ _ _ _)); (fail_if_success (with_reducible show @ite _ _ _ _ _)); (fail_if_success (with_reducible show wpAny _ _ (pyIter _) _ _ _)); (fail_if_success (with_reducible show Q _ _)); (fail_if_success (with_reducible show UnrPost _ _ _ _ _ _ _ _ _)); (fail_if_success (with_reducible show wpAny _ _ (storeName _ (Str.ofString "missing") (Value.ref _)) _ _ _)); (fail_if_success (with_reducible show ∃ _, _)); (fail_if_success (with_reducible show wpAny _ _ (call (Value.ref 45) _ _) _ _ _)); dsimp only; walk1))

  rename Fr g' L' _ _ => kF9
  rename News g' L' _ _ => kN9
  have hof := news_off B' kN9
  refine (sld (rest := [(_, lst (svals ys) 0), (_, lst (svals th) 0)]) (.head _) (.tail _ (.head _)) (by omega) (by omega)).use (base := base) B' kF9 XB ?kr TB ?kK ?kd ?ku ?_
  case kr =>
    (simp only [List.forall_mem_cons])
    exact ⟨⟨(kN9 _ (.tail _ (.head _))).1, hof _ (.tail _ (.head _))⟩, ⟨(kN9 _ (.head _)).1, hof _ (.head _)⟩, List.forall_mem_nil _⟩
  case kK => exact rfl
  case kd => ktr_room
  case ku => ktr_units
  rintro r h2 tk2 U ⟨T9, ml, ul, nm, nu, rfl, hT, hml, hul, f1, f2, f3, l1, l2⟩
  obtain ⟨g₂, Tn, F2, B2⟩ := rebase B' kF9 U
  have N2 := news_cons (news_cons (news_cons (news_rebase B' kN9 U Tn) hul kF9 f3 Tn.none_) hml kF9 f2 Tn.none_) hT kF9 f1 Tn.none_
  have X2 : (hd.heap_39 w.params).In g₂ := XB.keeps B2.stays
  have T2 := TB.keeps B2.stays
  have e2 := news_ne kN9 f2
  have e3 := news_ne kN9 f3
  clear kF9 kN9 hof
  clear B' X' T'
  (try dsimp only)
  repeat' (first | (k_unfold; (try dsimp only)) | ((fail_if_success (with_reducible show wpAny _ _ (eval (Expr.ListComp _ _ _ _) _) _ _ _)); (fail_if_success (with_reducible show wpAny _ _ (exec (Stmt.Assign [_] (Expr.ListComp _ _ _ _) _) _) _ _ _)); (fail_if_success (with_reducible show LCt.CompSrcT _ _ _ _ _ _ _ _ _ _ _ _ _ _ _)); (fail_if_success (with_reducible show LCg.CompSrc _ _ _ _ _ _ _ _ _ _ _ _ _ _)); (fail_if_success (with_reducible show LCg.CompEnd _ _ _ _ _ _ _ _ _ _ _ _ _ _)); (fail_if_success (with_reducible show @ite _ _ _ _ _)); (fail_if_success (with_reducible show wpAny _ _ (pyIter _) _ _ _)); (fail_if_success (with_reducible show Q _ _)); (fail_if_success (with_reducible show UnrPost _ _ _ _ _ _ _ _ _)); (fail_if_success (with_reducible show wpAny _ _ (storeName _ (Str.ofString "missing") (Value.ref _)) _ _ _)); (fail_if_success (with_reducible show ∃ _, _)); (fail_if_success (with_reducible show wpAny _ _ (call (Value.ref 45) _ _) _ _ _)); walk1) | ((fail_if_success (with_reducible show wpAny _ _ (eval (Expr.ListComp _ _ _ _) _) _ _ _)); (fail_if_success (with_reducible show wpAny _ _ (exec (Stmt.Assign [_] (Expr.ListComp _ _ _ _) _) _) _ _ _)); (fail_if_success (with_reducible show LCt.CompSrcT _ _ _ _ _ _ _ _ _ _ _ _ _ _ _)); (fail_if_success (with_reducible show LCg.CompSrc _ _ _ _ _ _ _ _ _ _ _ _ _ _)); (fail_if_success (with_reducible show LCg.CompEnd _ _ _ _ _ _ _ _ _ _ _ _ _ _)); (fail_if_success (with_reducible show @ite _ _ _ _ _)); (fail_if_success (with_reducible show wpAny _ _ (pyIter _) _ _ _)); (fail_if_success (with_reducible show Q _ _)); (fail_if_success (with_reducible show UnrPost _ _ _ _ _ _ _ _ _)); (fail_if_success (with_reducible show wpAny _ _ (storeName _ (Str.ofString "missing") (Value.ref _)) _ _ _)); (fail_if_success (with_reducible show ∃ _, _)); (fail_if_success (with_reducible show wpAny _ _ (call (Value.ref 45) _ _) _ _ _)); dsimp only; walk1))

  rename Fr g₂ L' _ _ => kF9
  rename News g₂ L' _ _ => kN9
  have hall : ∀ p ∈ (ml, listOf (svals (sldf ys th).1) nm) :: (ul, listOf (svals (sldf ys th).2) nu) :: (od, oOd) :: (hp, oHp) :: (x, instObj 217 dx) :: (dx, dictOf [⟨hh, .str (Str.ofString "_headers") tk0, .ref hl⟩] nd) :: (hl, listOf vs n) :: (Dk, listOf (svals ys) nk) :: tail, p.1 ≠ L' + 1 := by
    have lt := P.lt
    simp only [List.forall_mem_cons]
    refine ⟨e2 _ (.tail _ (.tail _ (.tail _ (.tail _ (.tail _ (.tail _ (.tail _ (.head _)))))))), e3 _ (.tail _ (.tail _ (.tail _ (.tail _ (.tail _ (.tail _ (.tail _ (.head _)))))))), ?_, ?_, ?_, ?_, ?_, P.t6.1, ne_allNe P.t6.2⟩
    all_goals (refine neN ?_; (try dsimp only); omega)
  refine storeX_C (o := c1) kF9 (cb_drop kN9 ?sub) rfl (UpdF.head hall) hc (fun h3 c1' F3 N3 hc' => ?_) rfl rfl
  case sub =>
    simp only [List.forall_mem_cons]
    refine ⟨?_, ?_, ?_, ?_, ?_, ?_, ?_, ?_, ?_, ?_⟩
    all_goals first | (k_mem; done) | exact fun p hp => .tail _ (.tail _ (.tail _ (.tail _ (.tail _ (.tail _ (.tail _ (.tail _ (.tail _ (.tail _ (.tail _ (.tail _ hp)))))))))))
  clear kF9 kN9
  repeat' (first | (k_unfold; (try dsimp only)) | ((fail_if_success (with_reducible show wpAny _ _ (eval (Expr.ListComp _ _ _ _) _) _ _ _)); (fail_if_success (with_reducible show wpAny _ _ (exec (Stmt.Assign [_] (Expr.ListComp _ _ _ _) _) _) _ _ _)); (fail_if_success (with_reducible show LCt.CompSrcT _ _ _ _ _ _ _ _ _ _ _ _ _ _ _)); (fail_if_success (with_reducible show LCg.CompSrc _ _ _ _ _ _ _ _ _ _ _ _ _ _)); (fail_if_success (with_reducible show LCg.CompEnd _ _ _ _ _ _ _ _ _ _ _ _ _ _)); (fail_if_success (with_reducible show @ite _ _ _ _ _)); (fail_if_success (with_reducible show wpAny _ _ (pyIter _) _ _ _)); (fail_if_success (with_reducible show Q _ _)); (fail_if_success (with_reducible show UnrPost _ _ _ _ _ _ _ _ _)); (fail_if_success (with_reducible show wpAny _ _ (storeName _ (Str.ofString "missing") (Value.ref _)) _ _ _)); (fail_if_success (with_reducible show ∃ _, _)); (fail_if_success (with_reducible show wpAny _ _ (call (Value.ref 45) _ _) _ _ _)); walk1) | ((fail_if_success (with_reducible show wpAny _ _ (eval (Expr.ListComp _ _ _ _) _) _ _ _)); (fail_if_success (with_reducible show wpAny _ _ (exec (Stmt.Assign [_] (Expr.ListComp _ _ _ _) _) _) _ _ _)); (fail_if_success (with_reducible show LCt.CompSrcT _ _ _ _ _ _ _ _ _ _ _ _ _ _ _)); (fail_if_success (with_reducible show LCg.CompSrc _ _ _ _ _ _ _ _ _ _ _ _ _ _)); (fail_if_success (with_reducible show LCg.CompEnd _ _ _ _ _ _ _ _ _ _ _ _ _ _)); (fail_if_success (with_reducible show @ite _ _ _ _ _)); (fail_if_success (with_reducible show wpAny _ _ (pyIter _) _ _ _)); (fail_if_success (with_reducible show Q _ _)); (fail_if_success (with_reducible show UnrPost _ _ _ _ _ _ _ _ _)); (fail_if_success (with_reducible show wpAny _ _ (storeName _ (Str.ofString "missing") (Value.ref _)) _ _ _)); (fail_if_success (with_reducible show ∃ _, _)); (fail_if_success (with_reducible show wpAny _ _ (call (Value.ref 45) _ _) _ _ _)); dsimp only; walk1))

  rename Fr g₂ L' _ _ => kF9
  rename News g₂ L' _ _ => kN9
  refine k g₂ ml ul nm nu c1' _ _ Tn ⟨B2, X2, T2, hk, hdp, hun⟩ kF9 (cb_drop kN9 ?sub2) hc' ?ap
  case sub2 =>
    simp only [List.forall_mem_cons, srvL]
    refine ⟨?_, ?_, ?_, ?_, ?_, ?_, ?_, ?_, ?_, ?_⟩
    all_goals first | (k_mem; done) | exact fun p hp => .tail _ (.tail _ (.tail _ (.tail _ (.tail _ (.tail _ (.tail _ (.tail _ (.tail _ hp))))))))
  case ap =>
    simp only [List.forall_mem_cons, srvL] at e2 e3
    obtain ⟨-, -, a1, a2, a3, a4, a5, a6, -⟩ := e2
    obtain ⟨-, -, b1, b2, b3, b4, b5, b6, -⟩ := e3
    exact ⟨P.lt, ⟨a3, b3, P.t1⟩, ⟨a4, b4, P.t2⟩, ⟨a5, b5, P.t3⟩, ⟨a2, b2, P.t4⟩, ⟨a1, b1, P.t5⟩, ⟨a6, b6, P.t6⟩⟩
end
end
section
open PySem PySem.W PyProof.Rows PySem.Spec
theorem lines_T8 : True := by
  k_with_none
  (k_with "om" => (with_reducible first | assumption | exact Nat.ne_of_lt ‹_› | exact Nat.ne_of_gt ‹_› | exact Ne.symm ‹_› | exact Mine.o_a ‹_› (by decide) | exact Mine.o_b ‹_› (by decide) | exact Mine.o_c ‹_› | exact Mine.o_le (n := 100) ‹_› (by decide) | exact Mine.o_le ‹_› (by decide) | exact Mine.o_l ‹_› (by decide) | exact Mine.o_1 (n := 100) ‹_› (by decide) | exact Mine.o_2 (n := 100) ‹_› (by decide) | exact Mine.o_lt (n := 100) ‹_› (by decide) | exact Mine.o_lt ‹_› (by decide) | exact Mine.o_ll ‹_› (by decide) | exact Mine.o_s ‹_› | exact Mine.o_n _ | exact Mine.o_0 _ | exact Mine.o_i ‹_› (by decide) | exact Mine.o_m ‹_› (by decide) | exact Mine.o_j (n := 100) ‹_› ‹_› (by decide) | exact Mine.o_k ‹_› ‹_› (by decide) | exact Mine.o_e (n := 100) ‹_› ‹_› (by decide) | exact Nat.ne_of_lt (by k_extra "cj") | exact Nat.ne_of_gt (by k_extra "cj") | exact Ne.symm (by k_extra "cj") | k_extra "cj" | fail))
  (k_with "cj" => (first | exact And.left ‹_› | exact Mine.c_2 ‹_› | exact Mine.c_3 ‹_› | exact Mine.c_4 ‹_› | exact Mine.c_5 ‹_› | exact Mine.c_6 ‹_› | exact Mine.c_7 ‹_› | exact Mine.c_8 ‹_› | exact Mine.c_9 ‹_› | exact And.right ‹_› | exact Mine.d_3 ‹_› | exact Mine.d_4 ‹_› | exact Mine.d_5 ‹_› | exact Mine.d_6 ‹_› | exact Mine.d_7 ‹_› | exact Mine.d_8 ‹_› | exact Mine.d_9 ‹_› | fail))
  (k_with "fn ctx" => (((case k1 => k_asm); (case k2 => k_asm); (case k3 => k_asm); (case k4 => k_asm); (case k5 => k_asm); (case kK => first | exact rfl | assumption); (case kd => ktr_room); (case ku => ktr_units))))
  (k_with "call ref" => ((k_here; (with_reducible show wpAny _ _ (call (Value.ref 228) _ _) _ _ _); k_dflt (refine' (law_kind).use ?k1 ?k2 ?k3 ?k4 ?k5 ?kK ?kd ?ku ?kz ?_; (walk_at "fn ctx"); (case kz => exact fun _ h => nomatch h); intro zqr9 zqh9 zqtk9 zqF9 zqN9 zqk9 zqho9; obtain ⟨zqt9, zqhr9⟩ := zqho9; subst zqhr9; (try dsimp only); (try k_sweep)))))
  (k_with "call ref" => ((k_here; (with_reducible show wpAny _ _ (call (Value.ref 235) _ _) _ _ _); k_dflt (refine' (law_worth).use ?k1 ?k2 ?k3 ?k4 ?k5 ?kK ?kd ?ku ?kz ?_; (walk_at "fn ctx"); (case kz => exact fun _ h => nomatch h); intro zqr9 zqh9 zqtk9 zqF9 zqN9 zqk9 zqho9; obtain ⟨zqt9, zqhr9⟩ := zqho9; subst zqhr9; (try dsimp only); (try k_sweep)))))
  (k_with "call builtin:len" => ((k_here; (with_reducible show wpAny _ _ (call (Value.builtin "len") [Value.ref _]) _ _ _); k_dflt (first | (refine' len_led ?k1 ?k2 ?k3 ?_; (case k1 => k_asm); (case k2 => k_mem); (case k3 => first | with_reducible assumption | omega | (simp only [List.size_toArray, List.length_map]; omega)); k_whole) | (refine' len_base ?k1 ?k2 ?k3 ?_; (case k1 => k_asm); (case k2 => with_reducible assumption); (case k3 => first | with_reducible assumption | omega); k_whole)))))
  (k_with "m look" => (first | with_reducible assumption | (with_reducible exact lk_hit rfl) | (with_reducible refine' lk_ne ?hh ?hv; (case hh => decide); (case hv => walk_at "m look"))))
  (k_with "eval Name" => ((k_here; k_dflt (refine' nameX_L ?F ?v ?_ ?a ?b; (case b => rfl); (case a => rfl); (case F => k_asm); (case v => walk_at "m look"); k_whole))))
  trivial
def dblS : List ST → List ST
  | [] => []
  | v :: r => v :: v :: dblS r
theorem dblS_map (l : List ST) : dbl (l.map ST.v) = (dblS l).map ST.v := by
  induction l with
  | nil => rfl
  | cons v r ih => simp only [List.map_cons, dbl, dblS, ih]
theorem dblS_len (l : List ST) : (dblS l).length = 2 * l.length := by
  induction l with
  | nil => rfl
  | cons v r ih => simp only [dblS, List.length_cons, ih]; omega
theorem off1_mem {D : Addr} {l : Led} (h : LCg.Off1 D l) : ∀ p ∈ l, p.1 ≠ D := by
  induction l with
  | nil => intro p hp; cases hp
  | cons q l ih =>
    intro p hp
    rcases List.mem_cons.mp hp with rfl | hp
    · exact h.1
    · exact ih h.2 p hp
theorem lst_dbl (ys : List ST) : LCg.lst (dbl (svals ys).toList) = W.listOf (svals (dblS ys)) (dblS ys).length := by
  have e : (svals ys).toList = ys.map ST.v := by simp [svals]
  rw [e, dblS_map]
  unfold svals
  simp only [LCg.lst, W.listOf, List.length_map]
theorem cat_til (ys : List ST) (t : Tok) : (svals (dblS ys)).toList ++ #[Value.str (Str.ofString "~") t].toList = (svals (dblS ys ++ [(Str.ofString "~", t)])).toList := by
  simp [svals]
section
variable {w : World} {mean : ExcName → Option Value} {mg mb : Str → Option Value} {dp un : Nat} {gd : Option (List Code)} {cn : Str} {cs : Scope} {a : Addr} {ccd : Value} {cl : List (Str × Addr)} {outer : List Env} {base g' : Heap} {L L' : Addr} {s : Shared} {Q : Flow → Shared → Prop} {E : Value → Shared → Prop} {m : Str → Option Value}
variable {od hp x dx hl : Addr} {oOd oHp c1 : Obj} {hh : Int} {tk0 nd n : Nat} {tail : Led} {nl tl : Addr} {n1 n2 : Nat} {xs : List IT} {th : List ST} {vs : Array Value}
set_option maxRecDepth 100000 in
set_option maxHeartbeats 8000000 in
theorem srv_more (C : Ctx w mean mg mb dp un gd cn cs a ccd cl outer base g' L) (hb2 : g'.get? tl = some (lst (svals th) n2)) (hl2 : th.length ≤ 100) {Dm Du Dk : Addr} {nm nu nk : Nat} {ys ms us : List ST} (hly : ys.length ≤ 100) (P : Apart od hp x dx hl (L' + 1) ((Dm, listOf (svals ms) nm) :: (Du, listOf (svals us) nu) :: (Dk, listOf (svals ys) nk) :: tail))
    (F : Fr g' L' s.heap m) (N : News g' L' s.heap (srvL od hp x dx hl L' oOd oHp hh tk0 nd vs n c1 ((Dm, listOf (svals ms) nm) :: (Du, listOf (svals us) nu) :: (Dk, listOf (svals ys) nk) :: tail))) (hmk : m (Str.ofString "kinds") = some (.ref Dk)) (hmt : m (Str.ofString "there") = some (.ref tl))
    (k : ∀ D M1 M2 t1 t2 h tk, Fr g' L' h (fun y => if y = Str.ofString "more" then some (.ref D) else m y) → News g' L' h (srvL od hp x dx hl L' oOd oHp hh tk0 nd vs n c1 ((D, listOf #[.ref M1, .ref M2] 2) :: (M2, listOf (svals (dblS th ++ [(Str.ofString "~", t2)])) 0) :: (M1, listOf (svals (dblS ys ++ [(Str.ofString "~", t1)])) 0) :: (Dm, listOf (svals ms) nm) :: (Du, listOf (svals us) nu) :: (Dk, listOf (svals ys) nk) :: tail)) → Apart od hp x dx hl (L' + 1) ((D, listOf #[.ref M1, .ref M2] 2) :: (M2, listOf (svals (dblS th ++ [(Str.ofString "~", t2)])) 0) :: (M1, listOf (svals (dblS ys ++ [(Str.ofString "~", t1)])) 0) :: (Dm, listOf (svals ms) nm) :: (Du, listOf (svals us) nu) :: (Dk, listOf (svals ys) nk) :: tail) → Q .next { s with heap := h, toks := tk }) :
    wpAny (model PG w) ((ktrTop dp un gd cn cs L a ccd cl outer).deeper (srvEnv L')) (exec srvSt8 (srvEnv L')) Q E s := by
  obtain ⟨B', X', T', hk, hdp, hun⟩ := C
  unfold srvSt8 srvEnv
  dsimp only [st0, tl0]

  repeat' (first | (k_unfold; (try dsimp only)) | ((fail_if_success (with_reducible show wpAny _ _ (eval (Expr.ListComp _ _ _ _) _) _ _ _)); (fail_if_success (with_reducible show wpAny _ _ (exec (Stmt.Assign [_] (Expr.ListComp _ _ _ _) _) _) _ _ _)); (fail_if_success (with_reducible show LCt.CompSrcT _ _ _ _ _ _ _ _ _ _ _ _ _ _ _)); (fail_if_success (with_reducible show LCg.CompSrc _ _ _ _ _ _ _ _ _ _ _ _ _ _)); (fail_if_success (with_reducible show LCg.CompEnd _ _ _ _ _ _ _ _ _ _ _ _ _ _)); (fail_if_success (with_reducible show @ite _ _ _ _ _)); (fail_if_success (with_reducible show wpAny _ _ (pyIter _) _ _ _)); (fail_if_success (with_reducible show Q _ _)); (fail_if_success (with_reducible show UnrPost _ _ _ _ _ _ _ _ _)); (fail_if_success (with_reducible show wpAny _ _ (binaryOp Operator.Add (Value.ref _) (Value.ref _)) _ _ _)); (fail_if_success (with_reducible show ∃ _, _)); (fail_if_success (with_reducible show wpAny _ _ (call (Value.ref 45) _ _) _ _ _)); walk1) | ((fail_if_success (with_reducible show wpAny _ _ (eval (Expr.ListComp _ _ _ _) _) _ _ _)); (fail_if_success (with_reducible show wpAny _ _ (exec (Stmt.Assign [_] (Expr.ListComp _ _ _ _) _) _) _ _ _)); (fail_if_success (with_reducible show LCt.CompSrcT _ _ _ _ _ _ _ _ _ _ _ _ _ _ _)); (fail_if_success (with_reducible show LCg.CompSrc _ _ _ _ _ _ _ _ _ _ _ _ _ _)); (fail_if_success (with_reducible show LCg.CompEnd _ _ _ _ _ _ _ _ _ _ _ _ _ _)); (fail_if_success (with_reducible show @ite _ _ _ _ _)); (fail_if_success (with_reducible show wpAny _ _ (pyIter _) _ _ _)); (fail_if_success (with_reducible show Q _ _)); (fail_if_success (with_reducible show UnrPost _ _ _ _ _ _ _ _ _)); (fail_if_success (with_reducible show wpAny _ _ (binaryOp Operator.Add (Value.ref _) (Value.ref _)) _ _ _)); (fail_if_success (with_reducible show ∃ _, _)); (fail_if_success (with_reducible show wpAny _ _ (call (Value.ref 45) _ _) _ _ _)); dsimp only; walk1))

  rename Fr g' L' _ _ => kF9
  refine LCg.Assign_ListComp_U (F₀ := kF9) (by rfl) (by with_unfolding_all rfl) (by with_unfolding_all rfl) (by decide) (by rfl) (by decide) (by rfl) (by rfl) (by rfl) ?_
  repeat' (first | (k_unfold; (try dsimp only)) | ((fail_if_success (with_reducible show wpAny _ _ (eval (Expr.ListComp _ _ _ _) _) _ _ _)); (fail_if_success (with_reducible show wpAny _ _ (exec (Stmt.Assign [_] (Expr.ListComp _ _ _ _) _) _) _ _ _)); (fail_if_success (with_reducible show LCt.CompSrcT _ _ _ _ _ _ _ _ _ _ _ _ _ _ _)); (fail_if_success (with_reducible show LCg.CompSrc _ _ _ _ _ _ _ _ _ _ _ _ _ _)); (fail_if_success (with_reducible show LCg.CompEnd _ _ _ _ _ _ _ _ _ _ _ _ _ _)); (fail_if_success (with_reducible show @ite _ _ _ _ _)); (fail_if_success (with_reducible show wpAny _ _ (pyIter _) _ _ _)); (fail_if_success (with_reducible show Q _ _)); (fail_if_success (with_reducible show UnrPost _ _ _ _ _ _ _ _ _)); (fail_if_success (with_reducible show wpAny _ _ (binaryOp Operator.Add (Value.ref _) (Value.ref _)) _ _ _)); (fail_if_success (with_reducible show ∃ _, _)); (fail_if_success (with_reducible show wpAny _ _ (call (Value.ref 45) _ _) _ _ _)); walk1) | ((fail_if_success (with_reducible show wpAny _ _ (eval (Expr.ListComp _ _ _ _) _) _ _ _)); (fail_if_success (with_reducible show wpAny _ _ (exec (Stmt.Assign [_] (Expr.ListComp _ _ _ _) _) _) _ _ _)); (fail_if_success (with_reducible show LCt.CompSrcT _ _ _ _ _ _ _ _ _ _ _ _ _ _ _)); (fail_if_success (with_reducible show LCg.CompSrc _ _ _ _ _ _ _ _ _ _ _ _ _ _)); (fail_if_success (with_reducible show LCg.CompEnd _ _ _ _ _ _ _ _ _ _ _ _ _ _)); (fail_if_success (with_reducible show @ite _ _ _ _ _)); (fail_if_success (with_reducible show wpAny _ _ (pyIter _) _ _ _)); (fail_if_success (with_reducible show Q _ _)); (fail_if_success (with_reducible show UnrPost _ _ _ _ _ _ _ _ _)); (fail_if_success (with_reducible show wpAny _ _ (binaryOp Operator.Add (Value.ref _) (Value.ref _)) _ _ _)); (fail_if_success (with_reducible show ∃ _, _)); (fail_if_success (with_reducible show wpAny _ _ (call (Value.ref 45) _ _) _ _ _)); dsimp only; walk1))

  rename Fr g' L' _ _ => kF9
  rename News g' L' _ _ => kN9
  refine LCg.CompSrc.ledger (its := #[.ref Dk, .ref tl]) rfl kF9 kN9 (by k_mem) (by (show 2 ≤ sizeLine; rw [sizeLine_eq]; decide)) fun g => LCg.CompRest.succ (k := 1) ?_
  clear kF9 kN9
  intro v I oI C oC D m₂ h tk E' hP hNs hx F9 N9 off hne
  have hv : v = .ref Dk := by have := hP; simp at this; exact this.symm
  subst hv
  repeat' (first | (k_unfold; (try dsimp only)) | ((fail_if_success (with_reducible show wpAny _ _ (eval (Expr.ListComp _ _ _ _) _) _ _ _)); (fail_if_success (with_reducible show wpAny _ _ (exec (Stmt.Assign [_] (Expr.ListComp _ _ _ _) _) _) _ _ _)); (fail_if_success (with_reducible show LCt.CompSrcT _ _ _ _ _ _ _ _ _ _ _ _ _ _ _)); (fail_if_success (with_reducible show LCg.CompSrc _ _ _ _ _ _ _ _ _ _ _ _ _ _)); (fail_if_success (with_reducible show LCg.CompEnd _ _ _ _ _ _ _ _ _ _ _ _ _ _)); (fail_if_success (with_reducible show @ite _ _ _ _ _)); (fail_if_success (with_reducible show wpAny _ _ (pyIter _) _ _ _)); (fail_if_success (with_reducible show Q _ _)); (fail_if_success (with_reducible show UnrPost _ _ _ _ _ _ _ _ _)); (fail_if_success (with_reducible show wpAny _ _ (binaryOp Operator.Add (Value.ref _) (Value.ref _)) _ _ _)); (fail_if_success (with_reducible show ∃ _, _)); (fail_if_success (with_reducible show wpAny _ _ (call (Value.ref 45) _ _) _ _ _)); walk1) | ((fail_if_success (with_reducible show wpAny _ _ (eval (Expr.ListComp _ _ _ _) _) _ _ _)); (fail_if_success (with_reducible show wpAny _ _ (exec (Stmt.Assign [_] (Expr.ListComp _ _ _ _) _) _) _ _ _)); (fail_if_success (with_reducible show LCt.CompSrcT _ _ _ _ _ _ _ _ _ _ _ _ _ _ _)); (fail_if_success (with_reducible show LCg.CompSrc _ _ _ _ _ _ _ _ _ _ _ _ _ _)); (fail_if_success (with_reducible show LCg.CompEnd _ _ _ _ _ _ _ _ _ _ _ _ _ _)); (fail_if_success (with_reducible show @ite _ _ _ _ _)); (fail_if_success (with_reducible show wpAny _ _ (pyIter _) _ _ _)); (fail_if_success (with_reducible show Q _ _)); (fail_if_success (with_reducible show UnrPost _ _ _ _ _ _ _ _ _)); (fail_if_success (with_reducible show wpAny _ _ (binaryOp Operator.Add (Value.ref _) (Value.ref _)) _ _ _)); (fail_if_success (with_reducible show ∃ _, _)); (fail_if_success (with_reducible show wpAny _ _ (call (Value.ref 45) _ _) _ _ _)); dsimp only; walk1))

  refine comp_dbl (by rfl) (by with_unfolding_all rfl) (by decide) (by rfl) (by decide) (by rfl) (by rfl) (by decide) (by decide) ?_
  repeat' (first | (k_unfold; (try dsimp only)) | ((fail_if_success (with_reducible show wpAny _ _ (eval (Expr.ListComp _ _ _ _) _) _ _ _)); (fail_if_success (with_reducible show wpAny _ _ (exec (Stmt.Assign [_] (Expr.ListComp _ _ _ _) _) _) _ _ _)); (fail_if_success (with_reducible show LCt.CompSrcT _ _ _ _ _ _ _ _ _ _ _ _ _ _ _)); (fail_if_success (with_reducible show LCg.CompSrc _ _ _ _ _ _ _ _ _ _ _ _ _ _)); (fail_if_success (with_reducible show LCg.CompEnd _ _ _ _ _ _ _ _ _ _ _ _ _ _)); (fail_if_success (with_reducible show @ite _ _ _ _ _)); (fail_if_success (with_reducible show wpAny _ _ (pyIter _) _ _ _)); (fail_if_success (with_reducible show Q _ _)); (fail_if_success (with_reducible show UnrPost _ _ _ _ _ _ _ _ _)); (fail_if_success (with_reducible show wpAny _ _ (binaryOp Operator.Add (Value.ref _) (Value.ref _)) _ _ _)); (fail_if_success (with_reducible show ∃ _, _)); (fail_if_success (with_reducible show wpAny _ _ (call (Value.ref 45) _ _) _ _ _)); walk1) | ((fail_if_success (with_reducible show wpAny _ _ (eval (Expr.ListComp _ _ _ _) _) _ _ _)); (fail_if_success (with_reducible show wpAny _ _ (exec (Stmt.Assign [_] (Expr.ListComp _ _ _ _) _) _) _ _ _)); (fail_if_success (with_reducible show LCt.CompSrcT _ _ _ _ _ _ _ _ _ _ _ _ _ _ _)); (fail_if_success (with_reducible show LCg.CompSrc _ _ _ _ _ _ _ _ _ _ _ _ _ _)); (fail_if_success (with_reducible show LCg.CompEnd _ _ _ _ _ _ _ _ _ _ _ _ _ _)); (fail_if_success (with_reducible show @ite _ _ _ _ _)); (fail_if_success (with_reducible show wpAny _ _ (pyIter _) _ _ _)); (fail_if_success (with_reducible show Q _ _)); (fail_if_success (with_reducible show UnrPost _ _ _ _ _ _ _ _ _)); (fail_if_success (with_reducible show wpAny _ _ (binaryOp Operator.Add (Value.ref _) (Value.ref _)) _ _ _)); (fail_if_success (with_reducible show ∃ _, _)); (fail_if_success (with_reducible show wpAny _ _ (call (Value.ref 45) _ _) _ _ _)); dsimp only; walk1))

  rename Fr g' L' _ _ => kF9
  rename News g' L' _ _ => kN9
  refine ⟨Dk, svals ys, rfl, PySem.IsL.isList (News.get kN9 (by k_mem)), by rw [svals_size]; omega, fun M1 h9 tk8 hf9 hk9 hM9 => ?_⟩
  rw [lst_dbl] at hM9
  have N10 := news_cons (news_keep kN9 hk9) hM9 kF9 hf9 fun _ e => e
  have F10 := fr_keep kF9 hk9
  clear kF9 kN9
  repeat' (first | (k_unfold; (try dsimp only)) | ((fail_if_success (with_reducible show wpAny _ _ (eval (Expr.ListComp _ _ _ _) _) _ _ _)); (fail_if_success (with_reducible show wpAny _ _ (exec (Stmt.Assign [_] (Expr.ListComp _ _ _ _) _) _) _ _ _)); (fail_if_success (with_reducible show LCt.CompSrcT _ _ _ _ _ _ _ _ _ _ _ _ _ _ _)); (fail_if_success (with_reducible show LCg.CompSrc _ _ _ _ _ _ _ _ _ _ _ _ _ _)); (fail_if_success (with_reducible show LCg.CompEnd _ _ _ _ _ _ _ _ _ _ _ _ _ _)); (fail_if_success (with_reducible show @ite _ _ _ _ _)); (fail_if_success (with_reducible show wpAny _ _ (pyIter _) _ _ _)); (fail_if_success (with_reducible show Q _ _)); (fail_if_success (with_reducible show UnrPost _ _ _ _ _ _ _ _ _)); (fail_if_success (with_reducible show wpAny _ _ (binaryOp Operator.Add (Value.ref _) (Value.ref _)) _ _ _)); (fail_if_success (with_reducible show ∃ _, _)); (fail_if_success (with_reducible show wpAny _ _ (call (Value.ref 45) _ _) _ _ _)); walk1) | ((fail_if_success (with_reducible show wpAny _ _ (eval (Expr.ListComp _ _ _ _) _) _ _ _)); (fail_if_success (with_reducible show wpAny _ _ (exec (Stmt.Assign [_] (Expr.ListComp _ _ _ _) _) _) _ _ _)); (fail_if_success (with_reducible show LCt.CompSrcT _ _ _ _ _ _ _ _ _ _ _ _ _ _ _)); (fail_if_success (with_reducible show LCg.CompSrc _ _ _ _ _ _ _ _ _ _ _ _ _ _)); (fail_if_success (with_reducible show LCg.CompEnd _ _ _ _ _ _ _ _ _ _ _ _ _ _)); (fail_if_success (with_reducible show @ite _ _ _ _ _)); (fail_if_success (with_reducible show wpAny _ _ (pyIter _) _ _ _)); (fail_if_success (with_reducible show Q _ _)); (fail_if_success (with_reducible show UnrPost _ _ _ _ _ _ _ _ _)); (fail_if_success (with_reducible show wpAny _ _ (binaryOp Operator.Add (Value.ref _) (Value.ref _)) _ _ _)); (fail_if_success (with_reducible show ∃ _, _)); (fail_if_success (with_reducible show wpAny _ _ (call (Value.ref 45) _ _) _ _ _)); dsimp only; walk1))

  rename Fr g' L' _ _ => kF9
  rename News g' L' _ _ => kN9
  refine kmk_add_lit kF9 kN9 (by is_list) (by is_list) (cat_til _ _) (fun M2 h10 F11 N11 l11 => ?_) ?hz
  case hz => (rw [sizeLine_eq]; simp only [svals, List.length_map, dblS_len, List.length_cons, List.length_nil]; omega)
  clear kF9 kN9
  rw [Array.toArray_toList] at N11
  have lI := l11 _ (.tail _ (.tail _ (.head _)))
  have lC := l11 _ (.tail _ (.tail _ (.tail _ (.head _))))
  have lD := l11 _ (.tail _ (.tail _ (.tail _ (.tail _ (.head _)))))
  have aM1 : ∀ p ∈ srvL od hp x dx hl L' oOd oHp hh tk0 nd vs n c1 ((Dm, listOf (svals ms) nm) :: (Du, listOf (svals us) nu) :: (Dk, listOf (svals ys) nk) :: tail), M2 ≠ p.1 := fun p hp => Nat.ne_of_gt (l11 p (.tail _ (.tail _ (.tail _ (.tail _ (.tail _ (.tail _ hp)))))))
  refine LCg.CompEnd.intro F11 N11 (_ :: _) (List.forall_mem_cons.mpr ⟨by k_mem, List.forall_mem_cons.mpr ⟨by k_mem, List.forall_mem_cons.mpr ⟨by k_mem, List.forall_mem_cons.mpr ⟨.head _, fun p hp => .tail _ (.tail _ (.tail _ (.tail _ (.tail _ (.tail _ hp)))))⟩⟩⟩⟩) ⟨⟨Nat.ne_of_gt lI, Nat.ne_of_gt lC, Nat.ne_of_gt lD⟩, off⟩ (.inr ⟨_, (by k_mem), rfl, _, rfl⟩) ?_
  clear F11 N11 l11 lI lC lD hf9 hk9 hM9 off hne hP hx hNs
  refine LCg.CompRest.succ (k := 0) ?_
  intro v I oI C oC D m₂ h tk E' hP hNs hx F9 N9 off hne
  have hv : v = .ref tl := by have := hP; simp at this; exact this.symm
  subst hv
  repeat' (first | (k_unfold; (try dsimp only)) | ((fail_if_success (with_reducible show wpAny _ _ (eval (Expr.ListComp _ _ _ _) _) _ _ _)); (fail_if_success (with_reducible show wpAny _ _ (exec (Stmt.Assign [_] (Expr.ListComp _ _ _ _) _) _) _ _ _)); (fail_if_success (with_reducible show LCt.CompSrcT _ _ _ _ _ _ _ _ _ _ _ _ _ _ _)); (fail_if_success (with_reducible show LCg.CompSrc _ _ _ _ _ _ _ _ _ _ _ _ _ _)); (fail_if_success (with_reducible show LCg.CompEnd _ _ _ _ _ _ _ _ _ _ _ _ _ _)); (fail_if_success (with_reducible show @ite _ _ _ _ _)); (fail_if_success (with_reducible show wpAny _ _ (pyIter _) _ _ _)); (fail_if_success (with_reducible show Q _ _)); (fail_if_success (with_reducible show UnrPost _ _ _ _ _ _ _ _ _)); (fail_if_success (with_reducible show wpAny _ _ (binaryOp Operator.Add (Value.ref _) (Value.ref _)) _ _ _)); (fail_if_success (with_reducible show ∃ _, _)); (fail_if_success (with_reducible show wpAny _ _ (call (Value.ref 45) _ _) _ _ _)); walk1) | ((fail_if_success (with_reducible show wpAny _ _ (eval (Expr.ListComp _ _ _ _) _) _ _ _)); (fail_if_success (with_reducible show wpAny _ _ (exec (Stmt.Assign [_] (Expr.ListComp _ _ _ _) _) _) _ _ _)); (fail_if_success (with_reducible show LCt.CompSrcT _ _ _ _ _ _ _ _ _ _ _ _ _ _ _)); (fail_if_success (with_reducible show LCg.CompSrc _ _ _ _ _ _ _ _ _ _ _ _ _ _)); (fail_if_success (with_reducible show LCg.CompEnd _ _ _ _ _ _ _ _ _ _ _ _ _ _)); (fail_if_success (with_reducible show @ite _ _ _ _ _)); (fail_if_success (with_reducible show wpAny _ _ (pyIter _) _ _ _)); (fail_if_success (with_reducible show Q _ _)); (fail_if_success (with_reducible show UnrPost _ _ _ _ _ _ _ _ _)); (fail_if_success (with_reducible show wpAny _ _ (binaryOp Operator.Add (Value.ref _) (Value.ref _)) _ _ _)); (fail_if_success (with_reducible show ∃ _, _)); (fail_if_success (with_reducible show wpAny _ _ (call (Value.ref 45) _ _) _ _ _)); dsimp only; walk1))

  refine comp_dbl (by rfl) (by with_unfolding_all rfl) (by decide) (by rfl) (by decide) (by rfl) (by rfl) (by decide) (by decide) ?_
  repeat' (first | (k_unfold; (try dsimp only)) | ((fail_if_success (with_reducible show wpAny _ _ (eval (Expr.ListComp _ _ _ _) _) _ _ _)); (fail_if_success (with_reducible show wpAny _ _ (exec (Stmt.Assign [_] (Expr.ListComp _ _ _ _) _) _) _ _ _)); (fail_if_success (with_reducible show LCt.CompSrcT _ _ _ _ _ _ _ _ _ _ _ _ _ _ _)); (fail_if_success (with_reducible show LCg.CompSrc _ _ _ _ _ _ _ _ _ _ _ _ _ _)); (fail_if_success (with_reducible show LCg.CompEnd _ _ _ _ _ _ _ _ _ _ _ _ _ _)); (fail_if_success (with_reducible show @ite _ _ _ _ _)); (fail_if_success (with_reducible show wpAny _ _ (pyIter _) _ _ _)); (fail_if_success (with_reducible show Q _ _)); (fail_if_success (with_reducible show UnrPost _ _ _ _ _ _ _ _ _)); (fail_if_success (with_reducible show wpAny _ _ (binaryOp Operator.Add (Value.ref _) (Value.ref _)) _ _ _)); (fail_if_success (with_reducible show ∃ _, _)); (fail_if_success (with_reducible show wpAny _ _ (call (Value.ref 45) _ _) _ _ _)); walk1) | ((fail_if_success (with_reducible show wpAny _ _ (eval (Expr.ListComp _ _ _ _) _) _ _ _)); (fail_if_success (with_reducible show wpAny _ _ (exec (Stmt.Assign [_] (Expr.ListComp _ _ _ _) _) _) _ _ _)); (fail_if_success (with_reducible show LCt.CompSrcT _ _ _ _ _ _ _ _ _ _ _ _ _ _ _)); (fail_if_success (with_reducible show LCg.CompSrc _ _ _ _ _ _ _ _ _ _ _ _ _ _)); (fail_if_success (with_reducible show LCg.CompEnd _ _ _ _ _ _ _ _ _ _ _ _ _ _)); (fail_if_success (with_reducible show @ite _ _ _ _ _)); (fail_if_success (with_reducible show wpAny _ _ (pyIter _) _ _ _)); (fail_if_success (with_reducible show Q _ _)); (fail_if_success (with_reducible show UnrPost _ _ _ _ _ _ _ _ _)); (fail_if_success (with_reducible show wpAny _ _ (binaryOp Operator.Add (Value.ref _) (Value.ref _)) _ _ _)); (fail_if_success (with_reducible show ∃ _, _)); (fail_if_success (with_reducible show wpAny _ _ (call (Value.ref 45) _ _) _ _ _)); dsimp only; walk1))

  rename Fr g' L' _ _ => kF9
  rename News g' L' _ _ => kN9
  refine ⟨tl, svals th, rfl, PySem.IsL.isList (Fr.keep kF9 _ _ hb2), by rw [svals_size]; omega, fun M1 h9 tk9 hf9 hk9 hM9 => ?_⟩
  rw [lst_dbl] at hM9
  have N10 := news_cons (news_keep kN9 hk9) hM9 kF9 hf9 fun _ e => e
  have F10 := fr_keep kF9 hk9
  clear kF9 kN9
  repeat' (first | (k_unfold; (try dsimp only)) | ((fail_if_success (with_reducible show wpAny _ _ (eval (Expr.ListComp _ _ _ _) _) _ _ _)); (fail_if_success (with_reducible show wpAny _ _ (exec (Stmt.Assign [_] (Expr.ListComp _ _ _ _) _) _) _ _ _)); (fail_if_success (with_reducible show LCt.CompSrcT _ _ _ _ _ _ _ _ _ _ _ _ _ _ _)); (fail_if_success (with_reducible show LCg.CompSrc _ _ _ _ _ _ _ _ _ _ _ _ _ _)); (fail_if_success (with_reducible show LCg.CompEnd _ _ _ _ _ _ _ _ _ _ _ _ _ _)); (fail_if_success (with_reducible show @ite _ _ _ _ _)); (fail_if_success (with_reducible show wpAny _ _ (pyIter _) _ _ _)); (fail_if_success (with_reducible show Q _ _)); (fail_if_success (with_reducible show UnrPost _ _ _ _ _ _ _ _ _)); (fail_if_success (with_reducible show wpAny _ _ (binaryOp Operator.Add (Value.ref _) (Value.ref _)) _ _ _)); (fail_if_success (with_reducible show ∃ _, _)); (fail_if_success (with_reducible show wpAny _ _ (call (Value.ref 45) _ _) _ _ _)); walk1) | ((fail_if_success (with_reducible show wpAny _ _ (eval (Expr.ListComp _ _ _ _) _) _ _ _)); (fail_if_success (with_reducible show wpAny _ _ (exec (Stmt.Assign [_] (Expr.ListComp _ _ _ _) _) _) _ _ _)); (fail_if_success (with_reducible show LCt.CompSrcT _ _ _ _ _ _ _ _ _ _ _ _ _ _ _)); (fail_if_success (with_reducible show LCg.CompSrc _ _ _ _ _ _ _ _ _ _ _ _ _ _)); (fail_if_success (with_reducible show LCg.CompEnd _ _ _ _ _ _ _ _ _ _ _ _ _ _)); (fail_if_success (with_reducible show @ite _ _ _ _ _)); (fail_if_success (with_reducible show wpAny _ _ (pyIter _) _ _ _)); (fail_if_success (with_reducible show Q _ _)); (fail_if_success (with_reducible show UnrPost _ _ _ _ _ _ _ _ _)); (fail_if_success (with_reducible show wpAny _ _ (binaryOp Operator.Add (Value.ref _) (Value.ref _)) _ _ _)); (fail_if_success (with_reducible show ∃ _, _)); (fail_if_success (with_reducible show wpAny _ _ (call (Value.ref 45) _ _) _ _ _)); dsimp only; walk1))

  rename Fr g' L' _ _ => kF9
  rename News g' L' _ _ => kN9
  refine kmk_add_lit kF9 kN9 (by is_list) (by is_list) (cat_til _ _) (fun M2 h10 F11 N11 l11 => ?_) ?hz
  case hz => (rw [sizeLine_eq]; simp only [svals, List.length_map, dblS_len, List.length_cons, List.length_nil]; omega)
  clear kF9 kN9
  rw [Array.toArray_toList] at N11
  have lI := l11 _ (.tail _ (.tail _ (.head _)))
  have lC := l11 _ (.tail _ (.tail _ (.tail _ (.head _))))
  have lD := l11 _ (.tail _ (.tail _ (.tail _ (.tail _ (.head _)))))
  have aM2 : ∀ p ∈ srvL od hp x dx hl L' oOd oHp hh tk0 nd vs n c1 ((Dm, listOf (svals ms) nm) :: (Du, listOf (svals us) nu) :: (Dk, listOf (svals ys) nk) :: tail), M2 ≠ p.1 := fun p hp => Nat.ne_of_gt (l11 p (.tail _ (.tail _ (.tail _ (.tail _ (.tail _ (.tail _ (.tail _ hp))))))))
  refine LCg.CompEnd.intro F11 N11 (_ :: _) (List.forall_mem_cons.mpr ⟨by k_mem, List.forall_mem_cons.mpr ⟨by k_mem, List.forall_mem_cons.mpr ⟨by k_mem, List.forall_mem_cons.mpr ⟨.head _, fun p hp => .tail _ (.tail _ (.tail _ (.tail _ (.tail _ (.tail _ hp)))))⟩⟩⟩⟩) ⟨⟨Nat.ne_of_gt lI, Nat.ne_of_gt lC, Nat.ne_of_gt lD⟩, off⟩ (.inr ⟨_, (by k_mem), rfl, _, rfl⟩) ?_
  clear F11 N11 l11 lI lC lD hf9 hk9 hM9 off hne hP hx hNs
  refine LCg.CompRest.zero ?_
  intro D h tk F9 N9 off9
  simp only [srvL, List.forall_mem_cons] at aM1 aM2
  obtain ⟨a1, a2, a3, a4, a5, a6, -⟩ := aM1
  obtain ⟨b1, b2, b3, b4, b5, b6, -⟩ := aM2
  have o9 := off1_mem off9
  simp only [srvL, List.forall_mem_cons] at o9
  obtain ⟨-, -, -, d1, d2, d3, d4, d5, d6, -⟩ := o9
  refine k D _ _ tk8 tk9 _ _ F9 (cb_drop N9 ?sub2) ⟨P.lt, ⟨d3.symm, b3, a3, P.t1⟩, ⟨d4.symm, b4, a4, P.t2⟩, ⟨d5.symm, b5, a5, P.t3⟩, ⟨d2.symm, b2, a2, P.t4⟩, ⟨d1.symm, b1, a1, P.t5⟩, ⟨d6.symm, b6, a6, P.t6⟩⟩
  case sub2 =>
    simp only [List.forall_mem_cons, srvL]
    refine ⟨?_, ?_, ?_, ?_, ?_, ?_, ?_, ?_, ?_, ?_, ?_, ?_, ?_⟩
    case refine_7 => exact .head _
    all_goals first | (k_mem; done) | exact fun p hp => .tail _ (.tail _ (.tail _ (.tail _ (.tail _ (.tail _ (.tail _ (.tail _ (.tail _ (.tail _ (.tail _ (.tail _ (.tail _ hp))))))))))))
end
end
section
open PySem PySem.W PySem.Calls PyProof.Rows PySem.Spec PyProof.V
set_option maxRecDepth 100000
theorem kdT_lt {c : Nat} (h : c < 8) : kdT c = kd c := if_pos h
theorem kindS_kdT (k : Int) : ∃ c, c < 8 ∧ k.fmod 8 = (c : Nat) ∧ kindS k = kdT c := by
  obtain ⟨c, h1, h2⟩ := kindS_fin k
  exact ⟨c, c.2, h1, by rw [h2, kdT_lt c.2]⟩
theorem kindS_nat {c : Nat} (h : c < 8) : kindS (c : Int) = kdT c := by
  obtain ⟨d, h1, h2, h3⟩ := kindS_kdT (c : Int)
  have : ((c : Int).fmod 8) = (c : Int) := by
    rw [Int.fmod_eq_emod_of_nonneg _ (by decide)]
    omega
  rw [this] at h2
  have : c = d := by omega
  rw [h3, this]
theorem cps_all : ∀ a b : Fin 8, ltCps (kdT a).cps.toList (kdT b).cps.toList = decide (a.1 < b.1) := by decide +kernel
theorem ranks_of : ∀ {l : List Str}, (∀ y ∈ l, ∃ c, c < 8 ∧ y = kdT c) → ∃ cs : List Nat, l = cs.map kdT ∧ ∀ c ∈ cs, c < 8
  | [], _ => ⟨[], rfl, fun _ h => nomatch h⟩
  | y :: l, h => by
    obtain ⟨c, hc, e⟩ := h y (.head _)
    obtain ⟨cs, e2, h2⟩ := ranks_of (l := l) fun z hz => h z (.tail _ hz)
    exact ⟨c :: cs, by rw [List.map_cons, ← e, ← e2], fun d hd => by rcases List.mem_cons.mp hd with rfl | hd; exact hc; exact h2 d hd⟩
theorem rising_rank : ∀ {cs : List Nat} {c : Nat}, c < 8 → (∀ d ∈ cs, d < 8) → risingS (kdT c) (cs.map kdT) = true → (c :: cs).Nodup → (c :: cs).Pairwise (· < ·)
  | [], c, _, _, _, _ => List.pairwise_singleton _ _
  | d :: cs, c, hc, hd, hr, hn => by
    simp only [List.map_cons, risingS, Bool.and_eq_true, Bool.not_eq_true'] at hr
    have d8 := hd d (.head _)
    have k := cps_all ⟨d, d8⟩ ⟨c, hc⟩
    rw [show ltCps (kdT d).cps.toList (kdT c).cps.toList = decide (d < c) from k] at hr
    have hle : ¬ d < c := by simpa using hr.1
    have hn1 := List.nodup_cons.mp hn
    have hne : c ≠ d := fun e => hn1.1 (e ▸ .head _)
    have ih := rising_rank d8 (fun e he => hd e (.tail _ he)) hr.2 hn1.2
    refine List.pairwise_cons.mpr ⟨fun e he => ?_, ih⟩
    rcases List.mem_cons.mp he with rfl | he
    · omega
    · have := (List.pairwise_cons.mp ih).1 e he; omega
theorem sorted_rank {cs : List Nat} (h8 : ∀ c ∈ cs, c < 8) (hs : sortedS (cs.map kdT) = true) (hn : (cs.map kdT).Nodup) : cs.Pairwise (· < ·) := by
  cases cs with
  | nil => exact List.Pairwise.nil
  | cons c cs =>
    refine rising_rank (h8 c (.head _)) (fun d hd => h8 d (.tail _ hd)) hs ?_
    have hn' : List.Pairwise (fun a b => kdT a ≠ kdT b) (c :: cs) := List.pairwise_map.mp hn
    exact hn'.imp fun h e => h (by rw [e])
theorem strict_ext : ∀ {l1 l2 : List Nat}, l1.Pairwise (· < ·) → l2.Pairwise (· < ·) → (∀ c, c ∈ l1 ↔ c ∈ l2) → l1 = l2
  | [], [], _, _, _ => rfl
  | [], b :: l2, _, _, h => absurd ((h b).mpr (.head _)) (fun q => nomatch q)
  | a :: l1, [], _, _, h => absurd ((h a).mp (.head _)) (fun q => nomatch q)
  | a :: l1, b :: l2, h1, h2, h => by
    have p1 := List.pairwise_cons.mp h1
    have p2 := List.pairwise_cons.mp h2
    have e : a = b := by
      rcases List.mem_cons.mp ((h a).mp (.head _)) with e | ha
      · exact e
      · rcases List.mem_cons.mp ((h b).mpr (.head _)) with e | hb
        · exact e.symm
        · have := p1.1 b hb; have := p2.1 a ha; omega
    subst e
    refine congrArg (a :: ·) (strict_ext p1.2 p2.2 fun c => ?_)
    constructor
    · intro hc
      have := p1.1 c hc
      rcases List.mem_cons.mp ((h c).mp (.tail _ hc)) with e | hc'
      · omega
      · exact hc'
    · intro hc
      have := p2.1 c hc
      rcases List.mem_cons.mp ((h c).mpr (.tail _ hc)) with e | hc'
      · omega
      · exact hc'
def kindsN (ns : List Int) : List Nat := (List.range 8).filter fun k => wished ns k
theorem kindsN_lt (ns : List Int) : ∀ c ∈ kindsN ns, c < 8 := fun c hc => List.mem_range.mp (List.mem_filter.mp hc).1
theorem kindsN_strict (ns : List Int) : (kindsN ns).Pairwise (· < ·) := List.Pairwise.filter _ List.pairwise_lt_range
theorem kindsL_N (ns : List Int) : kindsL ns = (kindsN ns).map kdT := by
  unfold kindsL kindsN
  refine List.map_congr_left fun k hk => ?_
  exact kindS_nat (List.mem_range.mp (List.mem_filter.mp hk).1)
theorem kinds_eq {ns : List Int} {ys : List Str} (hs : sortedS ys = true) (hn : ys.Nodup) (hm : ∀ y, y ∈ ys ↔ y ∈ ns.map kindS) : ys = (kindsN ns).map kdT := by
  obtain ⟨cs, rfl, h8⟩ := ranks_of (l := ys) fun y hy => by
    obtain ⟨x, _, rfl⟩ := List.mem_map.mp ((hm y).mp hy)
    obtain ⟨c, hc, _, e⟩ := kindS_kdT x
    exact ⟨c, hc, e⟩
  have hst := sorted_rank h8 hs hn
  refine congrArg (List.map kdT) (strict_ext hst (kindsN_strict ns) fun c => ?_)
  have key : ∀ c, c < 8 → (kdT c ∈ ns.map kindS ↔ c ∈ kindsN ns) := by
    intro c hc
    unfold kindsN wished
    rw [List.mem_filter, List.mem_range, List.any_eq_true, List.mem_map]
    constructor
    · rintro ⟨x, hx, e⟩
      obtain ⟨d, hd, h1, h2⟩ := kindS_kdT x
      rw [h2] at e
      have := (kdT_inj (a := d) (b := c) (by omega) (by omega)).mp e
      subst this
      exact ⟨hc, x, hx, by rw [h1]; simp⟩
    · rintro ⟨_, x, hx, e⟩
      obtain ⟨d, hd, h1, h2⟩ := kindS_kdT x
      refine ⟨x, hx, ?_⟩
      have e' : x.fmod 8 = (c : Int) := by simpa using e
      have : d = c := by omega
      rw [h2, this]
  constructor
  · intro hc
    exact (key c (h8 c hc)).mp ((hm _).mp (List.mem_map_of_mem hc))
  · intro hc
    have c8 := kindsN_lt ns c hc
    have := (hm _).mpr ((key c c8).mpr hc)
    obtain ⟨d, hd, e⟩ := List.mem_map.mp this
    have := (kdT_inj (a := d) (b := c) (by have := h8 d hd; omega) (by omega)).mp e
    exact this ▸ hd
theorem mem_kdT {c : Nat} {ds : List Nat} (hc : c < 8) (hd : ∀ d ∈ ds, d < 8) : decide (kdT c ∈ ds.map kdT) = decide (c ∈ ds) := by
  rw [decide_eq_decide, List.mem_map]
  constructor
  · rintro ⟨d, h, e⟩
    have := (kdT_inj (a := d) (b := c) (by have := hd d h; omega) (by omega)).mp e
    exact this ▸ h
  · exact fun h => ⟨c, h, rfl⟩
theorem lack_rank {cs ds : List Nat} (hc : ∀ c ∈ cs, c < 8) (hd : ∀ d ∈ ds, d < 8) : (cs.filter fun c => !decide (c ∈ ds)).map kdT = lackS (cs.map kdT) (ds.map kdT) := by
  unfold lackS
  rw [List.filter_map]
  refine congrArg (List.map kdT) (List.filter_congr fun c h => ?_)
  simp only [Function.comp, mem_kdT (hc c h) hd]
theorem rk_of {xs : List ST} {cs : List Nat} (e : xs.map (·.1) = cs.map kdT) (h : ∀ c ∈ cs, c < 8) : Rk xs cs := ⟨e, fun c hc => by have := h c hc; omega⟩
theorem rk_dbl {xs : List ST} {cs : List Nat} {t : Tok} (h : Rk xs cs) : Rk (dblS xs ++ [(Str.ofString "~", t)]) (dblN cs ++ [8]) := by
  constructor
  · have key : ∀ (xs : List ST) (cs : List Nat), xs.map (·.1) = cs.map kdT → (dblS xs).map (·.1) = (dblN cs).map kdT := by
      intro xs
      induction xs with
      | nil => intro cs e; cases cs with
        | nil => rfl
        | cons _ _ => exact nomatch e
      | cons x xs ih => intro cs e; cases cs with
        | nil => exact nomatch e
        | cons c cs =>
          simp only [List.map_cons, List.cons.injEq] at e
          simp only [dblS, dblN, List.map_cons, e.1, ih cs e.2]
    rw [List.map_append, List.map_append, key xs cs h.1]
    rfl
  · intro c hc
    rcases List.mem_append.mp hc with hc | hc
    · exact h.2 c (dblN_mem hc)
    · have := List.mem_singleton.mp hc; omega
theorem sld_texts {ys th : List ST} {cs ds : List Nat} (hy : ys.map (·.1) = cs.map kdT) (ht : th.map (·.1) = ds.map kdT) (c8 : ∀ c ∈ cs, c < 8) (d8 : ∀ d ∈ ds, d < 8) (sc : cs.Pairwise (· < ·)) (sd : ds.Pairwise (· < ·)) :
    (sldf ys th).1.map (·.1) = lackS (cs.map kdT) (ds.map kdT) ∧ (sldf ys th).2.map (·.1) = lackS (ds.map kdT) (cs.map kdT) := by
  obtain ⟨h1, h2⟩ := sld_rank _ ys th cs ds (Nat.le_refl _) (rk_of hy c8) (rk_of ht d8)
  rw [sldN_strict _ cs ds (Nat.le_refl _) sc sd] at h1 h2
  exact ⟨h1.1.trans (lack_rank c8 d8), h2.1.trans (lack_rank d8 c8)⟩
theorem sld_texts2 {ys th : List ST} {cs ds : List Nat} {t1 t2 : Tok} (hy : ys.map (·.1) = cs.map kdT) (ht : th.map (·.1) = ds.map kdT) (c8 : ∀ c ∈ cs, c < 8) (d8 : ∀ d ∈ ds, d < 8) (sc : cs.Pairwise (· < ·)) (sd : ds.Pairwise (· < ·)) :
    (sldf (dblS ys ++ [(Str.ofString "~", t1)]) (dblS th ++ [(Str.ofString "~", t2)])).1.map (·.1) = lackS (cs.map kdT) (ds.map kdT) ∧ (sldf (dblS ys ++ [(Str.ofString "~", t1)]) (dblS th ++ [(Str.ofString "~", t2)])).2.map (·.1) = lackS (ds.map kdT) (cs.map kdT) := by
  obtain ⟨h1, h2⟩ := sld_rank _ _ _ _ _ (Nat.le_refl _) (rk_dbl (t := t1) (rk_of hy c8)) (rk_dbl (t := t2) (rk_of ht d8))
  rw [sldN_dbl _ cs ds (Nat.le_refl _) sc sd c8 d8, sldN_strict _ cs ds (Nat.le_refl _) sc sd] at h1 h2
  exact ⟨h1.1.trans (lack_rank c8 d8), h2.1.trans (lack_rank d8 c8)⟩
end
section
open PySem PySem.W PySem.Calls PyProof.Rows PySem.Spec PyProof.V
set_option maxRecDepth 100000
section
variable {prog : Program} {w : World} {A : Around} {E : Value → Shared → Prop} {s : Shared} {Q : Value → Shared → Prop}
theorem list_ok {xs : List Str} (h : ∀ x ∈ xs, okS x) : (PyData.list (xs.map PyData.str)).canLay0 = true ∧ (PyData.list (xs.map PyData.str)).depth ≤ 2 := by
  have l := lay_strs h
  constructor
  · simp only [PyData.canLay0]; exact l.1
  · simp only [PyData.depth]; have := l.2; omega
theorem eqAt_strs {A : Around} {a b : Addr} {xs ys : List ST} (ha : s.heap.IsList a (svals xs)) (hb : s.heap.IsList b (svals ys)) (e : xs.map (·.1) = ys.map (·.1)) (ho : ∀ x ∈ xs.map (·.1), okS x) (hu : A.units + 64 < cLine) : SeqAt.EqAt A s (.ref a) (.ref b) true := by
  have ra := reads_strs ha
  have rb := reads_strs hb
  have e1 : (xs.map fun x => PyData.str x.1) = (xs.map (·.1)).map PyData.str := by rw [List.map_map]; rfl
  have e2 : (ys.map fun x => PyData.str x.1) = (xs.map (·.1)).map PyData.str := by rw [e, List.map_map]; rfl
  rw [e1] at ra
  rw [e2] at rb
  have l := list_ok ho
  have k := SeqAt.eqAt_reads _ _ A s _ _ _ _ ra rb l.1 l.1 (by have := l.2; omega)
  rw [SeqAt.eqv_refl _ l.1] at k
  exact k
theorem ne_tups {T1 T2 a1 a2 b1 b2 : Addr} {xs1 xs2 ys1 ys2 : List ST} (h1 : s.heap.get? T1 = some (tup2 (.ref a1) (.ref b1))) (h2 : s.heap.get? T2 = some (tup2 (.ref a2) (.ref b2)))
    (l1 : s.heap.IsList a1 (svals xs1)) (l2 : s.heap.IsList a2 (svals xs2)) (l3 : s.heap.IsList b1 (svals ys1)) (l4 : s.heap.IsList b2 (svals ys2))
    (e1 : xs1.map (·.1) = xs2.map (·.1)) (e2 : ys1.map (·.1) = ys2.map (·.1)) (o1 : ∀ x ∈ xs1.map (·.1), okS x) (o2 : ∀ x ∈ ys1.map (·.1), okS x) (hu : A.units + 128 < cLine) (h : Q (.bool false) s) :
    wpAny (model prog w) A (compareOp .NotEq (.ref T1) (.ref T2)) Q E s := by
  have t1 : s.heap.IsTuple T1 #[.ref a1, .ref b1] := ⟨_, h1, rfl, _, rfl⟩
  have t2 : s.heap.IsTuple T2 #[.ref a2, .ref b2] := ⟨_, h2, rfl, _, rfl⟩
  have key : SeqAt.RcNeAt A s (.ref T1) (.ref T2) (!((List.range (min 2 2)).all (fun _ => true) && 2 == 2)) := SeqAt.RcNeAt.tuples (e := fun _ => true) t1 t2 (by omega) fun j j1 j2 => by
    match j with
    | 0 => exact eqAt_strs l1 l2 e1 o1 (by show A.units + 1 + 64 < cLine; omega)
    | 1 => exact eqAt_strs l3 l4 e2 o2 (by show A.units + 1 + 64 < cLine; omega)
    | k + 2 => exact absurd j1 (by simp)
  exact key prog w E Q h
end
end
section
open PySem PySem.W PyProof.Rows PySem.Spec
theorem lines_T9 : True := by
  k_with_none
  (k_with "om" => (with_reducible first | assumption | exact Nat.ne_of_lt ‹_› | exact Nat.ne_of_gt ‹_› | exact Ne.symm ‹_› | exact Mine.o_a ‹_› (by decide) | exact Mine.o_b ‹_› (by decide) | exact Mine.o_c ‹_› | exact Mine.o_le (n := 100) ‹_› (by decide) | exact Mine.o_le ‹_› (by decide) | exact Mine.o_l ‹_› (by decide) | exact Mine.o_1 (n := 100) ‹_› (by decide) | exact Mine.o_2 (n := 100) ‹_› (by decide) | exact Mine.o_lt (n := 100) ‹_› (by decide) | exact Mine.o_lt ‹_› (by decide) | exact Mine.o_ll ‹_› (by decide) | exact Mine.o_s ‹_› | exact Mine.o_n _ | exact Mine.o_0 _ | exact Mine.o_i ‹_› (by decide) | exact Mine.o_m ‹_› (by decide) | exact Mine.o_j (n := 100) ‹_› ‹_› (by decide) | exact Mine.o_k ‹_› ‹_› (by decide) | exact Mine.o_e (n := 100) ‹_› ‹_› (by decide) | exact Nat.ne_of_lt (by k_extra "cj") | exact Nat.ne_of_gt (by k_extra "cj") | exact Ne.symm (by k_extra "cj") | k_extra "cj" | fail))
  (k_with "cj" => (first | exact And.left ‹_› | exact Mine.c_2 ‹_› | exact Mine.c_3 ‹_› | exact Mine.c_4 ‹_› | exact Mine.c_5 ‹_› | exact Mine.c_6 ‹_› | exact Mine.c_7 ‹_› | exact Mine.c_8 ‹_› | exact Mine.c_9 ‹_› | exact And.right ‹_› | exact Mine.d_3 ‹_› | exact Mine.d_4 ‹_› | exact Mine.d_5 ‹_› | exact Mine.d_6 ‹_› | exact Mine.d_7 ‹_› | exact Mine.d_8 ‹_› | exact Mine.d_9 ‹_› | fail))
  (k_with "fn ctx" => (((case k1 => k_asm); (case k2 => k_asm); (case k3 => k_asm); (case k4 => k_asm); (case k5 => k_asm); (case kK => first | exact rfl | assumption); (case kd => ktr_room); (case ku => ktr_units))))
  (k_with "call ref" => ((k_here; (with_reducible show wpAny _ _ (call (Value.ref 228) _ _) _ _ _); k_dflt (refine' (law_kind).use ?k1 ?k2 ?k3 ?k4 ?k5 ?kK ?kd ?ku ?kz ?_; (walk_at "fn ctx"); (case kz => exact fun _ h => nomatch h); intro zqr9 zqh9 zqtk9 zqF9 zqN9 zqk9 zqho9; obtain ⟨zqt9, zqhr9⟩ := zqho9; subst zqhr9; (try dsimp only); (try k_sweep)))))
  (k_with "call ref" => ((k_here; (with_reducible show wpAny _ _ (call (Value.ref 235) _ _) _ _ _); k_dflt (refine' (law_worth).use ?k1 ?k2 ?k3 ?k4 ?k5 ?kK ?kd ?ku ?kz ?_; (walk_at "fn ctx"); (case kz => exact fun _ h => nomatch h); intro zqr9 zqh9 zqtk9 zqF9 zqN9 zqk9 zqho9; obtain ⟨zqt9, zqhr9⟩ := zqho9; subst zqhr9; (try dsimp only); (try k_sweep)))))
  (k_with "call builtin:len" => ((k_here; (with_reducible show wpAny _ _ (call (Value.builtin "len") [Value.ref _]) _ _ _); k_dflt (first | (refine' len_led ?k1 ?k2 ?k3 ?_; (case k1 => k_asm); (case k2 => k_mem); (case k3 => first | with_reducible assumption | omega | (simp only [List.size_toArray, List.length_map]; omega)); k_whole) | (refine' len_base ?k1 ?k2 ?k3 ?_; (case k1 => k_asm); (case k2 => with_reducible assumption); (case k3 => first | with_reducible assumption | omega); k_whole)))))
  (k_with "m look" => (first | with_reducible assumption | (with_reducible exact lk_hit rfl) | (with_reducible refine' lk_ne ?hh ?hv; (case hh => decide); (case hv => walk_at "m look"))))
  (k_with "eval Name" => ((k_here; k_dflt (refine' nameX_L ?F ?v ?_ ?a ?b; (case b => rfl); (case a => rfl); (case F => k_asm); (case v => walk_at "m look"); k_whole))))
  (k_with "subscriptTail Name Constant ref int" => ((k_here; (with_reducible show wpAny _ _ (subscriptTail _ _ (Value.ref _) (Value.int 0 _)) _ _ _); k_dflt (refine' item_led ?k1 ?k2 ?k3 ?k4 ?k5 ?_ ?k7; (case k7 => with_unfolding_all rfl); (case k1 => k_asm); (case k2 => k_mem); (case k5 => exact rfl); (case k3 => decide); (case k4 => decide); k_whole))))
  (k_with "subscriptTail Name Constant ref int" => ((k_here; (with_reducible show wpAny _ _ (subscriptTail _ _ (Value.ref _) (Value.int 1 _)) _ _ _); k_dflt (refine' item_led ?k1 ?k2 ?k3 ?k4 ?k5 ?_ ?k7; (case k7 => with_unfolding_all rfl); (case k1 => k_asm); (case k2 => k_mem); (case k5 => exact rfl); (case k3 => decide); (case k4 => decide); k_whole))))
  trivial
section
variable {w : World} {mean : ExcName → Option Value} {mg mb : Str → Option Value} {dp un : Nat} {gd : Option (List Code)} {cn : Str} {cs : Scope} {a : Addr} {ccd : Value} {cl : List (Str × Addr)} {outer : List Env} {base g' : Heap} {L L' : Addr} {s : Shared} {Q : Flow → Shared → Prop} {E : Value → Shared → Prop} {m : Str → Option Value}
variable {od hp x dx hl : Addr} {oOd oHp c1 : Obj} {hh : Int} {tk0 nd n : Nat} {tail : Led} {nl tl : Addr} {n1 n2 : Nat} {xs : List IT} {th : List ST} {vs : Array Value}
set_option maxRecDepth 100000 in
set_option maxHeartbeats 8000000 in
theorem srv_same (C : Ctx w mean mg mb dp un gd cn cs a ccd cl outer base g' L) (XB : (hd.heap_39 w.params).In base) (TB : Top hd.view_39 LS mean mg mb base) {De M1 M2 Dm Du : Addr} {ne n3 n4 nm nu : Nat} {ys1 ys2 ms us : List ST} (hl1 : ys1.length ≤ 1000) (hl2 : ys2.length ≤ 1000)
    (e1 : (sldf ys1 ys2).1.map (·.1) = ms.map (·.1)) (e2 : (sldf ys1 ys2).2.map (·.1) = us.map (·.1)) (o1 : ∀ x ∈ ms.map (·.1), okS x) (o2 : ∀ x ∈ us.map (·.1), okS x)
    (F : Fr g' L' s.heap m) (N : News g' L' s.heap (srvL od hp x dx hl L' oOd oHp hh tk0 nd vs n c1 ((De, listOf #[.ref M1, .ref M2] ne) :: (M2, listOf (svals ys2) n4) :: (M1, listOf (svals ys1) n3) :: (Dm, listOf (svals ms) nm) :: (Du, listOf (svals us) nu) :: tail))) (hc : c1.data = .cell (some (.ref Dm))) (hmm : m (Str.ofString "more") = some (.ref De)) (hmu : m (Str.ofString "unwished") = some (.ref Du))
    (k : ∀ g₂ h tk, KtsTurn ((envX cn cs L a ccd cl :: outer).filterMap (·.frame)) g' g₂ → Ctx w mean mg mb dp un gd cn cs a ccd cl outer base g₂ L → Fr g₂ L' h m → News g₂ L' h (srvL od hp x dx hl L' oOd oHp hh tk0 nd vs n c1 ((Dm, listOf (svals ms) nm) :: (Du, listOf (svals us) nu) :: tail)) → Q .next { s with heap := h, toks := tk }) :
    wpAny (model PG w) ((ktrTop dp un gd cn cs L a ccd cl outer).deeper (srvEnv L')) (exec srvSt9 (srvEnv L')) Q E s := by
  obtain ⟨B', X', T', hk, hdp, hun⟩ := C
  unfold srvSt9 srvEnv
  dsimp only [st0, tl0]

  repeat' (first | (k_unfold; (try dsimp only)) | ((fail_if_success (with_reducible show wpAny _ _ (eval (Expr.ListComp _ _ _ _) _) _ _ _)); (fail_if_success (with_reducible show wpAny _ _ (exec (Stmt.Assign [_] (Expr.ListComp _ _ _ _) _) _) _ _ _)); (fail_if_success (with_reducible show LCt.CompSrcT _ _ _ _ _ _ _ _ _ _ _ _ _ _ _)); (fail_if_success (with_reducible show LCg.CompSrc _ _ _ _ _ _ _ _ _ _ _ _ _ _)); (fail_if_success (with_reducible show LCg.CompEnd _ _ _ _ _ _ _ _ _ _ _ _ _ _)); (fail_if_success (with_reducible show @ite _ _ _ _ _)); (fail_if_success (with_reducible show wpAny _ _ (pyIter _) _ _ _)); (fail_if_success (with_reducible show Q _ _)); (fail_if_success (with_reducible show UnrPost _ _ _ _ _ _ _ _ _)); (fail_if_success (with_reducible show ∃ _, _)); (fail_if_success (with_reducible show wpAny _ _ (call (Value.ref 45) _ _) _ _ _)); (fail_if_success (with_reducible show wpAny _ _ (compareOp CmpOp.NotEq (Value.ref _) (Value.ref _)) _ _ _)); walk1) | ((fail_if_success (with_reducible show wpAny _ _ (eval (Expr.ListComp _ _ _ _) _) _ _ _)); (fail_if_success (with_reducible show wpAny _ _ (exec (Stmt.Assign [_] (Expr.ListComp _ _ _ _) _) _) _ _ _)); (fail_if_success (with_reducible show LCt.CompSrcT _ _ _ _ _ _ _ _ _ _ _ _ _ _ _)); (fail_if_success (with_reducible show LCg.CompSrc _ _ _ _ _ _ _ _ _ _ _ _ _ _)); (fail_if_success (with_reducible show LCg.CompEnd _ _ _ _ _ _ _ _ _ _ _ _ _ _)); (fail_if_success (with_reducible show @ite _ _ _ _ _)); (fail_if_success (with_reducible show wpAny _ _ (pyIter _) _ _ _)); (fail_if_success (with_reducible show Q _ _)); (fail_if_success (with_reducible show UnrPost _ _ _ _ _ _ _ _ _)); (fail_if_success (with_reducible show ∃ _, _)); (fail_if_success (with_reducible show wpAny _ _ (call (Value.ref 45) _ _) _ _ _)); (fail_if_success (with_reducible show wpAny _ _ (compareOp CmpOp.NotEq (Value.ref _) (Value.ref _)) _ _ _)); dsimp only; walk1))

  rename Fr g' L' _ _ => kF9
  rename News g' L' _ _ => kN9
  have hof := news_off B' kN9
  refine (sld (rest := [(_, lst (svals ys1) n3), (_, lst (svals ys2) n4)]) (.head _) (.tail _ (.head _)) (by omega) (by omega)).use (base := base) B' kF9 XB ?kr TB ?kK ?kd ?ku ?_
  case kr =>
    (simp only [List.forall_mem_cons])
    have m1 : (M1, listOf (svals ys1) n3) ∈ srvL od hp x dx hl L' oOd oHp hh tk0 nd vs n c1 ((De, listOf #[.ref M1, .ref M2] ne) :: (M2, listOf (svals ys2) n4) :: (M1, listOf (svals ys1) n3) :: (Dm, listOf (svals ms) nm) :: (Du, listOf (svals us) nu) :: tail) := by k_mem
    have m2 : (M2, listOf (svals ys2) n4) ∈ srvL od hp x dx hl L' oOd oHp hh tk0 nd vs n c1 ((De, listOf #[.ref M1, .ref M2] ne) :: (M2, listOf (svals ys2) n4) :: (M1, listOf (svals ys1) n3) :: (Dm, listOf (svals ms) nm) :: (Du, listOf (svals us) nu) :: tail) := by k_mem
    exact ⟨⟨(kN9 _ m1).1, hof _ m1⟩, ⟨(kN9 _ m2).1, hof _ m2⟩, List.forall_mem_nil _⟩
  case kK => exact rfl
  case kd => ktr_room
  case ku => ktr_units
  rintro r h2 tk2 U ⟨T9, ml, ul, nm', nu', rfl, hT, hml, hul, f1, f2, f3, l1, l2⟩
  obtain ⟨g₂, Tn, F2, B2⟩ := rebase B' kF9 U
  have N2 := news_cons (news_cons (news_cons (news_rebase B' kN9 U Tn) hul kF9 f3 Tn.none_) hml kF9 f2 Tn.none_) hT kF9 f1 Tn.none_
  have X2 : (hd.heap_39 w.params).In g₂ := XB.keeps B2.stays
  have T2 := TB.keeps B2.stays
  clear kF9 kN9 hof
  clear B' X' T'
  (try dsimp only)
  repeat' (first | (k_unfold; (try dsimp only)) | ((fail_if_success (with_reducible show wpAny _ _ (eval (Expr.ListComp _ _ _ _) _) _ _ _)); (fail_if_success (with_reducible show wpAny _ _ (exec (Stmt.Assign [_] (Expr.ListComp _ _ _ _) _) _) _ _ _)); (fail_if_success (with_reducible show LCt.CompSrcT _ _ _ _ _ _ _ _ _ _ _ _ _ _ _)); (fail_if_success (with_reducible show LCg.CompSrc _ _ _ _ _ _ _ _ _ _ _ _ _ _)); (fail_if_success (with_reducible show LCg.CompEnd _ _ _ _ _ _ _ _ _ _ _ _ _ _)); (fail_if_success (with_reducible show @ite _ _ _ _ _)); (fail_if_success (with_reducible show wpAny _ _ (pyIter _) _ _ _)); (fail_if_success (with_reducible show Q _ _)); (fail_if_success (with_reducible show UnrPost _ _ _ _ _ _ _ _ _)); (fail_if_success (with_reducible show ∃ _, _)); (fail_if_success (with_reducible show wpAny _ _ (call (Value.ref 45) _ _) _ _ _)); (fail_if_success (with_reducible show wpAny _ _ (compareOp CmpOp.NotEq (Value.ref _) (Value.ref _)) _ _ _)); walk1) | ((fail_if_success (with_reducible show wpAny _ _ (eval (Expr.ListComp _ _ _ _) _) _ _ _)); (fail_if_success (with_reducible show wpAny _ _ (exec (Stmt.Assign [_] (Expr.ListComp _ _ _ _) _) _) _ _ _)); (fail_if_success (with_reducible show LCt.CompSrcT _ _ _ _ _ _ _ _ _ _ _ _ _ _ _)); (fail_if_success (with_reducible show LCg.CompSrc _ _ _ _ _ _ _ _ _ _ _ _ _ _)); (fail_if_success (with_reducible show LCg.CompEnd _ _ _ _ _ _ _ _ _ _ _ _ _ _)); (fail_if_success (with_reducible show @ite _ _ _ _ _)); (fail_if_success (with_reducible show wpAny _ _ (pyIter _) _ _ _)); (fail_if_success (with_reducible show Q _ _)); (fail_if_success (with_reducible show UnrPost _ _ _ _ _ _ _ _ _)); (fail_if_success (with_reducible show ∃ _, _)); (fail_if_success (with_reducible show wpAny _ _ (call (Value.ref 45) _ _) _ _ _)); (fail_if_success (with_reducible show wpAny _ _ (compareOp CmpOp.NotEq (Value.ref _) (Value.ref _)) _ _ _)); dsimp only; walk1))

  rename Fr g₂ L' _ _ => kF9
  rename News g₂ L' _ _ => kN9
  refine ne_tups (kN9 _ (.tail _ (.head _))).1 (kN9 _ (.head _)).1 (PySem.IsL.isList (News.get kN9 (by k_mem))) (PySem.IsL.isList (n := nm) (News.get kN9 (by k_mem))) (PySem.IsL.isList (News.get kN9 (by k_mem))) (PySem.IsL.isList (n := nu) (News.get kN9 (by k_mem))) e1 e2 (by rw [e1]; exact o1) (by rw [e2]; exact o2) (by ktr_units) ?_
  repeat' (first | (k_unfold; (try dsimp only)) | ((fail_if_success (with_reducible show wpAny _ _ (eval (Expr.ListComp _ _ _ _) _) _ _ _)); (fail_if_success (with_reducible show wpAny _ _ (exec (Stmt.Assign [_] (Expr.ListComp _ _ _ _) _) _) _ _ _)); (fail_if_success (with_reducible show LCt.CompSrcT _ _ _ _ _ _ _ _ _ _ _ _ _ _ _)); (fail_if_success (with_reducible show LCg.CompSrc _ _ _ _ _ _ _ _ _ _ _ _ _ _)); (fail_if_success (with_reducible show LCg.CompEnd _ _ _ _ _ _ _ _ _ _ _ _ _ _)); (fail_if_success (with_reducible show @ite _ _ _ _ _)); (fail_if_success (with_reducible show wpAny _ _ (pyIter _) _ _ _)); (fail_if_success (with_reducible show Q _ _)); (fail_if_success (with_reducible show UnrPost _ _ _ _ _ _ _ _ _)); (fail_if_success (with_reducible show ∃ _, _)); (fail_if_success (with_reducible show wpAny _ _ (call (Value.ref 45) _ _) _ _ _)); (fail_if_success (with_reducible show wpAny _ _ (compareOp CmpOp.NotEq (Value.ref _) (Value.ref _)) _ _ _)); walk1) | ((fail_if_success (with_reducible show wpAny _ _ (eval (Expr.ListComp _ _ _ _) _) _ _ _)); (fail_if_success (with_reducible show wpAny _ _ (exec (Stmt.Assign [_] (Expr.ListComp _ _ _ _) _) _) _ _ _)); (fail_if_success (with_reducible show LCt.CompSrcT _ _ _ _ _ _ _ _ _ _ _ _ _ _ _)); (fail_if_success (with_reducible show LCg.CompSrc _ _ _ _ _ _ _ _ _ _ _ _ _ _)); (fail_if_success (with_reducible show LCg.CompEnd _ _ _ _ _ _ _ _ _ _ _ _ _ _)); (fail_if_success (with_reducible show @ite _ _ _ _ _)); (fail_if_success (with_reducible show wpAny _ _ (pyIter _) _ _ _)); (fail_if_success (with_reducible show Q _ _)); (fail_if_success (with_reducible show UnrPost _ _ _ _ _ _ _ _ _)); (fail_if_success (with_reducible show ∃ _, _)); (fail_if_success (with_reducible show wpAny _ _ (call (Value.ref 45) _ _) _ _ _)); (fail_if_success (with_reducible show wpAny _ _ (compareOp CmpOp.NotEq (Value.ref _) (Value.ref _)) _ _ _)); dsimp only; walk1))

  refine iteF (by decide) ?_
  repeat' (first | (k_unfold; (try dsimp only)) | ((fail_if_success (with_reducible show wpAny _ _ (eval (Expr.ListComp _ _ _ _) _) _ _ _)); (fail_if_success (with_reducible show wpAny _ _ (exec (Stmt.Assign [_] (Expr.ListComp _ _ _ _) _) _) _ _ _)); (fail_if_success (with_reducible show LCt.CompSrcT _ _ _ _ _ _ _ _ _ _ _ _ _ _ _)); (fail_if_success (with_reducible show LCg.CompSrc _ _ _ _ _ _ _ _ _ _ _ _ _ _)); (fail_if_success (with_reducible show LCg.CompEnd _ _ _ _ _ _ _ _ _ _ _ _ _ _)); (fail_if_success (with_reducible show @ite _ _ _ _ _)); (fail_if_success (with_reducible show wpAny _ _ (pyIter _) _ _ _)); (fail_if_success (with_reducible show Q _ _)); (fail_if_success (with_reducible show UnrPost _ _ _ _ _ _ _ _ _)); (fail_if_success (with_reducible show ∃ _, _)); (fail_if_success (with_reducible show wpAny _ _ (call (Value.ref 45) _ _) _ _ _)); (fail_if_success (with_reducible show wpAny _ _ (compareOp CmpOp.NotEq (Value.ref _) (Value.ref _)) _ _ _)); walk1) | ((fail_if_success (with_reducible show wpAny _ _ (eval (Expr.ListComp _ _ _ _) _) _ _ _)); (fail_if_success (with_reducible show wpAny _ _ (exec (Stmt.Assign [_] (Expr.ListComp _ _ _ _) _) _) _ _ _)); (fail_if_success (with_reducible show LCt.CompSrcT _ _ _ _ _ _ _ _ _ _ _ _ _ _ _)); (fail_if_success (with_reducible show LCg.CompSrc _ _ _ _ _ _ _ _ _ _ _ _ _ _)); (fail_if_success (with_reducible show LCg.CompEnd _ _ _ _ _ _ _ _ _ _ _ _ _ _)); (fail_if_success (with_reducible show @ite _ _ _ _ _)); (fail_if_success (with_reducible show wpAny _ _ (pyIter _) _ _ _)); (fail_if_success (with_reducible show Q _ _)); (fail_if_success (with_reducible show UnrPost _ _ _ _ _ _ _ _ _)); (fail_if_success (with_reducible show ∃ _, _)); (fail_if_success (with_reducible show wpAny _ _ (call (Value.ref 45) _ _) _ _ _)); (fail_if_success (with_reducible show wpAny _ _ (compareOp CmpOp.NotEq (Value.ref _) (Value.ref _)) _ _ _)); dsimp only; walk1))

  refine k g₂ _ _ Tn ⟨B2, X2, T2, hk, hdp, hun⟩ kF9 (cb_drop kN9 ?sub2)
  case sub2 =>
    simp only [List.forall_mem_cons, srvL]
    refine ⟨?_, ?_, ?_, ?_, ?_, ?_, ?_, ?_, ?_⟩
    all_goals first | (k_mem; done) | exact fun p hp => .tail _ (.tail _ (.tail _ (.tail _ (.tail _ (.tail _ (.tail _ (.tail _ (.tail _ (.tail _ (.tail _ (.tail _ (.tail _ (.tail _ (.tail _ hp))))))))))))))
end
end
section
open PySem PySem.W PySem.Calls PyProof.Rows PySem.Spec PyProof.V
set_option maxRecDepth 100000
theorem distA_of {ws : List W} (h : (ws.map (·.k)).Nodup) : DistA ws := by
  intro i j y z hij hi hj e
  have hi' : (ws.map (·.k))[i]? = some y.k := by rw [List.getElem?_map, hi]; rfl
  have hj' : (ws.map (·.k))[j]? = some y.k := by rw [List.getElem?_map, hj, e]; rfl
  have li := (List.getElem?_eq_some_iff.mp hi').1
  exact hij ((List.getElem?_inj li h).mp (hi'.trans hj'.symm))
theorem lt_of_le {x y : W} (h : leW x y) (hk : x.k ≠ y.k) : ltW x y = true := by
  rw [ltW_iff]; rw [leW_iff] at h; omega
theorem pop_step {ps ws os : List W} {z : W} (H : IsHp (ws ++ [z])) (hp : List.Perm (ps ++ (ws ++ [z])) os) (hn : (os.map (·.k)).Nodup) (hs : ps.Pairwise (fun a b => ltW a b = true)) (hl : ∀ p ∈ ps, ∀ y ∈ ws ++ [z], ltW p y = true) :
    IsHp (hpopL ws z) ∧ List.Perm ((ps ++ [hpopV ws z]) ++ hpopL ws z) os ∧ (ps ++ [hpopV ws z]).Pairwise (fun a b => ltW a b = true) ∧ ∀ p ∈ ps ++ [hpopV ws z], ∀ y ∈ hpopL ws z, ltW p y = true := by
  obtain ⟨h1, h2, h3⟩ := hpop_spec H
  have hperm : List.Perm ((ps ++ [hpopV ws z]) ++ hpopL ws z) os := by
    rw [List.append_assoc]
    exact (List.Perm.append_left ps h2).trans hp
  have hnd : (((ps ++ [hpopV ws z]) ++ hpopL ws z).map (·.k)).Nodup := (hperm.map _).nodup_iff.mpr hn
  refine ⟨h1, hperm, ?_, ?_⟩
  · rw [List.pairwise_append]
    refine ⟨hs, List.pairwise_singleton _ _, fun a ha b hb => ?_⟩
    obtain rfl := List.mem_singleton.mp hb
    exact hl a ha _ (h2.mem_iff.mp (.head _))
  · intro p hpm y hy
    rcases List.mem_append.mp hpm with h | h
    · exact hl p h y (h2.mem_iff.mp (.tail _ hy))
    · obtain rfl := List.mem_singleton.mp h
      refine lt_of_le (h3 y hy) ?_
      rw [List.map_append, List.map_append] at hnd
      have := (List.nodup_append.mp hnd).2.2
      exact this _ (List.mem_append_right _ (.head _)) _ (List.mem_map_of_mem hy)
section
variable {prog : Program} {w : World} {A : Around} {E : Value → Shared → Prop} {s : Shared} {Q : Value → Shared → Prop}
theorem ne_nil {a b : Addr} {its : Array Value} (ha : s.heap.IsList a its) (hb : s.heap.IsList b #[]) (hu : A.units < cLine) (h : Q (.bool (its.size != 0)) s) :
    wpAny (model prog w) A (compareOp .NotEq (.ref a) (.ref b)) Q E s := by
  cases hz : its.size with
  | zero =>
    have key : SeqAt.RcNeAt A s (.ref a) (.ref b) (!(List.range its.size).all fun _ => true) := SeqAt.RcNeAt.lists (e := fun _ => true) ha hb (by rw [hz]; rfl) hu fun j j1 j2 => by rw [hz] at j1; omega
    rw [hz] at key h
    exact key prog w E Q h
  | succ n =>
    have key : SeqAt.RcNeAt A s (.ref a) (.ref b) true := SeqAt.RcNeAt.lists_lengths ha hb (by rw [hz]; rfl) hu
    rw [hz] at h
    exact key prog w E Q (by simpa using h)
end
end
section
open PySem PySem.W PyProof.Rows PySem.Spec
theorem lines_T10 : True := by
  k_with_none
  (k_with "om" => (with_reducible first | assumption | exact Nat.ne_of_lt ‹_› | exact Nat.ne_of_gt ‹_› | exact Ne.symm ‹_› | exact Mine.o_a ‹_› (by decide) | exact Mine.o_b ‹_› (by decide) | exact Mine.o_c ‹_› | exact Mine.o_le (n := 100) ‹_› (by decide) | exact Mine.o_le ‹_› (by decide) | exact Mine.o_l ‹_› (by decide) | exact Mine.o_1 (n := 100) ‹_› (by decide) | exact Mine.o_2 (n := 100) ‹_› (by decide) | exact Mine.o_lt (n := 100) ‹_› (by decide) | exact Mine.o_lt ‹_› (by decide) | exact Mine.o_ll ‹_› (by decide) | exact Mine.o_s ‹_› | exact Mine.o_n _ | exact Mine.o_0 _ | exact Mine.o_i ‹_› (by decide) | exact Mine.o_m ‹_› (by decide) | exact Mine.o_j (n := 100) ‹_› ‹_› (by decide) | exact Mine.o_k ‹_› ‹_› (by decide) | exact Mine.o_e (n := 100) ‹_› ‹_› (by decide) | exact Nat.ne_of_lt (by k_extra "cj") | exact Nat.ne_of_gt (by k_extra "cj") | exact Ne.symm (by k_extra "cj") | k_extra "cj" | fail))
  (k_with "cj" => (first | exact And.left ‹_› | exact Mine.c_2 ‹_› | exact Mine.c_3 ‹_› | exact Mine.c_4 ‹_› | exact Mine.c_5 ‹_› | exact Mine.c_6 ‹_› | exact Mine.c_7 ‹_› | exact Mine.c_8 ‹_› | exact Mine.c_9 ‹_› | exact And.right ‹_› | exact Mine.d_3 ‹_› | exact Mine.d_4 ‹_› | exact Mine.d_5 ‹_› | exact Mine.d_6 ‹_› | exact Mine.d_7 ‹_› | exact Mine.d_8 ‹_› | exact Mine.d_9 ‹_› | fail))
  (k_with "fn ctx" => (((case k1 => k_asm); (case k2 => k_asm); (case k3 => k_asm); (case k4 => k_asm); (case k5 => k_asm); (case kK => first | exact rfl | assumption); (case kd => ktr_room); (case ku => ktr_units))))
  (k_with "call ref" => ((k_here; (with_reducible show wpAny _ _ (call (Value.ref 228) _ _) _ _ _); k_dflt (refine' (law_kind).use ?k1 ?k2 ?k3 ?k4 ?k5 ?kK ?kd ?ku ?kz ?_; (walk_at "fn ctx"); (case kz => exact fun _ h => nomatch h); intro zqr9 zqh9 zqtk9 zqF9 zqN9 zqk9 zqho9; obtain ⟨zqt9, zqhr9⟩ := zqho9; subst zqhr9; (try dsimp only); (try k_sweep)))))
  (k_with "call ref" => ((k_here; (with_reducible show wpAny _ _ (call (Value.ref 235) _ _) _ _ _); k_dflt (refine' (law_worth).use ?k1 ?k2 ?k3 ?k4 ?k5 ?kK ?kd ?ku ?kz ?_; (walk_at "fn ctx"); (case kz => exact fun _ h => nomatch h); intro zqr9 zqh9 zqtk9 zqF9 zqN9 zqk9 zqho9; obtain ⟨zqt9, zqhr9⟩ := zqho9; subst zqhr9; (try dsimp only); (try k_sweep)))))
  (k_with "call builtin:len" => ((k_here; (with_reducible show wpAny _ _ (call (Value.builtin "len") [Value.ref _]) _ _ _); k_dflt (first | (refine' len_led ?k1 ?k2 ?k3 ?_; (case k1 => k_asm); (case k2 => k_mem); (case k3 => first | with_reducible assumption | omega | (simp only [List.size_toArray, List.length_map]; omega)); k_whole) | (refine' len_base ?k1 ?k2 ?k3 ?_; (case k1 => k_asm); (case k2 => with_reducible assumption); (case k3 => first | with_reducible assumption | omega); k_whole)))))
  (k_with "m look" => (first | with_reducible assumption | (with_reducible exact lk_hit rfl) | (with_reducible refine' lk_ne ?hh ?hv; (case hh => decide); (case hv => walk_at "m look"))))
  (k_with "eval Name" => ((k_here; k_dflt (refine' nameX_L ?F ?v ?_ ?a ?b; (case b => rfl); (case a => rfl); (case F => k_asm); (case v => walk_at "m look"); k_whole))))
  trivial
section
variable {w : World} {mean : ExcName → Option Value} {mg mb : Str → Option Value} {dp un : Nat} {gd : Option (List Code)} {cn : Str} {cs : Scope} {a : Addr} {ccd : Value} {cl : List (Str × Addr)} {outer : List Env} {base g' : Heap} {L L' : Addr} {s : Shared} {Q : Flow → Shared → Prop} {E : Value → Shared → Prop} {m : Str → Option Value}
variable {od hp x dx hl : Addr} {oOd oHp c1 : Obj} {hh : Int} {tk0 nd n : Nat} {tail : Led} {nl tl : Addr} {n1 n2 : Nat} {xs : List IT} {th : List ST} {vs : Array Value}
def JQ (od hp x dx hl L' : Addr) (hh : Int) (tk0 nd : Nat) (vs : Array Value) (n : Nat) (c1 : Obj) (tail : Led) (os : List W) (m₀ : Str → Option Value) (k : Nat) (m : Str → Option Value) (news : Led) : Prop :=
  ∃ (ps ws : List W) (no np : Nat), news = srvL od hp x dx hl L' (listOf (vals ps) no) (listOf (vals ws) np) hh tk0 nd vs n c1 tail ∧ m = m₀ ∧ k = ws.length ∧ IsHp ws ∧ List.Perm (ps ++ ws) os ∧ ps.Pairwise (fun a b => ltW a b = true) ∧ ∀ p ∈ ps, ∀ y ∈ ws, ltW p y = true
set_option maxRecDepth 100000 in
set_option maxHeartbeats 8000000 in
theorem srv_pop (C : Ctx w mean mg mb dp un gd cn cs a ccd cl outer base g' L) (P : Apart od hp x dx hl (L' + 1) tail) {os ws₀ : List W} {no np : Nat} (hok : ∀ y ∈ os, OkW tail y) (hnd : (os.map (·.k)).Nodup) (hol : os.length ≤ 100) (hh0 : IsHp ws₀) (hp0 : List.Perm ws₀ os)
    (F : Fr g' L' s.heap m) (N : News g' L' s.heap (srvL od hp x dx hl L' (listOf (vals []) no) (listOf (vals ws₀) np) hh tk0 nd vs n c1 tail)) (hmo : m (Str.ofString "order") = some (.ref od)) (hmh : m (Str.ofString "heap") = some (.ref hp)) (hE : PassesOwn (model PG w) ((ktrTop dp un gd cn cs L a ccd cl outer).deeper (srvEnv L')) (srvEnv L') E)
    (k : ∀ (ps : List W) no' np' h tk, List.Perm ps os → ps.Pairwise (fun a b => ltW a b = true) → Fr g' L' h m → News g' L' h (srvL od hp x dx hl L' (listOf (vals ps) no') (listOf (vals []) np') hh tk0 nd vs n c1 tail) → Q .next { s with heap := h, toks := tk }) :
    wpAny (model PG w) ((ktrTop dp un gd cn cs L a ccd cl outer).deeper (srvEnv L')) (exec srvSt10 (srvEnv L')) Q E s := by
  obtain ⟨B', X', T', hk, hdp, hun⟩ := C
  unfold srvSt10 srvEnv
  dsimp only [st0, tl0]

  refine While_B (JQ od hp x dx hl L' hh tk0 nd vs n c1 tail os m) F N ⟨[], ws₀, no, np, rfl, rfl, rfl, hh0, hp0, List.Pairwise.nil, fun _ h => nomatch h⟩ ?_ hE
  clear F N
  rintro k₁ m₁ news₁ h₁ tk₁ F₁ N₁ ⟨ps, ws, no, np, rfl, rfl, rfl, hH, hPm, hSo, hLt⟩
  repeat' (first | (k_unfold; (try dsimp only)) | ((fail_if_success (with_reducible show wpAny _ _ (eval (Expr.ListComp _ _ _ _) _) _ _ _)); (fail_if_success (with_reducible show wpAny _ _ (exec (Stmt.Assign [_] (Expr.ListComp _ _ _ _) _) _) _ _ _)); (fail_if_success (with_reducible show LCt.CompSrcT _ _ _ _ _ _ _ _ _ _ _ _ _ _ _)); (fail_if_success (with_reducible show LCg.CompSrc _ _ _ _ _ _ _ _ _ _ _ _ _ _)); (fail_if_success (with_reducible show LCg.CompEnd _ _ _ _ _ _ _ _ _ _ _ _ _ _)); (fail_if_success (with_reducible show @ite _ _ _ _ _)); (fail_if_success (with_reducible show wpAny _ _ (pyIter _) _ _ _)); (fail_if_success (with_reducible show Q _ _)); (fail_if_success (with_reducible show UnrPost _ _ _ _ _ _ _ _ _)); (fail_if_success (with_reducible show ∃ _, _)); (fail_if_success (with_reducible show wpAny _ _ (call (Value.ref 59) _ _) _ _ _)); (fail_if_success (with_reducible show wpAny _ _ (compareOp CmpOp.NotEq (Value.ref _) (Value.ref _)) _ _ _)); (fail_if_success (with_reducible show wpAny _ _ (call (Value.builtin "list.append") _ _) _ _ _)); (fail_if_success (with_reducible show TurnB _ _ _ _ _ _ _ _)); walk1) | ((fail_if_success (with_reducible show wpAny _ _ (eval (Expr.ListComp _ _ _ _) _) _ _ _)); (fail_if_success (with_reducible show wpAny _ _ (exec (Stmt.Assign [_] (Expr.ListComp _ _ _ _) _) _) _ _ _)); (fail_if_success (with_reducible show LCt.CompSrcT _ _ _ _ _ _ _ _ _ _ _ _ _ _ _)); (fail_if_success (with_reducible show LCg.CompSrc _ _ _ _ _ _ _ _ _ _ _ _ _ _)); (fail_if_success (with_reducible show LCg.CompEnd _ _ _ _ _ _ _ _ _ _ _ _ _ _)); (fail_if_success (with_reducible show @ite _ _ _ _ _)); (fail_if_success (with_reducible show wpAny _ _ (pyIter _) _ _ _)); (fail_if_success (with_reducible show Q _ _)); (fail_if_success (with_reducible show UnrPost _ _ _ _ _ _ _ _ _)); (fail_if_success (with_reducible show ∃ _, _)); (fail_if_success (with_reducible show wpAny _ _ (call (Value.ref 59) _ _) _ _ _)); (fail_if_success (with_reducible show wpAny _ _ (compareOp CmpOp.NotEq (Value.ref _) (Value.ref _)) _ _ _)); (fail_if_success (with_reducible show wpAny _ _ (call (Value.builtin "list.append") _ _) _ _ _)); (fail_if_success (with_reducible show TurnB _ _ _ _ _ _ _ _)); dsimp only; walk1))

  rename Fr g' L' _ _ => kF9
  rename News g' L' _ _ => kN9
  refine ne_nil (its := vals ws) (PySem.IsL.isList (News.get kN9 (by k_mem))) (PySem.IsL.isList (News.get kN9 (by k_mem))) (by ktr_units) ?_
  rcases (by rcases List.eq_nil_or_concat ws with h | ⟨a, b, h⟩; exact .inl h; exact .inr ⟨a, b, by rw [h, List.concat_eq_append]⟩ : ws = [] ∨ ∃ ws' z, ws = ws' ++ [z]) with rfl | ⟨ws, z, rfl⟩
  · repeat' (first | (k_unfold; (try dsimp only)) | ((fail_if_success (with_reducible show wpAny _ _ (eval (Expr.ListComp _ _ _ _) _) _ _ _)); (fail_if_success (with_reducible show wpAny _ _ (exec (Stmt.Assign [_] (Expr.ListComp _ _ _ _) _) _) _ _ _)); (fail_if_success (with_reducible show LCt.CompSrcT _ _ _ _ _ _ _ _ _ _ _ _ _ _ _)); (fail_if_success (with_reducible show LCg.CompSrc _ _ _ _ _ _ _ _ _ _ _ _ _ _)); (fail_if_success (with_reducible show LCg.CompEnd _ _ _ _ _ _ _ _ _ _ _ _ _ _)); (fail_if_success (with_reducible show @ite _ _ _ _ _)); (fail_if_success (with_reducible show wpAny _ _ (pyIter _) _ _ _)); (fail_if_success (with_reducible show Q _ _)); (fail_if_success (with_reducible show UnrPost _ _ _ _ _ _ _ _ _)); (fail_if_success (with_reducible show ∃ _, _)); (fail_if_success (with_reducible show wpAny _ _ (call (Value.ref 59) _ _) _ _ _)); (fail_if_success (with_reducible show wpAny _ _ (compareOp CmpOp.NotEq (Value.ref _) (Value.ref _)) _ _ _)); (fail_if_success (with_reducible show wpAny _ _ (call (Value.builtin "list.append") _ _) _ _ _)); (fail_if_success (with_reducible show TurnB _ _ _ _ _ _ _ _)); walk1) | ((fail_if_success (with_reducible show wpAny _ _ (eval (Expr.ListComp _ _ _ _) _) _ _ _)); (fail_if_success (with_reducible show wpAny _ _ (exec (Stmt.Assign [_] (Expr.ListComp _ _ _ _) _) _) _ _ _)); (fail_if_success (with_reducible show LCt.CompSrcT _ _ _ _ _ _ _ _ _ _ _ _ _ _ _)); (fail_if_success (with_reducible show LCg.CompSrc _ _ _ _ _ _ _ _ _ _ _ _ _ _)); (fail_if_success (with_reducible show LCg.CompEnd _ _ _ _ _ _ _ _ _ _ _ _ _ _)); (fail_if_success (with_reducible show @ite _ _ _ _ _)); (fail_if_success (with_reducible show wpAny _ _ (pyIter _) _ _ _)); (fail_if_success (with_reducible show Q _ _)); (fail_if_success (with_reducible show UnrPost _ _ _ _ _ _ _ _ _)); (fail_if_success (with_reducible show ∃ _, _)); (fail_if_success (with_reducible show wpAny _ _ (call (Value.ref 59) _ _) _ _ _)); (fail_if_success (with_reducible show wpAny _ _ (compareOp CmpOp.NotEq (Value.ref _) (Value.ref _)) _ _ _)); (fail_if_success (with_reducible show wpAny _ _ (call (Value.builtin "list.append") _ _) _ _ _)); (fail_if_success (with_reducible show TurnB _ _ _ _ _ _ _ _)); dsimp only; walk1))

    refine iteF (by decide) ?_
    rename Fr g' L' _ _ => kF9
    rename News g' L' _ _ => kN9
    rw [List.append_nil] at hPm
    exact k ps _ _ _ _ hPm hSo kF9 (cb_drop kN9 fun p hp => .tail _ hp)
  · have hv0 : ((vals (ws ++ [z])).size != 0) = true := by rw [vals_size, List.length_append]; simp
    rw [hv0]
    repeat' (first | (k_unfold; (try dsimp only)) | ((fail_if_success (with_reducible show wpAny _ _ (eval (Expr.ListComp _ _ _ _) _) _ _ _)); (fail_if_success (with_reducible show wpAny _ _ (exec (Stmt.Assign [_] (Expr.ListComp _ _ _ _) _) _) _ _ _)); (fail_if_success (with_reducible show LCt.CompSrcT _ _ _ _ _ _ _ _ _ _ _ _ _ _ _)); (fail_if_success (with_reducible show LCg.CompSrc _ _ _ _ _ _ _ _ _ _ _ _ _ _)); (fail_if_success (with_reducible show LCg.CompEnd _ _ _ _ _ _ _ _ _ _ _ _ _ _)); (fail_if_success (with_reducible show @ite _ _ _ _ _)); (fail_if_success (with_reducible show wpAny _ _ (pyIter _) _ _ _)); (fail_if_success (with_reducible show Q _ _)); (fail_if_success (with_reducible show UnrPost _ _ _ _ _ _ _ _ _)); (fail_if_success (with_reducible show ∃ _, _)); (fail_if_success (with_reducible show wpAny _ _ (call (Value.ref 59) _ _) _ _ _)); (fail_if_success (with_reducible show wpAny _ _ (compareOp CmpOp.NotEq (Value.ref _) (Value.ref _)) _ _ _)); (fail_if_success (with_reducible show wpAny _ _ (call (Value.builtin "list.append") _ _) _ _ _)); (fail_if_success (with_reducible show TurnB _ _ _ _ _ _ _ _)); walk1) | ((fail_if_success (with_reducible show wpAny _ _ (eval (Expr.ListComp _ _ _ _) _) _ _ _)); (fail_if_success (with_reducible show wpAny _ _ (exec (Stmt.Assign [_] (Expr.ListComp _ _ _ _) _) _) _ _ _)); (fail_if_success (with_reducible show LCt.CompSrcT _ _ _ _ _ _ _ _ _ _ _ _ _ _ _)); (fail_if_success (with_reducible show LCg.CompSrc _ _ _ _ _ _ _ _ _ _ _ _ _ _)); (fail_if_success (with_reducible show LCg.CompEnd _ _ _ _ _ _ _ _ _ _ _ _ _ _)); (fail_if_success (with_reducible show @ite _ _ _ _ _)); (fail_if_success (with_reducible show wpAny _ _ (pyIter _) _ _ _)); (fail_if_success (with_reducible show Q _ _)); (fail_if_success (with_reducible show UnrPost _ _ _ _ _ _ _ _ _)); (fail_if_success (with_reducible show ∃ _, _)); (fail_if_success (with_reducible show wpAny _ _ (call (Value.ref 59) _ _) _ _ _)); (fail_if_success (with_reducible show wpAny _ _ (compareOp CmpOp.NotEq (Value.ref _) (Value.ref _)) _ _ _)); (fail_if_success (with_reducible show wpAny _ _ (call (Value.builtin "list.append") _ _) _ _ _)); (fail_if_success (with_reducible show TurnB _ _ _ _ _ _ _ _)); dsimp only; walk1))

    refine iteT rfl ?_
    repeat' (first | (k_unfold; (try dsimp only)) | ((fail_if_success (with_reducible show wpAny _ _ (eval (Expr.ListComp _ _ _ _) _) _ _ _)); (fail_if_success (with_reducible show wpAny _ _ (exec (Stmt.Assign [_] (Expr.ListComp _ _ _ _) _) _) _ _ _)); (fail_if_success (with_reducible show LCt.CompSrcT _ _ _ _ _ _ _ _ _ _ _ _ _ _ _)); (fail_if_success (with_reducible show LCg.CompSrc _ _ _ _ _ _ _ _ _ _ _ _ _ _)); (fail_if_success (with_reducible show LCg.CompEnd _ _ _ _ _ _ _ _ _ _ _ _ _ _)); (fail_if_success (with_reducible show @ite _ _ _ _ _)); (fail_if_success (with_reducible show wpAny _ _ (pyIter _) _ _ _)); (fail_if_success (with_reducible show Q _ _)); (fail_if_success (with_reducible show UnrPost _ _ _ _ _ _ _ _ _)); (fail_if_success (with_reducible show ∃ _, _)); (fail_if_success (with_reducible show wpAny _ _ (call (Value.ref 59) _ _) _ _ _)); (fail_if_success (with_reducible show wpAny _ _ (compareOp CmpOp.NotEq (Value.ref _) (Value.ref _)) _ _ _)); (fail_if_success (with_reducible show wpAny _ _ (call (Value.builtin "list.append") _ _) _ _ _)); (fail_if_success (with_reducible show TurnB _ _ _ _ _ _ _ _)); walk1) | ((fail_if_success (with_reducible show wpAny _ _ (eval (Expr.ListComp _ _ _ _) _) _ _ _)); (fail_if_success (with_reducible show wpAny _ _ (exec (Stmt.Assign [_] (Expr.ListComp _ _ _ _) _) _) _ _ _)); (fail_if_success (with_reducible show LCt.CompSrcT _ _ _ _ _ _ _ _ _ _ _ _ _ _ _)); (fail_if_success (with_reducible show LCg.CompSrc _ _ _ _ _ _ _ _ _ _ _ _ _ _)); (fail_if_success (with_reducible show LCg.CompEnd _ _ _ _ _ _ _ _ _ _ _ _ _ _)); (fail_if_success (with_reducible show @ite _ _ _ _ _)); (fail_if_success (with_reducible show wpAny _ _ (pyIter _) _ _ _)); (fail_if_success (with_reducible show Q _ _)); (fail_if_success (with_reducible show UnrPost _ _ _ _ _ _ _ _ _)); (fail_if_success (with_reducible show ∃ _, _)); (fail_if_success (with_reducible show wpAny _ _ (call (Value.ref 59) _ _) _ _ _)); (fail_if_success (with_reducible show wpAny _ _ (compareOp CmpOp.NotEq (Value.ref _) (Value.ref _)) _ _ _)); (fail_if_success (with_reducible show wpAny _ _ (call (Value.builtin "list.append") _ _) _ _ _)); (fail_if_success (with_reducible show TurnB _ _ _ _ _ _ _ _)); dsimp only; walk1))

    rename Fr g' L' _ _ => kF9
    rename News g' L' _ _ => kN9
    obtain ⟨q1, q2, q3, q4⟩ := pop_step hH hPm hnd hSo hLt
    have hlen := hPm.length_eq
    simp only [List.length_append, List.length_cons, List.length_nil] at hlen
    have hda : DistA (ws ++ [z]) := distA_of (by
      have := (hPm.map (·.k)).nodup_iff.mpr hnd
      rw [List.map_append] at this
      exact (List.nodup_append.mp this).2.1)
    refine (heappop (n := np) (ws := ws) (z := z) (rest := (od, listOf (vals ps) no) :: (x, instObj 217 dx) :: (dx, dictOf [⟨hh, .str (Str.ofString "_headers") tk0, .ref hl⟩] nd) :: (hl, listOf vs n) :: (L' + 1, c1) :: tail) (by omega) ?o1 hda).use B' kF9 X' kN9 T' rfl (by ktr_room) (by ktr_units) ?kM ?kR ?kS ?_
    case o1 =>
      intro y hy
      obtain ⟨n, t1, t2, t3, h⟩ := hok y (hPm.mem_iff.mp (List.mem_append_right _ hy))
      exact ⟨n, t1, t2, t3, .tail _ (.tail _ (.tail _ (.tail _ (.tail _ h))))⟩
    case kM => (simp only [List.forall_mem_cons]; refine ⟨?_, List.forall_mem_nil _⟩; k_mem)
    case kR =>
      simp only [List.forall_mem_cons]
      refine ⟨?_, ?_, ?_, ?_, ?_, ?_⟩
      all_goals first | (k_mem; done) | exact fun p hp => .tail _ (.tail _ (.tail _ (.tail _ (.tail _ (.tail _ (.tail _ hp))))))
    case kS =>
      have lt := P.lt
      have t4 := ne_allNe P.t4
      refine fun p hp' hm => (?_ : ∀ p ∈ _, p.1 ≠ hp) p hp' (List.mem_singleton.mp hm)
      simp only [List.forall_mem_cons]
      refine ⟨?_, ?_, ?_, ?_, ?_, t4⟩
      all_goals (refine neN ?_; (try dsimp only); omega)
    rintro r muts' h' tk' F9 N9 ⟨hr, np', hmu⟩
    subst hr hmu
    clear kF9 kN9
    (try dsimp only)
    repeat' (first | (k_unfold; (try dsimp only)) | ((fail_if_success (with_reducible show wpAny _ _ (eval (Expr.ListComp _ _ _ _) _) _ _ _)); (fail_if_success (with_reducible show wpAny _ _ (exec (Stmt.Assign [_] (Expr.ListComp _ _ _ _) _) _) _ _ _)); (fail_if_success (with_reducible show LCt.CompSrcT _ _ _ _ _ _ _ _ _ _ _ _ _ _ _)); (fail_if_success (with_reducible show LCg.CompSrc _ _ _ _ _ _ _ _ _ _ _ _ _ _)); (fail_if_success (with_reducible show LCg.CompEnd _ _ _ _ _ _ _ _ _ _ _ _ _ _)); (fail_if_success (with_reducible show @ite _ _ _ _ _)); (fail_if_success (with_reducible show wpAny _ _ (pyIter _) _ _ _)); (fail_if_success (with_reducible show Q _ _)); (fail_if_success (with_reducible show UnrPost _ _ _ _ _ _ _ _ _)); (fail_if_success (with_reducible show ∃ _, _)); (fail_if_success (with_reducible show wpAny _ _ (call (Value.ref 59) _ _) _ _ _)); (fail_if_success (with_reducible show wpAny _ _ (compareOp CmpOp.NotEq (Value.ref _) (Value.ref _)) _ _ _)); (fail_if_success (with_reducible show wpAny _ _ (call (Value.builtin "list.append") _ _) _ _ _)); (fail_if_success (with_reducible show TurnB _ _ _ _ _ _ _ _)); walk1) | ((fail_if_success (with_reducible show wpAny _ _ (eval (Expr.ListComp _ _ _ _) _) _ _ _)); (fail_if_success (with_reducible show wpAny _ _ (exec (Stmt.Assign [_] (Expr.ListComp _ _ _ _) _) _) _ _ _)); (fail_if_success (with_reducible show LCt.CompSrcT _ _ _ _ _ _ _ _ _ _ _ _ _ _ _)); (fail_if_success (with_reducible show LCg.CompSrc _ _ _ _ _ _ _ _ _ _ _ _ _ _)); (fail_if_success (with_reducible show LCg.CompEnd _ _ _ _ _ _ _ _ _ _ _ _ _ _)); (fail_if_success (with_reducible show @ite _ _ _ _ _)); (fail_if_success (with_reducible show wpAny _ _ (pyIter _) _ _ _)); (fail_if_success (with_reducible show Q _ _)); (fail_if_success (with_reducible show UnrPost _ _ _ _ _ _ _ _ _)); (fail_if_success (with_reducible show ∃ _, _)); (fail_if_success (with_reducible show wpAny _ _ (call (Value.ref 59) _ _) _ _ _)); (fail_if_success (with_reducible show wpAny _ _ (compareOp CmpOp.NotEq (Value.ref _) (Value.ref _)) _ _ _)); (fail_if_success (with_reducible show wpAny _ _ (call (Value.builtin "list.append") _ _) _ _ _)); (fail_if_success (with_reducible show TurnB _ _ _ _ _ _ _ _)); dsimp only; walk1))

    rename Fr g' L' _ _ => kF9
    rename News g' L' _ _ => kN9
    have N10 : News g' L' h' ((od, listOf (vals ps) no) :: (hp, listOf (vals (hpopL ws z)) np') :: (x, instObj 217 dx) :: (dx, dictOf [⟨hh, .str (Str.ofString "_headers") tk0, .ref hl⟩] nd) :: (hl, listOf vs n) :: (L' + 1, c1) :: tail) := by
      refine cb_drop kN9 ?_
      simp only [List.forall_mem_cons]
      refine ⟨?_, ?_, ?_, ?_, ?_, ?_, ?_⟩
      all_goals first | (k_mem; done) | exact fun p hp => .tail _ (.tail _ (.tail _ (.tail _ (.tail _ (.tail _ hp)))))
    refine append_K (n := no) (D := od) (its := vals ps) kF9 N10 (Upd.head ?hall) (fun h2 F2 N2 => ?_) ?hz
    case hz => rw [vals_size, sizeLine_eq]; omega
    case hall =>
      have lt := P.lt
      have t5 := ne_allNe P.t5
      simp only [List.forall_mem_cons]
      refine ⟨?_, ?_, ?_, ?_, ?_, t5⟩
      all_goals (refine neN ?_; (try dsimp only); omega)
    clear kF9 kN9 N10
    rw [vals_push] at N2
    repeat' (first | (k_unfold; (try dsimp only)) | ((fail_if_success (with_reducible show wpAny _ _ (eval (Expr.ListComp _ _ _ _) _) _ _ _)); (fail_if_success (with_reducible show wpAny _ _ (exec (Stmt.Assign [_] (Expr.ListComp _ _ _ _) _) _) _ _ _)); (fail_if_success (with_reducible show LCt.CompSrcT _ _ _ _ _ _ _ _ _ _ _ _ _ _ _)); (fail_if_success (with_reducible show LCg.CompSrc _ _ _ _ _ _ _ _ _ _ _ _ _ _)); (fail_if_success (with_reducible show LCg.CompEnd _ _ _ _ _ _ _ _ _ _ _ _ _ _)); (fail_if_success (with_reducible show @ite _ _ _ _ _)); (fail_if_success (with_reducible show wpAny _ _ (pyIter _) _ _ _)); (fail_if_success (with_reducible show Q _ _)); (fail_if_success (with_reducible show UnrPost _ _ _ _ _ _ _ _ _)); (fail_if_success (with_reducible show ∃ _, _)); (fail_if_success (with_reducible show wpAny _ _ (call (Value.ref 59) _ _) _ _ _)); (fail_if_success (with_reducible show wpAny _ _ (compareOp CmpOp.NotEq (Value.ref _) (Value.ref _)) _ _ _)); (fail_if_success (with_reducible show wpAny _ _ (call (Value.builtin "list.append") _ _) _ _ _)); (fail_if_success (with_reducible show TurnB _ _ _ _ _ _ _ _)); walk1) | ((fail_if_success (with_reducible show wpAny _ _ (eval (Expr.ListComp _ _ _ _) _) _ _ _)); (fail_if_success (with_reducible show wpAny _ _ (exec (Stmt.Assign [_] (Expr.ListComp _ _ _ _) _) _) _ _ _)); (fail_if_success (with_reducible show LCt.CompSrcT _ _ _ _ _ _ _ _ _ _ _ _ _ _ _)); (fail_if_success (with_reducible show LCg.CompSrc _ _ _ _ _ _ _ _ _ _ _ _ _ _)); (fail_if_success (with_reducible show LCg.CompEnd _ _ _ _ _ _ _ _ _ _ _ _ _ _)); (fail_if_success (with_reducible show @ite _ _ _ _ _)); (fail_if_success (with_reducible show wpAny _ _ (pyIter _) _ _ _)); (fail_if_success (with_reducible show Q _ _)); (fail_if_success (with_reducible show UnrPost _ _ _ _ _ _ _ _ _)); (fail_if_success (with_reducible show ∃ _, _)); (fail_if_success (with_reducible show wpAny _ _ (call (Value.ref 59) _ _) _ _ _)); (fail_if_success (with_reducible show wpAny _ _ (compareOp CmpOp.NotEq (Value.ref _) (Value.ref _)) _ _ _)); (fail_if_success (with_reducible show wpAny _ _ (call (Value.builtin "list.append") _ _) _ _ _)); (fail_if_success (with_reducible show TurnB _ _ _ _ _ _ _ _)); dsimp only; walk1))

    rename Fr g' L' _ _ => kF9
    rename News g' L' _ _ => kN9
    refine ⟨_, _, _, _, (hpopL ws z).length, rfl, kF9, kN9, ?_, ps ++ [hpopV ws z], hpopL ws z, _, _, rfl, rfl, rfl, q1, q2, q3, q4⟩
    have := q2.length_eq
    have h2 := hPm.length_eq
    simp only [List.length_append, List.length_cons, List.length_nil] at this h2 ⊢
    omega
end
end
section
open PySem PySem.W PyProof.Rows PySem.Spec
theorem lines_T11 : True := by
  k_with_none
  (k_with "om" => (with_reducible first | assumption | exact Nat.ne_of_lt ‹_› | exact Nat.ne_of_gt ‹_› | exact Ne.symm ‹_› | exact Mine.o_a ‹_› (by decide) | exact Mine.o_b ‹_› (by decide) | exact Mine.o_c ‹_› | exact Mine.o_le (n := 100) ‹_› (by decide) | exact Mine.o_le ‹_› (by decide) | exact Mine.o_l ‹_› (by decide) | exact Mine.o_1 (n := 100) ‹_› (by decide) | exact Mine.o_2 (n := 100) ‹_› (by decide) | exact Mine.o_lt (n := 100) ‹_› (by decide) | exact Mine.o_lt ‹_› (by decide) | exact Mine.o_ll ‹_› (by decide) | exact Mine.o_s ‹_› | exact Mine.o_n _ | exact Mine.o_0 _ | exact Mine.o_i ‹_› (by decide) | exact Mine.o_m ‹_› (by decide) | exact Mine.o_j (n := 100) ‹_› ‹_› (by decide) | exact Mine.o_k ‹_› ‹_› (by decide) | exact Mine.o_e (n := 100) ‹_› ‹_› (by decide) | exact Nat.ne_of_lt (by k_extra "cj") | exact Nat.ne_of_gt (by k_extra "cj") | exact Ne.symm (by k_extra "cj") | k_extra "cj" | fail))
  (k_with "cj" => (first | exact And.left ‹_› | exact Mine.c_2 ‹_› | exact Mine.c_3 ‹_› | exact Mine.c_4 ‹_› | exact Mine.c_5 ‹_› | exact Mine.c_6 ‹_› | exact Mine.c_7 ‹_› | exact Mine.c_8 ‹_› | exact Mine.c_9 ‹_› | exact And.right ‹_› | exact Mine.d_3 ‹_› | exact Mine.d_4 ‹_› | exact Mine.d_5 ‹_› | exact Mine.d_6 ‹_› | exact Mine.d_7 ‹_› | exact Mine.d_8 ‹_› | exact Mine.d_9 ‹_› | fail))
  (k_with "fn ctx" => (((case k1 => k_asm); (case k2 => k_asm); (case k3 => k_asm); (case k4 => k_asm); (case k5 => k_asm); (case kK => first | exact rfl | assumption); (case kd => ktr_room); (case ku => ktr_units))))
  (k_with "call ref" => ((k_here; (with_reducible show wpAny _ _ (call (Value.ref 228) _ _) _ _ _); k_dflt (refine' (law_kind).use ?k1 ?k2 ?k3 ?k4 ?k5 ?kK ?kd ?ku ?kz ?_; (walk_at "fn ctx"); (case kz => exact fun _ h => nomatch h); intro zqr9 zqh9 zqtk9 zqF9 zqN9 zqk9 zqho9; obtain ⟨zqt9, zqhr9⟩ := zqho9; subst zqhr9; (try dsimp only); (try k_sweep)))))
  (k_with "call ref" => ((k_here; (with_reducible show wpAny _ _ (call (Value.ref 235) _ _) _ _ _); k_dflt (refine' (law_worth).use ?k1 ?k2 ?k3 ?k4 ?k5 ?kK ?kd ?ku ?kz ?_; (walk_at "fn ctx"); (case kz => exact fun _ h => nomatch h); intro zqr9 zqh9 zqtk9 zqF9 zqN9 zqk9 zqho9; obtain ⟨zqt9, zqhr9⟩ := zqho9; subst zqhr9; (try dsimp only); (try k_sweep)))))
  (k_with "call builtin:len" => ((k_here; (with_reducible show wpAny _ _ (call (Value.builtin "len") [Value.ref _]) _ _ _); k_dflt (first | (refine' len_led ?k1 ?k2 ?k3 ?_; (case k1 => k_asm); (case k2 => k_mem); (case k3 => first | with_reducible assumption | omega | (simp only [List.size_toArray, List.length_map]; omega)); k_whole) | (refine' len_base ?k1 ?k2 ?k3 ?_; (case k1 => k_asm); (case k2 => with_reducible assumption); (case k3 => first | with_reducible assumption | omega); k_whole)))))
  (k_with "m look" => (first | with_reducible assumption | (with_reducible exact lk_hit rfl) | (with_reducible refine' lk_ne ?hh ?hv; (case hh => decide); (case hv => walk_at "m look"))))
  (k_with "eval Name" => ((k_here; k_dflt (refine' nameX_L ?F ?v ?_ ?a ?b; (case b => rfl); (case a => rfl); (case F => k_asm); (case v => walk_at "m look"); k_whole))))
  (k_with "subscriptTail Name Constant ref int" => ((k_here; (with_reducible show wpAny _ _ (subscriptTail _ _ (Value.ref _) (Value.int 0 _)) _ _ _); k_dflt (refine' item3_0 ?k1 ?k2 ?_ ?k7; (case k7 => with_unfolding_all rfl); (case k1 => k_asm); (case k2 => (repeat (first | assumption | refine List.Mem.tail _ ?_))); k_whole))))
  (k_with "subscriptTail Name Constant ref int" => ((k_here; (with_reducible show wpAny _ _ (subscriptTail _ _ (Value.ref _) (Value.int 2 _)) _ _ _); k_dflt (refine' item3_2 ?k1 ?k2 ?_ ?k7; (case k7 => with_unfolding_all rfl); (case k1 => k_asm); (case k2 => (repeat (first | assumption | refine List.Mem.tail _ ?_))); k_whole))))
  (k_with "compareOp NotIn str ref" => ((k_here; (with_reducible show wpAny _ _ (compareOp CmpOp.NotIn (Value.str _ _) (Value.ref _)) _ _ _); k_dflt (refine' notIn_strs ?k1 ?k2 ?k3 ?k5 ?_; (case k1 => exact PySem.IsL.isList (News.get (by k_asm) (by k_mem))); (case k2 => with_reducible assumption); (case k3 => with_reducible assumption); (case k5 => ktr_units); k_whole))))
  trivial
section
variable {prog : Program} {w : World} {A : Around} {E : Value → Shared → Prop} {s : Shared} {h₀ : Heap} {L D : Addr} {news : List (Addr × Obj)} {n : Nat} {u : Tok} {a0 a1 a2 : Value}
theorem item3_0 {value slice : PySem.Expr} {Q : Value → Shared → Prop} (N : News h₀ L s.heap news) (hm : (D, listOf #[a0, a1, a2] n) ∈ news) (h : Q a0 s)
    (hs : subscripted slice false (.ref D) (.int 0 u) = operate [.ref D, .int 0 u] (getItem (.ref D) (.int 0 u)) := by with_unfolding_all rfl) : wpAny (model prog w) A (subscriptTail value slice (.ref D) (.int 0 u)) Q E s :=
  item_led N hm (by decide) (by decide) rfl h hs
theorem item3_2 {value slice : PySem.Expr} {Q : Value → Shared → Prop} (N : News h₀ L s.heap news) (hm : (D, listOf #[a0, a1, a2] n) ∈ news) (h : Q a2 s)
    (hs : subscripted slice false (.ref D) (.int 2 u) = operate [.ref D, .int 2 u] (getItem (.ref D) (.int 2 u)) := by with_unfolding_all rfl) : wpAny (model prog w) A (subscriptTail value slice (.ref D) (.int 2 u)) Q E s :=
  item_led N hm (by decide) (by decide) rfl h hs
end
def fitW (ms : List Str) (y : W) : Bool := decide (y.w < 0) && !decide (y.s ∈ ms)
section
variable {w : World} {mean : ExcName → Option Value} {mg mb : Str → Option Value} {dp un : Nat} {gd : Option (List Code)} {cn : Str} {cs : Scope} {a : Addr} {ccd : Value} {cl : List (Str × Addr)} {outer : List Env} {base g' : Heap} {L L' : Addr} {s : Shared} {Q : Flow → Shared → Prop} {E : Value → Shared → Prop} {m : Str → Option Value}
variable {od hp x dx hl : Addr} {oOd oHp c1 : Obj} {hh : Int} {tk0 nd n : Nat} {tail : Led} {nl tl : Addr} {n1 n2 : Nat} {xs : List IT} {th : List ST} {vs : Array Value}
set_option maxRecDepth 100000 in
set_option maxHeartbeats 8000000 in
theorem srv_fit (C : Ctx w mean mg mb dp un gd cn cs a ccd cl outer base g' L) {ps : List W} {ms : List ST} {Dm : Addr} {no nm : Nat} (P : Apart od hp x dx hl (L' + 1) ((Dm, listOf (svals ms) nm) :: tail)) (hok : ∀ y ∈ ps, OkW tail y) (hpl : ps.length ≤ 100) (hos : ∀ y ∈ ps, okS y.s) (hms : ∀ x ∈ ms.map (·.1), okS x)
    (F : Fr g' L' s.heap m) (N : News g' L' s.heap (srvL od hp x dx hl L' (listOf (vals ps) no) oHp hh tk0 nd vs n c1 ((Dm, listOf (svals ms) nm) :: tail))) (hc : c1.data = .cell (some (.ref Dm))) (hmo : m (Str.ofString "order") = some (.ref od))
    (k : ∀ D (us : List ST) h tk, Fr g' L' h (fun y => if y = Str.ofString "fit" then some (.ref D) else m y) → News g' L' h (srvL od hp x dx hl L' (listOf (vals ps) no) oHp hh tk0 nd vs n c1 ((D, listOf (svals us) us.length) :: (Dm, listOf (svals ms) nm) :: tail)) → Apart od hp x dx hl (L' + 1) ((D, listOf (svals us) us.length) :: (Dm, listOf (svals ms) nm) :: tail) → us.map (·.1) = (ps.filter (fitW (ms.map (·.1)))).map (·.s) → Q .next { s with heap := h, toks := tk }) :
    wpAny (model PG w) ((ktrTop dp un gd cn cs L a ccd cl outer).deeper (srvEnv L')) (exec srvSt11 (srvEnv L')) Q E s := by
  obtain ⟨B', X', T', hk, hdp, hun⟩ := C
  unfold srvSt11 srvEnv
  dsimp only [st0, tl0]

  repeat' (first | (k_unfold; (try dsimp only)) | ((fail_if_success (with_reducible show wpAny _ _ (eval (Expr.ListComp _ _ _ _) _) _ _ _)); (fail_if_success (with_reducible show wpAny _ _ (exec (Stmt.Assign [_] (Expr.ListComp _ _ _ _) _) _) _ _ _)); (fail_if_success (with_reducible show LCt.CompSrcT _ _ _ _ _ _ _ _ _ _ _ _ _ _ _)); (fail_if_success (with_reducible show LCg.CompSrc _ _ _ _ _ _ _ _ _ _ _ _ _ _)); (fail_if_success (with_reducible show LCg.CompEnd _ _ _ _ _ _ _ _ _ _ _ _ _ _)); (fail_if_success (with_reducible show @ite _ _ _ _ _)); (fail_if_success (with_reducible show wpAny _ _ (pyIter _) _ _ _)); (fail_if_success (with_reducible show Q _ _)); (fail_if_success (with_reducible show UnrPost _ _ _ _ _ _ _ _ _)); (fail_if_success (with_reducible show ∃ _, _)); walk1) | ((fail_if_success (with_reducible show wpAny _ _ (eval (Expr.ListComp _ _ _ _) _) _ _ _)); (fail_if_success (with_reducible show wpAny _ _ (exec (Stmt.Assign [_] (Expr.ListComp _ _ _ _) _) _) _ _ _)); (fail_if_success (with_reducible show LCt.CompSrcT _ _ _ _ _ _ _ _ _ _ _ _ _ _ _)); (fail_if_success (with_reducible show LCg.CompSrc _ _ _ _ _ _ _ _ _ _ _ _ _ _)); (fail_if_success (with_reducible show LCg.CompEnd _ _ _ _ _ _ _ _ _ _ _ _ _ _)); (fail_if_success (with_reducible show @ite _ _ _ _ _)); (fail_if_success (with_reducible show wpAny _ _ (pyIter _) _ _ _)); (fail_if_success (with_reducible show Q _ _)); (fail_if_success (with_reducible show UnrPost _ _ _ _ _ _ _ _ _)); (fail_if_success (with_reducible show ∃ _, _)); dsimp only; walk1))

  rename Fr g' L' _ _ => kF9
  refine LCt.Assign_ListComp_T (F₀ := kF9) (by rfl) (by with_unfolding_all rfl) (by with_unfolding_all rfl) (by decide) (by rfl) (by decide) (by rfl) (by rfl) (by rfl) ?_
  repeat' (first | (k_unfold; (try dsimp only)) | ((fail_if_success (with_reducible show wpAny _ _ (eval (Expr.ListComp _ _ _ _) _) _ _ _)); (fail_if_success (with_reducible show wpAny _ _ (exec (Stmt.Assign [_] (Expr.ListComp _ _ _ _) _) _) _ _ _)); (fail_if_success (with_reducible show LCt.CompSrcT _ _ _ _ _ _ _ _ _ _ _ _ _ _ _)); (fail_if_success (with_reducible show LCg.CompSrc _ _ _ _ _ _ _ _ _ _ _ _ _ _)); (fail_if_success (with_reducible show LCg.CompEnd _ _ _ _ _ _ _ _ _ _ _ _ _ _)); (fail_if_success (with_reducible show @ite _ _ _ _ _)); (fail_if_success (with_reducible show wpAny _ _ (pyIter _) _ _ _)); (fail_if_success (with_reducible show Q _ _)); (fail_if_success (with_reducible show UnrPost _ _ _ _ _ _ _ _ _)); (fail_if_success (with_reducible show ∃ _, _)); walk1) | ((fail_if_success (with_reducible show wpAny _ _ (eval (Expr.ListComp _ _ _ _) _) _ _ _)); (fail_if_success (with_reducible show wpAny _ _ (exec (Stmt.Assign [_] (Expr.ListComp _ _ _ _) _) _) _ _ _)); (fail_if_success (with_reducible show LCt.CompSrcT _ _ _ _ _ _ _ _ _ _ _ _ _ _ _)); (fail_if_success (with_reducible show LCg.CompSrc _ _ _ _ _ _ _ _ _ _ _ _ _ _)); (fail_if_success (with_reducible show LCg.CompEnd _ _ _ _ _ _ _ _ _ _ _ _ _ _)); (fail_if_success (with_reducible show @ite _ _ _ _ _)); (fail_if_success (with_reducible show wpAny _ _ (pyIter _) _ _ _)); (fail_if_success (with_reducible show Q _ _)); (fail_if_success (with_reducible show UnrPost _ _ _ _ _ _ _ _ _)); (fail_if_success (with_reducible show ∃ _, _)); dsimp only; walk1))

  rename Fr g' L' _ _ => kF9
  rename News g' L' _ _ => kN9
  refine LCt.CompSrcT.ledger (its := vals ps) rfl kF9 kN9 (by k_mem) (by rw [vals_size, sizeLine_eq]; omega) (fun g => restT_ind (fun i ys news => news = srvL od hp x dx hl L' (listOf (vals ps) no) oHp hh tk0 nd vs n c1 ((Dm, listOf (svals ms) nm) :: tail) ∧ ∃ us : List ST, ys = us.map ST.v ∧ us.map (·.1) = ((ps.take i).filter (fitW (ms.map (·.1)))).map (·.s)) ?elem ?fin _ 0 [] _ (Nat.zero_add _) ⟨rfl, [], rfl, rfl⟩)
  case fin =>
    clear kF9 kN9
    rintro ys news ⟨rfl, us, rfl, hus⟩ D h tk F9 N9 off9
    rw [vals_size, List.take_length] at hus
    have o9 := off1_mem off9
    simp only [srvL, List.forall_mem_cons] at o9
    obtain ⟨d1, d2, d3, d4, d5, d6, -⟩ := o9
    refine k D us _ _ F9 (cb_drop N9 ?sub) ⟨P.lt, ⟨d3.symm, P.t1⟩, ⟨d4.symm, P.t2⟩, ⟨d5.symm, P.t3⟩, ⟨d2.symm, P.t4⟩, ⟨d1.symm, P.t5⟩, ⟨d6.symm, P.t6⟩⟩ hus
    have e : LCg.lst (us.map ST.v) = listOf (svals us) us.length := by simp only [LCg.lst, W.listOf, svals, List.length_map]
    rw [← e]
    simp only [List.forall_mem_cons, srvL]
    refine ⟨?_, ?_, ?_, ?_, ?_, ?_, ?_, ?_, ?_⟩
    all_goals first | (k_mem; done) | exact fun p hp => .tail _ (.tail _ (.tail _ (.tail _ (.tail _ (.tail _ (.tail _ (.tail _ hp)))))))
  case elem =>
    clear kF9 kN9
    rintro i hi ys news ⟨rfl, us, rfl, hus⟩ v I oI C oC D m₂ h tk E' hP hNs hx F9 N9 off hne
    have hi' : i < ps.length := by rw [← vals_size]; exact hi
    have hk0 : ps[i]? = some ps[i] := List.getElem?_eq_getElem hi'
    generalize ps[i] = z at hk0
    have hv : v = .ref z.a := by have := hP; simp [vals, hk0] at this; exact this.symm
    subst hv
    obtain ⟨zn, t1, t2, t3, hzm⟩ := hok z (List.mem_of_getElem? hk0)
    have hzo := hos z (List.mem_of_getElem? hk0)
    have htake : ps.take (i + 1) = ps.take i ++ [z] := by rw [List.take_add_one, hk0]; rfl
    have hfil : ∀ b : Bool, fitW (ms.map (·.1)) z = b → ((ps.take (i + 1)).filter (fitW (ms.map (·.1)))).map (·.s) = ((ps.take i).filter (fitW (ms.map (·.1)))).map (·.s) ++ (if b = true then [z.s] else []) := by
      intro b hb
      rw [htake, List.filter_append, List.map_append, List.filter_cons, hb, List.filter_nil]
      cases b <;> rfl
    repeat' (first | (k_unfold; (try dsimp only)) | ((fail_if_success (with_reducible show wpAny _ _ (eval (Expr.ListComp _ _ _ _) _) _ _ _)); (fail_if_success (with_reducible show wpAny _ _ (exec (Stmt.Assign [_] (Expr.ListComp _ _ _ _) _) _) _ _ _)); (fail_if_success (with_reducible show LCt.CompSrcT _ _ _ _ _ _ _ _ _ _ _ _ _ _ _)); (fail_if_success (with_reducible show LCg.CompSrc _ _ _ _ _ _ _ _ _ _ _ _ _ _)); (fail_if_success (with_reducible show LCg.CompEnd _ _ _ _ _ _ _ _ _ _ _ _ _ _)); (fail_if_success (with_reducible show @ite _ _ _ _ _)); (fail_if_success (with_reducible show wpAny _ _ (pyIter _) _ _ _)); (fail_if_success (with_reducible show Q _ _)); (fail_if_success (with_reducible show UnrPost _ _ _ _ _ _ _ _ _)); (fail_if_success (with_reducible show ∃ _, _)); walk1) | ((fail_if_success (with_reducible show wpAny _ _ (eval (Expr.ListComp _ _ _ _) _) _ _ _)); (fail_if_success (with_reducible show wpAny _ _ (exec (Stmt.Assign [_] (Expr.ListComp _ _ _ _) _) _) _ _ _)); (fail_if_success (with_reducible show LCt.CompSrcT _ _ _ _ _ _ _ _ _ _ _ _ _ _ _)); (fail_if_success (with_reducible show LCg.CompSrc _ _ _ _ _ _ _ _ _ _ _ _ _ _)); (fail_if_success (with_reducible show LCg.CompEnd _ _ _ _ _ _ _ _ _ _ _ _ _ _)); (fail_if_success (with_reducible show @ite _ _ _ _ _)); (fail_if_success (with_reducible show wpAny _ _ (pyIter _) _ _ _)); (fail_if_success (with_reducible show Q _ _)); (fail_if_success (with_reducible show UnrPost _ _ _ _ _ _ _ _ _)); (fail_if_success (with_reducible show ∃ _, _)); dsimp only; walk1))

    by_cases hq : decide (z.w < 0) = true
    · refine iteT hq ?_
      repeat' (first | (k_unfold; (try dsimp only)) | ((fail_if_success (with_reducible show wpAny _ _ (eval (Expr.ListComp _ _ _ _) _) _ _ _)); (fail_if_success (with_reducible show wpAny _ _ (exec (Stmt.Assign [_] (Expr.ListComp _ _ _ _) _) _) _ _ _)); (fail_if_success (with_reducible show LCt.CompSrcT _ _ _ _ _ _ _ _ _ _ _ _ _ _ _)); (fail_if_success (with_reducible show LCg.CompSrc _ _ _ _ _ _ _ _ _ _ _ _ _ _)); (fail_if_success (with_reducible show LCg.CompEnd _ _ _ _ _ _ _ _ _ _ _ _ _ _)); (fail_if_success (with_reducible show @ite _ _ _ _ _)); (fail_if_success (with_reducible show wpAny _ _ (pyIter _) _ _ _)); (fail_if_success (with_reducible show Q _ _)); (fail_if_success (with_reducible show UnrPost _ _ _ _ _ _ _ _ _)); (fail_if_success (with_reducible show ∃ _, _)); walk1) | ((fail_if_success (with_reducible show wpAny _ _ (eval (Expr.ListComp _ _ _ _) _) _ _ _)); (fail_if_success (with_reducible show wpAny _ _ (exec (Stmt.Assign [_] (Expr.ListComp _ _ _ _) _) _) _ _ _)); (fail_if_success (with_reducible show LCt.CompSrcT _ _ _ _ _ _ _ _ _ _ _ _ _ _ _)); (fail_if_success (with_reducible show LCg.CompSrc _ _ _ _ _ _ _ _ _ _ _ _ _ _)); (fail_if_success (with_reducible show LCg.CompEnd _ _ _ _ _ _ _ _ _ _ _ _ _ _)); (fail_if_success (with_reducible show @ite _ _ _ _ _)); (fail_if_success (with_reducible show wpAny _ _ (pyIter _) _ _ _)); (fail_if_success (with_reducible show Q _ _)); (fail_if_success (with_reducible show UnrPost _ _ _ _ _ _ _ _ _)); (fail_if_success (with_reducible show ∃ _, _)); dsimp only; walk1))

      by_cases hq2 : (!decide (z.s ∈ ms.map (·.1))) = true
      · refine iteT hq2 ?_
        repeat' (first | (k_unfold; (try dsimp only)) | ((fail_if_success (with_reducible show wpAny _ _ (eval (Expr.ListComp _ _ _ _) _) _ _ _)); (fail_if_success (with_reducible show wpAny _ _ (exec (Stmt.Assign [_] (Expr.ListComp _ _ _ _) _) _) _ _ _)); (fail_if_success (with_reducible show LCt.CompSrcT _ _ _ _ _ _ _ _ _ _ _ _ _ _ _)); (fail_if_success (with_reducible show LCg.CompSrc _ _ _ _ _ _ _ _ _ _ _ _ _ _)); (fail_if_success (with_reducible show LCg.CompEnd _ _ _ _ _ _ _ _ _ _ _ _ _ _)); (fail_if_success (with_reducible show @ite _ _ _ _ _)); (fail_if_success (with_reducible show wpAny _ _ (pyIter _) _ _ _)); (fail_if_success (with_reducible show Q _ _)); (fail_if_success (with_reducible show UnrPost _ _ _ _ _ _ _ _ _)); (fail_if_success (with_reducible show ∃ _, _)); walk1) | ((fail_if_success (with_reducible show wpAny _ _ (eval (Expr.ListComp _ _ _ _) _) _ _ _)); (fail_if_success (with_reducible show wpAny _ _ (exec (Stmt.Assign [_] (Expr.ListComp _ _ _ _) _) _) _ _ _)); (fail_if_success (with_reducible show LCt.CompSrcT _ _ _ _ _ _ _ _ _ _ _ _ _ _ _)); (fail_if_success (with_reducible show LCg.CompSrc _ _ _ _ _ _ _ _ _ _ _ _ _ _)); (fail_if_success (with_reducible show LCg.CompEnd _ _ _ _ _ _ _ _ _ _ _ _ _ _)); (fail_if_success (with_reducible show @ite _ _ _ _ _)); (fail_if_success (with_reducible show wpAny _ _ (pyIter _) _ _ _)); (fail_if_success (with_reducible show Q _ _)); (fail_if_success (with_reducible show UnrPost _ _ _ _ _ _ _ _ _)); (fail_if_success (with_reducible show ∃ _, _)); dsimp only; walk1))

        refine iteT rfl ?_
        repeat' (first | (k_unfold; (try dsimp only)) | ((fail_if_success (with_reducible show wpAny _ _ (eval (Expr.ListComp _ _ _ _) _) _ _ _)); (fail_if_success (with_reducible show wpAny _ _ (exec (Stmt.Assign [_] (Expr.ListComp _ _ _ _) _) _) _ _ _)); (fail_if_success (with_reducible show LCt.CompSrcT _ _ _ _ _ _ _ _ _ _ _ _ _ _ _)); (fail_if_success (with_reducible show LCg.CompSrc _ _ _ _ _ _ _ _ _ _ _ _ _ _)); (fail_if_success (with_reducible show LCg.CompEnd _ _ _ _ _ _ _ _ _ _ _ _ _ _)); (fail_if_success (with_reducible show @ite _ _ _ _ _)); (fail_if_success (with_reducible show wpAny _ _ (pyIter _) _ _ _)); (fail_if_success (with_reducible show Q _ _)); (fail_if_success (with_reducible show UnrPost _ _ _ _ _ _ _ _ _)); (fail_if_success (with_reducible show ∃ _, _)); walk1) | ((fail_if_success (with_reducible show wpAny _ _ (eval (Expr.ListComp _ _ _ _) _) _ _ _)); (fail_if_success (with_reducible show wpAny _ _ (exec (Stmt.Assign [_] (Expr.ListComp _ _ _ _) _) _) _ _ _)); (fail_if_success (with_reducible show LCt.CompSrcT _ _ _ _ _ _ _ _ _ _ _ _ _ _ _)); (fail_if_success (with_reducible show LCg.CompSrc _ _ _ _ _ _ _ _ _ _ _ _ _ _)); (fail_if_success (with_reducible show LCg.CompEnd _ _ _ _ _ _ _ _ _ _ _ _ _ _)); (fail_if_success (with_reducible show @ite _ _ _ _ _)); (fail_if_success (with_reducible show wpAny _ _ (pyIter _) _ _ _)); (fail_if_success (with_reducible show Q _ _)); (fail_if_success (with_reducible show UnrPost _ _ _ _ _ _ _ _ _)); (fail_if_success (with_reducible show ∃ _, _)); dsimp only; walk1))

        rename Fr g' L' _ _ => kF9
        rename News g' L' _ _ => kN9
        exact LCg.CompEnd.intro kF9 kN9 _ (fun p hp => hp) off (.inr ⟨_, (by k_mem), rfl, _, rfl⟩) ⟨rfl, us ++ [(z.s, t3)], by simp only [List.map_append, List.map_cons, List.map_nil], by rw [hfil true (by unfold fitW; rw [hq, hq2]; rfl)]; simp only [List.map_append, List.map_cons, List.map_nil, hus, if_true]⟩
      · refine iteF hq2 ?_
        repeat' (first | (k_unfold; (try dsimp only)) | ((fail_if_success (with_reducible show wpAny _ _ (eval (Expr.ListComp _ _ _ _) _) _ _ _)); (fail_if_success (with_reducible show wpAny _ _ (exec (Stmt.Assign [_] (Expr.ListComp _ _ _ _) _) _) _ _ _)); (fail_if_success (with_reducible show LCt.CompSrcT _ _ _ _ _ _ _ _ _ _ _ _ _ _ _)); (fail_if_success (with_reducible show LCg.CompSrc _ _ _ _ _ _ _ _ _ _ _ _ _ _)); (fail_if_success (with_reducible show LCg.CompEnd _ _ _ _ _ _ _ _ _ _ _ _ _ _)); (fail_if_success (with_reducible show @ite _ _ _ _ _)); (fail_if_success (with_reducible show wpAny _ _ (pyIter _) _ _ _)); (fail_if_success (with_reducible show Q _ _)); (fail_if_success (with_reducible show UnrPost _ _ _ _ _ _ _ _ _)); (fail_if_success (with_reducible show ∃ _, _)); walk1) | ((fail_if_success (with_reducible show wpAny _ _ (eval (Expr.ListComp _ _ _ _) _) _ _ _)); (fail_if_success (with_reducible show wpAny _ _ (exec (Stmt.Assign [_] (Expr.ListComp _ _ _ _) _) _) _ _ _)); (fail_if_success (with_reducible show LCt.CompSrcT _ _ _ _ _ _ _ _ _ _ _ _ _ _ _)); (fail_if_success (with_reducible show LCg.CompSrc _ _ _ _ _ _ _ _ _ _ _ _ _ _)); (fail_if_success (with_reducible show LCg.CompEnd _ _ _ _ _ _ _ _ _ _ _ _ _ _)); (fail_if_success (with_reducible show @ite _ _ _ _ _)); (fail_if_success (with_reducible show wpAny _ _ (pyIter _) _ _ _)); (fail_if_success (with_reducible show Q _ _)); (fail_if_success (with_reducible show UnrPost _ _ _ _ _ _ _ _ _)); (fail_if_success (with_reducible show ∃ _, _)); dsimp only; walk1))

        refine iteF (by decide) ?_
        rename Fr g' L' _ _ => kF9
        rename News g' L' _ _ => kN9
        exact LCg.CompEnd.intro kF9 kN9 _ (fun p hp => hp) off (.inr ⟨_, (by k_mem), rfl, _, rfl⟩) ⟨rfl, us, rfl, by rw [hfil false (by unfold fitW; rw [hq, Bool.eq_false_iff.mpr hq2]; rfl), hus]; simp⟩
    · refine iteF hq ?_
      repeat' (first | (k_unfold; (try dsimp only)) | ((fail_if_success (with_reducible show wpAny _ _ (eval (Expr.ListComp _ _ _ _) _) _ _ _)); (fail_if_success (with_reducible show wpAny _ _ (exec (Stmt.Assign [_] (Expr.ListComp _ _ _ _) _) _) _ _ _)); (fail_if_success (with_reducible show LCt.CompSrcT _ _ _ _ _ _ _ _ _ _ _ _ _ _ _)); (fail_if_success (with_reducible show LCg.CompSrc _ _ _ _ _ _ _ _ _ _ _ _ _ _)); (fail_if_success (with_reducible show LCg.CompEnd _ _ _ _ _ _ _ _ _ _ _ _ _ _)); (fail_if_success (with_reducible show @ite _ _ _ _ _)); (fail_if_success (with_reducible show wpAny _ _ (pyIter _) _ _ _)); (fail_if_success (with_reducible show Q _ _)); (fail_if_success (with_reducible show UnrPost _ _ _ _ _ _ _ _ _)); (fail_if_success (with_reducible show ∃ _, _)); walk1) | ((fail_if_success (with_reducible show wpAny _ _ (eval (Expr.ListComp _ _ _ _) _) _ _ _)); (fail_if_success (with_reducible show wpAny _ _ (exec (Stmt.Assign [_] (Expr.ListComp _ _ _ _) _) _) _ _ _)); (fail_if_success (with_reducible show LCt.CompSrcT _ _ _ _ _ _ _ _ _ _ _ _ _ _ _)); (fail_if_success (with_reducible show LCg.CompSrc _ _ _ _ _ _ _ _ _ _ _ _ _ _)); (fail_if_success (with_reducible show LCg.CompEnd _ _ _ _ _ _ _ _ _ _ _ _ _ _)); (fail_if_success (with_reducible show @ite _ _ _ _ _)); (fail_if_success (with_reducible show wpAny _ _ (pyIter _) _ _ _)); (fail_if_success (with_reducible show Q _ _)); (fail_if_success (with_reducible show UnrPost _ _ _ _ _ _ _ _ _)); (fail_if_success (with_reducible show ∃ _, _)); dsimp only; walk1))

      refine iteF (by decide) ?_
      rename Fr g' L' _ _ => kF9
      rename News g' L' _ _ => kN9
      exact LCg.CompEnd.intro kF9 kN9 _ (fun p hp => hp) off (.inr ⟨_, (by k_mem), rfl, _, rfl⟩) ⟨rfl, us, rfl, by rw [hfil false (by unfold fitW; rw [Bool.eq_false_iff.mpr hq]; rfl), hus]; simp⟩
end
end
section
open PySem PySem.W PyProof.Rows PySem.Spec
theorem lines_T12 : True := by
  k_with_none
  (k_with "om" => (with_reducible first | assumption | exact Nat.ne_of_lt ‹_› | exact Nat.ne_of_gt ‹_› | exact Ne.symm ‹_› | exact Mine.o_a ‹_› (by decide) | exact Mine.o_b ‹_› (by decide) | exact Mine.o_c ‹_› | exact Mine.o_le (n := 100) ‹_› (by decide) | exact Mine.o_le ‹_› (by decide) | exact Mine.o_l ‹_› (by decide) | exact Mine.o_1 (n := 100) ‹_› (by decide) | exact Mine.o_2 (n := 100) ‹_› (by decide) | exact Mine.o_lt (n := 100) ‹_› (by decide) | exact Mine.o_lt ‹_› (by decide) | exact Mine.o_ll ‹_› (by decide) | exact Mine.o_s ‹_› | exact Mine.o_n _ | exact Mine.o_0 _ | exact Mine.o_i ‹_› (by decide) | exact Mine.o_m ‹_› (by decide) | exact Mine.o_j (n := 100) ‹_› ‹_› (by decide) | exact Mine.o_k ‹_› ‹_› (by decide) | exact Mine.o_e (n := 100) ‹_› ‹_› (by decide) | exact Nat.ne_of_lt (by k_extra "cj") | exact Nat.ne_of_gt (by k_extra "cj") | exact Ne.symm (by k_extra "cj") | k_extra "cj" | fail))
  (k_with "cj" => (first | exact And.left ‹_› | exact Mine.c_2 ‹_› | exact Mine.c_3 ‹_› | exact Mine.c_4 ‹_› | exact Mine.c_5 ‹_› | exact Mine.c_6 ‹_› | exact Mine.c_7 ‹_› | exact Mine.c_8 ‹_› | exact Mine.c_9 ‹_› | exact And.right ‹_› | exact Mine.d_3 ‹_› | exact Mine.d_4 ‹_› | exact Mine.d_5 ‹_› | exact Mine.d_6 ‹_› | exact Mine.d_7 ‹_› | exact Mine.d_8 ‹_› | exact Mine.d_9 ‹_› | fail))
  (k_with "fn ctx" => (((case k1 => k_asm); (case k2 => k_asm); (case k3 => k_asm); (case k4 => k_asm); (case k5 => k_asm); (case kK => first | exact rfl | assumption); (case kd => ktr_room); (case ku => ktr_units))))
  (k_with "call ref" => ((k_here; (with_reducible show wpAny _ _ (call (Value.ref 228) _ _) _ _ _); k_dflt (refine' (law_kind).use ?k1 ?k2 ?k3 ?k4 ?k5 ?kK ?kd ?ku ?kz ?_; (walk_at "fn ctx"); (case kz => exact fun _ h => nomatch h); intro zqr9 zqh9 zqtk9 zqF9 zqN9 zqk9 zqho9; obtain ⟨zqt9, zqhr9⟩ := zqho9; subst zqhr9; (try dsimp only); (try k_sweep)))))
  (k_with "call ref" => ((k_here; (with_reducible show wpAny _ _ (call (Value.ref 235) _ _) _ _ _); k_dflt (refine' (law_worth).use ?k1 ?k2 ?k3 ?k4 ?k5 ?kK ?kd ?ku ?kz ?_; (walk_at "fn ctx"); (case kz => exact fun _ h => nomatch h); intro zqr9 zqh9 zqtk9 zqF9 zqN9 zqk9 zqho9; obtain ⟨zqt9, zqhr9⟩ := zqho9; subst zqhr9; (try dsimp only); (try k_sweep)))))
  (k_with "call builtin:len" => ((k_here; (with_reducible show wpAny _ _ (call (Value.builtin "len") [Value.ref _]) _ _ _); k_dflt (first | (refine' len_led ?k1 ?k2 ?k3 ?_; (case k1 => k_asm); (case k2 => k_mem); (case k3 => first | with_reducible assumption | omega | (simp only [List.size_toArray, List.length_map]; omega)); k_whole) | (refine' len_base ?k1 ?k2 ?k3 ?_; (case k1 => k_asm); (case k2 => with_reducible assumption); (case k3 => first | with_reducible assumption | omega); k_whole)))))
  (k_with "m look" => (first | with_reducible assumption | (with_reducible exact lk_hit rfl) | (with_reducible refine' lk_ne ?hh ?hv; (case hh => decide); (case hv => walk_at "m look"))))
  (k_with "eval Name" => ((k_here; k_dflt (refine' nameX_L ?F ?v ?_ ?a ?b; (case b => rfl); (case a => rfl); (case F => k_asm); (case v => walk_at "m look"); k_whole))))
  (k_with "subscriptTail Name Constant ref int" => ((k_here; (with_reducible show wpAny _ _ (subscriptTail _ _ (Value.ref _) (Value.int 0 _)) _ _ _); k_dflt (refine' itemS_0 ?k1 ?k2 ?_ ?k7; (case k7 => with_unfolding_all rfl); (case k1 => k_asm); (case k2 => k_mem); k_whole))))
  trivial
section
variable {prog : Program} {w : World} {A : Around} {E : Value → Shared → Prop} {s : Shared} {h₀ : Heap} {L D : Addr} {news : List (Addr × Obj)} {n : Nat} {u : Tok} {a0 : ST} {as : List ST}
theorem itemS_0 {value slice : PySem.Expr} {Q : Value → Shared → Prop} (N : News h₀ L s.heap news) (hm : (D, listOf (svals (a0 :: as)) n) ∈ news) (h : Q (.str a0.1 a0.2) s)
    (hs : subscripted slice false (.ref D) (.int 0 u) = operate [.ref D, .int 0 u] (getItem (.ref D) (.int 0 u)) := by with_unfolding_all rfl) : wpAny (model prog w) A (subscriptTail value slice (.ref D) (.int 0 u)) Q E s :=
  item_led N hm (by decide) (by decide) (by simp [svals]) h hs
end
def setL (l : List (Str × Str)) (us : List Str) : List (Str × Str) := match us with
  | [] => l
  | u :: _ => (l.filter fun p => Txt.lower p.1 != Txt.lower (Str.ofString "Content-Type")) ++ [(Str.ofString "Content-Type", u)]
theorem filt_hd (hs : List Hd) (f : Str → Bool) : (hs.filter fun k => f k.nm).map (fun h => (h.nm, h.val)) = (hs.map fun h => (h.nm, h.val)).filter fun p => f p.1 := by
  induction hs with
  | nil => rfl
  | cons h hs ih => simp only [List.filter_cons, List.map_cons]; cases f h.nm <;> simp [ih]
theorem tup_ne_inst {v0 v1 : Value} {a d : Addr} : tup2 v0 v1 ≠ instObj a d := fun e => by have := congrArg Obj.cls e; exact nomatch this
theorem tup_ne_dict {v0 v1 : Value} : ∀ {es d}, tup2 v0 v1 ≠ dictOf es d := fun e => by have := congrArg Obj.cls e; simp at this
theorem tup_ne_cell {v0 v1 : Value} {c1 : Obj} {vc : Option Value} (hc : c1.data = .cell vc) : tup2 v0 v1 ≠ c1 := fun e => by have := congrArg Obj.data e; rw [hc] at this; exact nomatch this
section
variable {w : World} {mean : ExcName → Option Value} {mg mb : Str → Option Value} {dp un : Nat} {gd : Option (List Code)} {cn : Str} {cs : Scope} {a : Addr} {ccd : Value} {cl : List (Str × Addr)} {outer : List Env} {base g' : Heap} {L L' : Addr} {s : Shared} {Q : Flow → Shared → Prop} {E : Value → Shared → Prop} {m : Str → Option Value}
variable {od hp x dx hl : Addr} {oOd oHp c1 : Obj} {hh : Int} {tk0 nd n : Nat} {hs : List Hd} {tail : Led} {nl tl : Addr} {n1 n2 : Nat} {xs : List IT} {th : List ST}
set_option maxRecDepth 100000 in
set_option maxHeartbeats 8000000 in
theorem srv_set (C : Ctx w mean mg mb dp un gd cn cs a ccd cl outer base g' L) {us : List ST} {Df : Addr} {nf : Nat} (P : Apart od hp x dx hl (L' + 1) ((Df, listOf (svals us) nf) :: tail))
    (F : Fr g' L' s.heap m) (N : News g' L' s.heap (srvL od hp x dx hl L' oOd oHp hh tk0 nd (hvals hs) n c1 ((Df, listOf (svals us) nf) :: tail))) (hmt : m (Str.ofString "table") = some (.ref x)) (hmf : m (Str.ofString "fit") = some (.ref Df)) {vc : Option Value} (hc : c1.data = .cell vc) {vo vp : Array Value} {no np : Nat} (hoD : oOd = listOf vo no) (hoP : oHp = listOf vp np) (hsz : hs.length ≤ 1000) (hin : ∀ h ∈ hs, h.e ∈ tail) (hnm : ∀ h ∈ hs, h.nm.length ≤ 100) (hus : ∀ u ∈ us, fails valueCode u.1 = true)
    (k : ∀ (hs2 : List Hd) n' (extra : Led) h tk, Fr g' L' h m → News g' L' h (srvL od hp x dx hl L' oOd oHp hh tk0 nd (hvals hs2) n' c1 (extra ++ (Df, listOf (svals us) nf) :: tail)) → (∀ h ∈ hs2, h.e ∈ extra ++ (Df, listOf (svals us) nf) :: tail) → Apart od hp x dx hl (L' + 1) (extra ++ (Df, listOf (svals us) nf) :: tail) → hs2.length ≤ hs.length + 1 → hs2.map (fun h => (h.nm, h.val)) = setL (hs.map fun h => (h.nm, h.val)) (us.map (·.1)) → Q .next { s with heap := h, toks := tk }) :
    wpAny (model PG w) ((ktrTop dp un gd cn cs L a ccd cl outer).deeper (srvEnv L')) (exec srvSt12 (srvEnv L')) Q E s := by
  obtain ⟨B', X', T', hk, hdp, hun⟩ := C
  unfold srvSt12 srvEnv
  dsimp only [st0, tl0]

  repeat' (first | (k_unfold; (try dsimp only)) | ((fail_if_success (with_reducible show wpAny _ _ (eval (Expr.ListComp _ _ _ _) _) _ _ _)); (fail_if_success (with_reducible show wpAny _ _ (exec (Stmt.Assign [_] (Expr.ListComp _ _ _ _) _) _) _ _ _)); (fail_if_success (with_reducible show LCt.CompSrcT _ _ _ _ _ _ _ _ _ _ _ _ _ _ _)); (fail_if_success (with_reducible show LCg.CompSrc _ _ _ _ _ _ _ _ _ _ _ _ _ _)); (fail_if_success (with_reducible show LCg.CompEnd _ _ _ _ _ _ _ _ _ _ _ _ _ _)); (fail_if_success (with_reducible show @ite _ _ _ _ _)); (fail_if_success (with_reducible show wpAny _ _ (pyIter _) _ _ _)); (fail_if_success (with_reducible show Q _ _)); (fail_if_success (with_reducible show UnrPost _ _ _ _ _ _ _ _ _)); (fail_if_success (with_reducible show ∃ _, _)); (fail_if_success (with_reducible show wpAny _ _ (call (Value.ref 132) _ _) _ _ _)); (fail_if_success (with_reducible show wpAny _ _ (compareOp CmpOp.NotEq (Value.ref _) (Value.ref _)) _ _ _)); walk1) | ((fail_if_success (with_reducible show wpAny _ _ (eval (Expr.ListComp _ _ _ _) _) _ _ _)); (fail_if_success (with_reducible show wpAny _ _ (exec (Stmt.Assign [_] (Expr.ListComp _ _ _ _) _) _) _ _ _)); (fail_if_success (with_reducible show LCt.CompSrcT _ _ _ _ _ _ _ _ _ _ _ _ _ _ _)); (fail_if_success (with_reducible show LCg.CompSrc _ _ _ _ _ _ _ _ _ _ _ _ _ _)); (fail_if_success (with_reducible show LCg.CompEnd _ _ _ _ _ _ _ _ _ _ _ _ _ _)); (fail_if_success (with_reducible show @ite _ _ _ _ _)); (fail_if_success (with_reducible show wpAny _ _ (pyIter _) _ _ _)); (fail_if_success (with_reducible show Q _ _)); (fail_if_success (with_reducible show UnrPost _ _ _ _ _ _ _ _ _)); (fail_if_success (with_reducible show ∃ _, _)); (fail_if_success (with_reducible show wpAny _ _ (call (Value.ref 132) _ _) _ _ _)); (fail_if_success (with_reducible show wpAny _ _ (compareOp CmpOp.NotEq (Value.ref _) (Value.ref _)) _ _ _)); dsimp only; walk1))

  rename Fr g' L' _ _ => kF9
  rename News g' L' _ _ => kN9
  refine ne_nil (its := svals us) (PySem.IsL.isList (News.get kN9 (by k_mem))) (PySem.IsL.isList (News.get kN9 (by k_mem))) (by ktr_units) ?_
  rcases us with _ | ⟨u, us⟩
  · repeat' (first | (k_unfold; (try dsimp only)) | ((fail_if_success (with_reducible show wpAny _ _ (eval (Expr.ListComp _ _ _ _) _) _ _ _)); (fail_if_success (with_reducible show wpAny _ _ (exec (Stmt.Assign [_] (Expr.ListComp _ _ _ _) _) _) _ _ _)); (fail_if_success (with_reducible show LCt.CompSrcT _ _ _ _ _ _ _ _ _ _ _ _ _ _ _)); (fail_if_success (with_reducible show LCg.CompSrc _ _ _ _ _ _ _ _ _ _ _ _ _ _)); (fail_if_success (with_reducible show LCg.CompEnd _ _ _ _ _ _ _ _ _ _ _ _ _ _)); (fail_if_success (with_reducible show @ite _ _ _ _ _)); (fail_if_success (with_reducible show wpAny _ _ (pyIter _) _ _ _)); (fail_if_success (with_reducible show Q _ _)); (fail_if_success (with_reducible show UnrPost _ _ _ _ _ _ _ _ _)); (fail_if_success (with_reducible show ∃ _, _)); (fail_if_success (with_reducible show wpAny _ _ (call (Value.ref 132) _ _) _ _ _)); (fail_if_success (with_reducible show wpAny _ _ (compareOp CmpOp.NotEq (Value.ref _) (Value.ref _)) _ _ _)); walk1) | ((fail_if_success (with_reducible show wpAny _ _ (eval (Expr.ListComp _ _ _ _) _) _ _ _)); (fail_if_success (with_reducible show wpAny _ _ (exec (Stmt.Assign [_] (Expr.ListComp _ _ _ _) _) _) _ _ _)); (fail_if_success (with_reducible show LCt.CompSrcT _ _ _ _ _ _ _ _ _ _ _ _ _ _ _)); (fail_if_success (with_reducible show LCg.CompSrc _ _ _ _ _ _ _ _ _ _ _ _ _ _)); (fail_if_success (with_reducible show LCg.CompEnd _ _ _ _ _ _ _ _ _ _ _ _ _ _)); (fail_if_success (with_reducible show @ite _ _ _ _ _)); (fail_if_success (with_reducible show wpAny _ _ (pyIter _) _ _ _)); (fail_if_success (with_reducible show Q _ _)); (fail_if_success (with_reducible show UnrPost _ _ _ _ _ _ _ _ _)); (fail_if_success (with_reducible show ∃ _, _)); (fail_if_success (with_reducible show wpAny _ _ (call (Value.ref 132) _ _) _ _ _)); (fail_if_success (with_reducible show wpAny _ _ (compareOp CmpOp.NotEq (Value.ref _) (Value.ref _)) _ _ _)); dsimp only; walk1))

    refine iteF (by decide) ?_
    repeat' (first | (k_unfold; (try dsimp only)) | ((fail_if_success (with_reducible show wpAny _ _ (eval (Expr.ListComp _ _ _ _) _) _ _ _)); (fail_if_success (with_reducible show wpAny _ _ (exec (Stmt.Assign [_] (Expr.ListComp _ _ _ _) _) _) _ _ _)); (fail_if_success (with_reducible show LCt.CompSrcT _ _ _ _ _ _ _ _ _ _ _ _ _ _ _)); (fail_if_success (with_reducible show LCg.CompSrc _ _ _ _ _ _ _ _ _ _ _ _ _ _)); (fail_if_success (with_reducible show LCg.CompEnd _ _ _ _ _ _ _ _ _ _ _ _ _ _)); (fail_if_success (with_reducible show @ite _ _ _ _ _)); (fail_if_success (with_reducible show wpAny _ _ (pyIter _) _ _ _)); (fail_if_success (with_reducible show Q _ _)); (fail_if_success (with_reducible show UnrPost _ _ _ _ _ _ _ _ _)); (fail_if_success (with_reducible show ∃ _, _)); (fail_if_success (with_reducible show wpAny _ _ (call (Value.ref 132) _ _) _ _ _)); (fail_if_success (with_reducible show wpAny _ _ (compareOp CmpOp.NotEq (Value.ref _) (Value.ref _)) _ _ _)); walk1) | ((fail_if_success (with_reducible show wpAny _ _ (eval (Expr.ListComp _ _ _ _) _) _ _ _)); (fail_if_success (with_reducible show wpAny _ _ (exec (Stmt.Assign [_] (Expr.ListComp _ _ _ _) _) _) _ _ _)); (fail_if_success (with_reducible show LCt.CompSrcT _ _ _ _ _ _ _ _ _ _ _ _ _ _ _)); (fail_if_success (with_reducible show LCg.CompSrc _ _ _ _ _ _ _ _ _ _ _ _ _ _)); (fail_if_success (with_reducible show LCg.CompEnd _ _ _ _ _ _ _ _ _ _ _ _ _ _)); (fail_if_success (with_reducible show @ite _ _ _ _ _)); (fail_if_success (with_reducible show wpAny _ _ (pyIter _) _ _ _)); (fail_if_success (with_reducible show Q _ _)); (fail_if_success (with_reducible show UnrPost _ _ _ _ _ _ _ _ _)); (fail_if_success (with_reducible show ∃ _, _)); (fail_if_success (with_reducible show wpAny _ _ (call (Value.ref 132) _ _) _ _ _)); (fail_if_success (with_reducible show wpAny _ _ (compareOp CmpOp.NotEq (Value.ref _) (Value.ref _)) _ _ _)); dsimp only; walk1))

    rename Fr g' L' _ _ => kF9
    rename News g' L' _ _ => kN9
    exact k hs n [] _ _ kF9 (cb_drop kN9 fun p hp => .tail _ hp) (fun h hh => .tail _ (hin h hh)) P (Nat.le_succ _) rfl
  · have hv0 : ((svals (u :: us)).size != 0) = true := by rw [svals_size]; rfl
    rw [hv0]
    repeat' (first | (k_unfold; (try dsimp only)) | ((fail_if_success (with_reducible show wpAny _ _ (eval (Expr.ListComp _ _ _ _) _) _ _ _)); (fail_if_success (with_reducible show wpAny _ _ (exec (Stmt.Assign [_] (Expr.ListComp _ _ _ _) _) _) _ _ _)); (fail_if_success (with_reducible show LCt.CompSrcT _ _ _ _ _ _ _ _ _ _ _ _ _ _ _)); (fail_if_success (with_reducible show LCg.CompSrc _ _ _ _ _ _ _ _ _ _ _ _ _ _)); (fail_if_success (with_reducible show LCg.CompEnd _ _ _ _ _ _ _ _ _ _ _ _ _ _)); (fail_if_success (with_reducible show @ite _ _ _ _ _)); (fail_if_success (with_reducible show wpAny _ _ (pyIter _) _ _ _)); (fail_if_success (with_reducible show Q _ _)); (fail_if_success (with_reducible show UnrPost _ _ _ _ _ _ _ _ _)); (fail_if_success (with_reducible show ∃ _, _)); (fail_if_success (with_reducible show wpAny _ _ (call (Value.ref 132) _ _) _ _ _)); (fail_if_success (with_reducible show wpAny _ _ (compareOp CmpOp.NotEq (Value.ref _) (Value.ref _)) _ _ _)); walk1) | ((fail_if_success (with_reducible show wpAny _ _ (eval (Expr.ListComp _ _ _ _) _) _ _ _)); (fail_if_success (with_reducible show wpAny _ _ (exec (Stmt.Assign [_] (Expr.ListComp _ _ _ _) _) _) _ _ _)); (fail_if_success (with_reducible show LCt.CompSrcT _ _ _ _ _ _ _ _ _ _ _ _ _ _ _)); (fail_if_success (with_reducible show LCg.CompSrc _ _ _ _ _ _ _ _ _ _ _ _ _ _)); (fail_if_success (with_reducible show LCg.CompEnd _ _ _ _ _ _ _ _ _ _ _ _ _ _)); (fail_if_success (with_reducible show @ite _ _ _ _ _)); (fail_if_success (with_reducible show wpAny _ _ (pyIter _) _ _ _)); (fail_if_success (with_reducible show Q _ _)); (fail_if_success (with_reducible show UnrPost _ _ _ _ _ _ _ _ _)); (fail_if_success (with_reducible show ∃ _, _)); (fail_if_success (with_reducible show wpAny _ _ (call (Value.ref 132) _ _) _ _ _)); (fail_if_success (with_reducible show wpAny _ _ (compareOp CmpOp.NotEq (Value.ref _) (Value.ref _)) _ _ _)); dsimp only; walk1))

    refine iteT rfl ?_
    repeat' (first | (k_unfold; (try dsimp only)) | ((fail_if_success (with_reducible show wpAny _ _ (eval (Expr.ListComp _ _ _ _) _) _ _ _)); (fail_if_success (with_reducible show wpAny _ _ (exec (Stmt.Assign [_] (Expr.ListComp _ _ _ _) _) _) _ _ _)); (fail_if_success (with_reducible show LCt.CompSrcT _ _ _ _ _ _ _ _ _ _ _ _ _ _ _)); (fail_if_success (with_reducible show LCg.CompSrc _ _ _ _ _ _ _ _ _ _ _ _ _ _)); (fail_if_success (with_reducible show LCg.CompEnd _ _ _ _ _ _ _ _ _ _ _ _ _ _)); (fail_if_success (with_reducible show @ite _ _ _ _ _)); (fail_if_success (with_reducible show wpAny _ _ (pyIter _) _ _ _)); (fail_if_success (with_reducible show Q _ _)); (fail_if_success (with_reducible show UnrPost _ _ _ _ _ _ _ _ _)); (fail_if_success (with_reducible show ∃ _, _)); (fail_if_success (with_reducible show wpAny _ _ (call (Value.ref 132) _ _) _ _ _)); (fail_if_success (with_reducible show wpAny _ _ (compareOp CmpOp.NotEq (Value.ref _) (Value.ref _)) _ _ _)); walk1) | ((fail_if_success (with_reducible show wpAny _ _ (eval (Expr.ListComp _ _ _ _) _) _ _ _)); (fail_if_success (with_reducible show wpAny _ _ (exec (Stmt.Assign [_] (Expr.ListComp _ _ _ _) _) _) _ _ _)); (fail_if_success (with_reducible show LCt.CompSrcT _ _ _ _ _ _ _ _ _ _ _ _ _ _ _)); (fail_if_success (with_reducible show LCg.CompSrc _ _ _ _ _ _ _ _ _ _ _ _ _ _)); (fail_if_success (with_reducible show LCg.CompEnd _ _ _ _ _ _ _ _ _ _ _ _ _ _)); (fail_if_success (with_reducible show @ite _ _ _ _ _)); (fail_if_success (with_reducible show wpAny _ _ (pyIter _) _ _ _)); (fail_if_success (with_reducible show Q _ _)); (fail_if_success (with_reducible show UnrPost _ _ _ _ _ _ _ _ _)); (fail_if_success (with_reducible show ∃ _, _)); (fail_if_success (with_reducible show wpAny _ _ (call (Value.ref 132) _ _) _ _ _)); (fail_if_success (with_reducible show wpAny _ _ (compareOp CmpOp.NotEq (Value.ref _) (Value.ref _)) _ _ _)); dsimp only; walk1))

    rename Fr g' L' _ _ => kF9
    rename News g' L' _ _ => kN9
    have lt := P.lt
    have d1 : x ≠ dx := Nat.ne_of_gt P.lt.2.2.1
    have d2 : x ≠ hl := by refine neN ?_; omega
    have d3 : dx ≠ hl := Nat.ne_of_gt P.lt.2.1
    k_dflt (refine' (setitem (rest := (od, oOd) :: (hp, oHp) :: (L' + 1, c1) :: (Df, listOf (svals (u :: us)) nf) :: tail) (hh := hh) (tk0 := tk0) (nd := nd) (n := n) (hs := hs) d1 d2 d3 hsz (fun h hh => ⟨.tail _ (.tail _ (.tail _ (.tail _ (hin h hh)))), hnm h hh⟩) (by decide +kernel) (by decide +kernel) (hus u (.head _)) (by decide +kernel)).use ?k1 ?k2 ?k3 kN9 ?k5 ?kK ?kd ?ku ?kM ?kR ?kS ?_; (case k1 => k_asm); (case k2 => k_asm); (case k3 => k_asm); (case k5 => k_asm); (case kK => exact rfl); (case kd => ktr_room); (case ku => ktr_units))
    case kM => (simp only [List.forall_mem_cons, srvL]; refine ⟨?_, ?_, ?_, List.forall_mem_nil _⟩ <;> k_mem)
    case kR => (simp only [List.forall_mem_cons, srvL]; refine ⟨?_, ?_, ?_, ?_, ?_⟩; k_mem; k_mem; k_mem; k_mem; exact fun p hp => .tail _ (.tail _ (.tail _ (.tail _ (.tail _ (.tail _ (.tail _ (.tail _ hp))))))))
    case kS => exact sep_srv P
    rintro r muts' h' tk' F10 N10 ⟨b, n', hr, hmu⟩
    subst hr hmu
    have N10' : ∃ tC, News g' L' h' ((b, tup2 (.str (Str.ofString "Content-Type") tC) (.str u.1 u.2)) :: (x, instObj 217 dx) :: (dx, dictOf [⟨hh, .str (Str.ofString "_headers") tk0, .ref hl⟩] nd) :: (hl, listOf ((hvals (hs.filter fun k => Txt.lower k.nm != Txt.lower (Str.ofString "Content-Type"))).push (.ref b)) n') :: (od, oOd) :: (hp, oHp) :: (L' + 1, c1) :: (Df, listOf (svals (u :: us)) nf) :: tail) := ⟨_, N10⟩
    clear kN9 kF9 N10
    obtain ⟨tC, N10⟩ := N10'
    rw [hvals_push (hs.filter fun k => Txt.lower k.nm != Txt.lower (Str.ofString "Content-Type")) ⟨b, Str.ofString "Content-Type", tC, u.1, u.2⟩] at N10
    have a3 := ne_of_obj N10 (.head _) (.tail _ (.head _)) tup_ne_inst
    have a4 := ne_of_obj N10 (.head _) (.tail _ (.tail _ (.head _))) tup_ne_dict
    have a5 := ne_of_obj N10 (.head _) (.tail _ (.tail _ (.tail _ (.head _)))) tup_ne_list
    have a1 := ne_of_obj N10 (.head _) (.tail _ (.tail _ (.tail _ (.tail _ (.head _))))) (by rw [hoD]; exact tup_ne_list)
    have a2 := ne_of_obj N10 (.head _) (.tail _ (.tail _ (.tail _ (.tail _ (.tail _ (.head _)))))) (by rw [hoP]; exact tup_ne_list)
    have a6 := ne_of_obj N10 (.head _) (.tail _ (.tail _ (.tail _ (.tail _ (.tail _ (.tail _ (.head _))))))) (tup_ne_cell hc)
    (try dsimp only)
    repeat' (first | (k_unfold; (try dsimp only)) | ((fail_if_success (with_reducible show wpAny _ _ (eval (Expr.ListComp _ _ _ _) _) _ _ _)); (fail_if_success (with_reducible show wpAny _ _ (exec (Stmt.Assign [_] (Expr.ListComp _ _ _ _) _) _) _ _ _)); (fail_if_success (with_reducible show LCt.CompSrcT _ _ _ _ _ _ _ _ _ _ _ _ _ _ _)); (fail_if_success (with_reducible show LCg.CompSrc _ _ _ _ _ _ _ _ _ _ _ _ _ _)); (fail_if_success (with_reducible show LCg.CompEnd _ _ _ _ _ _ _ _ _ _ _ _ _ _)); (fail_if_success (with_reducible show @ite _ _ _ _ _)); (fail_if_success (with_reducible show wpAny _ _ (pyIter _) _ _ _)); (fail_if_success (with_reducible show Q _ _)); (fail_if_success (with_reducible show UnrPost _ _ _ _ _ _ _ _ _)); (fail_if_success (with_reducible show ∃ _, _)); (fail_if_success (with_reducible show wpAny _ _ (call (Value.ref 132) _ _) _ _ _)); (fail_if_success (with_reducible show wpAny _ _ (compareOp CmpOp.NotEq (Value.ref _) (Value.ref _)) _ _ _)); walk1) | ((fail_if_success (with_reducible show wpAny _ _ (eval (Expr.ListComp _ _ _ _) _) _ _ _)); (fail_if_success (with_reducible show wpAny _ _ (exec (Stmt.Assign [_] (Expr.ListComp _ _ _ _) _) _) _ _ _)); (fail_if_success (with_reducible show LCt.CompSrcT _ _ _ _ _ _ _ _ _ _ _ _ _ _ _)); (fail_if_success (with_reducible show LCg.CompSrc _ _ _ _ _ _ _ _ _ _ _ _ _ _)); (fail_if_success (with_reducible show LCg.CompEnd _ _ _ _ _ _ _ _ _ _ _ _ _ _)); (fail_if_success (with_reducible show @ite _ _ _ _ _)); (fail_if_success (with_reducible show wpAny _ _ (pyIter _) _ _ _)); (fail_if_success (with_reducible show Q _ _)); (fail_if_success (with_reducible show UnrPost _ _ _ _ _ _ _ _ _)); (fail_if_success (with_reducible show ∃ _, _)); (fail_if_success (with_reducible show wpAny _ _ (call (Value.ref 132) _ _) _ _ _)); (fail_if_success (with_reducible show wpAny _ _ (compareOp CmpOp.NotEq (Value.ref _) (Value.ref _)) _ _ _)); dsimp only; walk1))

    rename Fr g' L' _ _ => kF9
    rename News g' L' _ _ => kN9
    refine k ((hs.filter fun k => Txt.lower k.nm != Txt.lower (Str.ofString "Content-Type")) ++ [⟨b, Str.ofString "Content-Type", tC, u.1, u.2⟩]) n' [(b, tup2 (.str (Str.ofString "Content-Type") tC) (.str u.1 u.2))] _ _ kF9 (cb_drop kN9 ?sub) ?hin2 ⟨P.lt, ⟨a3, P.t1⟩, ⟨a4, P.t2⟩, ⟨a5, P.t3⟩, ⟨a2, P.t4⟩, ⟨a1, P.t5⟩, ⟨a6, P.t6⟩⟩ ?hlen ?hmap
    case sub =>
      simp only [List.forall_mem_cons, srvL, List.cons_append, List.nil_append]
      refine ⟨?_, ?_, ?_, ?_, ?_, ?_, ?_, ?_, ?_⟩
      all_goals first | (k_mem; done) | exact fun p hp => .tail _ (.tail _ (.tail _ (.tail _ (.tail _ (.tail _ (.tail _ (.tail _ hp)))))))
    case hin2 =>
      intro h hm
      rcases List.mem_append.mp hm with hm | hm
      · exact .tail _ (.tail _ (hin h (List.mem_filter.mp hm).1))
      · obtain rfl := List.mem_singleton.mp hm
        exact .head _
    case hlen =>
      rw [List.length_append]
      have := List.length_filter_le (fun k : Hd => Txt.lower k.nm != Txt.lower (Str.ofString "Content-Type")) hs
      simp only [List.length_cons, List.length_nil]; omega
    case hmap =>
      rw [List.map_append, filt_hd hs fun y => Txt.lower y != Txt.lower (Str.ofString "Content-Type")]
      rfl
end
end
section
open PySem PySem.W PyProof.Rows PySem.Spec
theorem lines_T13 : True := by
  k_with_none
  (k_with "om" => (with_reducible first | assumption | exact Nat.ne_of_lt ‹_› | exact Nat.ne_of_gt ‹_› | exact Ne.symm ‹_› | exact Mine.o_a ‹_› (by decide) | exact Mine.o_b ‹_› (by decide) | exact Mine.o_c ‹_› | exact Mine.o_le (n := 100) ‹_› (by decide) | exact Mine.o_le ‹_› (by decide) | exact Mine.o_l ‹_› (by decide) | exact Mine.o_1 (n := 100) ‹_› (by decide) | exact Mine.o_2 (n := 100) ‹_› (by decide) | exact Mine.o_lt (n := 100) ‹_› (by decide) | exact Mine.o_lt ‹_› (by decide) | exact Mine.o_ll ‹_› (by decide) | exact Mine.o_s ‹_› | exact Mine.o_n _ | exact Mine.o_0 _ | exact Mine.o_i ‹_› (by decide) | exact Mine.o_m ‹_› (by decide) | exact Mine.o_j (n := 100) ‹_› ‹_› (by decide) | exact Mine.o_k ‹_› ‹_› (by decide) | exact Mine.o_e (n := 100) ‹_› ‹_› (by decide) | exact Nat.ne_of_lt (by k_extra "cj") | exact Nat.ne_of_gt (by k_extra "cj") | exact Ne.symm (by k_extra "cj") | k_extra "cj" | fail))
  (k_with "cj" => (first | exact And.left ‹_› | exact Mine.c_2 ‹_› | exact Mine.c_3 ‹_› | exact Mine.c_4 ‹_› | exact Mine.c_5 ‹_› | exact Mine.c_6 ‹_› | exact Mine.c_7 ‹_› | exact Mine.c_8 ‹_› | exact Mine.c_9 ‹_› | exact And.right ‹_› | exact Mine.d_3 ‹_› | exact Mine.d_4 ‹_› | exact Mine.d_5 ‹_› | exact Mine.d_6 ‹_› | exact Mine.d_7 ‹_› | exact Mine.d_8 ‹_› | exact Mine.d_9 ‹_› | fail))
  (k_with "fn ctx" => (((case k1 => k_asm); (case k2 => k_asm); (case k3 => k_asm); (case k4 => k_asm); (case k5 => k_asm); (case kK => first | exact rfl | assumption); (case kd => ktr_room); (case ku => ktr_units))))
  (k_with "call ref" => ((k_here; (with_reducible show wpAny _ _ (call (Value.ref 228) _ _) _ _ _); k_dflt (refine' (law_kind).use ?k1 ?k2 ?k3 ?k4 ?k5 ?kK ?kd ?ku ?kz ?_; (walk_at "fn ctx"); (case kz => exact fun _ h => nomatch h); intro zqr9 zqh9 zqtk9 zqF9 zqN9 zqk9 zqho9; obtain ⟨zqt9, zqhr9⟩ := zqho9; subst zqhr9; (try dsimp only); (try k_sweep)))))
  (k_with "call ref" => ((k_here; (with_reducible show wpAny _ _ (call (Value.ref 235) _ _) _ _ _); k_dflt (refine' (law_worth).use ?k1 ?k2 ?k3 ?k4 ?k5 ?kK ?kd ?ku ?kz ?_; (walk_at "fn ctx"); (case kz => exact fun _ h => nomatch h); intro zqr9 zqh9 zqtk9 zqF9 zqN9 zqk9 zqho9; obtain ⟨zqt9, zqhr9⟩ := zqho9; subst zqhr9; (try dsimp only); (try k_sweep)))))
  (k_with "call builtin:len" => ((k_here; (with_reducible show wpAny _ _ (call (Value.builtin "len") [Value.ref _]) _ _ _); k_dflt (first | (refine' len_led ?k1 ?k2 ?k3 ?_; (case k1 => k_asm); (case k2 => k_mem); (case k3 => first | with_reducible assumption | omega | (simp only [List.size_toArray, List.length_map]; omega)); k_whole) | (refine' len_base ?k1 ?k2 ?k3 ?_; (case k1 => k_asm); (case k2 => with_reducible assumption); (case k3 => first | with_reducible assumption | omega); k_whole)))))
  (k_with "m look" => (first | with_reducible assumption | (with_reducible exact lk_hit rfl) | (with_reducible refine' lk_ne ?hh ?hv; (case hh => decide); (case hv => walk_at "m look"))))
  (k_with "eval Name" => ((k_here; k_dflt (refine' nameX_L ?F ?v ?_ ?a ?b; (case b => rfl); (case a => rfl); (case F => k_asm); (case v => walk_at "m look"); k_whole))))
  (k_with "subscriptTail Name Constant ref int" => ((k_here; (with_reducible show wpAny _ _ (subscriptTail _ _ (Value.ref _) (Value.int 1 _)) _ _ _); k_dflt (refine' item3_1 ?k1 ?k2 ?_ ?k7; (case k7 => with_unfolding_all rfl); (case k1 => k_asm); (case k2 => (repeat (first | assumption | refine List.Mem.tail _ ?_))); k_whole))))
  trivial
section
variable {prog : Program} {w : World} {A : Around} {E : Value → Shared → Prop} {s : Shared} {h₀ : Heap} {L D : Addr} {news : List (Addr × Obj)} {n : Nat} {u : Tok} {a0 a1 a2 : Value}
theorem item3_1 {value slice : PySem.Expr} {Q : Value → Shared → Prop} (N : News h₀ L s.heap news) (hm : (D, listOf #[a0, a1, a2] n) ∈ news) (h : Q a1 s)
    (hs : subscripted slice false (.ref D) (.int 1 u) = operate [.ref D, .int 1 u] (getItem (.ref D) (.int 1 u)) := by with_unfolding_all rfl) : wpAny (model prog w) A (subscriptTail value slice (.ref D) (.int 1 u)) Q E s :=
  item_led N hm (by decide) (by decide) rfl h hs
end
section
variable {w : World} {mean : ExcName → Option Value} {mg mb : Str → Option Value} {dp un : Nat} {gd : Option (List Code)} {cn : Str} {cs : Scope} {a : Addr} {ccd : Value} {cl : List (Str × Addr)} {outer : List Env} {base g' : Heap} {L L' : Addr} {s : Shared} {Q : Flow → Shared → Prop} {E : Value → Shared → Prop} {m : Str → Option Value}
variable {od hp x dx hl : Addr} {oOd oHp c1 : Obj} {hh : Int} {tk0 nd n : Nat} {hs : List Hd} {tail : Led} {nl tl : Addr} {n1 n2 : Nat} {xs : List IT} {th : List ST}
set_option maxRecDepth 100000 in
set_option maxHeartbeats 8000000 in
theorem srv_ret (C : Ctx w mean mg mb dp un gd cn cs a ccd cl outer base g' L) {ps : List W} {Dw Dm Du : Addr} {no : Nat} (P : Apart od hp x dx hl (L' + 1) tail) (hok : ∀ y ∈ ps, OkW tail y) (hpl : ps.length ≤ 100) (hsz : hs.length ≤ 1000)
    (F : Fr g' L' s.heap m) (N : News g' L' s.heap (srvL od hp x dx hl L' (listOf (vals ps) no) oHp hh tk0 nd (hvals hs) n c1 tail)) (hc : c1.data = .cell (some (.ref Dm))) (hmt : m (Str.ofString "table") = some (.ref x)) (hmo : m (Str.ofString "order") = some (.ref od)) (hmw : m (Str.ofString "wishes") = some (.ref Dw)) (hmu : m (Str.ofString "unwished") = some (.ref Du))
    (k : ∀ R Do Di (us : List IT) h tk, Fr g' L' h m → News g' L' h ((R, listOf #[.ref Dw, .ref Do, .ref Dm, .ref Du, .ref Di] 0) :: (Di, listOf (hvals hs) 0) :: (Do, LCg.lst (us.map IT.v)) :: tail) → us.map (·.1) = ps.map (·.k) → Q (.ret (.ref R)) { s with heap := h, toks := tk }) :
    wpAny (model PG w) ((ktrTop dp un gd cn cs L a ccd cl outer).deeper (srvEnv L')) (exec srvSt13 (srvEnv L')) Q E s := by
  obtain ⟨B', X', T', hk, hdp, hun⟩ := C
  unfold srvSt13 srvEnv
  dsimp only [st0, tl0]

  repeat' (first | (k_unfold; (try dsimp only)) | ((fail_if_success (with_reducible show wpAny _ _ (eval (Expr.ListComp _ _ _ _) _) _ _ _)); (fail_if_success (with_reducible show wpAny _ _ (exec (Stmt.Assign [_] (Expr.ListComp _ _ _ _) _) _) _ _ _)); (fail_if_success (with_reducible show LCt.CompSrcT _ _ _ _ _ _ _ _ _ _ _ _ _ _ _)); (fail_if_success (with_reducible show LCg.CompSrc _ _ _ _ _ _ _ _ _ _ _ _ _ _)); (fail_if_success (with_reducible show LCg.CompEnd _ _ _ _ _ _ _ _ _ _ _ _ _ _)); (fail_if_success (with_reducible show @ite _ _ _ _ _)); (fail_if_success (with_reducible show wpAny _ _ (pyIter _) _ _ _)); (fail_if_success (with_reducible show Q _ _)); (fail_if_success (with_reducible show UnrPost _ _ _ _ _ _ _ _ _)); (fail_if_success (with_reducible show ∃ _, _)); (fail_if_success (with_reducible show wpAny _ _ (call (Value.ref 181) _ _) _ _ _)); walk1) | ((fail_if_success (with_reducible show wpAny _ _ (eval (Expr.ListComp _ _ _ _) _) _ _ _)); (fail_if_success (with_reducible show wpAny _ _ (exec (Stmt.Assign [_] (Expr.ListComp _ _ _ _) _) _) _ _ _)); (fail_if_success (with_reducible show LCt.CompSrcT _ _ _ _ _ _ _ _ _ _ _ _ _ _ _)); (fail_if_success (with_reducible show LCg.CompSrc _ _ _ _ _ _ _ _ _ _ _ _ _ _)); (fail_if_success (with_reducible show LCg.CompEnd _ _ _ _ _ _ _ _ _ _ _ _ _ _)); (fail_if_success (with_reducible show @ite _ _ _ _ _)); (fail_if_success (with_reducible show wpAny _ _ (pyIter _) _ _ _)); (fail_if_success (with_reducible show Q _ _)); (fail_if_success (with_reducible show UnrPost _ _ _ _ _ _ _ _ _)); (fail_if_success (with_reducible show ∃ _, _)); (fail_if_success (with_reducible show wpAny _ _ (call (Value.ref 181) _ _) _ _ _)); dsimp only; walk1))

  rename Fr g' L' _ _ => kF9
  refine LCg.ListComp_U (F₀ := kF9) (by with_unfolding_all rfl) (by decide) (by rfl) (by decide) (by rfl) ?_
  repeat' (first | (k_unfold; (try dsimp only)) | ((fail_if_success (with_reducible show wpAny _ _ (eval (Expr.ListComp _ _ _ _) _) _ _ _)); (fail_if_success (with_reducible show wpAny _ _ (exec (Stmt.Assign [_] (Expr.ListComp _ _ _ _) _) _) _ _ _)); (fail_if_success (with_reducible show LCt.CompSrcT _ _ _ _ _ _ _ _ _ _ _ _ _ _ _)); (fail_if_success (with_reducible show LCg.CompSrc _ _ _ _ _ _ _ _ _ _ _ _ _ _)); (fail_if_success (with_reducible show LCg.CompEnd _ _ _ _ _ _ _ _ _ _ _ _ _ _)); (fail_if_success (with_reducible show @ite _ _ _ _ _)); (fail_if_success (with_reducible show wpAny _ _ (pyIter _) _ _ _)); (fail_if_success (with_reducible show Q _ _)); (fail_if_success (with_reducible show UnrPost _ _ _ _ _ _ _ _ _)); (fail_if_success (with_reducible show ∃ _, _)); (fail_if_success (with_reducible show wpAny _ _ (call (Value.ref 181) _ _) _ _ _)); walk1) | ((fail_if_success (with_reducible show wpAny _ _ (eval (Expr.ListComp _ _ _ _) _) _ _ _)); (fail_if_success (with_reducible show wpAny _ _ (exec (Stmt.Assign [_] (Expr.ListComp _ _ _ _) _) _) _ _ _)); (fail_if_success (with_reducible show LCt.CompSrcT _ _ _ _ _ _ _ _ _ _ _ _ _ _ _)); (fail_if_success (with_reducible show LCg.CompSrc _ _ _ _ _ _ _ _ _ _ _ _ _ _)); (fail_if_success (with_reducible show LCg.CompEnd _ _ _ _ _ _ _ _ _ _ _ _ _ _)); (fail_if_success (with_reducible show @ite _ _ _ _ _)); (fail_if_success (with_reducible show wpAny _ _ (pyIter _) _ _ _)); (fail_if_success (with_reducible show Q _ _)); (fail_if_success (with_reducible show UnrPost _ _ _ _ _ _ _ _ _)); (fail_if_success (with_reducible show ∃ _, _)); (fail_if_success (with_reducible show wpAny _ _ (call (Value.ref 181) _ _) _ _ _)); dsimp only; walk1))

  rename Fr g' L' _ _ => kF9
  rename News g' L' _ _ => kN9
  refine LCg.CompSrc.ledger (its := vals ps) rfl kF9 kN9 (by k_mem) (by rw [vals_size, sizeLine_eq]; omega) (fun g => rest_ind (fun i ys news => news = srvL od hp x dx hl L' (listOf (vals ps) no) oHp hh tk0 nd (hvals hs) n c1 tail ∧ ∃ us : List IT, ys = us.map IT.v ∧ us.map (·.1) = (ps.take i).map (·.k)) ?elem ?fin _ 0 [] _ (Nat.zero_add _) ⟨rfl, [], rfl, rfl⟩)
  case elem =>
    clear kF9 kN9
    rintro i hi ys news ⟨rfl, us, rfl, hus⟩ v I oI C oC D m₂ h tk E' hP hNs hx F9 N9 off hne
    have hi' : i < ps.length := by rw [← vals_size]; exact hi
    have hk0 : ps[i]? = some ps[i] := List.getElem?_eq_getElem hi'
    generalize ps[i] = z at hk0
    have hv : v = .ref z.a := by have := hP; simp [vals, hk0] at this; exact this.symm
    subst hv
    obtain ⟨zn, t1, t2, t3, hzm⟩ := hok z (List.mem_of_getElem? hk0)
    have htake : ps.take (i + 1) = ps.take i ++ [z] := by rw [List.take_add_one, hk0]; rfl
    repeat' (first | (k_unfold; (try dsimp only)) | ((fail_if_success (with_reducible show wpAny _ _ (eval (Expr.ListComp _ _ _ _) _) _ _ _)); (fail_if_success (with_reducible show wpAny _ _ (exec (Stmt.Assign [_] (Expr.ListComp _ _ _ _) _) _) _ _ _)); (fail_if_success (with_reducible show LCt.CompSrcT _ _ _ _ _ _ _ _ _ _ _ _ _ _ _)); (fail_if_success (with_reducible show LCg.CompSrc _ _ _ _ _ _ _ _ _ _ _ _ _ _)); (fail_if_success (with_reducible show LCg.CompEnd _ _ _ _ _ _ _ _ _ _ _ _ _ _)); (fail_if_success (with_reducible show @ite _ _ _ _ _)); (fail_if_success (with_reducible show wpAny _ _ (pyIter _) _ _ _)); (fail_if_success (with_reducible show Q _ _)); (fail_if_success (with_reducible show UnrPost _ _ _ _ _ _ _ _ _)); (fail_if_success (with_reducible show ∃ _, _)); (fail_if_success (with_reducible show wpAny _ _ (call (Value.ref 181) _ _) _ _ _)); walk1) | ((fail_if_success (with_reducible show wpAny _ _ (eval (Expr.ListComp _ _ _ _) _) _ _ _)); (fail_if_success (with_reducible show wpAny _ _ (exec (Stmt.Assign [_] (Expr.ListComp _ _ _ _) _) _) _ _ _)); (fail_if_success (with_reducible show LCt.CompSrcT _ _ _ _ _ _ _ _ _ _ _ _ _ _ _)); (fail_if_success (with_reducible show LCg.CompSrc _ _ _ _ _ _ _ _ _ _ _ _ _ _)); (fail_if_success (with_reducible show LCg.CompEnd _ _ _ _ _ _ _ _ _ _ _ _ _ _)); (fail_if_success (with_reducible show @ite _ _ _ _ _)); (fail_if_success (with_reducible show wpAny _ _ (pyIter _) _ _ _)); (fail_if_success (with_reducible show Q _ _)); (fail_if_success (with_reducible show UnrPost _ _ _ _ _ _ _ _ _)); (fail_if_success (with_reducible show ∃ _, _)); (fail_if_success (with_reducible show wpAny _ _ (call (Value.ref 181) _ _) _ _ _)); dsimp only; walk1))

    rename Fr g' L' _ _ => kF9
    rename News g' L' _ _ => kN9
    exact LCg.CompEnd.intro kF9 kN9 _ (fun p hp => hp) off (.inr ⟨_, (by k_mem), rfl, _, rfl⟩) ⟨rfl, us ++ [(z.k, t2)], by simp only [List.map_append, List.map_cons, List.map_nil], by rw [htake]; simp only [List.map_append, List.map_cons, List.map_nil, hus]⟩
  case fin =>
    rintro ys news ⟨rfl, us, rfl, hus⟩
    rw [vals_size, List.take_length] at hus
    clear kF9 kN9
    intro D h tk F9 N9 off9
    have o9 := off1_mem off9
    simp only [srvL, List.forall_mem_cons] at o9
    obtain ⟨q1, q2, q3, q4, q5, q6, q7⟩ := o9
    repeat' (first | (k_unfold; (try dsimp only)) | ((fail_if_success (with_reducible show wpAny _ _ (eval (Expr.ListComp _ _ _ _) _) _ _ _)); (fail_if_success (with_reducible show wpAny _ _ (exec (Stmt.Assign [_] (Expr.ListComp _ _ _ _) _) _) _ _ _)); (fail_if_success (with_reducible show LCt.CompSrcT _ _ _ _ _ _ _ _ _ _ _ _ _ _ _)); (fail_if_success (with_reducible show LCg.CompSrc _ _ _ _ _ _ _ _ _ _ _ _ _ _)); (fail_if_success (with_reducible show LCg.CompEnd _ _ _ _ _ _ _ _ _ _ _ _ _ _)); (fail_if_success (with_reducible show @ite _ _ _ _ _)); (fail_if_success (with_reducible show wpAny _ _ (pyIter _) _ _ _)); (fail_if_success (with_reducible show Q _ _)); (fail_if_success (with_reducible show UnrPost _ _ _ _ _ _ _ _ _)); (fail_if_success (with_reducible show ∃ _, _)); (fail_if_success (with_reducible show wpAny _ _ (call (Value.ref 181) _ _) _ _ _)); walk1) | ((fail_if_success (with_reducible show wpAny _ _ (eval (Expr.ListComp _ _ _ _) _) _ _ _)); (fail_if_success (with_reducible show wpAny _ _ (exec (Stmt.Assign [_] (Expr.ListComp _ _ _ _) _) _) _ _ _)); (fail_if_success (with_reducible show LCt.CompSrcT _ _ _ _ _ _ _ _ _ _ _ _ _ _ _)); (fail_if_success (with_reducible show LCg.CompSrc _ _ _ _ _ _ _ _ _ _ _ _ _ _)); (fail_if_success (with_reducible show LCg.CompEnd _ _ _ _ _ _ _ _ _ _ _ _ _ _)); (fail_if_success (with_reducible show @ite _ _ _ _ _)); (fail_if_success (with_reducible show wpAny _ _ (pyIter _) _ _ _)); (fail_if_success (with_reducible show Q _ _)); (fail_if_success (with_reducible show UnrPost _ _ _ _ _ _ _ _ _)); (fail_if_success (with_reducible show ∃ _, _)); (fail_if_success (with_reducible show wpAny _ _ (call (Value.ref 181) _ _) _ _ _)); dsimp only; walk1))

    rename Fr g' L' _ _ => kF9
    rename News g' L' _ _ => kN9
    k_dflt (refine' (items (rest := (od, listOf (vals ps) no) :: (hp, oHp) :: (L' + 1, c1) :: (D, LCg.lst (us.map IT.v)) :: tail) (hh := hh) (tk0 := tk0) (nd := nd) (n := n) (hs := hs) hsz).use ?k1 ?k2 ?k3 kN9 ?k5 ?kK ?kd ?ku ?kM ?kR ?kS ?_; (case k1 => k_asm); (case k2 => k_asm); (case k3 => k_asm); (case k5 => k_asm); (case kK => exact rfl); (case kd => ktr_room); (case ku => ktr_units))
    case kM => (simp only [List.forall_mem_cons, srvL]; refine ⟨?_, ?_, ?_, List.forall_mem_nil _⟩ <;> k_mem)
    case kR => (simp only [List.forall_mem_cons, srvL]; refine ⟨?_, ?_, ?_, ?_, ?_⟩; k_mem; k_mem; k_mem; k_mem; exact fun p hp => .tail _ (.tail _ (.tail _ (.tail _ (.tail _ (.tail _ (.tail _ hp)))))))
    case kS => exact sep_srv (tail := (D, LCg.lst (us.map IT.v)) :: tail) ⟨P.lt, ⟨q3.symm, P.t1⟩, ⟨q4.symm, P.t2⟩, ⟨q5.symm, P.t3⟩, ⟨q2.symm, P.t4⟩, ⟨q1.symm, P.t5⟩, ⟨q6.symm, P.t6⟩⟩
    rintro r muts' h' tk' F10 N10 ⟨Di, hr, hmu⟩
    subst hr hmu
    clear kN9 kF9
    (try dsimp only)
    repeat' (first | (k_unfold; (try dsimp only)) | ((fail_if_success (with_reducible show wpAny _ _ (eval (Expr.ListComp _ _ _ _) _) _ _ _)); (fail_if_success (with_reducible show wpAny _ _ (exec (Stmt.Assign [_] (Expr.ListComp _ _ _ _) _) _) _ _ _)); (fail_if_success (with_reducible show LCt.CompSrcT _ _ _ _ _ _ _ _ _ _ _ _ _ _ _)); (fail_if_success (with_reducible show LCg.CompSrc _ _ _ _ _ _ _ _ _ _ _ _ _ _)); (fail_if_success (with_reducible show LCg.CompEnd _ _ _ _ _ _ _ _ _ _ _ _ _ _)); (fail_if_success (with_reducible show @ite _ _ _ _ _)); (fail_if_success (with_reducible show wpAny _ _ (pyIter _) _ _ _)); (fail_if_success (with_reducible show Q _ _)); (fail_if_success (with_reducible show UnrPost _ _ _ _ _ _ _ _ _)); (fail_if_success (with_reducible show ∃ _, _)); (fail_if_success (with_reducible show wpAny _ _ (call (Value.ref 181) _ _) _ _ _)); walk1) | ((fail_if_success (with_reducible show wpAny _ _ (eval (Expr.ListComp _ _ _ _) _) _ _ _)); (fail_if_success (with_reducible show wpAny _ _ (exec (Stmt.Assign [_] (Expr.ListComp _ _ _ _) _) _) _ _ _)); (fail_if_success (with_reducible show LCt.CompSrcT _ _ _ _ _ _ _ _ _ _ _ _ _ _ _)); (fail_if_success (with_reducible show LCg.CompSrc _ _ _ _ _ _ _ _ _ _ _ _ _ _)); (fail_if_success (with_reducible show LCg.CompEnd _ _ _ _ _ _ _ _ _ _ _ _ _ _)); (fail_if_success (with_reducible show @ite _ _ _ _ _)); (fail_if_success (with_reducible show wpAny _ _ (pyIter _) _ _ _)); (fail_if_success (with_reducible show Q _ _)); (fail_if_success (with_reducible show UnrPost _ _ _ _ _ _ _ _ _)); (fail_if_success (with_reducible show ∃ _, _)); (fail_if_success (with_reducible show wpAny _ _ (call (Value.ref 181) _ _) _ _ _)); dsimp only; walk1))

    rename Fr g' L' _ _ => kF9
    rename News g' L' _ _ => kN9
    refine k _ D Di us _ _ kF9 (cb_drop kN9 ?sub) hus
    case sub =>
      simp only [List.forall_mem_cons, srvL, List.cons_append, List.nil_append]
      refine ⟨?_, ?_, ?_, ?_⟩
      all_goals first | (k_mem; done) | exact fun p hp => .tail _ (.tail _ (.tail _ (.tail _ (.tail _ (.tail _ (.tail _ (.tail _ (.tail _ hp))))))))
end
end
section
open PySem PySem.W PySem.Calls PyProof.Rows PySem.Spec PyProof.V
set_option maxRecDepth 100000
theorem rj_same : ∀ c : Fin 8, ∀ d : Fin 11, rj c d = kd c ++ Str.ofString "; q=\"" ++ wt d ++ Str.ofString "\"" := by decide +kernel
theorem rowJ_rowS (x : Int) : rowJ x = rowS x := by
  obtain ⟨c, _, ec⟩ := kindS_fin x
  obtain ⟨d, _, ed⟩ := worthS_fin x
  unfold rowJ rowS
  rw [ec, ed]
  exact rj_same c d
theorem acc_low (x : Int) : (Txt.lower (accS x) == Txt.lower (Str.ofString "accept")) = true ∧ (Txt.lower (accS x) != Txt.lower (Str.ofString "Content-Type")) = true := by
  unfold accS
  split
  · decide +kernel
  · split <;> decide +kernel
theorem ct_low : (Txt.lower (Str.ofString "content-type") == Txt.lower (Str.ofString "accept")) = false ∧ (Txt.lower (Str.ofString "CONTENT-Type") == Txt.lower (Str.ofString "accept")) = false ∧
    (Txt.lower (Str.ofString "content-type") != Txt.lower (Str.ofString "Content-Type")) = false ∧ (Txt.lower (Str.ofString "CONTENT-Type") != Txt.lower (Str.ofString "Content-Type")) = false := by decide +kernel
theorem vals_join : Txt.join (Str.ofString "; ") [Str.ofString "text/none"] = Str.ofString "text/none" ∧ Txt.join (Str.ofString "; ") [Str.ofString "text/other"] = Str.ofString "text/other" := by decide +kernel
theorem got_acc {n : Str} (hn : n = Txt.lower (Str.ofString "accept")) : ∀ {bs : List Hd} {ns : List Int}, bs.map (fun h => (h.nm, h.val)) = ns.map (fun x => (accS x, rowJ x)) → (gotAll bs n).map (·.1) = ns.map rowS
  | [], [], _ => rfl
  | [], _ :: _, h => nomatch h
  | _ :: _, [], h => nomatch h
  | b :: bs, x :: ns, h => by
    simp only [List.map_cons, List.cons.injEq, Prod.mk.injEq] at h
    have ih := got_acc hn h.2
    unfold gotAll at ih ⊢
    rw [List.filter_cons_of_pos (by rw [h.1.1, hn]; exact (acc_low x).1)]
    simp only [List.map_cons, ih, h.1.2, rowJ_rowS]
theorem got_append (a b : List Hd) (n : Str) : gotAll (a ++ b) n = gotAll a n ++ gotAll b n := by unfold gotAll; rw [List.filter_append, List.map_append]
theorem wishes_eq {b1 b3 : Hd} {bs : List Hd} {ns : List Int} (h1 : b1.nm = Str.ofString "content-type") (h3 : b3.nm = Str.ofString "CONTENT-Type") (hb : bs.map (fun h => (h.nm, h.val)) = ns.map (fun x => (accS x, rowJ x))) :
    (gotAll (([b1] ++ bs) ++ [b3]) (Txt.lower (Str.ofString "accept"))).map (·.1) = ns.map rowS := by
  have e1 : gotAll [b1] (Txt.lower (Str.ofString "accept")) = [] := by unfold gotAll; rw [List.filter_cons_of_neg (by rw [h1, ct_low.1]; decide)]; rfl
  have e3 : gotAll [b3] (Txt.lower (Str.ofString "accept")) = [] := by unfold gotAll; rw [List.filter_cons_of_neg (by rw [h3, ct_low.2.1]; decide)]; rfl
  rw [got_append, got_append, e1, e3, List.nil_append, List.append_nil]
  exact got_acc rfl hb
theorem pairs_eq {l : List (Str × Str)} {ns : List Int} {ts us : List Str} (hl : l = (Str.ofString "content-type", Str.ofString "text/none") :: (ns.map (fun x => (accS x, rowJ x)) ++ [(Str.ofString "CONTENT-Type", Str.ofString "text/other")])) (hu : us = (fitOf ns ts).map kindS) :
    setL l us = pairsOf ns ts := by
  have ha : (ns.map fun x => (accS x, rowJ x)) = accL ns := by unfold accL; simp only [rowJ_rowS]
  unfold pairsOf
  rw [hu, hl, ha]
  cases fitOf ns ts with
  | nil => rfl
  | cons u r =>
    show (List.filter _ _) ++ _ = _
    rw [List.filter_cons_of_neg (by rw [ct_low.2.2.1]; decide), List.filter_append, List.filter_cons_of_neg (by rw [ct_low.2.2.2]; decide)]
    rw [List.filter_nil, List.append_nil, List.filter_eq_self.mpr]
    intro p hp
    obtain ⟨x, _, rfl⟩ := List.mem_map.mp hp
    exact (acc_low x).2
theorem served_pure {ns : List Int} {ts : List Str} {os ps : List W} (H : OsOf ns os) (hS : os.map (·.s) = ns.map kindS) (hs : ps.Pairwise (fun a b => ltW a b = true)) (hp : List.Perm ps os) :
    ps.map (·.k) = (ordOf ns).map (fun (k : Nat) => (k : Int)) ∧ (ps.filter (fitW (lackS (kindsL ns) ts))).map (·.s) = (fitOf ns ts).map kindS := by
  obtain ⟨e, hb⟩ := popped_order H hs hp
  have ho : ordOf ns = ps.map fun y => y.k.toNat := by
    unfold ordOf
    rw [e, List.map_map]
    exact (List.map_congr_left fun k _ => rfl).trans (List.map_id _)
  have hat : ∀ y ∈ ps, ∃ k, k < ns.length ∧ y.k = (k : Int) ∧ y.w = - wth (ns.getD k 0) ∧ y.s = kindS (ns.getD k 0) ∧ ns.getD k 0 ∈ ns := by
    intro y hy
    obtain ⟨k, hk⟩ := List.getElem?_of_mem (hp.mem_iff.mp hy)
    have h1 := H.at hk
    have hl : k < ns.length := by rw [← H.len]; exact (List.getElem?_eq_some_iff.mp hk).1
    have hg : ns.getD k 0 = ns[k] := by rw [List.getD_eq_getElem?_getD, List.getElem?_eq_getElem hl]; rfl
    refine ⟨k, hl, h1.1, h1.2, ?_, by rw [hg]; exact List.getElem_mem _⟩
    have h2 := congrArg (fun l => l[k]?) hS
    simp only [List.getElem?_map, hk, Option.map_some, List.getElem?_eq_getElem hl] at h2
    rw [hg]; exact Option.some.inj h2
  constructor
  · rw [ho, List.map_map]
    refine List.map_congr_left fun y hy => ?_
    obtain ⟨k, _, h, _⟩ := hat y hy
    simp [h]
  · unfold fitOf
    rw [ho, List.map_map, List.filter_map, List.map_map]
    have hf : ps.filter (fitW (lackS (kindsL ns) ts)) = ps.filter (fits ts ∘ ((fun k => ns.getD k 0) ∘ fun y : W => y.k.toNat)) := by
      refine List.filter_congr fun y hy => ?_
      obtain ⟨k, hk, h1, h2, h3, h4⟩ := hat y hy
      have hkn : y.k.toNat = k := by rw [h1]; rfl
      simp only [Function.comp, hkn]
      unfold fitW fits
      have a1 : decide (y.w < 0) = decide (0 < wth (ns.getD k 0)) := by rw [h2, decide_eq_decide]; omega
      have a2 : (!decide (y.s ∈ lackS (kindsL ns) ts)) = decide (kindS (ns.getD k 0) ∈ ts) := by
        rw [h3]
        have hmem : kindS (ns.getD k 0) ∈ kindsL ns := by
          rw [kindsL_N]
          obtain ⟨c, hc, e1, e2⟩ := kindS_kdT (ns.getD k 0)
          rw [e2]
          refine List.mem_map_of_mem ?_
          unfold kindsN wished
          rw [List.mem_filter, List.mem_range, List.any_eq_true]
          exact ⟨hc, _, h4, by rw [e1]; simp⟩
        unfold lackS
        simp only [List.mem_filter, hmem, true_and]
        by_cases q : kindS (ns.getD k 0) ∈ ts <;> simp [q]
      rw [a1, a2]
    rw [hf]
    refine List.map_congr_left fun y hy => ?_
    obtain ⟨k, hk, h1, h2, h3, h4⟩ := hat y (List.mem_filter.mp hy).1
    have hkn : y.k.toNat = k := by rw [h1]; rfl
    simp only [Function.comp, hkn]
    exact h3
end
section
open PySem PySem.W PySem.Calls PyProof.Rows PySem.Spec PyProof.V
section
variable {prog : Program} {w : World} {A₀ A : Around} {s : Shared} {K : Frag} {base h₀ : Heap} {outer : List Env} {L : Addr} {m mg mb : Str → Option Value} {p : Program} {loose : List Str} {mean : ExcName → Option Value} {env : Env}
  {R : Result → Shared → Prop} {name qual : Str} {params : Arguments} {body : List Stmt} {scope : Scope} {dV kV doc pm cdv ct oc : Value} {an od : Option Addr} {osl : Array (Option Value)} {f : Addr} {args : Args} {binds : List (Str × Value)}
theorem code_defCU (B : Below A₀ base outer h₀) (F : Fr h₀ L s.heap m) (X₀ : K.In base) (T : Top p loose mean mg mb base) (hA : A.frames = some (env :: outer)) (hf : env.frame = some L) (hke : env.scope.kind = .function)
    (ho : K.lookup f = some ⟨oc, od, .func (fnOf name qual params body scope dV kV doc pm an cdv ct), osl⟩) (hcd : codeIn K cdv qual = true) (hroom : A.depth < recursionLimit)
    (hbind : BindsTo s (fnOf name qual params body scope dV kV doc pm an cdv ct) args binds)
    (hkind : (binds.all fun y => scope.names.lookup y.1 == some .local || scope.names.lookup y.1 == some .cell) = true)
    (hnd : ((cellsFrom 0 scope.names []).map (·.1)).Nodup)
    (h : ∀ L' h₁ tk cells, Fr s.heap L' h₁ (bindL (envOfC qual scope L' f cdv).kindOf binds fun _ => none) → News s.heap L' h₁ cells →
      CellsAre (bindC (envOfC qual scope L' f cdv).kindOf binds fun _ => none) (cellsFrom (L' + 1) scope.names []) cells → Below A base (env :: outer) s.heap → K.In s.heap → Top p loose mean mg mb s.heap →
      wpAny (model prog w) (A.deeper (envOfC qual scope L' f cdv)) (execs body (envOfC qual scope L' f cdv))
        (fun fl s' => R (.ok (.ret (match fl with | .ret v => v | _ => .none))) s')
        (fun e s' => wpAny (model prog w) (A.deeper (envOfC qual scope L' f cdv)) (leaving (envOfC qual scope L' f cdv) e) (fun _ s'' => R (.error e) s'') (fun e' s'' => R (.error e') s'') s')
        { s with heap := h₁, toks := tk })
    (hco : scope.isCoroutine = false) (hgen : scope.isGenerator = false) (hk : scope.kind = .function) : codeAny (model prog w) A (.call (.ref f) args) R s := by
  obtain ⟨FG, BG, st, _⟩ := groundX (R := R) (news := []) B F News.nil hA hf hke
  have BG' : Below A base (env :: outer) s.heap := BG
  have X' : K.In s.heap := X₀.keeps BG'.stays
  have T' : Top p loose mean mg mb s.heap := T.keeps BG'.stays
  refine codeAny_call_function hroom (X' _ _ ho) rfl hco hgen rfl (codeRec_of X' hcd) (hbind _ _ _ _ ?_)
  refine wpAny_newFunctionEnv_cells hk (kindsX hkind _) fun env' he s' x => ?_
  subst he
  refine ⟨T'.nolimit.keeps x.toInCall.keep, codeAny_func ?_⟩
  obtain ⟨h₁, tk, rfl, _⟩ := x.done
  have hk₁ := x.toInCall.keep
  obtain ⟨cells, NC, Y⟩ := Cl.news (h₀ := s.heap) (Nat.le_refl _) fun n c hm => ⟨x.cell n c (lookup_of_mem_nodup (cellsFrom_names scope.names 0 (s.heap.objs.size + 1) [] [] rfl ▸ hnd) hm), x.above n c hm⟩
  exact wpAny_mono (h s.heap.objs.size h₁ tk cells ⟨x.toInCall.ns, fun b o e => hk₁ b o e, Nat.le_refl _⟩ NC Y BG' X' T') (fun fl s' hl => hl) fun _ _ y => y
end
/-- a def that changes nothing that stands, but raises, catches and draws: the frames' slots change -/
def FnD (w : World) (n : Nat) (f : Addr) (vs : List Value) (kw : List (Str × Value)) (rest : Led) (P : Value → Heap → Heap → Prop) : Prop :=
  ∀ (mean : ExcName → Option Value) (mg mb : Str → Option Value) (dp un : Nat) (gd : Option (List Code)) (cn : Str) (cs : Scope) (a : Addr) (ccd : Value) (cl : List (Str × Addr)) (outer : List Env) (A₀ : Around) (base h₀ : Heap) (L : Addr) (m : Str → Option Value) (s : Shared) (Q : Value → Shared → Prop) (E : Value → Shared → Prop),
    Below A₀ base outer h₀ → Fr h₀ L s.heap m → (hd.heap_39 w.params).In base → (∀ p ∈ rest, s.heap.get? p.1 = some p.2 ∧ p.1 ∉ L :: outer.filterMap (·.frame)) → Top hd.view_39 LS mean mg mb base → cs.kind = .function →
    dp + n < recursionLimit → un + 8 * n < cLine →
    (∀ r h' tk' d', KeepU (L :: outer.filterMap (·.frame)) s.heap h' → P r s.heap h' → Q r { s with heap := h', toks := tk', drawn := d' }) →
    wpAny (model PG w) (ktrTop dp un gd cn cs L a ccd cl outer) (call (.ref f) vs kw) Q E s
theorem FnD.use {w : World} {n : Nat} {f : Addr} {vs : List Value} {kw : List (Str × Value)} {rest : Led} {P : Value → Heap → Heap → Prop} (C : FnD w n f vs kw rest P)
    {mean : ExcName → Option Value} {mg mb : Str → Option Value} {dp un : Nat} {gd : Option (List Code)} {cn : Str} {cs : Scope} {a : Addr} {ccd : Value} {cl : List (Str × Addr)} {outer : List Env} {A₀ : Around} {base h₀ : Heap} {L : Addr} {m : Str → Option Value} {s : Shared} {Q E : Value → Shared → Prop}
    (B : Below A₀ base outer h₀) (F : Fr h₀ L s.heap m) (X : (hd.heap_39 w.params).In base) (hr : ∀ p ∈ rest, s.heap.get? p.1 = some p.2 ∧ p.1 ∉ L :: outer.filterMap (·.frame)) (T : Top hd.view_39 LS mean mg mb base) (hk : cs.kind = .function)
    (hdp : dp + n < recursionLimit) (hun : un + 8 * n < cLine)
    (ret : ∀ r h' tk' d', KeepU (L :: outer.filterMap (·.frame)) s.heap h' → P r s.heap h' → Q r { s with heap := h', toks := tk', drawn := d' }) :
    wpAny (model PG w) (ktrTop dp un gd cn cs L a ccd cl outer) (call (.ref f) vs kw) Q E s :=
  C _ _ _ _ _ _ _ _ _ _ _ _ _ _ _ _ _ _ _ _ B F X hr T hk hdp hun ret
end
section
open PySem PySem.W PyProof.Rows PySem.Spec
theorem okW_mono {l l' : Led} {y : W} (h : OkW l y) (s : ∀ p ∈ l, p ∈ l') : OkW l' y := by
  obtain ⟨n, t1, t2, t3, hm⟩ := h
  exact ⟨n, t1, t2, t3, s _ hm⟩
theorem two_le {zs : List Str} {a b : Str} (ha : a ∈ zs) (hb : b ∈ zs) (hne : a ≠ b) : 1 < zs.length := by
  match zs, ha, hb with
  | [], ha, _ => exact nomatch ha
  | [z], ha, hb => exact absurd ((List.mem_singleton.mp ha).trans (List.mem_singleton.mp hb).symm) hne
  | _ :: _ :: _, _, _ => simp only [List.length_cons]; omega
theorem readsAll_Hd {h : Heap} : ∀ hs : List Hd, (∀ q ∈ hs, h.get? q.a = some q.o) → ∃ as, ReadsAll h (hs.map Hd.v) (hs.map fun q => tupD (q.nm, q.val)) as
  | [], _ => ⟨_, ReadsAll.nil⟩
  | q :: hs, hq => by
    obtain ⟨as, r⟩ := readsAll_Hd hs fun p hp => hq p (.tail _ hp)
    exact ⟨_, ReadsAll.cons (Reads.tuple (hq q (.head _)) rfl rfl (ReadsAll.cons (Reads.str _ _) (ReadsAll.cons (Reads.str _ _) ReadsAll.nil))) r⟩
theorem kdT_ok : ∀ c : Fin 9, okS (kdT c) := by decide +kernel
theorem lack_ok {cs : List Nat} {ts : List Str} (h : ∀ c ∈ cs, c < 8) : ∀ x ∈ lackS (cs.map kdT) ts, okS x := by
  intro x hx
  obtain ⟨c, hc, rfl⟩ := List.mem_map.mp (List.mem_filter.mp hx).1
  exact kdT_ok ⟨c, by have := h c hc; omega⟩
section
variable {w : World} {mean : ExcName → Option Value} {mg mb : Str → Option Value} {dp un : Nat} {gd : Option (List Code)} {cn : Str} {cs : Scope} {a : Addr} {ccd : Value} {cl : List (Str × Addr)} {outer : List Env} {base g' : Heap} {L L' : Addr} {s : Shared} {Q : Flow → Shared → Prop} {E : Value → Shared → Prop} {m : Str → Option Value}
variable {nl tl : Addr} {n1 n2 : Nat} {xs : List IT} {th : List ST} {c1 : Obj} {ds : List Nat}
set_option maxRecDepth 100000 in
set_option maxHeartbeats 8000000 in
theorem srv_body (C : Ctx w mean mg mb dp un gd cn cs a ccd cl outer base g' L) (XB : (hd.heap_39 w.params).In base) (TB : Top hd.view_39 LS mean mg mb base) (hb1 : g'.get? nl = some (lst (ivals xs) n1)) (hl1 : xs.length ≤ 50) (hb2 : g'.get? tl = some (lst (svals th) n2)) (hl2 : th.length ≤ 100)
    (fl2 : tl ∉ (envX cn cs L a ccd cl :: outer).filterMap (·.frame)) (hab : ∃ a ∈ nums xs, ∃ b ∈ nums xs, kindS a ≠ kindS b) (hds : th.map (·.1) = ds.map kdT) (d8 : ∀ d ∈ ds, d < 8) (sd : ds.Pairwise (· < ·))
    (F : Fr g' L' s.heap m) (N : News g' L' s.heap [(L' + 1, c1)]) (hc : c1.data = .cell none) (hmn : m (Str.ofString "numbers") = some (.ref nl)) (hmt : m (Str.ofString "there") = some (.ref tl)) (hE : PassesOwn (model PG w) ((ktrTop dp un gd cn cs L a ccd cl outer).deeper (srvEnv L')) (srvEnv L') E)
    (k : ∀ g₂ R all m₂ h tk d, KtsTurn ((envX cn cs L a ccd cl :: outer).filterMap (·.frame)) g' g₂ → Fr g₂ L' h m₂ → News g₂ L' h all → (∀ h', Has h' all → ∃ as, Reads h' (.ref R) (dueD (nums xs) (th.map (·.1))) as) → Q (.ret (.ref R)) { s with heap := h, toks := tk, drawn := d }) :
    wpAny (model PG w) ((ktrTop dp un gd cn cs L a ccd cl outer).deeper (srvEnv L')) (execs srvTl0 (srvEnv L')) Q E s := by
  have hnl : (nums xs).length = xs.length := by simp [nums]
  refine wpAny_execs_cons (st := srvSt0) (rest := srvTl1) (srv_init C F N fun x dx hl hp od hh tk0 nd h tk F1 N1 lt => ?_)
  have P1 : Apart od hp x dx hl (L' + 1) [] := ⟨lt, trivial, trivial, trivial, trivial, trivial, trivial⟩
  refine wpAny_execs_cons (st := srvSt1) (rest := srvTl2) (srv_h1 C (hs := []) (vo := #[]) (no := 0) (vp := #[]) (np := 0) hc rfl rfl P1 (by simp) F1 N1 (lk_hit rfl) fun b1 n' h tk F2 N2 P2 hn1 hv1 => ?_)
  refine wpAny_execs_cons (st := srvSt2) (rest := srvTl3) (srv_for1 C hb1 (by omega) (vo := #[]) (no := 0) (vp := #[]) (np := 0) hc rfl rfl P2 (by simp) F2 N2 (lk_hit rfl) (lk_ne (by decide) (lk_ne (by decide) (lk_ne (by decide) hmn))) hE fun bs m3 n' h tk F3 N3 P3 hm3 hbs => ?_)
  have hbl : bs.length = xs.length := by have := congrArg List.length hbs; simpa using this
  have m3t : m3 (Str.ofString "table") = some (.ref x) := (hm3 _ (by decide)).trans (lk_hit rfl)
  have m3h : m3 (Str.ofString "heap") = some (.ref hp) := (hm3 _ (by decide)).trans (lk_ne (by decide) (lk_hit rfl))
  have m3o : m3 (Str.ofString "order") = some (.ref od) := (hm3 _ (by decide)).trans (lk_ne (by decide) (lk_ne (by decide) (lk_hit rfl)))
  have m3e : m3 (Str.ofString "there") = some (.ref tl) := (hm3 _ (by decide)).trans (lk_ne (by decide) (lk_ne (by decide) (lk_ne (by decide) hmt)))
  clear hm3
  refine wpAny_execs_cons (st := srvSt3) (rest := srvTl4) (srv_h3 C (vo := #[]) (no := 0) (vp := #[]) (np := 0) hc rfl rfl P3 (by simp; omega) F3 N3 m3t fun b3 n' h tk F4 N4 P4 hn3 hv3 => ?_)
  have hin : ∀ h ∈ ([] ++ [b1] ++ bs) ++ [b3], h.e ∈ (([] : Led) ++ [b1.e] ++ bs.map Hd.e) ++ [b3.e] := by
    intro h hm
    have e : (([] : Led) ++ [b1.e] ++ bs.map Hd.e) ++ [b3.e] = (([] ++ [b1] ++ bs) ++ [b3]).map Hd.e := by simp
    rw [e]; exact List.mem_map_of_mem hm
  have hnm : ∀ h ∈ ([] ++ [b1] ++ bs) ++ [b3], h.nm.length ≤ 100 := by
    intro h hm
    rcases List.mem_append.mp hm with hm | hm
    · rcases List.mem_append.mp hm with hm | hm
      · obtain rfl := List.mem_singleton.mp hm
        rw [hn1]; decide +kernel
      · have : (h.nm, h.val) ∈ bs.map fun h => (h.nm, h.val) := List.mem_map_of_mem hm
        rw [hbs] at this
        obtain ⟨y, _, e⟩ := List.mem_map.mp this
        rw [← (Prod.mk.inj e).1]; exact (accS_ok _).2
    · obtain rfl := List.mem_singleton.mp hm
      rw [hn3]; decide +kernel
  have hbs' : bs.map (fun h => (h.nm, h.val)) = (nums xs).map (fun x => (accS x, rowJ x)) := by rw [hbs]; simp [nums, List.map_map, Function.comp_def]
  have hwz : (gotAll (([] ++ [b1] ++ bs) ++ [b3]) (Txt.lower (Str.ofString "accept"))).map (·.1) = (nums xs).map rowS := wishes_eq hn1 hn3 hbs'
  have hpairs : (([] ++ [b1] ++ bs) ++ [b3]).map (fun h : Hd => (h.nm, h.val)) = (Str.ofString "content-type", Str.ofString "text/none") :: ((nums xs).map (fun x => (accS x, rowJ x)) ++ [(Str.ofString "CONTENT-Type", Str.ofString "text/other")]) := by
    rw [List.map_append, List.map_append, hbs']
    simp only [List.nil_append, List.map_cons, List.map_nil, hn1, hv1, hn3, hv3, vals_join.1, vals_join.2, List.cons_append]
  have hslen : (([] ++ [b1] ++ bs) ++ [b3]).length ≤ 52 := by simp; omega
  generalize ([] ++ [b1] ++ bs) ++ [b3] = hs at *
  generalize (([] : Led) ++ [b1.e] ++ bs.map Hd.e) ++ [b3.e] = tail at *
  clear F1 N1 F2 N2 F3 N3 P1 P2 P3 hbs hbs' hn1 hn3 hv1 hv3 lt
  refine wpAny_execs_cons (st := srvSt4) (rest := srvTl5) (srv_wishes C P4 (by omega) hnm hin F4 N4 m3t fun Dw nw h tk F5 N5 P5 => ?_)
  generalize gotAll hs (Txt.lower (Str.ofString "accept")) = wz at *
  clear F4 N4 P4
  refine wpAny_execs_cons (st := srvSt5) (rest := srvTl6) (srv_for2 C (xs := xs) (by omega) (by rw [hwz]; simp [nums, List.map_map, Function.comp_def, rowJ_rowS]) P5 F5 N5 (lk_hit rfl) (lk_ne (by decide) m3h) hE fun m6 os we np news h tk J F6 N6 => ?_)
  obtain ⟨rfl, P6, hm6, hks, hws, hss, hok⟩ := J
  rw [List.take_length] at hws hss
  clear F5 N5 P5
  have m6t : m6 (Str.ofString "table") = some (.ref x) := (hm6 _ (by decide) (by decide) (by decide)).trans (lk_ne (by decide) m3t)
  have m6h : m6 (Str.ofString "heap") = some (.ref hp) := (hm6 _ (by decide) (by decide) (by decide)).trans (lk_ne (by decide) m3h)
  have m6o : m6 (Str.ofString "order") = some (.ref od) := (hm6 _ (by decide) (by decide) (by decide)).trans (lk_ne (by decide) m3o)
  have m6e : m6 (Str.ofString "there") = some (.ref tl) := (hm6 _ (by decide) (by decide) (by decide)).trans (lk_ne (by decide) m3e)
  have m6w : m6 (Str.ofString "wishes") = some (.ref Dw) := (hm6 _ (by decide) (by decide) (by decide)).trans (lk_hit rfl)
  clear hm6 m3t m3h m3o m3e
  have hos : OsOf (nums xs) os := ⟨by rw [hks, hnl], by rw [hws]; simp [nums, List.map_map, Function.comp_def]⟩
  have hoS : os.map (·.s) = (nums xs).map kindS := by rw [hss]; simp [nums, List.map_map, Function.comp_def]
  have hol : os.length = xs.length := by have := congrArg List.length hks; simpa using this
  obtain ⟨hH, hPm⟩ := heapOf_spec os
  have hsm : ∀ y, y ∈ (heapOf os).map (·.s) ↔ y ∈ (nums xs).map kindS := fun y => by rw [(hPm.map _).mem_iff, hoS]
  have okT : ∀ y ∈ os, OkW ((Dw, listOf (svals wz) nw) :: tail ++ we) y := fun y hy => okW_mono (hok y hy) fun p hp => List.mem_append_right _ hp
  have inT : ∀ h ∈ hs, h.e ∈ (Dw, listOf (svals wz) nw) :: tail ++ we := fun h hh => List.mem_append_left _ (.tail _ (hin h hh))
  have wT : (Dw, listOf (svals wz) nw) ∈ (Dw, listOf (svals wz) nw) :: tail ++ we := .head _
  generalize (Dw, listOf (svals wz) nw) :: tail ++ we = tail6 at *
  refine wpAny_execs_cons (st := srvSt6) (rest := srvTl7) (srv_kinds C (hw := heapOf os) (fun y hy => okT y (hPm.mem_iff.mp hy)) (by rw [hPm.length_eq]; omega) P6 ?hz F6 N6 m6h fun Dk nk ys h tk d F7 N7 P7 hso hnd hym => ?_)
  case hz =>
    intro zs _ hzm
    obtain ⟨a, ha, b, hb, hne⟩ := hab
    exact two_le ((hzm _).mpr ((hsm _).mpr (List.mem_map_of_mem ha))) ((hzm _).mpr ((hsm _).mpr (List.mem_map_of_mem hb))) hne
  have hyk : ys.map (·.1) = (kindsN (nums xs)).map kdT := kinds_eq hso hnd fun y => (hym y).trans (hsm y)
  have hyl : ys.length ≤ 8 := by
    have := congrArg List.length hyk
    have h2 := List.length_filter_le (fun k => wished (nums xs) k) (List.range 8)
    simp only [List.length_map, kindsN, List.length_range] at this h2
    omega
  clear hso hnd hym F6 N6 P6
  obtain ⟨e1, e2⟩ := sld_texts hyk hds (kindsN_lt _) d8 (kindsN_strict _) sd
  refine wpAny_execs_cons (st := srvSt7) (rest := srvTl8) (srv_sld1 C hb2 hl2 (by omega) P7 F7 XB TB N7 hc (lk_hit rfl) (lk_ne (by decide) m6e) fun g₂ Dm Du nm nu c2 h tk Tn2 C2 F8 N8 hc2 P8 => ?_)
  have hb2' : g₂.get? tl = some (lst (svals th) n2) := Tn2.other _ _ hb2 fl2
  clear F7 N7 P7
  generalize (sldf ys th).1 = ms at *
  generalize (sldf ys th).2 = us at *
  refine wpAny_execs_cons (st := srvSt8) (rest := srvTl9) (srv_more C2 hb2' hl2 (by omega) P8 F8 N8 (lk_ne (by decide) (lk_hit rfl)) (lk_ne (by decide) (lk_ne (by decide) m6e)) fun De M1 M2 t1 t2 h tk F9 N9 P9 => ?_)
  obtain ⟨q1, q2⟩ := sld_texts2 (t1 := t1) (t2 := t2) hyk hds (kindsN_lt _) d8 (kindsN_strict _) sd
  have o1 : ∀ x ∈ ms.map (·.1), okS x := by rw [e1]; exact lack_ok (kindsN_lt _)
  have o2 : ∀ x ∈ us.map (·.1), okS x := by rw [e2]; exact lack_ok d8
  refine wpAny_execs_cons (st := srvSt9) (rest := srvTl10) (srv_same C2 XB TB (by simp only [List.length_append, dblS_len, List.length_cons, List.length_nil]; omega) (by simp only [List.length_append, dblS_len, List.length_cons, List.length_nil]; omega) (q1.trans e1.symm) (q2.trans e2.symm) o1 o2 F9 N9 hc2 (lk_hit rfl) (lk_ne (by decide) (lk_hit rfl)) fun g₃ h tk Tn3 C3 F10 N10 => ?_)
  clear F8 N8 F9 N9 P9 q1 q2
  have Tn := Tn2.trans Tn3
  have okT9 : ∀ y ∈ os, OkW ((Dm, listOf (svals ms) nm) :: (Du, listOf (svals us) nu) :: (Dk, listOf (svals ys) nk) :: tail6) y := fun y hy => okW_mono (okT y hy) fun p hp => .tail _ (.tail _ (.tail _ hp))
  refine wpAny_execs_cons (st := srvSt10) (rest := srvTl11) (srv_pop C3 (os := os) (ws₀ := heapOf os) (no := 0) P8 okT9 ?hnd (by omega) hH hPm F10 N10 (lk_ne (by decide) (lk_ne (by decide) (lk_ne (by decide) m6o))) (lk_ne (by decide) (lk_ne (by decide) (lk_ne (by decide) m6h))) hE fun ps no np h tk hpp hps F11 N11 => ?_)
  case hnd =>
    rw [hks]
    exact List.Pairwise.map _ (fun a b h e => h (by exact Int.ofNat.inj e)) List.nodup_range
  clear F10 N10
  have hpl : ps.length ≤ 50 := by rw [hpp.length_eq]; omega
  refine wpAny_execs_cons (st := srvSt11) (rest := srvTl12) (srv_fit C3 (ps := ps) (ms := ms) P8 (fun y hy => okW_mono (okT y (hpp.mem_iff.mp hy)) fun p hp => .tail _ (.tail _ hp)) (by omega) ?hos o1 F11 N11 hc2 (lk_ne (by decide) (lk_ne (by decide) (lk_ne (by decide) m6o))) fun Df fs h tk F12 N12 P12 hfs => ?_)
  case hos =>
    intro y hy
    have : y.s ∈ os.map (·.s) := List.mem_map_of_mem (hpp.mem_iff.mp hy)
    rw [hoS] at this
    obtain ⟨x, _, e⟩ := List.mem_map.mp this
    rw [← e]; exact kindS_strOk _
  clear F11 N11
  have hkl : kindsL (nums xs) = (kindsN (nums xs)).map kdT := kindsL_N _
  obtain ⟨r1, r2⟩ := served_pure (ts := th.map (·.1)) hos hoS hps hpp
  have hfs' : fs.map (·.1) = (fitOf (nums xs) (th.map (·.1))).map kindS := by rw [hfs, ← r2, e1, ← hkl, hds]
  refine wpAny_execs_cons (st := srvSt12) (rest := srvTl13) (srv_set C3 (hs := hs) (us := fs) P12 F12 N12 (lk_ne (by decide) (lk_ne (by decide) (lk_ne (by decide) (lk_ne (by decide) m6t)))) (lk_hit rfl) hc2 (vo := vals ps) (no := no) (vp := vals []) (np := np) rfl rfl (by omega) (fun h hh => .tail _ (.tail _ (.tail _ (inT h hh)))) hnm ?hus fun hs2 n2' extra h tk F13 N13 inX P13 hl2' hp2 => ?_)
  case hus =>
    intro u hu
    have : u.1 ∈ fs.map (·.1) := List.mem_map_of_mem hu
    rw [hfs'] at this
    obtain ⟨x, _, e⟩ := List.mem_map.mp this
    rw [← e]; exact kindS_ok _
  clear F12 N12 P12
  have hp3 : hs2.map (fun h : Hd => (h.nm, h.val)) = pairsOf (nums xs) (th.map (·.1)) := by rw [hp2]; exact pairs_eq hpairs hfs'
  have okX : ∀ y ∈ ps, OkW (extra ++ (Df, listOf (svals fs) fs.length) :: (Dm, listOf (svals ms) nm) :: (Du, listOf (svals us) nu) :: (Dk, listOf (svals ys) nk) :: tail6) y := fun y hy => okW_mono (okT y (hpp.mem_iff.mp hy)) fun p hp => List.mem_append_right _ (.tail _ (.tail _ (.tail _ (.tail _ hp))))
  have mW : (Dw, listOf (svals wz) nw) ∈ extra ++ (Df, listOf (svals fs) fs.length) :: (Dm, listOf (svals ms) nm) :: (Du, listOf (svals us) nu) :: (Dk, listOf (svals ys) nk) :: tail6 := List.mem_append_right _ (.tail _ (.tail _ (.tail _ (.tail _ wT))))
  have mM : (Dm, listOf (svals ms) nm) ∈ extra ++ (Df, listOf (svals fs) fs.length) :: (Dm, listOf (svals ms) nm) :: (Du, listOf (svals us) nu) :: (Dk, listOf (svals ys) nk) :: tail6 := List.mem_append_right _ (.tail _ (.head _))
  have mU : (Du, listOf (svals us) nu) ∈ extra ++ (Df, listOf (svals fs) fs.length) :: (Dm, listOf (svals ms) nm) :: (Du, listOf (svals us) nu) :: (Dk, listOf (svals ys) nk) :: tail6 := List.mem_append_right _ (.tail _ (.tail _ (.head _)))
  generalize extra ++ (Df, listOf (svals fs) fs.length) :: (Dm, listOf (svals ms) nm) :: (Du, listOf (svals us) nu) :: (Dk, listOf (svals ys) nk) :: tail6 = tailX at *
  refine wpAny_execs_cons (st := srvSt13) (rest := srvTl14) (srv_ret C3 (ps := ps) (hs := hs2) P13 okX (by omega) (by omega) F13 N13 hc2 (lk_ne (by decide) (lk_ne (by decide) (lk_ne (by decide) (lk_ne (by decide) m6t)))) (lk_ne (by decide) (lk_ne (by decide) (lk_ne (by decide) (lk_ne (by decide) m6o)))) (lk_ne (by decide) (lk_ne (by decide) (lk_ne (by decide) (lk_ne (by decide) m6w)))) (lk_ne (by decide) (lk_ne (by decide) (lk_hit rfl))) fun R Do Di ks h tk F14 N14 hki => ?_)
  refine k _ R _ _ _ _ _ Tn F14 N14 fun h' hh => ?_
  have hR := hh _ (.head _)
  have ha : ∀ p ∈ tailX, h'.get? p.1 = some p.2 := fun p hp => hh p (.tail _ (.tail _ (.tail _ hp)))
  obtain ⟨aq, rq⟩ := readsAll_Hd (h := h') hs2 fun q hq => ha _ (inX q hq)
  have f1 : (wz.map fun x => PyData.str x.1) = (nums xs).map fun x => .str (rowS x) := by
    have := congrArg (fun l => l.map PyData.str) hwz
    simpa [List.map_map, Function.comp_def] using this
  have f2 : (ks.map fun x => PyData.int x.1) = (ordOf (nums xs)).map fun (k : Nat) => .int (k : Int) := by
    have := congrArg (fun l => l.map PyData.int) (hki.trans r1)
    simpa [List.map_map, Function.comp_def] using this
  have f3 : (ms.map fun x => PyData.str x.1) = (lackS (kindsL (nums xs)) (th.map (·.1))).map .str := by rw [hkl, hds, ← e1, List.map_map]; rfl
  have f4 : (us.map fun x => PyData.str x.1) = (lackS (th.map (·.1)) (kindsL (nums xs))).map .str := by rw [hkl, hds, ← e2, List.map_map]; rfl
  have f5 : (hs2.map fun q => tupD (q.nm, q.val)) = (pairsOf (nums xs) (th.map (·.1))).map tupD := by rw [← hp3, List.map_map]; rfl
  unfold dueD
  rw [← f1, ← f2, ← f3, ← f4, ← f5]
  exact ⟨_, reads_list_at hR rfl rfl (ReadsAll.cons (reads_list_at (ha _ mW) rfl rfl (readsAll_ST wz)) (ReadsAll.cons (reads_list_at (hh _ (.tail _ (.tail _ (.head _)))) rfl rfl (readsAll_IT ks)) (ReadsAll.cons (reads_list_at (ha _ mM) rfl rfl (readsAll_ST _)) (ReadsAll.cons (reads_list_at (ha _ mU) rfl rfl (readsAll_ST _)) (ReadsAll.cons (reads_list_at (hh _ (.tail _ (.head _))) rfl rfl rq) ReadsAll.nil)))))⟩
end
end
section
open PySem PySem.W PyProof.Rows PySem.Spec
set_option maxRecDepth 100000 in
set_option maxHeartbeats 8000000 in
theorem served {w : World} {nl tl : Addr} {n1 n2 : Nat} {xs : List IT} {th : List ST} {rest : Led} {ds : List Nat} (h1 : (nl, lst (ivals xs) n1) ∈ rest) (h2 : (tl, lst (svals th) n2) ∈ rest) (hl1 : xs.length ≤ 50) (hl2 : th.length ≤ 100)
   (hab : ∃ a ∈ nums xs, ∃ b ∈ nums xs, kindS a ≠ kindS b) (hds : th.map (·.1) = ds.map kdT) (d8 : ∀ d ∈ ds, d < 8) (sd : ds.Pairwise (· < ·)) :
   FnD w 40 240 [.ref nl, .ref tl] [] rest
  (fun r h h' => ∃ all, Has h' all ∧ (∀ p ∈ all, h.get? p.1 = none) ∧ ∀ h'', Has h'' all → ∃ as, Reads h'' r (dueD (nums xs) (th.map (·.1))) as) := by
  unfold FnD
  intro mean mg mb dp un gd cn cs a ccd cl outer A₀ base h₀ L m s Q E B F X hrest T hk hdp hun hret
  refine wpAny_call ?_
  k_dflt (refine' code_defCU ?k1 ?k2 ?k3 ?k5 ?kA ?kF ?kK ?k6 ?k7 ?k8 ?k9 ?kB ?kD ?_ ?c2 ?c3 ?c4; (case kA => exact rfl); (case kF => exact rfl); (case kK => exact hk); (case k1 => exact B); (case k2 => exact F); (case k3 => exact X); (case k5 => exact T); (case k6 => k_is); (case k7 => k_is); (case k8 => ktr_room); (case k9 => first | exact BindsTo.of_eq rfl | exact binds_K (by k_in) rfl (by k_is) rfl rfl rfl); (case kB => exact rfl); (case kD => decide +kernel); (case c2 => exact rfl); (case c3 => exact rfl); (case c4 => exact rfl); k_whole; intro L' h' tk' cells' F' N' Y' B' X' T'; k_cells Y'; (try simp only [List.cons_append, List.nil_append] at N'); (try dsimp only); (try k_lift B'); (try k_fold))

  have hb1 : s.heap.get? nl = some (lst (ivals xs) n1) := (hrest _ h1).1
  have hb2 : s.heap.get? tl = some (lst (svals th) n2) := (hrest _ h2).1
  refine srv_body ⟨B', X', T', hk, by omega, by omega⟩ X T hb1 hl1 hb2 hl2 (hrest _ h2).2 hab hds d8 sd F' N' ?d1 ?d2 ?d3 ?hE ?k
  case d1 => assumption
  case d2 => rfl
  case d3 => rfl
  case hE => passes_own
  case k =>
    intro g₂ R all m₂ h tk d Tn F9 N9 hr
    refine hret _ _ _ _ (KeepU.of Tn F9.keep) ⟨all, fun p hp => (N9 p hp).1, fun p hp => turn_none Tn (N9 p hp).2.2, hr⟩
end
section
open PySem PySem.W PyProof.Rows PySem.Spec
theorem lines_L1 : True := by
  k_with_none
  (k_with "om" => (with_reducible first | assumption | exact Nat.ne_of_lt ‹_› | exact Nat.ne_of_gt ‹_› | exact Ne.symm ‹_› | exact Mine.o_a ‹_› (by decide) | exact Mine.o_b ‹_› (by decide) | exact Mine.o_c ‹_› | exact Mine.o_le (n := 100) ‹_› (by decide) | exact Mine.o_le ‹_› (by decide) | exact Mine.o_l ‹_› (by decide) | exact Mine.o_1 (n := 100) ‹_› (by decide) | exact Mine.o_2 (n := 100) ‹_› (by decide) | exact Mine.o_lt (n := 100) ‹_› (by decide) | exact Mine.o_lt ‹_› (by decide) | exact Mine.o_ll ‹_› (by decide) | exact Mine.o_s ‹_› | exact Mine.o_n _ | exact Mine.o_0 _ | exact Mine.o_i ‹_› (by decide) | exact Mine.o_m ‹_› (by decide) | exact Mine.o_j (n := 100) ‹_› ‹_› (by decide) | exact Mine.o_k ‹_› ‹_› (by decide) | exact Mine.o_e (n := 100) ‹_› ‹_› (by decide) | exact Nat.ne_of_lt (by k_extra "cj") | exact Nat.ne_of_gt (by k_extra "cj") | exact Ne.symm (by k_extra "cj") | k_extra "cj" | fail))
  (k_with "cj" => (first | exact And.left ‹_› | exact Mine.c_2 ‹_› | exact Mine.c_3 ‹_› | exact Mine.c_4 ‹_› | exact Mine.c_5 ‹_› | exact Mine.c_6 ‹_› | exact Mine.c_7 ‹_› | exact Mine.c_8 ‹_› | exact Mine.c_9 ‹_› | exact And.right ‹_› | exact Mine.d_3 ‹_› | exact Mine.d_4 ‹_› | exact Mine.d_5 ‹_› | exact Mine.d_6 ‹_› | exact Mine.d_7 ‹_› | exact Mine.d_8 ‹_› | exact Mine.d_9 ‹_› | fail))
  (k_with "fn ctx" => (((case k1 => k_asm); (case k2 => k_asm); (case k3 => k_asm); (case k4 => k_asm); (case k5 => k_asm); (case kK => first | exact rfl | assumption); (case kd => ktr_room); (case ku => ktr_units))))
  (k_with "call ref" => ((k_here; (with_reducible show wpAny _ _ (call (Value.ref 228) _ _) _ _ _); k_dflt (refine' (law_kind).use ?k1 ?k2 ?k3 ?k4 ?k5 ?kK ?kd ?ku ?kz ?_; (walk_at "fn ctx"); (case kz => exact fun _ h => nomatch h); intro zqr9 zqh9 zqtk9 zqF9 zqN9 zqk9 zqho9; obtain ⟨zqt9, zqhr9⟩ := zqho9; subst zqhr9; (try dsimp only); (try k_sweep)))))
  (k_with "call ref" => ((k_here; (with_reducible show wpAny _ _ (call (Value.ref 235) _ _) _ _ _); k_dflt (refine' (law_worth).use ?k1 ?k2 ?k3 ?k4 ?k5 ?kK ?kd ?ku ?kz ?_; (walk_at "fn ctx"); (case kz => exact fun _ h => nomatch h); intro zqr9 zqh9 zqtk9 zqF9 zqN9 zqk9 zqho9; obtain ⟨zqt9, zqhr9⟩ := zqho9; subst zqhr9; (try dsimp only); (try k_sweep)))))
  (k_with "m look" => (first | with_reducible assumption | (with_reducible exact lk_hit rfl) | (with_reducible refine' lk_ne ?hh ?hv; (case hh => decide); (case hv => walk_at "m look"))))
  (k_with "eval Name" => ((k_here; k_dflt (refine' nameX_L ?F ?v ?_ ?a ?b; (case b => rfl); (case a => rfl); (case F => k_asm); (case v => walk_at "m look"); k_whole))))
  (k_with "subscriptTail" => ((k_here; (with_reducible show wpAny _ _ (subscriptTail _ (PySem.Expr.Slice none (some _) none _) (Value.ref _) (Value.ref _)) _ _ _); k_dflt (refine' slice_6 ?F ?N ?l ?z ?_ ?s ?t; (case F => k_asm); (case N => k_asm); (case l => with_reducible assumption); (case z => omega); (case s => with_unfolding_all rfl); (case t => kmk_pure); k_whole); intro zqD' zqh' zqF' zqN' zql1; (try k_lt zql1); (try k_sweep))))
  (k_with "call builtin:sum" => ((k_here; (with_reducible show wpAny _ _ (call (Value.builtin "sum") [Value.ref _]) _ _ _); (with_unfolding_all refine' sumK ?k0 ?k1 ?k2 ?k3 (ints_IT _) ?_; (case k0 => with_unfolding_all rfl); (case k1 => k_asm); (case k2 => k_asm); (case k3 => exact PySem.IsL.isList (News.get (by k_asm) (by k_mem))); k_whole); intro zqh' zqtk' zqt' zqF' zqN')))
  trivial
set_option maxRecDepth 100000
noncomputable def lawTl0 : List Stmt := by
  refine' bodyOf (o := (hd.heap_39 pr0).lookup 250) ?h
  case h => k_is
noncomputable def lawScope : Scope := by
  refine' scopeOf (o := (hd.heap_39 pr0).lookup 250) ?h
  case h => k_is
noncomputable def lawSt0 : Stmt := by
  refine' st0 (l := lawTl0) ?h
  case h => exact rfl
noncomputable def lawTl1 : List Stmt := by
  refine' tl0 (l := lawTl0) ?h
  case h => exact rfl
noncomputable def lawSt1 : Stmt := by
  refine' st0 (l := lawTl1) ?h
  case h => exact rfl
noncomputable def lawTl2 : List Stmt := by
  refine' tl0 (l := lawTl1) ?h
  case h => exact rfl
noncomputable def lawSt2 : Stmt := by
  refine' st0 (l := lawTl2) ?h
  case h => exact rfl
noncomputable def lawTl3 : List Stmt := by
  refine' tl0 (l := lawTl2) ?h
  case h => exact rfl
theorem pick_6 (its : Array Value) : slicePick its none (some (6 : Int)) none = (its.toList.take 6).toArray := by
  have e : sliceBounds none (some (6 : Int)) none its.size = (((0 : Nat) : Int), ((min 6 its.size : Nat) : Int), 1) := by
    simp only [sliceBounds, Option.getD_none, show (1 : Int) > 0 by decide, if_true, if_neg (show ¬ ((6 : Int) < 0) by decide)]
    congr 2
    omega
  rw [kmk_pick_nat _ e, List.drop_zero, Nat.sub_zero]
  congr 1
  rw [← Array.length_toList, kmk_take_min]
section
variable {prog : Program} {w : World} {A : Around} {E : Value → Shared → Prop} {s : Shared} {h₀ : Heap} {L l : Addr} {m : Str → Option Value} {news : List (Addr × Obj)} {value slice : PySem.Expr} {xs : List IT} {t : Tok} {Q : Value → Shared → Prop}
theorem slice_6 (F : Fr h₀ L s.heap m) (N : News h₀ L s.heap news) (hl : h₀.IsList l (ivals xs)) (hz : xs.length < 2 ^ 18)
    (h : ∀ D h', Fr h₀ L h' m → News h₀ L h' ((D, listOf (ivals (xs.take 6)) 0) :: news) → (∀ p ∈ news, p.1 < D) → Q (.ref D) { s with heap := h' })
    (hs : subscripted slice false (.ref l) (.ref s.heap.objs.size) = operate [.ref s.heap.objs.size, .ref l] (getItem (.ref l) (.ref s.heap.objs.size))) (ht : ∀ r, letTemporaryGo value (.ref l) r = pure ()) :
    wpAny (model prog w) A (subscriptTail value slice (.ref l) (.ref s.heap.objs.size)) Q E { s with heap := s.heap.push { cls := .type "slice", data := .fields #[.none, .int (6 : Int) t, .none] } } := by
  obtain ⟨o, ho, hr⟩ := hl
  refine kmk_slice (its := ivals xs) F N ⟨o, F.keep _ _ ho, hr⟩ IsPart.none (IsPart.int _ _) (fun D h' F' N' l1 => h D h' F' ?_ l1) hs ht (by rw [ivals_size, sizeLine_eq]; omega)
  rw [pick_6] at N'
  have e : ((ivals xs).toList.take 6).toArray = ivals (xs.take 6) := by simp [ivals]
  rw [e] at N'; exact N'
end
theorem ints_IT : ∀ xs : List IT, IntsAre (xs.map IT.v) (xs.map (·.1))
  | [] => IntsAre.nil
  | _ :: xs => IntsAre.cons _ _ (ints_IT xs)
/-- the numbers that stand behind the script's -/
def moreL (a b c d e f : Tok) : List IT := [(83, a), (10, b), (55, c), (260, d), (129, e), (32, f)]
theorem cat_more (xs : List IT) (a b c d e f : Tok) : (ivals xs).toList ++ #[Value.int 83 a, Value.int 10 b, Value.int 55 c, Value.int 260 d, Value.int 129 e, Value.int 32 f].toList = (ivals (xs ++ moreL a b c d e f)).toList := by
  simp [ivals, moreL]
noncomputable abbrev lawEnv (L fa cd : Addr) : Env := envOfC (Str.ofString "law") lawScope L fa (.ref cd)
section
variable {w : World} {mean : ExcName → Option Value} {mg mb : Str → Option Value} {L fa cd : Addr} {base : Heap} {s : Shared} {Q : Flow → Shared → Prop} {E : Value → Shared → Prop} {m : Str → Option Value} {c1 : Obj} {sa : Addr} {sc : List IT}
set_option maxRecDepth 100000 in
set_option maxHeartbeats 8000000 in
theorem law_nums (B' : Below callerA base [] base) (X' : (hd.heap_39 w.params).In base) (T' : Top hd.view_39 LS mean mg mb base) (hsc : base.IsList sa (ivals sc)) (hsl : sc.length ≤ 63)
    (F : Fr base L s.heap m) (N : News base L s.heap [(L + 1, c1)]) (d1 : c1.data = .cell (some (.ref sa)))
    (k : ∀ D ta tb tc td te tf n h tk, Fr base L h (fun y => if y = Str.ofString "numbers" then some (.ref D) else m y) → News base L h [(D, listOf (ivals (sc.take 6 ++ moreL ta tb tc td te tf)) n), (L + 1, c1)] → Q .next { s with heap := h, toks := tk }) :
    wpAny (model PG w) (callerA.deeper (lawEnv L fa cd)) (exec lawSt0 (lawEnv L fa cd)) Q E s := by
  unfold lawSt0 lawEnv
  dsimp only [st0, tl0]
  repeat' (first | (k_unfold; (try dsimp only)) | ((fail_if_success (with_reducible show wpAny _ _ (eval (Expr.ListComp _ _ _ _) _) _ _ _)); (fail_if_success (with_reducible show wpAny _ _ (exec (Stmt.Assign [_] (Expr.ListComp _ _ _ _) _) _) _ _ _)); (fail_if_success (with_reducible show LCt.CompSrcT _ _ _ _ _ _ _ _ _ _ _ _ _ _ _)); (fail_if_success (with_reducible show LCg.CompSrc _ _ _ _ _ _ _ _ _ _ _ _ _ _)); (fail_if_success (with_reducible show LCg.CompEnd _ _ _ _ _ _ _ _ _ _ _ _ _ _)); (fail_if_success (with_reducible show @ite _ _ _ _ _)); (fail_if_success (with_reducible show wpAny _ _ (pyIter _) _ _ _)); (fail_if_success (with_reducible show Q _ _)); (fail_if_success (with_reducible show UnrPost _ _ _ _ _ _ _ _ _)); (fail_if_success (with_reducible show ∃ _, _)); (fail_if_success (with_reducible show wpAny _ _ (binaryOp Operator.Add (Value.ref _) (Value.ref _)) _ _ _)); walk1) | ((fail_if_success (with_reducible show wpAny _ _ (eval (Expr.ListComp _ _ _ _) _) _ _ _)); (fail_if_success (with_reducible show wpAny _ _ (exec (Stmt.Assign [_] (Expr.ListComp _ _ _ _) _) _) _ _ _)); (fail_if_success (with_reducible show LCt.CompSrcT _ _ _ _ _ _ _ _ _ _ _ _ _ _ _)); (fail_if_success (with_reducible show LCg.CompSrc _ _ _ _ _ _ _ _ _ _ _ _ _ _)); (fail_if_success (with_reducible show LCg.CompEnd _ _ _ _ _ _ _ _ _ _ _ _ _ _)); (fail_if_success (with_reducible show @ite _ _ _ _ _)); (fail_if_success (with_reducible show wpAny _ _ (pyIter _) _ _ _)); (fail_if_success (with_reducible show Q _ _)); (fail_if_success (with_reducible show UnrPost _ _ _ _ _ _ _ _ _)); (fail_if_success (with_reducible show ∃ _, _)); (fail_if_success (with_reducible show wpAny _ _ (binaryOp Operator.Add (Value.ref _) (Value.ref _)) _ _ _)); dsimp only; walk1))

  rename Fr base L _ _ => kF9
  rename News base L _ _ => kN9
  refine kmk_add_lit kF9 kN9 (by is_list) (by is_list) (cat_more _ _ _ _ _ _ _) (fun D2 h10 F10 N10 l10 => ?_) ?hz
  case hz => (rw [sizeLine_eq]; simp only [ivals, List.length_map, List.length_take, List.length_cons, List.length_nil]; omega)
  clear kF9 kN9
  rw [Array.toArray_toList] at N10
  repeat' (first | (k_unfold; (try dsimp only)) | ((fail_if_success (with_reducible show wpAny _ _ (eval (Expr.ListComp _ _ _ _) _) _ _ _)); (fail_if_success (with_reducible show wpAny _ _ (exec (Stmt.Assign [_] (Expr.ListComp _ _ _ _) _) _) _ _ _)); (fail_if_success (with_reducible show LCt.CompSrcT _ _ _ _ _ _ _ _ _ _ _ _ _ _ _)); (fail_if_success (with_reducible show LCg.CompSrc _ _ _ _ _ _ _ _ _ _ _ _ _ _)); (fail_if_success (with_reducible show LCg.CompEnd _ _ _ _ _ _ _ _ _ _ _ _ _ _)); (fail_if_success (with_reducible show @ite _ _ _ _ _)); (fail_if_success (with_reducible show wpAny _ _ (pyIter _) _ _ _)); (fail_if_success (with_reducible show Q _ _)); (fail_if_success (with_reducible show UnrPost _ _ _ _ _ _ _ _ _)); (fail_if_success (with_reducible show ∃ _, _)); (fail_if_success (with_reducible show wpAny _ _ (binaryOp Operator.Add (Value.ref _) (Value.ref _)) _ _ _)); walk1) | ((fail_if_success (with_reducible show wpAny _ _ (eval (Expr.ListComp _ _ _ _) _) _ _ _)); (fail_if_success (with_reducible show wpAny _ _ (exec (Stmt.Assign [_] (Expr.ListComp _ _ _ _) _) _) _ _ _)); (fail_if_success (with_reducible show LCt.CompSrcT _ _ _ _ _ _ _ _ _ _ _ _ _ _ _)); (fail_if_success (with_reducible show LCg.CompSrc _ _ _ _ _ _ _ _ _ _ _ _ _ _)); (fail_if_success (with_reducible show LCg.CompEnd _ _ _ _ _ _ _ _ _ _ _ _ _ _)); (fail_if_success (with_reducible show @ite _ _ _ _ _)); (fail_if_success (with_reducible show wpAny _ _ (pyIter _) _ _ _)); (fail_if_success (with_reducible show Q _ _)); (fail_if_success (with_reducible show UnrPost _ _ _ _ _ _ _ _ _)); (fail_if_success (with_reducible show ∃ _, _)); (fail_if_success (with_reducible show wpAny _ _ (binaryOp Operator.Add (Value.ref _) (Value.ref _)) _ _ _)); dsimp only; walk1))

  rename Fr base L _ _ => kF9
  rename News base L _ _ => kN9
  exact k D2 _ _ _ _ _ _ _ _ _ kF9 (cb_drop kN9 (List.forall_mem_cons.mpr ⟨.head _, List.forall_mem_cons.mpr ⟨.tail _ (.tail _ (.tail _ (.head _))), List.forall_mem_nil _⟩⟩))
set_option maxRecDepth 100000 in
set_option maxHeartbeats 8000000 in
theorem law_there (B' : Below callerA base [] base) (X' : (hd.heap_39 w.params).In base) (T' : Top hd.view_39 LS mean mg mb base) (hsc : base.IsList sa (ivals sc)) (hsl : sc.length ≤ 63) {Dn : Addr} {oDn : Obj}
    (F : Fr base L s.heap m) (N : News base L s.heap [(Dn, oDn), (L + 1, c1)]) (d1 : c1.data = .cell (some (.ref sa)))
    (k : ∀ D (us : List ST) (ds : List Nat) h tk, Fr base L h (fun y => if y = Str.ofString "there" then some (.ref D) else m y) → News base L h [(D, listOf (svals us) us.length), (Dn, oDn), (L + 1, c1)] → us.map (·.1) = ds.map kdT → (∀ d ∈ ds, d < 8) → ds.Pairwise (· < ·) → Q .next { s with heap := h, toks := tk }) :
    wpAny (model PG w) (callerA.deeper (lawEnv L fa cd)) (exec lawSt1 (lawEnv L fa cd)) Q E s := by
  unfold lawSt1 lawEnv
  dsimp only [st0, tl0]
  repeat' (first | (k_unfold; (try dsimp only)) | ((fail_if_success (with_reducible show wpAny _ _ (eval (Expr.ListComp _ _ _ _) _) _ _ _)); (fail_if_success (with_reducible show wpAny _ _ (exec (Stmt.Assign [_] (Expr.ListComp _ _ _ _) _) _) _ _ _)); (fail_if_success (with_reducible show LCt.CompSrcT _ _ _ _ _ _ _ _ _ _ _ _ _ _ _)); (fail_if_success (with_reducible show LCg.CompSrc _ _ _ _ _ _ _ _ _ _ _ _ _ _)); (fail_if_success (with_reducible show LCg.CompEnd _ _ _ _ _ _ _ _ _ _ _ _ _ _)); (fail_if_success (with_reducible show @ite _ _ _ _ _)); (fail_if_success (with_reducible show wpAny _ _ (pyIter _) _ _ _)); (fail_if_success (with_reducible show Q _ _)); (fail_if_success (with_reducible show UnrPost _ _ _ _ _ _ _ _ _)); (fail_if_success (with_reducible show ∃ _, _)); (fail_if_success (with_reducible show wpAny _ _ (binaryOp Operator.Add (Value.ref _) (Value.ref _)) _ _ _)); walk1) | ((fail_if_success (with_reducible show wpAny _ _ (eval (Expr.ListComp _ _ _ _) _) _ _ _)); (fail_if_success (with_reducible show wpAny _ _ (exec (Stmt.Assign [_] (Expr.ListComp _ _ _ _) _) _) _ _ _)); (fail_if_success (with_reducible show LCt.CompSrcT _ _ _ _ _ _ _ _ _ _ _ _ _ _ _)); (fail_if_success (with_reducible show LCg.CompSrc _ _ _ _ _ _ _ _ _ _ _ _ _ _)); (fail_if_success (with_reducible show LCg.CompEnd _ _ _ _ _ _ _ _ _ _ _ _ _ _)); (fail_if_success (with_reducible show @ite _ _ _ _ _)); (fail_if_success (with_reducible show wpAny _ _ (pyIter _) _ _ _)); (fail_if_success (with_reducible show Q _ _)); (fail_if_success (with_reducible show UnrPost _ _ _ _ _ _ _ _ _)); (fail_if_success (with_reducible show ∃ _, _)); (fail_if_success (with_reducible show wpAny _ _ (binaryOp Operator.Add (Value.ref _) (Value.ref _)) _ _ _)); dsimp only; walk1))

  rename Fr base L _ _ => kF9
  refine LCt.Assign_ListComp_T (F₀ := kF9) (by rfl) (by with_unfolding_all rfl) (by with_unfolding_all rfl) (by decide) (by rfl) (by decide) (by rfl) (by rfl) (by rfl) ?_
  repeat' (first | (k_unfold; (try dsimp only)) | ((fail_if_success (with_reducible show wpAny _ _ (eval (Expr.ListComp _ _ _ _) _) _ _ _)); (fail_if_success (with_reducible show wpAny _ _ (exec (Stmt.Assign [_] (Expr.ListComp _ _ _ _) _) _) _ _ _)); (fail_if_success (with_reducible show LCt.CompSrcT _ _ _ _ _ _ _ _ _ _ _ _ _ _ _)); (fail_if_success (with_reducible show LCg.CompSrc _ _ _ _ _ _ _ _ _ _ _ _ _ _)); (fail_if_success (with_reducible show LCg.CompEnd _ _ _ _ _ _ _ _ _ _ _ _ _ _)); (fail_if_success (with_reducible show @ite _ _ _ _ _)); (fail_if_success (with_reducible show wpAny _ _ (pyIter _) _ _ _)); (fail_if_success (with_reducible show Q _ _)); (fail_if_success (with_reducible show UnrPost _ _ _ _ _ _ _ _ _)); (fail_if_success (with_reducible show ∃ _, _)); (fail_if_success (with_reducible show wpAny _ _ (binaryOp Operator.Add (Value.ref _) (Value.ref _)) _ _ _)); walk1) | ((fail_if_success (with_reducible show wpAny _ _ (eval (Expr.ListComp _ _ _ _) _) _ _ _)); (fail_if_success (with_reducible show wpAny _ _ (exec (Stmt.Assign [_] (Expr.ListComp _ _ _ _) _) _) _ _ _)); (fail_if_success (with_reducible show LCt.CompSrcT _ _ _ _ _ _ _ _ _ _ _ _ _ _ _)); (fail_if_success (with_reducible show LCg.CompSrc _ _ _ _ _ _ _ _ _ _ _ _ _ _)); (fail_if_success (with_reducible show LCg.CompEnd _ _ _ _ _ _ _ _ _ _ _ _ _ _)); (fail_if_success (with_reducible show @ite _ _ _ _ _)); (fail_if_success (with_reducible show wpAny _ _ (pyIter _) _ _ _)); (fail_if_success (with_reducible show Q _ _)); (fail_if_success (with_reducible show UnrPost _ _ _ _ _ _ _ _ _)); (fail_if_success (with_reducible show ∃ _, _)); (fail_if_success (with_reducible show wpAny _ _ (binaryOp Operator.Add (Value.ref _) (Value.ref _)) _ _ _)); dsimp only; walk1))

  rename Fr base L _ _ => kF9
  rename News base L _ _ => kN9
  rename IsRange _ _ _ _ _ _ _ _ => kR9
  refine LCt.CompSrcT.range (n := 8) rfl kF9 kN9 kR9 (by decide) (by decide) (by rw [sizeLine_eq]; decide) (fun g => restT_ind (fun i ys news => news = [(Dn, oDn), (L + 1, c1)] ∧ ∃ (us : List ST) (ds : List Nat), ys = us.map ST.v ∧ us.map (·.1) = ds.map kdT ∧ (∀ d ∈ ds, d < i) ∧ ds.Pairwise (· < ·)) ?elem ?fin _ 0 [] _ (Nat.zero_add _) ⟨rfl, [], [], rfl, rfl, (fun _ h => nomatch h), List.Pairwise.nil⟩)
  case fin =>
    clear kF9 kN9 kR9
    rintro ys news ⟨rfl, us, ds, rfl, hus, h8, hst⟩ D h tk F9 N9 off9
    refine k D us ds _ _ F9 ?_ hus h8 hst
    have e : LCg.lst (us.map ST.v) = listOf (svals us) us.length := by simp only [LCg.lst, W.listOf, svals, List.length_map]
    rw [← e]; exact N9
  case elem =>
    clear kF9 kN9 kR9
    rintro i hi ys news ⟨rfl, us, ds, rfl, hus, h8, hst⟩ v I oI C oC D m₂ h tk E' ⟨t0, rfl⟩ hNs hx F9 N9 off hne
    rw [Int.zero_add] at hx
    have i0 : (0 : Int) ≤ (i : Int) := Int.natCast_nonneg _
    have i8 : (i : Int) < 8 := by omega
    repeat' (first | (k_unfold; (try dsimp only)) | ((fail_if_success (with_reducible show wpAny _ _ (eval (Expr.ListComp _ _ _ _) _) _ _ _)); (fail_if_success (with_reducible show wpAny _ _ (exec (Stmt.Assign [_] (Expr.ListComp _ _ _ _) _) _) _ _ _)); (fail_if_success (with_reducible show LCt.CompSrcT _ _ _ _ _ _ _ _ _ _ _ _ _ _ _)); (fail_if_success (with_reducible show LCg.CompSrc _ _ _ _ _ _ _ _ _ _ _ _ _ _)); (fail_if_success (with_reducible show LCg.CompEnd _ _ _ _ _ _ _ _ _ _ _ _ _ _)); (fail_if_success (with_reducible show @ite _ _ _ _ _)); (fail_if_success (with_reducible show wpAny _ _ (pyIter _) _ _ _)); (fail_if_success (with_reducible show Q _ _)); (fail_if_success (with_reducible show UnrPost _ _ _ _ _ _ _ _ _)); (fail_if_success (with_reducible show ∃ _, _)); (fail_if_success (with_reducible show wpAny _ _ (binaryOp Operator.Add (Value.ref _) (Value.ref _)) _ _ _)); walk1) | ((fail_if_success (with_reducible show wpAny _ _ (eval (Expr.ListComp _ _ _ _) _) _ _ _)); (fail_if_success (with_reducible show wpAny _ _ (exec (Stmt.Assign [_] (Expr.ListComp _ _ _ _) _) _) _ _ _)); (fail_if_success (with_reducible show LCt.CompSrcT _ _ _ _ _ _ _ _ _ _ _ _ _ _ _)); (fail_if_success (with_reducible show LCg.CompSrc _ _ _ _ _ _ _ _ _ _ _ _ _ _)); (fail_if_success (with_reducible show LCg.CompEnd _ _ _ _ _ _ _ _ _ _ _ _ _ _)); (fail_if_success (with_reducible show @ite _ _ _ _ _)); (fail_if_success (with_reducible show wpAny _ _ (pyIter _) _ _ _)); (fail_if_success (with_reducible show Q _ _)); (fail_if_success (with_reducible show UnrPost _ _ _ _ _ _ _ _ _)); (fail_if_success (with_reducible show ∃ _, _)); (fail_if_success (with_reducible show wpAny _ _ (binaryOp Operator.Add (Value.ref _) (Value.ref _)) _ _ _)); dsimp only; walk1))

    by_cases hq : ((((sc.take 6).map (·.1)).sum + 183).fdiv (2 ^ ((i : Int)).toNat)).fmod 2 == 1
    · refine iteT hq ?_
      repeat' (first | (k_unfold; (try dsimp only)) | ((fail_if_success (with_reducible show wpAny _ _ (eval (Expr.ListComp _ _ _ _) _) _ _ _)); (fail_if_success (with_reducible show wpAny _ _ (exec (Stmt.Assign [_] (Expr.ListComp _ _ _ _) _) _) _ _ _)); (fail_if_success (with_reducible show LCt.CompSrcT _ _ _ _ _ _ _ _ _ _ _ _ _ _ _)); (fail_if_success (with_reducible show LCg.CompSrc _ _ _ _ _ _ _ _ _ _ _ _ _ _)); (fail_if_success (with_reducible show LCg.CompEnd _ _ _ _ _ _ _ _ _ _ _ _ _ _)); (fail_if_success (with_reducible show @ite _ _ _ _ _)); (fail_if_success (with_reducible show wpAny _ _ (pyIter _) _ _ _)); (fail_if_success (with_reducible show Q _ _)); (fail_if_success (with_reducible show UnrPost _ _ _ _ _ _ _ _ _)); (fail_if_success (with_reducible show ∃ _, _)); (fail_if_success (with_reducible show wpAny _ _ (binaryOp Operator.Add (Value.ref _) (Value.ref _)) _ _ _)); walk1) | ((fail_if_success (with_reducible show wpAny _ _ (eval (Expr.ListComp _ _ _ _) _) _ _ _)); (fail_if_success (with_reducible show wpAny _ _ (exec (Stmt.Assign [_] (Expr.ListComp _ _ _ _) _) _) _ _ _)); (fail_if_success (with_reducible show LCt.CompSrcT _ _ _ _ _ _ _ _ _ _ _ _ _ _ _)); (fail_if_success (with_reducible show LCg.CompSrc _ _ _ _ _ _ _ _ _ _ _ _ _ _)); (fail_if_success (with_reducible show LCg.CompEnd _ _ _ _ _ _ _ _ _ _ _ _ _ _)); (fail_if_success (with_reducible show @ite _ _ _ _ _)); (fail_if_success (with_reducible show wpAny _ _ (pyIter _) _ _ _)); (fail_if_success (with_reducible show Q _ _)); (fail_if_success (with_reducible show UnrPost _ _ _ _ _ _ _ _ _)); (fail_if_success (with_reducible show ∃ _, _)); (fail_if_success (with_reducible show wpAny _ _ (binaryOp Operator.Add (Value.ref _) (Value.ref _)) _ _ _)); dsimp only; walk1))

      rename Fr base L _ _ => kF9
      rename News base L _ _ => kN9
      refine LCg.CompEnd.intro kF9 kN9 [(Dn, oDn), (L + 1, c1)] (List.forall_mem_cons.mpr ⟨by k_mem, List.forall_mem_cons.mpr ⟨by k_mem, List.forall_mem_cons.mpr ⟨by k_mem, List.forall_mem_cons.mpr ⟨by k_mem, List.forall_mem_cons.mpr ⟨by k_mem, List.forall_mem_nil _⟩⟩⟩⟩⟩) off trivial ⟨rfl, us ++ [(kindS (i : Int), _)], ds ++ [i], by (simp only [List.map_append, List.map_cons, List.map_nil]; rfl), ?_, ?_, ?_⟩
      · rw [List.map_append, List.map_append, hus]; simp only [List.map_cons, List.map_nil, kindS_nat (c := i) hi]
      · intro d hd
        rcases List.mem_append.mp hd with hd | hd
        · have := h8 d hd; omega
        · have := List.mem_singleton.mp hd; omega
      · rw [List.pairwise_append]
        exact ⟨hst, List.pairwise_singleton _ _, fun a ha b hb => by rw [List.mem_singleton.mp hb]; exact h8 a ha⟩
    · refine iteF hq ?_
      rename Fr base L _ _ => kF9
      rename News base L _ _ => kN9
      exact LCg.CompEnd.intro kF9 kN9 [(Dn, oDn), (L + 1, c1)] (List.forall_mem_cons.mpr ⟨by k_mem, List.forall_mem_cons.mpr ⟨by k_mem, List.forall_mem_cons.mpr ⟨by k_mem, List.forall_mem_cons.mpr ⟨by k_mem, List.forall_mem_cons.mpr ⟨by k_mem, List.forall_mem_nil _⟩⟩⟩⟩⟩) off trivial ⟨rfl, us, ds, rfl, hus, fun d hd => by have := h8 d hd; omega, hst⟩
end
end
section
open PySem PySem.W PySem.Calls PyProof.Rows PySem.Spec PyProof.V
set_option maxRecDepth 100000
def LayK (k : Nat) (d : PyData) : Prop := d.canLay0 = true ∧ d.depth ≤ k
theorem layK_all {k : Nat} : ∀ {ds : List PyData}, (∀ d ∈ ds, LayK k d) → PyData.canLayAll0 ds = true ∧ PyData.depthAll ds ≤ k
  | [], _ => by simp [PyData.canLayAll0, PyData.depthAll]
  | d :: ds, h => by
    obtain ⟨h1, h2⟩ := h d (.head _)
    obtain ⟨q1, q2⟩ := layK_all (ds := ds) fun e he => h e (.tail _ he)
    simp only [PyData.canLayAll0, PyData.depthAll, h1, q1, Bool.and_true]
    exact ⟨trivial, by omega⟩
theorem layK_list {k : Nat} {ds : List PyData} (h : ∀ d ∈ ds, LayK k d) : LayK (k + 1) (.list ds) := by
  obtain ⟨q1, q2⟩ := layK_all h
  exact ⟨by simp only [PyData.canLay0]; exact q1, by simp only [PyData.depth]; omega⟩
theorem layK_tuple {k : Nat} {ds : List PyData} (h : ∀ d ∈ ds, LayK k d) : LayK (k + 1) (.tuple ds) := by
  obtain ⟨q1, q2⟩ := layK_all h
  exact ⟨by simp only [PyData.canLay0]; exact q1, by simp only [PyData.depth]; omega⟩
theorem layK_str {k : Nat} {x : Str} (h : okS x) : LayK k (.str x) := ⟨by simp only [PyData.canLay0]; exact h, by simp [PyData.depth]⟩
theorem layK_int {k : Nat} {x : Int} : LayK k (.int x) := ⟨by simp [PyData.canLay0], by simp [PyData.depth]⟩
theorem layK_mono {k k' : Nat} {d : PyData} (h : LayK k d) (hk : k ≤ k') : LayK k' d := ⟨h.1, Nat.le_trans h.2 hk⟩
theorem row_ok_all : ∀ c : Fin 8, ∀ d : Fin 11, okS (kd c ++ Str.ofString "; q=\"" ++ wt d ++ Str.ofString "\"") := by decide +kernel
theorem rowS_ok (x : Int) : okS (rowS x) := by
  obtain ⟨c, _, ec⟩ := kindS_fin x
  obtain ⟨d, _, ed⟩ := worthS_fin x
  unfold rowS
  rw [ec, ed]
  exact row_ok_all c d
theorem accS_okS (x : Int) : okS (accS x) := by
  unfold accS
  split
  · decide +kernel
  · split <;> decide +kernel
theorem strs_lay {l : List Str} (h : ∀ x ∈ l, okS x) : LayK 1 (.list (l.map .str)) := layK_list fun d hd => by
  obtain ⟨x, hx, rfl⟩ := List.mem_map.mp hd
  exact layK_str (h x hx)
theorem tupD_lay {p : Str × Str} (h1 : okS p.1) (h2 : okS p.2) : LayK 1 (tupD p) := layK_tuple fun d hd => by
  rcases List.mem_cons.mp hd with rfl | hd
  · exact layK_str h1
  · rcases List.mem_cons.mp hd with rfl | hd
    · exact layK_str h2
    · cases hd
theorem pairs_ok (ns : List Int) (ts : List Str) : ∀ p ∈ pairsOf ns ts, okS p.1 ∧ okS p.2 := by
  have ha : ∀ p ∈ accL ns, okS p.1 ∧ okS p.2 := fun p hp => by
    obtain ⟨x, _, rfl⟩ := List.mem_map.mp hp
    exact ⟨accS_okS x, rowS_ok x⟩
  intro p hp
  unfold pairsOf at hp
  cases hf : fitOf ns ts with
  | nil =>
    rw [hf] at hp
    rcases List.mem_cons.mp hp with rfl | hp
    · exact ⟨by decide +kernel, by decide +kernel⟩
    · rcases List.mem_append.mp hp with hp | hp
      · exact ha p hp
      · rw [List.mem_singleton.mp hp]; exact ⟨by decide +kernel, by decide +kernel⟩
  | cons u r =>
    rw [hf] at hp
    rcases List.mem_append.mp hp with hp | hp
    · exact ha p hp
    · rw [List.mem_singleton.mp hp]; exact ⟨(by decide +kernel : okS (Str.ofString "Content-Type")), kindS_strOk u⟩
theorem dueD_lay (ns : List Int) {ts : List Str} (hts : ∀ y ∈ ts, okS y) : LayK 3 (dueD ns ts) := by
  unfold dueD
  refine layK_list fun d hd => ?_
  simp only [List.mem_cons, List.not_mem_nil, or_false] at hd
  rcases hd with rfl | rfl | rfl | rfl | rfl
  · refine layK_mono (layK_list (k := 0) fun d hd => ?_) (by omega)
    obtain ⟨x, _, rfl⟩ := List.mem_map.mp hd
    exact layK_str (rowS_ok x)
  · refine layK_mono (layK_list (k := 0) fun d hd => ?_) (by omega)
    obtain ⟨x, _, rfl⟩ := List.mem_map.mp hd
    exact layK_int
  · refine layK_mono (strs_lay fun x hx => ?_) (by omega)
    obtain ⟨k, _, rfl⟩ := List.mem_map.mp (List.mem_filter.mp hx).1
    exact kindS_strOk _
  · exact layK_mono (strs_lay fun x hx => hts x (List.mem_filter.mp hx).1) (by omega)
  · refine layK_list fun d hd => ?_
    obtain ⟨p, hp, rfl⟩ := List.mem_map.mp hd
    exact tupD_lay (pairs_ok ns ts p hp).1 (pairs_ok ns ts p hp).2
end
section
open PySem PySem.W PyProof.Rows PySem.Spec
theorem lines_L2 : True := by
  k_with_none
  (k_with "om" => (with_reducible first | assumption | exact Nat.ne_of_lt ‹_› | exact Nat.ne_of_gt ‹_› | exact Ne.symm ‹_› | exact Mine.o_a ‹_› (by decide) | exact Mine.o_b ‹_› (by decide) | exact Mine.o_c ‹_› | exact Mine.o_le (n := 100) ‹_› (by decide) | exact Mine.o_le ‹_› (by decide) | exact Mine.o_l ‹_› (by decide) | exact Mine.o_1 (n := 100) ‹_› (by decide) | exact Mine.o_2 (n := 100) ‹_› (by decide) | exact Mine.o_lt (n := 100) ‹_› (by decide) | exact Mine.o_lt ‹_› (by decide) | exact Mine.o_ll ‹_› (by decide) | exact Mine.o_s ‹_› | exact Mine.o_n _ | exact Mine.o_0 _ | exact Mine.o_i ‹_› (by decide) | exact Mine.o_m ‹_› (by decide) | exact Mine.o_j (n := 100) ‹_› ‹_› (by decide) | exact Mine.o_k ‹_› ‹_› (by decide) | exact Mine.o_e (n := 100) ‹_› ‹_› (by decide) | exact Nat.ne_of_lt (by k_extra "cj") | exact Nat.ne_of_gt (by k_extra "cj") | exact Ne.symm (by k_extra "cj") | k_extra "cj" | fail))
  (k_with "cj" => (first | exact And.left ‹_› | exact Mine.c_2 ‹_› | exact Mine.c_3 ‹_› | exact Mine.c_4 ‹_› | exact Mine.c_5 ‹_› | exact Mine.c_6 ‹_› | exact Mine.c_7 ‹_› | exact Mine.c_8 ‹_› | exact Mine.c_9 ‹_› | exact And.right ‹_› | exact Mine.d_3 ‹_› | exact Mine.d_4 ‹_› | exact Mine.d_5 ‹_› | exact Mine.d_6 ‹_› | exact Mine.d_7 ‹_› | exact Mine.d_8 ‹_› | exact Mine.d_9 ‹_› | fail))
  (k_with "fn ctx" => (((case k1 => k_asm); (case k2 => k_asm); (case k3 => k_asm); (case k4 => k_asm); (case k5 => k_asm); (case kK => first | exact rfl | assumption); (case kd => ktr_room); (case ku => ktr_units))))
  (k_with "m look" => (first | with_reducible assumption | (with_reducible exact lk_hit rfl) | (with_reducible refine' lk_ne ?hh ?hv; (case hh => decide); (case hv => walk_at "m look"))))
  (k_with "eval Name" => ((k_here; k_dflt (refine' nameX_L ?F ?v ?_ ?a ?b; (case b => rfl); (case a => rfl); (case F => k_asm); (case v => walk_at "m look"); k_whole))))
  trivial
theorem nums_two (sc : List IT) (ta tb tc td te tf : Tok) : ∃ a ∈ nums (sc.take 6 ++ moreL ta tb tc td te tf), ∃ b ∈ nums (sc.take 6 ++ moreL ta tb tc td te tf), kindS a ≠ kindS b := by
  refine ⟨83, ?_, 10, ?_, by decide +kernel⟩ <;> (unfold nums moreL; rw [List.map_append]; refine List.mem_append_right _ ?_; simp)
section
variable {w : World} {mean : ExcName → Option Value} {mg mb : Str → Option Value} {L fa cd : Addr} {base : Heap} {s : Shared} {Q : Flow → Shared → Prop} {E : Value → Shared → Prop} {m : Str → Option Value} {c1 : Obj} {sa : Addr} {sc : List IT}
set_option maxRecDepth 100000 in
set_option maxHeartbeats 8000000 in
theorem law_ret (B' : Below callerA base [] base) (X' : (hd.heap_39 w.params).In base) (T' : Top hd.view_39 LS mean mg mb base) {xs : List IT} {th : List ST} {ds : List Nat} {nl tl : Addr} {n1 n2 : Nat} (hl1 : xs.length ≤ 50) (hl2 : th.length ≤ 100)
    (hab : ∃ a ∈ nums xs, ∃ b ∈ nums xs, kindS a ≠ kindS b) (hds : th.map (·.1) = ds.map kdT) (d8 : ∀ d ∈ ds, d < 8) (sd : ds.Pairwise (· < ·))
    (F : Fr base L s.heap m) (N : News base L s.heap [(tl, listOf (svals th) n2), (nl, listOf (ivals xs) n1), (L + 1, c1)]) (hmn : m (Str.ofString "numbers") = some (.ref nl)) (hmt : m (Str.ofString "there") = some (.ref tl))
    (k : ∀ h tk d, (∀ b o, base.get? b = some o → h.get? b = some o) → Q (.ret (.bool true)) { s with heap := h, toks := tk, drawn := d }) :
    wpAny (model PG w) (callerA.deeper (lawEnv L fa cd)) (exec lawSt2 (lawEnv L fa cd)) Q E s := by
  unfold lawSt2 lawEnv
  dsimp only [st0, tl0]
  have hts : ∀ y ∈ th.map (·.1), okS y := by
    rw [hds]; intro y hy
    obtain ⟨c, hc, rfl⟩ := List.mem_map.mp hy
    exact kdT_ok ⟨c, by have := d8 c hc; omega⟩
  have hlay := dueD_lay (nums xs) hts
  repeat' (first | (k_unfold; (try dsimp only)) | ((fail_if_success (with_reducible show wpAny _ _ (eval (Expr.ListComp _ _ _ _) _) _ _ _)); (fail_if_success (with_reducible show wpAny _ _ (exec (Stmt.Assign [_] (Expr.ListComp _ _ _ _) _) _) _ _ _)); (fail_if_success (with_reducible show LCt.CompSrcT _ _ _ _ _ _ _ _ _ _ _ _ _ _ _)); (fail_if_success (with_reducible show LCg.CompSrc _ _ _ _ _ _ _ _ _ _ _ _ _ _)); (fail_if_success (with_reducible show LCg.CompEnd _ _ _ _ _ _ _ _ _ _ _ _ _ _)); (fail_if_success (with_reducible show @ite _ _ _ _ _)); (fail_if_success (with_reducible show wpAny _ _ (pyIter _) _ _ _)); (fail_if_success (with_reducible show Q _ _)); (fail_if_success (with_reducible show UnrPost _ _ _ _ _ _ _ _ _)); (fail_if_success (with_reducible show ∃ _, _)); (fail_if_success (with_reducible show wpAny _ _ (call (Value.ref 240) _ _) _ _ _)); (fail_if_success (with_reducible show wpAny _ _ (call (Value.ref 245) _ _) _ _ _)); (fail_if_success (with_reducible show wpAny _ _ (compareOp CmpOp.Eq _ _) _ _ _)); walk1) | ((fail_if_success (with_reducible show wpAny _ _ (eval (Expr.ListComp _ _ _ _) _) _ _ _)); (fail_if_success (with_reducible show wpAny _ _ (exec (Stmt.Assign [_] (Expr.ListComp _ _ _ _) _) _) _ _ _)); (fail_if_success (with_reducible show LCt.CompSrcT _ _ _ _ _ _ _ _ _ _ _ _ _ _ _)); (fail_if_success (with_reducible show LCg.CompSrc _ _ _ _ _ _ _ _ _ _ _ _ _ _)); (fail_if_success (with_reducible show LCg.CompEnd _ _ _ _ _ _ _ _ _ _ _ _ _ _)); (fail_if_success (with_reducible show @ite _ _ _ _ _)); (fail_if_success (with_reducible show wpAny _ _ (pyIter _) _ _ _)); (fail_if_success (with_reducible show Q _ _)); (fail_if_success (with_reducible show UnrPost _ _ _ _ _ _ _ _ _)); (fail_if_success (with_reducible show ∃ _, _)); (fail_if_success (with_reducible show wpAny _ _ (call (Value.ref 240) _ _) _ _ _)); (fail_if_success (with_reducible show wpAny _ _ (call (Value.ref 245) _ _) _ _ _)); (fail_if_success (with_reducible show wpAny _ _ (compareOp CmpOp.Eq _ _) _ _ _)); dsimp only; walk1))

  rename Fr base L _ _ => kF9
  rename News base L _ _ => kN9
  have hof := news_off B' kN9
  k_dflt (refine' (served (xs := xs) (th := th) (rest := [(nl, lst (ivals xs) n1), (tl, lst (svals th) n2)]) (.head _) (.tail _ (.head _)) hl1 hl2 hab hds d8 sd).use B' kF9 X' ?kr T' ?kK ?kd ?ku ?_)
  case kr =>
    (simp only [List.forall_mem_cons])
    exact ⟨⟨(kN9 _ (.tail _ (.head _))).1, hof _ (.tail _ (.head _))⟩, ⟨(kN9 _ (.head _)).1, hof _ (.head _)⟩, List.forall_mem_nil _⟩
  case kK => exact rfl
  case kd => ktr_room
  case ku => ktr_units
  rintro r h2 tk2 d2 U ⟨all, hall, hfr, hrd⟩
  obtain ⟨g₂, Tn, F2, B2⟩ := rebase B' kF9 U
  have N2 := news_rebase B' kN9 U Tn
  have X2 : (hd.heap_39 w.params).In g₂ := X'.keeps B2.stays
  have T2 := T'.keeps B2.stays
  have NA : News g₂ L h2 all := fun p hp => ⟨hall p hp, (fresh_off kF9 (hfr p hp)).1, Tn.none_ _ (fresh_off kF9 (hfr p hp)).2⟩
  have hkeep : ∀ b o, base.get? b = some o → g₂.get? b = some o := fun b o e => Tn.other b o e (fun h => nomatch h)
  have N3 : News g₂ L h2 ((tl, listOf (svals th) n2) :: (nl, listOf (ivals xs) n1) :: (L + 1, c1) :: all) := fun p hp => by
    rcases List.mem_cons.mp hp with rfl | hp
    · exact N2 _ (.head _)
    rcases List.mem_cons.mp hp with rfl | hp
    · exact N2 _ (.tail _ (.head _))
    rcases List.mem_cons.mp hp with rfl | hp
    · exact N2 _ (.tail _ (.tail _ (.head _)))
    · exact NA p hp
  clear kF9 kN9 hof N2 NA hall hfr U
  clear B' X' T'
  (try dsimp only)
  repeat' (first | (k_unfold; (try dsimp only)) | ((fail_if_success (with_reducible show wpAny _ _ (eval (Expr.ListComp _ _ _ _) _) _ _ _)); (fail_if_success (with_reducible show wpAny _ _ (exec (Stmt.Assign [_] (Expr.ListComp _ _ _ _) _) _) _ _ _)); (fail_if_success (with_reducible show LCt.CompSrcT _ _ _ _ _ _ _ _ _ _ _ _ _ _ _)); (fail_if_success (with_reducible show LCg.CompSrc _ _ _ _ _ _ _ _ _ _ _ _ _ _)); (fail_if_success (with_reducible show LCg.CompEnd _ _ _ _ _ _ _ _ _ _ _ _ _ _)); (fail_if_success (with_reducible show @ite _ _ _ _ _)); (fail_if_success (with_reducible show wpAny _ _ (pyIter _) _ _ _)); (fail_if_success (with_reducible show Q _ _)); (fail_if_success (with_reducible show UnrPost _ _ _ _ _ _ _ _ _)); (fail_if_success (with_reducible show ∃ _, _)); (fail_if_success (with_reducible show wpAny _ _ (call (Value.ref 240) _ _) _ _ _)); (fail_if_success (with_reducible show wpAny _ _ (call (Value.ref 245) _ _) _ _ _)); (fail_if_success (with_reducible show wpAny _ _ (compareOp CmpOp.Eq _ _) _ _ _)); walk1) | ((fail_if_success (with_reducible show wpAny _ _ (eval (Expr.ListComp _ _ _ _) _) _ _ _)); (fail_if_success (with_reducible show wpAny _ _ (exec (Stmt.Assign [_] (Expr.ListComp _ _ _ _) _) _) _ _ _)); (fail_if_success (with_reducible show LCt.CompSrcT _ _ _ _ _ _ _ _ _ _ _ _ _ _ _)); (fail_if_success (with_reducible show LCg.CompSrc _ _ _ _ _ _ _ _ _ _ _ _ _ _)); (fail_if_success (with_reducible show LCg.CompEnd _ _ _ _ _ _ _ _ _ _ _ _ _ _)); (fail_if_success (with_reducible show @ite _ _ _ _ _)); (fail_if_success (with_reducible show wpAny _ _ (pyIter _) _ _ _)); (fail_if_success (with_reducible show Q _ _)); (fail_if_success (with_reducible show UnrPost _ _ _ _ _ _ _ _ _)); (fail_if_success (with_reducible show ∃ _, _)); (fail_if_success (with_reducible show wpAny _ _ (call (Value.ref 240) _ _) _ _ _)); (fail_if_success (with_reducible show wpAny _ _ (call (Value.ref 245) _ _) _ _ _)); (fail_if_success (with_reducible show wpAny _ _ (compareOp CmpOp.Eq _ _) _ _ _)); dsimp only; walk1))

  rename Fr g₂ L _ _ => kF9
  rename News g₂ L _ _ => kN9
  k_dflt (refine' (due (xs := xs) (th := th) (n1 := n1) (n2 := n2) (rest := (nl, lst (ivals xs) n1) :: (tl, lst (svals th) n2) :: all) (.head _) (.tail _ (.head _)) (by omega) hl2 hts).use B2 kF9 X2 kN9 T2 ?kK ?kd ?ku ?kM ?kR ?kS ?_)
  case kK => exact rfl
  case kd => ktr_room
  case ku => ktr_units
  case kM => exact List.forall_mem_nil _
  case kR =>
    (simp only [List.forall_mem_cons])
    exact ⟨.tail _ (.head _), .head _, fun p hp => .tail _ (.tail _ (.tail _ hp))⟩
  case kS => exact fun p _ h => nomatch h
  rintro r2 muts h3 tk3 F3 N4 hrd2
  obtain ⟨as2, R2⟩ := hrd2 h3 fun p hp => (N4 p (List.mem_append_left _ hp)).1
  obtain ⟨as1, R1⟩ := hrd h3 fun p hp => (N4 p (List.mem_append_right _ (.tail _ (.tail _ hp)))).1
  clear kF9 kN9
  (try dsimp only)
  repeat' (first | (k_unfold; (try dsimp only)) | ((fail_if_success (with_reducible show wpAny _ _ (eval (Expr.ListComp _ _ _ _) _) _ _ _)); (fail_if_success (with_reducible show wpAny _ _ (exec (Stmt.Assign [_] (Expr.ListComp _ _ _ _) _) _) _ _ _)); (fail_if_success (with_reducible show LCt.CompSrcT _ _ _ _ _ _ _ _ _ _ _ _ _ _ _)); (fail_if_success (with_reducible show LCg.CompSrc _ _ _ _ _ _ _ _ _ _ _ _ _ _)); (fail_if_success (with_reducible show LCg.CompEnd _ _ _ _ _ _ _ _ _ _ _ _ _ _)); (fail_if_success (with_reducible show @ite _ _ _ _ _)); (fail_if_success (with_reducible show wpAny _ _ (pyIter _) _ _ _)); (fail_if_success (with_reducible show Q _ _)); (fail_if_success (with_reducible show UnrPost _ _ _ _ _ _ _ _ _)); (fail_if_success (with_reducible show ∃ _, _)); (fail_if_success (with_reducible show wpAny _ _ (call (Value.ref 240) _ _) _ _ _)); (fail_if_success (with_reducible show wpAny _ _ (call (Value.ref 245) _ _) _ _ _)); (fail_if_success (with_reducible show wpAny _ _ (compareOp CmpOp.Eq _ _) _ _ _)); walk1) | ((fail_if_success (with_reducible show wpAny _ _ (eval (Expr.ListComp _ _ _ _) _) _ _ _)); (fail_if_success (with_reducible show wpAny _ _ (exec (Stmt.Assign [_] (Expr.ListComp _ _ _ _) _) _) _ _ _)); (fail_if_success (with_reducible show LCt.CompSrcT _ _ _ _ _ _ _ _ _ _ _ _ _ _ _)); (fail_if_success (with_reducible show LCg.CompSrc _ _ _ _ _ _ _ _ _ _ _ _ _ _)); (fail_if_success (with_reducible show LCg.CompEnd _ _ _ _ _ _ _ _ _ _ _ _ _ _)); (fail_if_success (with_reducible show @ite _ _ _ _ _)); (fail_if_success (with_reducible show wpAny _ _ (pyIter _) _ _ _)); (fail_if_success (with_reducible show Q _ _)); (fail_if_success (with_reducible show UnrPost _ _ _ _ _ _ _ _ _)); (fail_if_success (with_reducible show ∃ _, _)); (fail_if_success (with_reducible show wpAny _ _ (call (Value.ref 240) _ _) _ _ _)); (fail_if_success (with_reducible show wpAny _ _ (call (Value.ref 245) _ _) _ _ _)); (fail_if_success (with_reducible show wpAny _ _ (compareOp CmpOp.Eq _ _) _ _ _)); dsimp only; walk1))

  refine SeqAt.compareEq_reads R1 R2 hlay.1 hlay.1 ?hu ?_
  case hu =>
    have := hlay.2
    rw [Nat.min_self]
    refine Nat.lt_of_le_of_lt (Nat.add_le_add_left this _) ?_
    ktr_units
  rw [SeqAt.eqv_refl _ hlay.1]
  repeat' (first | (k_unfold; (try dsimp only)) | ((fail_if_success (with_reducible show wpAny _ _ (eval (Expr.ListComp _ _ _ _) _) _ _ _)); (fail_if_success (with_reducible show wpAny _ _ (exec (Stmt.Assign [_] (Expr.ListComp _ _ _ _) _) _) _ _ _)); (fail_if_success (with_reducible show LCt.CompSrcT _ _ _ _ _ _ _ _ _ _ _ _ _ _ _)); (fail_if_success (with_reducible show LCg.CompSrc _ _ _ _ _ _ _ _ _ _ _ _ _ _)); (fail_if_success (with_reducible show LCg.CompEnd _ _ _ _ _ _ _ _ _ _ _ _ _ _)); (fail_if_success (with_reducible show @ite _ _ _ _ _)); (fail_if_success (with_reducible show wpAny _ _ (pyIter _) _ _ _)); (fail_if_success (with_reducible show Q _ _)); (fail_if_success (with_reducible show UnrPost _ _ _ _ _ _ _ _ _)); (fail_if_success (with_reducible show ∃ _, _)); (fail_if_success (with_reducible show wpAny _ _ (call (Value.ref 240) _ _) _ _ _)); (fail_if_success (with_reducible show wpAny _ _ (call (Value.ref 245) _ _) _ _ _)); (fail_if_success (with_reducible show wpAny _ _ (compareOp CmpOp.Eq _ _) _ _ _)); walk1) | ((fail_if_success (with_reducible show wpAny _ _ (eval (Expr.ListComp _ _ _ _) _) _ _ _)); (fail_if_success (with_reducible show wpAny _ _ (exec (Stmt.Assign [_] (Expr.ListComp _ _ _ _) _) _) _ _ _)); (fail_if_success (with_reducible show LCt.CompSrcT _ _ _ _ _ _ _ _ _ _ _ _ _ _ _)); (fail_if_success (with_reducible show LCg.CompSrc _ _ _ _ _ _ _ _ _ _ _ _ _ _)); (fail_if_success (with_reducible show LCg.CompEnd _ _ _ _ _ _ _ _ _ _ _ _ _ _)); (fail_if_success (with_reducible show @ite _ _ _ _ _)); (fail_if_success (with_reducible show wpAny _ _ (pyIter _) _ _ _)); (fail_if_success (with_reducible show Q _ _)); (fail_if_success (with_reducible show UnrPost _ _ _ _ _ _ _ _ _)); (fail_if_success (with_reducible show ∃ _, _)); (fail_if_success (with_reducible show wpAny _ _ (call (Value.ref 240) _ _) _ _ _)); (fail_if_success (with_reducible show wpAny _ _ (call (Value.ref 245) _ _) _ _ _)); (fail_if_success (with_reducible show wpAny _ _ (compareOp CmpOp.Eq _ _) _ _ _)); dsimp only; walk1))

  exact k _ _ _ fun b o e => F3.keep _ _ (hkeep b o e)
end
end
section
open PySem PySem.W PyProof.Rows PySem.Spec
theorem strict_len : ∀ (ds : List Nat) (lo n : Nat), (∀ d ∈ ds, lo ≤ d ∧ d < n) → ds.Pairwise (· < ·) → ds.length ≤ n - lo
  | [], _, _, _, _ => Nat.zero_le _
  | d :: ds, lo, n, h, hs => by
    have h1 := h d (.head _)
    have p := List.pairwise_cons.mp hs
    have := strict_len ds (d + 1) n (fun e he => ⟨p.1 e he, (h e (.tail _ he)).2⟩) p.2
    simp only [List.length_cons]; omega
theorem ints_of {vs : List Value} {ns : List Int} (h : IntsAre vs ns) : ∃ sc : List IT, vs = sc.map IT.v ∧ sc.length = ns.length := by
  induction h with
  | nil => exact ⟨[], rfl, rfl⟩
  | cons n t _ ih =>
    obtain ⟨sc, e, hl⟩ := ih
    exact ⟨(n, t) :: sc, by rw [e]; rfl, by simp only [List.length_cons, hl]⟩
section
variable {w : World} {mean : ExcName → Option Value} {mg mb : Str → Option Value} {L fa cd : Addr} {base : Heap} {s : Shared} {Q : Flow → Shared → Prop} {E : Value → Shared → Prop} {m : Str → Option Value} {c1 : Obj} {sa : Addr} {vs : List Value} {ns : List Int}
set_option maxRecDepth 100000 in
set_option maxHeartbeats 8000000 in
theorem law_body (B : Below callerA base [] base) (X : (hd.heap_39 w.params).In base) (T : Top hd.view_39 LS mean mg mb base) (hl : base.IsList sa vs.toArray) (hi : IntsAre vs ns) (hsl : ns.length ≤ 63)
    (F : Fr base L s.heap m) (N : News base L s.heap [(L + 1, c1)]) (d1 : c1.data = .cell (some (.ref sa)))
    (k : ∀ h tk d, (∀ b o, base.get? b = some o → h.get? b = some o) → Q (.ret (.bool true)) { s with heap := h, toks := tk, drawn := d }) :
    wpAny (model PG w) (callerA.deeper (lawEnv L fa cd)) (execs lawTl0 (lawEnv L fa cd)) Q E s := by
  obtain ⟨sc, rfl, hsn⟩ := ints_of hi
  refine wpAny_execs_cons (st := lawSt0) (rest := lawTl1) (law_nums B X T (sc := sc) hl (by omega) F N d1 fun Dn ta tb tc td te tf n h tk F1 N1 => ?_)
  refine wpAny_execs_cons (st := lawSt1) (rest := lawTl2) (law_there B X T (sc := sc) hl (by omega) F1 N1 d1 fun Dt us ds h tk F2 N2 hus d8 sd => ?_)
  have hlen : us.length ≤ 8 := by
    have e := congrArg List.length hus
    simp only [List.length_map] at e
    have := strict_len ds 0 8 (fun d hd => ⟨Nat.zero_le _, d8 d hd⟩) sd
    omega
  refine wpAny_execs_cons (st := lawSt2) (rest := lawTl3) (law_ret B X T ?hx (by omega) (nums_two sc ta tb tc td te tf) hus d8 sd F2 N2 (lk_ne (by decide) (lk_hit rfl)) (lk_hit rfl) fun h tk d hk => ?_)
  case hx =>
    rw [List.length_append, List.length_take]
    have : (moreL ta tb tc td te tf).length = 6 := rfl
    omega
  exact k h tk d hk
end
end
theorem lines_off : True := by
  k_with_none
  trivial
end Mine
end Shared1
open PySem PySem.W PyProof.Rows PySem.Spec
open Mine
local macro_rules | `(tactic| k_qdec) => `(tactic| decide +kernel)
set_option maxRecDepth 100000 in
set_option maxHeartbeats 8000000 in
theorem PySem.Challenge.cw_ny0248_01_holds : PySem.Challenge.rw_ny0248_01.Holds := by
  refine hd ?_
  k_go0
  rename IntsAre _ _ => kI
  rename Top _ _ _ _ _ _ => kT
  rename Below callerA _ [] _ => kB
  rename Fr _ _ _ _ => kF
  rename News _ _ _ [_] => kN
  rename Heap.IsList _ _ _ => kL
  refine law_body kB (by assumption) kT kL kI ?z1 kF kN ?z2 ?z3
  case z1 => omega
  case z2 =>
    rename Obj.data _ = Data.cell _ => kD
    rw [kD]
    rfl
  case z3 =>
    intro h tk d keep
    show GoodW _ _ _ _ _ _ _
    refine ⟨.inl ⟨.bool true, ofPy (.bool true), [], rfl, ?_, ?_, ?_, ?_⟩, keep, rfl, by assumption⟩
    · intro cls; rfl
    · exact ReadsW.bool true
    · (refine postW_of (by wrow_shape) (w_eq_bool (w_res rfl) w_lit) ?_); rfl
    · exact fun _ => ⟨List.nodup_nil, fun _ h => nomatch h⟩
