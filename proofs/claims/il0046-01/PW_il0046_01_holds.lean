import PyProof.Rows.All
import Wide.All
import OpenK.AllK
import Wide.FinOn
import PyProof.Draws
import PyProof.WalksMore
import KE.KTurnsGround
import KE.KBytesWalk
import PyProof.IsiBase
import PyProof.IsiH_list
import KE.KIsBytes
import Lean
import PySem.Challenge.RW_il0046_01
set_option Elab.async false
set_option compiler.extract_closed false
set_option rowWalk.seconds 0
set_option maxRecDepth 100000
-- part Hd
namespace Mine
open PySem PySem.W PyProof.Rows
set_option maxRecDepth 100000
abbrev vw : Program := view PySem.Challenge.pw_il0046_01 [0, 2, 3, 4, 5, 6, 7, 8, 9, 11, 12, 13, 18, 19, 20, 21, 22, 23, 24, 25, 26, 27, 28, 29, 30, 31, 32, 33, 34, 35, 36, 37, 38, 39, 41, 42, 43, 44, 45, 46, 47, 48, 49, 50]
abbrev looseL : List PySem.Str := [PySem.Str.ofString "b2a_base64", PySem.Str.ofString "b64encode", PySem.Str.ofString "_filemode_table"]
abbrev e0 (n : Int) (c : Nat) : WData := .tuple [.int n, .str ⟨#[c]⟩]
abbrev tabD : WData := .tuple [.tuple [e0 40960 108, e0 49152 115, e0 32768 45, e0 24576 98, e0 16384 100, e0 8192 99, e0 4096 112], .tuple [e0 256 114], .tuple [e0 128 119], .tuple [e0 2112 115, e0 2048 83, e0 64 120],
  .tuple [e0 32 114], .tuple [e0 16 119], .tuple [e0 1032 115, e0 1024 83, e0 8 120], .tuple [e0 4 114], .tuple [e0 2 119], .tuple [e0 513 116, e0 512 84, e0 1 120]]
abbrev lv : List (PySem.Str × WData) := [(PySem.Str.ofString "_filemode_table", tabD)]
abbrev rr : RowW := OpenRow.toRowW (OpenLaw.row PySem.Challenge.rw_il0046_01)
/-- the run of the top behind the library's opening -/
noncomputable abbrev topB (p : Program) (N : Nat) (w : World) (os : OsState) : Option Shared :=
  topRun treeTable p w (boot_heap w.params).objs.size ((boot_heap w.params).nsMap mainGlobals "__annotations__") N ⟨boot_heap w.params, Array.mk [], boot_drawn, boot_toks, os⟩ (topStub p)
theorem left_boot {p q : Program} {loose : List PySem.Str} {Xt : Shared → Bool} {α : Type} {Yf : Shared → α} {Ya : World → α} {N : Nat} (e : opening p = plainProg p.main.scope.names) (hN : Nat.ble 600 N = true) (f : ∀ s, fenceModules? p s = some s)
    (looks : ∀ w : World, (fun os => (topB p N w os).map fun s => ((boot_heap w.params).isNs mainGlobals, staticsOk (importedModules p.main.body) (boot_heap w.params) s.heap && namesBound p s.heap && gensDone s && laidKept (boot_heap w.params) s.heap, openSeen q loose (importedModules p.main.body) Xt true s)) = fun _ => some (true, true, openGood q loose))
    (obs : ∀ w : World, (fun os => (topB p N w os).map Yf) = fun _ => some (Ya w)) : LeftO p q loose Xt Yf Ya N := fun w => by
  obtain ⟨⟨h, gs, d, k, os⟩, e1, e2⟩ := Option.map_eq_some_iff.mp (boot_open e hN f w)
  obtain ⟨rfl, rfl, rfl, rfl⟩ : h = boot_heap w.params ∧ gs = Array.mk [] ∧ d = boot_drawn ∧ k = boot_toks := by simpa using e2
  obtain ⟨s, hs, hv⟩ := Option.map_eq_some_iff.mp (congrFun (looks w) os)
  have ho := congrFun (obs w) os
  dsimp only [topB] at ho hs
  rw [hs] at ho
  obtain ⟨v1, v2, v3⟩ : _ ∧ _ ∧ _ := by simpa only [Prod.mk.injEq] using hv
  have t : topFrom treeTable p w N ⟨boot_heap w.params, Array.mk [], boot_drawn, boot_toks, os⟩ = some s := by
    unfold topFrom
    dsimp only
    rw [v1, hs]
    show (match staticsOk (importedModules p.main.body) (boot_heap w.params) s.heap && namesBound p s.heap && gensDone s && laidKept (boot_heap w.params) s.heap with | true => _ | false => _) = _
    rw [v2]
  unfold openEnds
  rw [e1]
  show (topFrom treeTable p w N _).map _ = _
  rw [t]
  exact congrArg some (Prod.ext v3 (Option.some.inj ho))
noncomputable abbrev XtM : Shared → Bool := fun s => xlAt vw lv s && recOk (RowW.records rr) s
/-- the library's twin equations make the kernel's work less; without them it comes through too -/
theorem said : (PySem.Challenge.rw_il0046_01).wellSaid = true := by
  first
  | (rewrite [PySem.W.Fast.te9446332074065402090]; decide +kernel)
  | decide +kernel
theorem looksT : ∀ w : World, (fun os => (topB PySem.Challenge.pw_il0046_01 2400 w os).map fun s => ((boot_heap w.params).isNs mainGlobals, staticsOk (importedModules PySem.Challenge.pw_il0046_01.main.body) (boot_heap w.params) s.heap && namesBound PySem.Challenge.pw_il0046_01 s.heap && gensDone s && laidKept (boot_heap w.params) s.heap, openSeen vw looseL (importedModules PySem.Challenge.pw_il0046_01.main.body) XtM true s)) = fun _ => some (true, true, openGood vw looseL) := by
  intro w
  first
  | (unfold topB; rewrite [PySem.W.Fast.te14082659384304107361, PySem.W.Fast.te14364793385576792824, PySem.W.Fast.te4187177175401517315, PySem.W.Fast.te5923862056798008813]; kernel_rfl)
  | kernel_rfl
local macro_rules | `(tactic| o_head $H) => do
  let hw := Lean.mkIdent `hw
  let hc := Lean.mkIdent `hc
  `(tactic| (refine holds_open (q := vw) (loose := looseL) (Xt := XtM) (XP := XL vw lv) (Yf := Hook.obs $H) (Ya := Hook.val $H) (YP := Hook.says $H) (N := 2400) ?hl (Hook.of $H) (Hook.keeps $H) (fun s e => xl_of s (Bool.and_eq_true_iff.mp e).1) XL.keeps (by rfl) (by rfl) (by rfl) (fun s e => recFacts_of (Bool.and_eq_true_iff.mp e).2) (by first | rfl | fail "no1") (by first | assumption | decide +kernel) (by decide +kernel) ⟨rfl, rfl, rfl, rfl, rfl, by decide +kernel⟩ ?$hw ?$hc; (case hl => (refine left_boot (by kernel_rfl) (by decide) (fun _ => by kernel_rfl) looksT ?_; intro w; first | (unfold topB; rewrite [PySem.W.Fast.te14082659384304107361, PySem.W.Fast.te14364793385576792824]; kernel_rfl) | kernel_rfl))))
local macro_rules | `(tactic| o_law) => `(tactic| (refine holds_law said fun _ => ?_))
set_option maxHeartbeats 8000000 in
open_top hd for PySem.Challenge.rw_il0046_01
end Mine
-- part Base
namespace Mine
open PySem PySem.W PySem.Calls PyProof.Rows
noncomputable abbrev P : Program := PySem.Challenge.rw_il0046_01.row.prog
noncomputable abbrev V : Program := Mine.vw
noncomputable abbrev LO : List Str := looseW Mine.vw Mine.looseL
noncomputable abbrev KK (w : World) : Frag := Mine.hd.heap_1 w.params

/-- the heap only grew -/
def Kept (g h : Heap) : Prop := ∀ b o, g.get? b = some o → h.get? b = some o
/-- what is said of an object by an address of its own -/
abbrev Post := Value → Heap → Heap → Prop

/-- a call that changes nothing of what stood -/
def Tel (w : World) (f : Addr) (dmax umax : Nat) (pre : Heap → Prop) (args : List Value) (post : Post) : Prop :=
  ∀ (dp un : Nat) (gd : Option (List Code)) (cn : Str) (cs : Scope) (a : Addr) (ccd : Value) (cl : List (Str × Addr)) (outer : List Env) (A₀ : Around) (base h₀ : Heap) (L : Addr) (m : Str → Option Value) (s : Shared)
    (mean : ExcName → Option Value) (mg mb : Str → Option Value) (Q E : Value → Shared → Prop),
    Below A₀ base outer h₀ → Fr h₀ L s.heap m → (KK w).In h₀ → Top V LO mean mg mb h₀ → cs.kind = .function → dp ≤ dmax → un ≤ umax → pre s.heap →
    (∀ v h' tk', Kept s.heap h' → post v s.heap h' → Q v { s with heap := h', toks := tk' }) →
    wpAny (model P w) (ktrTop dp un gd cn cs L a ccd cl outer) (call (.ref f) args) Q E s

/-- the same, where a token is told -/
def TelT (w : World) (f : Addr) (dmax umax τ : Nat) (pre : Heap → Prop) (args : List Value) (post : Post) : Prop :=
  ∀ (dp un : Nat) (gd : Option (List Code)) (cn : Str) (cs : Scope) (a : Addr) (ccd : Value) (cl : List (Str × Addr)) (outer : List Env) (A₀ : Around) (base h₀ : Heap) (L : Addr) (m : Str → Option Value) (s : Shared)
    (mean : ExcName → Option Value) (mg mb : Str → Option Value) (Q E : Value → Shared → Prop),
    Below A₀ base outer h₀ → Fr h₀ L s.heap m → (KK w).In h₀ → Top V LO mean mg mb h₀ → cs.kind = .function → dp ≤ dmax → un ≤ umax → pre s.heap → τ ≤ s.toks →
    (∀ v h' tk', Kept s.heap h' → post v s.heap h' → Q v { s with heap := h', toks := tk' }) →
    wpAny (model P w) (ktrTop dp un gd cn cs L a ccd cl outer) (call (.ref f) args) Q E s

section
variable {prog : Program} {w : World} {A A₀ : Around} {E : Value → Shared → Prop} {s : Shared} {K : Frag} {L : Addr} {h₀ base : Heap} {m mg mb : Str → Option Value} {p : Program} {loose : List Str} {mean : ExcName → Option Value}
theorem enterB {env : Env} {outer : List Env} {R : Result → Shared → Prop} {name qual : Str} {params : Arguments} {body : List Stmt} {scope : Scope} {dV kV doc pm cdv ct oc : Value} {an od : Option Addr} {osl : Array (Option Value)} {f : Addr} {args : Args} {binds : List (Str × Value)}
    (B : Below A₀ base outer h₀) (F : Fr h₀ L s.heap m) (X₀ : K.In h₀) (T : Top p loose mean mg mb h₀) (hA : A.frames = some (env :: outer)) (hf : env.frame = some L) (hke : env.scope.kind = .function)
    (ho : K.lookup f = some ⟨oc, od, .func (fnOf name qual params body scope dV kV doc pm an cdv ct), osl⟩) (hcd : codeIn K cdv qual = true) (hroom : A.depth < recursionLimit)
    (hbind : BindsTo s (fnOf name qual params body scope dV kV doc pm an cdv ct) args binds) (hloc : ∀ y ∈ binds, scope.names.lookup y.1 = some .local)
    (h : ∀ L' h₁, Fr s.heap L' h₁ (fun y => binds.reverse.lookup y) → Below A base (env :: outer) s.heap → K.In s.heap → Top p loose mean mg mb s.heap → News s.heap L' h₁ [] →
      wpAny (model prog w) (A.deeper (envOf qual scope L' f cdv)) (execs body (envOf qual scope L' f cdv))
        (fun fl s' => R (.ok (.ret (match fl with | .ret v => v | _ => .none))) s')
        (fun e s' => wpAny (model prog w) (A.deeper (envOf qual scope L' f cdv)) (leaving (envOf qual scope L' f cdv) e) (fun _ s'' => R (.error e) s'') (fun e' s'' => R (.error e') s'') s')
        { s with heap := h₁, toks := s.toks + binds.length })
    (hco : scope.isCoroutine = false) (hgen : scope.isGenerator = false) (hk : scope.kind = .function)
    (hcell : ∀ x ∈ scope.names, x.2 ≠ .cell) : codeAny (model prog w) A (.call (.ref f) args) R s := by
  have B₁ := pushX B F hf hke
  have B₂ : Below A base (env :: outer) s.heap := ⟨hA, B₁.stays, B₁.frames⟩
  refine codeAny_call_def (fd := fnX name qual params body scope [] dV kV doc pm an cdv ct) (body := body) (binds := binds) hroom ((X₀.keeps F.keep) _ _ ho) rfl (T.nolimit.keeps F.keep) (codeRec_of (X₀.keeps F.keep) hcd) rfl hbind hcell hloc (fun h₁ hns hk₁ => ?_) hco hgen hk
  exact h s.heap.objs.size h₁ ⟨hns, hk₁, Nat.le_refl _⟩ B₂ (X₀.keeps F.keep) (T.keeps F.keep) News.nil

theorem enterBC {env : Env} {outer : List Env} {R : Result → Shared → Prop} {name qual : Str} {params : Arguments} {body : List Stmt} {scope : Scope} {dV kV doc pm cdv ct oc : Value} {an od : Option Addr} {osl : Array (Option Value)} {f : Addr} {args : Args} {binds : List (Str × Value)}
    (B : Below A₀ base outer h₀) (F : Fr h₀ L s.heap m) (X₀ : K.In h₀) (T : Top p loose mean mg mb h₀) (hA : A.frames = some (env :: outer)) (hf : env.frame = some L) (hke : env.scope.kind = .function)
    (ho : K.lookup f = some ⟨oc, od, .func (fnOf name qual params body scope dV kV doc pm an cdv ct), osl⟩) (hcd : codeIn K cdv qual = true) (hroom : A.depth < recursionLimit)
    (hbind : BindsTo s (fnOf name qual params body scope dV kV doc pm an cdv ct) args binds) (hkind : (binds.all fun y => scope.names.lookup y.1 == some .local || scope.names.lookup y.1 == some .cell) = true)
    (hnd : ((cellsFrom 0 scope.names []).map (·.1)).Nodup)
    (h : ∀ L' h₁ tk cells, Fr s.heap L' h₁ (bindL (envOfC qual scope L' f cdv).kindOf binds fun _ => none) → News s.heap L' h₁ cells →
      CellsAre (bindC (envOfC qual scope L' f cdv).kindOf binds fun _ => none) (cellsFrom (L' + 1) scope.names []) cells → Below A base (env :: outer) s.heap → K.In s.heap → Top p loose mean mg mb s.heap →
      wpAny (model prog w) (A.deeper (envOfC qual scope L' f cdv)) (execs body (envOfC qual scope L' f cdv))
        (fun fl s' => R (.ok (.ret (match fl with | .ret v => v | _ => .none))) s')
        (fun e s' => wpAny (model prog w) (A.deeper (envOfC qual scope L' f cdv)) (leaving (envOfC qual scope L' f cdv) e) (fun _ s'' => R (.error e) s'') (fun e' s'' => R (.error e') s'') s')
        { s with heap := h₁, toks := tk })
    (hco : scope.isCoroutine = false) (hgen : scope.isGenerator = false) (hk : scope.kind = .function) : codeAny (model prog w) A (.call (.ref f) args) R s := by
  have B₁ := pushX B F hf hke
  have B₂ : Below A base (env :: outer) s.heap := ⟨hA, B₁.stays, B₁.frames⟩
  refine codeAny_call_function (fd := fnX name qual params body scope [] dV kV doc pm an cdv ct) hroom ((X₀.keeps F.keep) _ _ ho) rfl hco hgen rfl (codeRec_of (X₀.keeps F.keep) hcd) (hbind _ _ _ _ ?_)
  refine wpAny_newFunctionEnv_cells hk (kindsX hkind _) fun env' he s' x => ?_
  subst he
  refine ⟨(T.nolimit.keeps F.keep).keeps x.toInCall.keep, codeAny_func ?_⟩
  obtain ⟨h₁, tk, rfl, _⟩ := x.done
  have hk₁ := x.toInCall.keep
  obtain ⟨cells, NC, Y⟩ := Cl.news (h₀ := s.heap) (Nat.le_refl _) fun n c hm => ⟨x.cell n c (lookup_of_mem_nodup (cellsFrom_names scope.names 0 (s.heap.objs.size + 1) [] [] rfl ▸ hnd) hm), x.above n c hm⟩
  exact h s.heap.objs.size h₁ tk cells ⟨x.toInCall.ns, hk₁, Nat.le_refl _⟩ NC Y B₂ (X₀.keeps F.keep) (T.keeps F.keep)

theorem Kept.refl {g : Heap} : Kept g g := fun _ _ e => e
theorem Kept.trans {g h k : Heap} (a : Kept g h) (b : Kept h k) : Kept g k := fun x o e => b x o (a x o e)

/-- the contract used where the ledger stands -/
theorem use {f : Addr} {dmax umax : Nat} {pre : Heap → Prop} {args : List Value} {post : Post} {dp un : Nat} {gd : Option (List Code)} {cn : Str} {cs : Scope} {a : Addr} {ccd : Value} {cl : List (Str × Addr)} {outer : List Env} {news : List (Addr × Obj)} {Q : Value → Shared → Prop}
    (C : Tel w f dmax umax pre args post) (B : Below A₀ base outer h₀) (F : Fr h₀ L s.heap m) (X : (KK w).In h₀) (T : Top V LO mean mg mb h₀) (N : News h₀ L s.heap news) (hk : cs.kind = .function) (hd : dp ≤ dmax) (hu : un ≤ umax) (hp : pre s.heap)
    (ret : ∀ v h' tk', Fr h₀ L h' m → News h₀ L h' news → Kept s.heap h' → post v s.heap h' → Q v { s with heap := h', toks := tk' }) :
    wpAny (model P w) (ktrTop dp un gd cn cs L a ccd cl outer) (call (.ref f) args) Q E s :=
  C dp un gd cn cs a ccd cl outer A₀ base h₀ L m s mean mg mb Q E B F X T hk hd hu hp fun v h' tk' k po => ret v h' tk' (F.keeps k) (N.grown k) k po

theorem useT {f : Addr} {dmax umax τ : Nat} {pre : Heap → Prop} {args : List Value} {post : Post} {dp un : Nat} {gd : Option (List Code)} {cn : Str} {cs : Scope} {a : Addr} {ccd : Value} {cl : List (Str × Addr)} {outer : List Env} {news : List (Addr × Obj)} {Q : Value → Shared → Prop}
    (C : TelT w f dmax umax τ pre args post) (B : Below A₀ base outer h₀) (F : Fr h₀ L s.heap m) (X : (KK w).In h₀) (T : Top V LO mean mg mb h₀) (N : News h₀ L s.heap news) (hk : cs.kind = .function) (hd : dp ≤ dmax) (hu : un ≤ umax) (hp : pre s.heap) (ht : τ ≤ s.toks)
    (ret : ∀ v h' tk', Fr h₀ L h' m → News h₀ L h' news → Kept s.heap h' → post v s.heap h' → Q v { s with heap := h', toks := tk' }) :
    wpAny (model P w) (ktrTop dp un gd cn cs L a ccd cl outer) (call (.ref f) args) Q E s :=
  C dp un gd cn cs a ccd cl outer A₀ base h₀ L m s mean mg mb Q E B F X T hk hd hu hp ht fun v h' tk' k po => ret v h' tk' (F.keeps k) (N.grown k) k po

theorem itemK {news : List (Addr × Obj)} {value slice : PySem.Expr} {l : Addr} {vs : List Value} {n : Nat} {k : Int} {u : Tok} {v : Value} {Q : Value → Shared → Prop}
    (N : News h₀ L s.heap news) (hm : (l, listOf vs.toArray n) ∈ news) (h0 : 0 ≤ k) (hhi : k < 2 ^ 63) (hx : vs[k.toNat]? = some v) (h : Q v s)
    (hs : subscripted slice false (.ref l) (.int k u) = operate [.ref l, .int k u] (getItem (.ref l) (.int k u)) := by with_unfolding_all rfl) :
    wpAny (model prog w) A (subscriptTail value slice (.ref l) (.int k u)) Q E s :=
  have hl : s.heap.IsList l vs.toArray := ⟨_, (N _ hm).1, rfl, n, rfl⟩
  tail_any hl.typeIs slot_list_getitem.lookup (wpAny_getItem_list hl h0 hhi (by simpa using hx) h) hs
theorem itemB {value slice : PySem.Expr} {l : Addr} {vs : List Value} {k : Int} {u : Tok} {v : Value} {Q : Value → Shared → Prop}
    (F : Fr h₀ L s.heap m) (hl₀ : h₀.IsList l vs.toArray) (h0 : 0 ≤ k) (hhi : k < 2 ^ 63) (hx : vs[k.toNat]? = some v) (h : Q v s)
    (hs : subscripted slice false (.ref l) (.int k u) = operate [.ref l, .int k u] (getItem (.ref l) (.int k u)) := by with_unfolding_all rfl) :
    wpAny (model prog w) A (subscriptTail value slice (.ref l) (.int k u)) Q E s :=
  have hl : s.heap.IsList l vs.toArray := stays_list F.keep hl₀
  tail_any hl.typeIs slot_list_getitem.lookup (wpAny_getItem_list hl h0 hhi (by simpa using hx) h) hs
end
/-- an object that was made -/
structure Made (g h : Heap) (l : Addr) (o : Obj) : Prop where
  fresh : g.get? l = none
  above : g.objs.size ≤ l
  here : h.get? l = some o
theorem made_of {g h : Heap} {L l : Addr} {m : Str → Option Value} {o : Obj} {news : List (Addr × Obj)} (F : Fr g L h m) (N : News g L h news) (hm : (l, o) ∈ news) (hl : L < l) : Made g h l o :=
  ⟨(N _ hm).2.2, Nat.le_trans F.above (Nat.le_of_lt hl), (N _ hm).1⟩
theorem Made.news {h₀ g h : Heap} {L l : Addr} {o : Obj} {m : Str → Option Value} {news : List (Addr × Obj)} (M : Made g h l o) (k : Kept g h) (F : Fr h₀ L g m) (N : News h₀ L g news) : News h₀ L h ((l, o) :: news) := fun p hp => by
  rcases List.mem_cons.mp hp with rfl | hp
  · refine ⟨M.here, Nat.ne_of_gt (Nat.lt_of_lt_of_le F.ns.lt M.above), ?_⟩
    cases e : h₀.get? l with
    | none => rfl
    | some o' => have := F.keep _ _ e; rw [M.fresh] at this; cases this
  · exact ⟨k _ _ (N p hp).1, (N p hp).2⟩
theorem Made.lt {h₀ g h : Heap} {L l : Addr} {o : Obj} {news : List (Addr × Obj)} (M : Made g h l o) (N : News h₀ L g news) : ∀ p ∈ news, p.1 < l := fun p hp => Nat.lt_of_lt_of_le (Heap.lt_size (N p hp).1) M.above
theorem Kept.lt {h₀ g : Heap} {L : Addr} {m : Str → Option Value} (F : Fr h₀ L g m) : L < g.objs.size := F.ns.lt
def B64L : List UInt8 := [65, 66, 67, 68, 69, 70, 71, 72, 73, 74, 75, 76, 77, 78, 79, 80, 81, 82, 83, 84, 85, 86, 87, 88, 89, 90, 97, 98, 99, 100, 101, 102, 103, 104, 105, 106, 107, 108, 109, 110, 111, 112, 113, 114, 115, 116, 117, 118, 119, 120, 121, 122, 48, 49, 50, 51, 52, 53, 54, 55, 56, 57, 43, 47]
/-- the sign of a figure -/
def sg (k : Int) : Int := ((B64L.getD k.toNat 0).toNat : Int)
section
variable {prog : Program} {w : World} {A A₀ : Around} {E : Value → Shared → Prop} {s : Shared}
theorem itemSg {value slice : PySem.Expr} {k : Int} {t u : Tok} {Q : Value → Shared → Prop} (h0 : 0 ≤ k) (h1 : k < 64) (h : Q (.int (sg k) s.toks) { s with toks := s.toks + 1 })
    (hs : subscripted slice false (.bytes B64L.toArray t) (.int k u) = operate [.bytes B64L.toArray t, .int k u] (getItem (.bytes B64L.toArray t) (.int k u)) := by with_unfolding_all rfl)
    (ht : ∀ r, letTemporaryGo value (.bytes B64L.toArray t) r = pure () := by intro _; with_unfolding_all rfl) :
    wpAny (model prog w) A (subscriptTail value slice (.bytes B64L.toArray t) (.int k u)) Q E s :=
  KBy.item_N (by decide) h0 (by show k < ((64 : Nat) : Int); omega) h hs ht
end
end Mine
-- part Rules
namespace Mine
open PySem PySem.W PySem.Calls PyProof.Rows
/-- two addresses apart, out of omega's sight -/
def NeA (a b : Addr) : Prop := a ≠ b
theorem NeA.out {a b : Addr} (h : NeA a b) : a ≠ b := h
theorem NeA.symm {a b : Addr} (h : NeA a b) : b ≠ a := Ne.symm h
def OffH (D : Addr) : List (Addr × Obj) → Prop
  | [] => True
  | p :: r => NeA p.1 D ∧ OffH D r
theorem offH_of {D : Addr} : ∀ {l : List (Addr × Obj)}, LCg.Off1 D l → OffH D l
  | [], _ => trivial
  | _ :: _, h => ⟨h.1, offH_of h.2⟩
structure PoolIs (used ks : List Int) (n : Nat) : Prop where
  nd : ks.Nodup
  len : ks.length = n
  inr : ∀ x ∈ ks, 0 ≤ x ∧ x < 6 ∧ x ∉ used
def keepG (ring : Int) (l : List Int) (k : Int) : List Int := if k = ring then l else l ++ [k]
theorem keepG_grows (ring : Int) : KPfGrows (keepG ring) := fun l k => by
  unfold keepG; split
  · omega
  · simp
theorem foldl_keepG (ring : Int) : ∀ (ks l : List Int), ks.foldl (keepG ring) l = l ++ ks.filter (fun k => decide (k ≠ ring))
  | [], l => by simp
  | k :: r, l => by
    rw [List.foldl_cons, foldl_keepG ring r]
    unfold keepG
    by_cases h : k = ring
    · simp [h]
    · simp [h]
theorem length_filter_ne {ring : Int} : ∀ {ks : List Int}, ks.Nodup → ring ∈ ks → (ks.filter (fun k => decide (k ≠ ring))).length + 1 = ks.length
  | [], _, h => nomatch h
  | k :: r, nd, h => by
    rw [List.nodup_cons] at nd
    by_cases e : k = ring
    · subst e
      have : r.filter (fun j => decide (j ≠ k)) = r := List.filter_eq_self.mpr fun a ha => by
        have : a ≠ k := fun q => nd.1 (q ▸ ha)
        simpa using this
      have e2 : (k :: r).filter (fun j => decide (j ≠ k)) = r := by rw [List.filter_cons]; simp only [ne_eq, not_true_eq_false, decide_false]; exact this
      rw [e2, List.length_cons]
    · rcases List.mem_cons.mp h with q | q
      · exact absurd q.symm e
      · have ih := length_filter_ne nd.2 q
        simp [e]
        simpa using ih
theorem PoolIs.next {used ks : List Int} {n : Nat} {ring : Int} (p : PoolIs used ks (n + 1)) (h : ring ∈ ks) : PoolIs (ring :: used) (ks.foldl (keepG ring) []) n := by
  rw [foldl_keepG, List.nil_append]
  refine ⟨p.nd.filter _, ?_, fun x hx => ?_⟩
  · have := length_filter_ne p.nd h
    have := p.len
    omega
  · have := List.mem_filter.mp hx
    obtain ⟨h1, h2, h3⟩ := p.inr x this.1
    refine ⟨h1, h2, fun q => ?_⟩
    rcases List.mem_cons.mp q with q | q
    · simpa [q] using this.2
    · exact h3 q
theorem intsAreAt : ∀ (l : List Value) (ns : List Int), l.length = ns.length → (∀ (j : Nat) (v : Value), l[j]? = some v → ∃ k t, ns[j]? = some k ∧ v = Value.int k t) → IntsAre l ns
  | [], [], _, _ => .nil
  | [], _ :: _, h, _ => nomatch h
  | _ :: _, [], h, _ => nomatch h
  | v :: r, n :: ns, h, hx => by
    obtain ⟨k, t, e1, e2⟩ := hx 0 v rfl
    have e1' : n = k := by simpa using e1
    subst e2
    subst e1'
    exact .cons n t (intsAreAt r ns (by simpa using h) fun j v hv => by simpa using hx (j + 1) v (by simpa using hv))
section
variable {prog : Program} {w : World} {A : Around} {E : Value → Shared → Prop} {s : Shared} {L : Addr} {h₀ : Heap} {m : Str → Option Value} {news : List (Addr × Obj)}
theorem listRangeK {r : Addr} {a b : Int} {t u v : Tok} {n : Nat} {Q : Value → Shared → Prop} (hh : A.handled = none) (Fh : Fr h₀ L s.heap m) (N : News h₀ L s.heap news)
    (hr : IsRange s.heap r a b 1 t u v) (hsmall : Builtin.Range.small a b 1 = true) (hn : Builtin.Range.rangeSize a b 1 = (n : Int)) (hlen : n ≤ 2 ^ 24)
    (hQ : ∀ d h' tk vs c, Fr h₀ L h' m → News h₀ L h' ((d, listOf vs.toArray c) :: news) → (∀ p ∈ news, p.1 < d) → L < d → IntsAre vs (rangeKs a n) → Q (.ref d) { s with heap := h', toks := tk }) :
    wpAny (model prog w) A (call (.type "list") [.ref r]) Q E s := by
  refine call_list_range hh hr hsmall hn hlen fun h' tk acc' c' hk hS' hacc => ?_
  have hno : h₀.get? s.heap.objs.size = none := by
    cases e : h₀.get? s.heap.objs.size with
    | none => rfl
    | some o => exact absurd (Heap.lt_size (Fh.keep _ _ e)) (Nat.lt_irrefl _)
  have hLs : L < s.heap.objs.size := Fh.ns.lt
  refine hQ _ h' tk acc'.toList c' (Fh.keeps hk) (fun p hp => ?_) (fun p hp => Heap.lt_size (N p hp).1) hLs ?_
  · rcases List.mem_cons.mp hp with rfl | hp
    · exact ⟨by simpa using hS', Nat.ne_of_gt hLs, hno⟩
    · exact ⟨hk _ _ (N p hp).1, (N p hp).2⟩
  · refine intsAreAt _ _ (by simpa [rangeKs] using hacc.1) fun j v hv => ?_
    have hv' : acc'[j]? = some v := by simpa using hv
    obtain ⟨t, e⟩ := hacc.2 j v hv'
    have hj : j < n := by
      have := (Array.getElem?_eq_some_iff.mp hv').1
      have e2 := hacc.1
      omega
    exact ⟨a + (j : Int), t, by simp [rangeKs, hj], by rw [e, Int.mul_one]⟩
theorem sizePool {vs : List Value} {ns used : List Int} {n : Nat} (hi : IntsAre vs ns) (hp : PoolIs used ns n) (hn : n ≤ 6) : vs.toArray.size ≤ sizeLine := by
  have h1 := hi.length
  have h2 := hp.len
  rw [PySem.sizeLine_eq, List.size_toArray]
  omega
theorem itemPool {value slice : PySem.Expr} {l : Addr} {vs : List Value} {ns used : List Int} {n c : Nat} {k : Int} {u : Tok} {Q : Value → Shared → Prop}
    (N : News h₀ L s.heap news) (hm : (l, listOf vs.toArray c) ∈ news) (hi : IntsAre vs ns) (hp : PoolIs used ns (n + 1)) (h0 : 0 ≤ k) (h1 : k < ((n + 1 : Nat) : Int)) (hn : n ≤ 6)
    (h : ∀ t r, 0 ≤ r → r < 6 → r ∉ used → r ∈ ns → Q (.int r t) s)
    (hs : subscripted slice false (.ref l) (.int k u) = operate [.ref l, .int k u] (getItem (.ref l) (.int k u)) := by with_unfolding_all rfl) :
    wpAny (model prog w) A (subscriptTail value slice (.ref l) (.int k u)) Q E s := by
  have hl : s.heap.IsList l vs.toArray := ⟨_, (N _ hm).1, rfl, c, rfl⟩
  have hlen := hp.len
  refine item_anyK hl hi h0 (by omega) (by omega) (fun t => ?_) hs
  have hm : ns.getD k.toNat 0 ∈ ns := by
    have hk : k.toNat < ns.length := by omega
    rw [List.getD_eq_getElem?_getD, List.getElem?_eq_getElem hk]
    exact List.getElem_mem hk
  obtain ⟨q1, q2, q3⟩ := hp.inr _ hm
  exact h t _ q1 q2 q3 hm
end
section
variable {prog : Program} {w : World} {A : Around} {h₀ : Heap} {L : Addr} {m : Str → Option Value} {env : Env} {ct elt : Expr} {x : Str} {scope : Scope} {cl : List (Str × Addr)} {s : Shared} {S : List (Addr × Obj) → Prop} {Fin : List Value → List (Addr × Obj) → Prop} {news : List (Addr × Obj)}
theorem poolRest {vs : List Value} {ns used : List Int} {c : Nat} {ring : Int} (hi : IntsAre vs ns) (hp : PoolIs used ns (c + 1)) (hr : ring ∈ ns)
    (turn : ∀ k t I oI C oC D m₂ ys l h tk (E' : Value → Shared → Prop), k ∈ ns → IntsAre ys l → LCg.NsObj oC m₂ → m₂ x = some (.int k t) → Fr h₀ L h m → News h₀ L h ((I, oI) :: (C, oC) :: (D, LCg.lst ys) :: news) → LCg.Off3 I C D news → ((@Ne Nat I C) ∧ (@Ne Nat I D) ∧ (@Ne Nat C D)) → KPfMark →
      wpAny (model prog w) A (isTrue ct (compEnvC scope cl C env) (eval ct (compEnvC scope cl C env))) (fun b s' => if b = true then wpAny (model prog w) A (eval elt (compEnvC scope cl C env)) (LCg.CompEnd h₀ L m { s with heap := h, toks := tk } I oI C oC D (LCg.lst ys) S (fun y news' => KCiEl news l (keepG ring l k) y news')) E' s'
        else LCg.CompEnd h₀ L m { s with heap := h, toks := tk } I oI C oC D (LCg.lst ys) S (fun _ news' => KCiNo news l (keepG ring l k) news') Value.none s') E' { s with heap := h, toks := tk })
    (fin : ∀ ys ks, IntsAre ys ks → PoolIs (ring :: used) ks c → Fin ys news) : LCt.CompRestT prog w A h₀ L m env ct elt x scope cl s S (fun i v => vs.toArray[i]? = some v) Fin vs.toArray.size 0 [] news :=
  kci_list (keepG ring) hi turn (fun ys hy _ => fin ys _ hy (hp.next hr)) (keepG_grows ring)
end
end Mine
-- part Rul2
namespace Mine
open PySem PySem.W PySem.Calls PyProof.Rows
/-- all the numbers lie below a bound -/
def AllIn (ns : List Int) (x : Int) : Prop := ∀ k ∈ ns, 0 ≤ k ∧ k < x
theorem AllIn.at {ns : List Int} {x k : Int} (h : AllIn ns x) (hk : k ∈ ns) : 0 ≤ k ∧ k < x := h k hk
end Mine
-- part Has
namespace Mine
open PySem PySem.W PySem.Calls PyProof.Rows
set_option maxRecDepth 100000
theorem ty_lg : typeOf (.builtin "list.__getitem__") = pure (.type "method_descriptor") := by kernel_rfl
theorem ty_bg : typeOf (.builtin "bytes.__getitem__") = pure (.type "wrapper_descriptor") := by kernel_rfl
theorem slot_md_get : Slot "method_descriptor" "__get__" "method_descriptor.__get__" :=
  .of (owner := "method_descriptor") (n := "__get__") (by rw [typeLookup_type, builtinLookup_eq_fast]; kernel_rfl) (by decide +kernel) (by decide +kernel) (by decide +kernel)
    (by first | exact .inl (by decide +kernel) | exact .inr (by decide +kernel)) (by rw [isSubtype_type]; kernel_rfl)
theorem slot_wd_get : Slot "wrapper_descriptor" "__get__" "wrapper_descriptor.__get__" :=
  .of (owner := "wrapper_descriptor") (n := "__get__") (by rw [typeLookup_type, builtinLookup_eq_fast]; kernel_rfl) (by decide +kernel) (by decide +kernel) (by decide +kernel)
    (by first | exact .inl (by decide +kernel) | exact .inr (by decide +kernel)) (by rw [isSubtype_type]; kernel_rfl)
theorem md_set_none : typeLookup (.type "method_descriptor") "__set__" = pure none := by rw [typeLookup_type, builtinLookup_eq_fast]; kernel_rfl
theorem md_del_none : typeLookup (.type "method_descriptor") "__delete__" = pure none := by rw [typeLookup_type, builtinLookup_eq_fast]; kernel_rfl
theorem wd_set_none : typeLookup (.type "wrapper_descriptor") "__set__" = pure none := by rw [typeLookup_type, builtinLookup_eq_fast]; kernel_rfl
theorem wd_del_none : typeLookup (.type "wrapper_descriptor") "__delete__" = pure none := by rw [typeLookup_type, builtinLookup_eq_fast]; kernel_rfl
theorem entry_md_get : entryFor table "method_descriptor.__get__" = some Builtin.«method_descriptor.__get__» := entryFor_of_tree (by kernel_rfl)
theorem args_md_get (a b c : Value) : argsOk "method_descriptor.__get__" ⟨[a, b, c], []⟩ := by unfold argsOk; kernel_rfl
theorem entry_wd_get : entryFor table "wrapper_descriptor.__get__" = some Builtin.«wrapper_descriptor.__get__» := entryFor_of_tree (by kernel_rfl)
theorem args_wd_get (a b c : Value) : argsOk "wrapper_descriptor.__get__" ⟨[a, b, c], []⟩ := by unfold argsOk; kernel_rfl
theorem lk_lg : typeLookup (.type "list") "__getitem__" = pure (some (.builtin "list.__getitem__")) := by rw [typeLookup_type, builtinLookup_eq_fast]; kernel_rfl
theorem lk_bg : typeLookup (.type "bytes") "__getitem__" = pure (some (.builtin "bytes.__getitem__")) := by rw [typeLookup_type, builtinLookup_eq_fast]; kernel_rfl
theorem owner_lg : (".".intercalate ("list.__getitem__".cutAt '.').dropLast) = "list" := by
  have e0 : "list.__getitem__".cutAt '.' = ["list", "__getitem__"] := by first | rfl | decide +kernel
  rw [e0]; decide +kernel
theorem owner_bg : (".".intercalate ("bytes.__getitem__".cutAt '.').dropLast) = "bytes" := by
  have e0 : "bytes.__getitem__".cutAt '.' = ["bytes", "__getitem__"] := by first | rfl | decide +kernel
  rw [e0]; decide +kernel
theorem sub_lg : isSubtype (.type "list") (.type (".".intercalate ("list.__getitem__".cutAt '.').dropLast)) = pure true := by rw [owner_lg, isSubtype_type]; kernel_rfl
theorem sub_bg : isSubtype (.type "bytes") (.type (".".intercalate ("bytes.__getitem__".cutAt '.').dropLast)) = pure true := by rw [owner_bg, isSubtype_type]; kernel_rfl
theorem sub_lm : isSubtype (.type "list") (.type "module") = pure false := by rw [isSubtype_type]; kernel_rfl
theorem kept_push (h : Heap) (o : Obj) : Kept h (h.push o) := fun _ _ e => Heap.get?_push_of_some _ e
section
variable {prog : Program} {w : World} {A : Around} {E : Value → Shared → Prop} {h : Heap} {g : Array GenState} {d : Drawn} {t : Nat} {os : OsState} {a : Addr} {xs : Array Value} {k : Nat} {n : Array UInt8} {u : Tok}
set_option maxHeartbeats 2000000 in
theorem md_get_list {R : Result → Shared → Prop} (hx : h.get? a = some (listOf xs k)) (hq : ∀ v h', Kept h h' → R (.ok (.ret (.ref v))) ⟨h', g, d, t, os⟩) :
    codeAny (model prog w) A (.call (.builtin "method_descriptor.__get__") ⟨[.builtin "list.__getitem__", .ref a, .type "list"], []⟩) R ⟨h, g, d, t, os⟩ := by
  have hT : (⟨h, g, d, t, os⟩ : Shared).TypeIs (.ref a) "list" := ⟨_, hx, rfl⟩
  have hT5 : (⟨h, g, d, t, os⟩ : Shared).TypeIs (.builtin "list.__getitem__") "method_descriptor" := ty_lg
  have f8 := sub_lg
  refine codeAny_call_builtin slot_md_get.plain entry_md_get (slot_md_get.check _ _ _ _ _ _ _ _ hT5 (args_md_get _ _ _) ?_)
  repeat (any_goals (first | assumption | wp_step))
  exact hq _ _ (kept_push _ _)
set_option maxHeartbeats 2000000 in
theorem has_entry_list {tk : Tok} {Q : Fin → Shared → Prop} (hx : h.get? a = some (listOf xs k)) (hq : ∀ v h', Kept h h' → Q (.done (.ret (.ref v))) ⟨h', g, d, t, os⟩) :
    wpAny (model prog w) A (Builtin.«object.__getattribute__» ⟨[.ref a, .str "__getitem__" tk], []⟩) Q E ⟨h, g, d, t, os⟩ := by
  have hT : (⟨h, g, d, t, os⟩ : Shared).TypeIs (.ref a) "list" := ⟨_, hx, rfl⟩
  have hT5 : (⟨h, g, d, t, os⟩ : Shared).TypeIs (.builtin "list.__getitem__") "method_descriptor" := ty_lg
  have f4 := lk_lg
  have f5 := ty_lg
  have f6 := slot_md_get.lookup
  have f7 := md_set_none
  have f9 := md_del_none
  repeat (any_goals (first | assumption | wp_step))
  refine md_get_list hx fun v h' hk => ?_
  repeat (any_goals (first | assumption | wp_step))
  exact hq _ _ hk
theorem has_call_list {tk : Tok} {R : Result → Shared → Prop} (hx : h.get? a = some (listOf xs k)) (hq : ∀ v h', Kept h h' → R (.ok (.ret (.ref v))) ⟨h', g, d, t, os⟩) :
    codeAny (model prog w) A (.call (.builtin "list.__getattribute__") ⟨[.ref a, .str "__getitem__" tk], []⟩) R ⟨h, g, d, t, os⟩ :=
  codeAny_call_builtin F.slot_list_getattribute.plain F.entry_list_ga (F.slot_list_getattribute.check _ _ _ _ _ _ _ _ (show (⟨h, g, d, t, os⟩ : Shared).TypeIs (.ref a) "list" from ⟨_, hx, rfl⟩) (F.args_list_getattribute_2 _ _) (has_entry_list hx hq))
set_option maxHeartbeats 2000000 in
theorem has_by_list {tk : Tok} {Q : Value → Shared → Prop} (hx : h.get? a = some (listOf xs k)) (hq : ∀ v h', Kept h h' → Q (.ref v) ⟨h', g, d, t, os⟩) : wpAny (model prog w) A (getAttrBy (.ref a) (.str "__getitem__" tk) false) Q E ⟨h, g, d, t, os⟩ := by
  have hT : (⟨h, g, d, t, os⟩ : Shared).TypeIs (.ref a) "list" := ⟨_, hx, rfl⟩
  have f2 := F.slot_list_getattribute.lookup
  have f3 := F.slot_list_getattribute.bind (.ref a)
  repeat (any_goals (first | assumption | wp_step))
  refine has_call_list hx fun v h' hk => ?_
  repeat (any_goals (first | assumption | wp_step))
  exact hq _ _ hk
set_option maxHeartbeats 2000000 in
theorem bg_get_bytes {R : Result → Shared → Prop} (hq : ∀ v h', Kept h h' → R (.ok (.ret (.ref v))) ⟨h', g, d, t, os⟩) :
    codeAny (model prog w) A (.call (.builtin "wrapper_descriptor.__get__") ⟨[.builtin "bytes.__getitem__", .bytes n u, .type "bytes"], []⟩) R ⟨h, g, d, t, os⟩ := by
  have hT : (⟨h, g, d, t, os⟩ : Shared).TypeIs (.bytes n u) "bytes" := rfl
  have hT5 : (⟨h, g, d, t, os⟩ : Shared).TypeIs (.builtin "bytes.__getitem__") "wrapper_descriptor" := ty_bg
  have f8 := sub_bg
  refine codeAny_call_builtin slot_wd_get.plain entry_wd_get (slot_wd_get.check _ _ _ _ _ _ _ _ hT5 (args_wd_get _ _ _) ?_)
  repeat (any_goals (first | assumption | wp_step))
  exact hq _ _ (kept_push _ _)
set_option maxHeartbeats 2000000 in
theorem has_entry_bytes {tk : Tok} {Q : Fin → Shared → Prop} (hq : ∀ v h', Kept h h' → Q (.done (.ret (.ref v))) ⟨h', g, d, t, os⟩) :
    wpAny (model prog w) A (Builtin.«object.__getattribute__» ⟨[.bytes n u, .str "__getitem__" tk], []⟩) Q E ⟨h, g, d, t, os⟩ := by
  have hT : (⟨h, g, d, t, os⟩ : Shared).TypeIs (.bytes n u) "bytes" := rfl
  have hT5 : (⟨h, g, d, t, os⟩ : Shared).TypeIs (.builtin "bytes.__getitem__") "wrapper_descriptor" := ty_bg
  have f4 := lk_bg
  have f5 := ty_bg
  have f6 := slot_wd_get.lookup
  have f7 := wd_set_none
  have f9 := wd_del_none
  repeat (any_goals (first | assumption | wp_step))
  refine bg_get_bytes fun v h' hk => ?_
  repeat (any_goals (first | assumption | wp_step))
  exact hq _ _ hk
theorem has_call_bytes {tk : Tok} {R : Result → Shared → Prop} (hq : ∀ v h', Kept h h' → R (.ok (.ret (.ref v))) ⟨h', g, d, t, os⟩) :
    codeAny (model prog w) A (.call (.builtin "bytes.__getattribute__") ⟨[.bytes n u, .str "__getitem__" tk], []⟩) R ⟨h, g, d, t, os⟩ :=
  codeAny_call_builtin F.slot_bytes_getattribute.plain F.entry_bytes_ga (F.slot_bytes_getattribute.check _ _ _ _ _ _ _ _ (show (⟨h, g, d, t, os⟩ : Shared).TypeIs (.bytes n u) "bytes" from rfl) (F.args_bytes_getattribute_2 _ _) (has_entry_bytes hq))
set_option maxHeartbeats 2000000 in
theorem has_by_bytes {tk : Tok} {Q : Value → Shared → Prop} (hq : ∀ v h', Kept h h' → Q (.ref v) ⟨h', g, d, t, os⟩) : wpAny (model prog w) A (getAttrBy (.bytes n u) (.str "__getitem__" tk) false) Q E ⟨h, g, d, t, os⟩ := by
  have hT : (⟨h, g, d, t, os⟩ : Shared).TypeIs (.bytes n u) "bytes" := rfl
  have f2 := F.slot_bytes_getattribute.lookup
  have f3 := F.slot_bytes_getattribute.bind (.bytes n u)
  repeat (any_goals (first | assumption | wp_step))
  refine has_call_bytes fun v h' hk => ?_
  repeat (any_goals (first | assumption | wp_step))
  exact hq _ _ hk
theorem kind_has : builtinKind "hasattr" = none := by decide +kernel
theorem plain_has : plainId "hasattr" = true := by decide +kernel
theorem entry_has : entryFor table "hasattr" = some Builtin.«hasattr» := entryFor_of_fast (by kernel_rfl)
theorem args_has (a b : Value) : argsOk "hasattr" ⟨[a, b], []⟩ := by unfold argsOk; kernel_rfl
set_option maxHeartbeats 4000000 in
theorem hasattr_list {tk : Tok} {Q : Value → Shared → Prop} (hx : h.get? a = some (listOf xs k)) (hq : ∀ h', Kept h h' → Q (.bool true) ⟨h', g, d, t, os⟩) :
    wpAny (model prog w) A (call (.builtin "hasattr") [.ref a, .str "__getitem__" tk]) Q E ⟨h, g, d, t, os⟩ := by
  have hT : (⟨h, g, d, t, os⟩ : Shared).TypeIs (.ref a) "list" := ⟨_, hx, rfl⟩
  have f4 := lk_lg
  have f5 := sub_lm
  have f2 := F.slot_list_getattribute.lookup
  refine Calls.call_function_entry kind_has plain_has entry_has (args_has _ _) ?_
  unfold Builtin.«hasattr» getAttrBy?
  repeat (any_goals (first | assumption | ((with_reducible apply has_by_list hx); intro v h' hk) | wp_step))
  exact ⟨_, rfl, hq _ (by assumption)⟩
set_option maxHeartbeats 4000000 in
theorem hasattr_bytes {tk : Tok} {Q : Value → Shared → Prop} (hq : ∀ h', Kept h h' → Q (.bool true) ⟨h', g, d, t, os⟩) :
    wpAny (model prog w) A (call (.builtin "hasattr") [.bytes n u, .str "__getitem__" tk]) Q E ⟨h, g, d, t, os⟩ := by
  have hT : (⟨h, g, d, t, os⟩ : Shared).TypeIs (.bytes n u) "bytes" := rfl
  have f4 := lk_bg
  have f2 := F.slot_bytes_getattribute.lookup
  refine Calls.call_function_entry kind_has plain_has entry_has (args_has _ _) ?_
  unfold Builtin.«hasattr» getAttrBy?
  repeat (any_goals (first | assumption | ((with_reducible apply has_by_bytes); intro v h' hk) | wp_step))
  exact ⟨_, rfl, hq _ (by assumption)⟩
end
section
variable {prog : Program} {w : World} {A : Around} {E : Value → Shared → Prop} {s : Shared} {h₀ : Heap} {L : Addr} {m : Str → Option Value} {news : List (Addr × Obj)}
theorem hasListK {a : Addr} {xs : Array Value} {k : Nat} {tk : Tok} {Q : Value → Shared → Prop} (F : Fr h₀ L s.heap m) (N : News h₀ L s.heap news) (hm : (a, listOf xs k) ∈ news)
    (h : ∀ h', Fr h₀ L h' m → News h₀ L h' news → Q (.bool true) { s with heap := h' }) : wpAny (model prog w) A (call (.builtin "hasattr") [.ref a, .str "__getitem__" tk]) Q E s := by
  obtain ⟨hp, g, d, t, os⟩ := s
  exact hasattr_list (N _ hm).1 fun h' hk => h h' (F.keeps hk) (N.grown hk)
theorem hasBytesK {b : Array UInt8} {u : Tok} {tk : Tok} {Q : Value → Shared → Prop} (F : Fr h₀ L s.heap m) (N : News h₀ L s.heap news)
    (h : ∀ h', Fr h₀ L h' m → News h₀ L h' news → Q (.bool true) { s with heap := h' }) : wpAny (model prog w) A (call (.builtin "hasattr") [.bytes b u, .str "__getitem__" tk]) Q E s := by
  obtain ⟨hp, g, d, t, os⟩ := s
  exact hasattr_bytes fun h' hk => h h' (F.keeps hk) (N.grown hk)
end
end Mine
-- part Enum
namespace Mine
open PySem PySem.W PySem.Calls PyProof.Rows
set_option maxRecDepth 100000
section
variable {prog : Program} {w : World} {A : Around} {E : Value → Shared → Prop} {s : Shared} {b : Array UInt8} {t : Tok}
/-- a StopIteration is made and thrown -/
theorem stops {α : Type} {it : Addr} {Q : α → Shared → Prop} {h : Heap} (hh : A.handled = none) (hs : Heap.SameBut it s.heap h)
    (hE : ∀ h' e, Heap.ExtBut it s.heap h' → (∃ o, h'.get? e = some o ∧ o.cls = .type "StopIteration") → E (.ref e) { s with heap := h' }) :
    wpAny (model prog w) A (Builtin.SmallTypes.stopIteration : Sem α) Q E { s with heap := h } := by
  show wpAny _ _ (newExc (.type "StopIteration") [] >>= _) _ _ _
  refine wpAny_bind ?_
  simp only [newExc, newTuple]
  refine wpAny_bind (wpAny_newObj_type ?_ (by size_fits))
  refine wpAny_bind (m := firstArgMember _ _) (wpAny_of_eq (a := Value.none) (by first | rfl | (simp only [firstArgMember]; rfl)) ?_)
  refine wpAny_newObj_type ?_ (by size_fits)
  simp only [raiseNew]
  refine wpAny_bind (wpAny_handled ?_)
  rw [hh]
  refine wpAny_bind (wpAny_pure (wpAny_throw ?_))
  exact hE _ _ ((hs.extBut.push _).push _) ⟨_, Heap.get?_push_size _ rfl, rfl⟩
theorem nextOf_bytes {it : Addr} {i : Nat} {c : UInt8} {Q : Value → Shared → Prop} (hit : KBw.IsBytesIter s.heap it b t i) (hx : b[i]? = some c)
    (hQ : ∀ h', KBw.IsBytesIter h' it b t (i + 1) → Heap.SameBut it s.heap h' → Q (.int (c.toNat : Int) s.toks) { s with heap := h', toks := s.toks + 1 }) : wpAny (model prog w) A (Builtin.SmallTypes.nextOf (.ref it)) Q E s := by
  obtain ⟨o, ho, hc, hd⟩ := id hit
  unfold Builtin.SmallTypes.nextOf
  refine wpAny_bind (wpAny_callSpecial?_slot (name := PySem.Str.ofString "__next__") (KBw.iter_typeIs hit) KBw.slot_next
    (wpAny_call_entry KBw.slot_next (KBw.iter_typeIs hit) KBw.entry_next ?_ (KBw.args_next _)))
  show wpAny _ _ (field (.ref it) 0 >>= _) _ _ s
  refine wpAny_bind (wpAny_field ho hd (x := .bytes b t) rfl ?_)
  show wpAny _ _ (if (Value.bytes b t == Value.none) = true then _ else _) _ _ s
  rw [if_neg (show ¬ ((Value.bytes b t == Value.none) = true) from Bool.false_ne_true)]
  show wpAny _ _ (field (.ref it) 1 >>= _) _ _ s
  refine wpAny_bind (wpAny_field ho hd (x := .int i 0) rfl ?_)
  refine wpAny_bind (wpAny_of_eq (a := b) rfl ?_)
  simp only [Int.toNat_natCast, hx]
  refine wpAny_bind (wpAny_setField ho hd (by simp) (wpAny_bind (wpAny_mkInt (wpAny_pure ⟨_, rfl, wpAny_pure (hQ _ ?_ (Heap.SameBut.update ..))⟩))))
  exact ⟨_, Heap.get?_update_self _ ho (Obj.isFreed_of_fields (Obj.data_mapFields hd _)), (Obj.cls_mapFields ..).trans hc, by
    rw [Obj.data_mapFields hd]; simp [rawInt]⟩
theorem nextOf_bytes_end {it : Addr} {i : Nat} {Q : Value → Shared → Prop} (hh : A.handled = none) (hit : KBw.IsBytesIter s.heap it b t i) (hx : b[i]? = none)
    (hE : ∀ h' e, Heap.ExtBut it s.heap h' → (∃ o, h'.get? e = some o ∧ o.cls = .type "StopIteration") → E (.ref e) { s with heap := h' }) : wpAny (model prog w) A (Builtin.SmallTypes.nextOf (.ref it)) Q E s := by
  obtain ⟨o, ho, hc, hd⟩ := id hit
  unfold Builtin.SmallTypes.nextOf
  refine wpAny_bind (wpAny_callSpecial?_slot (name := PySem.Str.ofString "__next__") (KBw.iter_typeIs hit) KBw.slot_next
    (wpAny_call_entry KBw.slot_next (KBw.iter_typeIs hit) KBw.entry_next ?_ (KBw.args_next _)))
  show wpAny _ _ (field (.ref it) 0 >>= _) _ _ s
  refine wpAny_bind (wpAny_field ho hd (x := .bytes b t) rfl ?_)
  show wpAny _ _ (if (Value.bytes b t == Value.none) = true then _ else _) _ _ s
  rw [if_neg (show ¬ ((Value.bytes b t == Value.none) = true) from Bool.false_ne_true)]
  show wpAny _ _ (field (.ref it) 1 >>= _) _ _ s
  refine wpAny_bind (wpAny_field ho hd (x := .int i 0) rfl ?_)
  refine wpAny_bind (wpAny_of_eq (a := b) rfl ?_)
  simp only [Int.toNat_natCast, hx]
  refine wpAny_bind (wpAny_rule (wpAny_bind (wpAny_setField ho hd (by simp) ?_)))
  exact stops (A := A.in1) hh (Heap.SameBut.update ..) hE
theorem nextOf_tup {it l : Addr} {i : Nat} {items : Array Value} {x : Value} {Q : Value → Shared → Prop} (hit : s.heap.IsTupleIter it l i) (ht : s.heap.IsTuple l items) (hx : items[i]? = some x)
    (hQ : ∀ h', h'.IsTupleIter it l (i + 1) → Heap.SameBut it s.heap h' → Q x { s with heap := h' }) : wpAny (model prog w) A (Builtin.SmallTypes.nextOf (.ref it)) Q E s := by
  obtain ⟨o, ho, hc, hd⟩ := id hit
  obtain ⟨ol, hol, _, nl, hdl⟩ := ht
  unfold Builtin.SmallTypes.nextOf
  refine wpAny_bind (wpAny_callSpecial?_slot (name := PySem.Str.ofString "__next__") hit.typeIs F.slot_tuple_iterator_next
    (wpAny_call_entry F.slot_tuple_iterator_next hit.typeIs F.entry_tuple_iterator_next ?_ (F.args_tuple_iterator_next_1 _)))
  show wpAny _ _ (field (.ref it) 0 >>= _) _ _ s
  refine wpAny_bind (wpAny_field ho hd (x := .ref l) rfl ?_)
  show wpAny _ _ (if (Value.ref l == Value.none) = true then _ else _) _ _ s
  rw [if_neg (show ¬ ((Value.ref l == Value.none) = true) from Bool.false_ne_true)]
  show wpAny _ _ (field (.ref it) 1 >>= _) _ _ s
  refine wpAny_bind (wpAny_field ho hd (x := .int i 0) rfl ?_)
  show wpAny _ _ (seqItems? (.ref l) >>= _) _ _ s
  refine wpAny_bind (wpAny_seqItems hol hdl ?_)
  simp only [Int.toNat_natCast, hx]
  refine wpAny_bind (wpAny_setField ho hd (by simp) (wpAny_pure ⟨x, rfl, wpAny_pure (hQ _ ?_ (Heap.SameBut.update ..))⟩))
  exact ⟨_, Heap.get?_update_self _ ho (Obj.isFreed_of_fields (Obj.data_mapFields hd _)), (Obj.cls_mapFields ..).trans hc, by
    rw [Obj.data_mapFields hd]; simp [rawInt]⟩
theorem nextOf_tup_end {it l : Addr} {i : Nat} {items : Array Value} {Q : Value → Shared → Prop} (hh : A.handled = none) (hit : s.heap.IsTupleIter it l i) (ht : s.heap.IsTuple l items) (hx : items[i]? = none)
    (hE : ∀ h' e, Heap.ExtBut it s.heap h' → (∃ o, h'.get? e = some o ∧ o.cls = .type "StopIteration") → E (.ref e) { s with heap := h' }) : wpAny (model prog w) A (Builtin.SmallTypes.nextOf (.ref it)) Q E s := by
  obtain ⟨o, ho, hc, hd⟩ := id hit
  obtain ⟨ol, hol, _, nl, hdl⟩ := ht
  unfold Builtin.SmallTypes.nextOf
  refine wpAny_bind (wpAny_callSpecial?_slot (name := PySem.Str.ofString "__next__") hit.typeIs F.slot_tuple_iterator_next
    (wpAny_call_entry F.slot_tuple_iterator_next hit.typeIs F.entry_tuple_iterator_next ?_ (F.args_tuple_iterator_next_1 _)))
  show wpAny _ _ (field (.ref it) 0 >>= _) _ _ s
  refine wpAny_bind (wpAny_field ho hd (x := .ref l) rfl ?_)
  show wpAny _ _ (if (Value.ref l == Value.none) = true then _ else _) _ _ s
  rw [if_neg (show ¬ ((Value.ref l == Value.none) = true) from Bool.false_ne_true)]
  show wpAny _ _ (field (.ref it) 1 >>= _) _ _ s
  refine wpAny_bind (wpAny_field ho hd (x := .int i 0) rfl ?_)
  show wpAny _ _ (seqItems? (.ref l) >>= _) _ _ s
  refine wpAny_bind (wpAny_seqItems hol hdl ?_)
  simp only [Int.toNat_natCast, hx]
  refine wpAny_bind (wpAny_rule (wpAny_bind (wpAny_setField ho hd (by simp) ?_)))
  exact stops (A := A.in1) hh (Heap.SameBut.update ..) hE
end
theorem drawsBytes {prog : Program} {w : World} {A : Around} (hh : A.handled = none) (it : Addr) (b : Array UInt8) (t : Tok) :
    Draws prog w A it [it] b.size (fun i v => ∃ c u, b[i]? = some c ∧ v = .int (c.toNat : Int) u) (fun i h => KBw.IsBytesIter h it b t i) where
  live := fun _ _ st => let ⟨o, ho, _⟩ := st; ⟨o, ho⟩
  frame := fun _ _ _ st hk => let ⟨o, ho, r⟩ := st; ⟨o, hk it (by simp) o ho, r⟩
  item := fun i s Q E hi st hQ => nextOf_bytes st (c := b[i]) (by simp [hi]) fun h' hit' hs' => hQ _ h' (s.toks + 1) ⟨_, _, by simp [hi], rfl⟩ hit' hs'
  done := fun s Q E st hE => nextOf_bytes_end hh st (by simp) hE
theorem drawsTup {prog : Program} {w : World} {A : Around} (hh : A.handled = none) (it l : Addr) (hne : l ≠ it) (items : Array Value) :
    Draws prog w A it [it, l] items.size (fun i v => items[i]? = some v) (fun i h => h.IsTupleIter it l i ∧ h.IsTuple l items) where
  live := fun _ _ st => let ⟨o, ho, _⟩ := st.1; ⟨o, ho⟩
  frame := fun _ _ _ st hk => ⟨st.1.at fun o e => hk it (by simp) o e, st.2.at fun o e => hk l (by simp) o e⟩
  item := fun i s Q E hi st hQ => nextOf_tup st.1 st.2 (x := items[i]) (by simp [hi]) fun h' hit' hs' => hQ _ h' s.toks (by simp [hi]) ⟨hit', st.2.extBut hs'.extBut hne⟩ hs'
  done := fun s Q E st hE => nextOf_tup_end hh st.1 st.2 (by simp) hE
set_option maxHeartbeats 1000000 in
theorem meets_enum_bytes (b : Array UInt8) (t : Tok) :
    Meets (Builtin.«enumerate.__new__» ⟨[.type "enumerate", .bytes b t], []⟩) (fun _ R s =>
      R (.ok (.ret (.ref (s.heap.push { cls := .type "bytes_iterator", data := .fields #[.bytes b t, .int 0 0] }).objs.size)))
        { s with heap := (s.heap.push { cls := .type "bytes_iterator", data := .fields #[.bytes b t, .int 0 0] }).push { cls := .type "enumerate", data := .fields #[.none, .bool false, .ref s.heap.objs.size, rawInt 0, .none, .none] } }) :=
  .of_wp fun prog w A R s h => by
    obtain ⟨hp, g, d, tk, os⟩ := s
    have hsub := sub_enumerate
    wp_walk
    refine wpAny_stack_any fun st => wpAny_pure ?_
    split
    · rename_i c _ _ _ _ _
      cases (c == Value.type "enumerate")
      · wp_walk using KBw.pyIter_bytes
        exact ⟨_, rfl, h⟩
      · wp_walk using KBw.pyIter_bytes
        exact ⟨_, rfl, h⟩
    · wp_walk using KBw.pyIter_bytes
      exact ⟨_, rfl, h⟩
set_option maxHeartbeats 1000000 in
theorem meets_enum_tup (l : Addr) (items : Array Value) (n : Nat) (dct : Option Addr) (sl : Array (Option Value)) :
    Meets (Builtin.«enumerate.__new__» ⟨[.type "enumerate", .ref l], []⟩) (fun _ R s => s.heap.get? l = some { cls := .type "tuple", dict := dct, data := .seq items n, slots := sl } ∧
      R (.ok (.ret (.ref (s.heap.push { cls := .type "tuple_iterator", data := .fields #[.ref l, .int 0 0] }).objs.size)))
        { s with heap := (s.heap.push { cls := .type "tuple_iterator", data := .fields #[.ref l, .int 0 0] }).push { cls := .type "enumerate", data := .fields #[.none, .bool false, .ref s.heap.objs.size, rawInt 0, .none, .none] } }) :=
  .of_wp fun prog w A R s h => by
    obtain ⟨hp, g, d, tk, os⟩ := s; obtain ⟨hl, h⟩ := h
    have hsub := sub_enumerate
    have hL : Heap.IsTuple (Shared.heap ⟨hp, g, d, tk, os⟩) l items := ⟨_, hl, rfl, n, rfl⟩
    wp_walk using AutoSeq1.wpAny_loadPart' hl
    refine wpAny_stack_any fun st => wpAny_pure ?_
    split
    · rename_i c _ _ _ _ _
      cases (c == Value.type "enumerate")
      · wp_walk using AutoSeq1.wpAny_loadPart' hl, wpAny_pyIter_tuple hL
        exact ⟨_, rfl, h⟩
      · wp_walk using AutoSeq1.wpAny_loadPart' hl, wpAny_pyIter_tuple hL
        exact ⟨_, rfl, h⟩
    · wp_walk using AutoSeq1.wpAny_loadPart' hl, wpAny_pyIter_tuple hL
      exact ⟨_, rfl, h⟩
/-- what stands behind enumerate(..) is called -/
theorem enum_laid {h : Heap} {it : Obj} (hf : it.isFreed = false) : ∃ h', h' = (h.push it).push { cls := .type "enumerate", data := .fields #[.none, .bool false, .ref h.objs.size, rawInt 0, .none, .none] } ∧
    (h.push it).objs.size = h.objs.size + 1 ∧ IsEnum h' (h.objs.size + 1) h.objs.size 0 .none ∧ h'.get? h.objs.size = some it ∧ Kept h h' := by
  have hz : (h.push it).objs.size = h.objs.size + 1 := Heap.size_push ..
  refine ⟨_, rfl, hz, ?_, Heap.get?_push_of_some _ (Heap.get?_push_size _ hf), fun b o x => Heap.get?_push_of_some _ (Heap.get?_push_of_some _ x)⟩
  have := Heap.get?_push_size (h.push it) (o := { cls := .type "enumerate", data := .fields #[.none, .bool false, .ref h.objs.size, rawInt 0, .none, .none] }) rfl
  rw [hz] at this
  exact this
section
variable {prog : Program} {w : World} {A : Around} {E : Value → Shared → Prop} {s : Shared}
theorem callEnumBytes {b : Array UInt8} {t : Tok} {Q : Value → Shared → Prop}
    (h : ∀ h', IsEnum h' (s.heap.objs.size + 1) s.heap.objs.size 0 .none → KBw.IsBytesIter h' s.heap.objs.size b t 0 → Kept s.heap h' → Q (.ref (s.heap.objs.size + 1)) { s with heap := h' }) :
    wpAny (model prog w) A (call (.type "enumerate") [.bytes b t]) Q E s := by
  refine callType_new F.called_enumerate (by decide) (F.typeCall_enumerate_1 _) (F.newCall_enumerate_1 _) (fun obj => F.args_object_init_2 obj _) F.entry_enumerate_new (meets_enum_bytes b t) ?_
  obtain ⟨h', e, hz, he, hi, hk⟩ := enum_laid (h := s.heap) (it := { cls := .type "bytes_iterator", data := .fields #[.bytes b t, .int 0 0] }) rfl
  show _ ∧ _
  rw [hz, ← e]
  exact ⟨⟨_, he, rfl⟩, h h' he ⟨_, hi, rfl, rfl⟩ hk⟩
theorem callEnumTup {l : Addr} {items : Array Value} {Q : Value → Shared → Prop} (hT : s.heap.IsTuple l items)
    (h : ∀ h', IsEnum h' (s.heap.objs.size + 1) s.heap.objs.size 0 .none → h'.IsTupleIter s.heap.objs.size l 0 → Kept s.heap h' → Q (.ref (s.heap.objs.size + 1)) { s with heap := h' }) :
    wpAny (model prog w) A (call (.type "enumerate") [.ref l]) Q E s := by
  obtain ⟨⟨c, dct, dt, sl⟩, hl, hc, n, hd⟩ := hT
  replace hc : c = .type "tuple" := hc
  replace hd : dt = .seq items n := hd
  subst hc hd
  refine callType_new F.called_enumerate (by decide) (F.typeCall_enumerate_1 _) (F.newCall_enumerate_1 _) (fun obj => F.args_object_init_2 obj _) F.entry_enumerate_new (meets_enum_tup l items n dct sl) ⟨hl, ?_⟩
  obtain ⟨h', e, hz, he, hi, hk⟩ := enum_laid (h := s.heap) (it := { cls := .type "tuple_iterator", data := .fields #[.ref l, .int 0 0] }) rfl
  show _ ∧ _
  rw [hz, ← e]
  exact ⟨⟨_, he, rfl⟩, h h' he ⟨_, hi, rfl, rfl⟩ hk⟩
end
end Mine
-- part Els
namespace Mine
open PySem PySem.W PySem.Calls PyProof.Rows
set_option maxRecDepth 100000
section
variable {prog : Program} {w : World} {A : Around} {E : Value → Shared → Prop} {s : Shared} {env : Env} {h₀ : Heap} {target : PySem.Expr} {body orelse : List Stmt} {Q : Flow → Shared → Prop}
/-- one turn's end, where the loop may go on, leave by break, or hand something back -/
def TurnEnd (h₀ : Heap) (L : Addr) (wr : List Addr) (own : List (Addr × Obj)) (J : (Str → Option Value) → List (Addr × Obj) → Prop) (s₁ : Shared) (Q : Flow → Shared → Prop) (f : Flow) (s₂ : Shared) : Prop :=
  match f with
  | .ret v => Q (.ret v) s₂
  | .brk => Q .next s₂
  | _ => ∃ h' tk m' news', s₂ = { s₁ with heap := h', toks := tk } ∧ Fr h₀ L h' m' ∧ News h₀ L h' (own ++ news') ∧ (∀ p ∈ news', p.1 ∉ wr) ∧ J m' news'
theorem loopElse {I : Addr} {fp wr : List Addr} {n : Nat} {P Md : Nat → Value → Heap → Prop} {St : Nat → Heap → Prop} {m : Str → Option Value} {news : List (Addr × Obj)} (W : KTurns prog w A target I fp wr n P Md St)
    (hLf : env.locals ∉ fp) (hwr : ∀ b ∈ wr, h₀.get? b = none) (hnw : ∀ p ∈ news, p.1 ∉ wr) (hst : St 0 s.heap) (F : Fr h₀ env.locals s.heap m) (N : News h₀ env.locals s.heap news)
    (J : Nat → (Str → Option Value) → List (Addr × Obj) → Prop) (h0 : J 0 m news) (hE : PassesOwn (model prog w) A env E)
    (step : ∀ i v m₁ news₁ h₁ tk₁ own, i < n → P i v h₁ → J i m₁ news₁ → (∀ p ∈ news₁, p.1 ∉ wr) → (∀ p ∈ own, p.1 ∈ fp) → (∀ p ∈ own, h₁.get? p.1 = some p.2) → (∀ b ∈ fp, h₀.get? b = none → ∀ o, h₁.get? b = some o → (b, o) ∈ own) → St (i + 1) h₁ →
      Fr h₀ env.locals h₁ m₁ → News h₀ env.locals h₁ (own ++ news₁) →
      wpAny (model prog w) A (assign target env v) (fun _ s₂ => wpAny (model prog w) A (execs body env) (TurnEnd h₀ env.locals wr own (J (i + 1)) { s with heap := h₁, toks := tk₁ } Q) E s₂) E { s with heap := h₁, toks := tk₁ })
    (last : ∀ h' tk m' news', Fr h₀ env.locals h' m' → News h₀ env.locals h' news' → J n m' news' → wpAny (model prog w) A (execs orelse env) Q E { s with heap := h', toks := tk }) :
    codeAny (model prog w) A (.forLoop target (.ref I) body orelse env) (fun r s' => match r with | .ok f => Q f s' | .error e => cameBackBy (model prog w) A env E e s') s := by
  have hLw : env.locals ∉ wr := fun h => hLf (W.sub _ h)
  have old : ∀ b o, h₀.get? b = some o → b ∉ wr := fun b o e hb => by rw [hwr b hb] at e; cases e
  let Inv : Nat → Shared → Prop := fun k s' => ∃ h' tk m' news' i, s' = { s with heap := h', toks := tk } ∧ St i h' ∧ Fr h₀ env.locals h' m' ∧ News h₀ env.locals h' news' ∧ (∀ p ∈ news', p.1 ∉ wr) ∧ J i m' news' ∧ i ≤ n ∧ k = n + 1 - i
  refine codeAny_forLoop_any Inv ?_ (n + 1) ⟨s.heap, s.toks, m, news, 0, rfl, hst, F, N, hnw, h0, Nat.zero_le _, rfl⟩
  rintro k s' ⟨h', tk, m', news', i, rfl, hst', F', N', hnw', hJ, hi, rfl⟩
  have keep : ∀ h₁ : Heap, (∀ b o, b ∉ wr → h'.get? b = some o → h₁.get? b = some o) → Fr h₀ env.locals h₁ m' ∧ News h₀ env.locals h₁ news' := fun h₁ hk₁ =>
    ⟨⟨F'.ns.at' fun o e => hk₁ _ o hLw e, fun b o e => hk₁ b o (old b o e) (F'.keep b o e), F'.above⟩, fun p hp => ⟨hk₁ _ _ (hnw' p hp) (N' p hp).1, (N' p hp).2⟩⟩
  by_cases hlt : i < n
  · refine W.item i _ _ _ hlt hst' fun v h₁ tk₁ hMd hk₁ => ?_
    refine W.go i v _ _ _ hMd fun h₂ hP hst₂ hk₂ => ?_
    obtain ⟨F₂, N₂⟩ := keep h₂ fun b o hb x => hk₂ b o hb (hk₁ b o hb x)
    have Nown : News h₀ env.locals h₂ (PyProof.Rows.ownOf h₀ fp h₂) := news_ownOf hLf
    have st := step i v m' news' h₂ tk₁ (PyProof.Rows.ownOf h₀ fp h₂) hlt hP hJ hnw' ownOf_sub (fun p hp => (Nown p hp).1) (fun b hb hn o e => mem_ownOf hb hn e) hst₂ F₂ (Nown.append N₂)
    refine wpAny_mono st (fun _ s₂ y => wpAny_mono y (fun f s₃ z => ?_) hE) hE
    have on : (∃ h' tk m' news', s₃ = { s with heap := h', toks := tk } ∧ Fr h₀ env.locals h' m' ∧ News h₀ env.locals h' (PyProof.Rows.ownOf h₀ fp h₂ ++ news') ∧ (∀ p ∈ news', p.1 ∉ wr) ∧ J (i + 1) m' news') → ∃ k', k' < n + 1 - i ∧ Inv k' s₃ := by
      rintro ⟨h₃, tk₃, m₃, news₃, rfl, F₃, N₃, a₃, J₃⟩
      refine ⟨n + 1 - (i + 1), by omega, h₃, tk₃, m₃, news₃, i + 1, rfl, W.frame _ _ _ hst₂ fun b hb o e => ?_, F₃, N₃.right, a₃, J₃, hlt, rfl⟩
      cases hn : h₀.get? b with
      | some o₀ =>
        have q := F₂.keep b o₀ hn
        rw [e] at q
        rw [Option.some.inj q]
        exact F₃.keep b o₀ hn
      | none => exact (N₃ _ (List.mem_append_left _ (mem_ownOf hb hn e))).1
    cases f with
    | ret v => exact z
    | brk => exact z
    | cont => exact on z
    | next => exact on z
  · have hin : i = n := by omega
    subst hin
    refine W.done _ _ _ hst' fun h₁ tk₁ hk₁ => ?_
    obtain ⟨F₁, N₁⟩ := keep h₁ hk₁
    exact wpAny_mono (last h₁ tk₁ m' news' F₁ N₁ hJ) (fun f s₃ z => z) hE
/-- a turn over enumerate(bytes) -/
def EnumEnd (h₀ : Heap) (L : Addr) (its news : List (Addr × Obj)) (J : (Str → Option Value) → Prop) (s₁ : Shared) (Q : Flow → Shared → Prop) (f : Flow) (s₂ : Shared) : Prop :=
  match f with
  | .ret v => Q (.ret v) s₂
  | .brk => Q .next s₂
  | _ => ∃ h' tk m', s₂ = { s₁ with heap := h', toks := tk } ∧ Fr h₀ L h' m' ∧ News h₀ L h' (its ++ news) ∧ J m'
end
end Mine
-- part Loop
namespace Mine
open PySem PySem.W PySem.Calls PyProof.Rows
set_option maxRecDepth 100000
/-- a turn's end, told by what the turn leaves -/
def GenEnd (h₀ : Heap) (L I : Addr) (oI : Obj) (J : (Str → Option Value) → List (Addr × Obj) → Prop) (s₁ : Shared) (Q : Flow → Shared → Prop) (f : Flow) (s₂ : Shared) : Prop :=
  match f with
  | .ret v => Q (.ret v) s₂
  | .brk => Q .next s₂
  | _ => ∃ h' tk m' news', s₂ = { s₁ with heap := h', toks := tk } ∧ Fr h₀ L h' m' ∧ News h₀ L h' ((I, oI) :: news') ∧ (∀ p ∈ news', p.1 ≠ I) ∧ J m' news'
section
variable {prog : Program} {w : World} {A : Around} {E : Value → Shared → Prop} {s : Shared} {env : Env} {h₀ : Heap} {target : PySem.Expr} {body orelse : List Stmt} {Q : Flow → Shared → Prop}
theorem loopJ {I : Addr} {fp : List Addr} {n : Nat} {P Md : Nat → Value → Heap → Prop} {St : Nat → Heap → Prop} {m : Str → Option Value} {news : List (Addr × Obj)} (W : KTurns prog w A target I fp [I] n P Md St)
    (hLf : env.locals ∉ fp) (hI : h₀.get? I = none) (hIf : I ∈ fp) (keep : List (Addr × Obj)) (hfp : ∀ b ∈ fp, b ≠ I → (∃ o, h₀.get? b = some o) ∨ ∃ o, (b, o) ∈ keep) (hIo : ∀ i h, St i h → ∃ o, h.get? I = some o) (hnw : ∀ p ∈ news, p.1 ≠ I) (hst : St 0 s.heap) (F : Fr h₀ env.locals s.heap m) (N : News h₀ env.locals s.heap news)
    (J : Nat → (Str → Option Value) → List (Addr × Obj) → Prop) (h0 : J 0 m news) (hkp : ∀ i m n, J i m n → ∀ p ∈ keep, p ∈ n) (hE : PassesOwn (model prog w) A env E)
    (turn : ∀ i v m₁ news₁ h₁ tk₁ oI, i < n → P i v h₁ → J i m₁ news₁ → (∀ p ∈ news₁, p.1 ≠ I) → Fr h₀ env.locals h₁ m₁ → News h₀ env.locals h₁ ((I, oI) :: news₁) →
      wpAny (model prog w) A (assign target env v) (fun _ s₂ => wpAny (model prog w) A (execs body env) (GenEnd h₀ env.locals I oI (J (i + 1)) { s with heap := h₁, toks := tk₁ } Q) E s₂) E { s with heap := h₁, toks := tk₁ })
    (last : ∀ h' tk m' news', Fr h₀ env.locals h' m' → News h₀ env.locals h' news' → J n m' news' → wpAny (model prog w) A (execs orelse env) Q E { s with heap := h', toks := tk }) :
    codeAny (model prog w) A (.forLoop target (.ref I) body orelse env) (fun r s' => match r with | .ok f => Q f s' | .error e => cameBackBy (model prog w) A env E e s') s := by
  refine loopElse W hLf (fun b hb => (List.mem_singleton.mp hb) ▸ hI) (fun p hp hm => hnw p hp (List.mem_singleton.mp hm)) hst F N J h0 hE ?_ last
  intro i v m₁ news₁ h₁ tk₁ own hin hP hJ hoff hown hget hall hst₁ F₁ N₁
  obtain ⟨oI, hoI⟩ := hIo _ _ hst₁
  have hIn : (I, oI) ∈ own := hall _ hIf hI oI hoI
  have N₂ : News h₀ env.locals h₁ ((I, oI) :: news₁) := fun p hp => by
    rcases List.mem_cons.mp hp with rfl | hp
    · exact N₁ _ (List.mem_append_left _ hIn)
    · exact N₁ _ (List.mem_append_right _ hp)
  refine wpAny_mono (turn i v m₁ news₁ h₁ tk₁ oI hin hP hJ (fun p hp e => hoff p hp (List.mem_singleton.mpr e)) F₁ N₂) (fun _ s₂ y => wpAny_mono y (fun f s₃ z => ?_) fun _ _ e => e) fun _ _ e => e
  have on : GenEnd h₀ env.locals I oI (J (i + 1)) { s with heap := h₁, toks := tk₁ } Q .next s₃ → TurnEnd h₀ env.locals [I] own (J (i + 1)) { s with heap := h₁, toks := tk₁ } Q .next s₃ := by
    rintro ⟨h₃, tk₃, m₃, news₃, rfl, F₃, N₃, a₃, J₃⟩
    refine ⟨h₃, tk₃, m₃, news₃, rfl, F₃, fun p hp => ?_, fun p hp hI => a₃ p hp (List.mem_singleton.mp hI), J₃⟩
    rcases List.mem_append.mp hp with hp | hp
    · by_cases e : p.1 = I
      · have e2 : p = (I, oI) := Prod.ext e (Option.some.inj ((hget p hp).symm.trans (e ▸ hoI)))
        rw [e2]; exact N₃ _ (List.mem_cons_self ..)
      · rcases hfp _ (hown p hp) e with ⟨o, ho⟩ | ⟨o, ho⟩
        · have g2 := (N₁ p (List.mem_append_left _ hp)).2.2
          rw [ho] at g2
          cases g2
        · have g2 := (N₁ _ (List.mem_append_right _ (hkp _ _ _ hJ _ ho))).1
          have e2 : p = (p.1, o) := Prod.ext rfl (Option.some.inj ((hget p hp).symm.trans g2))
          rw [e2]; exact N₃ _ (List.mem_cons_of_mem _ (hkp _ _ _ J₃ _ ho))
    · exact N₃ _ (List.mem_cons_of_mem _ hp)
  cases f with
  | ret v => exact z
  | brk => exact z
  | cont => exact on z
  | next => exact on z
/-- the turns over range(n) -/
theorem forRangeJ {n : Nat} {r : Addr} {t u v : Tok} {m : Str → Option Value} {news : List (Addr × Obj)}
    (hh : A.handled = none) (hr : IsRange s.heap r 0 (n : Int) 1 t u v) (hsm : Builtin.Range.small 0 (n : Int) 1 = true) (hn : Builtin.Range.rangeSize 0 (n : Int) 1 = (n : Int)) (F : Fr h₀ env.locals s.heap m) (N : News h₀ env.locals s.heap news) (hE : PassesOwn (model prog w) A env E)
    (J : Nat → (Str → Option Value) → List (Addr × Obj) → Prop) (h0 : J 0 m news)
    (turn : ∀ (i : Nat) (t : Tok) m₁ news₁ h₁ tk₁ I oI, i < n → J i m₁ news₁ → (∀ p ∈ news₁, p.1 ≠ I) → Fr h₀ env.locals h₁ m₁ → News h₀ env.locals h₁ ((I, oI) :: news₁) →
      wpAny (model prog w) A (assign target env (.int (i : Int) t)) (fun _ s₂ => wpAny (model prog w) A (execs body env) (GenEnd h₀ env.locals I oI (J (i + 1)) { s with heap := h₁, toks := tk₁ } Q) E s₂) E { s with heap := h₁, toks := tk₁ })
    (last : ∀ h' tk m' news', Fr h₀ env.locals h' m' → News h₀ env.locals h' news' → J n m' news' → wpAny (model prog w) A (execs orelse env) Q E { s with heap := h', toks := tk }) :
    wpAny (model prog w) A (pyIter (.ref r)) (fun it s₂ => codeAny (model prog w) A (.forLoop target it body orelse env) (fun r s' => match r with | .ok f => Q f s' | .error e => cameBackBy (model prog w) A env E e s') s₂) E s := by
  refine wpAny_pyIter_range hr hsm ?_
  have W := (Walks.range (prog := prog) (w := w) hh s.heap.objs.size 0 1 n).bound
  have hLs : @LT.lt Nat _ env.locals s.heap.objs.size := F.ns.lt
  refine loopJ (s := { s with heap := s.heap.push { cls := .type "range_iterator", data := .fields #[rawInt 0, rawInt (Builtin.Range.rangeSize 0 (n : Int) 1), rawInt 1] } })
    (KTurns.ofWalks W fun i v s Q E st q => by
      have ho : s.heap.get? _ = some _ := st
      unfold letOwnedTupleGo
      cases target <;> first
        | exact wpAny_pure q
        | (cases v <;> first
            | exact wpAny_pure q
            | (refine wpAny_bind (wpAny_load ho ?_)
               exact wpAny_pure q)))
    (fun hm => absurd (List.mem_singleton.mp hm) (Nat.ne_of_lt hLs)) (ktu_new F (Nat.le_refl _)) (List.mem_singleton.mpr rfl) [] (fun b hb e => absurd (List.mem_singleton.mp hb) e) (fun i h st => ⟨_, st⟩)
    (fun p hp => Nat.ne_of_lt (Heap.lt_size (N p hp).1)) (by show IsRangeIter _ _ _ _ _; rw [hn]; simpa using Heap.get?_push_size _ rfl) (F.push _) (fun p hp => ⟨Heap.get?_push_of_some _ (N p hp).1, (N p hp).2⟩) J h0 (fun _ _ _ _ p hp => absurd hp List.not_mem_nil) hE ?_ last
  intro i v m₁ news₁ h₁ tk₁ oI hin hP hJ hoff F₁ N₁
  obtain ⟨_, t, rfl⟩ := hP
  have e : (0 : Int) + (i : Int) * 1 = (i : Int) := by omega
  rw [e]
  exact turn i t m₁ news₁ h₁ tk₁ _ oI hin hJ hoff F₁ N₁
/-- the turns over a list of the base -/
theorem forListJ {ax : Addr} {vs : List Value} {m : Str → Option Value} {news : List (Addr × Obj)}
    (hh : A.handled = none) (hl₀ : h₀.IsList ax vs.toArray) (F : Fr h₀ env.locals s.heap m) (N : News h₀ env.locals s.heap news) (hE : PassesOwn (model prog w) A env E)
    (J : Nat → (Str → Option Value) → List (Addr × Obj) → Prop) (h0 : J 0 m news)
    (turn : ∀ (i : Nat) v m₁ news₁ h₁ tk₁ I oI, vs[i]? = some v → J i m₁ news₁ → (∀ p ∈ news₁, p.1 ≠ I) → Fr h₀ env.locals h₁ m₁ → News h₀ env.locals h₁ ((I, oI) :: news₁) →
      wpAny (model prog w) A (assign target env v) (fun _ s₂ => wpAny (model prog w) A (execs body env) (GenEnd h₀ env.locals I oI (J (i + 1)) { s with heap := h₁, toks := tk₁ } Q) E s₂) E { s with heap := h₁, toks := tk₁ })
    (last : ∀ h' tk m' news', Fr h₀ env.locals h' m' → News h₀ env.locals h' news' → J vs.length m' news' → wpAny (model prog w) A (execs orelse env) Q E { s with heap := h', toks := tk }) :
    wpAny (model prog w) A (pyIter (.ref ax)) (fun it s₂ => codeAny (model prog w) A (.forLoop target it body orelse env) (fun r s' => match r with | .ok f => Q f s' | .error e => cameBackBy (model prog w) A env E e s') s₂) E s := by
  obtain ⟨ol, hol, -⟩ := id hl₀
  have hl : s.heap.IsList ax vs.toArray := stays_list F.keep hl₀
  have hlt : @LT.lt Nat _ ax s.heap.objs.size := Heap.lt_size (F.keep _ _ hol)
  have hLs : @LT.lt Nat _ env.locals s.heap.objs.size := F.ns.lt
  have hlL : @LT.lt Nat _ ax env.locals := Nat.lt_of_lt_of_le (Heap.lt_size hol) F.above
  refine wpAny_pyIter_list hl ?_
  have W := Walks.list (prog := prog) (w := w) hh s.heap.objs.size ax (Nat.ne_of_lt hlt) vs.toArray
  refine loopJ (s := { s with heap := s.heap.push { cls := .type "list_iterator", data := .fields #[.ref ax, .int 0 0] } }) (n := vs.length) (KTurns.ofWalks W fun i v s Q E st q => letGo_listiter st.1 q) ?_ (ktu_new F (Nat.le_refl _)) (List.mem_cons_self ..) [] ?_
    (fun i h st => by obtain ⟨o, e, _⟩ := st.1; exact ⟨o, e⟩) (fun p hp => Nat.ne_of_lt (Heap.lt_size (N p hp).1)) ⟨⟨_, Heap.get?_push_size _ rfl, rfl, rfl⟩, hl.at fun o e => Heap.get?_push_of_some _ e⟩ (F.push _) (fun p hp => ⟨Heap.get?_push_of_some _ (N p hp).1, (N p hp).2⟩) J h0 (fun _ _ _ _ p hp => absurd hp List.not_mem_nil) hE ?_ last
  · intro hm
    rcases List.mem_cons.mp hm with e | hm
    · exact absurd e (Nat.ne_of_lt hLs)
    · exact absurd (List.mem_singleton.mp hm) (Nat.ne_of_gt hlL)
  · intro b hb e
    rcases List.mem_cons.mp hb with e' | hb
    · exact absurd e' e
    · exact .inl ⟨ol, by rw [List.mem_singleton.mp hb]; exact hol⟩
  · intro i v m₁ news₁ h₁ tk₁ oI hin hP hJ hoff F₁ N₁
    have hv : vs[i]? = some v := by
      have : vs.toArray[i]? = some v := hP
      simpa using this
    exact turn i v m₁ news₁ h₁ tk₁ _ oI hv hJ hoff F₁ N₁
/-- the turns over a tuple that was made -/
theorem forTupJ {T : Addr} {vs : List Value} {c : Nat} {m : Str → Option Value} {news : List (Addr × Obj)}
    (hh : A.handled = none) (hT : (T, ({ cls := .type "tuple", data := .seq vs.toArray c } : Obj)) ∈ news) (F : Fr h₀ env.locals s.heap m) (N : News h₀ env.locals s.heap news) (hE : PassesOwn (model prog w) A env E)
    (J : Nat → (Str → Option Value) → List (Addr × Obj) → Prop) (h0 : J 0 m news) (hkp : ∀ i m n, J i m n → (T, ({ cls := .type "tuple", data := .seq vs.toArray c } : Obj)) ∈ n)
    (turn : ∀ (i : Nat) v m₁ news₁ h₁ tk₁ I oI, vs[i]? = some v → J i m₁ news₁ → (∀ p ∈ news₁, p.1 ≠ I) → Fr h₀ env.locals h₁ m₁ → News h₀ env.locals h₁ ((I, oI) :: news₁) →
      wpAny (model prog w) A (assign target env v) (fun _ s₂ => wpAny (model prog w) A (execs body env) (GenEnd h₀ env.locals I oI (J (i + 1)) { s with heap := h₁, toks := tk₁ } Q) E s₂) E { s with heap := h₁, toks := tk₁ })
    (last : ∀ h' tk m' news', Fr h₀ env.locals h' m' → News h₀ env.locals h' news' → J vs.length m' news' → wpAny (model prog w) A (execs orelse env) Q E { s with heap := h', toks := tk }) :
    wpAny (model prog w) A (pyIter (.ref T)) (fun it s₂ => codeAny (model prog w) A (.forLoop target it body orelse env) (fun r s' => match r with | .ok f => Q f s' | .error e => cameBackBy (model prog w) A env E e s') s₂) E s := by
  have hN := N _ hT
  have hl : s.heap.IsTuple T vs.toArray := ⟨_, hN.1, rfl, c, rfl⟩
  have hlt : @LT.lt Nat _ T s.heap.objs.size := Heap.lt_size hN.1
  have hLs : @LT.lt Nat _ env.locals s.heap.objs.size := F.ns.lt
  refine wpAny_pyIter_tuple hl ?_
  have W := Walks.tuple (prog := prog) (w := w) hh s.heap.objs.size T (Nat.ne_of_lt hlt) vs.toArray
  refine loopJ (s := { s with heap := s.heap.push { cls := .type "tuple_iterator", data := .fields #[.ref T, .int 0 0] } }) (n := vs.length) (KTurns.ofWalks W fun i v s Q E st q => letGo_tupleiter st.1 q) ?_ (ktu_new F (Nat.le_refl _)) (List.mem_cons_self ..) [(T, _)] ?_
    (fun i h st => by obtain ⟨o, e, _⟩ := st.1; exact ⟨o, e⟩) (fun p hp => Nat.ne_of_lt (Heap.lt_size (N p hp).1)) ⟨⟨_, Heap.get?_push_size _ rfl, rfl, rfl⟩, hl.at fun o e => Heap.get?_push_of_some _ e⟩ (F.push _) (fun p hp => ⟨Heap.get?_push_of_some _ (N p hp).1, (N p hp).2⟩) J h0 (fun i m n hJ p hp => (List.mem_singleton.mp hp) ▸ hkp i m n hJ) hE ?_ last
  · intro hm
    rcases List.mem_cons.mp hm with e | hm
    · exact absurd e (Nat.ne_of_lt hLs)
    · exact absurd (List.mem_singleton.mp hm).symm hN.2.1
  · intro b hb e
    rcases List.mem_cons.mp hb with e' | hb
    · exact absurd e' e
    · exact .inr ⟨_, List.mem_singleton.mpr (by rw [List.mem_singleton.mp hb])⟩
  · intro i v m₁ news₁ h₁ tk₁ oI hin hP hJ hoff F₁ N₁
    have hv : vs[i]? = some v := by
      have : vs.toArray[i]? = some v := hP
      simpa using this
    exact turn i v m₁ news₁ h₁ tk₁ _ oI hv hJ hoff F₁ N₁
/-- the turns over a list that was made -/
theorem forMadeJ {T : Addr} {vs : List Value} {c : Nat} {m : Str → Option Value} {news : List (Addr × Obj)}
    (hh : A.handled = none) (hT : (T, listOf vs.toArray c) ∈ news) (F : Fr h₀ env.locals s.heap m) (N : News h₀ env.locals s.heap news) (hE : PassesOwn (model prog w) A env E)
    (J : Nat → (Str → Option Value) → List (Addr × Obj) → Prop) (h0 : J 0 m news) (hkp : ∀ i m n, J i m n → (T, listOf vs.toArray c) ∈ n)
    (turn : ∀ (i : Nat) v m₁ news₁ h₁ tk₁ I oI, vs[i]? = some v → J i m₁ news₁ → (∀ p ∈ news, p.1 < I) → (∀ p ∈ news₁, p.1 ≠ I) → Fr h₀ env.locals h₁ m₁ → News h₀ env.locals h₁ ((I, oI) :: news₁) →
      wpAny (model prog w) A (assign target env v) (fun _ s₂ => wpAny (model prog w) A (execs body env) (GenEnd h₀ env.locals I oI (J (i + 1)) { s with heap := h₁, toks := tk₁ } Q) E s₂) E { s with heap := h₁, toks := tk₁ })
    (last : ∀ h' tk m' news', Fr h₀ env.locals h' m' → News h₀ env.locals h' news' → J vs.length m' news' → wpAny (model prog w) A (execs orelse env) Q E { s with heap := h', toks := tk }) :
    wpAny (model prog w) A (pyIter (.ref T)) (fun it s₂ => codeAny (model prog w) A (.forLoop target it body orelse env) (fun r s' => match r with | .ok f => Q f s' | .error e => cameBackBy (model prog w) A env E e s') s₂) E s := by
  have hN := N _ hT
  have hl : s.heap.IsList T vs.toArray := ⟨_, hN.1, rfl, c, rfl⟩
  have hlt : @LT.lt Nat _ T s.heap.objs.size := Heap.lt_size hN.1
  have hLs : @LT.lt Nat _ env.locals s.heap.objs.size := F.ns.lt
  refine wpAny_pyIter_list hl ?_
  have W := Walks.list (prog := prog) (w := w) hh s.heap.objs.size T (Nat.ne_of_lt hlt) vs.toArray
  refine loopJ (s := { s with heap := s.heap.push { cls := .type "list_iterator", data := .fields #[.ref T, .int 0 0] } }) (n := vs.length) (KTurns.ofWalks W fun i v s Q E st q => letGo_listiter st.1 q) ?_ (ktu_new F (Nat.le_refl _)) (List.mem_cons_self ..) [(T, _)] ?_
    (fun i h st => by obtain ⟨o, e, _⟩ := st.1; exact ⟨o, e⟩) (fun p hp => Nat.ne_of_lt (Heap.lt_size (N p hp).1)) ⟨⟨_, Heap.get?_push_size _ rfl, rfl, rfl⟩, hl.at fun o e => Heap.get?_push_of_some _ e⟩ (F.push _) (fun p hp => ⟨Heap.get?_push_of_some _ (N p hp).1, (N p hp).2⟩) J h0 (fun i m n hJ p hp => (List.mem_singleton.mp hp) ▸ hkp i m n hJ) hE ?_ last
  · intro hm
    rcases List.mem_cons.mp hm with e | hm
    · exact absurd e (Nat.ne_of_lt hLs)
    · exact absurd (List.mem_singleton.mp hm).symm hN.2.1
  · intro b hb e
    rcases List.mem_cons.mp hb with e' | hb
    · exact absurd e' e
    · exact .inr ⟨_, List.mem_singleton.mpr (by rw [List.mem_singleton.mp hb])⟩
  · intro i v m₁ news₁ h₁ tk₁ oI hin hP hJ hoff F₁ N₁
    have hv : vs[i]? = some v := by
      have : vs.toArray[i]? = some v := hP
      simpa using this
    exact turn i v m₁ news₁ h₁ tk₁ _ oI hv hJ (fun p hp => Heap.lt_size (N p hp).1) hoff F₁ N₁
end
end Mine
-- part EnT
namespace Mine
open PySem PySem.W PySem.Calls PyProof.Rows
set_option maxRecDepth 100000
section
variable {prog : Program} {w : World} {A : Around} {E : Value → Shared → Prop} {s : Shared} {b : Array UInt8} {t : Tok}
/-- what stands behind the item drawn: the count, the pair, the note of who holds it -/
theorem enumRest {e it : Addr} {i : Int} {old x : Value} {Q : Value → Shared → Prop} (he : IsEnum s.heap e it i old)
    (hQ : ∀ h', IsEnumOut h' e it (i + 1) x s.heap.objs.size → h'.get? s.heap.objs.size = some { cls := .type "tuple", data := .seq #[.int i s.toks, x] } → Heap.ExtBut e s.heap h' → Q (.ref s.heap.objs.size) { s with heap := h', toks := s.toks + 1 }) :
    wpAny (model prog w) A (do
      let .int i _ ← field (.ref e) 3 | unsupported "internal:enumerate.__next__"
      let given ← field (.ref e) 4
      let index ← if given == .none then mkInt i else pure given
      setField (.ref e) 3 (rawInt (i + 1)); setField (.ref e) 4 .none
      let result ← newTuple [index, x]
      if ← Builtin.SmallTypes.ownedTupleIsFree (.ref e) then
        rule "enumerate.__next__.owned-tuple-again"
        let old ← field (.ref e) 5
        setField (.ref e) 5 x
        Builtin.SmallTypes.ownedTupleHandOut (.ref e) result
        letGo [old] [result]
      ret result) (fun fin s' => ∃ v, fin = .done (.ret v) ∧ Q v s') E s := by
  obtain ⟨hp, g, d, tk, os⟩ := s
  have hel : @LT.lt Nat _ e hp.objs.size := Heap.lt_size he
  refine wpAny_bind (wpAny_field he rfl (x := rawInt i) rfl ?_)
  refine wpAny_bind (wpAny_field he rfl (x := .none) rfl ?_)
  refine wpAny_bind (wpAny_mkInt ?_)
  refine wpAny_bind (wpAny_setField_rec he (by simp) fun h₂ he₂ hs₂ => ?_)
  replace hs₂ : Heap.SameBut e hp h₂ := hs₂
  replace he₂ : IsEnum h₂ e it (i + 1) old := he₂
  refine wpAny_bind (wpAny_setField_rec he₂ (by simp) fun h₃ he₃ hs₃ => ?_)
  replace hs₃ : Heap.SameBut e h₂ h₃ := hs₃
  replace he₃ : IsEnum h₃ e it (i + 1) old := he₃
  refine wpAny_bind (wpAny_newTuple ?_)
  have hsz : h₃.objs.size = hp.objs.size := by rw [hs₃.1, hs₂.1]
  show wpAny _ _ (Builtin.SmallTypes.ownedTupleIsFree (.ref e) >>= _) _ _ ⟨h₃.push { cls := .type "tuple", data := .seq #[.int i tk, x] }, g, d, tk + 1, os⟩
  have he₄ : IsEnum (h₃.push { cls := .type "tuple", data := .seq #[.int i tk, x] }) e it (i + 1) old := Heap.get?_push_of_some _ he₃
  have ht₄ : (h₃.push { cls := .type "tuple", data := .seq #[.int i tk, x] }).get? hp.objs.size = some { cls := .type "tuple", data := .seq #[.int i tk, x] } := by
    rw [← hsz]; exact Heap.get?_push_size _ rfl
  have hk₄ : Heap.ExtBut e hp (h₃.push { cls := .type "tuple", data := .seq #[.int i tk, x] }) := fun b o hb y => Heap.get?_push_of_some _ (hs₃.extBut b o hb (hs₂.extBut b o hb y))
  generalize h₃.push { cls := .type "tuple", data := .seq #[.int i tk, x] } = h₄ at he₄ ht₄ hk₄ ⊢
  rw [hsz]
  unfold Builtin.SmallTypes.ownedTupleIsFree
  refine wpAny_bind (wpAny_bind (wpAny_field he₄ rfl (x := .none) rfl (wpAny_pure ?_)))
  simp only [if_true]
  refine wpAny_bind (wpAny_rule ?_)
  refine wpAny_bind (wpAny_field he₄ rfl (x := old) rfl ?_)
  refine wpAny_bind (wpAny_setField_rec he₄ (by simp) fun h₅ he₅ hs₅ => ?_)
  replace hs₅ : Heap.SameBut e h₄ h₅ := hs₅
  replace he₅ : IsEnum h₅ e it (i + 1) x := he₅
  unfold Builtin.SmallTypes.ownedTupleHandOut
  refine wpAny_bind (wpAny_bind (wpAny_setField_rec he₅ (by simp) fun h₆ he₆ hs₆ => ?_))
  replace hs₆ : Heap.SameBut e h₅ h₆ := hs₆
  replace he₆ : IsEnumOut h₆ e it (i + 1) x hp.objs.size := he₆
  refine wpAny_setField_rec he₆ (by simp) fun h₇ he₇ hs₇ => ?_
  replace hs₇ : Heap.SameBut e h₆ h₇ := hs₇
  replace he₇ : IsEnumOut h₇ e it (i + 1) x hp.objs.size := he₇
  have hTe : hp.objs.size ≠ e := Nat.ne_of_gt hel
  refine wpAny_bind (wpAny_letGo (wpAny_pure ⟨_, rfl, hQ h₇ he₇ ?_ ?_⟩))
  · exact hs₇.extBut _ _ hTe (hs₆.extBut _ _ hTe (hs₅.extBut _ _ hTe ht₄))
  · exact fun b o hb y => hs₇.extBut b o hb (hs₆.extBut b o hb (hs₅.extBut b o hb (hk₄ b o hb y)))
theorem enumNextT {e it : Addr} {i : Nat} {old : Value} {c : UInt8} {Q : Option Value → Shared → Prop} (he : IsEnum s.heap e it i old) (hit : KBw.IsBytesIter s.heap it b t i) (hx : b[i]? = some c) (hne : e ≠ it)
    (hQ : ∀ T h', IsEnumOut h' e it ((i : Int) + 1) (.int (c.toNat : Int) s.toks) T → KBw.IsBytesIter h' it b t (i + 1) → h'.get? T = some { cls := .type "tuple", data := .seq #[.int (i : Int) (s.toks + 1), .int (c.toNat : Int) s.toks] } → T ≠ e → T ≠ it →
      (∀ b o, b ≠ e → b ≠ it → s.heap.get? b = some o → h'.get? b = some o) → Q (some (.ref T)) { s with heap := h', toks := s.toks + 1 + 1 }) :
    wpAny (model prog w) A (pyNext (.ref e)) Q E s := by
  have hT : s.TypeIs (.ref e) "enumerate" := ⟨_, he, rfl⟩
  have hel : @LT.lt Nat _ e s.heap.objs.size := Heap.lt_size he
  have hil : @LT.lt Nat _ it s.heap.objs.size := by obtain ⟨o, ho, -⟩ := hit; exact Heap.lt_size ho
  unfold pyNext
  refine wpAny_bind (wpAny_attempt (wpAny_callSpecial?_slot (name := PySem.Str.ofString "__next__") hT F.slot_enumerate_next
    (wpAny_call_entry F.slot_enumerate_next hT F.entry_enumerate_next ?_ (F.args_enumerate_next_1 _))))
  show wpAny _ _ (field (.ref e) 2 >>= _) _ _ _
  refine wpAny_bind (wpAny_field he rfl (x := .ref it) rfl ?_)
  refine wpAny_bind (nextOf_bytes hit hx fun h₁ hit₁ hs₁ => ?_)
  have hs₁' : Heap.SameBut it s.heap h₁ := hs₁
  have he₁ : IsEnum h₁ e it i old := (hs₁'.2 e hne).trans he
  refine enumRest (s := { s with heap := h₁, toks := s.toks + 1 }) (i := (i : Int)) (x := .int (c.toNat : Int) s.toks) he₁ fun h' ho ht hk => wpAny_pure ?_
  have hz : h₁.objs.size = s.heap.objs.size := hs₁'.1
  refine hQ _ h' ho ?_ ht (by show h₁.objs.size ≠ e; rw [hz]; exact Nat.ne_of_gt hel) (by show h₁.objs.size ≠ it; rw [hz]; exact Nat.ne_of_gt hil) fun a o h1 h2 y => hk a o h1 (hs₁'.extBut a o h2 y)
  obtain ⟨o, y1, y2⟩ := hit₁
  exact ⟨o, hk it o (Ne.symm hne) y1, y2⟩
end
section
variable {M : Model} {A : Around} {E : Value → Shared → Prop} {s : Shared}
theorem withToks {α : Type} {t : Sem α} {Q : α → Shared → Prop} {n : Nat} (hn : n ≤ s.toks) (h : wpAny M A t (fun a s' => n ≤ s'.toks → Q a s') E s) : wpAny M A t Q E s :=
  wpAny_mono (wpAny_toks_of hn h) (fun _ _ y => y.2 y.1) fun _ _ y => y.2
theorem withToksE {α : Type} {t : Sem α} {Q : α → Shared → Prop} {n : Nat} (hn : n ≤ s.toks) (h : wpAny M A t (fun a s' => n ≤ s'.toks → Q a s') (fun e s' => n ≤ s'.toks → E e s') s) : wpAny M A t Q E s :=
  wpAny_mono (wpAny_toks_of hn h) (fun _ _ y => y.2 y.1) fun _ _ y => y.2 y.1
theorem gentoks {α : Type} {t : Sem α} {Q : α → Shared → Prop} {h : Heap} {g : Array GenState} {d : Drawn} {os : OsState} {n : Nat} (hn : 1 ≤ n) (y : ∀ tk, 1 ≤ tk → wpAny M A t Q E ⟨h, g, d, tk, os⟩) : wpAny M A t Q E ⟨h, g, d, n, os⟩ := y n hn
/-- the tokens stand above a number -/
def TokAt (τ n : Nat) : Prop := τ ≤ n
theorem TokAt.add {τ n k : Nat} (h : TokAt τ n) : TokAt τ (n + k) := Nat.le_trans h (Nat.le_add_right _ _)
theorem TokAt.out {τ n : Nat} (h : TokAt τ n) : τ ≤ n := h
theorem gentoksN {α : Type} {t : Sem α} {Q : α → Shared → Prop} {h : Heap} {g : Array GenState} {d : Drawn} {os : OsState} {n τ : Nat} (hn : TokAt τ n) (y : ∀ tk, TokAt τ tk → wpAny M A t Q E ⟨h, g, d, tk, os⟩) : wpAny M A t Q E ⟨h, g, d, n, os⟩ := y n hn
/-- two small ints: one object if and only if equal -/
theorem isSmall {c n : Int} {t u : Tok} {Q : Value → Shared → Prop} (c0 : 0 ≤ c) (c1 : c < 256) (ht : t ≠ 0) (hu : u ≠ 0) (htu : t ≠ u) (h : Q (.bool (decide (c = n))) s) :
    wpAny M A (compareOp .Is (.int c t) (.int n u)) Q E s := by
  have e1 : (t == 0 || u == 0) = false := by simp [ht, hu]
  have e2 : (t == u) = false := by simp [htu]
  show wpAny M A (do return .bool (← isSame (.int c t) (.int n u))) Q E s
  have hs : smallInt c = true := by simp only [smallInt, Bool.and_eq_true, decide_eq_true_eq]; omega
  by_cases hc : c = n
  · subst hc
    have e3 : isSame (.int c t) (.int c u) = isSame.cachedInt t u := by
      show (if (c == c && smallInt c) = true then _ else _) = _
      rw [hs]; simp
    rw [e3]
    unfold isSame.cachedInt
    rw [e1]
    simp only [decide_true] at h
    refine wpAny_bind ?_
    simp only [Bool.false_eq_true, if_false]
    exact wpAny_bind (wpAny_rule (wpAny_pure (wpAny_pure h)))
  · have hc' : (c == n) = false := by simp [hc]
    have e3 : isSame (.int c t) (.int n u) = isSame.created false t u := by
      show (if (c == n && smallInt c) = true then _ else isSame.created (c == n) t u) = _
      rw [hc']; simp
    rw [e3]
    unfold isSame.created
    rw [e1, e2]
    rw [decide_eq_false hc] at h
    refine wpAny_bind ?_
    simp only [Bool.false_eq_true, if_false, Bool.not_false, if_true]
    first | exact wpAny_pure (wpAny_pure h) | exact wpAny_bind (wpAny_pure (wpAny_pure (wpAny_pure h)))
theorem isSmallT {c : UInt8} {n : Int} {t u : Tok} {Q : Value → Shared → Prop} (hv : u + 1 ≤ t) (hu : 1 ≤ u) (h : Q (.bool (decide ((c.toNat : Int) = n))) s) :
    wpAny M A (compareOp .Is (.int (c.toNat : Int) t) (.int n u)) Q E s :=
  isSmall (by omega) (by have := c.toNat_lt; omega) (Nat.ne_of_gt (Nat.lt_of_lt_of_le (Nat.succ_pos _) hv)) (Nat.ne_of_gt hu) (Nat.ne_of_gt hv) h
end
section
variable {prog : Program} {w : World} {A : Around} {E : Value → Shared → Prop} {s : Shared} {env : Env} {h₀ : Heap} {body orelse : List Stmt} {Q : Flow → Shared → Prop}
/-- the turns over enumerate(bytes), the tokens told -/
theorem forEnumT {elts : List PySem.Expr} {k : Nat} {pos : Pos} {b : Array UInt8} {t : Tok} {m₀ : Str → Option Value} {news : List (Addr × Obj)} {τ : Nat}
    (hh : A.handled = none) (hτ : τ ≤ s.toks) (F : Fr h₀ env.locals s.heap m₀) (N : News h₀ env.locals s.heap news) (hE : PassesOwn (model prog w) A env E)
    (J : Nat → (Str → Option Value) → Prop) (h0 : J 0 m₀)
    (turn : ∀ i c u T tt m₁ h₁ tk₁ I oI oe, b[i]? = some c → J i m₁ → τ ≤ u → τ ≤ tk₁ → (∀ p ∈ news, p.1 < I) → IsTup h₁ T #[.int (i : Int) tt, .int (c.toNat : Int) u] → Fr h₀ env.locals h₁ m₁ → News h₀ env.locals h₁ ([(I + 1, oe), (I, oI)] ++ news) →
      wpAny (model prog w) A (assign (.Tuple elts k pos) env (.ref T)) (fun _ s₂ => wpAny (model prog w) A (execs body env) (EnumEnd h₀ env.locals [(I + 1, oe), (I, oI)] news (J (i + 1)) { s with heap := h₁, toks := tk₁ } Q) E s₂) E { s with heap := h₁, toks := tk₁ })
    (last : ∀ h' tk m', Fr h₀ env.locals h' m' → News h₀ env.locals h' news → J b.size m' → τ ≤ tk → wpAny (model prog w) A (execs orelse env) Q E { s with heap := h', toks := tk }) :
    wpAny (model prog w) A (call (.type "enumerate") [.bytes b t]) (fun xv s₁ => wpAny (model prog w) A (pyIter xv) (fun it s₂ => codeAny (model prog w) A (.forLoop (.Tuple elts k pos) it body orelse env)
      (fun r s' => match r with | .ok f => Q f s' | .error e => cameBackBy (model prog w) A env E e s') s₂) E s₁) E s := by
  refine callEnumBytes fun h' he hi hk => ?_
  refine wpAny_pyIter_enum he ?_
  have hLs : @LT.lt Nat _ env.locals s.heap.objs.size := F.ns.lt
  have fresh : ∀ b, s.heap.objs.size ≤ b → h₀.get? b = none := fun b hb => ktu_new F hb
  have offN : ∀ p ∈ news, p.1 ≠ s.heap.objs.size + 1 ∧ p.1 ≠ s.heap.objs.size := fun p hp => by
    have h1 : @LT.lt Nat _ p.1 s.heap.objs.size := Heap.lt_size (N p hp).1
    exact ⟨Nat.ne_of_lt (Nat.lt_succ_of_lt h1), Nat.ne_of_lt h1⟩
  have nL1 : env.locals ≠ s.heap.objs.size + 1 := Nat.ne_of_lt (Nat.lt_succ_of_lt hLs)
  have nL2 : env.locals ≠ s.heap.objs.size := Nat.ne_of_lt hLs
  have hne1 : s.heap.objs.size + 1 ≠ s.heap.objs.size := Nat.succ_ne_self _
  have old : ∀ b o, h₀.get? b = some o → b ≠ s.heap.objs.size + 1 ∧ b ≠ s.heap.objs.size := fun b o e => by
    have h1 : @LT.lt Nat _ b h₀.objs.size := Heap.lt_size e
    have h2 : @LT.lt Nat _ b s.heap.objs.size := Nat.lt_trans (Nat.lt_of_lt_of_le h1 F.above) hLs
    exact ⟨Nat.ne_of_lt (Nat.lt_succ_of_lt h2), Nat.ne_of_lt h2⟩
  let Inv : Nat → Shared → Prop := fun k s' => ∃ h' tk m' i v, s' = { s with heap := h', toks := tk } ∧ τ ≤ tk ∧ IsEnum h' (s.heap.objs.size + 1) s.heap.objs.size (i : Nat) v ∧ KBw.IsBytesIter h' s.heap.objs.size b t i ∧
    Fr h₀ env.locals h' m' ∧ News h₀ env.locals h' news ∧ J i m' ∧ i ≤ b.size ∧ k = b.size + 1 - i
  refine codeAny_forLoop_any Inv ?_ (b.size + 1) ⟨h', s.toks, m₀, 0, _, rfl, hτ, he, hi, F.keeps hk, N.grown hk, h0, Nat.zero_le _, rfl⟩
  rintro k s' ⟨h₁, tk, m₁, i, v, rfl, htk, he₁, hi₁, F₁, N₁, J₁, hle, rfl⟩
  have keep : ∀ h₂ : Heap, (∀ b o, b ≠ s.heap.objs.size + 1 → b ≠ s.heap.objs.size → h₁.get? b = some o → h₂.get? b = some o) → Fr h₀ env.locals h₂ m₁ ∧ News h₀ env.locals h₂ news := fun h₂ hk₂ =>
    ⟨⟨F₁.ns.at' fun o e => hk₂ _ o nL1 nL2 e, fun b o e => hk₂ b o (old b o e).1 (old b o e).2 (F₁.keep b o e), F₁.above⟩, fun p hp => ⟨hk₂ _ _ (offN p hp).1 (offN p hp).2 (N₁ p hp).1, (N₁ p hp).2⟩⟩
  by_cases hlt : i < b.size
  · have hx : b[i]? = some b[i] := by simp [hlt]
    refine enumNextT he₁ hi₁ hx hne1 fun T h₂ ho₂ hi₂ hT₂ n1 n2 hk₂ => ?_
    refine wpAny_letOwnedTupleGo_enum ho₂ fun h₃ he₃ hs₃ => ?_
    have hs₃' : Heap.SameBut (s.heap.objs.size + 1) h₂ h₃ := hs₃
    have he₃' : IsEnum h₃ (s.heap.objs.size + 1) s.heap.objs.size ((i + 1 : Nat) : Int) _ := he₃
    have hi₃ : KBw.IsBytesIter h₃ s.heap.objs.size b t (i + 1) := by
      obtain ⟨o, y1, y2⟩ := hi₂
      exact ⟨o, hs₃'.extBut _ _ (Ne.symm hne1) y1, y2⟩
    obtain ⟨F₃, N₃⟩ := keep h₃ fun a o h1 h2 y => hs₃'.extBut a o h1 (hk₂ a o h1 h2 y)
    obtain ⟨oI, hoI, -⟩ := id hi₃
    obtain ⟨oe, hoe⟩ : ∃ oe, h₃.get? (s.heap.objs.size + 1) = some oe := ⟨_, he₃'⟩
    have hT₃ : IsTup h₃ T #[.int (i : Int) (tk + 1), .int (b[i].toNat : Int) tk] := ⟨_, hs₃'.extBut _ _ n1 hT₂, rfl, _, rfl⟩
    have N₃' : News h₀ env.locals h₃ ([(s.heap.objs.size + 1, oe), (s.heap.objs.size, oI)] ++ news) := fun p hp => by
      rcases List.mem_append.mp hp with hp | hp
      · rcases List.mem_cons.mp hp with rfl | hp
        · exact ⟨hoe, Ne.symm nL1, fresh _ (Nat.le_succ _)⟩
        · rw [List.mem_singleton.mp hp]; exact ⟨hoI, Ne.symm nL2, fresh _ (Nat.le_refl _)⟩
      · exact N₃ _ hp
    have htk2 : τ ≤ tk + 1 + 1 := Nat.le_succ_of_le (Nat.le_succ_of_le htk)
    have st := turn i b[i] tk T (tk + 1) m₁ h₃ (tk + 1 + 1) s.heap.objs.size oI oe hx J₁ htk htk2 (fun p hp => Heap.lt_size (N p hp).1) hT₃ F₃ N₃'
    refine withToks (n := τ) htk2 (wpAny_mono st (fun _ s₂ y ht2 => withToks (n := τ) ht2 (wpAny_mono y (fun f s₃ z ht3 => ?_) hE)) hE)
    have on : (∃ h' tk m', s₃ = { s with heap := h', toks := tk } ∧ Fr h₀ env.locals h' m' ∧ News h₀ env.locals h' ([(s.heap.objs.size + 1, oe), (s.heap.objs.size, oI)] ++ news) ∧ J (i + 1) m') → ∃ k', k' < b.size + 1 - i ∧ Inv k' s₃ := by
      rintro ⟨h₄, tk₄, m₄, rfl, F₄, N₄, J₄⟩
      have g1 : h₄.get? (s.heap.objs.size + 1) = some oe := (N₄ (s.heap.objs.size + 1, oe) (by simp)).1
      have g2 : h₄.get? s.heap.objs.size = some oI := (N₄ (s.heap.objs.size, oI) (by simp)).1
      have e1 : IsEnum h₄ (s.heap.objs.size + 1) s.heap.objs.size ((i + 1 : Nat) : Int) _ := g1.trans (hoe.symm.trans he₃')
      refine ⟨b.size + 1 - (i + 1), by omega, h₄, tk₄, m₄, i + 1, _, rfl, ht3, e1, ?_, F₄, fun p hp => N₄ p (List.mem_append_right _ hp), J₄, hlt, rfl⟩
      obtain ⟨o, y1, y2⟩ := hi₃
      exact ⟨o, g2.trans (hoI.symm.trans y1), y2⟩
    cases f with
    | ret v => exact z
    | brk => exact z
    | cont => exact on z
    | next => exact on z
  · have hin : i = b.size := by omega
    subst hin
    refine withToks (n := τ) htk ?_
    refine wpAny_pyNext_enum_endD (drawsBytes (prog := prog) (w := w) (A := A.in1) hh s.heap.objs.size b t) he₁ hi₁ fun h₂ hx₂ ht => ?_
    have hx₂' : Heap.ExtBut s.heap.objs.size h₁ h₂ := hx₂
    obtain ⟨F₂, N₂⟩ := keep h₂ fun a o _ h2 y => hx₂' a o h2 y
    exact wpAny_mono (last h₂ tk m₁ F₂ N₂ J₁ ht) (fun f s₃ z => z) hE
end
end Mine
-- part Due
namespace Mine
open PySem PySem.W PySem.Calls PyProof.Rows
set_option maxRecDepth 100000
local macro_rules | `(tactic| k_room) => `(tactic| (simp only [depth_deeper, depth_in1, recursionLimit]; omega))
local macro_rules | `(tactic| k_units) => `(tactic| (simp only [units_deeper, units_in1, cLine]; omega))
theorem AllIn.getD {ns : List Int} (h : AllIn ns 6) (k : Nat) : 0 ≤ ns.getD k 0 ∧ ns.getD k 0 < 6 := by
  rw [List.getD_eq_getElem?_getD]
  cases e : ns[k]? with
  | none => decide
  | some x => exact h x (List.mem_of_getElem? e)
section
variable {prog : Program} {w : World} {A : Around} {E : Value → Shared → Prop} {s : Shared} {L : Addr} {h₀ : Heap} {m : Str → Option Value}
theorem itemO {value slice : PySem.Expr} {l : Addr} {vs : List Value} {ns : List Int} {k : Int} {u : Tok} {Q : Value → Shared → Prop}
    (F : Fr h₀ L s.heap m) (hl₀ : h₀.IsList l vs.toArray) (hi : IntsAre vs ns) (hn : ns.length = 6) (h0 : 0 ≤ k) (h1 : k < 6)
    (h : ∀ t, Q (.int (ns.getD k.toNat 0) t) s)
    (hs : subscripted slice false (.ref l) (.int k u) = operate [.ref l, .int k u] (getItem (.ref l) (.int k u)) := by with_unfolding_all rfl) :
    wpAny (model prog w) A (subscriptTail value slice (.ref l) (.int k u)) Q E s :=
  item_anyK (stays_list F.keep hl₀) hi h0 (by omega) (by omega) h hs
end
def dueT (s p fig turn ring : Int) : Int := fig + (s.fdiv (2 ^ ring.toNat) + (p + 2 ^ turn.toNat).fdiv (2 ^ (turn + 1).toNat)).fmod 2 * 2 ^ ring.toNat
def dueF (s : Int) (o : List Int) (p : Int) : Int := ((o.zip [0, 1, 2, 3, 4, 5]).foldl (fun fig x => dueT s p fig x.2 x.1) 0)
/-- the figure after some turns -/
def dueN (s p : Int) (o : List Int) : Nat → Int
  | 0 => 0
  | i + 1 => dueT s p (dueN s p o i) (i : Int) (o.getD ((i : Int)).toNat 0)
theorem dueN_eq (s p : Int) : ∀ {o : List Int}, o.length = 6 → dueN s p o 6 = dueF s o p
  | [_, _, _, _, _, _], _ => rfl
def frD (m₀ : Str → Option Value) (fig : Int) (tf : Tok) (vd vr vt : Option Value) : Str → Option Value := fun y => if y = Str.ofString "figure" then some (.int fig tf) else if y = Str.ofString "turned" then vd else if y = Str.ofString "ring" then vr else if y = Str.ofString "turn" then vt else m₀ y
def DueEnd (h₀ : Heap) (L : Addr) (m₀ : Str → Option Value) (I : Addr) (oI : Obj) (fig : Int) (s₁ : Shared) (f : Flow) (s₂ : Shared) : Prop :=
  f = .next ∧ ∃ h' tk tf vd vr vt, s₂ = { s₁ with heap := h', toks := tk } ∧ Fr h₀ L h' (frD m₀ fig tf vd vr vt) ∧ News h₀ L h' [(I, oI)]
theorem DueEnd.intro {h₀ : Heap} {L : Addr} {m₀ m' : Str → Option Value} {I : Addr} {oI : Obj} {fig : Int} {tf : Tok} {s₁ : Shared} {h' : Heap} {tk : Nat} (F : Fr h₀ L h' m') (N : News h₀ L h' [(I, oI)])
    (h1 : m' (Str.ofString "figure") = some (.int fig tf)) (h3 : ∀ y, y ≠ Str.ofString "figure" → y ≠ Str.ofString "turned" → y ≠ Str.ofString "ring" → y ≠ Str.ofString "turn" → m' y = m₀ y) : DueEnd h₀ L m₀ I oI fig s₁ .next { s₁ with heap := h', toks := tk } := by
  have e : m' = frD m₀ fig tf (m' (Str.ofString "turned")) (m' (Str.ofString "ring")) (m' (Str.ofString "turn")) := by
    funext y
    unfold frD
    split
    · next e => rw [e]; exact h1
    · split
      · next e => rw [e]
      · split
        · next e => rw [e]
        · split
          · next e => rw [e]
          · next a b c d => exact h3 y a b c d
  rw [e] at F
  exact ⟨rfl, h', tk, tf, _, _, _, rfl, F, N⟩
section
variable {prog : Program} {w : World} {A : Around} {E : Value → Shared → Prop} {s : Shared} {env : Env} {h₀ : Heap} {target : PySem.Expr} {body orelse : List Stmt} {Q : Flow → Shared → Prop}
theorem forDue {o : List Int} {x p : Int} {r : Addr} {t u v t0 : Tok} {m₀ : Str → Option Value} (_ho : o.length = 6)
    (hh : A.handled = none) (hr : IsRange s.heap r 0 6 1 t u v) (F : Fr h₀ env.locals s.heap m₀) (N : News h₀ env.locals s.heap []) (hE : PassesOwn (model prog w) A env E) (h1 : m₀ (Str.ofString "figure") = some (.int 0 t0))
    {tx tp : Tok} (_hx : m₀ (Str.ofString "start") = some (.int x tx)) (_hp : m₀ (Str.ofString "place") = some (.int p tp))
    (turn : ∀ (k fig : Int) t tf vd vr vt h tk I oI, 0 ≤ k → k < 6 → Fr h₀ env.locals h (frD m₀ fig tf vd vr vt) → News h₀ env.locals h [(I, oI)] →
      wpAny (model prog w) A (assign target env (.int k t)) (fun _ s₂ => wpAny (model prog w) A (execs body env) (DueEnd h₀ env.locals m₀ I oI (dueT x p fig k (o.getD k.toNat 0)) { s with heap := h, toks := tk }) E s₂) E { s with heap := h, toks := tk })
    (last : ∀ h' tk tf vd vr vt, Fr h₀ env.locals h' (frD m₀ (dueF x o p) tf vd vr vt) → News h₀ env.locals h' [] → wpAny (model prog w) A (execs orelse env) Q E { s with heap := h', toks := tk }) :
    wpAny (model prog w) A (pyIter (.ref r)) (fun it s₂ => codeAny (model prog w) A (.forLoop target it body orelse env) (fun r s' => match r with | .ok f => Q f s' | .error e => cameBackBy (model prog w) A env E e s') s₂) E s :=
  forRangeJ (n := 6) hh hr (by decide) (by rfl) F N hE (fun i m n => n = [] ∧ ∃ tf vd vr vt, m = frD m₀ (dueN x p o i) tf vd vr vt)
    ⟨rfl, t0, m₀ (Str.ofString "turned"), m₀ (Str.ofString "ring"), m₀ (Str.ofString "turn"), by
      funext y
      unfold frD
      split
      · next e => rw [e]; exact h1
      · split
        · next e => rw [e]
        · split
          · next e => rw [e]
          · split
            · next e => rw [e]
            · rfl⟩
    (fun i t m₁ n₁ h₁ tk₁ I oI hi hJ _ F₁ N₁ => by
      obtain ⟨rfl, tf, vd, vr, vt, rfl⟩ := hJ
      refine wpAny_mono (turn (i : Int) (dueN x p o i) t tf vd vr vt h₁ tk₁ I oI (Int.natCast_nonneg i) (Int.ofNat_lt.mpr hi) F₁ N₁) (fun _ s₂ y => wpAny_mono y (fun f s₃ z => ?_) fun _ _ e => e) fun _ _ e => e
      obtain ⟨rfl, h', tk, tf', vd', vr', vt', rfl, F', N'⟩ := z
      exact ⟨h', tk, _, [], rfl, F', N', fun _ hp => absurd hp List.not_mem_nil, rfl, tf', vd', vr', vt', rfl⟩)
    (fun h' tk m' n' F' N' hJ => by
      obtain ⟨rfl, tf, vd, vr, vt, rfl⟩ := hJ
      rw [dueN_eq x p _ho] at F'
      exact last h' tk tf vd vr vt F' N')
end
local macro_rules | `(tactic| walk_at "exec For") => `(tactic| (k_here; k_dflt (refine wpAny_For ?_)))
local macro_rules | `(tactic| walk_at "exec For Name Call cons nil") => `(tactic| (k_here; k_dflt (refine wpAny_For ?_)))
local macro_rules | `(tactic| walk_at "pyIter ref") => `(tactic| (k_here; (k_dflt (refine' forDue ?kz ?k1 ?kr ?k2 ?k3 ?k4 ?k5 ?k6 ?k7 ?_ ?_; (case kz => assumption); (case k1 => rfl); (case kr => assumption); (case k2 => k_asm); (case k3 => k_asm); (case k4 => passes_own); (case k5 => rfl); (case k6 => rfl); (case k7 => rfl))); (all_goals (try (intro k' fig' t' tf' vd' vr' vt' h' tk' I' oI' hk0' hk1' F' N'; unfold frD at F'; have ho0' := (AllIn.getD (by assumption) k'.toNat).1; have ho1' := (AllIn.getD (by assumption) k'.toNat).2))); (all_goals (try (intro h' tk' tf' vd' vr' vt' F' N'; unfold frD at F')))))
local macro_rules | `(tactic| walk_at "subscriptTail Name Name ref int") => `(tactic| (k_here; (k_dflt (refine' itemO ?k1 ?k2 ?k3 ?k4 ?k5 ?k6 ?_ ?k7; (case k1 => k_asm); (case k2 => k_asm); (case k3 => assumption); (case k4 => assumption); (case k5 => assumption); (case k6 => assumption); (case k7 => with_unfolding_all rfl))); intro t'))
local macro_rules | `(tactic| walk_at "subscriptTail Name Name bytes int") => `(tactic| (k_here; k_dflt (refine' itemSg ?k1 ?k2 ?_ ?k3 ?k4; (case k1 => assumption); (case k2 => assumption); (case k3 => with_unfolding_all rfl); (case k4 => (intro _; with_unfolding_all rfl)))))
local macro_rules | `(tactic| walk_at "DueEnd") => `(tactic| ((k_dflt (refine' DueEnd.intro ?k1 ?k2 ?k3 ?k4; (case k1 => assumption); (case k2 => assumption); (case k3 => rfl); (case k4 => (intro y' y1 y2 y3 y4; simp only [if_neg y1, if_neg y2, if_neg y3, if_neg y4]))))))
set_option maxHeartbeats 2000000 in
theorem due_tel {w : World} {l : Addr} {vs : List Value} {o : List Int} {x p : Int} {t u : Tok} (hi : IntsAre vs o) (hn : o.length = 6) (hb : AllIn o 6) (f1 : 0 ≤ dueF x o p) (f2 : dueF x o p < 64) :
    Tel w 178 900 9000 (fun h => h.IsList l vs.toArray)
      [.int x t, .ref l, .int p u] (fun v _ _ => ∃ t, v = .int (sg (dueF x o p)) t) := by
  unfold Tel P KK V LO; k_fill
  intro dp un gd cn cs a ccd cl outer A₀ base h₀ L m s mean mg mb Q E B F X T hk hd hu hp hret
  refine wpAny_call ?_
  k_dflt (refine' enterB ?k1 ?k2 ?k3 ?k5 ?kA ?kF ?kK ?k6 ?k7 ?k8 ?k9 ?kB ?_ ?c2 ?c3 ?c4 ?c5; (case kA => exact rfl); (case kF => exact rfl); (case kK => assumption); (case k1 => k_asm); (case k2 => k_asm); (case k3 => k_asm); (case k5 => k_asm); (case k6 => k_is); (case k7 => k_is); (case k8 => k_room); (case k9 => first | exact BindsTo.of_eq rfl | exact binds_K (by k_in) rfl (by k_is) rfl rfl rfl); (case c5 => decide); (case kB => exact locs rfl); (case c2 => exact rfl); (case c3 => exact rfl); (case c4 => exact rfl); k_whole; intro L' h' F' B' X' T' N'; (try dsimp only); (try k_fold))
  clear F X T B
  w_top off
  k_steps
  all_goals (dsimp only; exact hret _ _ _ (Fr.keep (by assumption)) ⟨_, rfl⟩)
end Mine
-- part Ord
namespace Mine
open PySem PySem.W PySem.Calls PyProof.Rows
set_option maxRecDepth 100000
local macro_rules | `(tactic| k_room) => `(tactic| (simp only [depth_deeper, depth_in1, recursionLimit]; omega))
local macro_rules | `(tactic| k_units) => `(tactic| (simp only [units_deeper, units_in1, cLine]; omega))
/-- an order of the six rings, laid as a list -/
def OrdPost : Post := fun v g h => ∃ l c vs o, v = .ref l ∧ Made g h l (listOf (List.toArray vs) c) ∧ IntsAre vs o ∧ o.length = 6 ∧ o.Nodup ∧ AllIn o 6
def frO (m₀ : Str → Option Value) (lp : Addr) (left : Int) (tl : Tok) (vz : Option Value) : Str → Option Value := fun y => if y = Str.ofString "left" then some (.int left tl) else if y = Str.ofString "pool" then some (.ref lp) else if y = Str.ofString "size" then vz else m₀ y
/-- addresses apart: the iterator, the tuple, the pool, the order, the cell -/
structure OrdOff (I T lp lo C : Addr) : Prop where
  a1 : NeA I T
  a2 : NeA I lp
  a3 : NeA I lo
  a4 : NeA I C
  a5 : NeA T lp
  a6 : NeA T lo
  a7 : NeA T C
  a8 : NeA lp lo
  a9 : NeA lp C
  b1 : NeA lo C
abbrev ordTup (tv : List Value) : Obj := { cls := .type "tuple", data := .seq tv.toArray 0 }
def OrdEnd (h₀ : Heap) (L : Addr) (m₀ : Str → Option Value) (I : Addr) (oI : Obj) (T lo C : Addr) (tv : List Value) (used : List Int) (n : Nat) (s₁ : Shared) (f : Flow) (s₂ : Shared) : Prop :=
  f = .next ∧ ∃ h' tk lp ps c us c' oc x ks ring left tl vz, s₂ = { s₁ with heap := h', toks := tk } ∧ Fr h₀ L h' (frO m₀ lp left tl vz) ∧ News h₀ L h' [(I, oI), (T, ordTup tv), (lp, listOf (List.toArray ps) c), (lo, listOf (List.toArray us) c'), (C, oc)] ∧ oc.data = .cell x ∧ IntsAre ps ks ∧ PoolIs (ring :: used) ks n ∧ IntsAre us (used.reverse ++ [ring]) ∧ 0 ≤ ring ∧ ring < 6 ∧ ring ∉ used ∧ OrdOff I T lp lo C
theorem OrdEnd.intro {h₀ : Heap} {L : Addr} {m₀ m' : Str → Option Value} {I T lo C lp : Addr} {oI oc : Obj} {tv : List Value} {used ks : List Int} {n : Nat} {s₁ : Shared} {h' : Heap} {tk : Nat} {ps us : List Value} {c c' : Nat} {x : Option Value} {ring left : Int} {t tl : Tok} {arr : Array Value} {all : List (Addr × Obj)} (F : Fr h₀ L h' m') (N : News h₀ L h' all)
    (h1 : m' (Str.ofString "left") = some (.int left tl)) (h2 : m' (Str.ofString "pool") = some (.ref lp)) (n1 : (I, oI) ∈ all) (n2 : (T, ordTup tv) ∈ all) (n3 : (lp, listOf (List.toArray ps) c) ∈ all) (n4 : (lo, listOf arr c') ∈ all) (harr : arr = List.toArray (us ++ [Value.int ring t])) (n5 : (C, oc) ∈ all) (hd : oc.data = .cell x)
    (hi : IntsAre ps ks) (hp : PoolIs (ring :: used) ks n) (hu : IntsAre us used.reverse) (r0 : 0 ≤ ring) (r1 : ring < 6) (r2 : ring ∉ used) (off : OrdOff I T lp lo C)
    (h3 : ∀ y, y ≠ Str.ofString "left" → y ≠ Str.ofString "pool" → y ≠ Str.ofString "size" → m' y = m₀ y) : OrdEnd h₀ L m₀ I oI T lo C tv used n s₁ .next { s₁ with heap := h', toks := tk } := by
  subst harr
  have e : m' = frO m₀ lp left tl (m' (Str.ofString "size")) := by
    funext y
    unfold frO
    split
    · next e => rw [e]; exact h1
    · split
      · next e => rw [e]; exact h2
      · split
        · next e => rw [e]
        · next a b c => exact h3 y a b c
  rw [e] at F
  refine ⟨rfl, h', tk, lp, ps, c, us ++ [Value.int ring t], c', oc, x, ks, ring, left, tl, _, rfl, F, fun p hp => ?_, hd, hi, hp, hu.append (.cons ring t .nil), r0, r1, r2, off⟩
  simp only [List.mem_cons, List.not_mem_nil, or_false] at hp
  rcases hp with rfl | rfl | rfl | rfl | rfl
  · exact N _ n1
  · exact N _ n2
  · exact N _ n3
  · exact N _ n4
  · exact N _ n5
theorem ord_at : ∀ {i : Nat} {k : Int}, [(6 : Int), 5, 4, 3, 2, 1][i]? = some k → ∃ n, i + n = 5 ∧ k = ((n + 1 : Nat) : Int)
  | 0, _, h => ⟨5, rfl, (Option.some.inj h).symm⟩
  | 1, _, h => ⟨4, rfl, (Option.some.inj h).symm⟩
  | 2, _, h => ⟨3, rfl, (Option.some.inj h).symm⟩
  | 3, _, h => ⟨2, rfl, (Option.some.inj h).symm⟩
  | 4, _, h => ⟨1, rfl, (Option.some.inj h).symm⟩
  | 5, _, h => ⟨0, rfl, (Option.some.inj h).symm⟩
  | _ + 6, _, h => nomatch h
/-- what stands after some turns -/
def OrdJ (h₀ : Heap) (L : Addr) (m₀ : Str → Option Value) (T lo C : Addr) (tv : List Value) (i : Nat) (m : Str → Option Value) (q : List (Addr × Obj)) : Prop :=
  ∃ lp ps c us c' oc x ks used left tl vz, q = [(T, ordTup tv), (lp, listOf (List.toArray ps) c), (lo, listOf (List.toArray us) c'), (C, oc)] ∧ m = frO m₀ lp left tl vz ∧ oc.data = .cell x ∧ IntsAre ps ks ∧ PoolIs used ks (6 - i) ∧ IntsAre us used.reverse ∧ used.length = i ∧ used.Nodup ∧ AllIn used 6 ∧ NeA T lp ∧ NeA T lo ∧ NeA T C ∧ NeA lp lo ∧ NeA lp C ∧ NeA lo C
section
variable {prog : Program} {w : World} {A : Around} {E : Value → Shared → Prop} {s : Shared} {env : Env} {h₀ : Heap} {target : PySem.Expr} {body orelse : List Stmt} {Q : Flow → Shared → Prop}
theorem forOrd {tv ps : List Value} {ks : List Int} {left : Int} {tl : Tok} {T lp lo C : Addr} {c c' : Nat} {oc : Obj} {x : Option Value} {m₀ : Str → Option Value} (hv : IntsAre tv [6, 5, 4, 3, 2, 1]) (hi : IntsAre ps ks) (hp : PoolIs [] ks 6)
    (hh : A.handled = none) (F : Fr h₀ env.locals s.heap m₀) (N : News h₀ env.locals s.heap [(T, ordTup tv), (lo, listOf #[] c'), (lp, listOf (List.toArray ps) c), (C, oc)]) (hd : oc.data = .cell x)
    (e1 : @LT.lt Nat _ lo T) (e2 : @LT.lt Nat _ lp lo) (e3 : @LT.lt Nat _ C lp) (e4 : @LT.lt Nat _ env.locals C) (hE : PassesOwn (model prog w) A env E) (h1 : m₀ (Str.ofString "left") = some (.int left tl)) (h2 : m₀ (Str.ofString "pool") = some (.ref lp))
    (turn : ∀ (n : Nat) t left tl vz lp ps c us c' oc x ks used h tk I oI, n < 6 → used.length + n = 5 → oc.data = .cell x → IntsAre ps ks → PoolIs used ks (n + 1) → IntsAre us used.reverse → OrdOff I T lp lo C → Fr h₀ env.locals h (frO m₀ lp left tl vz) → News h₀ env.locals h [(I, oI), (T, ordTup tv), (lp, listOf (List.toArray ps) c), (lo, listOf (List.toArray us) c'), (C, oc)] →
      wpAny (model prog w) A (assign target env (.int ((n + 1 : Nat) : Int) t)) (fun _ s₂ => wpAny (model prog w) A (execs body env) (OrdEnd h₀ env.locals m₀ I oI T lo C tv used n { s with heap := h, toks := tk }) E s₂) E { s with heap := h, toks := tk })
    (last : ∀ h' tk left tl vz lp us c' o oT ol oc, Fr h₀ env.locals h' (frO m₀ lp left tl vz) → News h₀ env.locals h' [(T, oT), (lp, ol), (lo, listOf (List.toArray us) c'), (C, oc)] → IntsAre us o → o.length = 6 → o.Nodup → AllIn o 6 → (@LT.lt Nat _ env.locals lo) → wpAny (model prog w) A (execs orelse env) Q E { s with heap := h', toks := tk }) :
    wpAny (model prog w) A (pyIter (.ref T)) (fun it s₂ => codeAny (model prog w) A (.forLoop target it body orelse env) (fun r s' => match r with | .ok f => Q f s' | .error e => cameBackBy (model prog w) A env E e s') s₂) E s := by
  have tvl := hv.length
  refine forTupJ (vs := tv) (c := 0) (news := [(T, ordTup tv), (lp, listOf (List.toArray ps) c), (lo, listOf #[] c'), (C, oc)]) hh (List.mem_cons_self ..) F (fun p hp => N p (by simp only [List.mem_cons, List.not_mem_nil, or_false] at hp ⊢; rcases hp with h | h | h | h <;> simp [h])) hE (OrdJ h₀ env.locals m₀ T lo C tv) ?_ ?_ ?_ ?_
  · refine ⟨lp, ps, c, [], c', oc, x, ks, [], left, tl, m₀ (Str.ofString "size"), rfl, ?_, hd, hi, hp, .nil, rfl, List.nodup_nil, fun _ h => absurd h List.not_mem_nil, (Nat.ne_of_lt (Nat.lt_trans e2 e1)).symm, (Nat.ne_of_lt e1).symm, (Nat.ne_of_lt (Nat.lt_trans e3 (Nat.lt_trans e2 e1))).symm, Nat.ne_of_lt e2, (Nat.ne_of_lt e3).symm, (Nat.ne_of_lt (Nat.lt_trans e3 e2)).symm⟩
    funext y
    unfold frO
    split
    · next e => rw [e]; exact h1
    · split
      · next e => rw [e]; exact h2
      · split
        · next e => rw [e]
        · rfl
  · rintro i m n ⟨lp, ps, c, us, c', oc, x, ks, used, left, tl, vz, rfl, -⟩
    exact List.mem_cons_self ..
  · intro i v m₁ n₁ h₁ tk₁ I oI hvi hJ hoff F₁ N₁
    obtain ⟨lp, ps, c, us, c', oc, x, ks, used, left, tl, vz, rfl, rfl, hd, hi, hp, hu, ul, un, ua, b1, b2, b3, b4, b5, b6⟩ := hJ
    obtain ⟨k, t, rfl, hk⟩ := IntsAre.at hv i v hvi
    obtain ⟨n, hn, rfl⟩ := ord_at hk
    have hoff' : ∀ p, p ∈ [(T, ordTup tv), (lp, listOf (List.toArray ps) c), (lo, listOf (List.toArray us) c'), (C, oc)] → NeA I p.1 := fun p hp => Ne.symm (hoff p hp)
    rw [show 6 - i = n + 1 by omega] at hp
    refine wpAny_mono (turn n t left tl vz lp ps c us c' oc x ks used h₁ tk₁ I oI (by omega) (by omega) hd hi hp hu ⟨hoff' _ (List.mem_cons_self ..), hoff' _ (List.mem_cons_of_mem _ (List.mem_cons_self ..)), hoff' _ (List.mem_cons_of_mem _ (List.mem_cons_of_mem _ (List.mem_cons_self ..))), hoff' _ (List.mem_cons_of_mem _ (List.mem_cons_of_mem _ (List.mem_cons_of_mem _ (List.mem_cons_self ..)))), b1, b2, b3, b4, b5, b6⟩ F₁ N₁) (fun _ s₂ y => wpAny_mono y (fun f s₃ z => ?_) fun _ _ e => e) fun _ _ e => e
    obtain ⟨rfl, h', tk, lp', ps', d, us', d', oc', x', ks', ring, left', tl', vz', rfl, F', N', hd', hi', hp', hu', r0, r1, r2, off⟩ := z
    refine ⟨h', tk, _, [(T, ordTup tv), (lp', listOf (List.toArray ps') d), (lo, listOf (List.toArray us') d'), (C, oc')], rfl, F', N', fun p hp => ?_, lp', ps', d, us', d', oc', x', ks', ring :: used, left', tl', vz', rfl, rfl, hd', hi', ?_, ?_, by rw [List.length_cons, ul], List.nodup_cons.mpr ⟨r2, un⟩, fun k hk => ?_, off.a5, off.a6, off.a7, off.a8, off.a9, off.b1⟩
    · simp only [List.mem_cons, List.not_mem_nil, or_false] at hp
      rcases hp with rfl | rfl | rfl | rfl
      · exact Ne.symm off.a1
      · exact Ne.symm off.a2
      · exact Ne.symm off.a3
      · exact Ne.symm off.a4
    · rw [show 6 - (i + 1) = n by omega]; exact hp'
    · rw [List.reverse_cons]; exact hu'
    · rcases List.mem_cons.mp hk with rfl | hk
      · exact ⟨r0, r1⟩
      · exact ua k hk
  · intro h' tk m' n' F' N' hJ
    obtain ⟨lp, ps, c, us, c', oc, x, ks, used, left, tl, vz, rfl, rfl, hd, hi, hp, hu, ul, un, ua, -⟩ := hJ
    rw [tvl] at ul
    exact last h' tk left tl vz lp us c' used.reverse _ _ oc F' N' hu (by rw [List.length_reverse, ul]; rfl) ((List.reverse_perm used).nodup_iff.mpr un) (fun k hk => ua k (List.mem_reverse.mp hk)) (Nat.lt_trans e4 (Nat.lt_trans e3 e2))
theorem sizeOrd {us : List Value} {used : List Int} {n : Nat} (hu : IntsAre us used.reverse) (h : used.length + n = 5) : us.toArray.size ≤ sizeLine := by
  have e := hu.length
  rw [List.length_reverse] at e
  rw [PySem.sizeLine_eq, List.size_toArray]
  omega
theorem modSz {a : Int} {n : Nat} {t u : Tok} {Qv : Value → Shared → Prop} (h : Qv (.int (a.fmod ((n + 1 : Nat) : Int)) s.toks) { s with toks := s.toks + 1 }) :
    wpAny (model prog w) A (binaryOp .Mod (.int a t) (.int ((n + 1 : Nat) : Int) u)) Qv E s := mod_int' (by omega) h
theorem fdivSz {a : Int} {n : Nat} {t u : Tok} {Qv : Value → Shared → Prop} (hn : n < 6) (h : Qv (.int (a.fdiv ((n + 1 : Nat) : Int)) s.toks) { s with toks := s.toks + 1 }) :
    wpAny (model prog w) A (binaryOp .FloorDiv (.int a t) (.int ((n + 1 : Nat) : Int) u)) Qv E s :=
  floordiv_int (by omega) h (Or.inl (PyProof.noPylong_of_log2 (by
    have e : (((n + 1 : Nat) : Int)).natAbs = n + 1 := by omega
    rw [e]
    exact Nat.lt_of_le_of_lt (Nat.log2_le_self _) (by omega))))
end
local macro_rules | `(tactic| walk_at "call type:list") => `(tactic| (k_here; k_dflt (refine' listRangeK (n := 6) ?k1 ?k2 ?k3 ?k4 ?k5 ?k6 ?k7 ?_; (case k1 => rfl); (case k2 => k_asm); (case k3 => k_asm); (case k4 => assumption); (case k5 => decide); (case k6 => rfl); (case k7 => decide); k_whole); intro d' h' tk' vs' c' F' N' l1 l2 hi'; (try k_lt l1); have hp0 : PoolIs [] (rangeKs 0 6) 6 := ⟨by decide, by decide, by decide⟩))
local macro_rules | `(tactic| walk_at "call builtin:list.append") => `(tactic| (k_here; (k_dflt (refine' append_K ?k1 ?k2 ?k3 ?_ ?z; (case k1 => k_asm); (case k2 => k_asm); (case k3 => k_upd); (case z => exact sizeOrd (by assumption) (by assumption)); k_whole)); intro h' F' N'))
local macro_rules | `(tactic| walk_at "exec For") => `(tactic| (k_here; k_dflt (refine wpAny_For ?_)))
local macro_rules | `(tactic| walk_at "exec For Name Tuple cons nil") => `(tactic| (k_here; k_dflt (refine wpAny_For ?_)))
local macro_rules | `(tactic| walk_at "exec For Name Constant cons nil") => `(tactic| (k_here; k_dflt (refine wpAny_For ?_)))
local macro_rules | `(tactic| walk_at "pyIter ref") => `(tactic| (k_here; (k_dflt (refine' forOrd ?kv ?kz ?ky ?k1 ?k2 ?k3 ?kd ?ke ?kf ?kg ?kh ?k4 ?k5 ?k6 ?_ ?_; (case k1 => rfl); (case k2 => k_asm); (case k3 => k_asm); (case kv => repeat constructor); (case kz => assumption); (case ky => assumption); (case kd => assumption); (case ke => omega); (case kf => omega); (case kg => omega); (case k4 => passes_own); (case k5 => rfl); (case k6 => rfl); (case kh => exact Nat.lt_succ_self _))); (all_goals (try (intro n' t' left' tl' vz' lp' ps' c' us' d' oc' x' ks' used' h' tk' I' oI' hn' hun' hd' hI' hp' hu' off' F' N'; unfold frO at F'; obtain ⟨z1, z2, z3, z4, z5, z6, z7, z8, z9, z10⟩ := off'))); (all_goals (try (intro h' tk' left' tl' vz' lp' us' c' o' oT' ol' oc' F' N' hI' hl' hn' ha' hlt'; unfold frO at F')))))
local macro_rules | `(tactic| walk_at "binaryOp Mod int int") => `(tactic| (k_here; (with_reducible refine modSz ?_)))
local macro_rules | `(tactic| walk_at "binaryOp FloorDiv int int") => `(tactic| (k_here; (with_reducible refine fdivSz (by assumption) ?_)))
local macro_rules | `(tactic| walk_at "subscriptTail Name BinOp ref int") => `(tactic| (k_here; (k_dflt (refine' itemPool ?k1 ?k2 ?k3 ?k4 ?k5 ?k6 ?k7 ?_ ?k8; (case k1 => k_asm); (case k2 => k_mem); (case k3 => assumption); (case k4 => assumption); (case k5 => exact fmod_lo _ (by omega)); (case k6 => exact fmod_hi _ (by omega)); (case k7 => omega); (case k8 => with_unfolding_all rfl); k_whole)); intro t' r' r1' r2' r3' r4'))
local macro_rules | `(tactic| walk_at "exec Assign cons ListComp") => `(tactic| (k_here; k_dflt (refine LCt.Assign_ListComp_T (F₀ := by k_asm) (by rfl) (by with_unfolding_all rfl) (by with_unfolding_all rfl) (by decide) (by rfl) (by decide) (by rfl) (by rfl) (by rfl) ?_); k_dflt lct_toSrc))
local macro_rules | `(tactic| walk_at "CompSrcT") => `(tactic| (k_here; k_dflt (refine LCt.CompSrcT.ledger (by rfl) (by k_asm) (by k_asm) (by k_mem) (by exact sizePool (by assumption) (by assumption) (by omega)) ?_; intro g'; refine' poolRest (by assumption) (by assumption) (by assumption) (fun k' t' I' oI' C' oC' D' m' ys' l' h' tk' E' hk' hI' hC' hx' F' N' off' ne' hMark' => ?_) (fun ys' ks' hi' hp' => ?_))))
local macro_rules | `(tactic| walk_at "CompEnd") => `(tactic| (k_here; refine LCg.CompEnd.intro (by assumption) (by assumption) _ (fun p hp => hp) (by assumption) (by lcg_src) ?_))
local macro_rules | `(tactic| walk_at "KCiEl") => `(tactic| (k_dflt (refine kci_el ?kce rfl rfl; (case kce => exact if_neg (by first | assumption | (simp only [beq_iff_eq, bne_iff_ne, ne_eq] at *; assumption))))))
local macro_rules | `(tactic| walk_at "KCiNo") => `(tactic| (k_dflt (refine kci_no ?kce rfl; (case kce => exact if_pos (by first | assumption | (simp only [beq_iff_eq, bne_eq_false_iff_eq] at *; assumption))))))
local macro_rules | `(tactic| walk_at "FinA") => `(tactic| (unfold LCg.FinA; intro d' h' tk' F' N' off'; replace off' := offH_of off'; simp only [OffH, and_true] at off'; repeat (obtain ⟨o1', off'⟩ := off')))
local macro_rules | `(tactic| k_ne) => `(tactic| (refine neN ?_; (try dsimp only); first | exact NeA.out (by assumption) | exact NeA.symm (by assumption) | omega))
local macro_rules | `(tactic| walk_at "OrdEnd") => `(tactic| (((k_dflt (refine' OrdEnd.intro ?k1 ?k2 ?k3 ?k4 ?k5 ?k6 ?k7 ?k8 ?kj ?k9 ?ka ?kb ?kc ?kd ?ke ?kf ?kg ?kh ?ki; (case k1 => assumption); (case k2 => assumption); (case k3 => rfl); (case k4 => rfl); (case k5 => k_mem); (case k6 => k_mem); (case k7 => k_mem); (case k8 => k_mem); (case k9 => k_mem); (case kj => first | (simp only [List.push_toArray]; rfl) | rfl); (case ka => assumption); (case kb => assumption); (case kc => assumption); (case kd => assumption); (case ke => assumption); (case kf => assumption); (case kg => assumption); (case kh => (constructor <;> first | assumption | exact NeA.symm (by assumption))); (case ki => (intro y' y1 y2 y3; simp only [if_neg y1, if_neg y2, if_neg y3])))))))
set_option maxHeartbeats 2000000 in
theorem order_tel {w : World} {n : Int} {t : Tok} :
    Tel w 159 900 9000 (fun _ => True)
      [Value.int n t] (OrdPost) := by
  unfold Tel P KK V LO; k_fill
  intro dp un gd cn cs a ccd cl outer A₀ base h₀ L m s mean mg mb Q E B F X T hk hd hu hp hret
  refine wpAny_call ?_
  k_dflt (refine' enterBC ?k1 ?k2 ?k3 ?k5 ?kA ?kF ?kK ?k6 ?k7 ?k8 ?k9 ?kB ?kD ?_ ?c2 ?c3 ?c4; (case kA => exact rfl); (case kF => exact rfl); (case kK => assumption); (case k1 => k_asm); (case k2 => k_asm); (case k3 => k_asm); (case k5 => k_asm); (case k6 => k_is); (case k7 => k_is); (case k8 => k_room); (case k9 => first | exact BindsTo.of_eq rfl | exact binds_K (by k_in) rfl (by k_is) rfl rfl rfl); (case kB => exact rfl); (case kD => decide +kernel); (case c2 => exact rfl); (case c3 => exact rfl); (case c4 => exact rfl); k_whole; intro L' h' tk' cells' F' N' Y' B' X' T'; k_cells Y'; (try simp only [List.cons_append, List.nil_append, List.append_nil] at N'); (try dsimp only); (try k_fold))
  clear F X T B
  w_top off
  k_steps
  all_goals try (dsimp only)
  all_goals try (exact hret _ _ _ (Fr.keep (by assumption)) ⟨_, _, _, _, rfl, made_of (L := L') (by assumption) (by assumption) (by k_mem) (by assumption), by assumption, by assumption, by assumption, by assumption⟩)
end Mine
-- part Row
namespace Mine
open PySem PySem.W PySem.Calls PyProof.Rows
set_option maxRecDepth 100000
local macro_rules | `(tactic| k_room) => `(tactic| (simp only [depth_deeper, depth_in1, recursionLimit]; omega))
local macro_rules | `(tactic| k_units) => `(tactic| (simp only [units_deeper, units_in1, cLine]; omega))
/-- the row of the figures: for each ring of the order doubled, by itself turned about with that ring turned -/
def rowF (n : Int) (order : List Int) : List Int := order.foldl (fun ns r => ns ++ ns.reverse.map (fun k => Builtin.bitXor k (1 * 2 ^ r.toNat))) [n]
def rowS (ns : List Int) (r : Int) : List Int := ns ++ ns.reverse.map (fun k => Builtin.bitXor k (1 * 2 ^ r.toNat))
theorem rowF_take {n : Int} {o : List Int} {i : Nat} {r : Int} (h : o[i]? = some r) : rowF n (o.take (i + 1)) = rowS (rowF n (o.take i)) r := by
  rw [List.take_add_one, h]
  unfold rowF
  rw [Option.toList, List.foldl_append]
  rfl
theorem rowF_len (n : Int) (o : List Int) : (rowF n o).length = 2 ^ o.length := by
  unfold rowF
  suffices h : ∀ (o : List Int) (ns : List Int), (o.foldl (fun ns r => ns ++ ns.reverse.map (fun k => Builtin.bitXor k (1 * 2 ^ r.toNat))) ns).length = ns.length * 2 ^ o.length by
    rw [h, List.length_singleton, Nat.one_mul]
  intro o
  induction o with
  | nil => intro ns; simp
  | cons r o ih =>
    intro ns
    rw [List.foldl_cons, ih, List.length_append, List.length_map, List.length_reverse, List.length_cons, Nat.pow_succ]
    rw [← Nat.two_mul, Nat.mul_comm 2, Nat.mul_assoc, Nat.mul_comm 2]
def RowPost (ns : List Int) : Post := fun v g h => ∃ l c vs, v = .ref l ∧ Made g h l (listOf vs.toArray c) ∧ IntsAre vs ns
def frR (m₀ : Str → Option Value) (lr : Addr) : Str → Option Value := fun y => if y = Str.ofString "row" then some (.ref lr) else m₀ y
def RowEnd (h₀ : Heap) (L : Addr) (m₀ : Str → Option Value) (I : Addr) (oI : Obj) (C : Addr) (ns : List Int) (s₁ : Shared) (f : Flow) (s₂ : Shared) : Prop :=
  f = .next ∧ ∃ h' tk lr vs c oc x, s₂ = { s₁ with heap := h', toks := tk } ∧ Fr h₀ L h' (frR m₀ lr) ∧ News h₀ L h' [(I, oI), (lr, listOf (List.toArray vs) c), (C, oc)] ∧ oc.data = .cell x ∧ IntsAre vs ns ∧ NeA I lr ∧ NeA C lr ∧ (@LT.lt Nat _ L lr)
theorem RowEnd.intro {h₀ : Heap} {L : Addr} {m₀ m' : Str → Option Value} {I C : Addr} {oI oc : Obj} {ns : List Int} {s₁ : Shared} {h' : Heap} {tk : Nat} {lr : Addr} {vs : List Value} {c : Nat} {x : Option Value} {all : List (Addr × Obj)} (F : Fr h₀ L h' m') (N : News h₀ L h' all)
    (h1 : m' (Str.ofString "row") = some (.ref lr)) (n1 : (I, oI) ∈ all) (n2 : (lr, listOf (List.toArray vs) c) ∈ all) (n3 : (C, oc) ∈ all) (hd : oc.data = .cell x) (hi : IntsAre vs ns) (e1 : @LT.lt Nat _ I lr) (e2 : @LT.lt Nat _ C lr) (e3 : @LT.lt Nat _ L C)
    (h3 : ∀ y, y ≠ Str.ofString "row" → m' y = m₀ y) : RowEnd h₀ L m₀ I oI C ns s₁ .next { s₁ with heap := h', toks := tk } := by
  have e : m' = frR m₀ lr := by
    funext y
    unfold frR
    split
    · next e => rw [e]; exact h1
    · next a => exact h3 y a
  rw [e] at F
  refine ⟨rfl, h', tk, lr, vs, c, oc, x, rfl, F, fun p hp => ?_, hd, hi, Nat.ne_of_lt e1, Nat.ne_of_lt e2, Nat.lt_trans e3 e2⟩
  rcases List.mem_cons.mp hp with rfl | hp
  · exact N _ n1
  · rcases List.mem_cons.mp hp with rfl | hp
    · exact N _ n2
    · rw [List.mem_singleton.mp hp]; exact N _ n3
section
variable {prog : Program} {w : World} {A : Around} {E : Value → Shared → Prop} {s : Shared} {env : Env} {h₀ : Heap} {target : PySem.Expr} {body orelse : List Stmt} {Q : Flow → Shared → Prop}
theorem forRow {vs : List Value} {o : List Int} {n : Int} {t : Tok} {ax l C : Addr} {c0 : Nat} {oc : Obj} {x : Option Value} {m₀ : Str → Option Value} (hi : IntsAre vs o) (hn : o.length = 6) (hb : AllIn o 6)
    (hh : A.handled = none) (hl : h₀.IsList ax vs.toArray) (F : Fr h₀ env.locals s.heap m₀) (N : News h₀ env.locals s.heap [(l, listOf #[Value.int n t] c0), (C, oc)]) (hd : oc.data = .cell x) (e2 : @LT.lt Nat _ C l) (e3 : @LT.lt Nat _ env.locals C) (hE : PassesOwn (model prog w) A env E) (h1 : m₀ (Str.ofString "row") = some (.ref l))
    (turn : ∀ (r : Int) (ns : List Int) t lr vs c oc x h tk I oI, 0 ≤ r → r < 6 → IntsAre vs ns → ns.length ≤ 32 → oc.data = .cell x → NeA I lr → NeA C lr → NeA C I → Fr h₀ env.locals h (frR m₀ lr) → News h₀ env.locals h [(I, oI), (lr, listOf (List.toArray vs) c), (C, oc)] →
      wpAny (model prog w) A (assign target env (.int r t)) (fun _ s₂ => wpAny (model prog w) A (execs body env) (RowEnd h₀ env.locals m₀ I oI C (rowS ns r) { s with heap := h, toks := tk }) E s₂) E { s with heap := h, toks := tk })
    (last : ∀ h' tk lr vs c oc, Fr h₀ env.locals h' (frR m₀ lr) → News h₀ env.locals h' [(lr, listOf (List.toArray vs) c), (C, oc)] → IntsAre vs (rowF n o) → (@LT.lt Nat _ env.locals lr) → wpAny (model prog w) A (execs orelse env) Q E { s with heap := h', toks := tk }) :
    wpAny (model prog w) A (pyIter (.ref ax)) (fun it s₂ => codeAny (model prog w) A (.forLoop target it body orelse env) (fun r s' => match r with | .ok f => Q f s' | .error e => cameBackBy (model prog w) A env E e s') s₂) E s :=
  forListJ hh hl F N hE (fun i m q => ∃ lr vs c oc x, q = [(lr, listOf (List.toArray vs) c), (C, oc)] ∧ m = frR m₀ lr ∧ oc.data = .cell x ∧ IntsAre vs (rowF n (o.take i)) ∧ NeA C lr ∧ (@LT.lt Nat _ env.locals lr))
    ⟨l, [.int n t], c0, oc, x, rfl, by
      funext y
      unfold frR
      split
      · next e => rw [e]; exact h1
      · rfl, hd, .cons n t .nil, Nat.ne_of_lt e2, Nat.lt_trans e3 e2⟩
    (fun i v m₁ n₁ h₁ tk₁ I oI hv hJ hoff F₁ N₁ => by
      obtain ⟨lr, us, c, oc, x, rfl, rfl, hd, hu, ne, lt⟩ := hJ
      obtain ⟨r, tr, rfl, hr⟩ := IntsAre.at hi i v hv
      have hr' := hb r (List.mem_of_getElem? hr)
      have hlt : i < 6 := by
        have := (List.getElem?_eq_some_iff.mp hr).1
        omega
      have hlen : (rowF n (o.take i)).length ≤ 32 := by
        rw [rowF_len, List.length_take]
        exact Nat.le_trans (Nat.pow_le_pow_right (by omega) (show min i o.length ≤ 5 by omega)) (by decide)
      have o1 := hoff _ (List.mem_cons_self ..)
      have o2 := hoff _ (List.mem_cons_of_mem _ (List.mem_cons_self ..))
      refine wpAny_mono (turn r _ tr lr us c oc x h₁ tk₁ I oI hr'.1 hr'.2 hu hlen hd (Ne.symm o1) ne o2 F₁ N₁) (fun _ s₂ y => wpAny_mono y (fun f s₃ z => ?_) fun _ _ e => e) fun _ _ e => e
      obtain ⟨rfl, h', tk, lr', us', c', oc', x', rfl, F', N', hd', hu', ne1, ne2, lt'⟩ := z
      refine ⟨h', tk, _, [(lr', listOf (List.toArray us') c'), (C, oc')], rfl, F', N', fun p hp => ?_, lr', us', c', oc', x', rfl, rfl, hd', ?_, ne2, lt'⟩
      · rcases List.mem_cons.mp hp with rfl | hp
        · exact Ne.symm ne1
        · rw [List.mem_singleton.mp hp]; exact o2
      · rw [rowF_take hr]; exact hu')
    (fun h' tk m' n' F' N' hJ => by
      obtain ⟨lr, us, c, oc, x, rfl, rfl, hd, hu, ne, lt⟩ := hJ
      rw [List.take_of_length_le (by rw [hi.length]; exact Nat.le_refl _)] at hu
      exact last h' tk lr us c oc F' N' hu lt)
end
local macro_rules | `(tactic| k_ne) => `(tactic| (refine neN ?_; (try dsimp only); first | exact NeA.out (by assumption) | exact NeA.symm (by assumption) | omega))
local macro_rules | `(tactic| walk_at "exec For Name Name cons nil") => `(tactic| (k_here; k_dflt (refine wpAny_For ?_)))
local macro_rules | `(tactic| walk_at "pyIter ref") => `(tactic| (k_here; (k_dflt (refine' forRow ?kz ?ky ?kx ?k1 ?kr ?k2 ?k3 ?kd ?ke ?kf ?k4 ?k5 ?_ ?_; (case kz => assumption); (case ky => assumption); (case kx => assumption); (case k1 => rfl); (case kr => k_asm); (case k2 => k_asm); (case k3 => k_asm); (case kd => assumption); (case ke => omega); (case kf => exact Nat.lt_succ_self _); (case k4 => passes_own); (case k5 => rfl))); (all_goals (try (intro r' ns' t' lr' vs' c' oc' x' h' tk' I' oI' hk0' hk1' hI' hlen' hd' ne1' ne2' ne3' F' N'; unfold frR at F'))); (all_goals (try (intro h' tk' lr' vs' c' oc' F' N' hI' hlt'; unfold frR at F')))))
local macro_rules | `(tactic| walk_at "call builtin:hasattr") => `(tactic| (k_here; k_dflt (refine' hasListK ?k1 ?k2 ?k3 ?_; (case k1 => k_asm); (case k2 => k_asm); (case k3 => k_mem); k_whole); intro h' F' N'))
local macro_rules | `(tactic| walk_at "FinA") => `(tactic| (unfold LCg.FinA; intro d' h' tk' F' N' off'; replace off' := offH_of off'; simp only [OffH, and_true] at off'; repeat (obtain ⟨o1', off'⟩ := off')))
local macro_rules | `(tactic| walk_at "FinE") => `(tactic| (unfold LCg.FinE; intro d' h' tk' F' N' off'; replace off' := offH_of off'; simp only [OffH, and_true] at off'; repeat (obtain ⟨o1', off'⟩ := off')))
local macro_rules | `(tactic| walk_at "RowEnd") => `(tactic| (((k_dflt (refine' RowEnd.intro ?k1 ?k2 ?k3 ?k4 ?k5 ?k6 ?k7 ?k8 ?k9 ?ka ?kb ?kc; (case k1 => assumption); (case k2 => assumption); (case k3 => rfl); (case k4 => k_mem); (case k5 => k_mem); (case k6 => k_mem); (case k7 => assumption); (case k8 => assumption); (case k9 => omega); (case ka => omega); (case kb => exact Nat.lt_succ_self _); (case kc => (intro y' y1; simp only [if_neg y1])))))))
set_option maxHeartbeats 2000000 in
theorem row_tel {w : World} {l : Addr} {vs : List Value} {o : List Int} {n : Int} {t : Tok} (hi : IntsAre vs o) (hn : o.length = 6) (hb : AllIn o 6) :
    Tel w 164 900 9000 (fun h => h.IsList l vs.toArray)
      [.int n t, .ref l] (RowPost (rowF n o)) := by
  unfold Tel P KK V LO; k_fill
  intro dp un gd cn cs a ccd cl outer A₀ base h₀ L m s mean mg mb Q E B F X T hk hd hu hp hret
  refine wpAny_call ?_
  k_dflt (refine' enterBC ?k1 ?k2 ?k3 ?k5 ?kA ?kF ?kK ?k6 ?k7 ?k8 ?k9 ?kB ?kD ?_ ?c2 ?c3 ?c4; (case kA => exact rfl); (case kF => exact rfl); (case kK => assumption); (case k1 => k_asm); (case k2 => k_asm); (case k3 => k_asm); (case k5 => k_asm); (case k6 => k_is); (case k7 => k_is); (case k8 => k_room); (case k9 => first | exact BindsTo.of_eq rfl | exact binds_K (by k_in) rfl (by k_is) rfl rfl rfl); (case kB => exact rfl); (case kD => decide +kernel); (case c2 => exact rfl); (case c3 => exact rfl); (case c4 => exact rfl); k_whole; intro L' h' tk' cells' F' N' Y' B' X' T'; k_cells Y'; (try simp only [List.cons_append, List.nil_append, List.append_nil] at N'); (try dsimp only); (try k_fold))
  clear F X T B
  w_top off
  k_steps
  dsimp only
  exact hret _ _ _ (Fr.keep (by assumption)) ⟨_, _, _, rfl, made_of (L := L') (by assumption) (by assumption) (by k_mem) (by assumption), by assumption⟩
end Mine
-- part Mov
namespace Mine
open PySem PySem.W PySem.Calls PyProof.Rows
set_option maxRecDepth 100000
local macro_rules | `(tactic| k_room) => `(tactic| (simp only [depth_deeper, depth_in1, recursionLimit]; omega))
local macro_rules | `(tactic| k_units) => `(tactic| (simp only [units_deeper, units_in1, cLine]; omega))
local macro_rules | `(tactic| walk_at "binaryOp Pow int int") => `(tactic| (k_here; (have hb9 := AllIn.at (by assumption) (by assumption)); (with_reducible refine pow_int_small ?kb1 ?kb2 ?kb3 ?_); (case kb1 => omega); (case kb2 => omega); (case kb3 => decide)))
/-- the moves that the rings on tell -/
def movF (ns : List Int) : Int := ns.foldl (fun m t => 2 ^ (t + 1).toNat - 1 - m) 0
theorem movF_eq (ns : List Int) : ∀ a : Int, (List.foldl (fun (σ : Int × Unit) (n : Int) => (2 ^ (n + 1).toNat - 1 - σ.fst, ())) (a, ()) ns).fst = ns.foldl (fun m t => 2 ^ (t + 1).toNat - 1 - m) a := by
  induction ns with
  | nil => intro a; rfl
  | cons n r ih => intro a; rw [List.foldl_cons, List.foldl_cons]; exact ih _
set_option maxHeartbeats 8000000 in
theorem mov_tel {w : World} {l : Addr} {vs : List Value} {ns : List Int} (hi : IntsAre vs ns) (hb : AllIn ns 6) :
    Tel w 190 900 9000 (fun h => h.IsList l vs.toArray)
      [Value.ref l] (fun v _ _ => ∃ t, v = .int (movF ns) t) := by
  unfold Tel P KK V LO; k_fill
  intro dp un gd cn cs a ccd cl outer A₀ base h₀ L m s mean mg mb Q E B F X T hk hd hu hp hret
  refine wpAny_call ?_
  k_dflt (refine' enterB ?k1 ?k2 ?k3 ?k5 ?kA ?kF ?kK ?k6 ?k7 ?k8 ?k9 ?kB ?_ ?c2 ?c3 ?c4 ?c5; (case kA => exact rfl); (case kF => exact rfl); (case kK => assumption); (case k1 => k_asm); (case k2 => k_asm); (case k3 => k_asm); (case k5 => k_asm); (case k6 => k_is); (case k7 => k_is); (case k8 => k_room); (case k9 => first | exact BindsTo.of_eq rfl | exact binds_K (by k_in) rfl (by k_is) rfl rfl rfl); (case c5 => decide); (case kB => exact locs rfl); (case c2 => exact rfl); (case c3 => exact rfl); (case c4 => exact rfl); k_whole; intro L' h' F' B' X' T' N'; (try dsimp only); (try k_fold))
  clear F X T B
  w_top off
  k_steps
  dsimp only
  exact hret _ _ _ (Fr.keep (by assumption)) ⟨_, congrArg (fun x => Value.int x _) (movF_eq ns 0)⟩
end Mine
-- part Idx
namespace Mine
open PySem PySem.W PySem.Calls PyProof.Rows
set_option maxRecDepth 100000
local macro_rules | `(tactic| k_room) => `(tactic| (simp only [depth_deeper, depth_in1, recursionLimit]; omega))
local macro_rules | `(tactic| k_units) => `(tactic| (simp only [units_deeper, units_in1, cLine]; omega))
/-- nothing was found so far -/
structure IdxJ (b : Array UInt8) (n : Int) (m₀ : Str → Option Value) (i : Nat) (m : Str → Option Value) : Prop where
  no : ∀ j c, j < i → b[j]? = some c → (c.toNat : Int) ≠ n
  fr : ∃ vi vj, m = fun y => if y = Str.ofString "j" then vj else if y = Str.ofString "i" then vi else m₀ y
theorem IdxJ.start (b : Array UInt8) (n : Int) (m₀ : Str → Option Value) : IdxJ b n m₀ 0 m₀ := ⟨fun _ _ h => absurd h (Nat.not_lt_zero _), m₀ (Str.ofString "i"), m₀ (Str.ofString "j"), by
  funext y
  by_cases h : y = Str.ofString "j"
  · rw [if_pos h, h]
  · rw [if_neg h]
    by_cases h2 : y = Str.ofString "i"
    · rw [if_pos h2, h2]
    · rw [if_neg h2]⟩
theorem IdxJ.next {b : Array UInt8} {n : Int} {m₀ : Str → Option Value} {i : Nat} {c : UInt8} {ai aj vi vj : Option Value} (h : ∀ j c, j < i → b[j]? = some c → (c.toNat : Int) ≠ n) (hx : b[i]? = some c) (hne : (c.toNat : Int) ≠ n) :
    IdxJ b n m₀ (i + 1) (fun y => if y = Str.ofString "j" then aj else if y = Str.ofString "i" then ai else if y = Str.ofString "j" then vj else if y = Str.ofString "i" then vi else m₀ y) := ⟨fun j d hj hd => by
  rcases Nat.lt_succ_iff_lt_or_eq.mp hj with q | q
  · exact h j d q hd
  · subst q
    rw [hx] at hd
    cases hd
    exact hne, ai, aj, by
  funext y
  by_cases h : y = Str.ofString "j"
  · simp only [if_pos h]
  · by_cases h2 : y = Str.ofString "i"
    · simp only [if_neg h, if_pos h2]
    · simp only [if_neg h, if_neg h2]⟩
theorem u8lt (c : UInt8) : ((c.toNat : Nat) : Int) < 256 := by have := c.toNat_lt; omega
theorem u8nn (c : UInt8) : 0 ≤ ((c.toNat : Nat) : Int) := by omega
section
variable {prog : Program} {w : World} {A : Around} {E : Value → Shared → Prop} {s : Shared} {env : Env} {h₀ : Heap} {body orelse : List Stmt} {Q : Flow → Shared → Prop}
theorem forIdx {elts : List PySem.Expr} {k : Nat} {pos : Pos} {b : Array UInt8} {t u : Tok} {n : Int} {m₀ : Str → Option Value} {news : List (Addr × Obj)}
    (hh : A.handled = none) (ht : u + 1 ≤ s.toks) (F : Fr h₀ env.locals s.heap m₀) (N : News h₀ env.locals s.heap news) (hE : PassesOwn (model prog w) A env E) (_hb : m₀ (Str.ofString "b") = some (.int n u))
    (turn : ∀ i c v T tt m₁ h₁ tk₁ I oI oe, b[i]? = some c → IdxJ b n m₀ i m₁ → u + 1 ≤ v → (∀ p ∈ news, p.1 < I) → IsTup h₁ T #[.int (i : Int) tt, .int (c.toNat : Int) v] → Fr h₀ env.locals h₁ m₁ → News h₀ env.locals h₁ ([(I + 1, oe), (I, oI)] ++ news) →
      wpAny (model prog w) A (assign (.Tuple elts k pos) env (.ref T)) (fun _ s₂ => wpAny (model prog w) A (execs body env) (EnumEnd h₀ env.locals [(I + 1, oe), (I, oI)] news (IdxJ b n m₀ (i + 1)) { s with heap := h₁, toks := tk₁ } Q) E s₂) E { s with heap := h₁, toks := tk₁ })
    (last : ∀ h' tk m', Fr h₀ env.locals h' m' → News h₀ env.locals h' news → IdxJ b n m₀ b.size m' → wpAny (model prog w) A (execs orelse env) Q E { s with heap := h', toks := tk }) :
    wpAny (model prog w) A (call (.type "enumerate") [.bytes b t]) (fun xv s₁ => wpAny (model prog w) A (pyIter xv) (fun it s₂ => codeAny (model prog w) A (.forLoop (.Tuple elts k pos) it body orelse env)
      (fun r s' => match r with | .ok f => Q f s' | .error e => cameBackBy (model prog w) A env E e s') s₂) E s₁) E s :=
  forEnumT hh ht F N hE (IdxJ b n m₀) (IdxJ.start b n m₀) (fun i c v T tt m₁ h₁ tk₁ I oI oe a1 a2 a3 _ a5 => turn i c v T tt m₁ h₁ tk₁ I oI oe a1 a2 a3 a5) fun h' tk m' a1 a2 a3 _ => last h' tk m' a1 a2 a3
end
theorem EnumEnd.intro {h₀ : Heap} {L : Addr} {its news : List (Addr × Obj)} {J : (Str → Option Value) → Prop} {s₁ : Shared} {Q : Flow → Shared → Prop} {h' : Heap} {tk : Nat} {m' : Str → Option Value} (F : Fr h₀ L h' m') (N : News h₀ L h' (its ++ news)) (hJ : J m') :
    EnumEnd h₀ L its news J s₁ Q .next { s₁ with heap := h', toks := tk } := ⟨h', tk, m', rfl, F, N, hJ⟩
/-- the first place of a number in the bytes -/
def FirstAt (b : Array UInt8) (n : Int) (i : Nat) : Prop := (∃ c, b[i]? = some c ∧ (c.toNat : Int) = n) ∧ ∀ j c, j < i → b[j]? = some c → (c.toNat : Int) ≠ n
theorem idx_absurd {b : Array UInt8} {n : Int} (hn : ∃ (i : Nat) (c : UInt8), b[i]? = some c ∧ (c.toNat : Int) = n) (h : ∀ j c, j < b.size → b[j]? = some c → (c.toNat : Int) ≠ n) : False := by
  obtain ⟨i, c, h1, h2⟩ := hn
  exact h i c (Array.getElem?_eq_some_iff.mp h1).1 h1 h2
local macro_rules | `(tactic| walk_at "execs cons") => `(tactic| (k_here; k_dflt (refine gentoksN (TokAt.add (by assumption)) ?_); intro tk' htk'))
local macro_rules | `(tactic| walk_at "exec For") => `(tactic| (k_here; k_dflt (refine wpAny_For ?_)))
local macro_rules | `(tactic| walk_at "call type:enumerate") => `(tactic| (k_here; (k_dflt (refine' forIdx ?k1 ?k0 ?k2 ?k3 ?k4 ?k5 ?_ ?_; (case k1 => rfl); (case k0 => exact TokAt.out (by assumption)); (case k2 => k_asm); (case k3 => k_asm); (case k4 => passes_own); (case k5 => rfl))); (all_goals (try (intro i' c' v' T' tt' m' h' tk' I' oI' oe' hc' hJ' hv' lI' hT' F' N'; obtain ⟨hJ1', vi', vj', hm'⟩ := hJ'; subst hm'; (try simp only [List.cons_append, List.nil_append] at N')))); (all_goals (try (intro h' tk' m' F' N' hJ'; obtain ⟨hJ1', vi', vj', hm'⟩ := hJ'; subst hm')))))
local macro_rules | `(tactic| walk_at "compareOp Is int int") => `(tactic| (k_here; (k_dflt (refine isSmallT (by assumption) (by assumption) ?_))))
local macro_rules | `(tactic| walk_at "EnumEnd") => `(tactic| ((k_dflt (refine' EnumEnd.intro ?k1 ?k2 (IdxJ.next ?k3 ?k4 ?k5); (case k1 => assumption); (case k2 => assumption); (case k3 => assumption); (case k4 => assumption); (case k5 => (intro hq; simp_all))))))
set_option maxHeartbeats 8000000 in
theorem idx_tel {w : World} {b : Array UInt8} {t : Tok} {n : Int} {u : Tok} (hu1 : 1 ≤ u) (hn : ∃ (i : Nat) (c : UInt8), b[i]? = some c ∧ (c.toNat : Int) = n) :
    TelT w 77 900 9000 (u + 1) (fun _ => True)
      [Value.bytes b t, .int n u] (fun v _ _ => ∃ (i : Nat) (t : Tok), v = .int (i : Int) t ∧ FirstAt b n i) := by
  unfold TelT P KK V LO; k_fill
  intro dp un gd cn cs a ccd cl outer A₀ base h₀ L m s mean mg mb Q E B F X T hk hd hu hp ht hret
  have ht9 : TokAt (u + 1) s.toks := ht
  refine wpAny_call ?_
  k_dflt (refine' enterB ?k1 ?k2 ?k3 ?k5 ?kA ?kF ?kK ?k6 ?k7 ?k8 ?k9 ?kB ?_ ?c2 ?c3 ?c4 ?c5; (case kA => exact rfl); (case kF => exact rfl); (case kK => assumption); (case k1 => k_asm); (case k2 => k_asm); (case k3 => k_asm); (case k5 => k_asm); (case k6 => k_is); (case k7 => k_is); (case k8 => k_room); (case k9 => first | exact BindsTo.of_eq rfl | exact binds_K (by k_in) rfl (by k_is) rfl rfl rfl); (case c5 => decide); (case kB => exact locs rfl); (case c2 => exact rfl); (case c3 => exact rfl); (case c4 => exact rfl); k_whole; intro L' h' F' B' X' T' N'; (try dsimp only); (try k_fold))
  clear F X T B
  w_top off
  k_steps
  all_goals first
    | exact (idx_absurd hn (by assumption)).elim
    | (dsimp only; exact hret _ _ _ (Fr.keep (by assumption)) ⟨_, _, rfl, ⟨_, by assumption, by simp_all⟩, by assumption⟩)
end Mine
-- part Sou0
namespace Mine
open PySem PySem.W PySem.Calls PyProof.Rows
set_option maxRecDepth 100000
section
variable {prog : Program} {w : World} {A A₀ : Around} {E : Value → Shared → Prop} {s : Shared} {K : Frag} {L : Addr} {h₀ base : Heap} {m mg mb : Str → Option Value} {p : Program} {loose : List Str} {mean : ExcName → Option Value}
/-- leaving a def that caught what went through its caller's notes -/
def LeaveT (h₀ : Heap) (L : Addr) (m : Str → Option Value) (g : Heap) (R : Result → Shared → Prop) (v : Value) (s' : Shared) : Prop :=
  ∃ g' L' m', KtsTurn [L] g g' ∧ Fr g' L' s'.heap m' ∧ (Fr h₀ L s'.heap m → R (.ok (.ret v)) s')
theorem leaveT_ {g g' : Heap} {L' : Addr} {m' : Str → Option Value} {R : Result → Shared → Prop} {v : Value} {s' : Shared} (T : KtsTurn [L] g g') (F : Fr g' L' s'.heap m') (k : Fr h₀ L s'.heap m → R (.ok (.ret v)) s') : LeaveT h₀ L m g R v s' := ⟨g', L', m', T, F, k⟩
theorem enterS {cn : Str} {cs : Scope} {a : Addr} {ccd : Value} {cl : List (Str × Addr)} {R : Result → Shared → Prop} {name qual : Str} {params : Arguments} {body : List Stmt} {scope : Scope} {dV kV doc pm cdv ct oc : Value} {an od : Option Addr} {osl : Array (Option Value)} {f : Addr} {args : Args} {binds : List (Str × Value)}
    (B : Below A₀ base [] h₀) (F : Fr h₀ L s.heap m) (X₀ : K.In h₀) (T : Top p loose mean mg mb h₀) (hA : A.frames = some [envX cn cs L a ccd cl]) (hke : cs.kind = .function)
    (ho : K.lookup f = some ⟨oc, od, .func (fnOf name qual params body scope dV kV doc pm an cdv ct), osl⟩) (hcd : codeIn K cdv qual = true) (hroom : A.depth < recursionLimit)
    (hbind : BindsTo s (fnOf name qual params body scope dV kV doc pm an cdv ct) args binds) (hloc : ∀ y ∈ binds, scope.names.lookup y.1 = some .local)
    (h : ∀ L' h₁, Fr s.heap L' h₁ (fun y => binds.reverse.lookup y) → News s.heap L' h₁ [] → Below A base [envX cn cs L a ccd cl] s.heap → K.In s.heap → Top p loose mean mg mb s.heap → KtsDicts ([envX cn cs L a ccd cl].filterMap (·.frame)) s.heap →
      wpAny (model prog w) (A.deeper (envOf qual scope L' f cdv)) (execs body (envOf qual scope L' f cdv))
        (fun fl s' => LeaveT h₀ L m s.heap R (match fl with | .ret v => v | _ => .none) s')
        (fun e s' => wpAny (model prog w) (A.deeper (envOf qual scope L' f cdv)) (leaving (envOf qual scope L' f cdv) e) (fun _ s'' => R (.error e) s'') (fun e' s'' => R (.error e') s'') s')
        { s with heap := h₁, toks := s.toks + binds.length })
    (hco : scope.isCoroutine = false) (hgen : scope.isGenerator = false) (hk : scope.kind = .function)
    (hcell : ∀ x ∈ scope.names, x.2 ≠ .cell) : codeAny (model prog w) A (.call (.ref f) args) R s := by
  have B₁ := pushX (env := envX cn cs L a ccd cl) B F rfl hke
  have B₂ : Below A base [envX cn cs L a ccd cl] s.heap := ⟨hA, B₁.stays, B₁.frames⟩
  obtain ⟨oL, es, ep, hL, hLd, hLk, hLf⟩ := id F.ns
  refine codeAny_call_def (fd := fnX name qual params body scope [] dV kV doc pm an cdv ct) (body := body) (binds := binds) hroom ((X₀.keeps F.keep) _ _ ho) rfl (T.nolimit.keeps F.keep) (codeRec_of (X₀.keeps F.keep) hcd) rfl hbind hcell hloc (fun h₁ hns hk₁ => ?_) hco hgen hk
  have D : KtsDicts ([envX cn cs L a ccd cl].filterMap (·.frame)) s.heap := fun b hb => by
    have e : b = L := List.mem_singleton.mp hb
    exact ⟨oL, es, ep, e ▸ hL, hLd⟩
  refine wpAny_mono (h s.heap.objs.size h₁ ⟨hns, hk₁, Nat.le_refl _⟩ News.nil B₂ (X₀.keeps F.keep) (T.keeps F.keep) D) (fun fl s' hl => ?_) fun _ _ y => y
  obtain ⟨g', L', m', T', F', k⟩ := hl
  have nL₀ : h₀.get? L = none := kts_self F
  obtain ⟨sl, hs⟩ := T'.up hL
  refine k ⟨⟨_, es, ep, F'.keep _ _ hs, hLd, hLk, hLf⟩, fun b o e => F'.keep b o (T'.other b o (F.keep b o e) fun q => ?_), F.above⟩
  rw [List.mem_singleton.mp q, nL₀] at e
  cases e
end
end Mine
-- part Fil3
namespace Mine
open PySem PySem.W PySem.Calls PyProof.Rows
set_option maxRecDepth 100000
def tabL : List (List (Int × Str)) := [[(40960, Str.ofString "l"), (49152, Str.ofString "s"), (32768, Str.ofString "-"), (24576, Str.ofString "b"), (16384, Str.ofString "d"), (8192, Str.ofString "c"), (4096, Str.ofString "p")],
  [(256, Str.ofString "r")], [(128, Str.ofString "w")], [(2112, Str.ofString "s"), (2048, Str.ofString "S"), (64, Str.ofString "x")], [(32, Str.ofString "r")], [(16, Str.ofString "w")], [(1032, Str.ofString "s"), (1024, Str.ofString "S"), (8, Str.ofString "x")], [(4, Str.ofString "r")], [(2, Str.ofString "w")], [(513, Str.ofString "t"), (512, Str.ofString "T"), (1, Str.ofString "x")]]
def hitB (i : Nat) (n b : Int) : Bool := if i = 0 then decide (Builtin.bitAnd n 61440 = b) else decide (Builtin.bitAnd n b = b)
/-- the sign at a place of a listing, told by the mode -/
def fmC (i : Nat) (n : Int) : List (Int × Str) → Str
  | [] => if i = 0 then Str.ofString "?" else Str.ofString "-"
  | (b, c) :: r => if hitB i n b = true then c else fmC i n r
def filFrom (n : Int) : Nat → List (List (Int × Str)) → List Str
  | _, [] => []
  | i, es :: r => fmC i n es :: filFrom n (i + 1) r
/-- the listing that the mode tells -/
def filF (n : Int) : Str := Txt.join (Str.ofString "") (List.map (fun c => c) (filFrom n 0 tabL))
inductive PairsAre (h : Heap) : List Value → List (Int × Str) → Prop
  | nil : PairsAre h [] []
  | cons {p : Addr} {b : Int} {c : Str} {t u : Tok} {vs : List Value} {es : List (Int × Str)} : IsTup h p #[.int b t, .str c u] → PairsAre h vs es → PairsAre h (.ref p :: vs) ((b, c) :: es)
inductive TabsAre (h : Heap) : List Value → List (List (Int × Str)) → Prop
  | nil : TabsAre h [] []
  | cons {a : Addr} {tv vs : List Value} {es : List (Int × Str)} {r : List (List (Int × Str))} : h.IsTuple a tv.toArray → PairsAre h tv es → TabsAre h vs r → TabsAre h (.ref a :: vs) (es :: r)
theorem PairsAre.at {h : Heap} : ∀ {vs : List Value} {es : List (Int × Str)}, PairsAre h vs es → ∀ {i : Nat} {v : Value}, vs[i]? = some v → ∃ p b c t u, v = .ref p ∧ IsTup h p #[.int b t, .str c u] ∧ es.drop i = (b, c) :: es.drop (i + 1)
  | _, _, .nil, i, v, h => by simp at h
  | _, _, .cons ht r, 0, v, h => ⟨_, _, _, _, _, (Option.some.inj h).symm, ht, rfl⟩
  | _, _, .cons ht r, i + 1, v, h => by
    obtain ⟨p, b, c, t, u, e1, e2, e3⟩ := r.at (i := i) (v := v) (by simpa using h)
    exact ⟨p, b, c, t, u, e1, e2, e3⟩
theorem TabsAre.at {h : Heap} : ∀ {vs : List Value} {es : List (List (Int × Str))}, TabsAre h vs es → ∀ {i : Nat} {v : Value}, vs[i]? = some v → ∃ a tv e, v = .ref a ∧ h.IsTuple a tv.toArray ∧ PairsAre h tv e ∧ es[i]? = some e
  | _, _, .nil, i, v, h => by simp at h
  | _, _, .cons ht hp r, 0, v, h => ⟨_, _, _, (Option.some.inj h).symm, ht, hp, rfl⟩
  | _, _, .cons ht hp r, i + 1, v, h => r.at (i := i) (v := v) (by simpa using h)
theorem PairsAre.len {h : Heap} : ∀ {vs : List Value} {es : List (Int × Str)}, PairsAre h vs es → vs.length = es.length
  | _, _, .nil => rfl
  | _, _, .cons _ r => by rw [List.length_cons, List.length_cons, r.len]
theorem TabsAre.len {h : Heap} : ∀ {vs : List Value} {es : List (List (Int × Str))}, TabsAre h vs es → vs.length = es.length
  | _, _, .nil => rfl
  | _, _, .cons _ _ r => by rw [List.length_cons, List.length_cons, r.len]
theorem filFrom_len (n : Int) : ∀ (l : List (List (Int × Str))) (i : Nat), (filFrom n i l).length = l.length
  | [], _ => rfl
  | _ :: r, i => by rw [filFrom, List.length_cons, List.length_cons, filFrom_len n r]
theorem filFrom_snoc (n : Int) (e : List (Int × Str)) : ∀ (l : List (List (Int × Str))) (i : Nat), filFrom n i (l ++ [e]) = filFrom n i l ++ [fmC (i + l.length) n e]
  | [], i => rfl
  | a :: r, i => by
    rw [List.cons_append, filFrom, filFrom_snoc n e r (i + 1), filFrom, List.cons_append, List.length_cons, Nat.add_assoc, Nat.add_comm 1]
theorem filFrom_take (n : Int) {l : List (List (Int × Str))} {i : Nat} {e : List (Int × Str)} (h : l[i]? = some e) : filFrom n 0 (l.take (i + 1)) = filFrom n 0 (l.take i) ++ [fmC i n e] := by
  have hi := (List.getElem?_eq_some_iff.mp h).1
  rw [List.take_add_one, h, Option.toList, filFrom_snoc, List.length_take, Nat.zero_add, Nat.min_eq_left (Nat.le_of_lt hi)]
def frE (m₀ : Str → Option Value) (vi vt vb vc : Option Value) : Str → Option Value := fun y => if y = Str.ofString "char" then vc else if y = Str.ofString "bit" then vb else if y = Str.ofString "table" then vt else if y = Str.ofString "index" then vi else m₀ y
theorem frE_of {m₀ m' : Str → Option Value} (h3 : ∀ y, y ≠ Str.ofString "char" → y ≠ Str.ofString "bit" → y ≠ Str.ofString "table" → y ≠ Str.ofString "index" → m' y = m₀ y) :
    m' = frE m₀ (m' (Str.ofString "index")) (m' (Str.ofString "table")) (m' (Str.ofString "bit")) (m' (Str.ofString "char")) := by
  funext y
  unfold frE
  split
  · next e => rw [e]
  · split
    · next e => rw [e]
    · split
      · next e => rw [e]
      · split
        · next e => rw [e]
        · next a b c d => exact h3 y a b c d
/-- where the ways of one table meet -/
def MergeE (h₀ : Heap) (L : Addr) (m₀ : Str → Option Value) (its : List (Addr × Obj)) (lp : Addr) (xs : List Value) (ch : Str) (s : Shared) (f : Flow) (s₂ : Shared) : Prop :=
  f = .next ∧ ∃ h' tk t c vi vt vb vc, s₂ = { s with heap := h', toks := tk } ∧ Fr h₀ L h' (frE m₀ vi vt vb vc) ∧ News h₀ L h' (its ++ [(lp, listOf (List.toArray (xs ++ [Value.str ch t])) c)])
/-- one entry's end -/
def TabEnd (h₀ : Heap) (L : Addr) (m₀ : Str → Option Value) (vi vt : Option Value) (its : List (Addr × Obj)) (lp : Addr) (xs : List Value) (c0 : Nat) (I : Addr) (oI : Obj) (ch : Str) (hit : Bool) (s : Shared) (f : Flow) (s₂ : Shared) : Prop :=
  (f = .brk ∧ hit = true ∧ MergeE h₀ L m₀ its lp xs ch s .next s₂) ∨ (f = .next ∧ hit = false ∧ ∃ h' tk vb vc, s₂ = { s with heap := h', toks := tk } ∧ Fr h₀ L h' (frE m₀ vi vt vb vc) ∧ News h₀ L h' ((I, oI) :: (its ++ [(lp, listOf xs.toArray c0)])))
theorem MergeE.intro {h₀ : Heap} {L : Addr} {m₀ m' : Str → Option Value} {its : List (Addr × Obj)} {lp : Addr} {xs : List Value} {ch ch' : Str} {s : Shared} {news : List (Addr × Obj)} {h' : Heap} {tk : Nat} {t : Tok} {c : Nat} {arr : Array Value}
    (F : Fr h₀ L h' m') (N : News h₀ L h' news) (n1 : (lp, listOf arr c) ∈ news) (h2 : SubL its news) (harr : arr = List.toArray (xs ++ [Value.str ch' t])) (hc : ch = ch')
    (h3 : ∀ y, y ≠ Str.ofString "char" → y ≠ Str.ofString "bit" → y ≠ Str.ofString "table" → y ≠ Str.ofString "index" → m' y = m₀ y) : MergeE h₀ L m₀ its lp xs ch s .next { s with heap := h', toks := tk } := by
  subst harr hc
  rw [frE_of h3] at F
  refine ⟨rfl, h', tk, t, c, _, _, _, _, rfl, F, fun p hp => ?_⟩
  rcases List.mem_append.mp hp with hp | hp
  · exact N p (h2.mem p hp)
  · rw [List.mem_singleton.mp hp]; exact N _ n1
section
variable {prog : Program} {w : World} {A : Around} {E : Value → Shared → Prop} {s : Shared} {env : Env} {h₀ : Heap} {target : PySem.Expr} {body orelse : List Stmt} {Q : Flow → Shared → Prop}
theorem forTab {ta lp : Addr} {tv xs : List Value} {es : List (Int × Str)} {i c0 : Nat} {n : Int} {m₀ : Str → Option Value} {vi vt vb vc : Option Value} {its : List (Addr × Obj)} (hT : h₀.IsTuple ta tv.toArray) (hp : PairsAre h₀ tv es)
    (hh : A.handled = none) (F : Fr h₀ env.locals s.heap (frE m₀ vi vt vb vc)) (N : News h₀ env.locals s.heap (its ++ [(lp, listOf xs.toArray c0)])) (hE : PassesOwn (model prog w) A env E)
    (turn : ∀ b c p t u vb vc h tk I oI, IsTup h p #[.int b t, .str c u] → (∀ q ∈ its ++ [(lp, listOf xs.toArray c0)], NeA I q.1) → Fr h₀ env.locals h (frE m₀ vi vt vb vc) → News h₀ env.locals h ((I, oI) :: (its ++ [(lp, listOf xs.toArray c0)])) →
      wpAny (model prog w) A (assign target env (.ref p)) (fun _ s₂ => wpAny (model prog w) A (execs body env) (TabEnd h₀ env.locals m₀ vi vt its lp xs c0 I oI c (hitB i n b) { s with heap := h, toks := tk }) E s₂) E { s with heap := h, toks := tk })
    (last : ∀ h' tk vb vc, Fr h₀ env.locals h' (frE m₀ vi vt vb vc) → News h₀ env.locals h' (its ++ [(lp, listOf xs.toArray c0)]) → wpAny (model prog w) A (execs orelse env) (MergeE h₀ env.locals m₀ its lp xs (fmC i n []) s) E { s with heap := h', toks := tk }) :
    wpAny (model prog w) A (pyIter (.ref ta)) (fun it s₂ => codeAny (model prog w) A (.forLoop target it body orelse env) (fun r s' => match r with | .ok f => MergeE h₀ env.locals m₀ its lp xs (fmC i n es) s f s' | .error e => cameBackBy (model prog w) A env E e s') s₂) E s := by
  obtain ⟨ol, hol, hoc⟩ := id hT
  have hTs : s.heap.IsTuple ta tv.toArray := ⟨ol, F.keep _ _ hol, hoc⟩
  have hlt : @LT.lt Nat _ ta s.heap.objs.size := Heap.lt_size (F.keep _ _ hol)
  have hLs : @LT.lt Nat _ env.locals s.heap.objs.size := F.ns.lt
  have hlL : @LT.lt Nat _ ta env.locals := Nat.lt_of_lt_of_le (Heap.lt_size hol) F.above
  refine wpAny_pyIter_tuple hTs ?_
  have W := Walks.tuple (prog := prog) (w := w) hh s.heap.objs.size ta (Nat.ne_of_lt hlt) tv.toArray
  refine loopJ (s := { s with heap := s.heap.push { cls := .type "tuple_iterator", data := .fields #[.ref ta, .int 0 0] } }) (n := tv.length) (KTurns.ofWalks W fun i v s Q E st q => letGo_tupleiter st.1 q) ?_ (ktu_new F (Nat.le_refl _)) (List.mem_cons_self ..) [] ?_
    (fun i h st => by obtain ⟨o, e, _⟩ := st.1; exact ⟨o, e⟩) (fun p hp => Nat.ne_of_lt (Heap.lt_size (N p hp).1)) ⟨⟨_, Heap.get?_push_size _ rfl, rfl, rfl⟩, hTs.at fun o e => Heap.get?_push_of_some _ e⟩ (F.push _) (fun p hp => ⟨Heap.get?_push_of_some _ (N p hp).1, (N p hp).2⟩)
    (fun j m q => q = its ++ [(lp, listOf xs.toArray c0)] ∧ fmC i n es = fmC i n (es.drop j) ∧ ∃ vb vc, m = frE m₀ vi vt vb vc) ⟨rfl, rfl, vb, vc, rfl⟩ (fun _ _ _ _ p hp => absurd hp List.not_mem_nil) hE ?_ ?_
  · intro hm
    rcases List.mem_cons.mp hm with e | hm
    · exact absurd e (Nat.ne_of_lt hLs)
    · exact absurd (List.mem_singleton.mp hm) (Nat.ne_of_gt hlL)
  · intro b hb e
    rcases List.mem_cons.mp hb with e' | hb
    · exact absurd e' e
    · exact .inl ⟨ol, by rw [List.mem_singleton.mp hb]; exact hol⟩
  · intro j v m₁ news₁ h₁ tk₁ oI hin hP hJ hoff F₁ N₁
    obtain ⟨rfl, he, vb, vc, rfl⟩ := hJ
    obtain ⟨p, b, c, t, u, rfl, hpt, hd⟩ := hp.at (i := j) (v := v) (by have : tv.toArray[j]? = some v := hP; simpa using this)
    rw [hd, fmC] at he
    refine wpAny_mono (turn b c p t u vb vc h₁ tk₁ _ oI (hpt.keeps F₁.keep) (fun q hq => Ne.symm (hoff q hq)) F₁ N₁) (fun _ s₂ y => wpAny_mono y (fun f s₃ z => ?_) fun _ _ e => e) fun _ _ e => e
    rcases z with ⟨rfl, hit, z⟩ | ⟨rfl, hit, h', tk, vb', vc', rfl, F', N'⟩
    · rw [if_pos hit] at he
      rw [he]
      exact z
    · rw [if_neg (by rw [hit]; exact Bool.false_ne_true)] at he
      exact ⟨h', tk, _, its ++ [(lp, listOf xs.toArray c0)], rfl, F', N', hoff, rfl, he, vb', vc', rfl⟩
  · intro h' tk m' news' F' N' hJ
    obtain ⟨rfl, he, vb, vc, rfl⟩ := hJ
    rw [List.drop_of_length_le (by rw [hp.len]; exact Nat.le_refl _)] at he
    rw [he]
    exact last h' tk vb vc F' N'
end
/-- the table at hand -/
def FilAt (_m₀ : Str → Option Value) (_i : Nat) (_n : Int) (_es : List (Int × Str)) (_ta _lp : Addr) (_xs : List Value) : Prop := True
/-- one table's end -/
def FilEnd (h₀ : Heap) (L : Addr) (m₀ : Str → Option Value) (I : Addr) (oe oI : Obj) (lp : Addr) (xs : List Value) (ch : Str) (s : Shared) (f : Flow) (s₂ : Shared) : Prop :=
  f = .next ∧ ∃ h' tk t c vi vt vb vc, s₂ = { s with heap := h', toks := tk } ∧ Fr h₀ L h' (frE m₀ vi vt vb vc) ∧ News h₀ L h' [(I + 1, oe), (I, oI), (lp, listOf (List.toArray (xs ++ [Value.str ch t])) c)]
theorem FilEnd.intro {h₀ : Heap} {L : Addr} {m₀ m' : Str → Option Value} {I lp : Addr} {oe oI : Obj} {xs : List Value} {ch : Str} {s : Shared} {h' : Heap} {tk : Nat} {t : Tok} {c : Nat}
    (F : Fr h₀ L h' m') (N : News h₀ L h' [(I + 1, oe), (I, oI), (lp, listOf (List.toArray (xs ++ [Value.str ch t])) c)])
    (h3 : ∀ y, y ≠ Str.ofString "char" → y ≠ Str.ofString "bit" → y ≠ Str.ofString "table" → y ≠ Str.ofString "index" → m' y = m₀ y) : FilEnd h₀ L m₀ I oe oI lp xs ch s .next { s with heap := h', toks := tk } := by
  rw [frE_of h3] at F
  exact ⟨rfl, h', tk, t, c, _, _, _, _, rfl, F, N⟩
theorem strsSnoc {xs : List Value} {ss : List Str} {c : Str} {t : Tok} (h : CarriedAll xs (ss.map PyData.str)) : CarriedAll (xs ++ [.str c t]) ((ss ++ [c]).map PyData.str) := by
  rw [List.map_append]
  exact CarriedAll.snoc h (.str _ _)
section
variable {prog : Program} {w : World} {A : Around} {E : Value → Shared → Prop} {s : Shared} {env : Env} {h₀ : Heap} {body orelse : List Stmt} {Q : Flow → Shared → Prop}
theorem forFil {elts : List PySem.Expr} {k : Nat} {pos : Pos} {l lp : Addr} {vs : List Value} {ess : List (List (Int × Str))} {n : Int} {c0 : Nat} {m₀ : Str → Option Value} (hT₀ : h₀.IsTuple l vs.toArray) (ht : TabsAre h₀ vs ess) (h10 : ess.length = 10)
    (hh : A.handled = none) (F : Fr h₀ env.locals s.heap m₀) (N : News h₀ env.locals s.heap [(lp, listOf #[] c0)]) (hE : PassesOwn (model prog w) A env E) {tn : Tok} (_hm : m₀ (Str.ofString "mode") = some (.int n tn))
    (turn : ∀ (i : Nat) es ta tv T tt xs c vi vt vb vc h tk I oI oe, h₀.IsTuple ta tv.toArray → PairsAre h₀ tv es → IsTup h T #[.int (i : Int) tt, .ref ta] → NeA (I + 1) lp → NeA I lp → NeA (I + 1) I → xs.length ≤ 9 → FilAt m₀ i n es ta lp xs → Fr h₀ env.locals h (frE m₀ vi vt vb vc) → News h₀ env.locals h [(I + 1, oe), (I, oI), (lp, listOf (List.toArray xs) c)] →
      wpAny (model prog w) A (assign (.Tuple elts k pos) env (.ref T)) (fun _ s₂ => wpAny (model prog w) A (execs body env) (FilEnd h₀ env.locals m₀ I oe oI lp xs (fmC i n es) { s with heap := h, toks := tk }) E s₂) E { s with heap := h, toks := tk })
    (last : ∀ h' tk xs c vi vt vb vc, Fr h₀ env.locals h' (frE m₀ vi vt vb vc) → News h₀ env.locals h' [(lp, listOf (List.toArray xs) c)] → CarriedAll xs ((filFrom n 0 ess).map PyData.str) → wpAny (model prog w) A (execs orelse env) Q E { s with heap := h', toks := tk }) :
    wpAny (model prog w) A (call (.type "enumerate") [.ref l]) (fun xv s₁ => wpAny (model prog w) A (pyIter xv) (fun it s₂ => codeAny (model prog w) A (.forLoop (.Tuple elts k pos) it body orelse env)
      (fun r s' => match r with | .ok f => Q f s' | .error e => cameBackBy (model prog w) A env E e s') s₂) E s₁) E s := by
  obtain ⟨ol, hol, hoc⟩ := id hT₀
  have hT : s.heap.IsTuple l vs.toArray := ⟨ol, F.keep _ _ hol, hoc⟩
  have hl₀ : @LT.lt Nat _ l h₀.objs.size := Heap.lt_size hol
  have hLs : @LT.lt Nat _ env.locals s.heap.objs.size := F.ns.lt
  have hlL : @LT.lt Nat _ l env.locals := Nat.lt_of_lt_of_le hl₀ F.above
  have hlt : @LT.lt Nat _ l s.heap.objs.size := Nat.lt_trans hlL hLs
  refine callEnumTup hT fun h' he hi hk => ?_
  refine wpAny_pyIter_enum he ?_
  have hne1 : s.heap.objs.size + 1 ≠ s.heap.objs.size := Nat.succ_ne_self _
  have hnl : l ≠ s.heap.objs.size := Nat.ne_of_lt hlt
  have hnl1 : l ≠ s.heap.objs.size + 1 := Nat.ne_of_lt (Nat.lt_succ_of_lt hlt)
  have fresh : ∀ b, s.heap.objs.size ≤ b → h₀.get? b = none := fun b hb => ktu_new F hb
  have W := KTurns.ofWalksU (elts := elts) (k := k) (pos := pos) (WalksT.enumerateD (drawsTup (prog := prog) (w := w) (A := A.in1) hh s.heap.objs.size l hnl vs.toArray) (s.heap.objs.size + 1) hne1 (by simp [hne1, Ne.symm hnl1]) (by simp)).toU
  have hlp := N _ (List.mem_cons_self ..)
  have hlps : @LT.lt Nat _ lp s.heap.objs.size := Heap.lt_size hlp.1
  have n1 : NeA (s.heap.objs.size + 1) lp := Nat.ne_of_gt (Nat.lt_succ_of_lt hlps)
  have n2 : NeA s.heap.objs.size lp := Nat.ne_of_gt hlps
  refine loopElse (s := { s with heap := h' }) W ?_ ?_ ?_ ⟨⟨_, he⟩, hi, hT.at fun o e => hk _ _ e⟩ (F.keeps hk) (N.grown hk)
    (fun i m q => ∃ xs c vi vt vb vc, q = [(lp, listOf (List.toArray xs) c)] ∧ m = frE m₀ vi vt vb vc ∧ CarriedAll xs ((filFrom n 0 (ess.take i)).map PyData.str) ∧ xs.length = (ess.take i).length)
    ⟨[], c0, _, _, _, _, rfl, frE_of (fun _ _ _ _ _ => rfl), .nil, rfl⟩ hE ?_ ?_
  · intro hm
    have hb' : env.locals = s.heap.objs.size + 1 ∨ env.locals = s.heap.objs.size ∨ env.locals = l := by simpa using hm
    rcases hb' with e | e | e
    · exact absurd e (Nat.ne_of_lt (Nat.lt_succ_of_lt hLs))
    · exact absurd e (Nat.ne_of_lt hLs)
    · exact absurd e (Nat.ne_of_gt hlL)
  · intro b hb
    have hb' : b = s.heap.objs.size + 1 ∨ b = s.heap.objs.size := by simpa using hb
    rcases hb' with rfl | rfl
    · exact fresh _ (Nat.le_succ _)
    · exact fresh _ (Nat.le_refl _)
  · intro p hp hI
    have h1 : @LT.lt Nat _ p.1 s.heap.objs.size := Heap.lt_size (N p hp).1
    have hb' : p.1 = s.heap.objs.size + 1 ∨ p.1 = s.heap.objs.size := by simpa using hI
    rcases hb' with e | e
    · exact absurd e (Nat.ne_of_lt (Nat.lt_succ_of_lt h1))
    · exact absurd e (Nat.ne_of_lt h1)
  · rintro i v m₁ news₁ h₁ tk₁ own hin ⟨T, vals, rfl, ⟨tt, x, hx, rfl⟩, hTT⟩ ⟨xs, c, vi, vt, vb, vc, rfl, rfl, hc, hxl⟩ hoff hown hget hall ⟨⟨old, he₀⟩, ⟨oI, hoI, hic, -⟩, -⟩ F₁ N₁
    obtain ⟨oe, he₁⟩ : ∃ oe, h₁.get? (s.heap.objs.size + 1) = some oe := ⟨_, he₀⟩
    have m1 : (s.heap.objs.size + 1, oe) ∈ own := hall _ (by simp) (fresh _ (Nat.le_succ _)) oe he₁
    have m2 : (s.heap.objs.size, oI) ∈ own := hall _ (by simp) (fresh _ (Nat.le_refl _)) _ hoI
    obtain ⟨ta, tv, es, rfl, hta, hpa, hes⟩ := ht.at (i := i) (v := x) (by simpa using hx)
    have hil : i < ess.length := (List.getElem?_eq_some_iff.mp hes).1
    have z := turn i es ta tv T tt xs c vi vt vb vc h₁ tk₁ s.heap.objs.size oI oe hta hpa hTT n1 n2 hne1 (by rw [hxl, List.length_take]; omega) True.intro F₁ (fun p hp => by
      simp only [List.mem_cons, List.not_mem_nil, or_false] at hp
      rcases hp with rfl | rfl | rfl
      · exact N₁ _ (List.mem_append_left _ m1)
      · exact N₁ _ (List.mem_append_left _ m2)
      · exact N₁ _ (List.mem_append_right _ (List.mem_cons_self ..)))
    refine wpAny_mono z (fun _ s₂ y => wpAny_mono y (fun f s₃ z => ?_) fun _ _ e => e) fun _ _ e => e
    obtain ⟨rfl, h₃, tk₃, t, c', vi', vt', vb', vc', rfl, F₃, N₃⟩ := z
    refine ⟨h₃, tk₃, _, [(lp, listOf (List.toArray (xs ++ [.str (fmC i n es) t])) c')], rfl, F₃, fun p hp => ?_, fun p hp => ?_, xs ++ [.str (fmC i n es) t], c', vi', vt', vb', vc', rfl, rfl, ?_, ?_⟩
    · rcases List.mem_append.mp hp with hp | hp
      · have g1 := hget p hp
        have hb' : p.1 = s.heap.objs.size + 1 ∨ p.1 = s.heap.objs.size ∨ p.1 = l := by simpa using hown p hp
        rcases hb' with e | e | e
        · have e2 : p = (s.heap.objs.size + 1, oe) := Prod.ext e (Option.some.inj (g1.symm.trans (e ▸ he₁)))
          rw [e2]; exact N₃ _ (by simp)
        · have e2 : p = (s.heap.objs.size, oI) := Prod.ext e (Option.some.inj (g1.symm.trans (e ▸ hoI)))
          rw [e2]; exact N₃ _ (by simp)
        · have g2 := (N₁ p (List.mem_append_left _ hp)).2.2
          rw [e, hol] at g2
          cases g2
      · rw [List.mem_singleton.mp hp]; exact N₃ _ (by simp)
    · rw [List.mem_singleton.mp hp]
      intro hI
      have hb' : lp = s.heap.objs.size + 1 ∨ lp = s.heap.objs.size := by simpa using hI
      rcases hb' with e | e
      · exact n1 e.symm
      · exact n2 e.symm
    · rw [filFrom_take n hes]; exact strsSnoc hc
    · rw [List.length_append, hxl, List.length_take, List.length_take, List.length_singleton]; omega
  · rintro h₃ tk m' news' F' N' ⟨xs, c, vi, vt, vb, vc, rfl, rfl, hc, hxl⟩
    have e : ess.take vs.toArray.size = ess := List.take_of_length_le (by rw [List.size_toArray, ht.len]; exact Nat.le_refl _)
    rw [e] at hc
    exact last h₃ tk xs c vi vt vb vc F' N' hc
end
theorem tab_len : tabL.length = 10 ∧ ∀ es ∈ tabL, ∀ x ∈ es, x.2.length = 1 := by decide +kernel
theorem fmC_len {i : Nat} {n : Int} : ∀ {es : List (Int × Str)}, (∀ x ∈ es, x.2.length = 1) → (fmC i n es).length = 1
  | [], _ => by unfold fmC; split <;> rfl
  | (b, c) :: r, h => by
    unfold fmC
    split
    · exact h _ (List.mem_cons_self ..)
    · exact fmC_len fun x hx => h x (List.mem_cons_of_mem _ hx)
theorem filFrom_one {n : Int} : ∀ {l : List (List (Int × Str))} {i : Nat}, (∀ es ∈ l, ∀ x ∈ es, x.2.length = 1) → ∀ a ∈ filFrom n i l, a.length = 1
  | [], _, _, _, h => absurd h List.not_mem_nil
  | es :: r, i, h, a, ha => by
    rcases List.mem_cons.mp ha with rfl | ha
    · exact fmC_len (h es (List.mem_cons_self ..))
    · exact filFrom_one (fun e he => h e (List.mem_cons_of_mem _ he)) a ha
theorem sizeFil {xs : List Value} (h : xs.length ≤ 9) : xs.toArray.size ≤ sizeLine := by
  rw [PySem.sizeLine_eq, List.size_toArray]; omega
theorem hit0 {i : Nat} {n b : Int} (h : (i : Int) = 0) (e : Builtin.bitAnd n 61440 = b) : hitB i n b = true := by
  have : i = 0 := by omega
  subst this; simp [hitB, e]
theorem hit0n {i : Nat} {n b : Int} (h : (i : Int) = 0) (e : ¬ Builtin.bitAnd n 61440 = b) : hitB i n b = false := by
  have : i = 0 := by omega
  subst this; simp [hitB, e]
theorem hit1 {i : Nat} {n b : Int} (h : ¬ (i : Int) = 0) (e : Builtin.bitAnd n b = b) : hitB i n b = true := by
  have : ¬ i = 0 := by omega
  simp [hitB, this, e]
theorem hit1n {i : Nat} {n b : Int} (h : ¬ (i : Int) = 0) (e : ¬ Builtin.bitAnd n b = b) : hitB i n b = false := by
  have : ¬ i = 0 := by omega
  simp [hitB, this, e]
theorem fm0 {i : Nat} {n : Int} (h : (i : Int) = 0) : fmC i n [] = Str.ofString "?" := by
  have : i = 0 := by omega
  simp [fmC, this]
theorem fm1 {i : Nat} {n : Int} (h : ¬ (i : Int) = 0) : fmC i n [] = Str.ofString "-" := by
  have : ¬ i = 0 := by omega
  simp [fmC, this]
theorem TabEnd.hit {h₀ : Heap} {L : Addr} {m₀ : Str → Option Value} {vi vt : Option Value} {its : List (Addr × Obj)} {lp : Addr} {xs : List Value} {c0 : Nat} {I : Addr} {oI : Obj} {ch : Str} {b : Bool} {s : Shared} {s₂ : Shared} (h : b = true) (z : MergeE h₀ L m₀ its lp xs ch s .next s₂) :
    TabEnd h₀ L m₀ vi vt its lp xs c0 I oI ch b s .brk s₂ := .inl ⟨rfl, h, z⟩
theorem TabEnd.miss {h₀ : Heap} {L : Addr} {m₀ m' : Str → Option Value} {vi vt : Option Value} {its all : List (Addr × Obj)} {lp : Addr} {xs : List Value} {c0 : Nat} {I : Addr} {oI : Obj} {ch : Str} {b : Bool} {s : Shared} {h' : Heap} {tk : Nat} (h : b = false) (F : Fr h₀ L h' m') (N : News h₀ L h' all) (hs : SubL ((I, oI) :: (its ++ [(lp, listOf xs.toArray c0)])) all)
    (h1 : m' (Str.ofString "index") = vi) (h2 : m' (Str.ofString "table") = vt) (h3 : ∀ y, y ≠ Str.ofString "char" → y ≠ Str.ofString "bit" → y ≠ Str.ofString "table" → y ≠ Str.ofString "index" → m' y = m₀ y) :
    TabEnd h₀ L m₀ vi vt its lp xs c0 I oI ch b s .next { s with heap := h', toks := tk } := by
  rw [frE_of h3, h1, h2] at F
  exact .inr ⟨rfl, h, h', tk, _, _, rfl, F, fun p hp => N p (hs.mem p hp)⟩
theorem mergeFor {prog : Program} {w : World} {A : Around} {E : Value → Shared → Prop} {s : Shared} {env : Env} {h₀ : Heap} {L : Addr} {m₀ m : Str → Option Value} {its : List (Addr × Obj)} {lp ta : Addr} {xs : List Value} {i c0 : Nat} {n : Int} {ti : Tok} {es : List (Int × Str)} {target iter : PySem.Expr} {body orelse : List Stmt} {pos : Pos} {Q : Flow → Shared → Prop}
    (_a : FilAt m₀ i n es ta lp xs) (F : Fr h₀ L s.heap m) (_N : News h₀ L s.heap (its ++ [(lp, listOf xs.toArray c0)])) (hi : m (Str.ofString "index") = some (.int (i : Int) ti)) (ht : m (Str.ofString "table") = some (.ref ta))
    (hm : ∀ y, y ≠ Str.ofString "char" → y ≠ Str.ofString "bit" → y ≠ Str.ofString "table" → y ≠ Str.ofString "index" → m y = m₀ y)
    (inner : ∀ vb vc, Fr h₀ L s.heap (frE m₀ (some (.int (i : Int) ti)) (some (.ref ta)) vb vc) → wpAny (model prog w) A (eval iter env) (fun x s₁ => wpAny (model prog w) A (pyIter x) (fun it s₂ => codeAny (model prog w) A (.forLoop target it body orelse env) (fun r s' => match r with | .ok f => MergeE h₀ L m₀ its lp xs (fmC i n es) s f s' | .error e => cameBackBy (model prog w) A env E e s') s₂) E s₁) E s)
    (outer : ∀ h' tk t c vi vt vb vc, Fr h₀ L h' (frE m₀ vi vt vb vc) → News h₀ L h' (its ++ [(lp, listOf (List.toArray (xs ++ [Value.str (fmC i n es) t])) c)]) → Q .next { s with heap := h', toks := tk })
    (hs : ∀ x, foldedSetIterable iter env x = pure x := by intro _; with_unfolding_all rfl) :
    wpAny (model prog w) A (exec (.For target iter body orelse pos) env) Q E s := by
  rw [frE_of hm, hi, ht] at F
  refine wpAny_mono (wpAny_For (inner _ _ F) hs) ?_ fun _ _ e => e
  rintro f s₂ ⟨rfl, h', tk, t, c, vi, vt, vb, vc, rfl, F', N'⟩
  exact outer h' tk t c vi vt vb vc F' N'
end Mine
-- part Tabs
namespace Mine
open PySem PySem.W PySem.Calls PyProof.Rows
set_option maxRecDepth 100000
theorem tabs_at {w : World} {h : Heap} : P = P → (KK w).In h → ∃ vs : List Value, h.IsTuple 147 vs.toArray ∧ TabsAre h vs tabL := by
  unfold P KK; k_fill
  intro _ X
  refine ⟨_, tupK X (by k_is), ?_⟩
  unfold tabL
  repeat' (first | exact TabsAre.nil | exact PairsAre.nil | (refine TabsAre.cons (tupK X (by k_is)) ?_ ?_) | (refine PairsAre.cons (tupK X (by k_is)) ?_))
end Mine
-- part Fil
namespace Mine
open PySem PySem.W PySem.Calls PyProof.Rows
set_option maxRecDepth 100000
local macro_rules | `(tactic| k_room) => `(tactic| (simp only [depth_deeper, depth_in1, recursionLimit]; omega))
local macro_rules | `(tactic| k_units) => `(tactic| (simp only [units_deeper, units_in1, cLine]; omega))
local macro_rules | `(tactic| k_ne) => `(tactic| (refine neN ?_; (try dsimp only); first | exact NeA.out (by assumption) | exact NeA.symm (by assumption) | omega))
local macro_rules | `(tactic| walk_at "exec For Tuple Call") => `(tactic| (k_here; k_dflt (refine wpAny_For ?_)))
local macro_rules | `(tactic| walk_at "call type:enumerate") => `(tactic| (k_here; ((k_dflt (refine' forFil ?k1 ?k2 ?k3 ?k4 ?k5 ?k6 ?k7 ?k8 ?_ ?_; (case k4 => rfl); (case k5 => k_asm); (case k6 => k_asm); (case k7 => passes_own); (case k1 => assumption); (case k2 => assumption); (case k3 => exact tab_len.1); (case k8 => rfl)))); (all_goals (try (intro i' es' ta' tv' T' tt' xs' c' vi' vt' vb' vc' h' tk' I' oI' oe' hta' hpa' hT' n1' n2' n3' hx' hz' F' N'; unfold frE at F'))); (all_goals (try (intro h' tk' xs' c' vi' vt' vb' vc' F' N' hc'; unfold frE at F')))))
local macro_rules | `(tactic| walk_at "exec For Tuple Name") => `(tactic| (k_here; ((k_dflt (refine' mergeFor (its := [_, _]) ?k1 ?k2 ?k3 ?k4 ?k5 ?k6 ?_ ?_; (case k1 => with_reducible assumption); (case k2 => k_asm); (case k3 => k_asm); (case k4 => rfl); (case k5 => rfl); (case k6 => (intro y' y1 y2 y3 y4; simp only [if_neg y1, if_neg y2, if_neg y3, if_neg y4]))))); (all_goals (try (intro vb' vc' F'; unfold frE at F'))); (all_goals (try (intro h' tk' t' c' vi' vt' vb' vc' F' N'; unfold frE at F'; (try simp only [List.cons_append, List.nil_append] at N'))))))
local macro_rules | `(tactic| walk_at "pyIter ref") => `(tactic| (k_here; ((k_dflt (refine' forTab ?k1 ?k2 ?k4 ?k5 ?k6 ?k7 ?_ ?_; (case k4 => rfl); (case k5 => k_asm); (case k6 => k_asm); (case k7 => passes_own); (case k1 => assumption); (case k2 => assumption)))); (all_goals (try (intro b' c' p' t' u' vb' vc' h' tk' I' oI' hP' hn' F' N'; unfold frE at F'; (try simp only [List.cons_append, List.nil_append] at N' hn'); have z1' := hn' _ (List.mem_cons_self ..); have z2' := hn' _ (List.mem_cons_of_mem _ (List.mem_cons_self ..)); have z3' := hn' _ (List.mem_cons_of_mem _ (List.mem_cons_of_mem _ (List.mem_cons_self ..)))))); (all_goals (try (intro h' tk' vb' vc' F' N'; unfold frE at F'; (try simp only [List.cons_append, List.nil_append] at N'))))))
local macro_rules | `(tactic| walk_at "call builtin:list.append") => `(tactic| (k_here; (k_dflt (refine' append_K ?k1 ?k2 ?k3 ?_ ?z; (case k1 => k_asm); (case k2 => k_asm); (case k3 => k_upd); (case z => exact sizeFil (by assumption)); k_whole)); intro h' F' N'))
local macro_rules | `(tactic| walk_at "TabEnd") => `(tactic| ((first | (k_dflt (refine TabEnd.hit ?_ ?_; focus (first | exact hit0 (by assumption) (by assumption) | exact hit1 (by assumption) (by assumption)))) | (k_dflt (refine' TabEnd.miss ?k1 ?k2 ?k3 ?k4 ?k5 ?k6 ?k7; (case k1 => first | exact hit0n (by assumption) (by assumption) | exact hit1n (by assumption) (by assumption)); (case k2 => assumption); (case k3 => assumption); (case k4 => k_subL); (case k5 => rfl); (case k6 => rfl); (case k7 => (intro y' y1 y2 y3 y4; simp only [if_neg y1, if_neg y2, if_neg y3, if_neg y4])))))))
local macro_rules | `(tactic| walk_at "MergeE") => `(tactic| ((k_dflt (refine' MergeE.intro ?k1 ?k2 ?k3 ?k4 ?k5 ?k6 ?k7; (case k1 => assumption); (case k2 => assumption); (case k3 => k_mem); (case k4 => k_subL); (case k5 => first | (simp only [List.push_toArray]; rfl) | rfl); (case k6 => first | rfl | exact fm0 (by assumption) | exact fm1 (by assumption)); (case k7 => (intro y' y1 y2 y3 y4; simp only [if_neg y1, if_neg y2, if_neg y3, if_neg y4]))))))
local macro_rules | `(tactic| walk_at "FilEnd") => `(tactic| ((k_dflt (refine' FilEnd.intro ?k1 ?k2 ?k3; (case k1 => assumption); (case k2 => assumption); (case k3 => (intro y' y1 y2 y3 y4; simp only [if_neg y1, if_neg y2, if_neg y3, if_neg y4]))))))
local macro_rules | `(tactic| walk_at "call builtin:str.join") => `(tactic| (k_here; ((k_dflt (refine' KT.join_1 (g := fun c => c) (l := filFrom _ 0 tabL) ?k1 ?k0 ?k2 ?k3 ?_; (case k1 => exact News.isList (by k_asm) (by k_mem)); (case k0 => assumption); (case k2 => exact filFrom_one tab_len.2); (case k3 => (rw [filFrom_len, tab_len.1]; decide))))); intro _ _ ktE))
set_option maxHeartbeats 2000000 in
theorem fil_tel {w : World} {n : Int} {t : Tok} :
    Tel w 154 900 9000 (fun _ => True)
      [Value.int n t] (fun v _ _ => ∃ t, v = .str (filF n) t) := by
  unfold Tel P KK V LO; k_fill
  intro dp un gd cn cs a ccd cl outer A₀ base h₀ L m s mean mg mb Q E B F X T hk hd hu hp hret
  refine wpAny_call ?_
  k_dflt (refine' enterB ?k1 ?k2 ?k3 ?k5 ?kA ?kF ?kK ?k6 ?k7 ?k8 ?k9 ?kB ?_ ?c2 ?c3 ?c4 ?c5; (case kA => exact rfl); (case kF => exact rfl); (case kK => assumption); (case k1 => k_asm); (case k2 => k_asm); (case k3 => k_asm); (case k5 => k_asm); (case k6 => k_is); (case k7 => k_is); (case k8 => k_room); (case k9 => first | exact BindsTo.of_eq rfl | exact binds_K (by k_in) rfl (by k_is) rfl rfl rfl); (case c5 => decide); (case kB => exact locs rfl); (case c2 => exact rfl); (case c3 => exact rfl); (case c4 => exact rfl); k_whole; intro L' h' F' B' X' T' N'; (try dsimp only); (try k_fold))
  clear F X T B
  obtain ⟨vs9, hT9, ht9⟩ := tabs_at (w := w) rfl X'
  w_top off
  k_steps
  all_goals try (exact hret _ _ _ (Fr.keep (by assumption)) ⟨_, rfl⟩)
end Mine
-- part Sou
namespace Mine
open PySem PySem.W PySem.Calls PyProof.Rows
set_option maxRecDepth 100000
local macro_rules | `(tactic| k_room) => `(tactic| (simp only [depth_deeper, depth_in1, recursionLimit]; omega))
local macro_rules | `(tactic| k_units) => `(tactic| (simp only [units_deeper, units_in1, cLine]; omega))
local macro_rules | `(tactic| walk_at "execs cons") => `(tactic| (k_here; k_dflt (refine gentoksN (TokAt.add (by assumption)) ?_); intro tk' htk'))
local macro_rules | `(tactic| walk_at "exec For") => `(tactic| (k_here; k_dflt (refine wpAny_For ?_)))
local macro_rules | `(tactic| walk_at "call type:enumerate") => `(tactic| (k_here; (k_dflt (refine' forIdx ?k1 ?k0 ?k2 ?k3 ?k4 ?k5 ?_ ?_; (case k1 => rfl); (case k0 => exact TokAt.out (by assumption)); (case k2 => k_asm); (case k3 => k_asm); (case k4 => passes_own); (case k5 => rfl))); (all_goals (try (intro i' c' v' T' tt' m' h' tk' I' oI' oe' hc' hJ' hv' lI' hT' F' N'; obtain ⟨hJ1', vi', vj', hm'⟩ := hJ'; subst hm'; (try simp only [List.cons_append, List.nil_append] at N')))); (all_goals (try (intro h' tk' m' F' N' hJ'; obtain ⟨hJ1', vi', vj', hm'⟩ := hJ'; subst hm')))))
local macro_rules | `(tactic| walk_at "compareOp Is int int") => `(tactic| (k_here; (k_dflt (refine isSmallT (by assumption) (by assumption) ?_))))
local macro_rules | `(tactic| walk_at "EnumEnd") => `(tactic| ((k_dflt (refine' EnumEnd.intro ?k1 ?k2 (IdxJ.next ?k3 ?k4 ?k5); (case k1 => assumption); (case k2 => assumption); (case k3 => assumption); (case k4 => assumption); (case k5 => (intro hq; simp_all))))))
set_option maxHeartbeats 8000000 in
theorem sou_tel {w : World} {b : Array UInt8} {t : Tok} {n : Int} {u : Tok} (hu1 : 1 ≤ u) (hn : ∀ (i : Nat) (c : UInt8), b[i]? = some c → (c.toNat : Int) ≠ n) :
  ∀ (dp un : Nat) (gd : Option (List Code)) (cn : Str) (cs : Scope) (a : Addr) (ccd : Value) (cl : List (Str × Addr)) (A₀ : Around) (base h₀ : Heap) (L : Addr) (m : Str → Option Value) (s : Shared)
    (mean : ExcName → Option Value) (mg mb : Str → Option Value) (Q E : Value → Shared → Prop),
    Below A₀ base [] h₀ → Fr h₀ L s.heap m → (KK w).In h₀ → Top V LO mean mg mb h₀ → (KK w).In base → Top V LO mean mg mb base → cs.kind = .function → dp ≤ 900 → un ≤ 9000 → u + 1 ≤ s.toks →
    (∀ t h' tk', Fr h₀ L h' m → Q (.str (Str.ofString "not there") t) { s with heap := h', toks := tk' }) →
    wpAny (model P w) (ktrTop dp un gd cn cs L a ccd cl []) (call (.ref 197) [.bytes b t, .int n u]) Q E s := by
  unfold P KK V LO; k_fill
  intro dp un gd cn cs a ccd cl A₀ base h₀ L m s mean mg mb Q E B F X T XB TB hk hd hu ht hret
  have ht9 : TokAt (u + 1) s.toks := ht
  refine wpAny_call ?_
  k_dflt (refine' enterS ?k1 ?k2 ?k3 ?k5 ?kA ?kK ?k6 ?k7 ?k8 ?k9 ?kB ?_ ?c2 ?c3 ?c4 ?c5; (case kA => exact rfl); (case kK => assumption); (case k1 => k_asm); (case k2 => k_asm); (case k3 => k_asm); (case k5 => k_asm); (case k6 => k_is); (case k7 => k_is); (case k8 => k_room); (case k9 => exact BindsTo.of_eq rfl); (case c5 => decide); (case kB => exact locs rfl); (case c2 => exact rfl); (case c3 => exact rfl); (case c4 => exact rfl); k_whole; intro L' h' F' N' B' X' T' D'; (try dsimp only); (try k_fold))
  clear F X T B
  w_top off
  k_steps
  all_goals first
    | exact absurd (by assumption) (hn _ _ (by assumption))
    | (dsimp only; exact leaveT_ (by assumption) (by assumption) fun kF => hret _ _ _ kF)
end Mine
-- part Lis
namespace Mine
open PySem PySem.W PySem.Calls PyProof.Rows
set_option maxRecDepth 100000
local macro_rules | `(tactic| k_room) => `(tactic| (simp only [depth_deeper, depth_in1, recursionLimit]; omega))
local macro_rules | `(tactic| k_units) => `(tactic| (simp only [units_deeper, units_in1, cLine]; omega))
/-- the sign of a right -/
def lisCh (x k : Int) : Str := if (x.fdiv (2 ^ (5 - k).toNat)).fmod 2 = 0 then Str.ofString "-" else Txt.item (Str.ofString "rwxrwx") k
/-- the rights at hand -/
def LisN (n : Int) : Prop := 0 ≤ n ∧ n < 64
section
variable {prog : Program} {w : World} {A : Around} {h₀ : Heap} {L : Addr} {m : Str → Option Value} {env : Env} {elt : PySem.Expr} {x : Str} {scope : Scope} {cl : List (Str × Addr)} {s : Shared} {S : List (Addr × Obj) → Prop} {Fin : List Value → List (Addr × Obj) → Prop} {news : List (Addr × Obj)}
theorem kctLis {n : Nat} {a q : Int} (_h : LisN q)
    (turn : ∀ k t I oI C oC D m₂ ys h tk (E' : Value → Shared → Prop), a ≤ k → k < a + (n : Int) → LCg.NsObj oC m₂ → m₂ x = some (.int k t) → Fr h₀ L h m → News h₀ L h ((I, oI) :: (C, oC) :: (D, LCg.lst ys) :: news) → LCg.Off3 I C D news → ((@Ne Nat I C) ∧ (@Ne Nat I D) ∧ (@Ne Nat C D)) → KPfMark →
      wpAny (model prog w) A (eval elt (compEnvC scope cl C env)) (LCg.CompEnd h₀ L m { s with heap := h, toks := tk } I oI C oC D (LCg.lst ys) S (fun y news' => KCtEl news (lisCh q k) y news')) E' { s with heap := h, toks := tk })
    (fin : ∀ ys, CarriedAll ys ((rangeKs a n).map fun k => PyData.str (lisCh q k)) → Fin ys news) : LCg.CompRest prog w A h₀ L m env elt x scope cl s S (fun i v => ∃ t, v = .int (a + (i : Int)) t) Fin n 0 [] news :=
  kct_range (lisCh q) turn fun ys h _ => fin ys h
end
theorem lisEnd {h₀ : Heap} {L I C D : Addr} {m : Str → Option Value} {s₁ : Shared} {oI oC oD : Obj} {S : List (Addr × Obj) → Prop} {y : Value} {h' : Heap} {tk : Nat} {all news : List (Addr × Obj)} {c c' : Str} {t : Tok}
    (F : Fr h₀ L h' m) (N : News h₀ L h' all) (off : LCg.Off3 I C D news) (sub : SubL ((I, oI) :: (C, oC) :: (D, oD) :: news) all) (hS : S news) (hy : y = .str c t) (hc : c' = c) :
    LCg.CompEnd h₀ L m s₁ I oI C oC D oD S (fun y n => KCtEl news c' y n) y { s₁ with heap := h', toks := tk } :=
  LCg.CompEnd.intro F N news (fun p hp => sub.mem p hp) off hS ⟨rfl, t, by rw [hc]; exact hy⟩
theorem item_len : ∀ k : Fin 6, (Txt.item (Str.ofString "rwxrwx") (k.val : Int)).length = 1 := by decide +kernel
theorem lisCh_len (x k : Int) (h0 : 0 ≤ k) (h1 : k < 6) : (lisCh x k).length = 1 := by
  unfold lisCh
  split
  · rfl
  · have h := item_len ⟨k.toNat, by omega⟩
    have e : ((k.toNat : Nat) : Int) = k := by omega
    simp only [e] at h
    exact h
/-- the listing of the rights -/
def lisF (x : Int) : Str := Str.ofString "d---" ++ Txt.join (Str.ofString "") (List.map (lisCh x) (rangeKs 0 6))
theorem lisJ_len (x : Int) : (Txt.join (Str.ofString "") (List.map (lisCh x) (rangeKs 0 6))).length ≤ 6 := by
  rw [KT.join_ones _ (fun a ha => by
    obtain ⟨b, hb, eb⟩ := List.mem_map.1 ha
    have hb9 := mem_rangeKs hb
    rw [← eb]; exact lisCh_len _ _ hb9.1 (by omega)), List.length_map, rangeKs_length]
  exact Nat.le_refl _
local macro_rules | `(tactic| walk_at "CompSrc") => `(tactic| (k_here; (k_dflt ((refine LCg.CompSrc.range (n := 6) (by rfl) (by k_asm) (by k_asm) (by assumption) (by decide) (by rfl) (by first | exact Nat.le_of_ble_eq_true rfl | (rw [PySem.sizeLine_eq]; omega)) ?_; intro g'; (refine' kctLis ?k0 (fun k' t' I' oI' C' oC' D' m' ys' h' tk' E' hlo' hhi' hC' hx' F' N' off' ne' => ?_) ?_; (case k0 => assumption)); (all_goals (try (have off9 := off'))); (all_goals (try (simp only [LCg.Off3, and_true] at off'))); (all_goals (try ((show KPfMark → _); intro hMark'))))))))
local macro_rules | `(tactic| walk_at "CompEnd") => `(tactic| ((k_dflt (refine' lisEnd ?k1 ?k2 ?k3 ?k4 ?k5 ?k6 ?k7; (case k1 => assumption); (case k2 => assumption); (case k3 => assumption); (case k4 => k_subL); (case k5 => first | trivial | k_subL); (case k6 => rfl); (case k7 => (simp only [lisCh]; first | rw [if_pos (by omega)] | rw [if_neg (by omega)]))))))
local macro_rules | `(tactic| walk_at "call builtin:str.join") => `(tactic| (k_here; (with_reducible rename CarriedAll _ (List.map _ _) => ktC); (k_dflt (refine' KT.join_1 ?k1 ktC ?k2 ?k3 ?_; (case k1 => exact News.isList (by k_asm) (by k_mem)); (case k2 => (intro a9 ha9; have hb9 := mem_rangeKs ha9; exact lisCh_len _ _ hb9.1 (by omega))); (case k3 => (simp only [rangeKs_length]; omega)); intro _ _ ktE))))
local macro_rules | `(tactic| walk_at "binaryOp Add str str") => `(tactic| (k_here; (k_dflt (refine' KXadd.add (K := 4) (L := 6) ?k1 (lisJ_len _) ?k2 ?_; (case k1 => decide); (case k2 => decide); intro _ _ _))))
set_option maxHeartbeats 8000000 in
theorem lis_tel {w : World} {n : Int} {t : Tok} (n0 : 0 ≤ n) (n1 : n < 64) :
    Tel w 183 900 9000 (fun _ => True)
      [Value.int n t] (fun v _ _ => ∃ t, v = .str (lisF n) t) := by
  unfold Tel P KK V LO; k_fill
  intro dp un gd cn cs a ccd cl outer A₀ base h₀ L m s mean mg mb Q E B F X T hk hd hu hp hret
  have hn9 : LisN n := ⟨n0, n1⟩
  refine wpAny_call ?_
  k_dflt (refine' enterBC ?k1 ?k2 ?k3 ?k5 ?kA ?kF ?kK ?k6 ?k7 ?k8 ?k9 ?kB ?kD ?_ ?c2 ?c3 ?c4; (case kA => exact rfl); (case kF => exact rfl); (case kK => assumption); (case k1 => k_asm); (case k2 => k_asm); (case k3 => k_asm); (case k5 => k_asm); (case k6 => k_is); (case k7 => k_is); (case k8 => k_room); (case k9 => first | exact BindsTo.of_eq rfl | exact binds_K (by k_in) rfl (by k_is) rfl rfl rfl); (case kB => exact rfl); (case kD => decide +kernel); (case c2 => exact rfl); (case c3 => exact rfl); (case c4 => exact rfl); k_whole; intro L' h' tk' cells' F' N' Y' B' X' T'; k_cells Y'; (try simp only [List.cons_append, List.nil_append, List.append_nil] at N'); (try dsimp only); (try k_fold))
  clear F X T B
  w_top off
  k_steps
  all_goals (exact hret _ _ _ (Fr.keep (by assumption)) ⟨_, rfl⟩)
end Mine
-- part B64
namespace Mine
open PySem PySem.W PySem.Calls PyProof.Rows
set_option maxRecDepth 100000
local macro_rules | `(tactic| k_room) => `(tactic| (simp only [depth_deeper, depth_in1, recursionLimit]; omega))
local macro_rules | `(tactic| k_units) => `(tactic| (simp only [units_deeper, units_in1, cLine]; omega))
/-- one octet taken in: the bits left, the letter at hand, the figures so far -/
def b64C (c k : Int) : Int := Builtin.bitAnd (Builtin.bitOr (c * 2 ^ Int.toNat 8) k) 65535
def b64G (σ : Int × Int × List Int) (k : Int) : Int × Int × List Int :=
  if σ.1 = 0 then (2, b64C σ.2.1 k, σ.2.2 ++ [Builtin.bitAnd ((b64C σ.2.1 k).fdiv (2 ^ (0 + 8 - 6 : Int).toNat)) 63])
  else if σ.1 = 2 then (4, b64C σ.2.1 k, σ.2.2 ++ [Builtin.bitAnd ((b64C σ.2.1 k).fdiv (2 ^ (2 + 8 - 6 : Int).toNat)) 63])
  else (0, b64C σ.2.1 k, σ.2.2 ++ [Builtin.bitAnd ((b64C σ.2.1 k).fdiv (2 ^ (4 + 8 - 6 : Int).toNat)) 63] ++ [Builtin.bitAnd ((b64C σ.2.1 k).fdiv (2 ^ (4 + 8 - 6 - 6 : Int).toNat)) 63])
/-- the state after some octets -/
def b64N (ks : List Int) : Int × Int × List Int := ks.foldl b64G (0, 0, [])
structure B64Ok (i : Nat) (σ : Int × Int × List Int) : Prop where
  ph : σ.1 = 0 ∨ σ.1 = 2 ∨ σ.1 = 4
  lo : 0 ≤ σ.2.1
  hi : σ.2.1 < 65536
  len : σ.2.2.length ≤ 2 * i
theorem b64C_in (c k : Int) : 0 ≤ b64C c k ∧ b64C c k < 65536 := by
  unfold b64C
  rw [bitAnd_m16]
  omega
theorem B64Ok.next {i : Nat} {σ : Int × Int × List Int} {k : Int} (h : B64Ok i σ) : B64Ok (i + 1) (b64G σ k) := by
  obtain ⟨ph, lo, hi, len⟩ := h
  have hc := b64C_in σ.2.1 k
  unfold b64G
  split
  · exact ⟨.inr (.inl rfl), hc.1, hc.2, by simp only [List.length_append, List.length_cons, List.length_nil]; omega⟩
  · split
    · exact ⟨.inr (.inr rfl), hc.1, hc.2, by simp only [List.length_append, List.length_cons, List.length_nil]; omega⟩
    · exact ⟨.inl rfl, hc.1, hc.2, by simp only [List.length_append, List.length_cons, List.length_nil]; omega⟩
theorem b64N_ok (ks : List Int) : ∀ i, B64Ok i (b64N (ks.take i))
  | 0 => by rw [List.take_zero]; exact ⟨.inl rfl, by decide, by decide, by decide⟩
  | i + 1 => by
    by_cases h : i < ks.length
    · rw [List.take_add_one, List.getElem?_eq_getElem h]
      unfold b64N
      rw [List.foldl_append]
      exact (b64N_ok ks i).next
    · have e : ks.take (i + 1) = ks.take i := by rw [List.take_of_length_le (by omega), List.take_of_length_le (by omega)]
      rw [e]
      have q := b64N_ok ks i
      exact ⟨q.ph, q.lo, q.hi, Nat.le_trans q.len (by omega)⟩
def frB (m₀ : Str → Option Value) (vb : Option Value) (lb lc : Int) (t1 t2 : Tok) : Str → Option Value := fun y => if y = Str.ofString "b" then vb else if y = Str.ofString "leftbits" then some (.int lb t1) else if y = Str.ofString "leftchar" then some (.int lc t2) else m₀ y
def B64End (h₀ : Heap) (L : Addr) (m₀ : Str → Option Value) (l I : Addr) (oI : Obj) (σ : Int × Int × List Int) (s₁ : Shared) (f : Flow) (s₂ : Shared) : Prop :=
  f = .next ∧ ∃ h' tk vs c t1 t2 vb, s₂ = { s₁ with heap := h', toks := tk } ∧ Fr h₀ L h' (frB m₀ vb σ.1 σ.2.1 t1 t2) ∧ News h₀ L h' [(I, oI), (l, listOf (List.toArray vs) c)] ∧ IntsAre vs (σ.2.2.map sg)
section
variable {prog : Program} {w : World} {A : Around} {E : Value → Shared → Prop} {s : Shared} {env : Env} {h₀ : Heap} {body orelse : List Stmt} {Q : Flow → Shared → Prop} {target : PySem.Expr}
theorem sg_in (k : Int) : 0 ≤ sg k ∧ sg k < 256 := by
  unfold sg
  have := (B64L.getD k.toNat 0).toNat_lt
  omega
/-- the bytes of the signs -/
def sgB (fs : List Int) : Array UInt8 := (fs.map fun k => B64L.getD k.toNat 0).toArray
theorem sgB_eq (fs : List Int) : ((fs.map sg).map fun n => n.toNat.toUInt8).toArray = sgB fs := by
  unfold sgB
  congr 1
  rw [List.map_map]
  refine List.map_congr_left fun k _ => ?_
  show (((B64L.getD k.toNat 0).toNat : Int)).toNat.toUInt8 = B64L.getD k.toNat 0
  rw [Int.toNat_natCast]
  exact UInt8.ofNat_toNat
theorem bytesSg {h₀ : Heap} {L l : Addr} {m : Str → Option Value} {news : List (Addr × Obj)} {vs : List Value} {fs : List Int} {Q : Value → Shared → Prop} (F : Fr h₀ L s.heap m) (N : News h₀ L s.heap news) (hl : s.heap.IsList l vs.toArray) (hi : IntsAre vs (fs.map sg)) (hz : fs.length ≤ 1048576) (hh : A.handled = none)
    (h : ∀ h' t k, Fr h₀ L h' m → News h₀ L h' news → Q (.bytes (sgB fs) t) { s with heap := h', toks := k }) : wpAny (model prog w) A (call (.type "bytes") [.ref l]) Q E s :=
  bytes_K F N hl hi (fun n hn => by
    obtain ⟨k, _, rfl⟩ := List.mem_map.mp hn
    exact sg_in k) (by have e := hi.length; rw [List.length_map] at e; rw [PySem.sizeLine_eq, e]; omega) hh fun h' t k F' N' _ => by
    rw [sgB_eq]; exact h h' t k F' N'
theorem letGo_bytesiter {I : Addr} {b : Array UInt8} {t : Tok} {i : Nat} {v : Value} {Q' : Unit → Shared → Prop} {s' : Shared} (hit : KBw.IsBytesIter s'.heap I b t i) (h : Q' () s') :
    wpAny (model prog w) A (letOwnedTupleGo target (.ref I) v) Q' E s' := by
  obtain ⟨o, ho, hc, hd⟩ := hit
  unfold letOwnedTupleGo
  cases target <;> first
    | exact wpAny_pure h
    | (cases v <;> first
        | exact wpAny_pure h
        | (refine wpAny_bind (wpAny_load ho ?_)
           rw [hc, hd]
           exact wpAny_pure h))
theorem forB64 {b : Array UInt8} {t t1 t2 : Tok} {l : Addr} {c0 : Nat} {m₀ : Str → Option Value}
    (hh : A.handled = none) (F : Fr h₀ env.locals s.heap m₀) (N : News h₀ env.locals s.heap [(l, listOf #[] c0)]) (hE : PassesOwn (model prog w) A env E)
    (hz : (b64N (KBw.bInts b)).1 = 0) (h1 : m₀ (Str.ofString "leftbits") = some (.int 0 t1)) (h2 : m₀ (Str.ofString "leftchar") = some (.int 0 t2))
    (turn : ∀ (k : Int) (t : Tok) (lb lc : Int) (figs : List Int) vs c t1 t2 vb h tk I oI (i : Nat), 0 ≤ k → k < 256 → i < b.size → (lb = 0 ∨ lb = 2 ∨ lb = 4) → 0 ≤ lc → lc < 65536 → IntsAre vs (figs.map sg) → figs.length ≤ 2 * i → (@LT.lt Nat _ l I) →
      Fr h₀ env.locals h (frB m₀ vb lb lc t1 t2) → News h₀ env.locals h [(I, oI), (l, listOf (List.toArray vs) c)] →
      wpAny (model prog w) A (assign target env (.int k t)) (fun _ s₂ => wpAny (model prog w) A (execs body env) (B64End h₀ env.locals m₀ l I oI (b64G (lb, lc, figs) k) { s with heap := h, toks := tk }) E s₂) E { s with heap := h, toks := tk })
    (last : ∀ h' tk vs c t1 t2 vb, (b64N (KBw.bInts b)).2.2.length ≤ 2 * b.size → Fr h₀ env.locals h' (frB m₀ vb 0 (b64N (KBw.bInts b)).2.1 t1 t2) → News h₀ env.locals h' [(l, listOf (List.toArray vs) c)] → IntsAre vs ((b64N (KBw.bInts b)).2.2.map sg) →
      wpAny (model prog w) A (execs orelse env) Q E { s with heap := h', toks := tk }) :
    wpAny (model prog w) A (pyIter (.bytes b t)) (fun it s₂ => codeAny (model prog w) A (.forLoop target it body orelse env) (fun r s' => match r with | .ok f => Q f s' | .error e => cameBackBy (model prog w) A env E e s') s₂) E s := by
  refine KBw.pyIter_bytes ?_
  have W := KBw.walks (prog := prog) (w := w) hh s.heap.objs.size b t
  have hLs : @LT.lt Nat _ env.locals s.heap.objs.size := F.ns.lt
  refine loopElse (s := { s with heap := s.heap.push { cls := .type "bytes_iterator", data := .fields #[.bytes b t, .int 0 0] } }) (KTurns.ofWalks W fun i v s Q E st q => letGo_bytesiter st q) ?_ ?_ ?_ ⟨_, Heap.get?_push_size _ rfl, rfl, rfl⟩ (F.push _)
    (fun p hp => ⟨Heap.get?_push_of_some _ (N p hp).1, (N p hp).2⟩)
    (fun i m₁ n₁ => ∃ vs c t1 t2 vb, n₁ = [(l, listOf (List.toArray vs) c)] ∧ IntsAre vs ((b64N ((KBw.bInts b).take i)).2.2.map sg) ∧ m₁ = frB m₀ vb (b64N ((KBw.bInts b).take i)).1 (b64N ((KBw.bInts b).take i)).2.1 t1 t2)
    ⟨[], c0, t1, t2, m₀ (Str.ofString "b"), rfl, IntsAre.nil, ?_⟩ hE ?_ ?_
  · intro hm
    exact absurd (List.mem_singleton.mp hm) (Nat.ne_of_lt hLs)
  · intro b' hb'
    rw [List.mem_singleton.mp hb']
    exact ktu_new F (Nat.le_refl _)
  · intro p hp hI
    exact absurd (List.mem_singleton.mp hI) (Nat.ne_of_lt (Heap.lt_size (N p hp).1))
  · funext y
    unfold frB
    rw [List.take_zero]
    by_cases e1 : y = Str.ofString "b"
    · rw [if_pos e1, e1]
    · rw [if_neg e1]
      by_cases e2 : y = Str.ofString "leftbits"
      · rw [if_pos e2, e2]; exact h1
      · rw [if_neg e2]
        by_cases e3 : y = Str.ofString "leftchar"
        · rw [if_pos e3, e3]; exact h2
        · rw [if_neg e3]
  · intro i v m₁ news₁ h₁ tk₁ own hin hP hJ hoff hown hget hall hst₁ F₁ N₁
    obtain ⟨cc, u, hc, rfl⟩ := hP
    obtain ⟨vs, c, t1, t2, vb, rfl, hI, rfl⟩ := hJ
    obtain ⟨oI, hoI, hIc, _⟩ := id hst₁
    have hIn : (s.heap.objs.size, oI) ∈ own := hall _ (List.mem_singleton.mpr rfl) (ktu_new F (Nat.le_refl _)) oI hoI
    have hlI : l ≠ s.heap.objs.size := fun e => hoff _ (List.mem_singleton.mpr rfl) (List.mem_singleton.mpr e)
    have N₂ : News h₀ env.locals h₁ [(s.heap.objs.size, oI), (l, listOf (List.toArray vs) c)] := fun p hp => by
      rcases List.mem_cons.mp hp with rfl | hp
      · exact N₁ _ (List.mem_append_left _ hIn)
      · exact N₁ _ (List.mem_append_right _ hp)
    have hk := KBw.ints_get hc
    have hr := KBw.ints_in (List.mem_of_getElem? hk)
    have ok := b64N_ok (KBw.bInts b) i
    have e1 : (KBw.bInts b).take (i + 1) = (KBw.bInts b).take i ++ [(cc.toNat : Int)] := by rw [List.take_add_one, hk]; rfl
    have e2 : b64N ((KBw.bInts b).take (i + 1)) = b64G (b64N ((KBw.bInts b).take i)) (cc.toNat : Int) := by
      rw [e1]; unfold b64N; rw [List.foldl_append]; rfl
    have st := turn (cc.toNat : Int) u (b64N ((KBw.bInts b).take i)).1 (b64N ((KBw.bInts b).take i)).2.1 (b64N ((KBw.bInts b).take i)).2.2 vs c t1 t2 vb h₁ tk₁ s.heap.objs.size oI i hr.1 hr.2 hin ok.ph ok.lo ok.hi hI ok.len (Heap.lt_size (N _ (List.mem_singleton.mpr rfl)).1) F₁ N₂
    refine wpAny_mono st (fun _ s₂ y => wpAny_mono y (fun f s₃ z => ?_) fun _ _ e => e) fun _ _ e => e
    obtain ⟨rfl, h₃, tk₃, vs₃, c₃, t₃, u₃, vb₃, rfl, F₃, N₃, I₃⟩ := z
    refine ⟨h₃, tk₃, _, [(l, listOf (List.toArray vs₃) c₃)], rfl, F₃, fun p hp => ?_, fun p hp => ?_, vs₃, c₃, t₃, u₃, vb₃, rfl, ?_, ?_⟩
    · rcases List.mem_append.mp hp with hp | hp
      · have g1 := hget p hp
        have e := List.mem_singleton.mp (hown p hp)
        have e3 : p = (s.heap.objs.size, oI) := Prod.ext e (Option.some.inj (g1.symm.trans (e ▸ hoI)))
        rw [e3]; exact N₃ _ (List.mem_cons_self ..)
      · exact N₃ _ (List.mem_cons_of_mem _ hp)
    · rw [List.mem_singleton.mp hp]
      exact fun q => hlI (List.mem_singleton.mp q)
    · rw [e2]; exact I₃
    · rw [e2]
  · intro h₃ tk m' news' F' N' hJ
    obtain ⟨vs, c, t1, t2, vb, rfl, hI, rfl⟩ := hJ
    have e : (KBw.bInts b).take b.size = KBw.bInts b := List.take_of_length_le (Nat.le_of_eq (KBw.ints_length b))
    have ok := b64N_ok (KBw.bInts b) b.size
    rw [e] at hI F' ok
    rw [hz] at F'
    exact last h₃ tk vs c t1 t2 vb ok.len F' N' hI
end
theorem B64End.intro {h₀ : Heap} {L : Addr} {m₀ m' : Str → Option Value} {l I : Addr} {oI : Obj} {σ : Int × Int × List Int} {s₁ : Shared} {h' : Heap} {tk : Nat} {vs : List Value} {a : Array Value} {c : Nat} {t1 t2 : Tok} {news : List (Addr × Obj)}
    (F : Fr h₀ L h' m') (N : News h₀ L h' news) (n1 : (I, oI) ∈ news) (n2 : (l, listOf a c) ∈ news) (ha : a = List.toArray vs) (hi : IntsAre vs (σ.2.2.map sg))
    (h1 : m' (Str.ofString "leftbits") = some (.int σ.1 t1)) (h2 : m' (Str.ofString "leftchar") = some (.int σ.2.1 t2)) (h3 : ∀ y, y ≠ Str.ofString "b" → y ≠ Str.ofString "leftbits" → y ≠ Str.ofString "leftchar" → m' y = m₀ y) :
    B64End h₀ L m₀ l I oI σ s₁ .next { s₁ with heap := h', toks := tk } := by
  subst ha
  have e : m' = frB m₀ (m' (Str.ofString "b")) σ.1 σ.2.1 t1 t2 := by
    funext y
    unfold frB
    by_cases e1 : y = Str.ofString "b"
    · rw [if_pos e1, e1]
    · rw [if_neg e1]
      by_cases e2 : y = Str.ofString "leftbits"
      · rw [if_pos e2, e2]; exact h1
      · rw [if_neg e2]
        by_cases e3 : y = Str.ofString "leftchar"
        · rw [if_pos e3, e3]; exact h2
        · rw [if_neg e3]; exact h3 y e1 e2 e3
  rw [e] at F
  refine ⟨rfl, h', tk, vs, c, t1, t2, _, rfl, F, fun p hp => ?_, hi⟩
  rcases List.mem_cons.mp hp with rfl | hp
  · exact N _ n1
  · rw [List.mem_singleton.mp hp]; exact N _ n2
theorem sizeB64 {vs : List Value} {figs : List Int} {i n : Nat} (hI : IntsAre vs (figs.map sg)) (hL : figs.length ≤ 2 * i) (hi : i < n) (hn : n ≤ 48) : vs.length ≤ 100 := by
  have e := hI.length
  rw [List.length_map] at e
  omega
theorem intsSnoc {vs : List Value} {figs : List Int} {f : Int} {t : Tok} (hI : IntsAre vs (figs.map sg)) : IntsAre (vs ++ [.int (sg f) t]) ((figs ++ [f]).map sg) := by
  rw [List.map_append]
  exact IntsAre.append hI (.cons _ _ .nil)
local macro_rules | `(tactic| walk_at "call builtin:list.append") => `(tactic| (k_here; (k_dflt (refine' append_K ?k1 ?k2 ?k3 ?_ ?z; (case k1 => k_asm); (case k2 => k_asm); (case k3 => k_upd); (case z => (have hz9 := sizeB64 (by assumption) (by assumption) (by assumption) (by assumption); simp only [Array.size_push, List.size_toArray, PySem.sizeLine_eq]; omega)); k_whole)); intro h' F' N'))
local macro_rules | `(tactic| walk_at "B64End") => `(tactic| ((k_dflt (refine' B64End.intro ?k1 ?k2 ?k3 ?k4 ?k5 ?k6 ?k7 ?k8 ?k9; (case k1 => assumption); (case k2 => assumption); (case k3 => k_mem); (case k4 => k_mem); (case k5 => (simp only [List.push_toArray]; rfl)); (case k6 => first | exact intsSnoc (by assumption) | exact intsSnoc (intsSnoc (by assumption))); (case k7 => rfl); (case k8 => rfl); (case k9 => (intro y' y1 y2 y3; simp only [if_neg y1, if_neg y2, if_neg y3]))))))
local macro_rules | `(tactic| walk_at "subscriptTail Name") => `(tactic| (k_here; (k_dflt (refine' itemSg ?k1 ?k2 ?_ ?k3 ?k4; (case k1 => (simp only [bitAnd_m6]; omega)); (case k2 => (simp only [bitAnd_m6]; omega)); (case k3 => with_unfolding_all rfl); (case k4 => (intro _; with_unfolding_all rfl))))))
local macro_rules | `(tactic| walk_at "call type:bytes") => `(tactic| (k_here; (k_dflt (refine' bytesSg ?F ?N ?l ?i ?z ?h ?_; (case F => k_asm); (case N => k_asm); (case l => is_list); (case i => assumption); (case z => omega); (case h => with_unfolding_all rfl); k_whole); intro h' t' k' F' N')))
local macro_rules | `(tactic| walk_at "exec For") => `(tactic| (k_here; k_dflt (refine wpAny_For ?_)))
local macro_rules | `(tactic| walk_at "exec For Name Name cons nil") => `(tactic| (k_here; k_dflt (refine wpAny_For ?_)))
local macro_rules | `(tactic| walk_at "pyIter bytes") => `(tactic| (k_here; (k_dflt (refine' forB64 ?k1 ?k2 ?k3 ?k4 ?kz ?k5 ?k6 ?_ ?_; (case kz => assumption); (case k1 => rfl); (case k2 => k_asm); (case k3 => k_asm); (case k4 => passes_own); (case k5 => rfl); (case k6 => rfl))); (all_goals (try (intro k' t' lb' lc' figs' vs' c' t1' t2' vb' h' tk' I' oI' i' k0' k1' hi' hph' lc0' lc1' hI' hL' hne' F' N'; unfold frB at F'; (rcases hph' with hp' | hp' | hp' <;> subst hp')))); (all_goals (try (intro h' tk' vs' c' t1' t2' vb' hL' F' N' hI'; unfold frB at F')))))
local macro_rules | `(tactic| walk_at "call type:type") => `(tactic| (k_here; k_dflt (refine call_type_of (Tx := "bytes") rfl (by decide +kernel) ?_)))
set_option maxHeartbeats 8000000 in
theorem b64_tel {w : World} {b : Array UInt8} {t : Tok} (hb : b.size ≤ 48) (hz : (b64N (KBw.bInts b)).1 = 0) :
    Tel w 107 900 9000 (fun h => True)
      [Value.bytes b t] (fun v _ _ => ∃ t, v = .bytes (sgB (b64N (KBw.bInts b)).2.2) t) := by
  unfold Tel P KK V LO; k_fill
  intro dp un gd cn cs a ccd cl outer A₀ base h₀ L m s mean mg mb Q E B F X T hk hd hu hp hret
  refine wpAny_call ?_
  k_dflt (refine' enterB ?k1 ?k2 ?k3 ?k5 ?kA ?kF ?kK ?k6 ?k7 ?k8 ?k9 ?kB ?_ ?c2 ?c3 ?c4 ?c5; (case kA => exact rfl); (case kF => exact rfl); (case kK => assumption); (case k1 => k_asm); (case k2 => k_asm); (case k3 => k_asm); (case k5 => k_asm); (case k6 => k_is); (case k7 => k_is); (case k8 => k_room); (case k9 => first | exact BindsTo.of_eq rfl | exact binds_K (by k_in) rfl (by k_is) rfl rfl rfl); (case c5 => decide); (case kB => exact locs rfl); (case c2 => exact rfl); (case c3 => exact rfl); (case c4 => exact rfl); k_whole; intro L' h' F' B' X' T' N'; (try dsimp only); (try k_fold))
  clear F X T B
  w_top off
  k_steps
  all_goals try (dsimp only)
  all_goals try (exact hret _ _ _ (Fr.keep (by assumption)) ⟨_, rfl⟩)
end Mine
-- part WriL
namespace Mine
open PySem PySem.W PySem.Calls PyProof.Rows
set_option maxRecDepth 100000
local macro_rules | `(tactic| k_room) => `(tactic| (simp only [depth_deeper, depth_in1, recursionLimit]; omega))
local macro_rules | `(tactic| k_units) => `(tactic| (simp only [units_deeper, units_in1, cLine]; omega))
/-- four figures joined -/
def whF (g : List Int) : Int := g.foldl (fun m f => Builtin.bitOr (m * 2 ^ Int.toNat 6) f) 0
theorem and_shift : ∀ (k : Nat) (m f : Int), 0 ≤ f → f < 2 ^ k → Builtin.bitAnd (m * 2 ^ k) f = 0
  | 0, m, f, h0, h1 => by
    have e : f = 0 := by
      have : (2 : Int) ^ 0 = 1 := rfl
      omega
    subst e
    have := kbt_mask (m * 2 ^ 0) 0
    simpa using this
  | k + 1, m, f, h0, h1 => by
    rw [kbt_halves]
    have e2 : (2 : Int) ^ (k + 1) = 2 ^ k * 2 := Int.pow_succ ..
    have e1 : m * 2 ^ (k + 1) = (m * 2 ^ k) * 2 := by rw [e2, Int.mul_assoc]
    have e3 : m * 2 ^ (k + 1) / 2 = m * 2 ^ k := by rw [e1]; exact Int.mul_ediv_cancel _ (by decide)
    have e4 : m * 2 ^ (k + 1) % 2 = 0 := by rw [e1]; exact Int.mul_emod_left ..
    rw [e3, e4, and_shift k m (f / 2) (by omega) (by rw [e2] at h1; omega)]
    simp
theorem or_shift (k : Nat) (m f : Int) (h0 : 0 ≤ f) (h1 : f < 2 ^ k) : Builtin.bitOr (m * 2 ^ k) f = m * 2 ^ k + f := by
  rw [bitOr_and, and_shift k m f h0 h1]; omega
theorem or6 (m f : Int) (h0 : 0 ≤ f) (h1 : f < 64) : Builtin.bitOr (m * 2 ^ Int.toNat 6) f = m * 64 + f := or_shift 6 m f h0 h1
theorem whF_in : ∀ (i : Nat) (g : List Int), AllIn g 64 → 0 ≤ whF (g.take i) ∧ whF (g.take i) < 64 ^ i
  | 0, g, _ => by rw [List.take_zero]; exact ⟨by decide, by decide⟩
  | i + 1, g, hg => by
    obtain ⟨a, b⟩ := whF_in i g hg
    have e2 : (64 : Int) ^ (i + 1) = 64 ^ i * 64 := Int.pow_succ ..
    rw [List.take_add_one, e2]
    cases hx : g[i]? with
    | none => simp only [Option.toList, List.append_nil]; omega
    | some x =>
      have hr := hg x (List.mem_of_getElem? hx)
      simp only [Option.toList]
      unfold whF at *
      rw [List.foldl_append]
      show 0 ≤ Builtin.bitOr (_ * 2 ^ Int.toNat 6) x ∧ Builtin.bitOr (_ * 2 ^ Int.toNat 6) x < _
      rw [or6 _ _ hr.1 hr.2]
      omega
def frV (m₀ : Str → Option Value) (vf : Option Value) (x : Int) (tw : Tok) : Str → Option Value := fun y => if y = Str.ofString "figure" then vf else if y = Str.ofString "whole" then some (.int x tw) else m₀ y
def WhEnd (h₀ : Heap) (L : Addr) (m₀ : Str → Option Value) (I : Addr) (oI : Obj) (news : List (Addr × Obj)) (x : Int) (s₁ : Shared) (f : Flow) (s₂ : Shared) : Prop :=
  f = .next ∧ ∃ h' tk vf tw, s₂ = { s₁ with heap := h', toks := tk } ∧ Fr h₀ L h' (frV m₀ vf x tw) ∧ News h₀ L h' ((I, oI) :: news)
theorem WhEnd.intro {h₀ : Heap} {L : Addr} {m₀ m' : Str → Option Value} {I : Addr} {oI : Obj} {news all : List (Addr × Obj)} {x : Int} {s₁ : Shared} {h' : Heap} {tk : Nat} {tw : Tok}
    (F : Fr h₀ L h' m') (N : News h₀ L h' all) (sub : SubL ((I, oI) :: news) all) (h1 : m' (Str.ofString "whole") = some (.int x tw)) (h3 : ∀ y, y ≠ Str.ofString "figure" → y ≠ Str.ofString "whole" → m' y = m₀ y) :
    WhEnd h₀ L m₀ I oI news x s₁ .next { s₁ with heap := h', toks := tk } := by
  have e : m' = frV m₀ (m' (Str.ofString "figure")) x tw := by
    funext y
    unfold frV
    by_cases e1 : y = Str.ofString "figure"
    · rw [if_pos e1, e1]
    · rw [if_neg e1]
      by_cases e2 : y = Str.ofString "whole"
      · rw [if_pos e2, e2]; exact h1
      · rw [if_neg e2]; exact h3 y e1 e2
  rw [e] at F
  exact ⟨rfl, h', tk, _, tw, rfl, F, fun p hp => N p (sub.mem p hp)⟩
section
variable {prog : Program} {w : World} {A : Around} {E : Value → Shared → Prop} {s : Shared} {env : Env} {h₀ : Heap} {body orelse : List Stmt} {Q : Flow → Shared → Prop} {target : PySem.Expr}
theorem letGo_rangeiter {I : Addr} {x y z : Int} {v : Value} {Q' : Unit → Shared → Prop} {s' : Shared} (hit : IsRangeIter s'.heap I x y z) (h : Q' () s') :
    wpAny (model prog w) A (letOwnedTupleGo target (.ref I) v) Q' E s' := by
  have ho : s'.heap.get? I = some _ := hit
  unfold letOwnedTupleGo
  cases target <;> first
    | exact wpAny_pure h
    | (cases v <;> first
        | exact wpAny_pure h
        | (refine wpAny_bind (wpAny_load ho ?_)
           exact wpAny_pure h))
theorem forWhole {g : List Int} {ws : List Value} {D : Addr} {c0 : Nat} {t0 : Tok} {news : List (Addr × Obj)} {m₀ : Str → Option Value}
    (hi : IntsAre ws g) (hg : AllIn g 64) (hl : g.length ≤ 4)
    (hh : A.handled = none) (F : Fr h₀ env.locals s.heap m₀) (N : News h₀ env.locals s.heap ((D, listOf ws.toArray c0) :: news)) (hE : PassesOwn (model prog w) A env E)
    (h1 : m₀ (Str.ofString "whole") = some (.int 0 t0))
    (turn : ∀ (f : Int) (t : Tok) (x : Int) (tw : Tok) vf h tk I oI, 0 ≤ f → f < 64 → 0 ≤ x → x < 16777216 → (∀ p ∈ (D, listOf ws.toArray c0) :: news, p.1 < I) →
      Fr h₀ env.locals h (frV m₀ vf x tw) → News h₀ env.locals h ((I, oI) :: (D, listOf ws.toArray c0) :: news) →
      wpAny (model prog w) A (assign target env (.int f t)) (fun _ s₂ => wpAny (model prog w) A (execs body env) (WhEnd h₀ env.locals m₀ I oI ((D, listOf ws.toArray c0) :: news) (Builtin.bitOr (x * 2 ^ Int.toNat 6) f) { s with heap := h, toks := tk }) E s₂) E { s with heap := h, toks := tk })
    (last : ∀ h' tk vf tw, Fr h₀ env.locals h' (frV m₀ vf (whF g) tw) → News h₀ env.locals h' ((D, listOf ws.toArray c0) :: news) → 0 ≤ whF g → whF g < 16777216 →
      wpAny (model prog w) A (execs orelse env) Q E { s with heap := h', toks := tk }) :
    wpAny (model prog w) A (pyIter (.ref D)) (fun it s₂ => codeAny (model prog w) A (.forLoop target it body orelse env) (fun r s' => match r with | .ok f => Q f s' | .error e => cameBackBy (model prog w) A env E e s') s₂) E s := by
  refine forMadeJ (vs := ws) (c := c0) hh (List.mem_cons_self ..) F N hE (fun i m₁ n₁ => n₁ = (D, listOf ws.toArray c0) :: news ∧ ∃ vf tw, m₁ = frV m₀ vf (whF (g.take i)) tw)
    ⟨rfl, m₀ (Str.ofString "figure"), t0, ?_⟩ (fun i m n h => by rw [h.1]; exact List.mem_cons_self ..) ?_ ?_
  · funext y
    unfold frV
    rw [List.take_zero]
    split
    · next e => rw [e]
    · split
      · next e => rw [e]; exact h1
      · rfl
  · rintro i v m₁ n₁ h₁ tk₁ I oI hv ⟨rfl, vf, tw, rfl⟩ hlt hoff F₁ N₁
    obtain ⟨f, tf, rfl, hf⟩ := IntsAre.at hi i v hv
    have hr := hg f (List.mem_of_getElem? hf)
    have hi4 : i ≤ 3 := by
      have := (List.getElem?_eq_some_iff.mp hf).1
      omega
    obtain ⟨w0, w1⟩ := whF_in i g hg
    have hw : whF (g.take i) < 16777216 := Int.lt_of_lt_of_le w1 (by
      rcases (by omega : i = 0 ∨ i = 1 ∨ i = 2 ∨ i = 3) with rfl | rfl | rfl | rfl <;> decide)
    have e2 : whF (g.take (i + 1)) = Builtin.bitOr (whF (g.take i) * 2 ^ Int.toNat 6) f := by
      rw [List.take_add_one, hf]; unfold whF; rw [Option.toList, List.foldl_append]; rfl
    refine wpAny_mono (turn f tf (whF (g.take i)) tw vf h₁ tk₁ I oI hr.1 hr.2 w0 hw hlt F₁ N₁) (fun _ s₂ y => wpAny_mono y (fun f s₃ z => ?_) fun _ _ e => e) fun _ _ e => e
    obtain ⟨rfl, h₃, tk₃, vf₃, tw₃, rfl, F₃, N₃⟩ := z
    exact ⟨h₃, tk₃, _, (D, listOf ws.toArray c0) :: news, rfl, F₃, N₃, hoff, rfl, vf₃, tw₃, by rw [e2]⟩
  · rintro h₃ tk m' n' F' N' ⟨rfl, vf, tw, rfl⟩
    have e : g.take ws.length = g := List.take_of_length_le (by rw [hi.length]; exact Nat.le_refl _)
    obtain ⟨w0, w1⟩ := whF_in g.length g hg
    rw [List.take_length] at w0 w1
    rw [e] at F'
    refine last h₃ tk vf tw F' N' w0 (Int.lt_of_lt_of_le w1 ?_)
    rcases (by omega : g.length = 0 ∨ g.length = 1 ∨ g.length = 2 ∨ g.length = 3 ∨ g.length = 4) with h | h | h | h | h <;> rw [h] <;> decide
end
theorem AllIn.part {ns : List Int} {x : Int} {a b : Nat} (h : AllIn ns x) : AllIn ((ns.drop a).take b) x := fun k hk => h k (List.mem_of_mem_drop (List.mem_of_mem_take hk))
theorem sliceInts {ws : List Value} {ns : List Int} {p : Int} {i : Nat} (h : IntsAre ws (List.take (min (p + 4).toNat ns.length - p.toNat) (List.drop p.toNat ns))) (hp : p = 4 * (i : Int)) (hi : i < 16) (hl : ns.length = 64) : IntsAre ws ((ns.drop (4 * i)).take 4) := by
  have e1 : p.toNat = 4 * i := by omega
  have e2 : min (p + 4).toNat ns.length - p.toNat = 4 := by omega
  rw [e2, e1] at h
  exact h
/-- the octets of four figures joined -/
def oct3 (x : Int) : List Int := [x.fdiv (2 ^ Int.toNat 16), Builtin.bitAnd (x.fdiv (2 ^ Int.toNat 8)) 255, Builtin.bitAnd x 255]
def octN (ns : List Int) (i : Nat) : List Int := (List.range i).flatMap fun j => oct3 (whF ((ns.drop (4 * j)).take 4))
theorem octN_succ (ns : List Int) (i : Nat) : octN ns (i + 1) = octN ns i ++ oct3 (whF ((ns.drop (4 * i)).take 4)) := by
  unfold octN
  rw [List.range_succ, List.flatMap_append]
  simp
def frW (m₀ : Str → Option Value) (lo : Addr) (va vw vf : Option Value) : Str → Option Value := fun y => if y = Str.ofString "figure" then vf else if y = Str.ofString "whole" then vw else if y = Str.ofString "at" then va else if y = Str.ofString "octets" then some (.ref lo) else m₀ y
def WriEnd (h₀ : Heap) (L : Addr) (m₀ : Str → Option Value) (I : Addr) (oI : Obj) (os : List Int) (s₁ : Shared) (f : Flow) (s₂ : Shared) : Prop :=
  f = .next ∧ ∃ h' tk lo vs c va vw vf, s₂ = { s₁ with heap := h', toks := tk } ∧ Fr h₀ L h' (frW m₀ lo va vw vf) ∧ News h₀ L h' [(I, oI), (lo, listOf (List.toArray vs) c)] ∧ IntsAre vs os ∧ (@Ne Nat lo I)
section
variable {prog : Program} {w : World} {A : Around} {E : Value → Shared → Prop} {s : Shared} {env : Env} {h₀ : Heap} {body orelse : List Stmt} {Q : Flow → Shared → Prop} {target : PySem.Expr}
theorem forOct {ns : List Int} {r : Addr} {t u v : Tok} {l : Addr} {c0 : Nat} {m₀ : Str → Option Value} (_hn : ns.length = 64)
    (hh : A.handled = none) (hr : IsRange s.heap r 0 64 4 t u v) (F : Fr h₀ env.locals s.heap m₀) (N : News h₀ env.locals s.heap [(l, listOf #[] c0)]) (hE : PassesOwn (model prog w) A env E)
    (h1 : m₀ (Str.ofString "octets") = some (.ref l))
    (turn : ∀ (i : Nat) (p : Int) (t : Tok) lo vs c va vw vf h tk I oI, p = 4 * (i : Int) → i < 16 → IntsAre vs (octN ns i) → (@Ne Nat lo I) →
      Fr h₀ env.locals h (frW m₀ lo va vw vf) → News h₀ env.locals h [(I, oI), (lo, listOf (List.toArray vs) c)] →
      wpAny (model prog w) A (assign target env (.int p t)) (fun _ s₂ => wpAny (model prog w) A (execs body env) (WriEnd h₀ env.locals m₀ I oI (octN ns i ++ oct3 (whF ((ns.drop (4 * i)).take 4))) { s with heap := h, toks := tk }) E s₂) E { s with heap := h, toks := tk })
    (last : ∀ h' tk lo vs c va vw vf, Fr h₀ env.locals h' (frW m₀ lo va vw vf) → News h₀ env.locals h' [(lo, listOf (List.toArray vs) c)] → IntsAre vs (octN ns 16) →
      wpAny (model prog w) A (execs orelse env) Q E { s with heap := h', toks := tk }) :
    wpAny (model prog w) A (pyIter (.ref r)) (fun it s₂ => codeAny (model prog w) A (.forLoop target it body orelse env) (fun r s' => match r with | .ok f => Q f s' | .error e => cameBackBy (model prog w) A env E e s') s₂) E s := by
  refine wpAny_pyIter_range hr (by decide) ?_
  have W := (Walks.range (prog := prog) (w := w) hh s.heap.objs.size 0 4 16).bound
  have hLs : @LT.lt Nat _ env.locals s.heap.objs.size := F.ns.lt
  refine loopElse (s := { s with heap := s.heap.push { cls := .type "range_iterator", data := .fields #[rawInt 0, rawInt (Builtin.Range.rangeSize 0 64 4), rawInt 4] } }) (KTurns.ofWalks W fun i v s Q E st q => letGo_rangeiter st q) ?_ ?_ ?_ (by show IsRangeIter _ _ _ _ _; exact Heap.get?_push_size _ rfl) (F.push _)
    (fun p hp => ⟨Heap.get?_push_of_some _ (N p hp).1, (N p hp).2⟩)
    (fun i m₁ n₁ => ∃ lo vs c va vw vf, n₁ = [(lo, listOf (List.toArray vs) c)] ∧ IntsAre vs (octN ns i) ∧ m₁ = frW m₀ lo va vw vf)
    ⟨l, [], c0, m₀ (Str.ofString "at"), m₀ (Str.ofString "whole"), m₀ (Str.ofString "figure"), rfl, IntsAre.nil, ?_⟩ hE ?_ ?_
  · intro hm
    exact absurd (List.mem_singleton.mp hm) (Nat.ne_of_lt hLs)
  · intro b' hb'
    rw [List.mem_singleton.mp hb']
    exact ktu_new F (Nat.le_refl _)
  · intro p hp hI
    exact absurd (List.mem_singleton.mp hI) (Nat.ne_of_lt (Heap.lt_size (N p hp).1))
  · funext y
    unfold frW
    by_cases e1 : y = Str.ofString "figure"
    · rw [if_pos e1, e1]
    · rw [if_neg e1]
      by_cases e2 : y = Str.ofString "whole"
      · rw [if_pos e2, e2]
      · rw [if_neg e2]
        by_cases e3 : y = Str.ofString "at"
        · rw [if_pos e3, e3]
        · rw [if_neg e3]
          by_cases e4 : y = Str.ofString "octets"
          · rw [if_pos e4, e4]; exact h1
          · rw [if_neg e4]
  · intro i v m₁ news₁ h₁ tk₁ own hin hP hJ hoff hown hget hall hst₁ F₁ N₁
    obtain ⟨_, tt, rfl⟩ := hP
    obtain ⟨lo, vs, c, va, vw, vf, rfl, hI, rfl⟩ := hJ
    have hoI := hst₁
    have hIn := hall _ (List.mem_singleton.mpr rfl) (ktu_new F (Nat.le_refl _)) _ hoI
    have hlI : lo ≠ s.heap.objs.size := fun e => hoff _ (List.mem_singleton.mpr rfl) (List.mem_singleton.mpr e)
    have N₂ := (fun p hp => by
      rcases List.mem_cons.mp hp with rfl | hp
      · exact N₁ _ (List.mem_append_left _ hIn)
      · exact N₁ _ (List.mem_append_right _ hp) : News h₀ env.locals h₁ ((s.heap.objs.size, _) :: [(lo, listOf (List.toArray vs) c)]))
    have st := turn i (0 + (i : Int) * 4) tt lo vs c va vw vf h₁ tk₁ s.heap.objs.size _ (by omega) hin hI hlI F₁ N₂
    refine wpAny_mono st (fun _ s₂ y => wpAny_mono y (fun f s₃ z => ?_) fun _ _ e => e) fun _ _ e => e
    obtain ⟨rfl, h₃, tk₃, lo₃, vs₃, c₃, va₃, vw₃, vf₃, rfl, F₃, N₃, I₃, ne₃⟩ := z
    refine ⟨h₃, tk₃, _, [(lo₃, listOf (List.toArray vs₃) c₃)], rfl, F₃, fun p hp => ?_, fun p hp => ?_, lo₃, vs₃, c₃, va₃, vw₃, vf₃, rfl, ?_, rfl⟩
    · rcases List.mem_append.mp hp with hp | hp
      · have g1 := hget p hp
        have e := List.mem_singleton.mp (hown p hp)
        have e3 : p = (s.heap.objs.size, _) := Prod.ext e (Option.some.inj (g1.symm.trans (e ▸ hoI)))
        rw [e3]; exact N₃ _ (List.mem_cons_self ..)
      · exact N₃ _ (List.mem_cons_of_mem _ hp)
    · rw [List.mem_singleton.mp hp]
      exact fun q => ne₃ (List.mem_singleton.mp q)
    · rw [octN_succ]; exact I₃
  · intro h₃ tk m' news' F' N' hJ
    obtain ⟨lo, vs, c, va, vw, vf, rfl, hI, rfl⟩ := hJ
    exact last h₃ tk lo vs c va vw vf F' N' hI
end
end Mine
-- part WriP
namespace Mine
open PySem PySem.W PySem.Calls PyProof.Rows
set_option maxRecDepth 100000
theorem octN_len (ns : List Int) : ∀ i, (octN ns i).length = 3 * i
  | 0 => rfl
  | i + 1 => by rw [octN_succ, List.length_append, octN_len ns i]; show 3 * i + 3 = _; omega
theorem take4 {ns : List Int} {i : Nat} (hl : ns.length = 64) (hi : i < 16) (hb : AllIn ns 64) : ∃ a b c d : Int, (ns.drop (4 * i)).take 4 = [a, b, c, d] ∧ (0 ≤ a ∧ a < 64) ∧ (0 ≤ b ∧ b < 64) ∧ (0 ≤ c ∧ c < 64) ∧ (0 ≤ d ∧ d < 64) := by
  have hlen : ((ns.drop (4 * i)).take 4).length = 4 := by rw [List.length_take, List.length_drop]; omega
  have hall := AllIn.part (a := 4 * i) (b := 4) hb
  match e : (ns.drop (4 * i)).take 4, hlen with
  | [a, b, c, d], _ =>
    rw [e] at hall
    exact ⟨a, b, c, d, rfl, hall a (by simp), hall b (by simp), hall c (by simp), hall d (by simp)⟩
theorem whF4 {a b c d : Int} (hb : 0 ≤ b ∧ b < 64) (hc : 0 ≤ c ∧ c < 64) (hd : 0 ≤ d ∧ d < 64) (ha : 0 ≤ a ∧ a < 64) : whF [a, b, c, d] = ((a * 64 + b) * 64 + c) * 64 + d := by
  show Builtin.bitOr ((Builtin.bitOr ((Builtin.bitOr ((Builtin.bitOr (0 * 2 ^ Int.toNat 6) a) * 2 ^ Int.toNat 6) b) * 2 ^ Int.toNat 6) c) * 2 ^ Int.toNat 6) d = _
  rw [or6 _ _ ha.1 ha.2, or6 _ _ hb.1 hb.2, or6 _ _ hc.1 hc.2, or6 _ _ hd.1 hd.2]
  omega
theorem oct3_eq (x : Int) (h : 0 ≤ x) : oct3 x = [x / 65536, x / 256 % 256, x % 256] := by
  unfold oct3
  rw [bitAnd_m8, bitAnd_m8, Int.fdiv_eq_ediv_of_nonneg _ (by decide), Int.fdiv_eq_ediv_of_nonneg _ (by decide)]
  rfl
theorem octN_in {ns : List Int} (hl : ns.length = 64) (hb : AllIn ns 64) : ∀ i, i ≤ 16 → ∀ n ∈ octN ns i, 0 ≤ n ∧ n < 256
  | 0, _, n, hn => nomatch hn
  | i + 1, hi, n, hn => by
    rw [octN_succ] at hn
    rcases List.mem_append.mp hn with hn | hn
    · exact octN_in hl hb i (by omega) n hn
    · obtain ⟨a, b, c, d, e, ha, hb', hc, hd⟩ := take4 (i := i) hl (by omega) hb
      rw [e, whF4 hb' hc hd ha, oct3_eq _ (by omega)] at hn
      simp only [List.mem_cons, List.not_mem_nil, or_false] at hn
      rcases hn with rfl | rfl | rfl <;> omega
theorem b64C_eq (c k : Int) (h0 : 0 ≤ k) (h1 : k < 256) : b64C c k = (c * 256 + k) % 65536 := by
  unfold b64C
  rw [or_shift (Int.toNat 8) c k h0 h1, bitAnd_m16]
  rfl
theorem b64N_oct {ns : List Int} (hl : ns.length = 64) (hb : AllIn ns 64) : ∀ i, i ≤ 16 → ∃ lc, b64N (octN ns i) = (0, lc, ns.take (4 * i))
  | 0, _ => ⟨0, rfl⟩
  | i + 1, hi => by
    obtain ⟨lc, ih⟩ := b64N_oct hl hb i (by omega)
    obtain ⟨a, b, c, d, e, ha, hb', hc, hd⟩ := take4 hl (i := i) (by omega) hb
    have et : ns.take (4 * (i + 1)) = ns.take (4 * i) ++ [a, b, c, d] := by
      rw [← e, show 4 * (i + 1) = 4 * i + 4 from by omega, List.take_add]
    rw [octN_succ, e, whF4 hb' hc hd ha, oct3_eq _ (by omega), et]
    have eN : b64N (octN ns i ++ [(((a * 64 + b) * 64 + c) * 64 + d) / 65536, (((a * 64 + b) * 64 + c) * 64 + d) / 256 % 256, (((a * 64 + b) * 64 + c) * 64 + d) % 256]) = b64G (b64G (b64G (b64N (octN ns i)) ((((a * 64 + b) * 64 + c) * 64 + d) / 65536)) ((((a * 64 + b) * 64 + c) * 64 + d) / 256 % 256)) ((((a * 64 + b) * 64 + c) * 64 + d) % 256) := by
      unfold b64N
      rw [List.foldl_append]
      rfl
    rw [eN, ih]
    generalize hx : ((a * 64 + b) * 64 + c) * 64 + d = x
    have k0 : 0 ≤ x / 65536 ∧ x / 65536 < 256 := by omega
    have k1 : 0 ≤ x / 256 % 256 ∧ x / 256 % 256 < 256 := by omega
    have k2 : 0 ≤ x % 256 ∧ x % 256 < 256 := by omega
    have g1 : b64G (0, lc, ns.take (4 * i)) (x / 65536) = (2, (lc * 256 + x / 65536) % 65536, ns.take (4 * i) ++ [a]) := by
      unfold b64G
      rw [if_pos rfl]
      show (2, b64C lc (x / 65536), ns.take (4 * i) ++ [Builtin.bitAnd ((b64C lc (x / 65536)).fdiv 4) 63]) = _
      rw [b64C_eq _ _ k0.1 k0.2, bitAnd_m6, Int.fdiv_eq_ediv_of_nonneg _ (by decide)]
      have : (lc * 256 + x / 65536) % 65536 / 4 % 64 = a := by omega
      rw [this]
    rw [g1]
    generalize hy : (lc * 256 + x / 65536) % 65536 = y
    have hy' : y % 256 = x / 65536 := by omega
    have g2 : b64G (2, y, ns.take (4 * i) ++ [a]) (x / 256 % 256) = (4, (y * 256 + x / 256 % 256) % 65536, ns.take (4 * i) ++ [a] ++ [b]) := by
      unfold b64G
      rw [if_neg (show ¬ (2 : Int) = 0 by decide), if_pos rfl]
      show (4, b64C y (x / 256 % 256), ns.take (4 * i) ++ [a] ++ [Builtin.bitAnd ((b64C y (x / 256 % 256)).fdiv 16) 63]) = _
      rw [b64C_eq _ _ k1.1 k1.2, bitAnd_m6, Int.fdiv_eq_ediv_of_nonneg _ (by decide)]
      have : (y * 256 + x / 256 % 256) % 65536 / 16 % 64 = b := by omega
      rw [this]
    rw [g2]
    generalize hz : (y * 256 + x / 256 % 256) % 65536 = z
    have hz' : z % 256 = x / 256 % 256 := by omega
    have g3 : b64G (4, z, ns.take (4 * i) ++ [a] ++ [b]) (x % 256) = (0, (z * 256 + x % 256) % 65536, ns.take (4 * i) ++ [a] ++ [b] ++ [c] ++ [d]) := by
      unfold b64G
      rw [if_neg (show ¬ (4 : Int) = 0 by decide), if_neg (show ¬ (4 : Int) = 2 by decide)]
      show (0, b64C z (x % 256), ns.take (4 * i) ++ [a] ++ [b] ++ [Builtin.bitAnd ((b64C z (x % 256)).fdiv 64) 63] ++ [Builtin.bitAnd ((b64C z (x % 256)).fdiv 1) 63]) = _
      rw [b64C_eq _ _ k2.1 k2.2, bitAnd_m6, bitAnd_m6, Int.fdiv_eq_ediv_of_nonneg _ (by decide), Int.fdiv_eq_ediv_of_nonneg _ (by decide)]
      have q1 : (z * 256 + x % 256) % 65536 / 64 % 64 = c := by omega
      have q2 : (z * 256 + x % 256) % 65536 / 1 % 64 = d := by omega
      rw [q1, q2]
    rw [g3]
    exact ⟨(z * 256 + x % 256) % 65536, by simp⟩
/-- the octets as bytes -/
def octB (ns : List Int) : Array UInt8 := ((octN ns 16).map fun n => n.toNat.toUInt8).toArray
theorem octB_ints {ns : List Int} (hl : ns.length = 64) (hb : AllIn ns 64) : KBw.bInts (octB ns) = octN ns 16 := by
  unfold octB
  rw [KBw.ints_list, List.map_map]
  refine (List.map_congr_left fun n hn => ?_).trans (List.map_id _)
  have h := octN_in hl hb 16 (Nat.le_refl _) n hn
  exact byte_back h.1 h.2
theorem octB_size (ns : List Int) : (octB ns).size ≤ 48 := by
  unfold octB
  rw [List.size_toArray, List.length_map, octN_len]
  omega
theorem octB_done {ns : List Int} (hl : ns.length = 64) (hb : AllIn ns 64) : (b64N (KBw.bInts (octB ns))).1 = 0 ∧ (b64N (KBw.bInts (octB ns))).2.2 = ns := by
  rw [octB_ints hl hb]
  obtain ⟨lc, e⟩ := b64N_oct hl hb 16 (Nat.le_refl _)
  rw [e]
  exact ⟨rfl, List.take_of_length_le (by omega)⟩
end Mine
-- part Wri
namespace Mine
open PySem PySem.W PySem.Calls PyProof.Rows
set_option maxRecDepth 100000
local macro_rules | `(tactic| k_room) => `(tactic| (simp only [depth_deeper, depth_in1, recursionLimit]; omega))
local macro_rules | `(tactic| k_units) => `(tactic| (simp only [units_deeper, units_in1, cLine]; omega))
local macro_rules | `(tactic| walk_at "exec For") => `(tactic| (k_here; k_dflt (refine wpAny_For ?_)))
local macro_rules | `(tactic| walk_at "exec For Name Call cons nil") => `(tactic| (k_here; k_dflt (refine wpAny_For ?_)))
local macro_rules | `(tactic| walk_at "pyIter ref") => `(tactic| (k_here; (k_dflt (refine' forOct ?kz ?k1 ?kr ?k2 ?k3 ?k4 ?k5 ?_ ?_; (case kz => assumption); (case k1 => rfl); (case kr => assumption); (case k2 => k_asm); (case k3 => k_asm); (case k4 => passes_own); (case k5 => rfl))); (all_goals (try (intro i' p' t' lo' vs' c' va' vw' vf' h' tk' I' oI' hp' hi' hI' hne' F' N'; unfold frW at F'))); (all_goals (try (intro h' tk' lo' vs' c' va' vw' vf' F' N' hI'; unfold frW at F')))))
local macro_rules | `(tactic| walk_at "pyIter ref") => `(tactic| (k_here; (rename IntsAre _ (List.take _ _) => hI9); (k_dflt (refine' forWhole ?ki ?kg ?kl ?k1 ?k2 ?k3 ?k4 ?k5 ?_ ?_; (case ki => exact sliceInts hI9 (by assumption) (by assumption) (by assumption)); (case kg => exact AllIn.part (by assumption)); (case kl => (rw [List.length_take]; omega)); (case k1 => rfl); (case k2 => k_asm); (case k3 => k_asm); (case k4 => passes_own); (case k5 => rfl))); (all_goals (try (intro f' t' x' tw' vf' h' tk' I' oI' f0' f1' x0' x1' l1' F' N'; unfold frV at F'; k_lt l1'))); (all_goals (try (intro h' tk' vf' tw' F' N' x0' x1'; unfold frV at F')))))
local macro_rules | `(tactic| walk_at "WhEnd") => `(tactic| ((k_dflt (refine' WhEnd.intro ?k1 ?k2 ?k3 ?k8 ?k9; (case k1 => assumption); (case k2 => assumption); (case k3 => k_subL); (case k8 => rfl); (case k9 => (intro y' y1 y2; simp only [if_neg y1, if_neg y2]))))))
theorem WriEnd.intro {h₀ : Heap} {L : Addr} {m₀ m' : Str → Option Value} {I : Addr} {oI : Obj} {os os' : List Int} {s₁ : Shared} {h' : Heap} {tk : Nat} {lo : Addr} {vs : List Value} {c : Nat} {all : List (Addr × Obj)}
    (F : Fr h₀ L h' m') (N : News h₀ L h' all) (n1 : (I, oI) ∈ all) (n2 : (lo, listOf (List.toArray vs) c) ∈ all) (hi : IntsAre vs os') (ho : os' = os) (ne : @Ne Nat lo I)
    (h1 : m' (Str.ofString "octets") = some (.ref lo)) (h3 : ∀ y, y ≠ Str.ofString "figure" → y ≠ Str.ofString "whole" → y ≠ Str.ofString "at" → y ≠ Str.ofString "octets" → m' y = m₀ y) :
    WriEnd h₀ L m₀ I oI os s₁ .next { s₁ with heap := h', toks := tk } := by
  subst ho
  have e : m' = frW m₀ lo (m' (Str.ofString "at")) (m' (Str.ofString "whole")) (m' (Str.ofString "figure")) := by
    funext y
    unfold frW
    by_cases e1 : y = Str.ofString "figure"
    · rw [if_pos e1, e1]
    · rw [if_neg e1]
      by_cases e2 : y = Str.ofString "whole"
      · rw [if_pos e2, e2]
      · rw [if_neg e2]
        by_cases e3 : y = Str.ofString "at"
        · rw [if_pos e3, e3]
        · rw [if_neg e3]
          by_cases e4 : y = Str.ofString "octets"
          · rw [if_pos e4, e4]; exact h1
          · rw [if_neg e4]; exact h3 y e1 e2 e3 e4
  rw [e] at F
  refine ⟨rfl, h', tk, lo, vs, c, _, _, _, rfl, F, fun p hp => ?_, hi, ne⟩
  rcases List.mem_cons.mp hp with rfl | hp
  · exact N _ n1
  · rw [List.mem_singleton.mp hp]; exact N _ n2
local macro_rules | `(tactic| walk_at "binaryOp Add ref ref") => `(tactic| (k_here; (k_dflt (refine' kmk_add_ints ?F ?N ?a ?b ?i ?j ?_ ?z; (case F => k_asm); (case N => k_asm); (case a => kmk_list); (case b => kmk_list); (case i => assumption); (case j => l_ints); (case z => (rw [octN_len, PySem.sizeLine_eq]; simp only [List.length_cons, List.length_nil]; omega)))); intro D' ws' h' F' N' l1 hI'; k_lt l1))
local macro_rules | `(tactic| walk_at "WriEnd") => `(tactic| ((k_dflt (refine' WriEnd.intro ?k1 ?k2 ?k3 ?k4 ?k5 ?k6 ?k7 ?k8 ?k9; (case k1 => assumption); (case k2 => assumption); (case k8 => rfl); (case k3 => k_mem); (case k4 => k_mem); (case k5 => assumption); (case k6 => rfl); (case k7 => (intro hq; omega)); (case k9 => (intro y' y1 y2 y3 y4; simp only [if_neg y1, if_neg y2, if_neg y3, if_neg y4]))))))
theorem bytesOct {prog : Program} {w : World} {A : Around} {E : Value → Shared → Prop} {s : Shared} {h₀ : Heap} {L l : Addr} {m : Str → Option Value} {news : List (Addr × Obj)} {vs : List Value} {ns : List Int} {Q : Value → Shared → Prop} (F : Fr h₀ L s.heap m) (N : News h₀ L s.heap news) (hl : s.heap.IsList l vs.toArray) (hi : IntsAre vs (octN ns 16)) (hn : ns.length = 64) (hb : AllIn ns 64) (hh : A.handled = none)
    (h : ∀ h' t k, Fr h₀ L h' m → News h₀ L h' news → Q (.bytes (octB ns) t) { s with heap := h', toks := k }) : wpAny (model prog w) A (call (.type "bytes") [.ref l]) Q E s :=
  bytes_K F N hl hi (octN_in hn hb 16 (Nat.le_refl _)) (by have e := hi.length; rw [octN_len] at e; rw [PySem.sizeLine_eq, e]; omega) hh fun h' t k F' N' _ => h h' t k F' N'
local macro_rules | `(tactic| walk_at "call type:bytes") => `(tactic| (k_here; (k_dflt (refine' bytesOct ?F ?N ?l ?i ?r ?z ?h ?_; (case F => k_asm); (case N => k_asm); (case l => is_list); (case i => k_asm); (case r => k_asm); (case z => k_asm); (case h => with_unfolding_all rfl))); intro h' t' k' F' N'))
local macro_rules | `(tactic| walk_at "call ref") => `(tactic| (k_here; (with_reducible show wpAny _ _ (call (Value.ref 107) _) _ _ _); (k_dflt (refine' use (b64_tel (octB_size _) (octB_done (by with_reducible assumption) (by with_reducible assumption)).1) ?k1 ?k2 ?k3 ?k4 ?k5 ?k6 ?k7 ?k8 ?k9 ?_; (case k1 => k_asm); (case k2 => k_asm); (case k3 => k_asm); (case k4 => k_asm); (case k5 => k_asm); (case k6 => rfl); (case k7 => (simp only [depth_deeper]; omega)); (case k8 => (simp only [units_deeper]; omega)); (case k9 => trivial))); intro v' h' tk' F' N' K' po'; obtain ⟨t', hv'⟩ := po'; subst hv'))
set_option maxHeartbeats 1500000 in
theorem wri_tel {w : World} {l : Addr} {vs : List Value} {ns : List Int} (hi : IntsAre vs ns) (hl : ns.length = 64) (hb : AllIn ns 64) :
    Tel w 171 850 8500 (fun h => h.IsList l vs.toArray)
      [Value.ref l] (fun v _ _ => ∃ t, v = .bytes (sgB ns) t) := by
  unfold Tel P KK V LO; k_fill
  intro dp un gd cn cs a ccd cl outer A₀ base h₀ L m s mean mg mb Q E B F X T hk hd hu hp hret
  refine wpAny_call ?_
  k_dflt (refine' enterB ?k1 ?k2 ?k3 ?k5 ?kA ?kF ?kK ?k6 ?k7 ?k8 ?k9 ?kB ?_ ?c2 ?c3 ?c4 ?c5; (case kA => exact rfl); (case kF => exact rfl); (case kK => assumption); (case k1 => k_asm); (case k2 => k_asm); (case k3 => k_asm); (case k5 => k_asm); (case k6 => k_is); (case k7 => k_is); (case k8 => k_room); (case k9 => first | exact BindsTo.of_eq rfl | exact binds_K (by k_in) rfl (by k_is) rfl rfl rfl); (case c5 => decide); (case kB => exact locs rfl); (case c2 => exact rfl); (case c3 => exact rfl); (case c4 => exact rfl); k_whole; intro L' h' F' B' X' T' N'; (try dsimp only); (try k_fold))
  clear F X T B
  w_top off
  k_steps
  all_goals try (rw [(octB_done hl hb).2])
  all_goals try (dsimp only)
  all_goals try (exact hret _ _ _ (Fr.keep (by assumption)) ⟨_, rfl⟩)
end Mine
-- part Pur
namespace Mine
open PySem PySem.W PySem.Calls PyProof.Rows
set_option maxRecDepth 100000
theorem nat_xor_and (a : Nat) : ∀ b : Nat, (a ^^^ b) + 2 * (a &&& b) = a + b := by
  induction a using Nat.strongRecOn with
  | ind a ih =>
    intro b
    by_cases h : a = 0
    · subst h; simp
    · have e1 := ih (a / 2) (by omega) (b / 2)
      have x1 : (a ^^^ b) / 2 = a / 2 ^^^ b / 2 := Nat.xor_div_two
      have x2 : (a &&& b) / 2 = a / 2 &&& b / 2 := Nat.and_div_two
      have y1 := @Nat.xor_mod_two_pow a b 1
      have y2 := @Nat.and_mod_two_pow a b 1
      simp only [Nat.pow_one] at y1 y2
      rw [← x1, ← x2] at e1
      have k1 : (1 ^^^ 1 : Nat) = 0 := rfl
      have k2 : (0 ^^^ 1 : Nat) = 1 := rfl
      have k3 : (1 ^^^ 0 : Nat) = 1 := rfl
      have k4 : (0 ^^^ 0 : Nat) = 0 := rfl
      have l1 : (1 &&& 1 : Nat) = 1 := rfl
      have l2 : (0 &&& 1 : Nat) = 0 := rfl
      have l3 : (1 &&& 0 : Nat) = 0 := rfl
      have l4 : (0 &&& 0 : Nat) = 0 := rfl
      rcases Nat.mod_two_eq_zero_or_one a with p | p <;> rcases Nat.mod_two_eq_zero_or_one b with q | q <;> rw [p, q] at y1 y2 <;> first | rw [k1, l1] at * ; omega | omega
theorem bitXor_nat (a b : Nat) : Builtin.bitXor (a : Int) (b : Int) = ((a ^^^ b : Nat) : Int) := by
  have h := nat_xor_and a b
  rw [bitXor_and, bitAnd_pp (by omega) (by omega), Int.toNat_natCast, Int.toNat_natCast]
  omega
theorem pow_cast (r : Nat) : (1 : Int) * 2 ^ ((r : Int)).toNat = ((2 ^ r : Nat) : Int) := by
  rw [Int.one_mul, Int.toNat_natCast]
  push_cast
  rfl
/-- one ring of a pattern -/
def mk1 (p t r : Nat) : Nat := if p.testBit t then 2 ^ r else 0
theorem mk1_xor (p q t r : Nat) : mk1 (p ^^^ q) t r = mk1 p t r ^^^ mk1 q t r := by
  unfold mk1
  rw [Nat.testBit_xor]
  cases p.testBit t <;> cases q.testBit t <;> simp
/-- the rings turned by a pattern -/
def msk (r : Fin 6 → Nat) (p : Nat) : Nat := mk1 p 0 (r 0) ^^^ (mk1 p 1 (r 1) ^^^ (mk1 p 2 (r 2) ^^^ (mk1 p 3 (r 3) ^^^ (mk1 p 4 (r 4) ^^^ mk1 p 5 (r 5)))))
theorem msk_xor (r : Fin 6 → Nat) (p q : Nat) : msk r (p ^^^ q) = msk r p ^^^ msk r q := by
  unfold msk
  simp only [mk1_xor]
  ac_rfl
theorem msk_pow (r : Fin 6 → Nat) : ∀ t : Fin 6, msk r (2 ^ t.val) = 2 ^ r t := by
  rintro ⟨t, ht⟩
  unfold msk mk1
  simp only [Nat.testBit_two_pow]
  rcases (by omega : t = 0 ∨ t = 1 ∨ t = 2 ∨ t = 3 ∨ t = 4 ∨ t = 5) with rfl | rfl | rfl | rfl | rfl | rfl <;> simp
theorem mk1_bit (p i a j : Nat) : (mk1 p i a).testBit j = (p.testBit i && decide (a = j)) := by
  unfold mk1
  cases p.testBit i
  · simp
  · simp [Nat.testBit_two_pow]
/-- six rings apart, each below six, each there -/
structure RingsOk (r : _root_.Fin 6 → Nat) : Prop where
  inj : ∀ i j, r i = r j → i = j
  lt : ∀ i, r i < 6
  hit : ∀ j, j < 6 → ∃ i, r i = j
theorem msk_bit {r : _root_.Fin 6 → Nat} (h : RingsOk r) (p : Nat) (t : _root_.Fin 6) : (msk r p).testBit (r t) = p.testBit t.val := by
  have e : ∀ i : _root_.Fin 6, decide (r i = r t) = decide (i = t) := fun i => by
    by_cases q : i = t
    · subst q; simp
    · have : r i ≠ r t := fun z => q (h.inj _ _ z)
      simp [q, this]
  unfold msk
  simp only [Nat.testBit_xor, mk1_bit, e]
  obtain ⟨t, ht⟩ := t
  rcases (by omega : t = 0 ∨ t = 1 ∨ t = 2 ∨ t = 3 ∨ t = 4 ∨ t = 5) with rfl | rfl | rfl | rfl | rfl | rfl <;> simp
theorem two_lt {a : Nat} (h : a < 6) : 2 ^ a < 64 := by
  rcases (by omega : a = 0 ∨ a = 1 ∨ a = 2 ∨ a = 3 ∨ a = 4 ∨ a = 5) with rfl | rfl | rfl | rfl | rfl | rfl <;> decide
theorem mk1_lt {p t a : Nat} (h : a < 6) : mk1 p t a < 2 ^ 6 := by
  unfold mk1
  split
  · exact two_lt h
  · decide
theorem msk_lt {r : _root_.Fin 6 → Nat} (h : RingsOk r) (p : Nat) : msk r p < 2 ^ 6 := by
  unfold msk
  have := h.lt
  exact Nat.xor_lt_two_pow (mk1_lt (this 0)) (Nat.xor_lt_two_pow (mk1_lt (this 1)) (Nat.xor_lt_two_pow (mk1_lt (this 2)) (Nat.xor_lt_two_pow (mk1_lt (this 3)) (Nat.xor_lt_two_pow (mk1_lt (this 4)) (mk1_lt (this 5))))))
theorem bits_eq {r : _root_.Fin 6 → Nat} (h : RingsOk r) {a b : Nat} (ha : a < 2 ^ 6) (hb : b < 2 ^ 6) (e : ∀ t, a.testBit (r t) = b.testBit (r t)) : a = b := by
  refine Nat.eq_of_testBit_eq fun j => ?_
  by_cases hj : j < 6
  · obtain ⟨t, rfl⟩ := h.hit j hj
    exact e t
  · have h1 : 2 ^ 6 ≤ 2 ^ j := Nat.pow_le_pow_right (by decide) (by omega)
    rw [Nat.testBit_lt_two_pow (Nat.lt_of_lt_of_le ha h1), Nat.testBit_lt_two_pow (Nat.lt_of_lt_of_le hb h1)]
/-- the pattern of a figure -/
def pat (r : _root_.Fin 6 → Nat) (e : Nat) : Nat := mk1 e (r 0) 0 ^^^ (mk1 e (r 1) 1 ^^^ (mk1 e (r 2) 2 ^^^ (mk1 e (r 3) 3 ^^^ (mk1 e (r 4) 4 ^^^ mk1 e (r 5) 5))))
theorem pat_lt (r : _root_.Fin 6 → Nat) (e : Nat) : pat r e < 2 ^ 6 := by
  unfold pat
  exact Nat.xor_lt_two_pow (mk1_lt (by decide)) (Nat.xor_lt_two_pow (mk1_lt (by decide)) (Nat.xor_lt_two_pow (mk1_lt (by decide)) (Nat.xor_lt_two_pow (mk1_lt (by decide)) (Nat.xor_lt_two_pow (mk1_lt (by decide)) (mk1_lt (by decide))))))
theorem pat_bit (r : _root_.Fin 6 → Nat) (e : Nat) (t : _root_.Fin 6) : (pat r e).testBit t.val = e.testBit (r t) := by
  unfold pat
  simp only [Nat.testBit_xor, mk1_bit]
  obtain ⟨t, ht⟩ := t
  rcases (by omega : t = 0 ∨ t = 1 ∨ t = 2 ∨ t = 3 ∨ t = 4 ∨ t = 5) with rfl | rfl | rfl | rfl | rfl | rfl <;> simp
theorem msk_pat {r : _root_.Fin 6 → Nat} (h : RingsOk r) {e : Nat} (he : e < 2 ^ 6) : msk r (pat r e) = e :=
  bits_eq h (msk_lt h _) he fun t => by rw [msk_bit h, pat_bit]
theorem msk_inj {r : _root_.Fin 6 → Nat} (h : RingsOk r) {p q : Nat} (hp : p < 2 ^ 6) (hq : q < 2 ^ 6) (e : msk r p = msk r q) : p = q := by
  refine Nat.eq_of_testBit_eq fun j => ?_
  by_cases hj : j < 6
  · have := congrArg (fun x => x.testBit (r ⟨j, hj⟩)) e
    simp only [msk_bit h] at this
    exact this
  · have h1 : 2 ^ 6 ≤ 2 ^ j := Nat.pow_le_pow_right (by decide) (by omega)
    rw [Nat.testBit_lt_two_pow (Nat.lt_of_lt_of_le hp h1), Nat.testBit_lt_two_pow (Nat.lt_of_lt_of_le hq h1)]
/-- the row in naturals -/
def rowN (s : Nat) (rs : List Nat) : List Nat := rs.foldl (fun ns r => ns ++ ns.reverse.map (fun k => k ^^^ 2 ^ r)) [s]
theorem rowF_cast (rs : List Nat) : ∀ ns : List Nat, (rs.map fun (r : Nat) => (r : Int)).foldl (fun ns r => ns ++ ns.reverse.map (fun k => Builtin.bitXor k (1 * 2 ^ r.toNat))) (ns.map fun (k : Nat) => (k : Int)) = (rs.foldl (fun ns r => ns ++ ns.reverse.map (fun k => k ^^^ 2 ^ r)) ns).map fun (k : Nat) => (k : Int) := by
  induction rs with
  | nil => intro ns; rfl
  | cons r rest ih =>
    intro ns
    rw [List.map_cons, List.foldl_cons, List.foldl_cons, ← ih]
    congr 1
    rw [List.map_append, ← List.map_reverse, List.map_map, List.map_map]
    congr 1
    refine List.map_congr_left fun k _ => ?_
    show Builtin.bitXor (k : Int) (1 * 2 ^ ((r : Int)).toNat) = ((k ^^^ 2 ^ r : Nat) : Int)
    rw [pow_cast, bitXor_nat]
theorem rowF_nat (s : Nat) (rs : List Nat) : rowF (s : Int) (rs.map fun (r : Nat) => (r : Int)) = (rowN s rs).map fun (k : Nat) => (k : Int) := rowF_cast rs [s]
def grayL : List Nat := rowN 0 [0, 1, 2, 3, 4, 5]
theorem row_step {φ : Nat → Nat} {t a : Nat} (h : ∀ p, φ (p ^^^ 2 ^ t) = φ p ^^^ 2 ^ a) (G : List Nat) : G.map φ ++ (G.map φ).reverse.map (fun k => k ^^^ 2 ^ a) = (G ++ G.reverse.map (fun k => k ^^^ 2 ^ t)).map φ := by
  rw [List.map_append, ← List.map_reverse, List.map_map, List.map_map]
  congr 1
  exact List.map_congr_left fun k _ => (h k).symm
/-- the figure of a pattern -/
def figP (s : Nat) (r : _root_.Fin 6 → Nat) (p : Nat) : Nat := s ^^^ msk r p
theorem figP_pow (s : Nat) (r : _root_.Fin 6 → Nat) (t : _root_.Fin 6) (p : Nat) : figP s r (p ^^^ 2 ^ t.val) = figP s r p ^^^ 2 ^ r t := by
  unfold figP
  rw [msk_xor, msk_pow, Nat.xor_assoc]
theorem row_fig (s : Nat) (r : _root_.Fin 6 → Nat) : rowN s [r 0, r 1, r 2, r 3, r 4, r 5] = grayL.map (figP s r) := by
  have z : [s] = [0].map (figP s r) := by
    show [s] = [s ^^^ msk r 0]
    have : msk r 0 = 0 := by simp [msk, mk1]
    rw [this, Nat.xor_zero]
  unfold grayL rowN
  simp only [List.foldl_cons, List.foldl_nil]
  rw [z, row_step (figP_pow s r 0), row_step (figP_pow s r 1), row_step (figP_pow s r 2), row_step (figP_pow s r 3), row_step (figP_pow s r 4), row_step (figP_pow s r 5)]
  rfl
theorem gray_facts : grayL.length = 64 ∧ grayL.Nodup ∧ (∀ p ∈ grayL, p < 64) ∧ ∀ p : _root_.Fin 64, p.val ∈ grayL := by decide +kernel
end Mine
-- part Pos
namespace Mine
open PySem PySem.W PySem.Calls PyProof.Rows
set_option maxRecDepth 100000
theorem item_facts : ∀ e : _root_.Fin 64, ∀ j : _root_.Fin 6, (Txt.item (lisF (e.val : Int)) (9 - (j.val : Int)) = Str.ofString "-" ↔ e.val.testBit j.val = false) := by decide +kernel
theorem lis_fil : ∀ e : _root_.Fin 64, filF (Builtin.bitOr 16384 (e.val : Int)) = lisF (e.val : Int) ∧ (lisF (e.val : Int)).length = 10 := by decide +kernel
theorem sg_facts : B64L.Nodup ∧ B64L.length = 64 := by decide +kernel
theorem sg_inj {a b : Nat} (ha : a < 64) (hb : b < 64) (h : sg (a : Int) = sg (b : Int)) : a = b := by
  unfold sg at h
  rw [Int.toNat_natCast, Int.toNat_natCast] at h
  have h2 : (B64L.getD a 0) = (B64L.getD b 0) := UInt8.toNat_inj.mp (by omega)
  have la : a < B64L.length := by rw [sg_facts.2]; exact ha
  have lb : b < B64L.length := by rw [sg_facts.2]; exact hb
  rw [List.getD_eq_getElem?_getD, List.getD_eq_getElem?_getD, List.getElem?_eq_getElem la, List.getElem?_eq_getElem lb] at h2
  exact (List.getElem_inj sg_facts.1).mp (by simpa using h2)
/-- the place of a pattern -/
def posP (p : Nat) : Nat := grayL.idxOf p
theorem pos_facts : ∀ p : _root_.Fin 64, grayL[posP p.val]? = some p.val ∧ posP p.val < 64 := by decide +kernel
theorem gray_at : ∀ j : _root_.Fin 64, ∃ q, grayL[j.val]? = some q ∧ q < 64 ∧ posP q = j.val := by
  intro j
  have hj : j.val < grayL.length := by rw [gray_facts.1]; exact j.isLt
  refine ⟨grayL[j.val], List.getElem?_eq_getElem hj, gray_facts.2.2.1 _ (List.getElem_mem hj), ?_⟩
  exact List.Nodup.idxOf_getElem gray_facts.2.1 _ hj
/-- the figures of the row, as the program holds them -/
def rowI (s : Nat) (r : _root_.Fin 6 → Nat) : List Int := (grayL.map (figP s r)).map fun (k : Nat) => (k : Int)
/-- bytes that begin with the row's signs -/
def Begins (s : Nat) (r : _root_.Fin 6 → Nat) (b : Array UInt8) : Prop := ∀ j, j < 64 → b[j]? = (sgB (rowI s r))[j]?
theorem begins_at {s : Nat} {r : _root_.Fin 6 → Nat} {b : Array UInt8} (h : Begins s r b) {j q : Nat} (hj : j < 64) (hq : grayL[j]? = some q) : ∃ c, b[j]? = some c ∧ (c.toNat : Int) = sg ((figP s r q : Nat) : Int) := by
  rw [h j hj]
  unfold sgB rowI
  rw [List.getElem?_toArray, List.getElem?_map, List.getElem?_map, List.getElem?_map, hq]
  exact ⟨_, rfl, rfl⟩
theorem figP_lt {s : Nat} {r : _root_.Fin 6 → Nat} (h : RingsOk r) (hs : s < 64) (p : Nat) : figP s r p < 64 := Nat.xor_lt_two_pow (n := 6) hs (msk_lt h p)
theorem figP_inj {s : Nat} {r : _root_.Fin 6 → Nat} (h : RingsOk r) {p q : Nat} (hp : p < 64) (hq : q < 64) (e : figP s r p = figP s r q) : p = q := by
  refine msk_inj h hp hq ?_
  have := congrArg (fun x => s ^^^ x) e
  unfold figP at this
  simpa [← Nat.xor_assoc] using this
theorem first_pos {s : Nat} {r : _root_.Fin 6 → Nat} {b : Array UInt8} (h : Begins s r b) (ok : RingsOk r) (hs : s < 64) {p : Nat} (hp : p < 64) : FirstAt b (sg ((figP s r p : Nat) : Int)) (posP p) := by
  obtain ⟨e1, e2⟩ := pos_facts ⟨p, hp⟩
  refine ⟨begins_at h e2 e1, fun j c hj hc hn => ?_⟩
  have hj2 : j < 64 := Nat.lt_trans hj e2
  obtain ⟨q, g1, g2, g3⟩ := gray_at ⟨j, hj2⟩
  obtain ⟨c', c1, c2⟩ := begins_at h hj2 g1
  rw [hc] at c1
  cases c1
  rw [hn] at c2
  have := figP_inj ok hp g2 (sg_inj (figP_lt ok hs p) (figP_lt ok hs q) c2)
  subst this
  simp only at g3
  omega
theorem FirstAt.uniq {b : Array UInt8} {n : Int} {i j : Nat} (h : FirstAt b n i) (k : FirstAt b n j) : i = j := by
  rcases Nat.lt_trichotomy i j with q | q | q
  · obtain ⟨c, c1, c2⟩ := h.1
    exact absurd c2 (k.2 i c q c1)
  · exact q
  · obtain ⟨c, c1, c2⟩ := k.1
    exact absurd c2 (h.2 j c q c1)
/-- the rings that are on in a pattern -/
def onG (p : Nat) : List Int := [0, 1, 2, 3, 4, 5].foldl (fun l (k : Int) => if p.testBit k.toNat then l ++ [k] else l) []
def freeG (p : Nat) : List Int := [0] ++ ((onG p).take 1).foldl (fun l (k : Int) => if k < 5 then l ++ [k + 1] else l) []
def srt : List Int → List Int
  | [a, b] => if b < a then [b, a] else [a, b]
  | l => l
theorem on_facts : ∀ p : _root_.Fin 64, movF (onG p.val) = (posP p.val : Int) ∧ srt ((freeG p.val).map fun t => (posP (p.val ^^^ 2 ^ t.toNat) : Int)) = [movF (onG p.val) - 1, movF (onG p.val) + 1].foldl (fun l k => if 0 ≤ k ∧ k < 64 then l ++ [k] else l) [] := by decide +kernel
end Mine
-- part Dup
namespace Mine
open PySem PySem.W PySem.Calls PyProof.Rows
set_option maxRecDepth 100000
theorem add_xor {a b : Nat} (h : a &&& b = 0) : a + b = a ^^^ b := by
  have := nat_xor_and a b
  omega
theorem mk_and {x p t a : Nat} (hx : x.testBit a = false) : x &&& mk1 p t a = 0 := by
  refine Nat.eq_of_testBit_eq fun j => ?_
  rw [Nat.testBit_and, mk1_bit, Nat.zero_testBit]
  by_cases q : a = j
  · subst q; rw [hx]; rfl
  · simp [q]
theorem msk_sum {r : _root_.Fin 6 → Nat} (h : RingsOk r) (p : Nat) : ((((((0 + mk1 p 0 (r 0)) + mk1 p 1 (r 1)) + mk1 p 2 (r 2)) + mk1 p 3 (r 3)) + mk1 p 4 (r 4)) + mk1 p 5 (r 5)) = msk r p := by
  have ne : ∀ i j : _root_.Fin 6, i ≠ j → decide (r i = r j) = false := fun i j q => by
    have : r i ≠ r j := fun z => q (h.inj _ _ z)
    simp [this]
  rw [Nat.zero_add]
  rw [add_xor (mk_and (x := mk1 p 0 (r 0)) (a := r 1) (by simp only [mk1_bit, ne 0 1 (by decide), Bool.and_false]))]
  rw [add_xor (mk_and (a := r 2) (by simp only [Nat.testBit_xor, mk1_bit, ne 0 2 (by decide), ne 1 2 (by decide), Bool.and_false, Bool.xor_false]))]
  rw [add_xor (mk_and (a := r 3) (by simp only [Nat.testBit_xor, mk1_bit, ne 0 3 (by decide), ne 1 3 (by decide), ne 2 3 (by decide), Bool.and_false, Bool.xor_false]))]
  rw [add_xor (mk_and (a := r 4) (by simp only [Nat.testBit_xor, mk1_bit, ne 0 4 (by decide), ne 1 4 (by decide), ne 2 4 (by decide), ne 3 4 (by decide), Bool.and_false, Bool.xor_false]))]
  rw [add_xor (mk_and (a := r 5) (by simp only [Nat.testBit_xor, mk1_bit, ne 0 5 (by decide), ne 1 5 (by decide), ne 2 5 (by decide), ne 3 5 (by decide), ne 4 5 (by decide), Bool.and_false, Bool.xor_false]))]
  unfold msk
  simp only [Nat.xor_assoc]
theorem gray_bits : ∀ j : _root_.Fin 64, ∀ t : _root_.Fin 6, (grayL.getD j.val 0).testBit t.val = decide ((j.val + 2 ^ t.val) / 2 ^ (t.val + 1) % 2 = 1) := by decide +kernel
theorem due_term {s a j t p : Nat} (hp : p.testBit t = (s.testBit a ^^ decide ((j + 2 ^ t) / 2 ^ (t + 1) % 2 = 1))) :
    (((s : Int)).fdiv (2 ^ ((a : Int)).toNat) + ((j : Int) + 2 ^ ((t : Int)).toNat).fdiv (2 ^ ((t : Int) + 1).toNat)).fmod 2 * 2 ^ ((a : Int)).toNat = ((mk1 p t a : Nat) : Int) := by
  have e1 : ((t : Int) + 1).toNat = t + 1 := by omega
  rw [e1, Int.toNat_natCast, Int.toNat_natCast]
  have e2 : ((2 : Int) ^ a) = ((2 ^ a : Nat) : Int) := by push_cast; rfl
  have e3 : ((2 : Int) ^ t) = ((2 ^ t : Nat) : Int) := by push_cast; rfl
  have e4 : ((2 : Int) ^ (t + 1)) = ((2 ^ (t + 1) : Nat) : Int) := by push_cast; rfl
  rw [e2, e3, e4, Int.fdiv_eq_ediv_of_nonneg _ (Int.natCast_nonneg _), Int.fdiv_eq_ediv_of_nonneg _ (Int.natCast_nonneg _), Int.fmod_eq_emod_of_nonneg _ (by decide)]
  have e5 : ((s : Int) / ((2 ^ a : Nat) : Int) + ((j : Int) + ((2 ^ t : Nat) : Int)) / ((2 ^ (t + 1) : Nat) : Int)) = ((s / 2 ^ a + (j + 2 ^ t) / 2 ^ (t + 1) : Nat) : Int) := by push_cast; rfl
  rw [e5]
  have e6 : (((s / 2 ^ a + (j + 2 ^ t) / 2 ^ (t + 1) : Nat) : Int) % 2) = (((s / 2 ^ a + (j + 2 ^ t) / 2 ^ (t + 1)) % 2 : Nat) : Int) := by push_cast; rfl
  rw [e6, ← Int.natCast_mul]
  congr 1
  unfold mk1
  rw [hp, Nat.testBit_eq_decide_div_mod_eq]
  generalize s / 2 ^ a = x
  generalize (j + 2 ^ t) / 2 ^ (t + 1) = y
  rcases Nat.mod_two_eq_zero_or_one x with u | u <;> rcases Nat.mod_two_eq_zero_or_one y with v | v
  · have : (x + y) % 2 = 0 := by omega
    rw [u, v, this]; simp
  · have : (x + y) % 2 = 1 := by omega
    rw [u, v, this]; simp
  · have : (x + y) % 2 = 1 := by omega
    rw [u, v, this]; simp
  · have : (x + y) % 2 = 0 := by omega
    rw [u, v, this]; simp
/-- the rings as the program holds them -/
def rgs (r : _root_.Fin 6 → Nat) : List Int := [(r 0 : Int), (r 1 : Int), (r 2 : Int), (r 3 : Int), (r 4 : Int), (r 5 : Int)]
theorem dueF_fig {s : Nat} {r : _root_.Fin 6 → Nat} (h : RingsOk r) (hs : s < 64) {j : Nat} (hj : j < 64) : dueF (s : Int) (rgs r) (j : Int) = ((figP s r (grayL.getD j 0) : Nat) : Int) := by
  have eb : ∀ t : _root_.Fin 6, (pat r s ^^^ grayL.getD j 0).testBit t.val = (s.testBit (r t) ^^ decide ((j + 2 ^ t.val) / 2 ^ (t.val + 1) % 2 = 1)) := fun t => by
    rw [Nat.testBit_xor, pat_bit, gray_bits ⟨j, hj⟩ t]
  have em : figP s r (grayL.getD j 0) = msk r (pat r s ^^^ grayL.getD j 0) := by
    rw [msk_xor, msk_pat h hs]; rfl
  rw [em, ← msk_sum h]
  have d0 : (((s : Int)).fdiv (2 ^ ((r 0 : Nat) : Int).toNat) + ((j : Int) + 2 ^ (0 : Int).toNat).fdiv (2 ^ ((0 : Int) + 1).toNat)).fmod 2 * 2 ^ ((r 0 : Nat) : Int).toNat = ((mk1 (pat r s ^^^ grayL.getD j 0) 0 (r 0) : Nat) : Int) := due_term (t := 0) (eb 0)
  have d1 : (((s : Int)).fdiv (2 ^ ((r 1 : Nat) : Int).toNat) + ((j : Int) + 2 ^ (1 : Int).toNat).fdiv (2 ^ ((1 : Int) + 1).toNat)).fmod 2 * 2 ^ ((r 1 : Nat) : Int).toNat = ((mk1 (pat r s ^^^ grayL.getD j 0) 1 (r 1) : Nat) : Int) := due_term (t := 1) (eb 1)
  have d2 : (((s : Int)).fdiv (2 ^ ((r 2 : Nat) : Int).toNat) + ((j : Int) + 2 ^ (2 : Int).toNat).fdiv (2 ^ ((2 : Int) + 1).toNat)).fmod 2 * 2 ^ ((r 2 : Nat) : Int).toNat = ((mk1 (pat r s ^^^ grayL.getD j 0) 2 (r 2) : Nat) : Int) := due_term (t := 2) (eb 2)
  have d3 : (((s : Int)).fdiv (2 ^ ((r 3 : Nat) : Int).toNat) + ((j : Int) + 2 ^ (3 : Int).toNat).fdiv (2 ^ ((3 : Int) + 1).toNat)).fmod 2 * 2 ^ ((r 3 : Nat) : Int).toNat = ((mk1 (pat r s ^^^ grayL.getD j 0) 3 (r 3) : Nat) : Int) := due_term (t := 3) (eb 3)
  have d4 : (((s : Int)).fdiv (2 ^ ((r 4 : Nat) : Int).toNat) + ((j : Int) + 2 ^ (4 : Int).toNat).fdiv (2 ^ ((4 : Int) + 1).toNat)).fmod 2 * 2 ^ ((r 4 : Nat) : Int).toNat = ((mk1 (pat r s ^^^ grayL.getD j 0) 4 (r 4) : Nat) : Int) := due_term (t := 4) (eb 4)
  have d5 : (((s : Int)).fdiv (2 ^ ((r 5 : Nat) : Int).toNat) + ((j : Int) + 2 ^ (5 : Int).toNat).fdiv (2 ^ ((5 : Int) + 1).toNat)).fmod 2 * 2 ^ ((r 5 : Nat) : Int).toNat = ((mk1 (pat r s ^^^ grayL.getD j 0) 5 (r 5) : Nat) : Int) := due_term (t := 5) (eb 5)
  show dueT s j (dueT s j (dueT s j (dueT s j (dueT s j (dueT s j 0 0 (r 0)) 1 (r 1)) 2 (r 2)) 3 (r 3)) 4 (r 4)) 5 (r 5) = _
  unfold dueT
  simp only [Int.natCast_add]
  rw [d0, d1, d2, d3, d4, d5]
  rfl
theorem due_row {s : Nat} {r : _root_.Fin 6 → Nat} (h : RingsOk r) (hs : s < 64) : (rangeKs 0 64).map (dueF (s : Int) (rgs r)) = rowI s r := by
  unfold rowI rangeKs
  apply List.ext_getElem
  · simp [gray_facts.1]
  · intro j h1 h2
    have hj : j < 64 := by simpa using h1
    simp only [List.getElem_map, List.getElem_range, Int.zero_add]
    rw [dueF_fig h hs hj]
    have : grayL.getD j 0 = grayL[j]'(by rw [gray_facts.1]; exact hj) := by
      rw [List.getD_eq_getElem?_getD, List.getElem?_eq_getElem (by rw [gray_facts.1]; exact hj)]; rfl
    rw [this]
theorem row_rowI (s : Nat) (r : _root_.Fin 6 → Nat) : rowF (s : Int) (rgs r) = rowI s r := by
  have := rowF_nat s [r 0, r 1, r 2, r 3, r 4, r 5]
  rw [row_fig] at this
  exact this
end Mine
-- part Rok
namespace Mine
open PySem PySem.W PySem.Calls PyProof.Rows
set_option maxRecDepth 100000
theorem ndLen : ∀ (n : Nat) (l : List Int), l.Nodup → (∀ x ∈ l, 0 ≤ x ∧ x < (n : Int)) → l.length ≤ n
  | 0, [], _, _ => Nat.le_refl _
  | 0, x :: _, _, h => by have := h x (List.mem_cons_self ..); omega
  | n + 1, l, nd, h => by
    have q := ndLen n (l.filter fun k => decide (k ≠ (n : Int))) (nd.filter _) fun x hx => by
      have := List.mem_filter.mp hx
      have h1 := h x this.1
      have h2 : x ≠ (n : Int) := by simpa using this.2
      omega
    by_cases m : (n : Int) ∈ l
    · have := length_filter_ne nd m
      omega
    · have e : l.filter (fun k => decide (k ≠ (n : Int))) = l := List.filter_eq_self.mpr fun a ha => by
        have : a ≠ (n : Int) := fun z => m (z ▸ ha)
        simpa using this
      rw [e] at q
      omega
/-- the rings of six written figures -/
def ringF (r0 r1 r2 r3 r4 r5 : Int) : _root_.Fin 6 → Nat := fun i => ([r0, r1, r2, r3, r4, r5].getD i.val 0).toNat
theorem ringsOk {r0 r1 r2 r3 r4 r5 : Int} (nd : [r5, r4, r3, r2, r1, r0].Nodup) (h0 : 0 ≤ r0 ∧ r0 < 6) (h1 : 0 ≤ r1 ∧ r1 < 6) (h2 : 0 ≤ r2 ∧ r2 < 6) (h3 : 0 ≤ r3 ∧ r3 < 6) (h4 : 0 ≤ r4 ∧ r4 < 6) (h5 : 0 ≤ r5 ∧ r5 < 6) : RingsOk (ringF r0 r1 r2 r3 r4 r5) := by
  have six : ∀ i : Nat, i < 6 → i = 0 ∨ i = 1 ∨ i = 2 ∨ i = 3 ∨ i = 4 ∨ i = 5 := fun i h => by omega
  refine ⟨?_, ?_, ?_⟩
  · have nd' : [r0, r1, r2, r3, r4, r5].Nodup := by
      have : ([r5, r4, r3, r2, r1, r0].reverse).Pairwise (· ≠ ·) := List.pairwise_reverse.mpr (List.Pairwise.imp (fun h => Ne.symm h) nd)
      exact this
    have nn : ∀ x ∈ [r0, r1, r2, r3, r4, r5], 0 ≤ x := fun x hx => by
      simp only [List.mem_cons, List.not_mem_nil, or_false] at hx
      rcases hx with rfl | rfl | rfl | rfl | rfl | rfl
      · exact h0.1
      · exact h1.1
      · exact h2.1
      · exact h3.1
      · exact h4.1
      · exact h5.1
    rintro ⟨i, hi⟩ ⟨j, hj⟩ e
    unfold ringF at e
    generalize hl : [r0, r1, r2, r3, r4, r5] = l at *
    have ll : l.length = 6 := by rw [← hl]; rfl
    have li : i < l.length := by omega
    have lj : j < l.length := by omega
    simp only [List.getD_eq_getElem?_getD, List.getElem?_eq_getElem li, List.getElem?_eq_getElem lj, Option.getD_some] at e
    have q1 := nn _ (List.getElem_mem li)
    have q2 := nn _ (List.getElem_mem lj)
    have e2 : l[i] = l[j] := by omega
    exact Fin.ext ((List.getElem_inj nd').mp e2)
  · rintro ⟨i, hi⟩
    unfold ringF
    rcases six i hi with rfl | rfl | rfl | rfl | rfl | rfl <;> simp only [List.getD_cons_zero, List.getD_cons_succ] <;> omega
  · intro j hj
    have hm : (j : Int) ∈ [r5, r4, r3, r2, r1, r0] := by
      refine Classical.byContradiction fun m => ?_
      have := ndLen 6 ((j : Int) :: [r5, r4, r3, r2, r1, r0]) (List.nodup_cons.mpr ⟨m, nd⟩) fun x hx => by
        simp only [List.mem_cons, List.not_mem_nil, or_false] at hx
        rcases hx with rfl | rfl | rfl | rfl | rfl | rfl | rfl <;> omega
      simp at this
    simp only [List.mem_cons, List.not_mem_nil, or_false] at hm
    unfold ringF
    rcases hm with e | e | e | e | e | e
    · exact ⟨5, by show r5.toNat = j; omega⟩
    · exact ⟨4, by show r4.toNat = j; omega⟩
    · exact ⟨3, by show r3.toNat = j; omega⟩
    · exact ⟨2, by show r2.toNat = j; omega⟩
    · exact ⟨1, by show r1.toNat = j; omega⟩
    · exact ⟨0, by show r0.toNat = j; omega⟩
theorem rgs_ringF {r0 r1 r2 r3 r4 r5 : Int} (h0 : 0 ≤ r0) (h1 : 0 ≤ r1) (h2 : 0 ≤ r2) (h3 : 0 ≤ r3) (h4 : 0 ≤ r4) (h5 : 0 ≤ r5) : rgs (ringF r0 r1 r2 r3 r4 r5) = [r0, r1, r2, r3, r4, r5] := by
  show [((r0.toNat : Nat) : Int), (r1.toNat : Nat), (r2.toNat : Nat), (r3.toNat : Nat), (r4.toNat : Nat), (r5.toNat : Nat)] = _
  rw [Int.toNat_of_nonneg h0, Int.toNat_of_nonneg h1, Int.toNat_of_nonneg h2, Int.toNat_of_nonneg h3, Int.toNat_of_nonneg h4, Int.toNat_of_nonneg h5]
end Mine
-- part Git
namespace Mine
open PySem PySem.W PySem.Calls PyProof.Rows
set_option maxRecDepth 100000
local macro_rules | `(tactic| k_room) => `(tactic| (simp only [depth_deeper, depth_in1, recursionLimit]; omega))
local macro_rules | `(tactic| k_units) => `(tactic| (simp only [units_deeper, units_in1, cLine]; omega))
local macro_rules | `(tactic| walk_at "execs cons") => `(tactic| (k_here; (k_dflt (refine gentoksN (τ := 1) (Nat.le_add_left 1 _) ?_)); intro tk' htk'))
local macro_rules | `(tactic| walk_at "subscriptTail Name Name bytes int") => `(tactic| (k_here; k_dflt (refine' itemSg ?k1 ?k2 ?_ ?k3 ?k4; (case k1 => assumption); (case k2 => assumption); (case k3 => with_unfolding_all rfl); (case k4 => (intro _; with_unfolding_all rfl)))))
set_option maxHeartbeats 2000000 in
theorem git_tel {w : World} {t : Tok} {n : Int} {u : Tok} (n0 : 0 ≤ n) (n1 : n < 64) :
  ∀ (dp un : Nat) (gd : Option (List Code)) (cn : Str) (cs : Scope) (a : Addr) (ccd : Value) (cl : List (Str × Addr)) (outer : List Env) (A₀ : Around) (base h₀ : Heap) (L : Addr) (m : Str → Option Value) (s : Shared)
    (mean : ExcName → Option Value) (mg mb : Str → Option Value) (Q E : Value → Shared → Prop),
    Below A₀ base outer h₀ → Fr h₀ L s.heap m → (KK w).In h₀ → Top V LO mean mg mb h₀ → cs.kind = .function → dp ≤ 900 → un ≤ 9000 →
    (∀ tok h' tk', Kept s.heap h' → 1 ≤ tok → tok + 1 ≤ tk' → Q (.int (sg n) tok) { s with heap := h', toks := tk' }) →
    wpAny (model P w) (ktrTop dp un gd cn cs L a ccd cl outer) (call (.ref 70) [.bytes B64L.toArray t, .int n u]) Q E s := by
  unfold P KK V LO; k_fill
  intro dp un gd cn cs a ccd cl outer A₀ base h₀ L m s mean mg mb Q E B F X T hk hd hu hret
  refine wpAny_call ?_
  k_dflt (refine' enterB ?k1 ?k2 ?k3 ?k5 ?kA ?kF ?kK ?k6 ?k7 ?k8 ?k9 ?kB ?_ ?c2 ?c3 ?c4 ?c5; (case kA => exact rfl); (case kF => exact rfl); (case kK => assumption); (case k1 => k_asm); (case k2 => k_asm); (case k3 => k_asm); (case k5 => k_asm); (case k6 => k_is); (case k7 => k_is); (case k8 => k_room); (case k9 => first | exact BindsTo.of_eq rfl | exact binds_K (by k_in) rfl (by k_is) rfl rfl rfl); (case c5 => decide); (case kB => exact locs rfl); (case c2 => exact rfl); (case c3 => exact rfl); (case c4 => exact rfl); k_whole; intro L' h' F' B' X' T' N'; (try dsimp only); (try k_fold))
  clear F X T B
  w_top off
  k_steps
  dsimp only
  exact hret _ _ _ (Fr.keep (by assumption)) (TokAt.out (by assumption)) (Nat.le_refl _)
end Mine
-- part OnF
namespace Mine
open PySem PySem.W PySem.Calls PyProof.Rows
set_option maxRecDepth 100000
def onH (s f : Nat) (r : _root_.Fin 6 → Nat) (l : List Int) (k : Int) : List Int := if Txt.item (lisF ((f ^^^ s : Nat) : Int)) (9 - (rgs r).getD k.toNat 0) = Str.ofString "-" then l else l ++ [k]
theorem onH_at {s f : Nat} {r : _root_.Fin 6 → Nat} (ok : RingsOk r) (hs : s < 64) (hf : f < 64) (t : _root_.Fin 6) (l : List Int) : onH s f r l (t.val : Int) = if (pat r (f ^^^ s)).testBit t.val then l ++ [(t.val : Int)] else l := by
  have he : f ^^^ s < 64 := Nat.xor_lt_two_pow (n := 6) hf hs
  have hg : (rgs r).getD ((t.val : Int)).toNat 0 = (r t : Int) := by
    obtain ⟨t, ht⟩ := t
    rcases (by omega : t = 0 ∨ t = 1 ∨ t = 2 ∨ t = 3 ∨ t = 4 ∨ t = 5) with rfl | rfl | rfl | rfl | rfl | rfl <;> rfl
  have q := item_facts ⟨f ^^^ s, he⟩ ⟨r t, ok.lt t⟩
  simp only at q
  unfold onH
  rw [hg, pat_bit]
  by_cases z : (f ^^^ s).testBit (r t) = false
  · rw [if_pos (q.mpr z), z]; rfl
  · rw [if_neg (fun y => z (q.mp y)), if_pos (by simpa using z)]
theorem onH_fold {s f : Nat} {r : _root_.Fin 6 → Nat} (ok : RingsOk r) (hs : s < 64) (hf : f < 64) : (rangeKs 0 6).foldl (onH s f r) [] = onG (pat r (f ^^^ s)) := by
  have e : rangeKs 0 6 = [((0 : _root_.Fin 6).val : Int), ((1 : _root_.Fin 6).val : Int), ((2 : _root_.Fin 6).val : Int), ((3 : _root_.Fin 6).val : Int), ((4 : _root_.Fin 6).val : Int), ((5 : _root_.Fin 6).val : Int)] := by decide
  rw [e]
  simp only [List.foldl_cons, List.foldl_nil, onH_at ok hs hf]
  rfl
theorem on_in : ∀ p : _root_.Fin 64, ∀ k ∈ onG p.val, 0 ≤ k ∧ k < 6 := by decide +kernel
end Mine
-- part Rig0
namespace Mine
open PySem PySem.W PySem.Calls PyProof.Rows
set_option maxRecDepth 100000
theorem xor_lt {f s : Nat} (hf : f < 64) (hs : s < 64) : f ^^^ s < 64 := Nat.xor_lt_two_pow (n := 6) hf hs
theorem filR {w : World} {f s : Nat} {t : Tok} (hf : f < 64) (hs : s < 64) : Tel w 154 900 9000 (fun _ => True) [.int (Builtin.bitOr 16384 (Builtin.bitXor (f : Int) (s : Int))) t] (fun v _ _ => ∃ t, v = .str (lisF ((f ^^^ s : Nat) : Int)) t) := by
  have q := (lis_fil ⟨f ^^^ s, xor_lt hf hs⟩).1
  simp only at q
  rw [bitXor_nat, ← q]
  exact fil_tel
theorem lisR {w : World} {f s : Nat} {t : Tok} (hf : f < 64) (hs : s < 64) : Tel w 183 900 9000 (fun _ => True) [.int (Builtin.bitXor (f : Int) (s : Int)) t] (fun v _ _ => ∃ t, v = .str (lisF ((f ^^^ s : Nat) : Int)) t) := by
  rw [bitXor_nat]
  have := xor_lt hf hs
  exact lis_tel (by omega) (by omega)
/-- the pattern of the figure -/
structure RigP (s f : Nat) (r : _root_.Fin 6 → Nat) (p : Nat) : Prop where
  sl : s < 64
  fl : f < 64
  ok : RingsOk r
  pe : p = pat r (f ^^^ s)
theorem RigP.lt {s f p : Nat} {r : _root_.Fin 6 → Nat} (h : RigP s f r p) : p < 64 := by
  rw [h.pe]; exact pat_lt r _
theorem xor_back (s f : Nat) : s ^^^ (f ^^^ s) = f := by
  rw [Nat.xor_comm f s, ← Nat.xor_assoc, Nat.xor_self, Nat.zero_xor]
theorem fig_pat {s f : Nat} {r : _root_.Fin 6 → Nat} (ok : RingsOk r) (hs : s < 64) (hf : f < 64) : figP s r (pat r (f ^^^ s)) = f := by
  unfold figP
  rw [msk_pat ok (xor_lt hf hs), xor_back]
theorem RigP.fig {s f p : Nat} {r : _root_.Fin 6 → Nat} (h : RigP s f r p) : figP s r p = f := by
  rw [h.pe]; exact fig_pat h.ok h.sl h.fl
theorem RigP.fold {s f p : Nat} {r : _root_.Fin 6 → Nat} (h : RigP s f r p) : (rangeKs 0 6).foldl (onH s f r) [] = onG p := by
  rw [h.pe]; exact onH_fold h.ok h.sl h.fl
theorem RigP.onIn {s f p : Nat} {r : _root_.Fin 6 → Nat} (h : RigP s f r p) : AllIn (onG p) 6 := fun k hk => on_in ⟨p, h.lt⟩ k hk
theorem RigP.mov {s f p : Nat} {r : _root_.Fin 6 → Nat} (h : RigP s f r p) : movF (onG p) = (posP p : Int) := (on_facts ⟨p, h.lt⟩).1
theorem movR {w : World} {l : Addr} {vs : List Value} {s f p : Nat} {r : _root_.Fin 6 → Nat} (h : RigP s f r p) (hi : IntsAre vs (onG p)) :
    Tel w 190 900 9000 (fun h => h.IsList l vs.toArray) [Value.ref l] (fun v _ _ => ∃ t, v = .int (posP p : Int) t) := by
  rw [← h.mov]; exact mov_tel hi h.onIn
theorem rgs_in {r : _root_.Fin 6 → Nat} (h : RingsOk r) (k : Nat) : 0 ≤ [(r 0 : Int), (r 1 : Int), (r 2 : Int), (r 3 : Int), (r 4 : Int), (r 5 : Int)].getD k 0 ∧ [(r 0 : Int), (r 1 : Int), (r 2 : Int), (r 3 : Int), (r 4 : Int), (r 5 : Int)].getD k 0 < 6 := by
  have h0 := h.lt 0; have h1 := h.lt 1; have h2 := h.lt 2; have h3 := h.lt 3; have h4 := h.lt 4; have h5 := h.lt 5
  match k with
  | 0 => show 0 ≤ (r 0 : Int) ∧ (r 0 : Int) < 6; omega
  | 1 => show 0 ≤ (r 1 : Int) ∧ (r 1 : Int) < 6; omega
  | 2 => show 0 ≤ (r 2 : Int) ∧ (r 2 : Int) < 6; omega
  | 3 => show 0 ≤ (r 3 : Int) ∧ (r 3 : Int) < 6; omega
  | 4 => show 0 ≤ (r 4 : Int) ∧ (r 4 : Int) < 6; omega
  | 5 => show 0 ≤ (r 5 : Int) ∧ (r 5 : Int) < 6; omega
  | k + 6 => show 0 ≤ (0 : Int) ∧ (0 : Int) < 6; omega
theorem onH_grows (s f : Nat) (r : _root_.Fin 6 → Nat) : KPfGrows (onH s f r) := fun l k => by
  unfold onH; split
  · omega
  · simp
/-- one that stands just behind the first one on -/
def frG (l : List Int) (k : Int) : List Int := if k < 5 then l ++ [k + 1] else l
theorem frG_grows : KPfGrows frG := fun l k => by
  unfold frG; split
  · simp
  · omega
theorem freeG_eq (p : Nat) : [0] ++ ((onG p).take 1).foldl frG [] = freeG p := rfl
theorem free_in : ∀ p : _root_.Fin 64, (∀ k ∈ freeG p.val, 0 ≤ k ∧ k < 6) ∧ (freeG p.val).length ≤ 2 ∧ (onG p.val).length ≤ 6 := by decide +kernel
theorem RigP.freeIn {s f p : Nat} {r : _root_.Fin 6 → Nat} (h : RigP s f r p) : AllIn (freeG p) 6 := (free_in ⟨p, h.lt⟩).1
/-- the figure with a ring of the order turned -/
def othG (f : Nat) (r : _root_.Fin 6 → Nat) (k : Int) : Int := Builtin.bitXor (f : Int) (1 * 2 ^ ([(r 0 : Int), (r 1 : Int), (r 2 : Int), (r 3 : Int), (r 4 : Int), (r 5 : Int)].getD k.toNat 0).toNat)
theorem othG_fig {s f p : Nat} {r : _root_.Fin 6 → Nat} (h : RigP s f r p) {k : Int} (k0 : 0 ≤ k) (k1 : k < 6) : othG f r k = (figP s r (p ^^^ 2 ^ k.toNat) : Int) := by
  have hk : k.toNat < 6 := by omega
  have e := figP_pow s r ⟨k.toNat, hk⟩ p
  rw [h.fig] at e
  have hg : [(r 0 : Int), (r 1 : Int), (r 2 : Int), (r 3 : Int), (r 4 : Int), (r 5 : Int)].getD k.toNat 0 = (r ⟨k.toNat, hk⟩ : Int) := by
    generalize k.toNat = t at hk
    rcases (by omega : t = 0 ∨ t = 1 ∨ t = 2 ∨ t = 3 ∨ t = 4 ∨ t = 5) with rfl | rfl | rfl | rfl | rfl | rfl <;> rfl
  unfold othG
  rw [hg, pow_cast, bitXor_nat, e]
/-- the place that a figure's listing tells -/
def plc (s : Nat) (r : _root_.Fin 6 → Nat) (k : Int) : Int := (posP (pat r (k.toNat ^^^ s)) : Int)
theorem pat_msk {r : _root_.Fin 6 → Nat} (ok : RingsOk r) {q : Nat} (hq : q < 64) : pat r (msk r q) = q := msk_inj ok (pat_lt r _) hq (msk_pat ok (msk_lt ok q))
theorem plc_fig {s : Nat} {r : _root_.Fin 6 → Nat} (ok : RingsOk r) {q : Nat} (hq : q < 64) : plc s r ((figP s r q : Nat) : Int) = (posP q : Int) := by
  unfold plc figP
  rw [Int.toNat_natCast, Nat.xor_comm s, Nat.xor_assoc, Nat.xor_self, Nat.xor_zero, pat_msk ok hq]
theorem plc_first {s : Nat} {r : _root_.Fin 6 → Nat} {b : Array UInt8} (hb : Begins s r b) (ok : RingsOk r) (hs : s < 64) {k : Int} (k0 : 0 ≤ k) (k1 : k < 64) : FirstAt b (sg k) (posP (pat r (k.toNat ^^^ s))) := by
  have h := first_pos hb ok hs (p := pat r (k.toNat ^^^ s)) (pat_lt r _)
  rw [fig_pat ok hs (by omega), show ((k.toNat : Nat) : Int) = k by omega] at h
  exact h
theorem idxR {w : World} {b : Array UInt8} {tb u : Tok} {s : Nat} {r : _root_.Fin 6 → Nat} {k : Int} (hb : Begins s r b) (ok : RingsOk r) (hs : s < 64) (k0 : 0 ≤ k) (k1 : k < 64) (hu : 1 ≤ u) :
    TelT w 77 900 9000 (u + 1) (fun _ => True) [Value.bytes b tb, .int (sg k) u] (fun v _ _ => ∃ t, v = .int (plc s r k) t) := by
  have h := plc_first hb ok hs k0 k1
  intro dp un gd cn cs a ccd cl outer A₀ base h₀ L m sh mean mg mb Q E B F X T hk hd hu' hp ht hret
  refine idx_tel (w := w) (t := tb) hu ⟨_, h.1⟩ dp un gd cn cs a ccd cl outer A₀ base h₀ L m sh mean mg mb Q E B F X T hk hd hu' hp ht fun v h' tk' kp po => hret v h' tk' kp ?_
  obtain ⟨i, t, rfl, hi⟩ := po
  exact ⟨t, by rw [FirstAt.uniq hi h]; rfl⟩
/-- the places of the signs that the rule leads to -/
def plG (p : Nat) : List Int := (freeG p).map fun t => (posP (p ^^^ 2 ^ t.toNat) : Int)
/-- the signs next to a place -/
def nbStep (l : List Int) (k : Int) : List Int := if 0 ≤ k ∧ k < 64 then l ++ [k] else l
def nbG (m : Int) : List Int := [m - 1, m + 1].foldl nbStep []
theorem plc_oth {s f p : Nat} {r : _root_.Fin 6 → Nat} (h : RigP s f r p) : ((freeG p).map (othG f r)).map (plc s r) = plG p := by
  rw [List.map_map]
  refine List.map_congr_left fun k hk => ?_
  have hk' := h.freeIn k hk
  show plc s r (othG f r k) = _
  rw [othG_fig h hk'.1 hk'.2, plc_fig h.ok (Nat.xor_lt_two_pow (n := 6) h.lt (Nat.pow_lt_pow_right (by omega) (by omega)))]
theorem RigP.othIn {s f p : Nat} {r : _root_.Fin 6 → Nat} (h : RigP s f r p) : AllIn ((freeG p).map (othG f r)) 64 := fun k hk => by
  obtain ⟨j, hj, rfl⟩ := List.mem_map.mp hk
  have hk' := h.freeIn j hj
  rw [othG_fig h hk'.1 hk'.2]
  have := figP_lt h.ok h.sl (p ^^^ 2 ^ j.toNat)
  omega
theorem srt_facts : ∀ p : _root_.Fin 64, (srt (plG p.val)).isPerm (plG p.val) = true ∧ lks_asc (srt (plG p.val)) = true ∧ srt (plG p.val) = nbG (posP p.val : Int) := by decide +kernel
theorem srt_nb {s f p : Nat} {r : _root_.Fin 6 → Nat} {ns : List Int} (h : RigP s f r p) (hp : ns.Perm (plG p)) (ho : ns.Pairwise (· ≤ ·)) : ns = nbG (posP p : Int) := by
  obtain ⟨a, b, c⟩ := srt_facts ⟨p, h.lt⟩
  rw [← c]
  exact lks_uniq (hp.trans (List.isPerm_iff.mp a).symm) ho (lks_asc_spec b)
theorem plc_self {s f p : Nat} {r : _root_.Fin 6 → Nat} (h : RigP s f r p) : plc s r (f : Int) = (posP p : Int) := by
  unfold plc
  rw [Int.toNat_natCast, ← h.pe]
theorem pos_lt {s f p : Nat} {r : _root_.Fin 6 → Nat} (h : RigP s f r p) : posP p < 64 := (pos_facts ⟨p, h.lt⟩).2
theorem free_len {s f p : Nat} {r : _root_.Fin 6 → Nat} (h : RigP s f r p) : (freeG p).length ≤ 2 ∧ (onG p).length ≤ 6 := (free_in ⟨p, h.lt⟩).2
end Mine
-- part Tup0
namespace Mine
open PySem PySem.W PySem.Calls PyProof.Rows
set_option maxRecDepth 100000
set_option maxHeartbeats 2000000
/-- the tuple that a comprehension goes over -/
def TupAt (ax : Addr) (its : Array Value) (news : List (Addr × Obj)) : Prop := ∃ o, (ax, o) ∈ news ∧ o.cls = .type "tuple" ∧ ∃ n, o.data = .seq its n
def CompTup (prog : Program) (w : World) (A : Around) (h₀ : Heap) (L : Addr) (m : Str → Option Value) (env : Env) (ct elt : PySem.Expr) (x : Str) (scope : Scope) (cl : List (Str × Addr)) (Fin : Shared → List Value → List (Addr × Obj) → Prop) (xv : Value) (s₁ : Shared) : Prop :=
  ∃ ax its news, xv = .ref ax ∧ A.handled = none ∧ Fr h₀ L s₁.heap m ∧ News h₀ L s₁.heap news ∧ TupAt ax its news ∧ its.size ≤ sizeLine ∧
    ∀ s₂ : Shared, (∃ h, s₂ = { s₁ with heap := h }) → LCt.CompRestT prog w A h₀ L m env ct elt x scope cl s₂ (TupAt ax its) (fun i v => its[i]? = some v) (Fin s₂) its.size 0 [] news
section
variable {prog : Program} {w : World} {A : Around} {E : Value → Shared → Prop} {s : Shared} {h₀ : Heap} {L : Addr} {m : Str → Option Value} {env : Env}
theorem TupAt.tup {ax : Addr} {its : Array Value} {news : List (Addr × Obj)} {h : Heap} (S : TupAt ax its news) (N : News h₀ L h news) : h.IsTuple ax its := by
  obtain ⟨o, ho, hc, n, hd⟩ := S
  exact ⟨o, (N _ ho).1, hc, n, hd⟩
theorem CompTup.intro {ct elt : PySem.Expr} {x : Str} {scope : Scope} {cl : List (Str × Addr)} {Fin : Shared → List Value → List (Addr × Obj) → Prop} {ax : Addr} {its : Array Value} {news : List (Addr × Obj)} {s₁ : Shared} {k : Nat}
    (hh : A.handled = none) (F : Fr h₀ L s₁.heap m) (N : News h₀ L s₁.heap news) (hm : (ax, ({ cls := .type "tuple", data := .seq its k } : Obj)) ∈ news) (hsz : its.size ≤ sizeLine)
    (h : ∀ g, LCt.CompRestT prog w A h₀ L m env ct elt x scope cl { s₁ with heap := g } (TupAt ax its) (fun i v => its[i]? = some v) (Fin { s₁ with heap := g }) its.size 0 [] news) :
    CompTup prog w A h₀ L m env ct elt x scope cl Fin (.ref ax) s₁ := ⟨ax, its, news, rfl, hh, F, N, ⟨_, hm, rfl, _, rfl⟩, hsz, fun _ ⟨g, e⟩ => e ▸ h g⟩
theorem tup_st {ax I : Addr} {its : Array Value} : ∀ i (h h' : Heap) (o : Obj) (nw : List (Addr × Obj)), (h.IsTupleIter I ax i ∧ h.IsTuple ax its) → h.get? I = some o → h'.get? I = some o → (∀ b o, h₀.get? b = some o → h'.get? b = some o) → News h₀ L h' nw → TupAt ax its nw → (h'.IsTupleIter I ax i ∧ h'.IsTuple ax its) :=
  fun i h h' o nw st e e' k N S => ⟨by obtain ⟨o', q, r⟩ := st.1; rw [e] at q; cases q; exact ⟨o, e', r⟩, S.tup N⟩
theorem ListComp_tup {ct elt iter : PySem.Expr} {x : Str} {px : Pos} {scope : Scope} {cl : List (Str × Addr)} {pos : Pos} {Q : Value → Shared → Prop} (F₀ : Fr h₀ L s.heap m)
    (hclos : closureFor scope env = pure cl) (hcell : ∀ y ∈ scope.names, y.2 ≠ .cell) (hkind : scope.kind = .function)
    (hnames : ∀ y ∈ scope.names, y.2 = .local → scope.names.lookup y.1 = some .local) (hx : scope.names.lookup x = some .local)
    (h : wpAny (model prog w) A (eval iter env) (CompTup prog w A h₀ L m env ct elt x scope cl (fun s₂ => LCg.FinE h₀ L m s₂ Q)) E s)
    (hs : ∀ x, foldedSetIterable iter env x = pure x := by intro _; rfl) :
    wpAny (model prog w) A (eval (.ListComp elt [⟨.Name x px, iter, [ct], 0⟩] scope pos) env) Q E s := by
  rw [eval_ListComp]
  refine wpAny_comprehension_free (use := none) rfl hs hclos hkind hnames (wpAny_mono h (fun xv s₁ h₁ => ?_) fun _ _ e => e)
  obtain ⟨ax, its, news, rfl, hh, F, N, S, hsz, R⟩ := h₁
  have hl := S.tup N
  have hlt : ax < s₁.heap.objs.size := by obtain ⟨_, e, _⟩ := hl; exact Heap.lt_size e
  refine wpAny_pyIter_tuple hl ?_
  have up : ∀ b o, s₁.heap.get? b = some o → (s₁.heap.push { cls := .type "tuple_iterator", data := .fields #[.ref ax, .int 0 0] }).get? b = some o := fun b o e => Heap.get?_push_of_some _ e
  refine LCt.block_T (Walks.tuple hh s₁.heap.objs.size ax (Nat.ne_of_lt hlt) its) hsz (fun i h st => by obtain ⟨o, e, _⟩ := st.1; exact ⟨o, e⟩) tup_st hcell hkind hx ⟨⟨_, Heap.get?_push_size _ rfl, rfl, rfl⟩, hl.at fun o e => up _ o e⟩ (fun b hb => ?_)
    (F.keeps up) (N.grown up) (Nat.ne_of_lt F.ns.lt) (next_is_new F) (fun p hp => Nat.ne_of_lt (Heap.lt_size (N p hp).1)) S (R _ ⟨_, rfl⟩) ?_
  · show b < (s₁.heap.push _).objs.size
    rw [Heap.size_push]
    rcases List.mem_cons.mp hb with rfl | hb
    · exact Nat.lt_succ_self _
    · rw [List.mem_singleton.mp hb]; exact Nat.lt_succ_of_lt hlt
  · intro D C h tk m' ys news' F' N' o1 hn hC₀ hD₀ hCL hDL hCD offC fin
    refine ⟨m', hn, fun h'' hs'' => fin D h'' tk (F'.change hs'' hCL hC₀) (fun p hp => ?_) o1⟩
    refine ⟨hs''.extBut _ _ ?_ (N' p hp).1, (N' p hp).2⟩
    rcases List.mem_cons.mp hp with rfl | hp
    · exact Ne.symm hCD
    · exact offC p hp
end
section
variable {prog : Program} {w : World} {A : Around} {h₀ : Heap} {L : Addr} {m : Str → Option Value} {env : Env} {ct elt : PySem.Expr} {x : Str} {scope : Scope} {cl : List (Str × Addr)} {s : Shared} {S : List (Addr × Obj) → Prop} {Fin : List Value → List (Addr × Obj) → Prop} {news : List (Addr × Obj)}
theorem nbStep_grows : KPfGrows nbStep := fun l k => by
  unfold nbStep; split
  · simp
  · omega
theorem nbRest {M : Int} {t u : Tok}
    (turn : ∀ k t I oI C oC D m₂ ys l h tk (E' : Value → Shared → Prop), IntsAre ys l → LCg.NsObj oC m₂ → m₂ x = some (.int k t) → Fr h₀ L h m → News h₀ L h ((I, oI) :: (C, oC) :: (D, LCg.lst ys) :: news) → LCg.Off3 I C D news → ((@Ne Nat I C) ∧ (@Ne Nat I D) ∧ (@Ne Nat C D)) → KPfMark →
      wpAny (model prog w) A (isTrue ct (compEnvC scope cl C env) (eval ct (compEnvC scope cl C env))) (fun b s₂ => if b = true then wpAny (model prog w) A (eval elt (compEnvC scope cl C env)) (LCg.CompEnd h₀ L m { s with heap := h, toks := tk } I oI C oC D (LCg.lst ys) S (fun y news' => KCiEl news l (nbStep l k) y news')) E' s₂
        else LCg.CompEnd h₀ L m { s with heap := h, toks := tk } I oI C oC D (LCg.lst ys) S (fun _ news' => KCiNo news l (nbStep l k) news') Value.none s₂) E' { s with heap := h, toks := tk })
    (fin : ∀ ys, IntsAre ys (nbG M) → Fin ys news) : LCt.CompRestT prog w A h₀ L m env ct elt x scope cl s S (fun i v => (#[Value.int (M - 1) t, .int (M + 1) u] : Array Value)[i]? = some v) Fin (#[Value.int (M - 1) t, .int (M + 1) u] : Array Value).size 0 [] news :=
  kci_rest (ks := [M - 1, M + 1]) (n := 2) nbStep rfl (fun i v hi hv => by
    match i, hi with
    | 0, _ => exact ⟨_, t, rfl, (Option.some.inj hv).symm⟩
    | 1, _ => exact ⟨_, u, rfl, (Option.some.inj hv).symm⟩) (fun k t I oI C oC D m₂ ys l h tk E' _ => turn k t I oI C oC D m₂ ys l h tk E') (fun ys h _ => fin ys h) nbStep_grows
end
theorem nbNo {news : List (Addr × Obj)} {k : Int} {l : List Int} (h : ¬ (0 ≤ k ∧ k < 64)) : KCiNo news l (nbStep l k) news := kci_no (if_neg h) rfl
theorem nbEl {news : List (Addr × Obj)} {k : Int} {l : List Int} {t : Tok} (h : 0 ≤ k ∧ k < 64) : KCiEl news l (nbStep l k) (.int k t) news := kci_el (if_pos h) rfl rfl
end Mine
-- part Rig
namespace Mine
open PySem PySem.W PySem.Calls PyProof.Rows
set_option maxRecDepth 100000
local macro_rules | `(tactic| k_room) => `(tactic| (simp only [depth_deeper, depth_in1, recursionLimit]; omega))
local macro_rules | `(tactic| k_units) => `(tactic| (simp only [units_deeper, units_in1, cLine]; omega))
section
variable {prog : Program} {w : World} {A : Around} {h₀ : Heap} {L : Addr} {m : Str → Option Value} {env : Env} {ct elt : PySem.Expr} {x : Str} {scope : Scope} {cl : List (Str × Addr)} {s : Shared} {S : List (Addr × Obj) → Prop} {Fin : List Value → List (Addr × Obj) → Prop} {news : List (Addr × Obj)}
theorem kciOn {s' f p : Nat} {r : _root_.Fin 6 → Nat} (_h : RigP s' f r p)
    (turn : ∀ k t I oI C oC D m₂ ys l h tk (E' : Value → Shared → Prop), 0 ≤ k → k < 0 + ((6 : Nat) : Int) → 0 ≤ [(r 0 : Int), (r 1 : Int), (r 2 : Int), (r 3 : Int), (r 4 : Int), (r 5 : Int)].getD k.toNat 0 → [(r 0 : Int), (r 1 : Int), (r 2 : Int), (r 3 : Int), (r 4 : Int), (r 5 : Int)].getD k.toNat 0 < 6 → IntsAre ys l → LCg.NsObj oC m₂ → m₂ x = some (.int k t) → Fr h₀ L h m → News h₀ L h ((I, oI) :: (C, oC) :: (D, LCg.lst ys) :: news) → LCg.Off3 I C D news → ((@Ne Nat I C) ∧ (@Ne Nat I D) ∧ (@Ne Nat C D)) → KPfMark →
      wpAny (model prog w) A (isTrue ct (compEnvC scope cl C env) (eval ct (compEnvC scope cl C env))) (fun b s₂ => if b = true then wpAny (model prog w) A (eval elt (compEnvC scope cl C env)) (LCg.CompEnd h₀ L m { s with heap := h, toks := tk } I oI C oC D (LCg.lst ys) S (fun y news' => KCiEl news l (onH s' f r l k) y news')) E' s₂
        else LCg.CompEnd h₀ L m { s with heap := h, toks := tk } I oI C oC D (LCg.lst ys) S (fun _ news' => KCiNo news l (onH s' f r l k) news') Value.none s₂) E' { s with heap := h, toks := tk })
    (fin : ∀ ys, IntsAre ys (onG p) → Fin ys news) : LCt.CompRestT prog w A h₀ L m env ct elt x scope cl s S (fun i v => ∃ t, v = .int (0 + (i : Int)) t) Fin 6 0 [] news :=
  kci_range (a := 0) (n := 6) (onH s' f r) (fun k t I oI C oC D m₂ ys l h tk E' a1 a2 => turn k t I oI C oC D m₂ ys l h tk E' a1 a2 (rgs_in _h.ok _).1 (rgs_in _h.ok _).2) (fun ys h _ => fin ys (_h.fold ▸ h)) (onH_grows s' f r)
theorem kciFree {vs : List Value} {s' f p : Nat} {r : _root_.Fin 6 → Nat} (_h : RigP s' f r p) (hi : IntsAre vs ((onG p).take 1))
    (turn : ∀ k t I oI C oC D m₂ ys l h tk (E' : Value → Shared → Prop), 0 ≤ k → k < 6 →  IntsAre ys l → LCg.NsObj oC m₂ → m₂ x = some (.int k t) → Fr h₀ L h m → News h₀ L h ((I, oI) :: (C, oC) :: (D, LCg.lst ys) :: news) → LCg.Off3 I C D news → ((@Ne Nat I C) ∧ (@Ne Nat I D) ∧ (@Ne Nat C D)) → KPfMark →
      wpAny (model prog w) A (isTrue ct (compEnvC scope cl C env) (eval ct (compEnvC scope cl C env))) (fun b s₂ => if b = true then wpAny (model prog w) A (eval elt (compEnvC scope cl C env)) (LCg.CompEnd h₀ L m { s with heap := h, toks := tk } I oI C oC D (LCg.lst ys) S (fun y news' => KCiEl news l (frG l k) y news')) E' s₂
        else LCg.CompEnd h₀ L m { s with heap := h, toks := tk } I oI C oC D (LCg.lst ys) S (fun _ news' => KCiNo news l (frG l k) news') Value.none s₂) E' { s with heap := h, toks := tk })
    (fin : ∀ ys, IntsAre ys (((onG p).take 1).foldl frG []) → Fin ys news) : LCt.CompRestT prog w A h₀ L m env ct elt x scope cl s S (fun i v => vs.toArray[i]? = some v) Fin vs.toArray.size 0 [] news :=
  kci_list frG hi (fun k t I oI C oC D m₂ ys l h tk E' hk => turn k t I oI C oC D m₂ ys l h tk E' (_h.onIn k (List.mem_of_mem_take hk)).1 (_h.onIn k (List.mem_of_mem_take hk)).2) (fun ys h _ => fin ys h) frG_grows
theorem kcfOth {vs : List Value} {s' f p : Nat} {r : _root_.Fin 6 → Nat} (_h : RigP s' f r p) (hi : IntsAre vs (freeG p))
    (turn : ∀ k t I oI C oC D m₂ ys h tk (E' : Value → Shared → Prop), 0 ≤ k → k < 6 → 0 ≤ [(r 0 : Int), (r 1 : Int), (r 2 : Int), (r 3 : Int), (r 4 : Int), (r 5 : Int)].getD k.toNat 0 → [(r 0 : Int), (r 1 : Int), (r 2 : Int), (r 3 : Int), (r 4 : Int), (r 5 : Int)].getD k.toNat 0 < 6 → LCg.NsObj oC m₂ → m₂ x = some (.int k t) → Fr h₀ L h m → News h₀ L h ((I, oI) :: (C, oC) :: (D, LCg.lst ys) :: news) → LCg.Off3 I C D news → ((@Ne Nat I C) ∧ (@Ne Nat I D) ∧ (@Ne Nat C D)) → KPfMark →
      wpAny (model prog w) A (eval elt (compEnvC scope cl C env)) (LCg.CompEnd h₀ L m { s with heap := h, toks := tk } I oI C oC D (LCg.lst ys) S (fun y news' => KCfEl news (othG f r k) y news')) E' { s with heap := h, toks := tk })
    (fin : ∀ ys, IntsAre ys ((freeG p).map (othG f r)) → Fin ys news) : LCg.CompRest prog w A h₀ L m env elt x scope cl s S (fun i v => vs.toArray[i]? = some v) Fin vs.toArray.size 0 [] news :=
  kcf_list (othG f r) hi (fun k t I oI C oC D m₂ ys h tk E' hk => turn k t I oI C oC D m₂ ys h tk E' (_h.freeIn k hk).1 (_h.freeIn k hk).2 (rgs_in _h.ok _).1 (rgs_in _h.ok _).2) fin
theorem kcfPlc {vs : List Value} {s' f p : Nat} {r : _root_.Fin 6 → Nat} (_h : RigP s' f r p) (hi : IntsAre vs ((freeG p).map (othG f r)))
    (turn : ∀ k t I oI C oC D m₂ ys h tk (E' : Value → Shared → Prop), 0 ≤ k → k < 64 →  LCg.NsObj oC m₂ → m₂ x = some (.int k t) → Fr h₀ L h m → News h₀ L h ((I, oI) :: (C, oC) :: (D, LCg.lst ys) :: news) → LCg.Off3 I C D news → ((@Ne Nat I C) ∧ (@Ne Nat I D) ∧ (@Ne Nat C D)) → KPfMark →
      wpAny (model prog w) A (eval elt (compEnvC scope cl C env)) (LCg.CompEnd h₀ L m { s with heap := h, toks := tk } I oI C oC D (LCg.lst ys) S (fun y news' => KCfEl news (plc s' r k) y news')) E' { s with heap := h, toks := tk })
    (fin : ∀ ys, IntsAre ys (plG p) → Fin ys news) : LCg.CompRest prog w A h₀ L m env elt x scope cl s S (fun i v => vs.toArray[i]? = some v) Fin vs.toArray.size 0 [] news :=
  kcf_list (plc s' r) hi (fun k t I oI C oC D m₂ ys h tk E' hk => turn k t I oI C oC D m₂ ys h tk E' (_h.othIn k hk).1 (_h.othIn k hk).2) (fun ys h => fin ys (plc_oth _h ▸ h))
end
section
variable {prog : Program} {w : World} {A A₀ : Around} {E : Value → Shared → Prop} {s : Shared} {h₀ base : Heap} {L : Addr} {m mg mb : Str → Option Value} {mean : ExcName → Option Value} {news : List (Addr × Obj)}
theorem useG {t u : Tok} {n : Int} {dp un : Nat} {gd : Option (List Code)} {cn : Str} {cs : Scope} {a : Addr} {ccd : Value} {cl : List (Str × Addr)} {outer : List Env} {Q : Value → Shared → Prop}
    (n0 : 0 ≤ n) (n1 : n < 64) (B : Below A₀ base outer h₀) (F : Fr h₀ L s.heap m) (X : (KK w).In h₀) (T : Top V LO mean mg mb h₀) (N : News h₀ L s.heap news) (hk : cs.kind = .function) (hd : dp ≤ 900) (hu : un ≤ 9000)
    (ret : ∀ tok h' tk', Fr h₀ L h' m → News h₀ L h' news → 1 ≤ tok → tok + 1 ≤ tk' → Q (.int (sg n) tok) { s with heap := h', toks := tk' }) :
    wpAny (model P w) (ktrTop dp un gd cn cs L a ccd cl outer) (call (.ref 70) [.bytes B64L.toArray t, .int n u]) Q E s :=
  git_tel n0 n1 dp un gd cn cs a ccd cl outer A₀ base h₀ L m s mean mg mb Q E B F X T hk hd hu fun tok h' tk' k h1 h2 => ret tok h' tk' (F.keeps k) (N.grown k) h1 h2
theorem sliceOn {vs : List Value} {s' f p : Nat} {r : _root_.Fin 6 → Nat} {value slice : PySem.Expr} {l : Addr} {t : Tok} {Q : Value → Shared → Prop} (_h : RigP s' f r p) (hi : IntsAre vs (onG p)) (F : Fr h₀ L s.heap m) (N : News h₀ L s.heap news) (hl : s.heap.IsList l vs.toArray)
    (h : ∀ D ws h', Fr h₀ L h' m → News h₀ L h' ((D, listOf (List.toArray ws) 0) :: news) → (∀ p ∈ news, p.1 < D) → IntsAre ws ((onG p).take 1) → Q (.ref D) { s with heap := h' })
    (hs : subscripted slice false (.ref l) (.ref s.heap.objs.size) = operate [.ref s.heap.objs.size, .ref l] (getItem (.ref l) (.ref s.heap.objs.size))) (ht : ∀ r, letTemporaryGo value (.ref l) r = pure ()) :
    wpAny (model prog w) A (subscriptTail value slice (.ref l) (.ref s.heap.objs.size)) Q E { s with heap := s.heap.push { cls := .type "slice", data := .fields #[.none, .int 1 t, .none] } } :=
  kmk_slice_ints F N hl .none (.int _ _) hi (kmk_upto hi (by decide)) rfl (fun D ws h' F' N' l1 hI _ _ => h D ws h' F' N' l1 hI) hs ht (by
    have h1 := hi.length
    have h2 := (free_len _h).2
    rw [PySem.sizeLine_eq, List.size_toArray]; omega)
theorem sortedPl {vs : List Value} {s' f p : Nat} {r : _root_.Fin 6 → Nat} {l : Addr} {Q : Value → Shared → Prop} (_h : RigP s' f r p) (hi : IntsAre vs (plG p)) (F : Fr h₀ L s.heap m) (N : News h₀ L s.heap news) (hl : s.heap.IsList l vs.toArray)
    (h : ∀ D vs' c h', Fr h₀ L h' m → News h₀ L h' ((D, PySem.W.listOf vs'.toArray c) :: news) → (∀ q ∈ news, q.1 < D) → IntsAre vs' (nbG (posP p : Int)) → Q (.ref D) { s with heap := h' }) :
    wpAny (model prog w) A (call (.builtin "sorted") [.ref l]) Q E s :=
  kso_sorted F N hl hi (by have := (free_len _h).1; unfold plG; rw [List.length_map]; omega) fun D vs' ns' c h' F' N' l1 i' _ pe o _ => h D vs' c h' F' N' l1 (srt_nb _h pe o ▸ i')
end
theorem onNo {news : List (Addr × Obj)} {s f : Nat} {r : _root_.Fin 6 → Nat} {k : Int} {l : List Int} (h : (Txt.item (lisF ((f ^^^ s : Nat) : Int)) (9 - [(r 0 : Int), (r 1 : Int), (r 2 : Int), (r 3 : Int), (r 4 : Int), (r 5 : Int)].getD k.toNat 0) != Str.ofString "-") = false) : KCiNo news l (onH s f r l k) news :=
  kci_no (if_pos (bne_eq_false_iff_eq.mp h)) rfl
theorem frNo {news : List (Addr × Obj)} {k : Int} {l : List Int} (h : ¬ k < 5) : KCiNo news l (frG l k) news := kci_no (if_neg h) rfl
theorem frEl {news : List (Addr × Obj)} {k : Int} {l : List Int} {t : Tok} (h : k < 5) : KCiEl news l (frG l k) (.int (k + 1) t) news := kci_el (if_pos h) rfl rfl
theorem frNoA {news : List (Addr × Obj)} {k : Int} {l : List Int} (h : 5 ≤ k) : KCiNo news l (frG l k) news := frNo (by omega)
theorem nbNoA {news : List (Addr × Obj)} {k : Int} {l : List Int} (h : k < 0) : KCiNo news l (nbStep l k) news := nbNo (by omega)
theorem nbNoB {news : List (Addr × Obj)} {k : Int} {l : List Int} (h : ¬ 0 ≤ k) : KCiNo news l (nbStep l k) news := nbNo (by omega)
theorem nbNoC {news : List (Addr × Obj)} {k : Int} {l : List Int} (h : 64 ≤ k) : KCiNo news l (nbStep l k) news := nbNo (by omega)
theorem nbNoD {news : List (Addr × Obj)} {k : Int} {l : List Int} (h : ¬ k < 64) : KCiNo news l (nbStep l k) news := nbNo (by omega)
theorem nbElA {news : List (Addr × Obj)} {k : Int} {l : List Int} {t : Tok} (h0 : 0 ≤ k) (h : k < 64) : KCiEl news l (nbStep l k) (.int k t) news := nbEl ⟨h0, h⟩
theorem sizeFree {vs : List Value} {s f p : Nat} {r : _root_.Fin 6 → Nat} (h : RigP s f r p) (hi : IntsAre vs (freeG p)) : vs.toArray.size ≤ sizeLine := by
  have e := (free_len h).1
  rw [PySem.sizeLine_eq, List.size_toArray, hi.length]; omega
theorem sizeOth {vs : List Value} {s f p : Nat} {r : _root_.Fin 6 → Nat} (h : RigP s f r p) (hi : IntsAre vs ((freeG p).map (othG f r))) : vs.toArray.size ≤ sizeLine := by
  have e := (free_len h).1
  rw [PySem.sizeLine_eq, List.size_toArray, hi.length, List.length_map]; omega
theorem tupEnd {h₀ : Heap} {L I C D ax : Addr} {m : Str → Option Value} {s₁ : Shared} {oI oC oD : Obj} {its : Array Value} {k : Nat} {rest : Value → List (Addr × Obj) → Prop} {y : Value} {h' : Heap} {tk : Nat} {news : List (Addr × Obj)}
    (F : Fr h₀ L h' m) (N : News h₀ L h' ((I, oI) :: (C, oC) :: (D, oD) :: news)) (off : LCg.Off3 I C D news) (hm : (ax, ({ cls := .type "tuple", data := .seq its k } : Obj)) ∈ news) (r : rest y news) :
    LCg.CompEnd h₀ L m s₁ I oI C oC D oD (TupAt ax its) rest y { s₁ with heap := h', toks := tk } :=
  LCg.CompEnd.intro F N news (fun _ hp => hp) off ⟨_, hm, rfl, _, rfl⟩ r
theorem neSelf {x : Str} (h : (x != x) = true) : False := by simp at h
theorem addFree {prog : Program} {w : World} {A : Around} {E : Value → Shared → Prop} {s : Shared} {h₀ : Heap} {L : Addr} {m : Str → Option Value} {news : List (Addr × Obj)} {ws : List Value} {s' f p : Nat} {r : _root_.Fin 6 → Nat} {a b : Addr} {t : Tok} {Q : Value → Shared → Prop} (_h : RigP s' f r p) (hj : IntsAre ws (((onG p).take 1).foldl frG [])) (F : Fr h₀ L s.heap m) (N : News h₀ L s.heap news) (ha : s.heap.IsList a [Value.int 0 t].toArray) (hb : s.heap.IsList b ws.toArray)
    (h : ∀ D us h', Fr h₀ L h' m → News h₀ L h' ((D, listOf (List.toArray us) 0) :: news) → (∀ p ∈ news, p.1 < D) → IntsAre us (freeG p) → Q (.ref D) { s with heap := h' }) :
    wpAny (model prog w) A (binaryOp .Add (.ref a) (.ref b)) Q E s :=
  kmk_add_ints F N ha hb (.cons 0 t .nil) hj h (by
    have e := (free_len _h).1
    rw [← freeG_eq, List.length_append] at e
    rw [PySem.sizeLine_eq]
    exact Nat.le_trans e (by decide))
theorem ne_nb {prog : Program} {w : World} {A : Around} {E : Value → Shared → Prop} {s : Shared} {a b : Addr} {vs us : List Value} {ns ms : List Int} {Q : Value → Shared → Prop} (hl : s.heap.IsList a vs.toArray) (hi : IntsAre vs ns) (hl' : s.heap.IsList b us.toArray) (hi' : IntsAre us ms) (e : ns = ms) (hu : A.units + 64 < cLine)
    (h : Q (.bool false) s) : wpAny (model prog w) A (compareOp .NotEq (.ref a) (.ref b)) Q E s :=
  ne_intsK hl hi hl' hi' hu (by subst e; simpa using h)
local macro_rules | `(tactic| walk_at "eval ListComp") => `(tactic| (k_here; (with_reducible show wpAny _ _ (eval (PySem.Expr.ListComp _ [⟨_, PySem.Expr.Subscript _ _ _, _, _⟩] _ _) _) _ _ _); (k_dflt (refine LCt.ListComp_T (F₀ := by k_asm) (by with_unfolding_all rfl) (by decide) (by rfl) (by decide) (by rfl) ?_); k_dflt lct_toSrc)))
local macro_rules | `(tactic| walk_at "exec Assign cons ListComp") => `(tactic| (k_here; (with_reducible show wpAny _ _ (exec (Stmt.Assign [_] (PySem.Expr.ListComp _ [⟨_, _, [_], _⟩] _ _) _) _) _ _ _); (k_dflt (refine LCt.Assign_ListComp_T (F₀ := by k_asm) (by rfl) (by with_unfolding_all rfl) (by with_unfolding_all rfl) (by decide) (by rfl) (by decide) (by rfl) (by rfl) (by rfl) ?_); k_dflt lct_toSrc)))
local macro_rules | `(tactic| walk_at "CompSrcT") => `(tactic| (k_here; (k_dflt (refine LCt.CompSrcT.ledger (by rfl) (by k_asm) (by k_asm) (by k_mem) (by size_fits) ?_; intro g'; (refine' kciFree (by with_reducible assumption) (by with_reducible assumption) (fun k' t' I' oI' C' oC' D' m' ys' l' h' tk' E' hlo' hhi' hI' hC' hx' F' N' off' ne' => ?_) ?_))); (all_goals (try (have off9 := off'))); (all_goals (try (simp only [LCg.Off3, and_true] at off'))); (all_goals (try ((show KPfMark → _); intro hMark')))))
local macro_rules | `(tactic| walk_at "CompSrcT") => `(tactic| (k_here; (k_dflt (refine LCt.CompSrcT.range (n := 6) (by rfl) (by k_asm) (by k_asm) (by assumption) (by decide) (by rfl) (by exact Nat.le_of_ble_eq_true rfl) ?_; intro g'; (refine' kciOn (by with_reducible assumption) (fun k' t' I' oI' C' oC' D' m' ys' l' h' tk' E' hlo' hhi' hr0' hr1' hI' hC' hx' F' N' off' ne' => ?_) ?_))); (all_goals (try (have off9 := off'))); (all_goals (try (simp only [LCg.Off3, and_true] at off'))); (all_goals (try ((show KPfMark → _); intro hMark')))))
local macro_rules | `(tactic| walk_at "KCiNo") => `(tactic| (first | exact onNo (by with_reducible assumption) | exact frNo (by with_reducible assumption) | exact frNoA (by with_reducible assumption) | exact nbNoA (by with_reducible assumption) | exact nbNoB (by with_reducible assumption) | exact nbNoC (by with_reducible assumption) | exact nbNoD (by with_reducible assumption)))
local macro_rules | `(tactic| walk_at "KCiEl") => `(tactic| first | exact frEl (by with_reducible assumption) | exact nbElA (by with_reducible assumption) (by with_reducible assumption))
local macro_rules | `(tactic| walk_at "KCfEl") => `(tactic| (k_dflt (refine kcf_el ?kce rfl rfl; (case kce => rfl))))
local macro_rules | `(tactic| walk_at "exec Assign cons ListComp") => `(tactic| (k_here; (with_reducible show wpAny _ _ (exec (Stmt.Assign [_] (PySem.Expr.ListComp _ [⟨_, _, [], _⟩] _ _) _) _) _ _ _); k_dflt (refine LCg.Assign_ListComp_U (F₀ := by k_asm) (by rfl) (by with_unfolding_all rfl) (by with_unfolding_all rfl) (by decide) (by rfl) (by decide) (by rfl) (by rfl) (by rfl) ?_)))
local macro_rules | `(tactic| walk_at "eval ListComp") => `(tactic| (k_here; (with_reducible show wpAny _ _ (eval (PySem.Expr.ListComp _ [⟨_, PySem.Expr.Name _ _, _, _⟩] _ _) _) _ _ _); k_dflt (refine LCg.ListComp_U (F₀ := by k_asm) (by with_unfolding_all rfl) (by decide) (by rfl) (by decide) (by rfl) ?_)))
local macro_rules | `(tactic| walk_at "CompSrc") => `(tactic| (k_here; (k_dflt (refine LCg.CompSrc.ledger (by rfl) (by k_asm) (by k_asm) (by k_mem) (by first | exact sizeFree (by with_reducible assumption) (by with_reducible assumption) | exact sizeOth (by with_reducible assumption) (by with_reducible assumption)) ?_; intro g'; first | (refine' kcfOth (by with_reducible assumption) (by with_reducible assumption) (fun k' t' I' oI' C' oC' D' m' ys' h' tk' E' hlo' hhi' hr0' hr1' hC' hx' F' N' off' ne' => ?_) ?_) | (refine' kcfPlc (by with_reducible assumption) (by with_reducible assumption) (fun k' t' I' oI' C' oC' D' m' ys' h' tk' E' hlo' hhi' hC' hx' F' N' off' ne' => ?_) ?_))); (all_goals (try (have off9 := off'))); (all_goals (try (simp only [LCg.Off3, and_true] at off'))); (all_goals (try ((show KPfMark → _); intro hMark')))))
local macro_rules | `(tactic| walk_at "binaryOp Add ref ref") => `(tactic| (k_here; (k_dflt (refine' addFree ?h ?j ?F ?N ?a ?b ?_; (case h => k_asm); (case j => k_asm); (case F => k_asm); (case N => k_asm); (case a => kmk_list); (case b => kmk_list))); intro D' ws' h' F' N' l1 hI'; (try k_lt l1)))
local macro_rules | `(tactic| walk_at "call builtin:sorted") => `(tactic| (k_here; (k_dflt (refine' sortedPl ?h ?i ?F ?N ?l ?_; (case h => k_asm); (case i => k_asm); (case F => k_asm); (case N => k_asm); (case l => kmk_list))); intro D' ws' c' h' F' N' l1 hI'; (try k_lt l1)))
local macro_rules | `(tactic| walk_at "subscriptTail Name Slice ref ref") => `(tactic| (k_here; (k_dflt (refine' sliceOn ?h ?i ?F ?N ?l ?_ ?s ?t; (case h => k_asm); (case i => k_asm); (case F => k_asm); (case N => k_asm); (case l => kmk_list); (case s => with_unfolding_all rfl); (case t => kmk_pure))); intro D' ws' h' F' N' l1 hI'; (try k_lt l1)))
local macro_rules | `(tactic| walk_at "call ref") => `(tactic| (k_here; (with_reducible show wpAny _ _ (call (Value.ref 70) _) _ _ _); (k_dflt (refine' useG ?n0 ?n1 ?k1 ?k2 ?k3 ?k4 ?k5 ?k6 ?k7 ?k8 ?_; (case n0 => first | with_reducible assumption | exact Int.natCast_nonneg _); (case n1 => first | with_reducible assumption | exact Int.ofNat_lt.mpr (by with_reducible assumption)); (case k1 => k_asm); (case k2 => k_asm); (case k3 => k_asm); (case k4 => k_asm); (case k5 => k_asm); (case k6 => rfl); (case k7 => (simp only [depth_deeper]; omega)); (case k8 => (simp only [units_deeper]; omega)))); intro tok' h' tk' F' N' hg1' hg2'))
local macro_rules | `(tactic| walk_at "call ref") => `(tactic| (k_here; (with_reducible show wpAny _ _ (call (Value.ref 77) _) _ _ _); (k_dflt (refine' useT (idxR (by with_reducible assumption) (by with_reducible assumption) (by with_reducible assumption) (by first | with_reducible assumption | exact Int.natCast_nonneg _) (by first | with_reducible assumption | exact Int.ofNat_lt.mpr (by with_reducible assumption)) (by with_reducible assumption)) ?k1 ?k2 ?k3 ?k4 ?k5 ?k6 ?k7 ?k8 ?k9 ?k10 ?_; (case k1 => k_asm); (case k2 => k_asm); (case k3 => k_asm); (case k4 => k_asm); (case k5 => k_asm); (case k6 => rfl); (case k7 => (simp only [depth_deeper]; omega)); (case k8 => (simp only [units_deeper]; omega)); (case k9 => trivial); (case k10 => (first | with_reducible assumption | (dsimp only; with_reducible assumption))))); intro v' h' tk' F' N' K' po'; obtain ⟨t', hv'⟩ := po'; subst hv'))
local macro_rules | `(tactic| walk_at "eval ListComp") => `(tactic| (k_here; (with_reducible show wpAny _ _ (eval (PySem.Expr.ListComp _ [⟨_, PySem.Expr.Tuple _ _ _, _, _⟩] _ _) _) _ _ _); (k_dflt (refine ListComp_tup (F₀ := by k_asm) (by with_unfolding_all rfl) (by decide) (by rfl) (by decide) (by rfl) ?_))))
local macro_rules | `(tactic| walk_at "CompTup") => `(tactic| (k_here; (k_dflt (refine CompTup.intro (by rfl) (by k_asm) (by k_asm) (by k_mem) (by exact Nat.le_of_ble_eq_true rfl) ?_; intro g'; (refine' nbRest (fun k' t' I' oI' C' oC' D' m' ys' l' h' tk' E' hI' hC' hx' F' N' off' ne' => ?_) ?_))); (all_goals (try (have off9 := off'))); (all_goals (try (simp only [LCg.Off3, and_true] at off'))); (all_goals (try ((show KPfMark → _); intro hMark')))))
local macro_rules | `(tactic| walk_at "compareOp NotEq ref ref") => `(tactic| (k_here; (k_dflt (refine' ne_nb ?k1 ?k2 ?k3 ?k4 ?k5 ?k6 ?_; (case k1 => kmk_list); (case k2 => k_asm); (case k3 => kmk_list); (case k4 => k_asm); (case k5 => rfl); (case k6 => k_units)))))
local macro_rules | `(tactic| walk_at "CompEnd") => `(tactic| (k_here; refine LCg.CompEnd.intro (by assumption) (by assumption) _ (fun p hp => hp) (by assumption) (by lcg_src) ?_))
local macro_rules | `(tactic| walk_at "CompEnd") => `(tactic| ((with_reducible show LCg.CompEnd _ _ _ _ _ _ _ _ _ _ (TupAt _ _) _ _ _); (k_dflt (refine' tupEnd ?F ?N ?o ?m ?_; (case F => assumption); (case N => assumption); (case o => assumption); (case m => k_mem)))))
local macro_rules | `(tactic| walk_at "call ref") => `(tactic| (k_here; (with_reducible show wpAny _ _ (call (Value.ref 154) _) _ _ _); (k_dflt (refine' use (filR (by with_reducible assumption) (by with_reducible assumption)) ?k1 ?k2 ?k3 ?k4 ?k5 ?k6 ?k7 ?k8 ?k9 ?_; (case k1 => k_asm); (case k2 => k_asm); (case k3 => k_asm); (case k4 => k_asm); (case k5 => k_asm); (case k6 => rfl); (case k7 => (simp only [depth_deeper]; omega)); (case k8 => (simp only [units_deeper]; omega)); (case k9 => trivial))); intro v' h' tk' F' N' K' po'; obtain ⟨t', hv'⟩ := po'; subst hv'))
local macro_rules | `(tactic| walk_at "call ref") => `(tactic| (k_here; (with_reducible show wpAny _ _ (call (Value.ref 183) _) _ _ _); (k_dflt (refine' use (lisR (by with_reducible assumption) (by with_reducible assumption)) ?k1 ?k2 ?k3 ?k4 ?k5 ?k6 ?k7 ?k8 ?k9 ?_; (case k1 => k_asm); (case k2 => k_asm); (case k3 => k_asm); (case k4 => k_asm); (case k5 => k_asm); (case k6 => rfl); (case k7 => (simp only [depth_deeper]; omega)); (case k8 => (simp only [units_deeper]; omega)); (case k9 => trivial))); intro v' h' tk' F' N' K' po'; obtain ⟨t', hv'⟩ := po'; subst hv'))
local macro_rules | `(tactic| walk_at "call ref") => `(tactic| (k_here; (with_reducible show wpAny _ _ (call (Value.ref 190) _) _ _ _); (k_dflt (refine' use (movR (by with_reducible assumption) (by with_reducible assumption)) ?k1 ?k2 ?k3 ?k4 ?k5 ?k6 ?k7 ?k8 ?k9 ?_; (case k1 => k_asm); (case k2 => k_asm); (case k3 => k_asm); (case k4 => k_asm); (case k5 => k_asm); (case k6 => rfl); (case k7 => (simp only [depth_deeper]; omega)); (case k8 => (simp only [units_deeper]; omega)); (case k9 => kmk_list))); intro v' h' tk' F' N' K' po'; obtain ⟨t', hv'⟩ := po'; subst hv'))
set_option maxHeartbeats 2000000 in
theorem rig_tel {w : World} {l : Addr} {st f : Nat} {r : _root_.Fin 6 → Nat} {b : Array UInt8} {tb ts tf t0 t1 t2 t3 t4 t5 : Tok} (ok : RingsOk r) (hs : st < 64) (hf : f < 64) (hb : Begins st r b) :
    Tel w 202 800 8000 (fun h => h.IsList l [Value.int (r 0 : Int) t0, .int (r 1 : Int) t1, .int (r 2 : Int) t2, .int (r 3 : Int) t3, .int (r 4 : Int) t4, .int (r 5 : Int) t5].toArray)
      [Value.bytes b tb, .int (st : Int) ts, .ref l, .int (f : Int) tf] (fun v _ _ => v = .bool true) := by
  unfold Tel P KK V LO; k_fill
  intro dp un gd cn cs a ccd cl outer A₀ base h₀ L m s mean mg mb Q E B F X T hk hd hu hp hret
  obtain ⟨p9, hR9⟩ : ∃ p, RigP st f r p := ⟨_, hs, hf, ok, rfl⟩
  have hLen9 : (lisF ((f ^^^ st : Nat) : Int)).length = 10 := (lis_fil ⟨f ^^^ st, xor_lt hf hs⟩).2
  refine wpAny_call ?_
  k_dflt (refine' enterBC ?k1 ?k2 ?k3 ?k5 ?kA ?kF ?kK ?k6 ?k7 ?k8 ?k9 ?kB ?kD ?_ ?c2 ?c3 ?c4; (case kA => exact rfl); (case kF => exact rfl); (case kK => assumption); (case k1 => k_asm); (case k2 => k_asm); (case k3 => k_asm); (case k5 => k_asm); (case k6 => k_is); (case k7 => k_is); (case k8 => k_room); (case k9 => first | exact BindsTo.of_eq rfl | exact binds_K (by k_in) rfl (by k_is) rfl rfl rfl); (case kB => exact rfl); (case kD => decide +kernel); (case c2 => exact rfl); (case c3 => exact rfl); (case c4 => exact rfl); k_whole; intro L' h' tk' cells' F' N' Y' B' X' T'; k_cells Y'; (try simp only [List.cons_append, List.nil_append, List.append_nil] at N'); (try dsimp only); (try k_fold))
  clear F X T B
  w_top off
  k_steps
  all_goals first | exact (neSelf (x := lisF ((f ^^^ st : Nat) : Int)) (by assumption)).elim | (rw [plc_self hR9, beq_self_eq_true]; (try dsimp only); exact hret _ _ _ (Fr.keep (by assumption)) rfl)
end Mine
-- part Law0
namespace Mine
open PySem PySem.W PySem.Calls PyProof.Rows
set_option maxRecDepth 100000
theorem ints6 {vs : List Value} {a b c d e f : Int} (h : IntsAre vs [a, b, c, d, e, f]) : ∃ t0 t1 t2 t3 t4 t5, vs = [.int a t0, .int b t1, .int c t2, .int d t3, .int e t4, .int f t5] := by
  cases h with | cons _ t0 h => cases h with | cons _ t1 h => cases h with | cons _ t2 h => cases h with | cons _ t3 h => cases h with | cons _ t4 h => cases h with | cons _ t5 h => cases h with | nil => exact ⟨t0, t1, t2, t3, t4, t5, rfl⟩
theorem rgs_ints {r : _root_.Fin 6 → Nat} {t0 t1 t2 t3 t4 t5 : Tok} : IntsAre [Value.int (r 0 : Nat) t0, .int (r 1 : Nat) t1, .int (r 2 : Nat) t2, .int (r 3 : Nat) t3, .int (r 4 : Nat) t4, .int (r 5 : Nat) t5] (rgs r) :=
  .cons _ _ (.cons _ _ (.cons _ _ (.cons _ _ (.cons _ _ (.cons _ _ .nil)))))
theorem rgs_all {r : _root_.Fin 6 → Nat} (ok : RingsOk r) : AllIn (rgs r) 6 := fun k hk => by
  unfold rgs at hk
  have h0 := ok.lt 0; have h1 := ok.lt 1; have h2 := ok.lt 2; have h3 := ok.lt 3; have h4 := ok.lt 4; have h5 := ok.lt 5
  simp only [List.mem_cons, List.not_mem_nil, or_false] at hk
  rcases hk with rfl | rfl | rfl | rfl | rfl | rfl <;> omega
theorem rowI_len (s : Nat) (r : _root_.Fin 6 → Nat) : (rowI s r).length = 64 := by
  unfold rowI; rw [List.length_map, List.length_map]; exact gray_facts.1
theorem rowI_in {s : Nat} {r : _root_.Fin 6 → Nat} (ok : RingsOk r) (hs : s < 64) : AllIn (rowI s r) 64 := fun k hk => by
  unfold rowI at hk
  obtain ⟨q, hq, rfl⟩ := List.mem_map.mp hk
  obtain ⟨p, _, rfl⟩ := List.mem_map.mp hq
  have := figP_lt ok hs p
  omega
section
variable {prog : Program} {w : World} {A A₀ : Around} {E : Value → Shared → Prop} {s : Shared} {h₀ base : Heap} {L : Addr} {m mg mb : Str → Option Value} {mean : ExcName → Option Value} {news : List (Addr × Obj)}
theorem useOrd {n : Int} {t : Tok} {dp un : Nat} {gd : Option (List Code)} {cn : Str} {cs : Scope} {a : Addr} {ccd : Value} {cl : List (Str × Addr)} {outer : List Env} {Q : Value → Shared → Prop}
    (B : Below A₀ base outer h₀) (F : Fr h₀ L s.heap m) (X : (KK w).In h₀) (T : Top V LO mean mg mb h₀) (N : News h₀ L s.heap news) (hk : cs.kind = .function) (hd : dp ≤ 900) (hu : un ≤ 9000)
    (ret : ∀ l c r t0 t1 t2 t3 t4 t5 h' tk', Fr h₀ L h' m → News h₀ L h' ((l, listOf (List.toArray [Value.int (r 0 : Nat) t0, .int (r 1 : Nat) t1, .int (r 2 : Nat) t2, .int (r 3 : Nat) t3, .int (r 4 : Nat) t4, .int (r 5 : Nat) t5]) c) :: news) → (∀ p ∈ news, p.1 < l) → RingsOk r → r 5 < 6 → Q (.ref l) { s with heap := h', toks := tk' }) :
    wpAny (model P w) (ktrTop dp un gd cn cs L a ccd cl outer) (call (.ref 159) [.int n t]) Q E s :=
  order_tel dp un gd cn cs a ccd cl outer A₀ base h₀ L m s mean mg mb Q E B F X T hk hd hu trivial fun v h' tk' k po => by
    obtain ⟨l, c, vs, o, rfl, M, hi, hl, nd, hb⟩ := po
    match o, hl with
    | [r0, r1, r2, r3, r4, r5], _ =>
      obtain ⟨t0, t1, t2, t3, t4, t5, rfl⟩ := ints6 hi
      have b0 := hb r0 (by simp); have b1 := hb r1 (by simp); have b2 := hb r2 (by simp); have b3 := hb r3 (by simp); have b4 := hb r4 (by simp); have b5 := hb r5 (by simp)
      have ok := ringsOk ((List.reverse_perm [r0, r1, r2, r3, r4, r5]).nodup_iff.mpr nd) b0 b1 b2 b3 b4 b5
      refine ret l c (ringF r0 r1 r2 r3 r4 r5) t0 t1 t2 t3 t4 t5 h' tk' (F.keeps k) ?_ (M.lt N) ok (ok.lt 5)
      have e : ∀ x : Int, 0 ≤ x → ((x.toNat : Nat) : Int) = x := fun x hx => Int.toNat_of_nonneg hx
      have e0 : ((ringF r0 r1 r2 r3 r4 r5 0 : Nat) : Int) = r0 := e _ b0.1
      have e1 : ((ringF r0 r1 r2 r3 r4 r5 1 : Nat) : Int) = r1 := e _ b1.1
      have e2 : ((ringF r0 r1 r2 r3 r4 r5 2 : Nat) : Int) = r2 := e _ b2.1
      have e3 : ((ringF r0 r1 r2 r3 r4 r5 3 : Nat) : Int) = r3 := e _ b3.1
      have e4 : ((ringF r0 r1 r2 r3 r4 r5 4 : Nat) : Int) = r4 := e _ b4.1
      have e5 : ((ringF r0 r1 r2 r3 r4 r5 5 : Nat) : Int) = r5 := e _ b5.1
      rw [e0, e1, e2, e3, e4, e5]
      exact M.news k F N
theorem useRow {st : Nat} {r : _root_.Fin 6 → Nat} {t t0 t1 t2 t3 t4 t5 : Tok} {l : Addr} {dp un : Nat} {gd : Option (List Code)} {cn : Str} {cs : Scope} {a : Addr} {ccd : Value} {cl : List (Str × Addr)} {outer : List Env} {Q : Value → Shared → Prop} (ok : RingsOk r)
    (B : Below A₀ base outer h₀) (F : Fr h₀ L s.heap m) (X : (KK w).In h₀) (T : Top V LO mean mg mb h₀) (N : News h₀ L s.heap news) (hk : cs.kind = .function) (hd : dp ≤ 900) (hu : un ≤ 9000)
    (hl : s.heap.IsList l [Value.int (r 0 : Nat) t0, .int (r 1 : Nat) t1, .int (r 2 : Nat) t2, .int (r 3 : Nat) t3, .int (r 4 : Nat) t4, .int (r 5 : Nat) t5].toArray)
    (ret : ∀ l' vs c h' tk', Fr h₀ L h' m → News h₀ L h' ((l', listOf (List.toArray vs) c) :: news) → (∀ p ∈ news, p.1 < l') → IntsAre vs (rowI st r) → Q (.ref l') { s with heap := h', toks := tk' }) :
    wpAny (model P w) (ktrTop dp un gd cn cs L a ccd cl outer) (call (.ref 164) [.int (st : Int) t, .ref l]) Q E s := by
  refine row_tel (w := w) (n := (st : Int)) (t := t) rgs_ints rfl (rgs_all ok) dp un gd cn cs a ccd cl outer A₀ base h₀ L m s mean mg mb Q E B F X T hk hd hu hl fun v h' tk' k po => ?_
  obtain ⟨l', c, vs, rfl, M, hi⟩ := po
  rw [row_rowI st r] at hi
  exact ret l' vs c h' tk' (F.keeps k) (M.news k F N) (M.lt N) hi
theorem modK {a : Int} {t u : Tok} {Q : Value → Shared → Prop} (h : ∀ st : Nat, st < 64 → Q (.int (st : Int) s.toks) { s with toks := s.toks + 1 }) :
    wpAny (model prog w) A (binaryOp .Mod (.int a t) (.int 64 u)) Q E s := by
  refine mod_int' (by decide) ?_
  have h0 := fmod_lo a (n := 64) (by decide)
  have h1 := fmod_hi a (n := 64) (by decide)
  have e : (((a.fmod 64).toNat : Nat) : Int) = a.fmod 64 := by omega
  rw [← e]
  exact h _ (by omega)
end
theorem wriR {w : World} {l : Addr} {vs : List Value} {st : Nat} {r : _root_.Fin 6 → Nat} (ok : RingsOk r) (hs : st < 64) (hi : IntsAre vs (rowI st r)) :
    Tel w 171 850 8500 (fun h => h.IsList l vs.toArray) [Value.ref l] (fun v _ _ => ∃ t, v = .bytes (sgB (rowI st r)) t) := wri_tel hi (rowI_len st r) (rowI_in ok hs)
theorem dueR {w : World} {st : Nat} {r : _root_.Fin 6 → Nat} {l : Addr} {t0 t1 t2 t3 t4 t5 t u : Tok} {k : Int} (ok : RingsOk r) (hs : st < 64) (k0 : 0 ≤ k) (k1 : k < 64) :
    Tel w 178 900 9000 (fun h => h.IsList l [Value.int (r 0 : Nat) t0, .int (r 1 : Nat) t1, .int (r 2 : Nat) t2, .int (r 3 : Nat) t3, .int (r 4 : Nat) t4, .int (r 5 : Nat) t5].toArray)
      [.int (st : Int) t, .ref l, .int k u] (fun v _ _ => ∃ t, v = .int (sg (dueF (st : Int) (rgs r) k)) t) := by
  have e := dueF_fig ok hs (j := k.toNat) (by omega)
  rw [Int.toNat_of_nonneg k0] at e
  have b := figP_lt ok hs (grayL.getD k.toNat 0)
  exact due_tel rgs_ints rfl (rgs_all ok) (by rw [e]; exact Int.natCast_nonneg _) (by rw [e]; exact Int.ofNat_lt.mpr b)
/-- the figures at hand -/
structure LawAt (st : Nat) (r : _root_.Fin 6 → Nat) : Prop where
  ok : RingsOk r
  sl : st < 64
section
variable {prog : Program} {w : World} {A : Around} {h₀ : Heap} {L : Addr} {m : Str → Option Value} {env : Env} {elt : PySem.Expr} {x : Str} {scope : Scope} {cl : List (Str × Addr)} {s : Shared} {S : List (Addr × Obj) → Prop} {Fin : List Value → List (Addr × Obj) → Prop} {news : List (Addr × Obj)}
theorem kcfDue {st : Nat} {r : _root_.Fin 6 → Nat} (_h : LawAt st r)
    (turn : ∀ k t I oI C oC D m₂ ys h tk (E' : Value → Shared → Prop), 0 ≤ k → k < 64 → LCg.NsObj oC m₂ → m₂ x = some (.int k t) → Fr h₀ L h m → News h₀ L h ((I, oI) :: (C, oC) :: (D, LCg.lst ys) :: news) → LCg.Off3 I C D news → ((@Ne Nat I C) ∧ (@Ne Nat I D) ∧ (@Ne Nat C D)) → KPfMark →
      wpAny (model prog w) A (eval elt (compEnvC scope cl C env)) (LCg.CompEnd h₀ L m { s with heap := h, toks := tk } I oI C oC D (LCg.lst ys) S (fun y news' => KCfEl news (sg (dueF (st : Int) (rgs r) k)) y news')) E' { s with heap := h, toks := tk })
    (fin : ∀ ys, IntsAre ys ((rowI st r).map sg) → Fin ys news) : LCg.CompRest prog w A h₀ L m env elt x scope cl s S (fun i v => ∃ t, v = .int (0 + (i : Int)) t) Fin 64 0 [] news :=
  kcf_range (a := 0) (n := 64) (fun k => sg (dueF (st : Int) (rgs r) k)) (fun k t I oI C oC D m₂ ys h tk E' a1 a2 => turn k t I oI C oC D m₂ ys h tk E' a1 (by omega)) (fun ys h => fin ys (by
    rw [← due_row _h.ok _h.sl, List.map_map]; exact h))
end
section
variable {prog : Program} {w : World} {A : Around} {E : Value → Shared → Prop} {s : Shared}
theorem bytesRow {h₀ : Heap} {L l : Addr} {m : Str → Option Value} {news : List (Addr × Obj)} {vs : List Value} {st : Nat} {r : _root_.Fin 6 → Nat} {Q : Value → Shared → Prop} (F : Fr h₀ L s.heap m) (N : News h₀ L s.heap news) (hl : s.heap.IsList l vs.toArray) (hi : IntsAre vs ((rowI st r).map sg)) (hh : A.handled = none)
    (h : ∀ h' t k, Fr h₀ L h' m → News h₀ L h' news → Q (.bytes (sgB (rowI st r)) t) { s with heap := h', toks := k }) : wpAny (model prog w) A (call (.type "bytes") [.ref l]) Q E s :=
  bytesSg F N hl hi (by rw [rowI_len]; decide) hh h
end
theorem xor_in {st a : Nat} (hs : st < 64) (ha : a < 6) : ∃ q : Nat, q < 64 ∧ Builtin.bitXor (st : Int) (1 * 2 ^ ((a : Int)).toNat) = (q : Int) :=
  ⟨st ^^^ 2 ^ a, Nat.xor_lt_two_pow (n := 6) hs (two_lt ha), by rw [pow_cast, bitXor_nat]⟩
end Mine
-- part Law1
namespace Mine
open PySem PySem.W PySem.Calls PyProof.Rows Builtin
set_option maxRecDepth 100000
/-- the bytes turned about -/
def revB (b : Array UInt8) : Array UInt8 := Bytes.sliced b ((b.size : Int) - 1) (-1) (-1)
theorem revB_mem {b : Array UInt8} {c : UInt8} (h : c ∈ (revB b).toList) : c ∈ b.toList := by
  unfold revB Bytes.sliced at h
  obtain ⟨i, _, e⟩ := List.mem_filterMap.mp h
  have e' : b[i]? = some c := e
  rw [Array.mem_toList_iff]
  exact Array.mem_of_getElem? e'
theorem revB_size (b : Array UInt8) : (revB b).size ≤ b.size := by
  unfold revB Bytes.sliced
  rw [List.size_toArray]
  refine Nat.le_trans (List.length_filterMap_le ..) ?_
  unfold sliceRange
  rw [List.length_map, List.length_range, if_neg (by decide)]
  split
  · have e : (((b.size : Int) - 1) - (-1) - (-1) - 1) / (- -1) = (b.size : Int) := by
      rw [show (- -1 : Int) = 1 by decide, Int.ediv_one]; omega
    rw [e]; omega
  · simp
theorem meets_rev (b : Array UInt8) (t : Tok) (a : Addr) (tt : Tok) :
    Meets («bytes.__getitem__» ⟨[.bytes b t, .ref a], []⟩) (fun _ R s => s.heap.IsSliceOf a .none .none (.int (-1) tt) ∧ (revB b).size ≤ sizeLine ∧ ∀ t' k, R (.ok (.ret (.bytes (revB b) t'))) { s with toks := k }) := by
  refine .of_wp fun prog w A R s hS => ?_
  obtain ⟨⟨o, ho, hc, hd⟩, hsz, h⟩ := hS
  have hT : s.TypeIs (.ref a) "slice" := ⟨o, ho, hc⟩
  show wpAny _ _ (Bytes.payload (.bytes b t) >>= fun r => _) _ _ s
  refine wpAny_bind (wpAny_of_eq (a := b) rfl ?_)
  show wpAny _ _ (Bytes.subscript? (.ref a) >>= fun r => _) _ _ s
  refine wpAny_bind ?_
  unfold Bytes.subscript?
  refine wpAny_bind (wpAny_specialOf hT slice_no_index (wpAny_pure ?_))
  refine wpAny_bind (wpAny_typeOf hT ?_)
  show wpAny _ _ (Bytes.sliceParts (.ref a) >>= fun r => _) _ _ s
  refine wpAny_bind ?_
  unfold Bytes.sliceParts
  refine wpAny_bind (wpAny_field (x := .int (-1) tt) ho hd rfl ?_)
  kby_int
  refine wpAny_ite (KBy.ite_no (show ¬ ((rawInt (-1) == rawInt 0) = true) from Bool.false_ne_true) ?_)
  refine wpAny_bind (wpAny_field (x := .none) ho hd rfl ?_)
  have go : wpAny (model prog w) A.in1 (sliceIndices (rawPart none) (rawPart none) (rawPart (some (-1))) b.size) (fun r s' => r = sliceBounds none none (some (-1)) b.size ∧ s' = s) (fun _ _ => False) s :=
    wpAny_of_eq (sliceIndices_raw none none (some (-1)) b.size (by decide)) ⟨rfl, rfl⟩
  have eb : sliceBounds none none (some (-1)) b.size = ((b.size : Int) - 1, -1, -1) := rfl
  kby_none
  refine wpAny_bind (wpAny_field (x := .none) ho hd rfl ?_)
  kby_none
  refine wpAny_pure ?_
  refine wpAny_bind (wpAny_mono go (fun r s' hr => ?_) fun _ _ e => e.elim)
  obtain ⟨hr1, hr2⟩ := hr
  subst hr1 hr2
  rw [eb]
  refine wpAny_ite (KBy.ite_no (by simp) ?_)
  exact wpAny_bind (wpAny_mkBytes (wpAny_pure ⟨_, rfl, h _ _⟩) hsz)
section
variable {prog : Program} {w : World} {A : Around} {E : Value → Shared → Prop} {s : Shared} {value slice : PySem.Expr} {b c : Array UInt8} {t u : Tok} {h₀ : Heap} {L : Addr} {m : PySem.Str → Option Value} {news : List (Addr × Obj)} {Q : Value → Shared → Prop}
theorem sliceRevK {tt : Tok} {ops : List Value} (hF : Fr h₀ L s.heap m) (hN : News h₀ L s.heap news) (hz : b.size ≤ 16777216)
    (h : ∀ h' t' k, Fr h₀ L h' m → News h₀ L h' news → Q (.bytes (revB b) t') { s with heap := h', toks := k })
    (hs : subscripted slice false (.bytes b t) (.ref s.heap.objs.size) = operate ops (getItem (.bytes b t) (.ref s.heap.objs.size)))
    (ht : ∀ r, letTemporaryGo value (.bytes b t) r = pure ()) :
    wpAny (model prog w) A (subscriptTail value slice (.bytes b t) (.ref s.heap.objs.size)) Q E { s with heap := s.heap.push { cls := .type "slice", data := .fields #[.none, .none, .int (-1) tt] } } :=
  tail_of_ItemOn ⟨"bytes", _, FB.slot_bytes_getitem.lookup, typeIs_bytes _ _ _, getItem_meets (typeIs_bytes _ _ _) (by decide) FB.slot_bytes_getitem FB.entry_bytes_getitem (FB.args_bytes_getitem_2 _ _) (meets_rev b t _ tt)
    ⟨Heap.IsSliceOf.new _ _ _ _, Nat.le_trans (revB_size b) (by rw [sizeLine_eq]; exact hz), fun t' k => h _ _ _ (hF.push _) (News.pushKeep hN _)⟩⟩ hs ht
end
theorem sgB_size (fs : List Int) : (sgB fs).size = fs.length := by
  unfold sgB; rw [List.size_toArray, List.length_map]
theorem sg_not : (∀ c ∈ B64L, c ≠ 61) ∧ (0 : UInt8) ≠ 61 := by decide +kernel
theorem sgB_not {fs : List Int} {c : UInt8} (h : c ∈ (sgB fs).toList) : c ≠ 61 := by
  unfold sgB at h
  obtain ⟨k, _, rfl⟩ := List.mem_map.mp h
  rw [List.getD_eq_getElem?_getD]
  cases e : B64L[k.toNat]? with
  | none => exact sg_not.2
  | some d => exact sg_not.1 d (List.mem_of_getElem? e)
/-- the writing with itself turned about behind it -/
def bothB (st : Nat) (r : _root_.Fin 6 → Nat) : Array UInt8 := sgB (rowI st r) ++ revB (sgB (rowI st r))
theorem both_begins (st : Nat) (r : _root_.Fin 6 → Nat) : Begins st r (bothB st r) := fun j hj => by
  unfold bothB
  rw [Array.getElem?_append_left (by rw [sgB_size, rowI_len]; exact hj)]
theorem both_not (st : Nat) (r : _root_.Fin 6 → Nat) : ∀ (i : Nat) (c : UInt8), (bothB st r)[i]? = some c → (c.toNat : Int) ≠ 61 := fun i c h => by
  have hm : c ∈ (bothB st r).toList := by rw [Array.mem_toList_iff]; exact Array.mem_of_getElem? h
  unfold bothB at hm
  rw [Array.toList_append] at hm
  have h1 : c ≠ 61 := by
    rcases List.mem_append.mp hm with hm | hm
    · exact sgB_not hm
    · exact sgB_not (revB_mem hm)
  intro e
  refine h1 ?_
  have e' : c.toNat = 61 := by omega
  exact UInt8.toNat_inj.mp e'
section
variable {prog : Program} {w : World} {A A₀ : Around} {E : Value → Shared → Prop} {s : Shared} {h₀ base : Heap} {L : Addr} {m mg mb : Str → Option Value} {mean : ExcName → Option Value}
theorem addBoth {st : Nat} {r : _root_.Fin 6 → Nat} {t u : Tok} {Q : Value → Shared → Prop} (h : ∀ t' k, s.toks ≤ k → Q (.bytes (bothB st r) t') { s with toks := k }) :
    wpAny (model prog w) A (binaryOp .Add (.bytes (sgB (rowI st r)) t) (.bytes (revB (sgB (rowI st r))) u)) Q E s :=
  withToks (Nat.le_refl _) (KBy.add_bytes (by
    have h1 := revB_size (sgB (rowI st r))
    have h2 := sgB_size (rowI st r)
    have h3 := rowI_len st r
    omega) fun t' k hk => h t' k hk)
theorem sliceRow {st : Nat} {r : _root_.Fin 6 → Nat} {value slice : PySem.Expr} {t tt : Tok} {news : List (Addr × Obj)} {Q : Value → Shared → Prop} {ops : List Value} (hF : Fr h₀ L s.heap m) (hN : News h₀ L s.heap news)
    (h : ∀ h' t' k, s.toks ≤ k → Fr h₀ L h' m → News h₀ L h' news → Q (.bytes (revB (sgB (rowI st r))) t') { s with heap := h', toks := k })
    (hs : subscripted slice false (.bytes (sgB (rowI st r)) t) (.ref s.heap.objs.size) = operate ops (getItem (.bytes (sgB (rowI st r)) t) (.ref s.heap.objs.size)))
    (ht : ∀ r', letTemporaryGo value (.bytes (sgB (rowI st r)) t) r' = pure ()) :
    wpAny (model prog w) A (subscriptTail value slice (.bytes (sgB (rowI st r)) t) (.ref s.heap.objs.size)) Q E { s with heap := s.heap.push { cls := .type "slice", data := .fields #[.none, .none, .int (-1) tt] } } :=
  withToks (n := s.toks) (Nat.le_refl _) (sliceRevK hF hN (by rw [sgB_size, rowI_len]; decide) (fun h' t' k F' N' hk => h h' t' k hk F' N') hs ht)
theorem xorK {st a : Nat} {t u : Tok} {Q : Value → Shared → Prop} (hs : st < 64) (ha : a < 6) (h : ∀ q : Nat, q < 64 → Q (.int (q : Int) s.toks) { s with toks := s.toks + 1 }) :
    wpAny (model prog w) A (binaryOp .BitXor (.int (st : Int) t) (.int (1 * 2 ^ ((a : Int)).toNat) u)) Q E s := by
  obtain ⟨q, hq, e⟩ := xor_in hs ha
  refine xor_int ?_
  rw [e]
  exact h q hq
end
end Mine
-- part Law2
namespace Mine
open PySem PySem.W PySem.Calls PyProof.Rows
set_option maxRecDepth 100000
/-- a turn's end where each value is of one kind -/
def GEnd (news : List (Addr × Obj)) (R : Value → Prop) (y : Value) (news' : List (Addr × Obj)) : Prop := news' = news ∧ R y
theorem gEnd {h₀ : Heap} {L I C D : Addr} {m : Str → Option Value} {s₁ : Shared} {oI oC oD : Obj} {S : List (Addr × Obj) → Prop} {R : Value → Prop} {y : Value} {h' : Heap} {tk : Nat} {all news : List (Addr × Obj)}
    (F : Fr h₀ L h' m) (N : News h₀ L h' all) (sub : SubL ((I, oI) :: (C, oC) :: (D, oD) :: news) all) (off : LCg.Off3 I C D news) (hS : S news) (hR : R y) :
    LCg.CompEnd h₀ L m s₁ I oI C oC D oD S (fun y n => GEnd news R y n) y { s₁ with heap := h', toks := tk } :=
  LCg.CompEnd.intro F N news (fun p hp => sub.mem p hp) off hS ⟨rfl, hR⟩
section
variable {prog : Program} {w : World} {A : Around} {h₀ : Heap} {L : Addr} {m : Str → Option Value} {env : Env} {elt : PySem.Expr} {x : Str} {scope : Scope} {cl : List (Str × Addr)} {s : Shared} {S : List (Addr × Obj) → Prop} {P : Nat → Value → Prop} {Fin : List Value → List (Addr × Obj) → Prop} {news : List (Addr × Obj)}
theorem gRest {n : Nat} (R : Value → Prop)
    (turn : ∀ i v I oI C oC D m₂ ys h tk (E' : Value → Shared → Prop), i < n → P i v → LCg.NsObj oC m₂ → m₂ x = some v → Fr h₀ L h m → News h₀ L h ((I, oI) :: (C, oC) :: (D, LCg.lst ys) :: news) → LCg.Off3 I C D news → ((@Ne Nat I C) ∧ (@Ne Nat I D) ∧ (@Ne Nat C D)) →
      wpAny (model prog w) A (eval elt (compEnvC scope cl C env)) (LCg.CompEnd h₀ L m { s with heap := h, toks := tk } I oI C oC D (LCg.lst ys) S (fun y news' => GEnd news R y news')) E' { s with heap := h, toks := tk })
    (fin : ∀ ys, ys.length = n → (∀ y ∈ ys, R y) → Fin ys news) : LCg.CompRest prog w A h₀ L m env elt x scope cl s S P Fin n 0 [] news := by
  have key : ∀ (j i : Nat) (ys : List Value), i + j = n → ys.length = i → (∀ y ∈ ys, R y) → LCg.CompRest prog w A h₀ L m env elt x scope cl s S P Fin j i ys news := by
    intro j
    induction j with
    | zero =>
      intro i ys hi hl hy
      exact LCg.CompRest.zero (fin ys (by omega) hy)
    | succ j ih =>
      intro i ys hi hl hy
      refine LCg.CompRest.succ ?_
      intro v I oI C oC D m₂ h tk E' hv hC hx F N off ne
      refine wpAny_mono (turn i v I oI C oC D m₂ ys h tk E' (by omega) hv hC hx F N off ne) (fun y s₂ hq => ?_) fun _ _ e => e
      obtain ⟨h', tk', nw, e, F', N', off', hS, hn, hr⟩ := hq
      rw [hn] at N' off' hS
      refine ⟨h', tk', news, e, F', N', off', hS, ih (i + 1) _ (by omega) (by simp [hl]) fun z hz => ?_⟩
      rcases List.mem_append.mp hz with hz | hz
      · exact hy z hz
      · rw [List.mem_singleton.mp hz]; exact hr
  exact key n 0 [] (by omega) rfl fun _ h => nomatch h
def IsFig (y : Value) : Prop := ∃ (q : Nat) (t : Tok), q < 64 ∧ y = .int (q : Int) t
theorem figs_ints : ∀ {ys : List Value}, (∀ y ∈ ys, IsFig y) → ∃ ns, IntsAre ys ns ∧ AllIn ns 64 ∧ ns.length = ys.length
  | [], _ => ⟨[], .nil, fun _ h => absurd h List.not_mem_nil, rfl⟩
  | y :: r, h => by
    obtain ⟨q, t, hq, e⟩ := h y List.mem_cons_self
    obtain ⟨ns, i, a, l⟩ := figs_ints (ys := r) fun z hz => h z (List.mem_cons_of_mem _ hz)
    subst e
    refine ⟨(q : Int) :: ns, .cons _ t i, fun k hk => ?_, by simp [l]⟩
    rcases List.mem_cons.mp hk with rfl | hk
    · omega
    · exact a k hk
theorem gDrawn
    (turn : ∀ k t I oI C oC D m₂ ys h tk (E' : Value → Shared → Prop), 0 ≤ k → k < 3 → LCg.NsObj oC m₂ → m₂ x = some (.int k t) → Fr h₀ L h m → News h₀ L h ((I, oI) :: (C, oC) :: (D, LCg.lst ys) :: news) → LCg.Off3 I C D news → ((@Ne Nat I C) ∧ (@Ne Nat I D) ∧ (@Ne Nat C D)) →
      wpAny (model prog w) A (eval elt (compEnvC scope cl C env)) (LCg.CompEnd h₀ L m { s with heap := h, toks := tk } I oI C oC D (LCg.lst ys) S (fun y news' => GEnd news IsFig y news')) E' { s with heap := h, toks := tk })
    (fin : ∀ ys ns, IntsAre ys ns → AllIn ns 64 → ns.length = 3 → Fin ys news) : LCg.CompRest prog w A h₀ L m env elt x scope cl s S (fun i v => ∃ t, v = .int (0 + (i : Int)) t) Fin 3 0 [] news :=
  gRest IsFig (fun i v I oI C oC D m₂ ys h tk E' hi hv hC hx F N off ne => by
    obtain ⟨t, rfl⟩ := hv
    exact turn (0 + (i : Int)) t I oI C oC D m₂ ys h tk E' (by omega) (by omega) hC hx F N off ne) fun ys hl hy => by
    obtain ⟨ns, i, a, l⟩ := figs_ints hy
    exact fin ys ns i a (by omega)
def IsYes (y : Value) : Prop := y = .bool true
theorem gRight {vs : List Value} {ns : List Int} (hi : IntsAre vs ns) (ha : AllIn ns 64) (hl : ns.length = 5)
    (turn : ∀ (k : Nat) t I oI C oC D m₂ ys h tk (E' : Value → Shared → Prop), k < 64 → LCg.NsObj oC m₂ → m₂ x = some (.int (k : Int) t) → Fr h₀ L h m → News h₀ L h ((I, oI) :: (C, oC) :: (D, LCg.lst ys) :: news) → LCg.Off3 I C D news → ((@Ne Nat I C) ∧ (@Ne Nat I D) ∧ (@Ne Nat C D)) →
      wpAny (model prog w) A (eval elt (compEnvC scope cl C env)) (LCg.CompEnd h₀ L m { s with heap := h, toks := tk } I oI C oC D (LCg.lst ys) S (fun y news' => GEnd news IsYes y news')) E' { s with heap := h, toks := tk })
    (fin : Fin [.bool true, .bool true, .bool true, .bool true, .bool true] news) : LCg.CompRest prog w A h₀ L m env elt x scope cl s S (fun i v => vs.toArray[i]? = some v) Fin vs.toArray.size 0 [] news :=
  gRest IsYes (fun i v I oI C oC D m₂ ys h tk E' _ hv hC hx F N off ne => by
    obtain ⟨k, t, rfl, hk⟩ := IntsAre.at hi i v (by simpa using hv)
    have hk' := ha k (List.mem_of_getElem? hk)
    have e : ((k.toNat : Nat) : Int) = k := by omega
    rw [← e] at hx
    exact turn k.toNat t I oI C oC D m₂ ys h tk E' (by omega) hC hx F N off ne) fun ys hn hy => by
    have e := hi.length
    rw [List.size_toArray, e, hl] at hn
    match ys, hn, hy with
    | [a, b, c, d, f], _, hy =>
      have h1 := hy a (by simp); have h2 := hy b (by simp); have h3 := hy c (by simp); have h4 := hy d (by simp); have h5 := hy f (by simp)
      unfold IsYes at h1 h2 h3 h4 h5
      rw [h1, h2, h3, h4, h5]
      exact fin
theorem sizeAsked {vs : List Value} {ns : List Int} (hi : IntsAre vs ns) (hl : ns.length = 5) : vs.toArray.size ≤ sizeLine := by
  rw [PySem.sizeLine_eq, List.size_toArray, hi.length]; omega
end
section
variable {prog : Program} {w : World} {A : Around} {E : Value → Shared → Prop} {s : Shared} {h₀ : Heap} {L : Addr} {m : Str → Option Value} {news : List (Addr × Obj)}
theorem addAsked {st q : Nat} {ws : List Value} {ns : List Int} {a b : Addr} {t u : Tok} {Q : Value → Shared → Prop} (hs : st < 64) (hq : q < 64) (hj : IntsAre ws ns) (ha' : AllIn ns 64) (hl : ns.length = 3) (F : Fr h₀ L s.heap m) (N : News h₀ L s.heap news) (ha : s.heap.IsList a [Value.int (st : Int) t, .int (q : Int) u].toArray) (hb : s.heap.IsList b ws.toArray)
    (h : ∀ D us as h', Fr h₀ L h' m → News h₀ L h' ((D, listOf (List.toArray us) 0) :: news) → (∀ p ∈ news, p.1 < D) → IntsAre us as → AllIn as 64 → as.length = 5 → Q (.ref D) { s with heap := h' }) :
    wpAny (model prog w) A (binaryOp .Add (.ref a) (.ref b)) Q E s :=
  kmk_add_ints F N ha hb (.cons _ t (.cons _ u .nil)) hj (fun D us h' F' N' l1 hi => h D us _ h' F' N' l1 hi (fun k hk => by
    rcases List.mem_append.mp hk with hk | hk
    · simp only [List.mem_cons, List.not_mem_nil, or_false] at hk
      rcases hk with rfl | rfl <;> omega
    · exact ha' k hk) (by simp [hl])) (by rw [PySem.sizeLine_eq, hl]; exact Nat.le_of_ble_eq_true rfl)
theorem fdiv64 {a k : Int} {t u : Tok} {Q : Value → Shared → Prop} (k0 : 0 ≤ k) (k1 : k < 3) (h : ∀ q : Int, Q (.int q s.toks) { s with toks := s.toks + 1 }) :
    wpAny (model prog w) A (binaryOp .FloorDiv (.int a t) (.int (64 ^ k.toNat) u)) Q E s := by
  have hk : k.toNat = 0 ∨ k.toNat = 1 ∨ k.toNat = 2 := by omega
  rcases hk with e | e | e <;> rw [e]
  · exact floordiv_int (by decide) (h _) (Or.inl (PyProof.noPylong_of_log2 (by decide +kernel)))
  · exact floordiv_int (by decide) (h _) (Or.inl (PyProof.noPylong_of_log2 (by decide +kernel)))
  · exact floordiv_int (by decide) (h _) (Or.inl (PyProof.noPylong_of_log2 (by decide +kernel)))
end
end Mine
-- part Law
namespace Mine
open PySem PySem.W PySem.Calls PyProof.Rows
set_option maxRecDepth 100000
local macro_rules | `(tactic| k_qdec) => `(tactic| decide +kernel)
local macro_rules | `(tactic| walk_at "call ref") => `(tactic| (k_here; (with_reducible show wpAny _ _ (call (Value.ref 159) _) _ _ _); (k_dflt (refine' useOrd ?k1 ?k2 ?k3 ?k4 ?k5 ?k6 ?k7 ?k8 ?_; (case k1 => k_asm); (case k2 => k_asm); (case k3 => k_asm); (case k4 => k_asm); (case k5 => k_asm); (case k6 => rfl); (case k7 => first | decide | (simp only [depth_deeper]; omega)); (case k8 => first | decide | (simp only [units_deeper]; omega)))); intro lO' cO' r' t0' t1' t2' t3' t4' t5' h' tk' F' N' l1 ok' hr5'; (try k_lt l1)))
local macro_rules | `(tactic| walk_at "call ref") => `(tactic| (k_here; (with_reducible show wpAny _ _ (call (Value.ref 164) _) _ _ _); (k_dflt (refine' useRow (by with_reducible assumption) ?k1 ?k2 ?k3 ?k4 ?k5 ?k6 ?k7 ?k8 ?k9 ?_; (case k1 => k_asm); (case k2 => k_asm); (case k3 => k_asm); (case k4 => k_asm); (case k5 => k_asm); (case k6 => rfl); (case k7 => first | decide | (simp only [depth_deeper]; omega)); (case k8 => first | decide | (simp only [units_deeper]; omega)); (case k9 => kmk_list))); intro lR' vR' cR' h' tk' F' N' l1 hR'; (try k_lt l1)))
local macro_rules | `(tactic| walk_at "binaryOp Mod int int") => `(tactic| (k_here; (k_dflt (refine modK ?_)); intro st' hst'))
local macro_rules | `(tactic| walk_at "CompSrc") => `(tactic| (k_here; (k_dflt (refine LCg.CompSrc.range (n := 64) (by rfl) (by k_asm) (by k_asm) (by assumption) (by decide) (by rfl) (by exact Nat.le_of_ble_eq_true rfl) ?_; intro g'; (refine' kcfDue (LawAt.mk (by with_reducible assumption) (by with_reducible assumption)) (fun k' t' I' oI' C' oC' D' m' ys' h' tk' E' hlo' hhi' hC' hx' F' N' off' ne' => ?_) ?_))); (all_goals (try (have off9 := off'))); (all_goals (try (simp only [LCg.Off3, and_true] at off'))); (all_goals (try ((show KPfMark → _); intro hMark')))))
local macro_rules | `(tactic| walk_at "KCfEl") => `(tactic| (k_dflt (refine kcf_el ?kce rfl rfl; (case kce => rfl))))
local macro_rules | `(tactic| walk_at "call type:bytes") => `(tactic| (k_here; (k_dflt (refine' bytesRow ?F ?N ?l ?i ?h ?_; (case F => k_asm); (case N => k_asm); (case l => kmk_list); (case i => k_asm); (case h => with_unfolding_all rfl))); intro h' t' k' F' N'))
local macro_rules | `(tactic| walk_at "call ref") => `(tactic| (k_here; (with_reducible show wpAny _ _ (call (Value.ref 171) _) _ _ _); (k_dflt (refine' use (wriR (by with_reducible assumption) (by with_reducible assumption) (by with_reducible assumption)) ?k1 ?k2 ?k3 ?k4 ?k5 ?k6 ?k7 ?k8 ?k9 ?_; (case k1 => k_asm); (case k2 => k_asm); (case k3 => k_asm); (case k4 => k_asm); (case k5 => k_asm); (case k6 => rfl); (case k7 => first | decide | (simp only [depth_deeper]; omega)); (case k8 => first | decide | (simp only [units_deeper]; omega)); (case k9 => kmk_list))); intro v' h' tk' F' N' K' po'; obtain ⟨t', hv'⟩ := po'; subst hv'))
local macro_rules | `(tactic| walk_at "call ref") => `(tactic| (k_here; (with_reducible show wpAny _ _ (call (Value.ref 178) _) _ _ _); (k_dflt (refine' use (dueR (by with_reducible assumption) (by with_reducible assumption) (by with_reducible assumption) (by with_reducible assumption)) ?k1 ?k2 ?k3 ?k4 ?k5 ?k6 ?k7 ?k8 ?k9 ?_; (case k1 => k_asm); (case k2 => k_asm); (case k3 => k_asm); (case k4 => k_asm); (case k5 => k_asm); (case k6 => rfl); (case k7 => first | decide | (simp only [depth_deeper]; omega)); (case k8 => first | decide | (simp only [units_deeper]; omega)); (case k9 => kmk_list))); intro v' h' tk' F' N' K' po'; obtain ⟨t', hv'⟩ := po'; subst hv'))
local macro_rules | `(tactic| walk_at "execs cons") => `(tactic| (k_here; (rename (1 : Nat) ≤ _ => h9'); (k_dflt (refine gentoksN (τ := 1) h9' ?_)); intro tk' htk'))
local macro_rules | `(tactic| walk_at "call ref") => `(tactic| (k_here; (with_reducible show wpAny _ _ (call (Value.ref 63) _) _ _ _); (fail_if_success (with_reducible show wpAny _ _ _ (fun _ s' => 1 ≤ Shared.toks s' → _) _ _)); (refine withToks (n := 1) ?htk ?_; (case htk => (dsimp only; exact Nat.le_trans (Nat.le_add_left 1 _) (by with_reducible assumption))))))
local macro_rules | `(tactic| walk_at "storeName") => `(tactic| (k_here; (fail_if_success (with_reducible show wpAny _ _ _ (fun _ s' => 1 ≤ Shared.toks s' → _) _ _)); (with_reducible show wpAny _ _ (storeName _ (Str.ofString "both") _) _ _ _); (refine withToks (n := 1) ?htk ?_; (case htk => (dsimp only; first | with_reducible assumption | exact Nat.le_trans (Nat.le_add_left 1 _) (by with_reducible assumption) | exact Nat.le_trans (Nat.le_add_left 1 _) (Nat.le_trans (by with_reducible assumption) (by with_reducible assumption)))))))
local macro_rules | `(tactic| walk_at "subscriptTail Name Constant ref int") => `(tactic| (k_here; (k_dflt (refine' itemK ?k1 ?k2 ?k3 ?k4 ?k5 ?_ ?k6; (case k1 => k_asm); (case k2 => k_mem); (case k3 => decide); (case k4 => decide); (case k5 => rfl); (case k6 => with_unfolding_all rfl)))))
local macro_rules | `(tactic| k_ne) => `(tactic| (refine neN ?_; (try dsimp only); first | exact NeA.out (by assumption) | exact NeA.symm (by assumption) | omega))
local macro_rules | `(tactic| walk_at "FinA") => `(tactic| (unfold LCg.FinA; intro d' h' tk' F' N' off'; replace off' := offH_of off'; simp only [OffH, and_true] at off'; repeat (obtain ⟨o1', off'⟩ := off')))
local macro_rules | `(tactic| walk_at "FinE") => `(tactic| (unfold LCg.FinE; intro d' h' tk' F' N' off'; replace off' := offH_of off'; simp only [OffH, and_true] at off'; repeat (obtain ⟨o1', off'⟩ := off')))
local macro_rules | `(tactic| walk_at "exec Assign cons ListComp") => `(tactic| (k_here; (with_reducible show wpAny _ _ (exec (Stmt.Assign [_] (PySem.Expr.ListComp _ [⟨_, PySem.Expr.Name _ _, [], _⟩] _ _) _) _) _ _ _); (refine withToks (n := 1) ?htk ?_; (case htk => exact TokAt.out (by with_reducible assumption)); k_dflt (refine LCg.Assign_ListComp_U (F₀ := by k_asm) (by rfl) (by with_unfolding_all rfl) (by with_unfolding_all rfl) (by decide) (by rfl) (by decide) (by rfl) (by rfl) (by rfl) ?_))))
local macro_rules | `(tactic| walk_at "exec Assign cons ListComp") => `(tactic| (k_here; (with_reducible show wpAny _ _ (exec (Stmt.Assign [_] (PySem.Expr.ListComp _ [⟨_, PySem.Expr.Call _ _ _ _, [], _⟩] _ _) _) _) _ _ _); (k_dflt (refine LCg.Assign_ListComp_U (F₀ := by k_asm) (by rfl) (by with_unfolding_all rfl) (by with_unfolding_all rfl) (by decide) (by rfl) (by decide) (by rfl) (by rfl) (by rfl) ?_))))
local macro_rules | `(tactic| walk_at "CompSrc") => `(tactic| (k_here; (k_dflt (refine LCg.CompSrc.range (n := 3) (by rfl) (by k_asm) (by k_asm) (by assumption) (by decide) (by rfl) (by exact Nat.le_of_ble_eq_true rfl) ?_; intro g'; (refine' gDrawn (fun k' t' I' oI' C' oC' D' m' ys' h' tk' E' hlo' hhi' hC' hx' F' N' off' ne' => ?_) (fun ys' ns' hi' ha' hl' => ?_)))); (all_goals (try (have off9 := off'))); (all_goals (try (simp only [LCg.Off3, and_true] at off')))))
local macro_rules | `(tactic| walk_at "CompSrc") => `(tactic| (k_here; (k_dflt (refine LCg.CompSrc.ledger (by rfl) (by k_asm) (by k_asm) (by k_mem) (by exact sizeAsked (by with_reducible assumption) (by with_reducible assumption)) ?_; intro g'; (refine' gRight (by with_reducible assumption) (by with_reducible assumption) (by with_reducible assumption) (fun k' t' I' oI' C' oC' D' m' ys' h' tk' E' hlt' hC' hx' F' N' off' ne' => ?_) ?_))); (all_goals (try (have off9 := off'))); (all_goals (try (simp only [LCg.Off3, and_true] at off')))))
local macro_rules | `(tactic| walk_at "CompEnd") => `(tactic| ((with_reducible show LCg.CompEnd _ _ _ _ _ _ _ _ _ _ _ (fun y' n' => GEnd _ _ _ _) _ _); (k_dflt (refine' gEnd ?k1 ?k2 ?k3 ?k4 ?k5 ?k6; (case k1 => assumption); (case k2 => assumption); (case k3 => k_subL); (case k4 => assumption); (case k5 => lcg_src); (case k6 => first | exact Eq.refl _ | exact ⟨_, _, by with_reducible assumption, rfl⟩)))))
local macro_rules | `(tactic| walk_at "binaryOp FloorDiv int int") => `(tactic| (k_here; (with_reducible refine fdiv64 (by with_reducible assumption) (by with_reducible assumption) ?_); intro q'))
local macro_rules | `(tactic| walk_at "binaryOp Add ref ref") => `(tactic| (k_here; (k_dflt (refine' addAsked ?k1 ?k2 ?k3 ?k4 ?k5 ?k6 ?k7 ?k8 ?k9 ?_; (case k6 => k_asm); (case k7 => k_asm); (case k8 => kmk_list); (case k9 => kmk_list); (case k1 => with_reducible assumption); (case k2 => with_reducible assumption); (case k3 => k_asm); (case k4 => with_reducible assumption); (case k5 => with_reducible assumption))); intro D' ws' as' h' F' N' l1 hI' ha' hl'; (try k_lt l1)))
local macro_rules | `(tactic| walk_at "subscriptTail") => `(tactic| (k_here; (with_reducible show wpAny _ _ (subscriptTail _ _ (Value.bytes _ _) (Value.ref _)) _ _ _); (k_dflt (refine' sliceRow ?F ?N ?_ ?s ?t; (case F => k_asm); (case N => k_asm); (case s => with_unfolding_all rfl); (case t => kmk_pure))); intro h' t' k' hk' F' N'; (try dsimp only at hk')))
local macro_rules | `(tactic| walk_at "binaryOp Add bytes bytes") => `(tactic| (k_here; (k_dflt (refine addBoth ?_)); intro t' k' hk'; (try dsimp only at hk')))
local macro_rules | `(tactic| walk_at "binaryOp BitXor int int") => `(tactic| (k_here; (k_dflt (refine xorK (by with_reducible assumption) (by with_reducible assumption) ?_)); intro q' hq'))
local macro_rules | `(tactic| walk_at "call builtin:hasattr") => `(tactic| (k_here; (k_dflt (refine' hasBytesK ?k1 ?k2 ?_; (case k1 => k_asm); (case k2 => k_asm); k_whole)); intro h' F' N'))
local macro_rules | `(tactic| walk_at "call ref") => `(tactic| (k_here; (with_reducible show wpAny _ _ (call (Value.ref 202) _) _ _ _); (k_dflt (refine' use (rig_tel (by with_reducible assumption) (by with_reducible assumption) (by with_reducible assumption) (both_begins _ _)) ?k1 ?k2 ?k3 ?k4 ?k5 ?k6 ?k7 ?k8 ?k9 ?_; (case k1 => k_asm); (case k2 => k_asm); (case k3 => k_asm); (case k4 => k_asm); (case k5 => k_asm); (case k6 => rfl); (case k7 => first | decide | (simp only [depth_deeper]; omega)); (case k8 => first | decide | (simp only [units_deeper]; omega)); (case k9 => kmk_list))); intro v' h' tk' F' N' K' po'; subst po'))
local macro_rules | `(tactic| walk_at "call ref") => `(tactic| (k_here; (with_reducible show wpAny _ _ (call (Value.ref 197) _) _ _ _); (k_dflt (refine' sou_tel ?hu1 (both_not _ _) _ _ _ _ _ _ _ _ _ _ _ _ _ _ _ _ _ _ _ ?k1 ?k2 ?k3 ?k4 ?kX ?kT ?k6 ?k7 ?k8 ?k9 ?_; (case k1 => k_asm); (case k2 => k_asm); (case k3 => k_asm); (case k4 => k_asm); (case kX => k_asm); (case kT => k_asm); (case k6 => rfl); (case k7 => first | decide | (simp only [depth_deeper]; omega)); (case k8 => first | decide | (simp only [units_deeper]; omega)); (case hu1 => first | with_reducible assumption | exact TokAt.out (by with_reducible assumption)); (case k9 => exact Nat.le_refl _))); intro t' h' tk' F'))
set_option maxHeartbeats 4000000 in
theorem lawT : PySem.Challenge.rw_il0046_01.Holds := hd (by
  w_top off
  k_go0
  (all_goals try k_fold)
  k_steps)
end Mine
theorem PySem.Challenge.cw_il0046_01_holds : PySem.Challenge.rw_il0046_01.Holds :=
  Mine.lawT
