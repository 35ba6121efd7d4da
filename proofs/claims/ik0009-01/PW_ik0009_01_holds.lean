import PyProof.Rows.All
import Wide.All
import OpenK.AllK
import Wide.FinOn
import PySem.Challenge.RW_ik0009_01

set_option Elab.async false
set_option maxRecDepth 100000
set_option maxHeartbeats 0
set_option compiler.extract_closed false

section
open PySem PySem.W PyProof.Rows
namespace Mine
def vw : Program := view PySem.Challenge.rw_ik0009_01.row.toRowW.prog [0, 2, 4, 6, 7, 9, 11, 13, 14, 15, 16, 17, 18, 19, 20, 22, 23, 24, 25, 26, 27, 28, 30, 31, 32, 33, 34, 35, 36, 37]
theorem said : PySem.Challenge.rw_ik0009_01.wellSaid = true := by kernel_rfl
theorem looked : (chainsOk vw && (opensWell PySem.Challenge.rw_ik0009_01.row.prog && (frees PySem.Challenge.rw_ik0009_01.row.toRowW && PySem.Challenge.rw_ik0009_01.row.within.isEmpty))) = true := by decide +kernel
theorem whole : PySem.Challenge.rw_ik0009_01.row.prog.tablesWhole = true := by decide +kernel
set_option hygiene false in
local macro_rules | `(tactic| o_law) => `(tactic| refine holds_law Mine.said fun _ => ?_)
set_option hygiene false in
local macro_rules | `(tactic| o_head $H) => `(tactic| (refine holds_open (q := vw) (loose := []) (Xt := fun s => xlAt vw [] s && recOk (RowW.records PySem.Challenge.rw_ik0009_01.row.toRowW) s) (XP := XL vw []) (Yf := Hook.obs $H) (Ya := Hook.val $H) (YP := Hook.says $H) (N := 3040) ?hl (Hook.of $H) (Hook.keeps $H) (fun s e => xl_of s (Bool.and_eq_true_iff.mp e).1) XL.keeps (by rfl) (by rfl) (by rfl) (fun s e => recFacts_of (Bool.and_eq_true_iff.mp e).2) (by rfl) (by assumption) Mine.looked ⟨rfl, rfl, rfl, rfl, rfl, Mine.whole⟩ ?hw ?hc; (case hl => exact fun w => by kernel_rfl)))
open_top hd for PySem.Challenge.rw_ik0009_01
end Mine
end

theorem Mine.offT : True := by
  w_top off
  exact trivial

namespace Mine
theorem room0 {dp c N : Nat} (h : dp + c < N) : dp < N := Nat.lt_of_le_of_lt (Nat.le_add_right _ _) h
theorem room1 {dp c c' N : Nat} (h : dp + c < N) (e : Nat.ble (1 + c') c = true) : dp + 1 + c' < N := by
  have := Nat.le_of_ble_eq_true e
  omega
theorem units1 {un c c' N : Nat} (h : un + 8 * c < N) (e : Nat.ble (3 + 8 * c') (8 * c) = true) : un + 3 + 8 * c' < N := by
  have := Nat.le_of_ble_eq_true e
  omega
end Mine

section
open PySem PySem.W PySem.Spec PySem.Calls PyProof.Rows
namespace Mine
section
variable {prog : Program} {w : World} {A A₀ : Around} {s : Shared} {K : Frag} {L : Addr} {h₀ base : Heap} {m mg mb : PySem.Str → Option Value} {part rest : List (Addr × Obj)} {p : Program} {loose : List PySem.Str} {mean : ExcName → Option Value}

/-- a post as a name: the walk need not carry it -/
def PostIn {α : Type} (Q : α → Shared → Prop) (s : Shared) (GG : Array GenState) (DD : Drawn) (OO : OsState) (Q' : α → Shared → Prop) : Prop := ∀ a h tk, Q a { s with heap := h, toks := tk } → Q' a ⟨h, GG, DD, tk, OO⟩
theorem PostIn.use {α : Type} {Q Q' : α → Shared → Prop} {s : Shared} {GG : Array GenState} {DD : Drawn} {OO : OsState} (h : PostIn Q s GG DD OO Q') {a : α} {h' : Heap} {tk : Nat} (g : Q a { s with heap := h', toks := tk }) : Q' a ⟨h', GG, DD, tk, OO⟩ := h a h' tk g
theorem PostIn.self {α : Type} {Q : α → Shared → Prop} {s : Shared} : PostIn Q s s.gens s.drawn s.os Q := fun _ _ _ h => h

theorem News.left {h : Heap} (N : News h₀ L h (part ++ rest)) : News h₀ L h part := fun q hq => N q (List.mem_append_left _ hq)
theorem News.right {h : Heap} (N : News h₀ L h (part ++ rest)) : News h₀ L h rest := fun q hq => N q (List.mem_append_right _ hq)
theorem News.both {h : Heap} (N : News h₀ L h part) (N' : News h₀ L h rest) : News h₀ L h (part ++ rest) := fun q hq => (List.mem_append.mp hq).elim (N q) (N' q)

/-- at the leaving of a def: what was not handed in stands as it stood -/
abbrev AndRest (h₀ : Heap) (L : Addr) (rest : List (Addr × Obj)) (R : Result → Shared → Prop) : Result → Shared → Prop := fun r s' => match r with | .ok f => News h₀ L s'.heap rest → R (.ok f) s' | .error e => R (.error e) s'

theorem leaveRest {R : Result → Shared → Prop} {g : Heap} {v : Value} {s' : Shared}
    (N : News h₀ L s.heap rest) (hg : ∀ q ∈ rest, g.get? q.1 = some q.2) (lv : ∀ v s', LeaveK h₀ L m g (AndRest h₀ L rest R) v s' → AndRest h₀ L rest R (.ok (.ret v)) s')
    (hl : LeaveK h₀ L m g (AndRest h₀ L rest R) v s') : R (.ok (.ret v)) s' := by
  obtain ⟨L', m', news', F', N', k⟩ := id hl
  exact lv _ _ hl fun q hq => ⟨F'.keep _ _ (hg q hq), (N q hq).2⟩

theorem rest_in (N : News h₀ L s.heap (part ++ rest)) (hne : ∀ q ∈ rest, q.1 ∉ part.map (·.1)) : ∀ q ∈ rest, (hideAll s.heap (part.map (·.1))).get? q.1 = some q.2 :=
  fun q hq => hideAll_get _ (News.right N q hq).1 (hne q hq)

theorem enter_plain {env : Env} {outer : List Env} {R : Result → Shared → Prop} {name qual : PySem.Str} {params : Arguments} {body : List Stmt} {scope : Scope} {dV kV doc pm cdv ct oc : Value} {an od : Option Addr} {osl : Array (Option Value)} {f : Addr} {args : Args} {binds : List (PySem.Str × Value)}
    (B : Below A₀ base outer h₀) (F : Fr h₀ L s.heap m) (X₀ : K.In h₀) (N : News h₀ L s.heap (part ++ rest)) (hne : ∀ q ∈ rest, q.1 ∉ part.map (·.1)) (T : Top p loose mean mg mb h₀) (hA : A.frames = some (env :: outer)) (hf : env.frame = some L) (hke : env.scope.kind = .function)
    (ho : K.lookup f = some ⟨oc, od, .func (fnOf name qual params body scope dV kV doc pm an cdv ct), osl⟩) (hcd : codeIn K cdv qual = true) (hroom : A.depth < recursionLimit)
    (hbind : BindsTo s (fnOf name qual params body scope dV kV doc pm an cdv ct) args binds) (hloc : ∀ y ∈ binds, scope.names.lookup y.1 = some .local)
    (h : ∀ g L' h₁, Fr h₀ L g m → Fr g L' h₁ (fun y => binds.reverse.lookup y) → News g L' h₁ part → Below A base (env :: outer) g → K.In g → Top p loose mean mg mb g → (∀ q ∈ part, q.1 < L') → (∀ q ∈ rest, g.get? q.1 = some q.2) →
      ∀ (GG : Array GenState) (DD : Drawn) (tk : Nat) (OO : OsState) (Q' : Flow → Shared → Prop), PostIn (fun fl s' => LeaveK h₀ L m g (AndRest h₀ L rest R) (match fl with | .ret v => v | _ => .none) s') s GG DD OO Q' →
        wpAny (model prog w) (A.deeper (envOf qual scope L' f cdv)) (execs body (envOf qual scope L' f cdv)) Q' (fun _ _ => False) ⟨h₁, GG, DD, tk, OO⟩)
    (hco : scope.isCoroutine = false) (hgen : scope.isGenerator = false) (hk : scope.kind = .function)
    (hcell : ∀ x ∈ scope.names, x.2 ≠ .cell) : codeAny (model prog w) A (.call (.ref f) args) R s := by
  have NP := News.left N
  obtain ⟨FG, BG, st, lv⟩ := groundX (R := AndRest h₀ L rest R) B F NP hA hf hke
  refine codeAny_call_def (fd := fnOf name qual params body scope dV kV doc pm an cdv ct) (body := body) (binds := binds) hroom ((X₀.keeps F.keep) _ _ ho) rfl (T.nolimit.keeps F.keep) (codeRec_of (X₀.keeps F.keep) hcd) rfl hbind hcell hloc (fun h₁ hns hk₁ => ?_) hco hgen hk
  exact wpAny_mono (wpAny_noRaise (h _ s.heap.objs.size h₁ FG ⟨hns, fun b o e => hk₁ b o (of_hideAll _ e), Nat.le_of_eq (hideAll_size _ _)⟩
    (fun p hp => ⟨hk₁ _ _ (NP p hp).1, Nat.ne_of_lt (Heap.lt_size (NP p hp).1), hideAll_none _ (List.mem_map_of_mem hp)⟩) BG (X₀.keeps st) (T.keeps st) (fun p hp => Heap.lt_size (NP p hp).1) (rest_in N hne) _ _ _ _ _ PostIn.self)) (fun fl s' hl => leaveRest (News.right N) (rest_in N hne) lv hl) fun _ _ y => y

theorem enter_cells {env : Env} {outer : List Env} {R : Result → Shared → Prop} {name qual : PySem.Str} {params : Arguments} {body : List Stmt} {scope : Scope} {dV kV doc pm cdv ct oc : Value} {an od : Option Addr} {osl : Array (Option Value)} {f : Addr} {args : Args} {binds : List (PySem.Str × Value)}
    (B : Below A₀ base outer h₀) (F : Fr h₀ L s.heap m) (X₀ : K.In h₀) (N : News h₀ L s.heap (part ++ rest)) (hne : ∀ q ∈ rest, q.1 ∉ part.map (·.1)) (T : Top p loose mean mg mb h₀) (hA : A.frames = some (env :: outer)) (hf : env.frame = some L) (hke : env.scope.kind = .function)
    (ho : K.lookup f = some ⟨oc, od, .func (fnOf name qual params body scope dV kV doc pm an cdv ct), osl⟩) (hcd : codeIn K cdv qual = true) (hroom : A.depth < recursionLimit)
    (hbind : BindsTo s (fnOf name qual params body scope dV kV doc pm an cdv ct) args binds) (hkind : (binds.all fun y => scope.names.lookup y.1 == some .local || scope.names.lookup y.1 == some .cell) = true)
    (hnd : ((cellsFrom 0 scope.names []).map (·.1)).Nodup)
    (h : ∀ g L' h₁ tk cells, Fr h₀ L g m → Fr g L' h₁ (bindL (envOfC qual scope L' f cdv).kindOf binds fun _ => none) → News g L' h₁ (cells ++ part) →
      CellsAre (bindC (envOfC qual scope L' f cdv).kindOf binds fun _ => none) (cellsFrom (L' + 1) scope.names []) cells → Below A base (env :: outer) g → K.In g → Top p loose mean mg mb g → (∀ p ∈ part, p.1 < L') → (∀ q ∈ rest, g.get? q.1 = some q.2) →
      wpAny (model prog w) (A.deeper (envOfC qual scope L' f cdv)) (execs body (envOfC qual scope L' f cdv))
        (fun fl s' => LeaveK h₀ L m g (AndRest h₀ L rest R) (match fl with | .ret v => v | _ => .none) s')
        (fun e s' => wpAny (model prog w) (A.deeper (envOfC qual scope L' f cdv)) (leaving (envOfC qual scope L' f cdv) e) (fun _ s'' => R (.error e) s'') (fun e' s'' => R (.error e') s'') s')
        { s with heap := h₁, toks := tk })
    (hco : scope.isCoroutine = false) (hgen : scope.isGenerator = false) (hk : scope.kind = .function) : codeAny (model prog w) A (.call (.ref f) args) R s := by
  have NP := News.left N
  obtain ⟨FG, BG, st, lv⟩ := groundX (R := AndRest h₀ L rest R) B F NP hA hf hke
  refine codeAny_call_function (fd := fnOf name qual params body scope dV kV doc pm an cdv ct) (body := body) hroom ((X₀.keeps F.keep) _ _ ho) rfl hco hgen rfl (codeRec_of (X₀.keeps F.keep) hcd) (hbind _ _ _ _ ?_)
  refine wpAny_newFunctionEnv_cells hk (kindsX hkind _) fun env' he s' x => ?_
  subst he
  refine ⟨(T.nolimit.keeps F.keep).keeps x.toInCall.keep, codeAny_func ?_⟩
  obtain ⟨h₁, tk, rfl, _⟩ := x.done
  have hk₁ := x.toInCall.keep
  obtain ⟨cells, NC, Y⟩ := Cl.news (h₀ := s.heap) (Nat.le_refl _) fun n c hm => ⟨x.cell n c (lookup_of_mem_nodup (cellsFrom_names scope.names 0 (s.heap.objs.size + 1) [] [] rfl ▸ hnd) hm), x.above n c hm⟩
  refine wpAny_mono (h _ s.heap.objs.size h₁ tk cells FG ⟨x.toInCall.ns, fun b o e => hk₁ b o (of_hideAll _ e), Nat.le_of_eq (hideAll_size _ _)⟩ (fun p hp => ?_) Y BG (X₀.keeps st) (T.keeps st) (fun p hp => Heap.lt_size (NP p hp).1) (rest_in N hne)) (fun fl s' hl => leaveRest (News.right N) (rest_in N hne) lv hl) fun _ _ y => y
  rcases List.mem_append.mp hp with hp | hp
  · refine ⟨(NC p hp).1, (NC p hp).2.1, ?_⟩
    cases q : (hideAll s.heap (part.map (·.1))).get? p.1 with
    | none => rfl
    | some o => have := of_hideAll _ q; rw [(NC p hp).2.2] at this; cases this
  · exact ⟨hk₁ _ _ (NP p hp).1, Nat.ne_of_lt (Heap.lt_size (NP p hp).1), hideAll_none _ (List.mem_map_of_mem hp)⟩

theorem enter_cellsP {env : Env} {outer : List Env} {R : Result → Shared → Prop} {name qual : PySem.Str} {params : Arguments} {body : List Stmt} {scope : Scope} {dV kV doc pm cdv ct oc : Value} {an od : Option Addr} {osl : Array (Option Value)} {f : Addr} {args : Args} {binds : List (PySem.Str × Value)}
    (B : Below A₀ base outer h₀) (F : Fr h₀ L s.heap m) (X₀ : K.In h₀) (N : News h₀ L s.heap (part ++ rest)) (hne : ∀ q ∈ rest, q.1 ∉ part.map (·.1)) (T : Top p loose mean mg mb h₀) (hA : A.frames = some (env :: outer)) (hf : env.frame = some L) (hke : env.scope.kind = .function)
    (ho : K.lookup f = some ⟨oc, od, .func (fnOf name qual params body scope dV kV doc pm an cdv ct), osl⟩) (hcd : codeIn K cdv qual = true) (hroom : A.depth < recursionLimit)
    (hbind : BindsTo s (fnOf name qual params body scope dV kV doc pm an cdv ct) args binds) (hkind : (binds.all fun y => scope.names.lookup y.1 == some .local || scope.names.lookup y.1 == some .cell) = true)
    (hnd : ((cellsFrom 0 scope.names []).map (·.1)).Nodup)
    (h : ∀ g L' h₁ (tk0 : Nat) cells, Fr h₀ L g m → Fr g L' h₁ (bindL (envOfC qual scope L' f cdv).kindOf binds fun _ => none) → News g L' h₁ (cells ++ part) →
      CellsAre (bindC (envOfC qual scope L' f cdv).kindOf binds fun _ => none) (cellsFrom (L' + 1) scope.names []) cells → Below A base (env :: outer) g → K.In g → Top p loose mean mg mb g → (∀ p ∈ part, p.1 < L') → (∀ q ∈ rest, g.get? q.1 = some q.2) →
      ∀ (GG : Array GenState) (DD : Drawn) (tk : Nat) (OO : OsState) (Q' : Flow → Shared → Prop), PostIn (fun fl s' => LeaveK h₀ L m g (AndRest h₀ L rest R) (match fl with | .ret v => v | _ => .none) s') s GG DD OO Q' →
        wpAny (model prog w) (A.deeper (envOfC qual scope L' f cdv)) (execs body (envOfC qual scope L' f cdv)) Q' (fun _ _ => False) ⟨h₁, GG, DD, tk, OO⟩)
    (hco : scope.isCoroutine = false) (hgen : scope.isGenerator = false) (hk : scope.kind = .function) : codeAny (model prog w) A (.call (.ref f) args) R s :=
  enter_cells B F X₀ N hne T hA hf hke ho hcd hroom hbind hkind hnd (fun g L' h₁ tk cells a1 a2 a3 a4 a5 a6 a7 a8 a9 => wpAny_noRaise (h g L' h₁ tk cells a1 a2 a3 a4 a5 a6 a7 a8 a9 _ _ _ _ _ PostIn.self)) hco hgen hk

theorem enter_rest {env : Env} {outer : List Env} {R : Result → Shared → Prop} {name qual : PySem.Str} {params : Arguments} {body : List Stmt} {scope : Scope} {dV kV doc pm cdv ct oc : Value} {an od : Option Addr} {osl : Array (Option Value)} {f : Addr} {args : Args} {vs : List Value} {g₁ : Addr → Option (List (PySem.Str × Value))} {binds : Addr → List (PySem.Str × Value)}
    (B : Below A₀ base outer h₀) (F : Fr h₀ L s.heap m) (X₀ : K.In h₀) (N : News h₀ L s.heap rest) (T : Top p loose mean mg mb h₀) (hA : A.frames = some (env :: outer)) (hf : env.frame = some L) (hke : env.scope.kind = .function)
    (ho : K.lookup f = some ⟨oc, od, .func (fnOf name qual params body scope dV kV doc pm an cdv ct), osl⟩) (hcd : codeIn K cdv qual = true) (hroom : A.depth < recursionLimit)
    (hv : args.pos.drop (params.posonlyargs.length + params.args.length) = vs)
    (hp : peek1 K ⟨prog, w.params⟩ (bindArgs (fnOf name qual params body scope dV kV doc pm an cdv ct) args) = some (({ cls := .type "tuple", data := .seq vs.toArray } : Obj), g₁))
    (hg : ∀ D, g₁ D = some (binds D)) (hloc : ∀ D, ∀ y ∈ binds D, scope.names.lookup y.1 = some .local)
    (h : ∀ D g L' h₁, Fr h₀ L g m → Fr g L' h₁ (fun y => (binds D).reverse.lookup y) → News g L' h₁ [(D, ({ cls := .type "tuple", data := .seq vs.toArray } : Obj))] → Below A base (env :: outer) g → K.In g → Top p loose mean mg mb g → D < L' → (∀ q ∈ rest, g.get? q.1 = some q.2) →
      ∀ (GG : Array GenState) (DD : Drawn) (tk : Nat) (OO : OsState) (Q' : Flow → Shared → Prop), PostIn (fun fl s' => LeaveK h₀ L m g (AndRest h₀ L rest R) (match fl with | .ret v => v | _ => .none) s') s GG DD OO Q' →
        wpAny (model prog w) (A.deeper (envOf qual scope L' f cdv)) (execs body (envOf qual scope L' f cdv)) Q' (fun _ _ => False) ⟨h₁, GG, DD, tk, OO⟩)
    (hco : scope.isCoroutine = false) (hgen : scope.isGenerator = false) (hk : scope.kind = .function)
    (hcell : ∀ x ∈ scope.names, x.2 ≠ .cell) : codeAny (model prog w) A (.call (.ref f) args) R s := by
  have _ := hv
  refine codeAny_call_function (fd := fnOf name qual params body scope dV kV doc pm an cdv ct) (body := body) hroom ((X₀.keeps F.keep) _ _ ho) rfl hco hgen rfl (codeRec_of (X₀.keeps F.keep) hcd) ?_
  refine wp_of_peek1 (o := ({ cls := .type "tuple", data := .seq vs.toArray } : Obj)) F N (X₀.keeps F.keep) rfl (r := binds) (fun D h' F' N' l => ?_) _ g₁ hp hg
  have N2 : News h₀ L ({ s with heap := h' } : Shared).heap ([(D, ({ cls := .type "tuple", data := .seq vs.toArray } : Obj))] ++ rest) := N'
  have NP := News.left N2
  obtain ⟨FG, BG, st, lv⟩ := groundX (s := { s with heap := h' }) (R := AndRest h₀ L rest R) B F' NP hA hf hke
  have hne : ∀ q ∈ rest, q.1 ∉ [(D, ({ cls := .type "tuple", data := .seq vs.toArray } : Obj))].map (·.1) := fun q hq hm => by
    have e : q.1 = D := by simpa using hm
    exact absurd (l q hq) (by rw [e]; exact Nat.lt_irrefl _)
  refine wpAny_newFunctionEnv hcell (hloc D) (fun h₁ hns hsb => ⟨(T.nolimit.keeps F'.keep).fresh _ hsb, codeAny_func ?_⟩) hk
  have hk₁ : ∀ b o, h'.get? b = some o → h₁.get? b = some o := fun b o e => hsb.extBut b o (Nat.ne_of_lt (Heap.lt_size e)) (Heap.get?_push_of_some _ e)
  show wpAny (model prog w) (A.deeper (envOf qual scope h'.objs.size f cdv)) (execs body (envOf qual scope h'.objs.size f cdv)) _ _ _
  exact wpAny_mono (wpAny_noRaise (h D _ h'.objs.size h₁ FG ⟨hns, fun b o e => hk₁ b o (of_hideAll _ e), Nat.le_of_eq (hideAll_size _ _)⟩
    (fun p hp => ⟨hk₁ _ _ (NP p hp).1, Nat.ne_of_lt (Heap.lt_size (NP p hp).1), hideAll_none _ (List.mem_map_of_mem hp)⟩) BG (X₀.keeps st) (T.keeps st) (Heap.lt_size (NP _ (.head _)).1) (rest_in N2 hne) _ _ _ _ _ PostIn.self)) (fun fl s' hl => leaveRest (News.right N2) (rest_in N2 hne) lv hl) fun _ _ y => y
end
end Mine
end

local macro_rules | `(tactic| k_steps) => `(tactic| repeat' (first | (k_unfold; (try dsimp only)) | (k_end; (first | (refine Mine.PostIn.use (by with_reducible assumption) ?_; (try dsimp only)) | wrow_close)) | walk1 | (dsimp only; walk1) | (leave1; walk_say "STEP leave1"; try dsimp only) | fail "no step"))
local macro_rules | `(tactic| cb_room) => `(tactic| first | exact Mine.room1 (by with_reducible assumption) rfl | fail)
local macro_rules | `(tactic| cb_units) => `(tactic| first | exact Mine.units1 (by with_reducible assumption) rfl | fail)
local macro_rules | `(tactic| ktr_room) => `(tactic| first | exact Mine.room0 (by with_reducible assumption) | fail)
local macro_rules | `(tactic| walk_at $s:str) => `(tactic| k_extra $s)

open PySem.W in
theorem Mine.offBase : True := by
  k_with_none
  w_top off
  exact trivial

section
open PySem PySem.W PySem.Spec PySem.Calls PyProof.Rows
namespace Mine
noncomputable abbrev PR : Program := PySem.Challenge.rw_ik0009_01.row.prog
noncomputable abbrev LO : List PySem.Str := (looseW vw [] ++ (recsOf vw).map (·.name) ++ (litsOf vw).map (·.1) ++ (clssOf vw (looseW vw [])).map (·.name))

/-- a call of the def at f, from any def of the text, with the ledger news in hand -/
abbrev Sur (w : World) (mean : ExcName → Option Value) (mg mb : PySem.Str → Option Value) (f : Addr) (vs : List Value) (c : Nat) (pre : List (Addr × Obj) → List (Addr × Obj))
    (Ret : Heap → Addr → (PySem.Str → Option Value) → List (Addr × Obj) → Shared → (Value → Shared → Prop) → Prop) : Prop :=
  ∀ (dp un : Nat) (gd : Option (List Code)) (cn : PySem.Str) (cs : Scope) (a : Addr) (ccd : Value) (cl : List (PySem.Str × Addr)) (outer : List Env) (A₀ : Around) (base h₀ : Heap) (L : Addr) (m : PySem.Str → Option Value) (news : List (Addr × Obj)) (s : Shared) (Q E : Value → Shared → Prop),
    Below A₀ base outer h₀ → Fr h₀ L s.heap m → (hd.heap_1 w.params).In h₀ → News h₀ L s.heap (pre news) → Top topProg LO mean mg mb h₀ → cs.kind = .function →
    dp + c < recursionLimit → un + 8 * c < cLine → Ret h₀ L m news s Q →
      wpAny (model PR w) (ktrTop dp un gd cn cs L a ccd cl outer) (call (.ref f) vs) Q E s

/-- it hands back a plain value -/
abbrev Ctr (w : World) (mean : ExcName → Option Value) (mg mb : PySem.Str → Option Value) (f : Addr) (vs : List Value) (c : Nat) (R : Tok → Value) : Prop :=
  Sur w mean mg mb f vs c (fun n => n) fun h₀ L m news s Q => CbRet h₀ L m news s Q R
/-- it hands back a new tuple -/
abbrev CtrT (w : World) (mean : ExcName → Option Value) (mg mb : PySem.Str → Option Value) (f : Addr) (vs : List Value) (c : Nat) (R : Tok → Tok → Tok → List Value) : Prop :=
  Sur w mean mg mb f vs c (fun n => n) fun h₀ L m news s Q => ∀ (a : Addr) (t u v : Tok) (h' : Heap) (tk' : Nat), Fr h₀ L h' m → News h₀ L h' ((a, { cls := .type "tuple", data := .seq (R t u v).toArray }) :: news) → (∀ p ∈ news, p.1 ≠ a) → Q (.ref a) { s with heap := h', toks := tk' }
section
variable {w : World} {mean : ExcName → Option Value} {mg mb : PySem.Str → Option Value} {f : Addr} {vs : List Value} {c : Nat} {dp un : Nat} {gd : Option (List Code)} {cn : PySem.Str} {cs : Scope} {a : Addr} {ccd : Value} {cl : List (PySem.Str × Addr)} {outer : List Env} {A₀ : Around} {base h₀ : Heap} {L : Addr} {m : PySem.Str → Option Value} {news : List (Addr × Obj)} {s : Shared} {Q E : Value → Shared → Prop}
theorem ctr_use {R : Tok → Value} (C : Ctr w mean mg mb f vs c R)
    (h1 : Below A₀ base outer h₀ := by k_asm) (h2 : Fr h₀ L s.heap m := by k_asm) (h3 : (hd.heap_1 w.params).In h₀ := by k_asm) (h4 : News h₀ L s.heap news := by k_asm) (h5 : Top topProg LO mean mg mb h₀ := by k_asm) (h6 : cs.kind = .function := by first | exact rfl | assumption)
    (h7 : dp + c < recursionLimit := by cb_room) (h8 : un + 8 * c < cLine := by cb_units) (h : ∀ (t : Tok) (h' : Heap) (tk' : Nat), Fr h₀ L h' m → News h₀ L h' news → Q (R t) { s with heap := h', toks := tk' }) :
      wpAny (model PR w) (ktrTop dp un gd cn cs L a ccd cl outer) (call (.ref f) vs) Q E s :=
  C dp un gd cn cs a ccd cl outer A₀ base h₀ L m news s Q E h1 h2 h3 h4 h5 h6 h7 h8 h
theorem ctrT_use {R : Tok → Tok → Tok → List Value} (C : CtrT w mean mg mb f vs c R)
    (h1 : Below A₀ base outer h₀ := by k_asm) (h2 : Fr h₀ L s.heap m := by k_asm) (h3 : (hd.heap_1 w.params).In h₀ := by k_asm) (h4 : News h₀ L s.heap news := by k_asm) (h5 : Top topProg LO mean mg mb h₀ := by k_asm) (h6 : cs.kind = .function := by first | exact rfl | assumption)
    (h7 : dp + c < recursionLimit := by cb_room) (h8 : un + 8 * c < cLine := by cb_units)
    (h : ∀ (a : Addr) (t u v : Tok) (h' : Heap) (tk' : Nat), Fr h₀ L h' m → News h₀ L h' ((a, { cls := .type "tuple", data := .seq (R t u v).toArray }) :: news) → (∀ p ∈ news, p.1 ≠ a) → Q (.ref a) { s with heap := h', toks := tk' }) :
      wpAny (model PR w) (ktrTop dp un gd cn cs L a ccd cl outer) (call (.ref f) vs) Q E s :=
  C dp un gd cn cs a ccd cl outer A₀ base h₀ L m news s Q E h1 h2 h3 h4 h5 h6 h7 h8 h
end
section
variable {prog : Program} {w : World} {A A₀ : Around} {s : Shared} {K : Frag} {L : Addr} {h₀ base : Heap} {m mg mb : PySem.Str → Option Value} {rest : List (Addr × Obj)} {p : Program} {loose : List PySem.Str} {mean : ExcName → Option Value}
theorem enter_plain0 {env : Env} {outer : List Env} {R : Result → Shared → Prop} {name qual : PySem.Str} {params : Arguments} {body : List Stmt} {scope : Scope} {dV kV doc pm cdv ct oc : Value} {an od : Option Addr} {osl : Array (Option Value)} {f : Addr} {args : Args} {binds : List (PySem.Str × Value)}
    (B : Below A₀ base outer h₀) (F : Fr h₀ L s.heap m) (X₀ : K.In h₀) (N : News h₀ L s.heap rest) (T : Top p loose mean mg mb h₀) (hA : A.frames = some (env :: outer)) (hf : env.frame = some L) (hke : env.scope.kind = .function)
    (ho : K.lookup f = some ⟨oc, od, .func (fnOf name qual params body scope dV kV doc pm an cdv ct), osl⟩) (hcd : codeIn K cdv qual = true) (hroom : A.depth < recursionLimit)
    (hbind : BindsTo s (fnOf name qual params body scope dV kV doc pm an cdv ct) args binds) (hloc : ∀ y ∈ binds, scope.names.lookup y.1 = some .local)
    (h : ∀ g L' h₁, Fr h₀ L g m → Fr g L' h₁ (fun y => binds.reverse.lookup y) → News g L' h₁ [] → Below A base (env :: outer) g → K.In g → Top p loose mean mg mb g → (∀ q ∈ rest, g.get? q.1 = some q.2) →
      ∀ (GG : Array GenState) (DD : Drawn) (tk : Nat) (OO : OsState) (Q' : Flow → Shared → Prop), PostIn (fun fl s' => LeaveK h₀ L m g (AndRest h₀ L rest R) (match fl with | .ret v => v | _ => .none) s') s GG DD OO Q' →
        wpAny (model prog w) (A.deeper (envOf qual scope L' f cdv)) (execs body (envOf qual scope L' f cdv)) Q' (fun _ _ => False) ⟨h₁, GG, DD, tk, OO⟩)
    (hco : scope.isCoroutine = false) (hgen : scope.isGenerator = false) (hk : scope.kind = .function)
    (hcell : ∀ x ∈ scope.names, x.2 ≠ .cell) : codeAny (model prog w) A (.call (.ref f) args) R s :=
  enter_plain (part := []) B F X₀ N (fun _ _ hm => nomatch hm) T hA hf hke ho hcd hroom hbind hloc (fun g L' h₁ a1 a2 a3 a4 a5 a6 _ a7 => h g L' h₁ a1 a2 a3 a4 a5 a6 a7) hco hgen hk hcell
theorem enter_cells0 {env : Env} {outer : List Env} {R : Result → Shared → Prop} {name qual : PySem.Str} {params : Arguments} {body : List Stmt} {scope : Scope} {dV kV doc pm cdv ct oc : Value} {an od : Option Addr} {osl : Array (Option Value)} {f : Addr} {args : Args} {binds : List (PySem.Str × Value)}
    (B : Below A₀ base outer h₀) (F : Fr h₀ L s.heap m) (X₀ : K.In h₀) (N : News h₀ L s.heap rest) (T : Top p loose mean mg mb h₀) (hA : A.frames = some (env :: outer)) (hf : env.frame = some L) (hke : env.scope.kind = .function)
    (ho : K.lookup f = some ⟨oc, od, .func (fnOf name qual params body scope dV kV doc pm an cdv ct), osl⟩) (hcd : codeIn K cdv qual = true) (hroom : A.depth < recursionLimit)
    (hbind : BindsTo s (fnOf name qual params body scope dV kV doc pm an cdv ct) args binds) (hkind : (binds.all fun y => scope.names.lookup y.1 == some .local || scope.names.lookup y.1 == some .cell) = true)
    (hnd : ((cellsFrom 0 scope.names []).map (·.1)).Nodup)
    (h : ∀ g L' h₁ tk cells, Fr h₀ L g m → Fr g L' h₁ (bindL (envOfC qual scope L' f cdv).kindOf binds fun _ => none) → News g L' h₁ (cells ++ []) →
      CellsAre (bindC (envOfC qual scope L' f cdv).kindOf binds fun _ => none) (cellsFrom (L' + 1) scope.names []) cells → Below A base (env :: outer) g → K.In g → Top p loose mean mg mb g → (∀ q ∈ rest, g.get? q.1 = some q.2) →
      wpAny (model prog w) (A.deeper (envOfC qual scope L' f cdv)) (execs body (envOfC qual scope L' f cdv))
        (fun fl s' => LeaveK h₀ L m g (AndRest h₀ L rest R) (match fl with | .ret v => v | _ => .none) s')
        (fun e s' => wpAny (model prog w) (A.deeper (envOfC qual scope L' f cdv)) (leaving (envOfC qual scope L' f cdv) e) (fun _ s'' => R (.error e) s'') (fun e' s'' => R (.error e') s'') s')
        { s with heap := h₁, toks := tk })
    (hco : scope.isCoroutine = false) (hgen : scope.isGenerator = false) (hk : scope.kind = .function) : codeAny (model prog w) A (.call (.ref f) args) R s :=
  enter_cells (part := []) B F X₀ N (fun _ _ hm => nomatch hm) T hA hf hke ho hcd hroom hbind hkind hnd (fun g L' h₁ tk cells a1 a2 a3 a4 a5 a6 a7 _ a8 => h g L' h₁ tk cells a1 a2 a3 a4 a5 a6 a7 a8) hco hgen hk
theorem enter_cells1 {env : Env} {outer : List Env} {R : Result → Shared → Prop} {name qual : PySem.Str} {params : Arguments} {body : List Stmt} {scope : Scope} {dV kV doc pm cdv ct oc : Value} {an od : Option Addr} {osl : Array (Option Value)} {f : Addr} {args : Args} {binds : List (PySem.Str × Value)}
    (B : Below A₀ base outer h₀) (F : Fr h₀ L s.heap m) (X₀ : K.In h₀) (N : News h₀ L s.heap rest) (T : Top p loose mean mg mb h₀) (hA : A.frames = some (env :: outer)) (hf : env.frame = some L) (hke : env.scope.kind = .function)
    (ho : K.lookup f = some ⟨oc, od, .func (fnOf name qual params body scope dV kV doc pm an cdv ct), osl⟩) (hcd : codeIn K cdv qual = true) (hroom : A.depth < recursionLimit)
    (hbind : BindsTo s (fnOf name qual params body scope dV kV doc pm an cdv ct) args binds) (hkind : (binds.all fun y => scope.names.lookup y.1 == some .local || scope.names.lookup y.1 == some .cell) = true)
    (hnd : ((cellsFrom 0 scope.names []).map (·.1)).Nodup)
    (h : ∀ g L' h₁ (tk0 : Nat) cells, Fr h₀ L g m → Fr g L' h₁ (bindL (envOfC qual scope L' f cdv).kindOf binds fun _ => none) → News g L' h₁ (cells ++ []) →
      CellsAre (bindC (envOfC qual scope L' f cdv).kindOf binds fun _ => none) (cellsFrom (L' + 1) scope.names []) cells → Below A base (env :: outer) g → K.In g → Top p loose mean mg mb g → (∀ q ∈ rest, g.get? q.1 = some q.2) →
      ∀ (GG : Array GenState) (DD : Drawn) (tk : Nat) (OO : OsState) (Q' : Flow → Shared → Prop), PostIn (fun fl s' => LeaveK h₀ L m g (AndRest h₀ L rest R) (match fl with | .ret v => v | _ => .none) s') s GG DD OO Q' →
        wpAny (model prog w) (A.deeper (envOfC qual scope L' f cdv)) (execs body (envOfC qual scope L' f cdv)) Q' (fun _ _ => False) ⟨h₁, GG, DD, tk, OO⟩)
    (hco : scope.isCoroutine = false) (hgen : scope.isGenerator = false) (hk : scope.kind = .function) : codeAny (model prog w) A (.call (.ref f) args) R s :=
  enter_cellsP (part := []) B F X₀ N (fun _ _ hm => nomatch hm) T hA hf hke ho hcd hroom hbind hkind hnd (fun g L' h₁ tk cells a1 a2 a3 a4 a5 a6 a7 _ a8 => h g L' h₁ tk cells a1 a2 a3 a4 a5 a6 a7 a8) hco hgen hk
end
def AllNe (d : Nat) : List (Addr × Obj) → Prop
  | [] => True
  | p :: r => @Ne Nat p.1 d ∧ AllNe d r
theorem allNe_of {d : Addr} {l : List (Addr × Obj)} (h : ∀ p ∈ l, p.1 ≠ d) : AllNe d l := by
  induction l with
  | nil => exact trivial
  | cons q r ih => exact ⟨h q (.head _), ih fun p hp => h p (.tail _ hp)⟩
theorem ret_tup {vs vs' : List Value} {Q : Value → Shared → Prop} {h₀ g : Heap} {L L' : Addr} {m : PySem.Str → Option Value} {news : List (Addr × Obj)} {s : Shared} {a : Addr} {h' : Heap} {tk' : Nat}
    (hret : ∀ (a : Addr) (h' : Heap) (tk' : Nat), Fr h₀ L h' m → News h₀ L h' ((a, { cls := .type "tuple", data := .seq vs.toArray }) :: news) → (∀ p ∈ news, p.1 ≠ a) → Q (.ref a) { s with heap := h', toks := tk' })
    (hG : ∀ q ∈ news, g.get? q.1 = some q.2) {own : List (Addr × Obj)} (N' : News g L' h' own) (F : Fr h₀ L h' m) (N : News h₀ L h' own) (R : News h₀ L h' news) (e : vs' = vs) (hm : (a, ({ cls := .type "tuple", data := .seq vs'.toArray } : Obj)) ∈ own) : Q (.ref a) { s with heap := h', toks := tk' } := by
  subst e
  exact hret a h' tk' F (fun p hp => by rcases List.mem_cons.mp hp with rfl | q; exact N _ hm; exact R _ q) fun p hp e => by
    have := (N' _ hm).2.2
    rw [show (a, ({ cls := .type "tuple", data := .seq vs'.toArray } : Obj)).1 = p.1 from e.symm, hG p hp] at this
    cases this
theorem lt_of_all {d : Nat} {l : List (Addr × Obj)} (h : AllLt d l) (p : Addr × Obj) (hp : p ∈ l) : p.1 < d := by
  induction l with
  | nil => cases hp
  | cons q r ih =>
    have h' : q.1 < d ∧ AllLt d r := h
    rcases List.mem_cons.mp hp with e | e
    · rw [e]; exact h'.1
    · exact ih h'.2 e
theorem get_sep {w mean mg mb} (x : PySem.Str) (t : Tok) : Ctr w mean mg mb 108 [.str x t] 2 (fun t => .str "/" t) := by
  unfold Ctr Sur PR; dsimp only [CbRet]
  k_fill
  intros
  rename_i hret
  refine wpAny_call ?_
  k_dflt (refine' enter_plain0 ?k1 ?k2 ?k3 ?k4 ?k5 ?kA ?kF ?kK ?k6 ?k7 ?k8 ?k9 ?kB ?_ ?c2 ?c3 ?c4 ?c5; (case kA => exact rfl); (case kF => exact rfl); (case kK => assumption); (case k1 => k_asm); (case k2 => k_asm); (case k3 => k_asm); (case k4 => k_asm); (case k5 => k_asm); (case k6 => k_is); (case k7 => k_is); (case k8 => ktr_room); (case k9 => first | exact BindsTo.of_eq (binds := [(_, _)]) rfl | exact BindsTo.of_eq (binds := [(_, _), (_, _)]) rfl | exact BindsTo.of_eq (binds := [(_, _), (_, _), (_, _)]) rfl); (case c5 => decide); (case kB => exact locs rfl); (case c2 => exact rfl); (case c3 => exact rfl); (case c4 => exact rfl); k_whole; intro g' L' h' FG' F' N' B' X' T' hG' GZ DZ tkZ OZ QZ hQZ; (try dsimp only); (try k_lift B'))
  k_steps
  all_goals (skip; (first | refine hret _ _ _ ?_ ?_ | refine hret 0 _ _ ?_ ?_); (k_asm); (k_asm))
section
variable {prog : Program} {w : World} {A : Around} {E : Value → Shared → Prop} {s : Shared}
theorem ty_str : typeOf (.type "str") = pure (.type "type") := by with_unfolding_all rfl
theorem sub_ss : isSubtype (.type "str") (.type "str") = pure true := by rw [isSubtype_type]; kernel_rfl
theorem sub_tt : isSubtype (.type "tuple") (.type "tuple") = pure true := by rw [isSubtype_type]; kernel_rfl
theorem kind_subn : builtinKind "issubclass.nested" = none := by decide +kernel
theorem plain_subn : plainId "issubclass.nested" = true := by decide +kernel
theorem args_subn (a b c : Value) : argsOk "issubclass.nested" ⟨[a, b, c], []⟩ := by unfold argsOk; kernel_rfl
theorem subn_self (k : Int) : Meets (Builtin.«issubclass.nested» ⟨[.type "str", .type "str", rawInt k], []⟩) (fun _ R s => R (.ok (.ret (.bool true))) s) := by
  intro prog w A R s hs
  have h1 := ty_str
  have h2 := sub_ss
  unfold rawInt
  repeat (any_goals (first | assumption | wp_step))
theorem code_function_meets {id : String} {B : Builtin} {args : List Value} {S : PySem.Spec} {R : Result → Shared → Prop} (kind : builtinKind id = none) (plain : plainId id = true)
    (entry : entryFor table id = some B) (ok : argsOk id ⟨args, []⟩) (g : Meets (B ⟨args, []⟩) S) (h : S A R s) : codeAny (model prog w) A (.call (.builtin id) ⟨args, []⟩) R s := by
  refine codeAny_call_builtin plain entry ?_
  have hfin := g prog w A R s h
  simp only [checkBuiltinCall, kind]
  cases hsig : Manifest.signature? id with
  | none => exact wpAny_pure hfin
  | some sig =>
    simp only [argsOk, hsig] at ok
    have h2 : Bind.checkArgs id sig ⟨args, []⟩ = pure () := ok
    show wpAny _ _ (Bind.checkArgs id sig ⟨args, []⟩) _ _ s
    rw [h2]; exact wpAny_pure hfin
theorem sub_tup {a : Addr} (ht : IsTup s.heap a #[.type "str", .type "bytes"]) {Q : Value → Shared → Prop} (h : Q (.bool true) s) :
    wpAny (model prog w) A (call (.builtin "issubclass") [.type "str", .ref a]) Q E s := by
  refine call_function_meets F.kind_issubclass F.plain_issubclass F.entry_issubclass (F.args_issubclass_2 _ _) (S := fun _ R s' => R (.ok (.ret (.bool true))) s' ∧ IsTup s'.heap a #[.type "str", .type "bytes"]) ?_ ⟨h, ht⟩
  intro prog w A R s hs
  refine issubclass_outer ?_
  obtain ⟨hR, o, ho, hc, n, hd⟩ := hs
  have hT : s.TypeIs (.ref a) "tuple" := ⟨o, ho, hc⟩
  have h3 := sub_tt
  have e : ((Value.type "tuple") == (Value.type "type")) = false := by decide
  have e2 : ((Value.type "tuple") == (Value.type "types.UnionType")) = false := by decide
  unfold rawInt
  repeat (any_goals (first | assumption | wp_step))
  rw [hd]
  repeat (any_goals (first | assumption | wp_step))
  refine code_function_meets kind_subn plain_subn F.entry_issubclass_nested (args_subn _ _ _) (subn_self _) ?_
  repeat (any_goals (first | assumption | wp_step))
theorem tup_of_news {h₀ h : Heap} {L a : Addr} {news : List (Addr × Obj)} {xs : Array Value} {n : Nat} (N : News h₀ L h news) (hm : (a, ({ cls := .type "tuple", data := .seq xs n } : Obj)) ∈ news) : IsTup h a xs :=
  ⟨_, (N _ hm).1, rfl, n, rfl⟩
end
theorem rulbase1 : True := by
  k_with "call builtin:issubclass" => (k_here; k_dflt (refine sub_tup (by ((refine' tup_of_news ?n ?m; (case n => k_asm); (case m => k_mem)))) ?_))
  trivial
theorem fspath {w mean mg mb} (x : PySem.Str) (t : Tok) : Ctr w mean mg mb 94 [.str x t] 3 (fun _ => .str x t) := by
  unfold Ctr Sur PR; dsimp only [CbRet]
  k_fill
  intros
  rename_i hret
  refine wpAny_call ?_
  k_dflt (refine' enter_plain0 ?k1 ?k2 ?k3 ?k4 ?k5 ?kA ?kF ?kK ?k6 ?k7 ?k8 ?k9 ?kB ?_ ?c2 ?c3 ?c4 ?c5; (case kA => exact rfl); (case kF => exact rfl); (case kK => assumption); (case k1 => k_asm); (case k2 => k_asm); (case k3 => k_asm); (case k4 => k_asm); (case k5 => k_asm); (case k6 => k_is); (case k7 => k_is); (case k8 => ktr_room); (case k9 => first | exact BindsTo.of_eq (binds := [(_, _)]) rfl | exact BindsTo.of_eq (binds := [(_, _), (_, _)]) rfl | exact BindsTo.of_eq (binds := [(_, _), (_, _), (_, _)]) rfl); (case c5 => decide); (case kB => exact locs rfl); (case c2 => exact rfl); (case c3 => exact rfl); (case c4 => exact rfl); k_whole; intro g' L' h' FG' F' N' B' X' T' hG' GZ DZ tkZ OZ QZ hQZ; (try dsimp only); (try k_lift B'))
  k_steps
  all_goals (skip; (first | refine hret _ _ _ ?_ ?_ | refine hret 0 _ _ ?_ ?_); (k_asm); (k_asm))
end Mine
end

open PySem.W in
theorem Mine.offPaths : True := by
  k_with_none
  w_top off
  exact trivial

section
open PySem PySem.W PySem.Spec PySem.Calls PyProof.Rows
namespace Mine
theorem rulpaths1 : True := by
  k_with "call ref" => (k_here; k_dflt (first | (refine ctr_use (fspath _ _) (h := ?_); intro t9 h9 tk9 F9 N9; (try (revert t9 h9 tk9 F9 N9; intros))) | (refine ctr_use (get_sep _ _) (h := ?_); intro t9 h9 tk9 F9 N9; (try (revert t9 h9 tk9 F9 N9; intros)))); (try dsimp only); (try k_fold))
  trivial
/-- the place behind the last slash -/
noncomputable abbrev pCut (x : PySem.Str) : Int := Txt.rfind x (PySem.Str.ofString "/") + 1
noncomputable abbrev pUp (x : PySem.Str) : PySem.Str := Txt.slice x none (some (pCut x))
noncomputable abbrev pTail (x : PySem.Str) : PySem.Str := Txt.slice x (some (pCut x)) none
noncomputable def pHead (x : PySem.Str) : PySem.Str :=
  if ((pUp x).length : Int) ≠ 0 then (if (pUp x != Txt.mul (PySem.Str.ofString "/") ((pUp x).length : Int)) = true then Txt.rstripChars (pUp x) (PySem.Str.ofString "/") else pUp x) else pUp x
theorem pHead_a {x : PySem.Str} (h : ((pUp x).length : Int) ≠ 0) (h2 : (pUp x != Txt.mul (PySem.Str.ofString "/") ((pUp x).length : Int)) = true) : Txt.rstripChars (pUp x) (PySem.Str.ofString "/") = pHead x := by
  unfold pHead; rw [if_pos h, if_pos h2]
theorem pHead_b {x : PySem.Str} (h2 : (pUp x != Txt.mul (PySem.Str.ofString "/") ((pUp x).length : Int)) = false) : pUp x = pHead x := by
  unfold pHead
  have : ¬ (pUp x != Txt.mul (PySem.Str.ofString "/") ((pUp x).length : Int)) = true := by rw [h2]; exact Bool.false_ne_true
  rw [if_neg this, ite_self]
theorem pHead_c {x : PySem.Str} (h : ((pUp x).length : Int) = 0) : pUp x = pHead x := by
  unfold pHead; rw [if_neg (show ¬ (((pUp x).length : Int) ≠ 0) from fun q => q h)]
noncomputable def joinP (x y : PySem.Str) : PySem.Str :=
  if Txt.startswith y (PySem.Str.ofString "/") = true then y else if (x.length : Int) = 0 then y else if Txt.endswith x (PySem.Str.ofString "/") = true then x ++ y else x ++ (PySem.Str.ofString "/" ++ y)
theorem joinP_a {x y : PySem.Str} (h : Txt.startswith y (PySem.Str.ofString "/") = true) : y = joinP x y := by unfold joinP; rw [if_pos h]
theorem joinP_b {x y : PySem.Str} (h : Txt.startswith y (PySem.Str.ofString "/") = false) (h2 : (x.length : Int) = 0) : y = joinP x y := by unfold joinP; rw [if_neg (by rw [h]; exact Bool.false_ne_true), if_pos h2]
theorem joinP_c {x y : PySem.Str} (h : Txt.startswith y (PySem.Str.ofString "/") = false) (h2 : (x.length : Int) ≠ 0) (h3 : Txt.endswith x (PySem.Str.ofString "/") = true) : x ++ y = joinP x y := by unfold joinP; rw [if_neg (by rw [h]; exact Bool.false_ne_true), if_neg h2, if_pos h3]
theorem joinP_d {x y : PySem.Str} (h : Txt.startswith y (PySem.Str.ofString "/") = false) (h2 : (x.length : Int) ≠ 0) (h3 : Txt.endswith x (PySem.Str.ofString "/") = false) : x ++ (PySem.Str.ofString "/" ++ y) = joinP x y := by unfold joinP; rw [if_neg (by rw [h]; exact Bool.false_ne_true), if_neg h2, if_neg (by rw [h3]; exact Bool.false_ne_true)]
theorem basename {w mean mg mb} (x : PySem.Str) (t : Tok) (hx : x.length ≤ 4096) : Ctr w mean mg mb 136 [.str x t] 6 (fun t => .str (pTail x) t) := by
  unfold Ctr Sur PR; dsimp only [CbRet]
  k_fill
  intros
  rename_i hret
  refine wpAny_call ?_
  k_dflt (refine' enter_plain0 ?k1 ?k2 ?k3 ?k4 ?k5 ?kA ?kF ?kK ?k6 ?k7 ?k8 ?k9 ?kB ?_ ?c2 ?c3 ?c4 ?c5; (case kA => exact rfl); (case kF => exact rfl); (case kK => assumption); (case k1 => k_asm); (case k2 => k_asm); (case k3 => k_asm); (case k4 => k_asm); (case k5 => k_asm); (case k6 => k_is); (case k7 => k_is); (case k8 => ktr_room); (case k9 => first | exact BindsTo.of_eq (binds := [(_, _)]) rfl | exact BindsTo.of_eq (binds := [(_, _), (_, _)]) rfl | exact BindsTo.of_eq (binds := [(_, _), (_, _), (_, _)]) rfl); (case c5 => decide); (case kB => exact locs rfl); (case c2 => exact rfl); (case c3 => exact rfl); (case c4 => exact rfl); k_whole; intro g' L' h' FG' F' N' B' X' T' hG' GZ DZ tkZ OZ QZ hQZ; (try dsimp only); (try k_lift B'))
  k_steps
  all_goals ((try dsimp only); refine cb_retS hret rfl ?_ ?_; (k_asm); (k_asm))
theorem dirname {w mean mg mb} (x : PySem.Str) (t : Tok) (hx : x.length ≤ 4096) : Ctr w mean mg mb 143 [.str x t] 6 (fun t => .str (pHead x) t) := by
  unfold Ctr Sur PR; dsimp only [CbRet]
  k_fill
  intros
  rename_i hret
  refine wpAny_call ?_
  k_dflt (refine' enter_plain0 ?k1 ?k2 ?k3 ?k4 ?k5 ?kA ?kF ?kK ?k6 ?k7 ?k8 ?k9 ?kB ?_ ?c2 ?c3 ?c4 ?c5; (case kA => exact rfl); (case kF => exact rfl); (case kK => assumption); (case k1 => k_asm); (case k2 => k_asm); (case k3 => k_asm); (case k4 => k_asm); (case k5 => k_asm); (case k6 => k_is); (case k7 => k_is); (case k8 => ktr_room); (case k9 => first | exact BindsTo.of_eq (binds := [(_, _)]) rfl | exact BindsTo.of_eq (binds := [(_, _), (_, _)]) rfl | exact BindsTo.of_eq (binds := [(_, _), (_, _), (_, _)]) rfl); (case c5 => decide); (case kB => exact locs rfl); (case c2 => exact rfl); (case c3 => exact rfl); (case c4 => exact rfl); k_whole; intro g' L' h' FG' F' N' B' X' T' hG' GZ DZ tkZ OZ QZ hQZ; (try dsimp only); (try k_lift B'))
  k_steps
  all_goals ((try dsimp only); refine cb_retS hret ?e ?_ ?_; (case e => (first | exact pHead_a (by with_reducible assumption) (by with_reducible assumption) | exact pHead_b (by with_reducible assumption) | exact pHead_c (by with_reducible assumption))); (k_asm); (k_asm))
theorem join {w mean mg mb} (x y : PySem.Str) (t u : Tok) (hx : x.length ≤ 4096) (hy : y.length ≤ 4096) : Ctr w mean mg mb 115 [.str x t, .str y u] 6 (fun t => .str (joinP x y) t) := by
  unfold Ctr Sur PR; dsimp only [CbRet]
  k_fill
  intros
  rename_i hret
  refine wpAny_call ?_
  k_dflt (refine' enter_rest ?k1 ?k2 ?k3 ?k4 ?k5 ?kA ?kF ?kK ?k6 ?k7 ?k8 ?kV ?kP ?kG ?kB ?_ ?c2 ?c3 ?c4 ?c5; (case kA => exact rfl); (case kF => exact rfl); (case kK => assumption); (case k1 => k_asm); (case k2 => k_asm); (case k3 => k_asm); (case k4 => k_asm); (case k5 => k_asm); (case k6 => k_is); (case k7 => k_is); (case k8 => ktr_room); (case kV => kl_lit); (case kP => exact rfl); (case kG => exact fun _ => rfl); (case kB => exact fun _ => locs rfl); (case c5 => decide); (case c2 => exact rfl); (case c3 => exact rfl); (case c4 => exact rfl); k_whole; intro D' g' L' h' FG' F' N' B' X' T' l1 hG' GZ DZ tkZ OZ QZ hQZ; (try dsimp only); (try k_lift B'))
  k_steps
  all_goals ((try dsimp only); refine cb_retS hret ?e ?_ ?_; (case e => (first | exact joinP_a (by with_reducible assumption) | exact joinP_b (by with_reducible assumption) (by with_reducible assumption) | exact joinP_c (by with_reducible assumption) (by with_reducible assumption) (by with_reducible assumption) | exact joinP_d (by with_reducible assumption) (by with_reducible assumption) (by with_reducible assumption))); (k_asm); (k_asm))
theorem split_ret {x y : PySem.Str} {Q : Value → Shared → Prop} {h₀ g : Heap} {L L' : Addr} {m : PySem.Str → Option Value} {news : List (Addr × Obj)} {s : Shared} {a : Addr} {h' : Heap} {tk' : Nat} {t u : Tok}
    (hret : ∀ (a : Addr) (t u _v : Tok) (h' : Heap) (tk' : Nat), Fr h₀ L h' m → News h₀ L h' ((a, { cls := .type "tuple", data := .seq ([.str (pHead x) t, .str (pTail x) u] : List Value).toArray }) :: news) → (∀ p ∈ news, p.1 ≠ a) → Q (.ref a) { s with heap := h', toks := tk' })
    (hG : ∀ q ∈ news, g.get? q.1 = some q.2) {own : List (Addr × Obj)} (N' : News g L' h' own) (F : Fr h₀ L h' m) (N : News h₀ L h' own) (R : News h₀ L h' news) (hm : (a, ({ cls := .type "tuple", data := .seq ([.str y t, .str (pTail x) u] : List Value).toArray } : Obj)) ∈ own) (e : y = pHead x) : Q (.ref a) { s with heap := h', toks := tk' } := by
  subst e
  exact ret_tup (fun a h' tk' => hret a t u 0 h' tk') hG N' F N R rfl hm
theorem split {w mean mg mb} (x : PySem.Str) (t : Tok) (hx : x.length ≤ 4096) : CtrT w mean mg mb 122 [.str x t] 6 (fun t u _ => [.str (pHead x) t, .str (pTail x) u]) := by
  unfold CtrT Sur PR; dsimp only [CbRet]
  k_fill
  intros
  rename_i hret
  refine wpAny_call ?_
  k_dflt (refine' enter_plain0 ?k1 ?k2 ?k3 ?k4 ?k5 ?kA ?kF ?kK ?k6 ?k7 ?k8 ?k9 ?kB ?_ ?c2 ?c3 ?c4 ?c5; (case kA => exact rfl); (case kF => exact rfl); (case kK => assumption); (case k1 => k_asm); (case k2 => k_asm); (case k3 => k_asm); (case k4 => k_asm); (case k5 => k_asm); (case k6 => k_is); (case k7 => k_is); (case k8 => ktr_room); (case k9 => first | exact BindsTo.of_eq (binds := [(_, _)]) rfl | exact BindsTo.of_eq (binds := [(_, _), (_, _)]) rfl | exact BindsTo.of_eq (binds := [(_, _), (_, _), (_, _)]) rfl); (case c5 => decide); (case kB => exact locs rfl); (case c2 => exact rfl); (case c3 => exact rfl); (case c4 => exact rfl); k_whole; intro g' L' h' FG' F' N' B' X' T' hG' GZ DZ tkZ OZ QZ hQZ; (try dsimp only); (try k_lift B'))
  k_steps
  all_goals ((try dsimp only); exact split_ret hret hG' (by k_asm) (by k_asm) (by k_asm) (by k_asm) (by k_mem) (by (first | exact pHead_a (by with_reducible assumption) (by with_reducible assumption) | exact pHead_b (by with_reducible assumption) | exact pHead_c (by with_reducible assumption))))
theorem splitroot {w mean mg mb} (x : PySem.Str) (t : Tok) (hx : x.length ≤ 4096) (p1 : (Txt.slice x none (some 1) != PySem.Str.ofString "/") = false) (p2 : (Txt.slice x (some 1) (some 2) != PySem.Str.ofString "/") = true) : CtrT w mean mg mb 129 [.str x t] 6 (fun t u v => [.str (PySem.Str.ofString "") t, .str (PySem.Str.ofString "/") u, .str (Txt.slice x (some 1) none) v]) := by
  unfold CtrT Sur PR; dsimp only [CbRet]
  k_fill
  intros
  rename_i hret
  refine wpAny_call ?_
  k_dflt (refine' enter_plain0 ?k1 ?k2 ?k3 ?k4 ?k5 ?kA ?kF ?kK ?k6 ?k7 ?k8 ?k9 ?kB ?_ ?c2 ?c3 ?c4 ?c5; (case kA => exact rfl); (case kF => exact rfl); (case kK => assumption); (case k1 => k_asm); (case k2 => k_asm); (case k3 => k_asm); (case k4 => k_asm); (case k5 => k_asm); (case k6 => k_is); (case k7 => k_is); (case k8 => ktr_room); (case k9 => first | exact BindsTo.of_eq (binds := [(_, _)]) rfl | exact BindsTo.of_eq (binds := [(_, _), (_, _)]) rfl | exact BindsTo.of_eq (binds := [(_, _), (_, _), (_, _)]) rfl); (case c5 => decide); (case kB => exact locs rfl); (case c2 => exact rfl); (case c3 => exact rfl); (case c4 => exact rfl); k_whole; intro g' L' h' FG' F' N' B' X' T' hG' GZ DZ tkZ OZ QZ hQZ; (try dsimp only); (try k_lift B'))
  k_steps
  all_goals ((try dsimp only); exact ret_tup (fun a h' tk' => hret a _ _ _ h' tk') hG' (by k_asm) (by k_asm) (by k_asm) (by k_asm) rfl (by k_mem))
end Mine
end

open PySem.W in
theorem Mine.offLoops : True := by
  k_with_none
  w_top off
  exact trivial

section
open PySem PySem.W PySem.Spec PySem.Calls PyProof.Rows
namespace Mine

section
variable {prog : Program} {w : World} {A : Around} {E : Value → Shared → Prop} {s : Shared} {env : Env} {h₀ : Heap} {target : Expr} {body : List Stmt} {Q : Flow → Shared → Prop}
/-- a turn is over: the iterator stands, the loop's word holds of what is left -/
def TurnEnd (h₀ : Heap) (L : Addr) (s : Shared) (I : Addr × Obj) (J : (PySem.Str → Option Value) → List (Addr × Obj) → Prop) (s₂ : Shared) : Prop :=
  ∃ h' tk' m' news' all, s₂ = { s with heap := h', toks := tk' } ∧ Fr h₀ L h' m' ∧ News h₀ L h' all ∧ I ∈ all ∧ SubL news' all ∧ OffW [I] news' ∧ J m' news'
def TurnPost (h₀ : Heap) (L : Addr) (s : Shared) (I : Addr × Obj) (J : (PySem.Str → Option Value) → List (Addr × Obj) → Prop) (Q : Flow → Shared → Prop) (f : Flow) (s₂ : Shared) : Prop :=
  match f with
  | .ret v => Q (.ret v) s₂
  | .brk => Q .next s₂
  | _ => TurnEnd h₀ L s I J s₂
theorem items_inv {I : Addr} {cl : String} {keep : List (Addr × Obj)} (J : List Value → (PySem.Str → Option Value) → List (Addr × Obj) → Prop)
    (hk : ∀ r m n, J r m n → SubL keep n)
    (turn : ∀ v r m news o h tk, J (v :: r) m news → o.cls = .type cl → Fr h₀ env.locals h m → News h₀ env.locals h ((I, o) :: news) →
      wpAny (model prog w) A (assign target env v) (fun _ s₂ => wpAny (model prog w) A (execs body env) (TurnPost h₀ env.locals s (I, o) (J r) Q) E s₂) E { s with heap := h, toks := tk })
    (fin : ∀ m news h tk, J [] m news → Fr h₀ env.locals h m → News h₀ env.locals h news → Q .next { s with heap := h, toks := tk }) (vs : List Value) :
    ∀ m news, J vs m news → ItemsRest prog w A E h₀ env target body Q s [(I, cl)] keep (vs.map .val) m news := by
  induction vs with
  | nil => exact fun m news hj => ItemsRest.zero fun h tk F N => fin m news h tk hj F N
  | cons v r ih =>
    intro m news hj
    refine ItemsRest.val fun h tk F => AllObj.cons fun o ho => AllObj.nil fun N => ?_
    refine wpAny_mono (turn v r m news o h tk hj ho F N) (fun _ s₂ h₂ => wpAny_mono h₂ (fun f s₃ h₃ => ?_) fun _ _ e => e) fun _ _ e => e
    have fin' : TurnEnd h₀ env.locals s (I, o) (J r) s₃ → UnrEndW h₀ env.locals { s with heap := h, toks := tk } [(I, o)] (fun m' n' => SubL keep n' ∧ ItemsRest prog w A E h₀ env target body Q s [(I, cl)] keep (r.map .val) m' n') s₃ := by
      rintro ⟨h', tk', m', news', all, rfl, F', N', hi, hs, ho', hj'⟩
      exact UnrEndW.intro F' N' news' ⟨hi, trivial⟩ hs ho' ⟨hk _ _ _ hj', ih _ _ hj'⟩
    cases f with
    | ret v => exact h₃
    | brk => exact h₃
    | next => exact fin' h₃
    | cont => exact fin' h₃
theorem TurnEnd.intro {L : Addr} {I : Addr × Obj} {J : (PySem.Str → Option Value) → List (Addr × Obj) → Prop} {h' : Heap} {tk' : Nat} {m' : PySem.Str → Option Value} {all : List (Addr × Obj)} (F : Fr h₀ L h' m') (N : News h₀ L h' all) (hi : I ∈ all)
    (news' : List (Addr × Obj)) (hs : SubL news' all) (ho : OffW [I] news') (hj : J m' news') : TurnEnd h₀ L s I J { s with heap := h', toks := tk' } := ⟨h', tk', m', news', all, rfl, F, N, hi, hs, ho, hj⟩
theorem subL_of {l all : List (Addr × Obj)} (h : ∀ p ∈ l, p ∈ all) : SubL l all := by
  induction l with
  | nil => exact trivial
  | cons p r ih => exact ⟨h p (.head _), ih fun q hq => h q (.tail _ hq)⟩
theorem TurnEnd.tail {L : Addr} {I : Addr × Obj} {J : (PySem.Str → Option Value) → List (Addr × Obj) → Prop} {h' : Heap} {tk' : Nat} {m' : PySem.Str → Option Value} {news' : List (Addr × Obj)} (F : Fr h₀ L h' m') (N : News h₀ L h' (I :: news'))
    (ho : OffW [I] news') (hj : J m' news') : TurnEnd h₀ L s I J { s with heap := h', toks := tk' } := ⟨h', tk', m', news', _, rfl, F, N, .head _, subL_of fun _ hp => .tail _ hp, ho, hj⟩
end
/-- a name that a loop turns, and the rest of the frame -/
abbrev over (x : PySem.Str) (u : Option Value) (m : PySem.Str → Option Value) : PySem.Str → Option Value := fun z => if z = x then u else m z
theorem over_over (x : PySem.Str) (u v : Option Value) (m : PySem.Str → Option Value) : (fun z => if z = x then v else over x u m z) = over x v m := by
  funext z; unfold over; by_cases h : z = x <;> simp [h]
theorem over_own (x : PySem.Str) (m : PySem.Str → Option Value) : m = over x (m x) m := by
  funext z; unfold over; by_cases h : z = x <;> simp [h]

section
variable {prog : Program} {w : World} {A : Around} {E : Value → Shared → Prop} {s : Shared} {env : Env} {h₀ : Heap} {target : Expr} {body : List Stmt} {Q : Flow → Shared → Prop}
/-- a loop over a list of the ledger that fills the ledger's first list -/
theorem loop_fill {x : PySem.Str} {d ax : Addr} {lo : Obj} {post : List (Addr × Obj)} {vs ds : List Value} {n n0 : Nat} {m₀ : PySem.Str → Option Value} (P : List Value → List Value → Prop)
    (hh : A.handled = none) (F : Fr h₀ env.locals s.heap m₀) (N : News h₀ env.locals s.heap ((d, listOf ds.toArray n0) :: post)) (hm : (ax, lo) ∈ post) (hc : lo.cls = .type "list") (hd : lo.data = .seq vs.toArray n) (h0 : P vs ds)
    (turn : ∀ I o v r cs nn u h tk, P (v :: r) cs → o.cls = .type "list_iterator" → (∀ p ∈ (d, listOf ds.toArray n0) :: post, p.1 < I) → Fr h₀ env.locals h (over x u m₀) → News h₀ env.locals h ((I, o) :: (d, listOf cs.toArray nn) :: post) →
      wpAny (model prog w) A (assign target env v) (fun _ s₂ => wpAny (model prog w) A (execs body env) (TurnPost h₀ env.locals s (I, o) (fun m' news' => ∃ u' cs' nn', m' = over x u' m₀ ∧ news' = (d, listOf cs'.toArray nn') :: post ∧ P r cs') Q) E s₂) E { s with heap := h, toks := tk })
    (fin : ∀ cs nn u h tk, P [] cs → Fr h₀ env.locals h (over x u m₀) → News h₀ env.locals h ((d, listOf cs.toArray nn) :: post) → Q .next { s with heap := h, toks := tk }) :
    wpAny (model prog w) A (pyIter (.ref ax)) (fun it s₂ => TurnsAt prog w A h₀ env target body Q E it s₂) E s := by
  refine iter_listTurns hh F N (.tail _ hm) hc hd fun I lI => ?_
  refine items_inv (fun r m' news' => ∃ u' cs' nn', m' = over x u' m₀ ∧ news' = (d, listOf cs'.toArray nn') :: post ∧ P r cs') ?_ ?_ ?_ vs m₀ _ ⟨_, ds, n0, over_own x m₀, rfl, h0⟩
  · rintro r m news ⟨u, cs, nn, rfl, rfl, hp⟩
    exact ⟨.tail _ hm, trivial⟩
  · rintro v r m news o h tk ⟨u, cs, nn, rfl, rfl, hp⟩ ho F₁ N₁
    exact turn I o v r cs nn u h tk hp ho lI F₁ N₁
  · rintro m news h tk ⟨u, cs, nn, rfl, rfl, hp⟩ F₁ N₁
    exact fin cs nn u h tk hp F₁ N₁
end
end Mine
end

open PySem.W in
theorem Mine.offSeqs : True := by
  k_with_none
  w_top off
  exact trivial

section
open PySem PySem.W PySem.Spec PySem.Calls PyProof.Rows
namespace Mine

section
variable {prog : Program} {w : World} {A : Around} {E : Value → Shared → Prop} {s : Shared} {h₀ : Heap} {L d : Addr} {m : PySem.Str → Option Value} {news news' : List (Addr × Obj)} {n : Nat}
theorem list_in {its : Array Value} (N : News h₀ L s.heap news) (hm : (d, listOf its n) ∈ news) : s.heap.IsList d its := ⟨_, (N _ hm).1, rfl, n, rfl⟩
theorem truthy_nil {Q : Bool → Shared → Prop} (N : News h₀ L s.heap news) (hm : (d, listOf (strValues []).toArray n) ∈ news) (h : Q false { s with toks := s.toks + 1 + 1 }) : wpAny (model prog w) A (truthy (.ref d)) Q E s :=
  wpAny_truthy_list (list_in N hm) (by decide) h
theorem truthy_snoc {l : List (PySem.Str × Tok)} {e : PySem.Str × Tok} {Q : Bool → Shared → Prop} (N : News h₀ L s.heap news) (hm : (d, listOf (strValues (l ++ [e])).toArray n) ∈ news) (hz : l.length ≤ 16777000) (h : Q true { s with toks := s.toks + 1 + 1 }) : wpAny (model prog w) A (truthy (.ref d)) Q E s :=
  wpAny_truthy_list (list_in N hm) (by simp [strValues]; (first | lia | omega)) (by
    have e : (!(strValues (l ++ [e])).toArray.isEmpty) = true := by simp [strValues]
    rw [e]; exact h)
theorem item_last {l : List (PySem.Str × Tok)} {e : PySem.Str} {te u : Tok} {value slice : PySem.Expr} {Q : Value → Shared → Prop} (N : News h₀ L s.heap news) (hm : (d, listOf (strValues (l ++ [(e, te)])).toArray n) ∈ news) (hz : l.length ≤ 16777000) (h : Q (.str e te) s)
    (hs : subscripted slice false (.ref d) (.int (-1) u) = operate [.ref d, .int (-1) u] (getItem (.ref d) (.int (-1) u)) := by with_unfolding_all rfl) :
    wpAny (model prog w) A (subscriptTail value slice (.ref d) (.int (-1) u)) Q E s := by
  have hl := list_in N hm
  have hsz : (strValues (l ++ [(e, te)])).toArray.size = l.length + 1 := by simp [strValues]
  refine tail_any hl.typeIs slot_list_getitem.lookup (wpAny_getItem_list_neg hl (by decide) (by rw [hsz]; (first | lia | omega)) (by decide) ?_ h) hs
  rw [hsz]
  have e2 : (-1 + ((l.length + 1 : Nat) : Int)).toNat = l.length := by (first | lia | omega)
  rw [e2]
  simp [strValues]
theorem pop_last {l : List (PySem.Str × Tok)} {e : PySem.Str} {te : Tok} {Q : Value → Shared → Prop} (F : Fr h₀ L s.heap m) (N : News h₀ L s.heap news) (U : Upd d (listOf (strValues (l ++ [(e, te)])).toArray n) (listOf (strValues l).toArray (n + 1)) news news') (hz : l.length ≤ 16777000)
    (h : ∀ h', Fr h₀ L h' m → News h₀ L h' news' → Q (.str e te) { s with heap := h' }) : wpAny (model prog w) A (call (.builtin "list.pop") [.ref d]) Q E s := by
  refine kl_pop F N (p := strValues l) (y := .str e te) ?_ U (by simp [strValues, sizeLine_eq]; (first | lia | omega)) h
  have : (strValues (l ++ [(e, te)])).toArray.toList = strValues l ++ [.str e te] := by simp [strValues]
  rw [this]
  generalize strValues l = q
  induction q with
  | nil => rfl
  | cons a r ih =>
    cases r with
    | nil => rfl
    | cons b r => simp only [List.cons_append] at ih ⊢; rw [kl_last, ih]
theorem append_str {l : List (PySem.Str × Tok)} {e : PySem.Str} {te : Tok} {Q : Value → Shared → Prop} (F : Fr h₀ L s.heap m) (N : News h₀ L s.heap news) (U : Upd d (listOf (strValues l).toArray n) (listOf (strValues (l ++ [(e, te)])).toArray (n + 1)) news news') (hz : l.length ≤ 16777000)
    (h : ∀ h', Fr h₀ L h' m → News h₀ L h' news' → Q .none { s with heap := h' }) : wpAny (model prog w) A (call (.builtin "list.append") [.ref d, .str e te]) Q E s := by
  have q : (strValues (l ++ [(e, te)])).toArray = (strValues l).toArray.push (.str e te) := by simp [strValues]
  rw [q] at U
  exact append_K F N U h (by simp [strValues, sizeLine_eq]; (first | lia | omega))
end
/-- the weight of a list of texts -/
def wt (ys : List PySem.Str) : Nat := (ys.map (·.length)).sum + ys.length
theorem wt_nil : wt [] = 0 := rfl
theorem wt_cons (c : PySem.Str) (r : List PySem.Str) : wt (c :: r) = c.length + 1 + wt r := by unfold wt; simp; (first | lia | omega)
theorem wt_append (a b : List PySem.Str) : wt (a ++ b) = wt a + wt b := by unfold wt; simp; (first | lia | omega)
theorem wt_mem {c : PySem.Str} {l : List PySem.Str} (h : c ∈ l) : c.length + 1 ≤ wt l := by
  induction l with
  | nil => cases h
  | cons a r ih =>
    rw [wt_cons]
    rcases List.mem_cons.mp h with rfl | h
    · (first | lia | omega)
    · have := ih h; (first | lia | omega)
theorem wt_len (l : List PySem.Str) : l.length ≤ wt l := by unfold wt; (first | lia | omega)
theorem strs_are : ∀ l : List (PySem.Str × Tok), StrsAre (strValues l) (l.map (·.1))
  | [] => .nil
  | (y, t) :: r => .cons y t (strs_are r)
section
variable {prog : Program} {w : World} {A : Around} {E : Value → Shared → Prop} {s : Shared} {h₀ : Heap} {L d : Addr} {news : List (Addr × Obj)} {n : Nat}
theorem join_strs {l : List (PySem.Str × Tok)} {x : PySem.Str} {t : Tok} {Q : Value → Shared → Prop} (N : News h₀ L s.heap news) (hm : (d, listOf (strValues l).toArray n) ∈ news) (hsep : x.length ≤ 16) (hw : wt (l.map (·.1)) ≤ 1048576)
    (h : ∀ t' k, Q (.str (Txt.join x (l.map (·.1))) t') { s with toks := k }) : wpAny (model prog w) A (call (.builtin "str.join") [.str x t, .ref d]) Q E s :=
  join_listW (list_in N hm) (strs_are l) hsep hw h
end
end Mine
end

open PySem.W in
theorem Mine.offNorm : True := by
  k_with_none
  w_top off
  exact trivial

section
open PySem PySem.W PySem.Spec PySem.Calls PyProof.Rows
namespace Mine
theorem rulnorm1 : True := by
  k_with "call ref" => (k_here; k_dflt (first | (refine ctr_use (fspath _ _) (h := ?_); intro t9 h9 tk9 F9 N9; (try (revert t9 h9 tk9 F9 N9; intros))) | (refine ctr_use (get_sep _ _) (h := ?_); intro t9 h9 tk9 F9 N9; (try (revert t9 h9 tk9 F9 N9; intros))) | (refine ctrT_use (splitroot _ _ (by (first | assumption | (first | lia | omega))) (by assumption) (by assumption)) (h := ?_); intro a9 t9 u9 v9 h9 tk9 F9 N9 l9; (replace l9 := allNe_of l9; simp only [AllNe, and_true] at l9); (try (revert a9 t9 u9 v9 h9 tk9 F9 N9 l9; intros)))); (try dsimp only); (try k_fold))
  k_with "exec For Name Name cons nil" => (k_here; (rename Fr _ _ _ _ => lF'); (with_unfolding_all refine' For_turns lF' ?_; k_whole))
  k_with "truthy ref" => (k_here; k_dflt (first | (refine truthy_nil (by k_asm) (by k_mem) ?_) | (refine truthy_snoc (by k_asm) (by k_mem) (by (first | lia | omega)) ?_)))
  k_with "subscriptTail" => (k_here; (with_reducible show wpAny _ _ (subscriptTail _ _ (Value.ref _) (Value.int _ _)) _ _ _); (with_unfolding_all refine item_last (by k_asm) (by k_mem) (by (first | lia | omega)) ?_ (by with_unfolding_all rfl)))
  k_with "call builtin:list.pop" => (k_here; (with_reducible show wpAny _ _ (call (Value.builtin _) [Value.ref _]) _ _ _); k_dflt (refine pop_last (by k_asm) (by k_asm) (by k_upd) (by (first | lia | omega)) ?_); intro h' F' N'; (try (revert h' F' N'; intros)))
  k_with "call builtin:str.join" => (k_here; k_dflt (refine join_strs (by k_asm) (by k_mem) (by decide) (by (first | lia | omega)) ?_); intro t' k'; (try (revert t' k'; intros)))
  k_with "call builtin:list.append" => (k_here; (with_reducible show wpAny _ _ (call (Value.builtin _) [Value.ref _, _]) _ _ _); k_dflt (refine append_str (by k_asm) (by k_asm) (by k_upd) (by (first | lia | omega)) ?_); intro h' F' N'; (try (revert h' F' N'; intros)))
  trivial
/-- what normpath does with a part of an absolute path -/
noncomputable def normStep (acc : List PySem.Str) (c : PySem.Str) : List PySem.Str :=
  if c = PySem.Str.ofString "" ∨ c = PySem.Str.ofString "." then acc else if c = PySem.Str.ofString ".." then acc.dropLast else acc ++ [c]
theorem str_nil {c : PySem.Str} (h : (c.length : Int) = 0) : c = PySem.Str.ofString "" := by
  obtain ⟨⟨l⟩⟩ := c
  cases l with
  | nil => rfl
  | cons a r => exfalso; simp [PySem.Str.length] at h; (first | lia | omega)
theorem str_ne {c : PySem.Str} (h : (c.length : Int) ≠ 0) : c ≠ PySem.Str.ofString "" := by
  rintro rfl; exact h (by decide)
theorem norm_skip0 {acc : List PySem.Str} {c : PySem.Str} (h : (c.length : Int) = 0) : normStep acc c = acc := by
  unfold normStep; rw [if_pos (.inl (str_nil h))]
theorem norm_skip1 {acc : List PySem.Str} {c : PySem.Str} (h : (c == PySem.Str.ofString ".") = true) : normStep acc c = acc := by
  unfold normStep; rw [if_pos (.inr (eq_of_beq h))]
theorem norm_other {acc : List PySem.Str} {c : PySem.Str} (h0 : (c.length : Int) ≠ 0) (h : (c == PySem.Str.ofString ".") = false) (h2 : (c != PySem.Str.ofString "..") = true) : normStep acc c = acc ++ [c] ∧ c ≠ PySem.Str.ofString ".." := by
  have e2 : c ≠ PySem.Str.ofString ".." := bne_iff_ne.mp h2
  have e1 : ¬ (c = PySem.Str.ofString "" ∨ c = PySem.Str.ofString ".") := by
    rintro (q | q)
    · exact str_ne h0 q
    · rw [q] at h; simp at h
  unfold normStep; rw [if_neg e1, if_neg e2]; exact ⟨rfl, e2⟩
theorem norm_up {acc : List PySem.Str} {c : PySem.Str} (h0 : (c.length : Int) ≠ 0) (h : (c == PySem.Str.ofString ".") = false) (h2 : (c != PySem.Str.ofString "..") = false) : normStep acc c = acc.dropLast := by
  have e2 : c = PySem.Str.ofString ".." := by simpa using h2
  have e1 : ¬ (c = PySem.Str.ofString "" ∨ c = PySem.Str.ofString ".") := by
    rintro (q | q)
    · exact str_ne h0 q
    · rw [q] at h; simp at h
  unfold normStep; rw [if_neg e1, if_pos e2]
theorem join_len (c : Nat) : ∀ (a : PySem.Str) (r : List PySem.Str), (Str.join ⟨#[c]⟩ (a :: r)).length + 1 = wt (a :: r)
  | a, [] => by rw [wt_cons, wt_nil]; rfl
  | a, b :: r => by
    have := join_len c b r
    have e : Str.join ⟨#[c]⟩ (a :: b :: r) = a ++ ⟨#[c]⟩ ++ Str.join ⟨#[c]⟩ (b :: r) := rfl
    rw [e, wt_cons, Str.length_append, Str.length_append]
    have h1 : (⟨#[c]⟩ : PySem.Str).length = 1 := rfl
    (first | lia | omega)
theorem slash_is : PySem.Str.ofString "/" = ⟨#[47]⟩ := by decide
theorem wt_split (x : PySem.Str) : wt (Txt.split x (PySem.Str.ofString "/")) ≤ x.length + 1 := by
  rw [slash_is]
  have h := StrLaws.join_split x ⟨#[47]⟩
  cases e : Txt.split x ⟨#[47]⟩ with
  | nil => rw [wt_nil]; (first | lia | omega)
  | cons a r => rw [e] at h; rw [← join_len 47, h]; (first | lia | omega)
abbrev NormP (l : List (PySem.Str × Tok)) (r cs : List Value) : Prop :=
  ∃ rl dl : List (PySem.Str × Tok), r = strValues rl ∧ cs = strValues dl ∧ (rl.map (·.1)).foldl normStep (dl.map (·.1)) = (l.map (·.1)).foldl normStep [] ∧ (∀ c ∈ dl.map (·.1), c ≠ PySem.Str.ofString "..") ∧ wt (dl.map (·.1)) + wt (rl.map (·.1)) ≤ wt (l.map (·.1))
theorem normP_next {l rl dl dl' : List (PySem.Str × Tok)} {c : PySem.Str} {tc : Tok}
    (hf : (((c, tc) :: rl).map (·.1)).foldl normStep (dl.map (·.1)) = (l.map (·.1)).foldl normStep []) (hl : wt (dl.map (·.1)) + wt (((c, tc) :: rl).map (·.1)) ≤ wt (l.map (·.1)))
    (e : normStep (dl.map (·.1)) c = dl'.map (·.1)) (hd : ∀ c ∈ dl'.map (·.1), c ≠ PySem.Str.ofString "..")
    (hl2 : wt (dl'.map (·.1)) ≤ wt (dl.map (·.1)) + (c.length + 1)) : NormP l (strValues rl) (strValues dl') :=
  ⟨rl, dl', rfl, rfl, by rw [← e]; simpa using hf, hd, by rw [List.map_cons, wt_cons] at hl; dsimp only at hl; (first | lia | omega)⟩
theorem normpath {w mean mg mb} (x : PySem.Str) (t : Tok) (hx : x.length ≤ 4096) (h0 : (x.length : Int) ≠ 0) (p1 : (Txt.slice x none (some 1) != PySem.Str.ofString "/") = false) (p2 : (Txt.slice x (some 1) (some 2) != PySem.Str.ofString "/") = true) : Ctr w mean mg mb 150 [.str x t] 12 (fun t => .str (PySem.Str.ofString "/" ++ Txt.join (PySem.Str.ofString "/") ((Txt.split (Txt.slice x (some 1) none) (PySem.Str.ofString "/")).foldl normStep [])) t) := by
  unfold Ctr Sur PR; dsimp only [CbRet]
  k_fill
  intros
  rename_i hret
  refine wpAny_call ?_
  k_dflt (refine' enter_plain0 ?k1 ?k2 ?k3 ?k4 ?k5 ?kA ?kF ?kK ?k6 ?k7 ?k8 ?k9 ?kB ?_ ?c2 ?c3 ?c4 ?c5; (case kA => exact rfl); (case kF => exact rfl); (case kK => assumption); (case k1 => k_asm); (case k2 => k_asm); (case k3 => k_asm); (case k4 => k_asm); (case k5 => k_asm); (case k6 => k_is); (case k7 => k_is); (case k8 => ktr_room); (case k9 => first | exact BindsTo.of_eq (binds := [(_, _)]) rfl | exact BindsTo.of_eq (binds := [(_, _), (_, _)]) rfl | exact BindsTo.of_eq (binds := [(_, _), (_, _), (_, _)]) rfl); (case c5 => decide); (case kB => exact locs rfl); (case c2 => exact rfl); (case c3 => exact rfl); (case c4 => exact rfl); k_whole; intro g' L' h' FG' F' N' B' X' T' hG' GZ DZ tkZ OZ QZ hQZ; (try dsimp only); (try k_lift B'))
  k_steps

  · rename_i l h3 k e1 e2 e3 e4 h2 l' h1 l1 hh0 lN; have lF := lF'
    have hw : wt (l.map (·.1)) ≤ 5000 := by rw [e1]; have := wt_split (Txt.slice x (some 1) none); have := PyProof.Txt.length_slice_le x (some 1) none; (first | lia | omega)
    refine loop_fill (x := PySem.Str.ofString "comp") (vs := strValues l) (ds := strValues []) (NormP l) rfl lF lN (by k_mem) rfl rfl ?_ ?_ ?_
    · exact ⟨l, [], rfl, rfl, rfl, fun _ h => (by cases h), by rw [List.map_nil, wt_nil]; (first | lia | omega)⟩
    · rintro I o v r cs nn u h tk ⟨rl, dl, hr, rfl, hf, hd, hl⟩ ho lI F N
      cases rl with
      | nil => exact absurd hr (by intro h; cases h)
      | cons c rl =>
        obtain ⟨c, tc⟩ := c
        cases hr
        have hc2 : c.length ≤ 5000 := by have q := hl; rw [List.map_cons, wt_cons] at q; dsimp only at q; (first | lia | omega)
        k_lt lI
        try dsimp only
        try k_fold
        rcases List.eq_nil_or_concat dl with rfl | ⟨di, ⟨de, dt⟩, rfl⟩
        · have hdl : ([] : List (PySem.Str × Tok)).length ≤ 5000 := by decide
          k_steps
          all_goals (show TurnEnd _ _ _ _ _ _)
          all_goals (refine TurnEnd.tail (by k_asm) (by k_asm) (by ktu_offL) ?_; refine ⟨_, _, _, over_over _ _ _ _, rfl, ?_⟩)
          · exact normP_next hf hl (by first | exact norm_skip0 (by with_reducible assumption) | exact norm_skip1 (by with_reducible assumption)) hd (by (first | lia | omega))
          · have ho := norm_other (acc := ([] : List (PySem.Str × Tok)).map (·.1)) (by with_reducible assumption) (by with_reducible assumption) (by with_reducible assumption)
            exact normP_next hf hl (ho.1.trans (List.map_append (f := fun p : PySem.Str × Tok => p.1) (l₁ := ([] : List (PySem.Str × Tok))) (l₂ := [(c, tc)])).symm) (by intro a ha; rw [List.map_append] at ha; rcases List.mem_append.mp ha with ha | ha; exact hd _ ha; rw [List.mem_singleton.mp ha]; exact ho.2) (by rw [List.map_append, wt_append]; exact Nat.le_refl _)
          · exact normP_next hf hl (by rw [norm_up (by with_reducible assumption) (by with_reducible assumption) (by with_reducible assumption)]; rfl) hd (by (first | lia | omega))
          · exact normP_next hf hl (by first | exact norm_skip0 (by with_reducible assumption) | exact norm_skip1 (by with_reducible assumption)) hd (by (first | lia | omega))
        · rw [List.concat_eq_append] at *
          have hdi : (di ++ [(de, dt)]).length ≤ 5000 := by have := wt_len ((di ++ [(de, dt)]).map (·.1)); rw [List.length_map] at this; (first | lia | omega)
          have hdi2 : di.length ≤ 5000 := by rw [List.length_append] at hdi; (first | lia | omega)
          have hde : de.length ≤ 5000 := by have := wt_mem (c := de) (l := (di ++ [(de, dt)]).map (·.1)) (by simp); (first | lia | omega)
          have hne : (de == PySem.Str.ofString "..") = false := by simpa using hd de (by simp)
          k_steps
          all_goals (show TurnEnd _ _ _ _ _ _)
          all_goals (refine TurnEnd.tail (by k_asm) (by k_asm) (by ktu_offL) ?_; refine ⟨_, _, _, over_over _ _ _ _, rfl, ?_⟩)
          · exact normP_next hf hl (by first | exact norm_skip0 (by with_reducible assumption) | exact norm_skip1 (by with_reducible assumption)) hd (by (first | lia | omega))
          · have ho := norm_other (acc := (di ++ [(de, dt)]).map (·.1)) (by with_reducible assumption) (by with_reducible assumption) (by with_reducible assumption)
            exact normP_next hf hl (ho.1.trans (List.map_append (f := fun p : PySem.Str × Tok => p.1) (l₁ := (di ++ [(de, dt)])) (l₂ := [(c, tc)])).symm) (by intro a ha; rw [List.map_append] at ha; rcases List.mem_append.mp ha with ha | ha; exact hd _ ha; rw [List.mem_singleton.mp ha]; exact ho.2) (by rw [List.map_append, wt_append]; exact Nat.le_refl _)
          · exact normP_next hf hl (by rw [norm_up (by with_reducible assumption) (by with_reducible assumption) (by with_reducible assumption)]; simp) (fun a ha => hd a (by rw [List.map_append]; exact List.mem_append_left _ ha)) (by rw [List.map_append, wt_append]; (first | lia | omega))
          · exact normP_next hf hl (by first | exact norm_skip0 (by with_reducible assumption) | exact norm_skip1 (by with_reducible assumption)) hd (by (first | lia | omega))
    · rintro cs nn u h tk ⟨rl, dl, hr, rfl, hf, hd, hl⟩ F N
      have e0 : rl = [] := by cases rl with | nil => rfl | cons a b => cases hr
      subst e0
      have hdl : wt (dl.map (·.1)) ≤ 5000 := by (first | lia | omega)
      have hj : (Txt.join (PySem.Str.ofString "/") (dl.map (·.1))).length ≤ 10000 := by
        have h1 := StrLaws.join_length_le (PySem.Str.ofString "/") (dl.map (·.1))
        have h2 : (PySem.Str.ofString "/").length = 1 := by decide
        unfold wt at hdl
        rw [show Txt.join (PySem.Str.ofString "/") (dl.map (·.1)) = Str.join (PySem.Str.ofString "/") (dl.map (·.1)) from StrLaws.glued_eq_join _ _]
        rw [h2] at h1
        (first | lia | omega)
      try dsimp only
      try k_fold
      k_steps
      all_goals ((try dsimp only); refine cb_retS hret (by rw [← e1, ← hf]; rfl) (by k_asm) (by k_asm))
  · exact absurd (by assumption) h0
end Mine
end

open PySem.W in
theorem Mine.offNest : True := by
  k_with_none
  w_top off
  exact trivial

section
open PySem PySem.W PySem.Spec PySem.Calls PyProof.Rows
namespace Mine

section
variable {prog : Program} {w : World} {A A₀ : Around} {s : Shared} {K : Frag} {L : Addr} {h₀ base : Heap} {m mg mb : PySem.Str → Option Value} {part rest : List (Addr × Obj)} {p : Program} {loose : List PySem.Str} {mean : ExcName → Option Value}
theorem enter_nest {env : Env} {outer : List Env} {R : Result → Shared → Prop} {name qual : PySem.Str} {params : Arguments} {body : List Stmt} {scope : Scope} {cl : List (PySem.Str × Addr)} {doc pm ctv : Value} {c' : Addr} {f : Addr} {args : Args} {binds : List (PySem.Str × Value)}
    (B : Below A₀ base outer h₀) (F : Fr h₀ L s.heap m) (X₀ : K.In h₀) (N : News h₀ L s.heap (part ++ rest)) (hne : ∀ q ∈ rest, q.1 ∉ part.map (·.1)) (T : Top p loose mean mg mb h₀) (hA : A.frames = some (env :: outer)) (hf : env.frame = some L) (hke : env.scope.kind = .function)
    (ho : (f, fnMade name qual params body scope cl doc pm c' ctv) ∈ part) (hcd : s.heap.CodeRec (.ref c') qual) (hroom : A.depth < recursionLimit)
    (hbind : BindsTo s (fnX name qual params body scope cl .none .none doc pm none (.ref c') ctv) args binds) (hloc : ∀ y ∈ binds, scope.names.lookup y.1 = some .local)
    (h : ∀ g L' h₁, Fr h₀ L g m → Fr g L' h₁ (fun y => binds.reverse.lookup y) → News g L' h₁ part → Below A base (env :: outer) g → K.In g → Top p loose mean mg mb g → (∀ q ∈ part, q.1 < L') → (∀ q ∈ rest, g.get? q.1 = some q.2) →
      ∀ (GG : Array GenState) (DD : Drawn) (tk : Nat) (OO : OsState) (Q' : Flow → Shared → Prop), PostIn (fun fl s' => LeaveK h₀ L m g (AndRest h₀ L rest R) (match fl with | .ret v => v | _ => .none) s') s GG DD OO Q' →
        wpAny (model prog w) (A.deeper (envX qual scope L' f (.ref c') cl)) (execs body (envX qual scope L' f (.ref c') cl)) Q' (fun _ _ => False) ⟨h₁, GG, DD, tk, OO⟩)
    (hco : scope.isCoroutine = false) (hgen : scope.isGenerator = false) (hk : scope.kind = .function)
    (hcell : ∀ x ∈ scope.names, x.2 ≠ .cell) : codeAny (model prog w) A (.call (.ref f) args) R s := by
  have NP := News.left N
  obtain ⟨FG, BG, st, lv⟩ := groundX (R := AndRest h₀ L rest R) B F NP hA hf hke
  refine codeAny_call_def (fd := fnX name qual params body scope cl .none .none doc pm none (.ref c') ctv) (body := body) (binds := binds) hroom (NP _ ho).1 rfl (T.nolimit.keeps F.keep) hcd rfl hbind hcell hloc (fun h₁ hns hk₁ => ?_) hco hgen hk
  exact wpAny_mono (wpAny_noRaise (h _ s.heap.objs.size h₁ FG ⟨hns, fun b o e => hk₁ b o (of_hideAll _ e), Nat.le_of_eq (hideAll_size _ _)⟩
    (fun p hp => ⟨hk₁ _ _ (NP p hp).1, Nat.ne_of_lt (Heap.lt_size (NP p hp).1), hideAll_none _ (List.mem_map_of_mem hp)⟩) BG (X₀.keeps st) (T.keeps st) (fun p hp => Heap.lt_size (NP p hp).1) (rest_in N hne) _ _ _ _ _ PostIn.self)) (fun fl s' hl => leaveRest (News.right N) (rest_in N hne) lv hl) fun _ _ y => y
end
def CodeIs (q : PySem.Str) (oc : Obj) : Prop := ∃ vs t, oc.data = .fields vs ∧ vs[1]? = some (.str q t)
theorem updF_end {P : Addr} {o : Obj} : ∀ {X : List (Addr × Obj)}, (∀ q ∈ X, q.1 ≠ P) → UpdF P o (X ++ [(P, o)]) (fun o' => X ++ [(P, o')])
  | [], _ => .head (fun _ h => nomatch h)
  | _ :: _, h => .tail (h _ (.head _)) (updF_end fun q hq => h q (.tail _ hq))
section
variable {M : Model} {A : Around} {E : Value → Shared → Prop} {s : Shared} {h₀ : Heap} {L a c P : Addr} {m mg mb : PySem.Str → Option Value} {cn : PySem.Str} {cs : Scope} {ccd : Value} {cl : List (PySem.Str × Addr)} {p : Program} {loose : List PySem.Str} {mean : ExcName → Option Value} {name qual : PySem.Str} {params : Arguments} {body : List Stmt} {scope : Scope} {pos : Pos} {firstLine : Nat} {clos : List (PySem.Str × Addr)}
/-- an inner def, its code made now or found in the table -/
theorem nest_any {Q : Value → Shared → Prop} (X : List (Addr × Obj)) {T : List (Addr × Obj)} {b : Addr} (F : Fr h₀ L s.heap m) (N : News h₀ L s.heap (X ++ T)) (Tp : Top p loose mean mg mb h₀) (C : CodeHd h₀ c P) (hcd : ccd = .ref c)
    (hT : T = [(P, tabObj #[])] ∨ ∃ c' oc, T = [(P, tabObj (#[] ++ #[rawInt pos.line, rawInt pos.col, .ref c'])), (c', oc)] ∧ CodeIs qual oc ∧ c' ≠ P)
    (hb : ∀ q ∈ T, q.1 < b) (hX : ∀ q ∈ X, @LE.le Nat _ b q.1) (hcl : closureFor scope (envX cn cs L a ccd cl) = pure clos)
    (h : ∀ f c' oc vs t ctv doc h' tk, Fr h₀ L h' m →
      News h₀ L h' ((f, fnMade name qual params body scope clos doc ((mg "__name__").getD .none) c' ctv) :: (c', oc) :: (X ++ [(P, tabObj (#[] ++ #[rawInt pos.line, rawInt pos.col, .ref c']))])) →
      oc.data = .fields vs → vs[1]? = some (.str qual t) → (∀ q ∈ X, q.1 ≠ c') → (∀ q ∈ X, q.1 < f) → @Ne Nat c' P → @LT.lt Nat _ c' f → Q (.ref f) { s with heap := h', toks := tk }) :
    wpAny M A (makeFunction name qual params (.stmts body) scope (envX cn cs L a ccd cl) [] [] [] pos firstLine) Q E s := by
  have hne : ∀ {r : Addr}, r < b → ∀ q ∈ X, q.1 ≠ r := fun hr q hq e => absurd (hX q hq) (by rw [e]; exact Nat.not_le_of_lt hr)
  rcases hT with rfl | ⟨c₁, oc, rfl, ⟨vs, t, e1, e2⟩, hc⟩
  · refine nest_K F N Tp C hcd (updF_end (hne (hb _ (.head _)))) trivial rfl hcl fun f c' oc vs t ctv doc h' tk F' N' d1 d2 l1 l2 => ?_
    have l3 : ∀ q ∈ X, q.1 < c' := fun q hq => l1 q (List.mem_append_left _ hq)
    exact h f c' oc vs t ctv doc h' tk F' N' d1 d2 (fun q hq => Nat.ne_of_lt (l3 q hq)) (fun q hq => Nat.lt_trans (l3 q hq) l2) (Nat.ne_of_gt (l1 _ (List.mem_append_right _ (.head _)))) l2
  · refine nestHit_K (c' := c₁) F N Tp C hcd (List.mem_append_right _ (.head _)) (by simp [TriplesOk, rawInt]) (by simp [codeAmong, rawInt]) hcl fun f ctv doc h' tk F' N' l1 => ?_
    refine h f c₁ oc vs t ctv doc h' tk F' (fun q hq => N' q ?_) e1 e2 (hne (hb _ (.tail _ (.head _)))) (fun q hq => l1 q (List.mem_append_left _ hq)) hc (l1 _ (List.mem_append_right _ (.tail _ (.head _))))
    simp only [List.mem_cons, List.mem_append, List.not_mem_nil, or_false] at hq ⊢
    rcases hq with h | h | h | h <;> simp [h]
end
theorem tail_ne {T : List (Addr × Obj)} {b d : Nat} (h : ∀ q ∈ T, @LT.lt Addr _ q.1 b) (e : b ≤ d) : ∀ p ∈ T, p.1 ≠ d := fun p hp => Nat.ne_of_lt (Nat.lt_of_lt_of_le (h p hp) e)
end Mine
end

open PySem.W in
theorem Mine.offDigs : True := by
  k_with_none
  w_top off
  exact trivial

section
open PySem PySem.W PySem.Spec PySem.Calls PyProof.Rows
namespace Mine

/-- j digits of x to the base B, the lowest first -/
def digs (B : Nat) : Nat → Nat → List Int
  | 0, _ => []
  | j + 1, x => ((x % B : Nat) : Int) :: digs B j (x / B)
/-- a run of cells is overwritten -/
def putAt (ns : List Int) (l : Nat) (ds : List Int) : List Int := ns.take l ++ ds ++ ns.drop (l + ds.length)
theorem digs_len (B : Nat) : ∀ j x, (digs B j x).length = j
  | 0, _ => rfl
  | j + 1, x => by rw [digs, List.length_cons, digs_len B j]
theorem digs_split (B : Nat) : ∀ (i j x : Nat), digs B (i + j) x = digs B i (x % B ^ i) ++ digs B j (x / B ^ i)
  | 0, j, x => by simp [digs]
  | i + 1, j, x => by
    rw [show i + 1 + j = (i + j) + 1 from by (first | lia | omega)]
    rw [digs, digs, digs_split B i j, List.cons_append]
    have e1 : x % B ^ (i + 1) % B = x % B := by
      rw [Nat.pow_succ, Nat.mul_comm, Nat.mod_mul_right_mod]
    have e2 : x % B ^ (i + 1) / B = x / B % B ^ i := by
      rw [Nat.pow_succ, Nat.mul_comm, Nat.mod_mul_right_div_self]
    have e3 : x / B / B ^ i = x / B ^ (i + 1) := by
      rw [Nat.div_div_eq_div_mul, Nat.pow_succ, Nat.mul_comm]
    rw [e1, e2, e3]
theorem putAt_len {ns : List Int} {l : Nat} {ds : List Int} (h : l + ds.length ≤ ns.length) : (putAt ns l ds).length = ns.length := by
  unfold putAt
  simp only [List.length_append, List.length_take, List.length_drop]
  (first | lia | omega)
theorem putAt_putAt {ns : List Int} {l : Nat} {ds es : List Int} (h : l + ds.length + es.length ≤ ns.length) : putAt (putAt ns l ds) (l + ds.length) es = putAt ns l (ds ++ es) := by
  unfold putAt
  have h1 : (ns.take l ++ ds).length = l + ds.length := by rw [List.length_append, List.length_take]; (first | lia | omega)
  have e1 : (ns.take l ++ ds ++ ns.drop (l + ds.length)).take (l + ds.length) = ns.take l ++ ds := by
    rw [← h1, List.take_left']
    rw [h1]
  have e2 : (ns.take l ++ ds ++ ns.drop (l + ds.length)).drop (l + ds.length + es.length) = ns.drop (l + ds.length + es.length) := by
    rw [← h1, List.drop_append, h1]
    have : List.drop (l + ds.length + es.length) (List.take l ns ++ ds) = [] := List.drop_eq_nil_of_le (by rw [h1]; (first | lia | omega))
    rw [this, List.nil_append, List.drop_drop]
    congr 1
    (first | lia | omega)
  rw [e1, e2, List.length_append]
  simp only [List.append_assoc, Nat.add_assoc]
theorem putAt_one {ns : List Int} {l : Nat} {v : Int} (h : l < ns.length) : ns.set l v = putAt ns l [v] := by
  unfold putAt
  rw [List.set_eq_take_append_cons_drop, if_pos h]
  simp
theorem putAt_all {ns ds : List Int} (h : ds.length = ns.length) : putAt ns 0 ds = ds := by
  unfold putAt
  simp [h]
theorem pow_two (k i : Nat) : (2 ^ k) ^ i = 2 ^ (i * k) := by rw [← Nat.pow_mul, Nat.mul_comm]
section
variable {l i k x : Nat} {M : Int}
theorem sh_is (hm : M = ((l + i : Nat) : Int)) : (M - (l : Int)) * (k : Int) = ((i * k : Nat) : Int) := by
  subst hm
  rw [Int.natCast_add, Int.natCast_mul]
  congr 1
  (first | lia | omega)
theorem sh_ok (hm : M = ((l + i : Nat) : Int)) (hi : i ≤ 64) (hk : k < 8) : 0 ≤ (M - (l : Int)) * (k : Int) ∧ (M - (l : Int)) * (k : Int) ≤ 1000000 := by
  rw [sh_is hm]
  have : i * k ≤ 64 * 8 := Nat.mul_le_mul hi (Nat.le_of_lt hk)
  (first | lia | omega)
theorem up_is (hm : M = ((l + i : Nat) : Int)) : (x : Int).fdiv (2 ^ ((M - (l : Int)) * (k : Int)).toNat) = ((x / (2 ^ k) ^ i : Nat) : Int) := by
  rw [sh_is hm, pow_two, Int.toNat_natCast]
  rw [show ((2 : Int) ^ (i * k)) = ((2 ^ (i * k) : Nat) : Int) from by simp]
  rw [Int.fdiv_eq_ediv_of_nonneg _ (Int.natCast_nonneg _)]
  rfl
theorem up_ok (hm : M = ((l + i : Nat) : Int)) (hx : x < 18446744073709551616) : ((x : Int).fdiv (2 ^ ((M - (l : Int)) * (k : Int)).toNat)).natAbs < 2 ^ 64 := by
  rw [up_is hm, Int.natAbs_natCast]
  have := Nat.div_le_self x ((2 ^ k) ^ i)
  (first | lia | omega)
theorem low_is (hm : M = ((l + i : Nat) : Int)) : Builtin.bitXor (x : Int) ((x : Int).fdiv (2 ^ ((M - (l : Int)) * (k : Int)).toNat) * 2 ^ ((M - (l : Int)) * (k : Int)).toNat) = ((x % (2 ^ k) ^ i : Nat) : Int) := by
  rw [up_is hm, sh_is hm, Int.toNat_natCast]
  rw [show ((2 : Int) ^ (i * k)) = ((2 ^ (i * k) : Nat) : Int) from by simp, ← Int.natCast_mul, pow_two]
  rw [bitXor_and, bitAnd_pp (Int.natCast_nonneg _) (Int.natCast_nonneg _), Int.toNat_natCast, Int.toNat_natCast]
  have e : x &&& (x / 2 ^ (i * k) * 2 ^ (i * k)) = x / 2 ^ (i * k) * 2 ^ (i * k) := by
    apply Nat.eq_of_testBit_eq
    intro b
    rw [Nat.testBit_and, Nat.mul_comm, Nat.testBit_two_pow_mul, Nat.testBit_div_two_pow]
    by_cases h : i * k ≤ b
    · simp [h, Nat.sub_add_cancel h, Nat.add_sub_cancel' h]
    · simp [h]
  rw [e]
  have h := Nat.div_add_mod x (2 ^ (i * k))
  rw [Nat.mul_comm] at h
  (first | lia | omega)
end
theorem mid_is (l j : Nat) : ((l : Int) + ((l + j : Nat) : Int)).fdiv (2 ^ Int.toNat 1) = ((l + j / 2 : Nat) : Int) := by
  rw [Int.fdiv_eq_ediv_of_nonneg _ (by decide)]
  have : (2 : Int) ^ Int.toNat 1 = 2 := by decide
  rw [this]
  (first | lia | omega)
end Mine
end

open PySem.W in
theorem Mine.offI2D : True := by
  k_with_none
  w_top off
  exact trivial

section
open PySem PySem.W PySem.Spec PySem.Calls PyProof.Rows
namespace Mine
theorem zeros_mul {prog : Program} {w : World} {A : Around} {E : Value → Shared → Prop} {s : Shared} {h₀ : Heap} {L l : Addr} {m : PySem.Str → Option Value} {news : List (Addr × Obj)} {n D : Nat} {t u : Tok} {x : Int} {Q : Value → Shared → Prop}
    (F : Fr h₀ L s.heap m) (N : News h₀ L s.heap news) (hl : (l, listOf [.int 0 t].toArray n) ∈ news) (e : x = (D : Int)) (hD : D ≤ 1000)
    (h : ∀ h' a vs, Fr h₀ L h' m → News h₀ L h' ((a, listOf vs.toArray 0) :: news) → IntsAre vs (List.replicate D (0 : Int)) → (∀ p ∈ news, p.1 < a) → Q (.ref a) { s with heap := h' }) :
    wpAny (model prog w) A (binaryOp .Mult (.ref l) (.int x u)) Q E s := by
  subst e
  refine mul_list (items := [Value.int 0 t].toArray) F N (N _ hl).1 (by omega) (by omega) (by simp; omega) fun h' F' N' => ?_
  have e1 : (if ([Value.int 0 t].toArray).isEmpty = true then 0 else ((D : Int)).toNat) = D := by simp
  rw [e1] at N'
  have e2 : ∀ (k : Nat) (acc : Array Value), List.foldl (fun x1 x2 => x1 ++ x2) acc (List.replicate k [Value.int 0 t].toArray) = acc ++ (List.replicate k (Value.int 0 t)).toArray := by
    intro k
    induction k with
    | zero => intro acc; simp
    | succ k ih =>
      intro acc
      rw [List.replicate_succ, List.foldl_cons, ih, List.replicate_succ, Array.append_assoc]
      congr 1
      first | rfl | (rw [List.append_toArray]; rfl) | (apply Array.ext'; simp)
  rw [e2] at N'
  refine h h' s.heap.objs.size (List.replicate D (Value.int 0 t)) F' (by simpa using N') ?_ fun p hp => Heap.lt_size (N p hp).1
  clear e1 e2 N' hD h
  induction D with
  | zero => exact .nil
  | succ k ih => rw [List.replicate_succ, List.replicate_succ]; exact .cons 0 t (ih)

abbrev partOf (e1 e2 : Addr × Obj) (D : Addr) (e4 e5 e6 e7 e8 : Addr × Obj) (vs : List Value) (nn : Nat) : List (Addr × Obj) := [e1, e2, (D, listOf vs.toArray nn), e4, e5, e6, e7, e8]
abbrev CallI (w : World) (mean : ExcName → Option Value) (mg mb : PySem.Str → Option Value) (f : Addr) (part : List Value → Nat → List (Addr × Obj)) (B len j : Nat) : Prop :=
  ∀ (x l : Nat) (X Lo Hi : Int) (t1 t2 t3 : Tok) (vs : List Value) (nn : Nat) (ns : List Int), X = (x : Int) → Lo = (l : Int) → Hi = ((l + j : Nat) : Int) → IntsAre vs ns → ns.length = len → l + j ≤ len → 0 < j → x < B ^ j → x < 18446744073709551616 →
  ∀ (dp un : Nat) (gd : Option (List Code)) (cn : PySem.Str) (cs : Scope) (a : Addr) (ccd : Value) (cl : List (PySem.Str × Addr)) (outer : List Env) (A₀ : Around) (base h₀ : Heap) (L : Addr) (m : PySem.Str → Option Value) (rest : List (Addr × Obj)) (s : Shared) (Q E : Value → Shared → Prop),
    Below A₀ base outer h₀ → Fr h₀ L s.heap m → (hd.heap_1 w.params).In h₀ → News h₀ L s.heap (part vs nn ++ rest) → (∀ q ∈ rest, q.1 ∉ (part vs nn).map (·.1)) → Top topProg LO mean mg mb h₀ → cs.kind = .function →
    dp + (j + 2) < recursionLimit → un + 8 * (j + 2) < cLine →
    (∀ (h' : Heap) (tk' : Nat) (vs' : List Value) (nn' : Nat), Fr h₀ L h' m → News h₀ L h' (part vs' nn' ++ rest) → IntsAre vs' (putAt ns l (digs B j x)) → Q .none { s with heap := h', toks := tk' }) →
      wpAny (model PR w) (ktrTop dp un gd cn cs L a ccd cl outer) (call (.ref f) [.int X t1, .int Lo t2, .int Hi t3]) Q E s
theorem callI_rec {w : World} {mean : ExcName → Option Value} {mg mb : PySem.Str → Option Value} {f D : Addr} {oF : Obj} {e2 e4 e5 e6 e7 e8 : Addr × Obj} {vs0 : List Value} {n0 : Nat} {g h : Heap} {L : Addr} (_N : News g L h [(f, oF), e2, (D, listOf vs0.toArray n0), e4, e5, e6, e7, e8]) (B len : Nat)
    (step : ∀ j, (∀ i, i < j → CallI w mean mg mb f (partOf (f, oF) e2 D e4 e5 e6 e7 e8) B len i) → CallI w mean mg mb f (partOf (f, oF) e2 D e4 e5 e6 e7 e8) B len j) : ∀ j, CallI w mean mg mb f (partOf (f, oF) e2 D e4 e5 e6 e7 e8) B len j :=
  fun j => Nat.strongRecOn j step
theorem callI_use {w : World} {mean : ExcName → Option Value} {mg mb : PySem.Str → Option Value} {f : Addr} {part : List Value → Nat → List (Addr × Obj)} {B len j i : Nat} (ih : ∀ i, i < j → CallI w mean mg mb f part B len i) (hij : i < j) {x l : Nat} {X Lo Hi : Int} {t1 t2 t3 : Tok} {vs : List Value} {nn : Nat} {ns : List Int} (eX : X = (x : Int)) (eL : Lo = (l : Int)) (eH : Hi = ((l + i : Nat) : Int)) (hi : IntsAre vs ns) (hlen : ns.length = len) (hl : l + i ≤ len) (h0 : 0 < i) (hx : x < B ^ i) (hx2 : x < 18446744073709551616)
    {dp un : Nat} {gd : Option (List Code)} {cn : PySem.Str} {cs : Scope} {a : Addr} {ccd : Value} {cl : List (PySem.Str × Addr)} {outer : List Env} {A₀ : Around} {base h₀ : Heap} {L : Addr} {m : PySem.Str → Option Value} {s : Shared} {Q E : Value → Shared → Prop}
    (h1 : Below A₀ base outer h₀) (h2 : Fr h₀ L s.heap m) (h3 : (hd.heap_1 w.params).In h₀) (h4 : News h₀ L s.heap (part vs nn)) (h5 : Top topProg LO mean mg mb h₀) (h6 : cs.kind = .function)
    (h7 : dp + (i + 2) < recursionLimit) (h8 : un + 8 * (i + 2) < cLine)
    (h : ∀ (h' : Heap) (tk' : Nat) (vs' : List Value) (nn' : Nat), Fr h₀ L h' m → News h₀ L h' (part vs' nn') → IntsAre vs' (putAt ns l (digs B i x)) → Q .none { s with heap := h', toks := tk' }) :
      wpAny (model PR w) (ktrTop dp un gd cn cs L a ccd cl outer) (call (.ref f) [.int X t1, .int Lo t2, .int Hi t3]) Q E s :=
  ih i hij x l X Lo Hi t1 t2 t3 vs nn ns eX eL eH hi hlen hl h0 hx hx2 dp un gd cn cs a ccd cl outer A₀ base h₀ L m [] s Q E h1 h2 h3 (by rw [List.append_nil]; exact h4) (fun _ hq => nomatch hq) h5 h6 h7 h8 fun h' tk' vs' nn' a b c => h h' tk' vs' nn' a (by rw [List.append_nil] at b; exact b) c
theorem len_news {prog : Program} {w : World} {A : Around} {E : Value → Shared → Prop} {s : Shared} {h₀ : Heap} {L d : Addr} {news : List (Addr × Obj)} {n : Nat} {vs : List Value} {ns : List Int} {Q : Value → Shared → Prop} (N : News h₀ L s.heap news) (hm : (d, listOf vs.toArray n) ∈ news) (hi : IntsAre vs ns) (hz : ns.length ≤ 16777000)
    (h : Q (.int (ns.length : Int) (s.toks + 1)) { s with toks := s.toks + 1 + 1 }) : wpAny (model prog w) A (call (.builtin "len") [.ref d]) Q E s := by
  have e : (vs.toArray.size : Int) = ns.length := by simp [hi.length]
  refine len_list (list_in N hm) (by rw [e]; omega) ?_
  rw [e]; exact h

noncomputable abbrev QA : PySem.Str := PySem.Str.ofString "_int2digits" ++ PySem.Str.ofString ".<locals>." ++ PySem.Str.ofString "inner"
abbrev tabA (c : Addr) : Obj := tabObj (#[] ++ #[rawInt 206, rawInt 4, .ref c])
/-- the code table of _int2digits, before its first call or behind it -/
def OkA (T : List (Addr × Obj)) : Prop := T = [(171, tabObj #[])] ∨ ∃ c oc, T = [(171, tabA c), (c, oc)] ∧ CodeIs QA oc ∧ c ≠ 171
theorem OkA.lt {T : List (Addr × Obj)} {b : Nat} (h : OkA T) (l : ∀ q ∈ T, @LT.lt Addr _ q.1 b) : @LT.lt Nat _ 171 b := by
  rcases h with rfl | ⟨c, oc, rfl, _⟩ <;> exact l _ (.head _)
/-- no address of the one stands in the other -/
def Dj (T news : List (Addr × Obj)) : Prop := ∀ p ∈ T, ∀ q ∈ news, p.1 ≠ q.1
abbrev CtrA (w : World) (mean : ExcName → Option Value) (mg mb : PySem.Str → Option Value) (T : List (Addr × Obj)) (vs : List Value) (c : Nat) (ds : List Int) : Prop :=
  ∀ (dp un : Nat) (gd : Option (List Code)) (cn : PySem.Str) (cs : Scope) (a : Addr) (ccd : Value) (cl : List (PySem.Str × Addr)) (outer : List Env) (A₀ : Around) (base h₀ : Heap) (L : Addr) (m : PySem.Str → Option Value) (news : List (Addr × Obj)) (s : Shared) (Q E : Value → Shared → Prop),
    Below A₀ base outer h₀ → Fr h₀ L s.heap m → (hd.heap_1 w.params).In h₀ → News h₀ L s.heap (T ++ news) → Dj T news → CodeHd h₀ 175 171 → Top topProg LO mean mg mb h₀ → cs.kind = .function →
    dp + c < recursionLimit → un + 8 * c < cLine →
    (∀ (a : Addr) (vs' : List Value) (nn' : Nat) (T' : List (Addr × Obj)) (h' : Heap) (tk' : Nat), OkA T' → Fr h₀ L h' m → News h₀ L h' ((a, listOf vs'.toArray nn') :: (T' ++ news)) → IntsAre vs' ds → Dj T' news → (∀ p ∈ T' ++ news, p.1 ≠ a) → Q (.ref a) { s with heap := h', toks := tk' }) →
      wpAny (model PR w) (ktrTop dp un gd cn cs L a ccd cl outer) (call (.ref 176) vs) Q E s
theorem retA {Q : Value → Shared → Prop} {h₀ g : Heap} {L L' : Addr} {m : PySem.Str → Option Value} {news : List (Addr × Obj)} {s : Shared} {D c : Addr} {oc : Obj} {vs' : List Value} {nn' : Nat} {h' : Heap} {tk' : Nat} {ds : List Int}
    (hret : ∀ (a : Addr) (vs' : List Value) (nn' : Nat) (T' : List (Addr × Obj)) (h' : Heap) (tk' : Nat), OkA T' → Fr h₀ L h' m → News h₀ L h' ((a, listOf vs'.toArray nn') :: (T' ++ news)) → IntsAre vs' ds → Dj T' news → (∀ p ∈ T' ++ news, p.1 ≠ a) → Q (.ref a) { s with heap := h', toks := tk' })
    (hG : ∀ q ∈ news, g.get? q.1 = some q.2) {own : List (Addr × Obj)} (N' : News g L' h' own) (F : Fr h₀ L h' m) (N : News h₀ L h' own) (R : News h₀ L h' news) (hi : IntsAre vs' ds) (m1 : (D, listOf vs'.toArray nn') ∈ own) (m2 : (171, tabA c) ∈ own) (m3 : (c, oc) ∈ own) (hc : CodeIs QA oc) (d1 : c ≠ 171) (d2 : c ≠ D) : Q (.ref D) { s with heap := h', toks := tk' } := by
  have off : ∀ p ∈ own, ∀ q ∈ news, p.1 ≠ q.1 := fun p hp q hq e => by
    have := (N' p hp).2.2
    rw [e, hG q hq] at this
    cases this
  refine hret D vs' nn' [(171, tabA c), (c, oc)] h' tk' (.inr ⟨c, oc, rfl, hc, d1⟩) F (fun p hp => ?_) hi (fun p hp q hq => ?_) (fun p hp => ?_)
  · rcases List.mem_cons.mp hp with rfl | hp
    · exact N _ m1
    · rcases List.mem_append.mp hp with hp | hp
      · rcases List.mem_cons.mp hp with rfl | hp
        · exact N _ m2
        · rw [List.mem_singleton.mp hp]; exact N _ m3
      · exact R _ hp
  · rcases List.mem_cons.mp hp with rfl | hp
    · exact off _ m2 q hq
    · rw [List.mem_singleton.mp hp]; exact off _ m3 q hq
  · rcases List.mem_append.mp hp with hp | hp
    · rcases List.mem_cons.mp hp with rfl | hp
      · intro e
        have h1 := (N _ m2).1
        have h2 := (N _ m1).1
        have e' : (171, tabA c).1 = D := e
        rw [show (171, tabA c).1 = (D, listOf vs'.toArray nn').1 from e', h2] at h1
        cases h1
      · rw [List.mem_singleton.mp hp]; exact d2
    · exact fun e => off _ m1 p hp e.symm
theorem dj_ne {T news : List (Addr × Obj)} (h : Dj T news) : ∀ q ∈ news, q.1 ∉ T.map (·.1) := fun q hq hm => by
  obtain ⟨p, hp, e⟩ := List.mem_map.mp hm
  exact h p hp q hq e
local macro_rules | `(tactic| k_all) => `(tactic| exact tail_ne (by with_reducible assumption) (by omega))
theorem ruli2d1 : True := by
  k_with "binaryOp Mult ref int" => (k_here; (with_reducible show wpAny _ _ (binaryOp Operator.Mult (Value.ref _) (Value.int _ _)) _ _ _); k_dflt (refine zeros_mul (by k_asm) (by k_asm) (by k_mem) (by assumption) (by omega) ?_); intro h' l' vs' F' N' i' l1; (try k_lt l1); (try (revert h' l' vs' F' N' i' l1; intros)))
  k_with "binaryOp LShift int int" => (k_here; (with_reducible show wpAny _ _ (binaryOp Operator.LShift (Value.int _ _) (Value.int _ _)) _ _ _); (refine lshift_int_small ?_ ?_ ?_ ?_; exact (And.left (by assumption)); exact (And.right (by assumption)); assumption))
  k_with "exec FunctionDef" => (k_here; k_dflt (refine' nestDef_K ?d0zz ?k0zz ?a0zz ?_; (case d0zz => exact rfl); (case k0zz => exact rfl); (case a0zz => exact rfl)); k_dflt (refine' nest_any [_, _, _, _, _] (c := 175) (P := 171) ?Fzz ?Nzz ?Tzz ?Czz ?cdzz hTA ?bzz ?Xzz ?clzz ?_; (case Fzz => k_asm); (case Nzz => k_asm); (case Tzz => k_asm); (case cdzz => exact rfl); (case Czz => assumption); (case bzz => assumption); (case clzz => exact rfl); (case Xzz => (intro q hq; simp only [List.mem_cons, List.not_mem_nil, or_false] at hq; rcases hq with rfl | rfl | rfl | rfl | rfl <;> (dsimp only; omega))); k_whole); intro f' c' oc' vs' t' ct' dc' h' tk' F' N' d1' d2' x1 l1 x2 l2; (simp only [List.cons_append, List.nil_append] at N'); (replace x1 := allNe_of x1; simp only [AllNe, and_true] at x1); (try k_lt l1); (try (revert f' c' oc' vs' t' ct' dc' h' tk' F' N' d1' d2' x1 l1 x2 l2; intros)))
  k_with "call builtin:len" => (k_here; (with_reducible show wpAny _ _ (call (Value.builtin _) [Value.ref _]) _ _ _); k_dflt (refine len_news (by k_asm) (by k_mem) (by assumption) (by (simp only [List.length_replicate]; omega)) ?_))
  trivial
theorem i2d_any {w mean mg mb} {TA : List (Addr × Obj)} (hTA : OkA TA) (x k : Nat) (t u : Tok) (D : Nat) (hD : (((Builtin.Int.intBits (x : Int) : Nat) : Int) + (k : Int) - 1).fdiv k = (D : Int)) (hD2 : D ≤ 64) (hD0 : 0 < D) (hxD : x < (2 ^ k) ^ D) (hx : 0 < x) (hx2 : x < 18446744073709551616) (hk : 0 < k) (hk2 : k < 8) : CtrA w mean mg mb TA [.int x t, .int k u] 80 (digs (2 ^ k) D x) := by
  unfold CtrA PR
  k_fill
  intros
  rename_i hdj hhd _ _ _ _ hret
  have hne : ∀ q ∈ (by assumption : List (Addr × Obj)), True := fun _ _ => trivial
  clear hne
  refine wpAny_call ?_
  k_dflt (refine' enter_cellsP (part := TA) ?k1 ?k2 ?k3 ?k4 ?kne ?k5 ?kA ?kF ?kK ?k6 ?k7 ?k8 ?k9 ?kB ?kD ?_ ?c2 ?c3 ?c4; (case kA => exact rfl); (case kF => exact rfl); (case kK => assumption); (case k1 => k_asm); (case k2 => k_asm); (case k3 => k_asm); (case k4 => assumption); (case kne => exact dj_ne hdj); (case k5 => k_asm); (case k6 => k_is); (case k7 => k_is); (case k8 => ktr_room); (case k9 => first | exact BindsTo.of_eq (binds := [(_, _)]) rfl | exact BindsTo.of_eq (binds := [(_, _), (_, _)]) rfl | exact BindsTo.of_eq (binds := [(_, _), (_, _), (_, _)]) rfl); (case kB => exact rfl); (case kD => decide +kernel); (case c2 => exact rfl); (case c3 => exact rfl); (case c4 => exact rfl); k_whole; intro g' L' h' tk' cells' FG' F' N' Y' B' X' T' l1 hG' GZ DZ tkZ OZ QZ hQZ; have hT0 := l1; have h171 := OkA.lt hTA hT0; (try k_lt l1); k_cells Y'; (try simp only [List.cons_append, List.nil_append] at N'); (try dsimp only); (try k_lift B'))
  have hcd' := hhd.keeps FG'.keep
  k_steps
  · rename News _ _ _ _ => lN
    have H := callI_rec (w := w) (mean := mean) (mg := mg) (mb := mb) lN (2 ^ k) D (by
      intro j ih x l X Lo Hi t1 t2 t3 vs nn ns eX eL eH hi hlen hl hj hx hx64 dp un gd cn cs a ccd cl outer A₀ base h₀ L m rest s Q E
      intros
      rename_i hdp hun hret
      subst eX eL eH
      have hj64 : j ≤ 64 := by omega
      have hm := mid_is l j
      have hi64 : j / 2 ≤ 64 := by omega
      have hso := sh_ok hm hi64 hk2
      have huo := up_ok (k := k) hm hx64
      refine wpAny_call ?_
      k_dflt (refine' enter_nest (part := partOf _ _ _ _ _ _ _ _ _ _) (rest := rest) ?k1 ?k2 ?k3 ?k4 ?kne ?k5 ?kA ?kF ?kK ?k6 ?k7 ?k8 ?k9 ?kB ?_ ?c2 ?c3 ?c4 ?c5; (case kA => exact rfl); (case kF => exact rfl); (case kK => assumption); (case k1 => k_asm); (case k2 => k_asm); (case k3 => k_asm); (case k4 => assumption); (case kne => assumption); (case k5 => k_asm); (case k6 => k_mem); (case k7 => exact codeRec_news (by assumption) (by k_mem) (by assumption) (by assumption)); (case k8 => ktr_room); (case k9 => first | exact BindsTo.of_eq (binds := [(_, _)]) rfl | exact BindsTo.of_eq (binds := [(_, _), (_, _)]) rfl | exact BindsTo.of_eq (binds := [(_, _), (_, _), (_, _)]) rfl); (case c5 => decide); (case kB => exact locs rfl); (case c2 => exact rfl); (case c3 => exact rfl); (case c4 => exact rfl); k_whole; intro g' L' h' FG' F' N' B' X' T' l1 hG' GZ DZ tkZ OZ QZ hQZ; (try k_lt l1); (try dsimp only); (try k_lift B'))
      k_steps
      · have hj1 : j = 1 := by omega
        subst hj1
        try dsimp only
        refine hret _ _ _ _ (by k_asm) (News.both (by k_asm) (by k_asm)) ?_
        have e : digs (2 ^ k) 1 x = [(x : Int)] := by rw [digs, digs, Nat.mod_eq_of_lt (by simpa using hx)]
        rw [e, ← putAt_one (by omega)]
        have e2 : ((l : Int)).toNat = l := Int.toNat_natCast l
        rw [e2] at *
        assumption
      · refine' callI_use ih (i := j / 2) (x := x % (2 ^ k) ^ (j / 2)) (l := l) ?i1 (low_is hm) rfl hm hi hlen ?i2 ?i3 ?i4 ?i5 ?k1 ?k2 ?k3 ?k4 ?k5 ?k6 ?k7 ?k8 ?_
        case i1 => omega
        case i2 => omega
        case i3 => omega
        case i4 => exact Nat.mod_lt _ (Nat.pow_pos (Nat.pow_pos (by decide)))
        case i5 => exact Nat.lt_of_le_of_lt (Nat.mod_le _ _) hx64
        case k1 => k_asm
        case k2 => k_asm
        case k3 => k_asm
        case k4 => k_asm
        case k5 => k_asm
        case k6 => first | exact rfl | assumption
        case k7 => cb_room
        case k8 => cb_units
        intro h9 tk9 vs9 nn9 F9 N9 hi9
        try dsimp only
        try k_fold
        k_steps
        have hlen9 : (putAt ns l (digs (2 ^ k) (j / 2) (x % (2 ^ k) ^ (j / 2)))).length = D := by rw [putAt_len (by rw [digs_len]; omega)]; exact hlen
        refine' callI_use ih (i := j - j / 2) (x := x / (2 ^ k) ^ (j / 2)) (l := l + j / 2) ?i1 (up_is hm) hm ?i0 hi9 hlen9 ?i3 ?i6 ?i4 ?i5 ?k1 ?k2 ?k3 ?k4 ?k5 ?k6 ?k7 ?k8 ?_
        case i1 => omega
        case i0 => congr 1; omega
        case i3 => omega
        case i6 => omega
        case i4 =>
          refine (Nat.div_lt_iff_lt_mul (Nat.pow_pos (Nat.pow_pos (by decide)))).mpr ?_
          rw [← Nat.pow_add, show j - j / 2 + j / 2 = j from by omega]
          exact hx
        case i5 => exact Nat.lt_of_le_of_lt (Nat.div_le_self _ _) hx64
        case k1 => k_asm
        case k2 => k_asm
        case k3 => k_asm
        case k4 => k_asm
        case k5 => k_asm
        case k6 => first | exact rfl | assumption
        case k7 => cb_room
        case k8 => cb_units
        intro h9 tk9 vs9 nn9 F9 N9 hi9
        try dsimp only
        try k_fold
        k_steps
        try dsimp only
        refine hret _ _ _ _ (by k_asm) (News.both (by k_asm) (by k_asm)) ?_
        have e := digs_split (2 ^ k) (j / 2) (j - j / 2) x
        rw [show j / 2 + (j - j / 2) = j from by omega] at e
        rw [e, ← putAt_putAt (by rw [digs_len, digs_len]; omega), digs_len]
        assumption)
    refine' callI_use (j := D + 1) (fun i _ => H i) (i := D) (x := x) (l := 0) ?i1 rfl rfl ?e3 (by assumption) List.length_replicate ?i3 hD0 hxD ?i5 ?k1 ?k2 ?k3 ?k4 ?k5 ?k6 ?k7 ?k8 ?_
    case i1 => omega
    case e3 => simp
    case i3 => omega
    case i5 => omega
    case k1 => k_asm
    case k2 => k_asm
    case k3 => k_asm
    case k4 => k_asm
    case k5 => k_asm
    case k6 => first | exact rfl | assumption
    case k7 => cb_room
    case k8 => cb_units
    intro h9 tk9 vs9 nn9 F9 N9 hi9
    rw [putAt_all (by rw [digs_len, List.length_replicate])] at hi9
    try dsimp only
    try k_fold
    k_steps
    all_goals ((try dsimp only); refine retA hret hG' (by k_asm) (by k_asm) (by k_asm) (by k_asm) hi9 (by k_mem) (by k_mem) (by k_mem) ⟨_, _, by assumption, by assumption⟩ (by first | assumption | k_ne) (by k_ne))
  · exact absurd (by assumption : (x : Int) = 0) (by omega)
end Mine
end

open PySem.W in
theorem Mine.offVals : True := by
  k_with_none
  w_top off
  exact trivial

section
open PySem PySem.W PySem.Spec PySem.Calls PyProof.Rows
namespace Mine

/-- the number that digits to the base B tell, the lowest first -/
def valOf (B : Nat) : List Nat → Nat
  | [] => 0
  | d :: r => d + B * valOf B r
theorem valOf_append (B : Nat) : ∀ a b : List Nat, valOf B (a ++ b) = valOf B a + B ^ a.length * valOf B b
  | [], b => by simp [valOf]
  | d :: r, b => by
    rw [List.cons_append, valOf, valOf, valOf_append B r b, List.length_cons, Nat.pow_succ, Nat.mul_add, ← Nat.add_assoc, Nat.mul_comm (B ^ r.length) B, Nat.mul_assoc]
theorem valOf_lt {B : Nat} (hB : 0 < B) : ∀ {l : List Nat}, (∀ d ∈ l, d < B) → valOf B l < B ^ l.length
  | [], _ => by simp [valOf]
  | d :: r, h => by
    have h1 := valOf_lt hB (l := r) fun e he => h e (.tail _ he)
    have h2 := h d (.head _)
    rw [valOf, List.length_cons, Nat.pow_succ, Nat.mul_comm (B ^ r.length) B]
    have h3 : B * (valOf B r + 1) ≤ B * B ^ r.length := Nat.mul_le_mul_left B h1
    rw [Nat.mul_add, Nat.mul_one] at h3
    (first | lia | omega)
theorem digs_val {B : Nat} (hB : 0 < B) : ∀ (l : List Nat), (∀ d ∈ l, d < B) → digs B l.length (valOf B l) = l.map (fun d : Nat => (d : Int))
  | [], _ => rfl
  | d :: r, h => by
    have h1 := digs_val hB r fun e he => h e (.tail _ he)
    have h2 := h d (.head _)
    rw [List.length_cons, digs, valOf, List.map_cons]
    have e1 : (d + B * valOf B r) % B = d := by rw [Nat.add_mul_mod_self_left, Nat.mod_eq_of_lt h2]
    have e2 : (d + B * valOf B r) / B = valOf B r := by rw [Nat.add_mul_div_left _ _ hB, Nat.div_eq_of_lt h2, Nat.zero_add]
    rw [e1, e2, h1]
theorem seg_split (ds : List Nat) (l i j : Nat) (h : i ≤ j) : (ds.drop l).take j = (ds.drop l).take i ++ (ds.drop (l + i)).take (j - i) := by
  rw [← List.drop_drop, ← List.take_append_drop i ((ds.drop l).take j), List.take_take, Nat.min_eq_left h, List.drop_take]
theorem seg_len {ds : List Nat} {l j : Nat} (h : l + j ≤ ds.length) : ((ds.drop l).take j).length = j := by
  rw [List.length_take, List.length_drop]; (first | lia | omega)
theorem seg_lt {B : Nat} {ds : List Nat} (h : ∀ d ∈ ds, d < B) (l j : Nat) : ∀ d ∈ (ds.drop l).take j, d < B := fun d hd => h d (List.mem_of_mem_drop (List.mem_of_mem_take hd))
theorem val_bound {k j : Nat} {ds : List Nat} (h : ∀ d ∈ ds, d < 2 ^ k) (l : Nat) (hl : l + j ≤ ds.length) (hk : ds.length * k ≤ 60) : valOf (2 ^ k) ((ds.drop l).take j) < 2 ^ 60 := by
  have h1 := valOf_lt (B := 2 ^ k) (Nat.pow_pos (by decide)) (seg_lt h l j)
  rw [seg_len hl, ← Nat.pow_mul] at h1
  refine Nat.lt_of_lt_of_le h1 (Nat.pow_le_pow_right (by decide) ?_)
  have : k * j ≤ k * ds.length := Nat.mul_le_mul_left k (by (first | lia | omega))
  rw [Nat.mul_comm ds.length] at hk
  (first | lia | omega)
theorem val_join {k l i j : Nat} {ds : List Nat} (h : i ≤ j) (hl : l + j ≤ ds.length) : valOf (2 ^ k) ((ds.drop l).take j) = valOf (2 ^ k) ((ds.drop (l + i)).take (j - i)) * 2 ^ (i * k) + valOf (2 ^ k) ((ds.drop l).take i) := by
  rw [seg_split ds l i j h, valOf_append, seg_len (by (first | lia | omega)), pow_two, Nat.mul_comm, Nat.add_comm]
theorem val_one {k l : Nat} {ds : List Nat} (hl : l < ds.length) : valOf (2 ^ k) ((ds.drop l).take 1) = ds[l] := by
  have e : (ds.drop l).take 1 = [ds[l]] := by rw [List.drop_eq_getElem_cons hl]; rfl
  rw [e]
  show ds[l] + 2 ^ k * 0 = _
  (first | lia | omega)
end Mine
end

open PySem.W in
theorem Mine.offD2I : True := by
  k_with_none
  w_top off
  exact trivial

section
open PySem PySem.W PySem.Spec PySem.Calls PyProof.Rows
namespace Mine

abbrev CallJ (w : World) (mean : ExcName → Option Value) (mg mb : PySem.Str → Option Value) (f : Addr) (part : List (Addr × Obj)) (D : Addr) (vs : List Value) (ds : List Nat) (k j : Nat) : Prop :=
  ∀ (l : Nat) (Lo Hi : Int) (t2 t3 : Tok), Lo = (l : Int) → Hi = ((l + j : Nat) : Int) → l + j ≤ ds.length → 0 < j →
  ∀ (dp un : Nat) (gd : Option (List Code)) (cn : PySem.Str) (cs : Scope) (a : Addr) (ccd : Value) (cl : List (PySem.Str × Addr)) (outer : List Env) (A₀ : Around) (base h₀ : Heap) (L : Addr) (m : PySem.Str → Option Value) (rest : List (Addr × Obj)) (s : Shared) (Q E : Value → Shared → Prop),
    Below A₀ base outer h₀ → Fr h₀ L s.heap m → (hd.heap_1 w.params).In h₀ → News h₀ L s.heap (part ++ rest) → (∀ q ∈ rest, q.1 ∉ part.map (·.1)) → h₀.IsList D vs.toArray → Top topProg LO mean mg mb h₀ → cs.kind = .function →
    dp + (j + 2) < recursionLimit → un + 8 * (j + 2) < cLine →
    (∀ (t : Tok) (h' : Heap) (tk' : Nat), Fr h₀ L h' m → News h₀ L h' (part ++ rest) → Q (.int (valOf (2 ^ k) ((ds.drop l).take j) : Nat) t) { s with heap := h', toks := tk' }) →
      wpAny (model PR w) (ktrTop dp un gd cn cs L a ccd cl outer) (call (.ref f) [.int Lo t2, .int Hi t3]) Q E s
theorem callJ_rec {w : World} {mean : ExcName → Option Value} {mg mb : PySem.Str → Option Value} {f D : Addr} {oF : Obj} {part : List (Addr × Obj)} {vs : List Value} {g h : Heap} {L : Addr} (_N : News g L h ((f, oF) :: part)) (ds : List Nat) (k : Nat)
    (step : ∀ j, (∀ i, i < j → CallJ w mean mg mb f ((f, oF) :: part) D vs ds k i) → CallJ w mean mg mb f ((f, oF) :: part) D vs ds k j) : ∀ j, CallJ w mean mg mb f ((f, oF) :: part) D vs ds k j :=
  fun j => Nat.strongRecOn j step
theorem callJ_use {w : World} {mean : ExcName → Option Value} {mg mb : PySem.Str → Option Value} {f D : Addr} {part : List (Addr × Obj)} {vs : List Value} {ds : List Nat} {k j i : Nat} (ih : ∀ i, i < j → CallJ w mean mg mb f part D vs ds k i) (hij : i < j) {l : Nat} {Lo Hi : Int} {t2 t3 : Tok} (eL : Lo = (l : Int)) (eH : Hi = ((l + i : Nat) : Int)) (hl : l + i ≤ ds.length) (h0 : 0 < i)
    {dp un : Nat} {gd : Option (List Code)} {cn : PySem.Str} {cs : Scope} {a : Addr} {ccd : Value} {cl : List (PySem.Str × Addr)} {outer : List Env} {A₀ : Around} {base h₀ : Heap} {L : Addr} {m : PySem.Str → Option Value} {s : Shared} {Q E : Value → Shared → Prop}
    (h1 : Below A₀ base outer h₀) (h2 : Fr h₀ L s.heap m) (h3 : (hd.heap_1 w.params).In h₀) (h4 : News h₀ L s.heap part) (hL : h₀.IsList D vs.toArray) (h5 : Top topProg LO mean mg mb h₀) (h6 : cs.kind = .function)
    (h7 : dp + (i + 2) < recursionLimit) (h8 : un + 8 * (i + 2) < cLine)
    (h : ∀ (t : Tok) (h' : Heap) (tk' : Nat), Fr h₀ L h' m → News h₀ L h' part → Q (.int (valOf (2 ^ k) ((ds.drop l).take i) : Nat) t) { s with heap := h', toks := tk' }) :
      wpAny (model PR w) (ktrTop dp un gd cn cs L a ccd cl outer) (call (.ref f) [.int Lo t2, .int Hi t3]) Q E s :=
  ih i hij l Lo Hi t2 t3 eL eH hl h0 dp un gd cn cs a ccd cl outer A₀ base h₀ L m [] s Q E h1 h2 h3 (by rw [List.append_nil]; exact h4) (fun _ hq => nomatch hq) hL h5 h6 h7 h8 fun t h' tk' a b => h t h' tk' a (by rw [List.append_nil] at b; exact b)
noncomputable abbrev QB : PySem.Str := PySem.Str.ofString "_digits2int" ++ PySem.Str.ofString ".<locals>." ++ PySem.Str.ofString "inner"
abbrev tabB (c : Addr) : Obj := tabObj (#[] ++ #[rawInt 221, rawInt 4, .ref c])
/-- the code table of _digits2int, before its first call or behind it -/
def OkB (T : List (Addr × Obj)) : Prop := T = [(178, tabObj #[])] ∨ ∃ c oc, T = [(178, tabB c), (c, oc)] ∧ CodeIs QB oc ∧ c ≠ 178
theorem OkB.lt {T : List (Addr × Obj)} {b : Nat} (h : OkB T) (l : ∀ q ∈ T, @LT.lt Addr _ q.1 b) : @LT.lt Nat _ 178 b := by
  rcases h with rfl | ⟨c, oc, rfl, _⟩ <;> exact l _ (.head _)
abbrev CtrB (w : World) (mean : ExcName → Option Value) (mg mb : PySem.Str → Option Value) (T : List (Addr × Obj)) (D : Addr) (vs : List Value) (nn : Nat) (ar : List Value) (c : Nat) (R : Tok → Value) : Prop :=
  ∀ (dp un : Nat) (gd : Option (List Code)) (cn : PySem.Str) (cs : Scope) (a : Addr) (ccd : Value) (cl : List (PySem.Str × Addr)) (outer : List Env) (A₀ : Around) (base h₀ : Heap) (L : Addr) (m : PySem.Str → Option Value) (news : List (Addr × Obj)) (s : Shared) (Q E : Value → Shared → Prop),
    Below A₀ base outer h₀ → Fr h₀ L s.heap m → (hd.heap_1 w.params).In h₀ → News h₀ L s.heap (T ++ news) → Dj T news → (D, listOf vs.toArray nn) ∈ news → CodeHd h₀ 182 178 → Top topProg LO mean mg mb h₀ → cs.kind = .function →
    dp + c < recursionLimit → un + 8 * c < cLine →
    (∀ (t : Tok) (T' : List (Addr × Obj)) (h' : Heap) (tk' : Nat), OkB T' → Fr h₀ L h' m → News h₀ L h' (T' ++ news) → Dj T' news → Q (R t) { s with heap := h', toks := tk' }) →
      wpAny (model PR w) (ktrTop dp un gd cn cs L a ccd cl outer) (call (.ref 183) ar) Q E s
theorem retB {Q : Value → Shared → Prop} {h₀ g : Heap} {L L' : Addr} {m : PySem.Str → Option Value} {news : List (Addr × Obj)} {s : Shared} {c : Addr} {oc : Obj} {h' : Heap} {tk' : Nat} {v : Int} {t : Tok}
    (hret : ∀ (t : Tok) (T' : List (Addr × Obj)) (h' : Heap) (tk' : Nat), OkB T' → Fr h₀ L h' m → News h₀ L h' (T' ++ news) → Dj T' news → Q (.int v t) { s with heap := h', toks := tk' })
    (hG : ∀ q ∈ news, g.get? q.1 = some q.2) {own : List (Addr × Obj)} (N' : News g L' h' own) (F : Fr h₀ L h' m) (N : News h₀ L h' own) (R : News h₀ L h' news) (m2 : (178, tabB c) ∈ own) (m3 : (c, oc) ∈ own) (hc : CodeIs QB oc) (d1 : c ≠ 178) {v' : Int} (e : v' = v) : Q (.int v' t) { s with heap := h', toks := tk' } := by
  subst e
  have off : ∀ p ∈ own, ∀ q ∈ news, p.1 ≠ q.1 := fun p hp q hq e => by
    have := (N' p hp).2.2
    rw [e, hG q hq] at this
    cases this
  refine hret t [(178, tabB c), (c, oc)] h' tk' (.inr ⟨c, oc, rfl, hc, d1⟩) F (fun p hp => ?_) (fun p hp q hq => ?_)
  · rcases List.mem_append.mp hp with hp | hp
    · rcases List.mem_cons.mp hp with rfl | hp
      · exact N _ m2
      · rw [List.mem_singleton.mp hp]; exact N _ m3
    · exact R _ hp
  · rcases List.mem_cons.mp hp with rfl | hp
    · exact off _ m2 q hq
    · rw [List.mem_singleton.mp hp]; exact off _ m3 q hq

section
variable {prog : Program} {w : World} {A : Around} {E : Value → Shared → Prop} {s : Shared} {h₀ : Heap} {L d : Addr} {m : PySem.Str → Option Value} {vs : List Value} {ns : List Int}
theorem base_in (F : Fr h₀ L s.heap m) (hl : h₀.IsList d vs.toArray) : s.heap.IsList d vs.toArray := hl.at fun o e => F.keep d o e
theorem len_base {Q : Value → Shared → Prop} (F : Fr h₀ L s.heap m) (hl : h₀.IsList d vs.toArray) (hi : IntsAre vs ns) (hz : ns.length ≤ 16777000)
    (h : Q (.int (ns.length : Int) (s.toks + 1)) { s with toks := s.toks + 1 + 1 }) : wpAny (model prog w) A (call (.builtin "len") [.ref d]) Q E s := by
  have e : (vs.toArray.size : Int) = ns.length := by simp [hi.length]
  refine len_list (base_in F hl) (by rw [e]; omega) ?_
  rw [e]; exact h
theorem truthy_base {Q : Bool → Shared → Prop} (F : Fr h₀ L s.heap m) (hl : h₀.IsList d vs.toArray) (hi : IntsAre vs ns) (hz : ns.length ≤ 16777000) (h0 : 0 < ns.length) (h : Q true { s with toks := s.toks + 1 + 1 }) : wpAny (model prog w) A (truthy (.ref d)) Q E s := by
  have e : vs.toArray.size = ns.length := by simp [hi.length]
  refine wpAny_truthy_list (base_in F hl) (by rw [e]; omega) ?_
  have e2 : (!vs.toArray.isEmpty) = true := by
    cases vs with
    | nil => cases hi; simp at h0
    | cons a r => rfl
  rw [e2]; exact h
theorem item_base {l : Nat} {u : Tok} {value slice : PySem.Expr} {Q : Value → Shared → Prop} (F : Fr h₀ L s.heap m) (hl : h₀.IsList d vs.toArray) {ds : List Nat} (hi : IntsAre vs (ds.map (fun d : Nat => (d : Int)))) (hz : l < ds.length ∧ ds.length ≤ 16777000) (h : ∀ t, Q (.int (ds.getD l 0 : Nat) t) s)
    (hs : subscripted slice false (.ref d) (.int (l : Int) u) = operate [.ref d, .int (l : Int) u] (getItem (.ref d) (.int (l : Int) u)) := by with_unfolding_all rfl) :
    wpAny (model prog w) A (subscriptTail value slice (.ref d) (.int (l : Int) u)) Q E s := by
  have hl' := base_in F hl
  obtain ⟨t, ht⟩ := hi.get l (ds.getD l 0 : Nat) (by rw [List.getElem?_map, List.getElem?_eq_getElem hz.1]; simp [List.getD_eq_getElem?_getD, List.getElem?_eq_getElem hz.1])
  refine tail_any hl'.typeIs slot_list_getitem.lookup (wpAny_getItem_list hl' (by omega) (by omega) ?_ (h t)) hs
  simpa using ht
end

local macro_rules | `(tactic| k_all) => `(tactic| exact tail_ne (by with_reducible assumption) (by omega))
theorem ruld2i1 : True := by
  k_with "call builtin:len" => (k_here; (with_reducible show wpAny _ _ (call (Value.builtin _) [Value.ref _]) _ _ _); k_dflt (refine len_base (by k_asm) (by assumption) (by assumption) (by (simp only [List.length_map]; omega)) ?_))
  k_with "truthy ref" => (k_here; k_dflt (refine truthy_base (by k_asm) (by assumption) (by assumption) (by (simp only [List.length_map]; omega)) (by (simp only [List.length_map]; omega)) ?_))
  k_with "subscriptTail" => (k_here; (with_reducible show wpAny _ _ (subscriptTail _ _ (Value.ref _) (Value.int _ _)) _ _ _); (with_unfolding_all refine item_base (by k_asm) (by assumption) (by assumption) (by omega) ?_ (by with_unfolding_all rfl)); intro t'; (try (revert t'; intros)))
  k_with "exec FunctionDef" => (k_here; k_dflt (refine' nestDef_K ?d0zz ?k0zz ?a0zz ?_; (case d0zz => exact rfl); (case k0zz => exact rfl); (case a0zz => exact rfl)); k_dflt (refine' nest_any [_, _, _] (c := 182) (P := 178) ?Fzz ?Nzz ?Tzz ?Czz ?cdzz hTB ?bzz ?Xzz ?clzz ?_; (case Fzz => k_asm); (case Nzz => k_asm); (case Tzz => k_asm); (case cdzz => exact rfl); (case Czz => assumption); (case bzz => assumption); (case clzz => exact rfl); (case Xzz => (intro q hq; simp only [List.mem_cons, List.not_mem_nil, or_false] at hq; rcases hq with rfl | rfl | rfl <;> (dsimp only; omega))); k_whole); intro f' c' oc' vs' t' ct' dc' h' tk' F' N' d1' d2' x1 l1 x2 l2; (simp only [List.cons_append, List.nil_append] at N'); (replace x1 := allNe_of x1; simp only [AllNe, and_true] at x1); (try k_lt l1); (try (revert f' c' oc' vs' t' ct' dc' h' tk' F' N' d1' d2' x1 l1 x2 l2; intros)))
  k_with "binaryOp LShift int int" => (k_here; (with_reducible show wpAny _ _ (binaryOp Operator.LShift (Value.int _ _) (Value.int _ _)) _ _ _); (refine lshift_int_small ?_ ?_ ?_ ?_; exact (And.left (by assumption)); exact (And.right (by assumption)); (rw [Int.natAbs_natCast]; omega)))
  trivial
theorem d2i_any {w mean mg mb} {TB : List (Addr × Obj)} (hTB : OkB TB) (k : Nat) (u : Tok) (D : Addr) (vs : List Value) (nn : Nat) (ds : List Nat) (hi : IntsAre vs (ds.map (fun d : Nat => (d : Int)))) (hds : ∀ d ∈ ds, d < 2 ^ k) (h0 : 0 < ds.length) (h64 : ds.length ≤ 60) (hb : ds.length * k ≤ 60) (hk : 0 < k) (hk2 : k < 8) : CtrB w mean mg mb TB D vs nn [.ref D, .int k u] 80 (fun t => .int (valOf (2 ^ k) ds : Nat) t) := by
  unfold CtrB PR
  k_fill
  intros
  rename_i hdj hmem hhd _ _ _ _ hret
  refine wpAny_call ?_
  k_dflt (refine' enter_cellsP (part := TB) ?k1 ?k2 ?k3 ?k4 ?kne ?k5 ?kA ?kF ?kK ?k6 ?k7 ?k8 ?k9 ?kB ?kD ?_ ?c2 ?c3 ?c4; (case kA => exact rfl); (case kF => exact rfl); (case kK => assumption); (case k1 => k_asm); (case k2 => k_asm); (case k3 => k_asm); (case k4 => assumption); (case kne => exact dj_ne hdj); (case k5 => k_asm); (case k6 => k_is); (case k7 => k_is); (case k8 => ktr_room); (case k9 => first | exact BindsTo.of_eq (binds := [(_, _)]) rfl | exact BindsTo.of_eq (binds := [(_, _), (_, _)]) rfl | exact BindsTo.of_eq (binds := [(_, _), (_, _), (_, _)]) rfl); (case kB => exact rfl); (case kD => decide +kernel); (case c2 => exact rfl); (case c3 => exact rfl); (case c4 => exact rfl); k_whole; intro g' L' h' tk' cells' FG' F' N' Y' B' X' T' l1 hG' GZ DZ tkZ OZ QZ hQZ; have hT0 := l1; have h178 := OkB.lt hTB hT0; (try k_lt l1); k_cells Y'; (try simp only [List.cons_append, List.nil_append] at N'); (try dsimp only); (try k_lift B'))
  have hcd' := hhd.keeps FG'.keep
  have hL : g'.IsList D vs.toArray := ⟨_, hG' _ hmem, rfl, nn, rfl⟩
  k_steps
  · rename News _ _ _ _ => lN
    have H := callJ_rec (w := w) (mean := mean) (mg := mg) (mb := mb) (D := D) (vs := vs) lN ds k (by
      clear hL
      intro j ih l Lo Hi t2 t3 eL eH hl hj dp un gd cn cs a ccd cl outer A₀ base h₀ L m rest s Q E h1 h2 h3 h4 h4n hL0 h5 h6 hdp hun hret
      subst eL eH
      have hm := mid_is l j
      have hso := sh_ok (k := k) hm (by omega) hk2
      refine wpAny_call ?_
      k_dflt (refine' enter_nest (part := _) (rest := rest) ?k1 ?k2 ?k3 ?k4 ?kne ?k5 ?kA ?kF ?kK ?k6 ?k7 ?k8 ?k9 ?kB ?_ ?c2 ?c3 ?c4 ?c5; (case kA => exact rfl); (case kF => exact rfl); (case kK => assumption); (case k1 => k_asm); (case k2 => k_asm); (case k3 => k_asm); (case k4 => exact h4); (case kne => exact h4n); (case k5 => k_asm); (case k6 => k_mem); (case k7 => exact codeRec_news (by assumption) (by k_mem) (by assumption) (by assumption)); (case k8 => ktr_room); (case k9 => first | exact BindsTo.of_eq (binds := [(_, _)]) rfl | exact BindsTo.of_eq (binds := [(_, _), (_, _)]) rfl | exact BindsTo.of_eq (binds := [(_, _), (_, _), (_, _)]) rfl); (case c5 => decide); (case kB => exact locs rfl); (case c2 => exact rfl); (case c3 => exact rfl); (case c4 => exact rfl); k_whole; intro g' L' h' FG' F' N' B' X' T' l1 hG' GZ DZ tkZ OZ QZ hQZ; (try k_lt l1); (try dsimp only); (try k_lift B'))
      have hL : g'.IsList D vs.toArray := hL0.at fun o e => FG'.keep D o e
      k_steps
      · have hj1 : j = 1 := by omega
        subst hj1
        try dsimp only
        have e : (ds.map (fun d : Nat => (d : Int))).getD ((l : Int)).toNat 0 = ((valOf (2 ^ k) ((ds.drop l).take 1) : Nat) : Int) := by
          rw [val_one (by omega), Int.toNat_natCast, List.getD_eq_getElem?_getD, List.getElem?_map, List.getElem?_eq_getElem (show l < ds.length by omega)]
          rfl
        rw [e]
        exact hret _ _ _ (by k_asm) (News.both (by k_asm) (by k_asm))
      · refine' callJ_use ih (i := j - j / 2) (l := l + j / 2) ?i1 hm ?i0 ?i3 ?i6 ?k1 ?k2 ?k3 ?k4 ?kL ?k5 ?k6 ?k7 ?k8 ?_
        case i1 => omega
        case i0 => congr 1; omega
        case i3 => omega
        case i6 => omega
        case k1 => k_asm
        case k2 => k_asm
        case k3 => k_asm
        case k4 => k_asm
        case kL => exact hL
        case k5 => k_asm
        case k6 => first | exact rfl | assumption
        case k7 => cb_room
        case k8 => cb_units
        intro t9 h9 tk9 F9 N9
        have hv := val_bound (j := j - j / 2) hds (l + j / 2) (by omega) hb
        try dsimp only
        try k_fold
        k_steps
        refine' callJ_use ih (i := j / 2) (l := l) ?i1 rfl hm ?i3 ?i6 ?k1 ?k2 ?k3 ?k4 ?kL ?k5 ?k6 ?k7 ?k8 ?_
        case i1 => omega
        case i3 => omega
        case i6 => omega
        case k1 => k_asm
        case k2 => k_asm
        case k3 => k_asm
        case k4 => k_asm
        case kL => exact hL
        case k5 => k_asm
        case k6 => first | exact rfl | assumption
        case k7 => cb_room
        case k8 => cb_units
        intro t9 h9 tk9 F9 N9
        try dsimp only
        try k_fold
        k_steps
        try dsimp only
        have e : ((valOf (2 ^ k) ((ds.drop (l + j / 2)).take (j - j / 2)) : Nat) : Int) * 2 ^ ((((l : Int) + ((l + j : Nat) : Int)).fdiv (2 ^ Int.toNat 1) - (l : Int)) * (k : Int)).toNat + ((valOf (2 ^ k) ((ds.drop l).take (j / 2)) : Nat) : Int) = ((valOf (2 ^ k) ((ds.drop l).take j) : Nat) : Int) := by
          rw [sh_is hm, Int.toNat_natCast, val_join (i := j / 2) (by omega) hl, Int.natCast_add, Int.natCast_mul]
          simp
        rw [e]
        exact hret _ _ _ (by k_asm) (News.both (by k_asm) (by k_asm)))
    refine' callJ_use (j := ds.length + 1) (fun i _ => H i) (i := ds.length) (l := 0) ?i1 rfl ?e3 ?i3 h0 ?k1 ?k2 ?k3 ?k4 ?kL ?k5 ?k6 ?k7 ?k8 ?_
    case i1 => omega
    case e3 => simp
    case i3 => omega
    case k1 => k_asm
    case k2 => k_asm
    case k3 => k_asm
    case k4 => k_asm
    case kL => exact hL
    case k5 => k_asm
    case k6 => first | exact rfl | assumption
    case k7 => cb_room
    case k8 => cb_units
    intro t9 h9 tk9 F9 N9
    try dsimp only
    try k_fold
    k_steps
    all_goals ((try dsimp only); exact retB hret hG' (by k_asm) (by k_asm) (by k_asm) (by k_asm) (by k_mem) (by k_mem) ⟨_, _, by assumption, by assumption⟩ (by first | assumption | k_ne) (by simp))
end Mine
end

open PySem.W in
theorem Mine.offDig : True := by
  k_with_none
  w_top off
  exact trivial

section
open PySem PySem.W PySem.Spec PySem.Calls PyProof.Rows
namespace Mine

/-- the two code tables, each before its def's first call or behind it -/
def OkT (T : List (Addr × Obj)) : Prop := ∃ TA TB, T = TA ++ TB ∧ OkA TA ∧ OkB TB ∧ Dj TA TB
structure Hds (h : Heap) : Prop where
  a : CodeHd h 175 171
  b : CodeHd h 182 178
theorem Hds.keeps {h h' : Heap} (x : Hds h) (k : ∀ b o, h.get? b = some o → h'.get? b = some o) : Hds h' := ⟨x.a.keeps k, x.b.keeps k⟩
theorem Dj.app {T n1 n2 : List (Addr × Obj)} (h1 : Dj T n1) (h2 : Dj T n2) : Dj T (n1 ++ n2) := fun p hp q hq => (List.mem_append.mp hq).elim (h1 p hp q) (h2 p hp q)
theorem Dj.left {T n1 n2 : List (Addr × Obj)} (h : Dj T (n1 ++ n2)) : Dj T n1 := fun p hp q hq => h p hp q (List.mem_append_left _ hq)
theorem Dj.right {T n1 n2 : List (Addr × Obj)} (h : Dj T (n1 ++ n2)) : Dj T n2 := fun p hp q hq => h p hp q (List.mem_append_right _ hq)
theorem Dj.joinL {T1 T2 n : List (Addr × Obj)} (h1 : Dj T1 n) (h2 : Dj T2 n) : Dj (T1 ++ T2) n := fun p hp q hq => (List.mem_append.mp hp).elim (fun h => h1 p h q hq) (fun h => h2 p h q hq)
theorem Dj.fst {T1 T2 n : List (Addr × Obj)} (h : Dj (T1 ++ T2) n) : Dj T1 n := fun p hp q hq => h p (List.mem_append_left _ hp) q hq
theorem Dj.snd {T1 T2 n : List (Addr × Obj)} (h : Dj (T1 ++ T2) n) : Dj T2 n := fun p hp q hq => h p (List.mem_append_right _ hp) q hq
theorem Dj.symm {T n : List (Addr × Obj)} (h : Dj T n) : Dj n T := fun p hp q hq e => h q hq p hp e.symm
theorem Dj.nil {T : List (Addr × Obj)} : Dj T [] := fun _ _ _ hq => nomatch hq
theorem Dj.cons {T n : List (Addr × Obj)} {x : Addr × Obj} (h1 : ∀ p ∈ T, p.1 ≠ x.1) (h2 : Dj T n) : Dj T (x :: n) := fun p hp q hq => by
  rcases List.mem_cons.mp hq with rfl | hq
  · exact h1 p hp
  · exact h2 p hp q hq
theorem newsSub {h₀ h : Heap} {L : Addr} {n n' : List (Addr × Obj)} (N : News h₀ L h n) (hs : ∀ p ∈ n', p ∈ n) : News h₀ L h n' := fun p hp => N p (hs p hp)
/-- a call that may fill the code tables: what it asks, and what it hands on -/
abbrev SurD (w : World) (mean : ExcName → Option Value) (mg mb : PySem.Str → Option Value) (f : Addr) (vs : List Value) (c : Nat) (own : List (Addr × Obj))
    (Back : (List (Addr × Obj) → Heap → Prop) → (Value → Heap → Nat → Prop) → Prop) : Prop :=
  ∀ (dp un : Nat) (gd : Option (List Code)) (cn : PySem.Str) (cs : Scope) (a : Addr) (ccd : Value) (cl : List (PySem.Str × Addr)) (outer : List Env) (A₀ : Around) (base h₀ : Heap) (L : Addr) (m : PySem.Str → Option Value) (T : List (Addr × Obj)) (s : Shared) (Q E : Value → Shared → Prop),
    Below A₀ base outer h₀ → Fr h₀ L s.heap m → (hd.heap_1 w.params).In h₀ → News h₀ L s.heap (own ++ T) → OkT T → Dj T own → Hds h₀ → Top topProg LO mean mg mb h₀ → cs.kind = .function →
    dp + c < recursionLimit → un + 8 * c < cLine → Back (fun news h' => Fr h₀ L h' m ∧ News h₀ L h' news) (fun v h' tk' => Q v { s with heap := h', toks := tk' }) →
      wpAny (model PR w) (ktrTop dp un gd cn cs L a ccd cl outer) (call (.ref f) vs) Q E s
/-- it hands back a plain value -/
abbrev CtrD (w : World) (mean : ExcName → Option Value) (mg mb : PySem.Str → Option Value) (f : Addr) (vs : List Value) (c : Nat) (own : List (Addr × Obj)) (R : Tok → Value) : Prop :=
  SurD w mean mg mb f vs c own fun K Q => ∀ (t : Tok) (T' : List (Addr × Obj)) (h' : Heap) (tk' : Nat), OkT T' → Dj T' own → K (own ++ T') h' → Q (R t) h' tk'
/-- it hands back a new list of ints -/
abbrev CtrDL (w : World) (mean : ExcName → Option Value) (mg mb : PySem.Str → Option Value) (f : Addr) (vs : List Value) (c : Nat) (own : List (Addr × Obj)) (ds : List Int) : Prop :=
  SurD w mean mg mb f vs c own fun K Q => ∀ (a : Addr) (us : List Value) (nn : Nat) (T' : List (Addr × Obj)) (h' : Heap) (tk' : Nat), OkT T' → Dj T' own → IntsAre us ds → (∀ p ∈ T', p.1 ≠ a) → (∀ p ∈ own, p.1 ≠ a) → K ((a, listOf us.toArray nn) :: (own ++ T')) h' → Q (.ref a) h' tk'
theorem i2d {w : World} {mean : ExcName → Option Value} {mg mb : PySem.Str → Option Value} (x k : Nat) (t u : Tok) (D : Nat) (hD : (((Builtin.Int.intBits (x : Int) : Nat) : Int) + (k : Int) - 1).fdiv k = (D : Int)) (hD2 : D ≤ 64) (hD0 : 0 < D) (hxD : x < (2 ^ k) ^ D) (hx : 0 < x) (hx2 : x < 18446744073709551616) (hk : 0 < k) (hk2 : k < 8) (own : List (Addr × Obj)) :
    CtrDL w mean mg mb 176 [.int x t, .int k u] 80 own (digs (2 ^ k) D x) := by
  intro dp un gd cn cs a ccd cl outer A₀ base h₀ L m T s Q E h1 h2 h3 h4 h5 h6 h7 h8 h9 h10 h11 hret
  obtain ⟨TA, TB, rfl, hA, hB, hAB⟩ := h5
  have N : News h₀ L s.heap (TA ++ (TB ++ own)) := newsSub h4 fun p hp => by simp only [List.mem_append] at hp ⊢; rcases hp with h | h | h <;> simp [h]
  have dj : Dj TA (TB ++ own) := Dj.app hAB h6.fst
  have fin : ∀ (a : Addr) (vs' : List Value) (nn' : Nat) (T' : List (Addr × Obj)) (h' : Heap) (tk' : Nat), OkA T' → Fr h₀ L h' m → News h₀ L h' ((a, listOf vs'.toArray nn') :: (T' ++ (TB ++ own))) → IntsAre vs' (digs (2 ^ k) D x) → Dj T' (TB ++ own) → (∀ p ∈ T' ++ (TB ++ own), p.1 ≠ a) → Q (.ref a) { s with heap := h', toks := tk' } := by
    intro a us nn T' h' tk' oA F N' hi dj' hne
    refine hret a us nn (T' ++ TB) h' tk' ⟨T', TB, rfl, oA, hB, dj'.left⟩ (Dj.joinL dj'.right h6.snd) hi (fun p hp => hne p (by simp only [List.mem_append] at hp ⊢; rcases hp with h | h <;> simp [h])) (fun p hp => hne p (by simp [hp])) ⟨F, newsSub N' fun p hp => ?_⟩
    simp only [List.mem_cons, List.mem_append] at hp ⊢
    rcases hp with h | h | h | h <;> simp [h]
  exact i2d_any hA x k t u D hD hD2 hD0 hxD hx hx2 hk hk2 dp un gd cn cs a ccd cl outer A₀ base h₀ L m _ s Q E h1 h2 h3 N dj h7.a h8 h9 h10 h11 fin
theorem d2i {w : World} {mean : ExcName → Option Value} {mg mb : PySem.Str → Option Value} (k : Nat) (u : Tok) (D : Addr) (vs : List Value) (nn : Nat) (ds : List Nat) (hi : IntsAre vs (ds.map (fun d : Nat => (d : Int)))) (hds : ∀ d ∈ ds, d < 2 ^ k) (h0 : 0 < ds.length) (h64 : ds.length ≤ 60) (hb : ds.length * k ≤ 60) (hk : 0 < k) (hk2 : k < 8) (own : List (Addr × Obj)) (hm : (D, listOf vs.toArray nn) ∈ own) :
    CtrD w mean mg mb 183 [.ref D, .int k u] 80 own (fun t => .int (valOf (2 ^ k) ds : Nat) t) := by
  intro dp un gd cn cs a ccd cl outer A₀ base h₀ L m T s Q E h1 h2 h3 h4 h5 h6 h7 h8 h9 h10 h11 hret
  obtain ⟨TA, TB, rfl, hA, hB, hAB⟩ := h5
  have N : News h₀ L s.heap (TB ++ (TA ++ own)) := newsSub h4 fun p hp => by simp only [List.mem_append] at hp ⊢; rcases hp with h | h | h <;> simp [h]
  have dj : Dj TB (TA ++ own) := Dj.app hAB.symm h6.snd
  have fin : ∀ (t : Tok) (T' : List (Addr × Obj)) (h' : Heap) (tk' : Nat), OkB T' → Fr h₀ L h' m → News h₀ L h' (T' ++ (TA ++ own)) → Dj T' (TA ++ own) → Q (.int (valOf (2 ^ k) ds : Nat) t) { s with heap := h', toks := tk' } := by
    intro t T' h' tk' oB F N' dj'
    refine hret t (TA ++ T') h' tk' ⟨TA, T', rfl, hA, oB, dj'.left.symm⟩ (Dj.joinL h6.fst dj'.right) ⟨F, newsSub N' fun p hp => ?_⟩
    simp only [List.mem_append] at hp ⊢
    rcases hp with h | h | h <;> simp [h]
  have hm' : (D, listOf vs.toArray nn) ∈ TA ++ own := List.mem_append_right _ hm
  exact d2i_any hB k u D vs nn ds hi hds h0 h64 hb hk hk2 dp un gd cn cs a ccd cl outer A₀ base h₀ L m _ s Q E h1 h2 h3 N dj hm' h7.b h8 h9 h10 h11 fin
end Mine
end

open PySem.W in
theorem Mine.offInts : True := by
  k_with_none
  w_top off
  exact trivial

section
open PySem PySem.W PySem.Spec PySem.Calls PyProof.Rows
namespace Mine

theorem div2n1n {w mean mg mb} (a b n : Int) (t u v : Tok) (hn : ((Builtin.Int.intBits a : Nat) : Int) - n ≤ 4000) (hb : 0 < b) (hb2 : b < 1000000) (ha : 0 ≤ a) (ha2 : a < 18446744073709551616) : CtrT w mean mg mb 162 [.int a t, .int b u, .int n v] 8 (fun t u _ => [.int (a.fdiv b) t, .int (a.fmod b) u]) := by
  unfold CtrT Sur PR; dsimp only [CbRet]
  k_fill
  intros
  rename_i hret
  refine wpAny_call ?_
  k_dflt (refine' enter_plain0 ?k1 ?k2 ?k3 ?k4 ?k5 ?kA ?kF ?kK ?k6 ?k7 ?k8 ?k9 ?kB ?_ ?c2 ?c3 ?c4 ?c5; (case kA => exact rfl); (case kF => exact rfl); (case kK => assumption); (case k1 => k_asm); (case k2 => k_asm); (case k3 => k_asm); (case k4 => k_asm); (case k5 => k_asm); (case k6 => k_is); (case k7 => k_is); (case k8 => ktr_room); (case k9 => first | exact BindsTo.of_eq (binds := [(_, _)]) rfl | exact BindsTo.of_eq (binds := [(_, _), (_, _)]) rfl | exact BindsTo.of_eq (binds := [(_, _), (_, _), (_, _)]) rfl); (case c5 => decide); (case kB => exact locs rfl); (case c2 => exact rfl); (case c3 => exact rfl); (case c4 => exact rfl); k_whole; intro g' L' h' FG' F' N' B' X' T' hG' GZ DZ tkZ OZ QZ hQZ; (try dsimp only); (try k_lift B'))
  k_steps
  all_goals ((try dsimp only); exact ret_tup (fun a h' tk' => hret a _ _ 0 h' tk') hG' (by k_asm) (by k_asm) (by k_asm) (by k_asm) rfl (by k_mem))

/-- what _law_meet reckons -/
def meetN (b : Nat) : Nat → Nat → Nat → Nat
  | 0, x, _ => x
  | f + 1, x, y => if x = y then x else if y < x then meetN b f (x / b) y else meetN b f x (y / b)
theorem fdiv_nat (x b : Nat) : ((x : Int)).fdiv (b : Int) = ((x / b : Nat) : Int) := by
  rw [Int.fdiv_eq_ediv_of_nonneg _ (Int.natCast_nonneg _)]; rfl
theorem fmod_nat (x b : Nat) : ((x : Int)).fmod (b : Int) = ((x % b : Nat) : Int) := by
  rw [Int.fmod_eq_emod_of_nonneg _ (Int.natCast_nonneg _)]; rfl
theorem over_comm {x y : PySem.Str} (h : x ≠ y) (u v w : Option Value) (m : PySem.Str → Option Value) : (fun z => if z = y then v else over x u (over y w m) z) = over x u (over y v m) := by
  funext z
  by_cases h1 : z = y
  · subst h1; simp [over, Ne.symm h]
  · simp [over, h1]
theorem law_meet {w mean mg mb} (x y b : Nat) (t u v : Tok) (hb : 1 < b) (hb2 : b < 1000000) : Ctr w mean mg mb 221 [.int (x : Int) t, .int (y : Int) u, .int (b : Int) v] 8 (fun t => .int (meetN b (x + y + 1) x y : Nat) t) := by
  unfold Ctr Sur PR; dsimp only [CbRet]
  k_fill
  intros
  rename_i hret
  refine wpAny_call ?_
  k_dflt (refine' enter_plain0 ?k1 ?k2 ?k3 ?k4 ?k5 ?kA ?kF ?kK ?k6 ?k7 ?k8 ?k9 ?kB ?_ ?c2 ?c3 ?c4 ?c5; (case kA => exact rfl); (case kF => exact rfl); (case kK => assumption); (case k1 => k_asm); (case k2 => k_asm); (case k3 => k_asm); (case k4 => k_asm); (case k5 => k_asm); (case k6 => k_is); (case k7 => k_is); (case k8 => ktr_room); (case k9 => first | exact BindsTo.of_eq (binds := [(_, _)]) rfl | exact BindsTo.of_eq (binds := [(_, _), (_, _)]) rfl | exact BindsTo.of_eq (binds := [(_, _), (_, _), (_, _)]) rfl); (case c5 => decide); (case kB => exact locs rfl); (case c2 => exact rfl); (case c3 => exact rfl); (case c4 => exact rfl); k_whole; intro g' L' h' FG' F' N' B' X' T' hG' GZ DZ tkZ OZ QZ hQZ; (try dsimp only); (try k_lift B'))

  refine wpAny_execs_cons ?_
  rename Fr g' _ _ _ => lF
  rename News g' _ _ _ => lN
  refine While_inv2 (fun n m news => news = [] ∧ ∃ (x' y' : Nat) (t' u' : Tok), m = over (PySem.Str.ofString "one") (some (.int (x' : Int) t')) (over (PySem.Str.ofString "two") (some (.int (y' : Int) u')) (fun z => if z = PySem.Str.ofString "base" then some (.int (b : Int) v) else none)) ∧ n = x' + y' ∧ ∃ f, x' + y' < f ∧ meetN b f x' y' = meetN b (x + y + 1) x y) (n₀ := x + y) lF lN ?_ ?_
  · refine ⟨rfl, x, y, t, u, ?_, rfl, _, Nat.lt_succ_self _, rfl⟩
    funext z
    by_cases e1 : z = PySem.Str.ofString "one"
    · subst e1; rfl
    · by_cases e2 : z = PySem.Str.ofString "two"
      · subst e2; rfl
      · by_cases e3 : z = PySem.Str.ofString "base"
        · subst e3; rfl
        · have n1 : (z == PySem.Str.ofString "one") = false := by simpa using e1
          have n2 : (z == PySem.Str.ofString "two") = false := by simpa using e2
          have n3 : (z == PySem.Str.ofString "base") = false := by simpa using e3
          simp only [over, e1, e2, e3, if_false]
          show List.lookup z [(PySem.Str.ofString "base", _), (PySem.Str.ofString "two", _), (PySem.Str.ofString "one", _)] = none
          simp only [List.lookup, n1, n2, n3]
  · rintro n m news h tk F N ⟨rfl, x', y', t', u', rfl, rfl, f, hf, hr⟩
    obtain ⟨f, rfl⟩ : ∃ f', f = f' + 1 := ⟨f - 1, by omega⟩
    k_steps
    · have hne : x' ≠ y' := by omega
      have hlt : y' < x' := by omega
      have hd : x' / b < x' := Nat.div_lt_self (by omega) hb
      rw [meetN, if_neg hne, if_pos hlt] at hr
      have hF := (by assumption : Fr _ _ _ (fun z => if z = PySem.Str.ofString "one" then _ else _))
      rw [fdiv_nat, over_over] at hF
      exact ⟨_, _, _, _, x' / b + y', rfl, hF, by k_asm, by omega, rfl, x' / b, y', _, _, rfl, rfl, f, by omega, hr⟩
    · have hne : x' ≠ y' := by omega
      have hlt : ¬ y' < x' := by omega
      have hd : y' / b < y' := Nat.div_lt_self (by omega) hb
      rw [meetN, if_neg hne, if_neg hlt] at hr
      have hF := (by assumption : Fr _ _ _ (fun z => if z = PySem.Str.ofString "two" then _ else _))
      rw [fdiv_nat, over_comm (by decide)] at hF
      exact ⟨_, _, _, _, x' + y' / b, rfl, hF, by k_asm, by omega, rfl, x', y' / b, _, _, rfl, rfl, f, by omega, hr⟩
    · have he : x' = y' := by omega
      rw [meetN, if_pos he] at hr
      try dsimp only
      rw [hr]
      exact hret _ _ _ (by k_asm) (by k_asm)
end Mine
end

open PySem.W in
theorem Mine.offLeast : True := by
  k_with_none
  w_top off
  exact trivial

section
open PySem PySem.W PySem.Spec PySem.Calls PyProof.Rows
namespace Mine
theorem rulleast1 : True := by
  k_with "call ref" => (k_here; k_dflt (first | (refine ctr_use (law_meet _ _ _ _ _ _ (by assumption) (by assumption)) (h := ?_); intro t9 h9 tk9 F9 N9; (try (revert t9 h9 tk9 F9 N9; intros)))); (try dsimp only); (try k_fold))
  trivial
def Hold (p : Prop) : Prop := p
theorem For_hold {prog : Program} {w : World} {A : Around} {s : Shared} {env : Env} {h₀ : Heap} {E : Value → Shared → Prop} {Q : Flow → Shared → Prop} {x : PySem.Str} {px pos : Pos} {iter : PySem.Expr} {body : List Stmt} {m : PySem.Str → Option Value} (F : Fr h₀ env.locals s.heap m) (hx : env.kindOf x = some .local)
    (hp : (env.scope.kind == .class || (env.scope.kind == .module && env.locals != env.globals)) = false)
    (h : wpAny (model prog w) A (eval iter env) (fun xv s₁ => Hold (wpAny (model prog w) A (pyIter xv) (fun it s₂ => LoopAtV prog w A h₀ env x body Q E it s₂) E s₁)) E s)
    (hs : ∀ x, foldedSetIterable iter env x = pure x := by intro _; rfl)
    (hE : PassesOwn (model prog w) A env E := by passes_own) :
    wpAny (model prog w) A (exec (.For (.Name x px) iter body [] pos) env) Q E s := For_invVF F hx hp h hs hE
theorem rulleast2 : True := by
  k_with "exec For Name Name cons nil" => (k_here; (rename Fr _ _ _ _ => lF'); (with_unfolding_all refine For_hold lF' (by rfl) (by rfl) ?_))
  k_with "subscriptTail" => (k_here; (with_reducible show wpAny _ _ (subscriptTail _ _ (Value.ref _) (Value.int 0 _)) _ _ _); (with_unfolding_all refine item_base (l := 0) (by k_asm) (by assumption) (by assumption) (by assumption) ?_ (by with_unfolding_all rfl)); intro t'; (try (revert t'; intros)))
  trivial
theorem over_turn {x y : PySem.Str} (h : x ≠ y) (u u' v w : Option Value) (m : PySem.Str → Option Value) : (fun z => if z = y then v else if z = x then u' else over x u (over y w m) z) = over x u' (over y v m) := by
  funext z
  by_cases h1 : z = y
  · subst h1; simp [over, Ne.symm h]
  · by_cases h2 : z = x
    · subst h2; simp [over, h]
    · simp [over, h1, h2]
theorem loop_one {prog : Program} {w : World} {A : Around} {s : Shared} {env : Env} {h₀ : Heap} {E : Value → Shared → Prop} {Q : Flow → Shared → Prop} {body : List Stmt} {x y : PySem.Str} {D : Addr} {vs : List Value} {ns : List Int} {rest : PySem.Str → Option Value} {v0 : Value} {news : List (Addr × Obj)} (P : Nat → Value → Prop)
    (hh : A.handled = none) (hL : h₀.IsList D vs.toArray) (hi : IntsAre vs ns) (F : Fr h₀ env.locals s.heap (fun z => if z = y then some v0 else rest z)) (N : News h₀ env.locals s.heap news) (h0 : P 0 v0)
    (turn : ∀ i n t a uo h tk own, ns[i]? = some n → P i a → Fr h₀ env.locals h (fun z => if z = x then some (.int n t) else over x uo (over y (some a) rest) z) → News h₀ env.locals h (own ++ news) →
      wpAny (model prog w) A (execs body env) (InvPost h₀ env.locals (fun m => ∃ a uo, m = over x uo (over y (some a) rest) ∧ P (i + 1) a) (own ++ news) { s with heap := h, toks := tk } Q) E { s with heap := h, toks := tk })
    (done : ∀ a uo h tk, P ns.length a → Fr h₀ env.locals h (over x uo (over y (some a) rest)) → News h₀ env.locals h news → Q .next { s with heap := h, toks := tk }) :
    wpAny (model prog w) A (pyIter (.ref D)) (fun it s₂ => LoopAtV prog w A h₀ env x body Q E it s₂) E s :=
  iter_inv (fun i m => ∃ a uo, m = over x uo (over y (some a) rest) ∧ P i a) hh hL hi F N ⟨v0, _, over_own x _, h0⟩
    (fun i n t m₁ h tk own hn hj F₁ N₁ => by obtain ⟨a, uo, rfl, hp⟩ := hj; exact turn i n t a uo h tk own hn hp F₁ N₁)
    (fun m₁ h tk hj F₁ N₁ => by obtain ⟨a, uo, rfl, hp⟩ := hj; exact done a uo h tk hp F₁ N₁)
/-- a call that reads a list of the caller's -/
abbrev CtrI (w : World) (mean : ExcName → Option Value) (mg mb : PySem.Str → Option Value) (f : Addr) (vs : List Value) (c : Nat) (own : List (Addr × Obj)) (R : Tok → Value) : Prop :=
  Sur w mean mg mb f vs c (fun n => own ++ n) fun h₀ L m news s Q => CbRet h₀ L m (own ++ news) s Q R
def leastN (b : Nat) (ns : List Nat) : Nat := ns.foldl (fun r o => meetN b (r + o + 1) r o) (ns.getD 0 0)
theorem law_least {w mean mg mb} (D : Addr) (vs : List Value) (nn : Nat) (ns : List Nat) (b : Nat) (u : Tok) (hi : IntsAre vs (ns.map (fun d : Nat => (d : Int)))) (hz : 0 < ns.length ∧ ns.length ≤ 16777000) (hb : 1 < b) (hb2 : b < 1000000) : CtrI w mean mg mb 228 [.ref D, .int (b : Int) u] 12 [(D, listOf vs.toArray nn)] (fun t => .int (leastN b ns : Nat) t) := by
  unfold CtrI Sur PR; dsimp only [CbRet]
  k_fill
  intros
  rename_i hret
  refine wpAny_call ?_
  k_dflt (refine' enter_plain0 ?k1 ?k2 ?k3 ?k4 ?k5 ?kA ?kF ?kK ?k6 ?k7 ?k8 ?k9 ?kB ?_ ?c2 ?c3 ?c4 ?c5; (case kA => exact rfl); (case kF => exact rfl); (case kK => assumption); (case k1 => k_asm); (case k2 => k_asm); (case k3 => k_asm); (case k4 => k_asm); (case k5 => k_asm); (case k6 => k_is); (case k7 => k_is); (case k8 => ktr_room); (case k9 => first | exact BindsTo.of_eq (binds := [(_, _)]) rfl | exact BindsTo.of_eq (binds := [(_, _), (_, _)]) rfl | exact BindsTo.of_eq (binds := [(_, _), (_, _), (_, _)]) rfl); (case c5 => decide); (case kB => exact locs rfl); (case c2 => exact rfl); (case c3 => exact rfl); (case c4 => exact rfl); k_whole; intro g' L' h' FG' F' N' B' X' T' hG' GZ DZ tkZ OZ QZ hQZ; (try dsimp only); (try k_lift B'))
  have hL : g'.IsList D vs.toArray := ⟨_, hG' _ (.head _), rfl, nn, rfl⟩
  k_steps

  rename Fr _ _ _ _ => lF
  rename News _ _ _ _ => lN
  show wpAny _ _ (pyIter _) _ _ _
  refine loop_one (y := PySem.Str.ofString "number") (fun i a => ∃ t', a = .int (((ns.take i).foldl (fun r o => meetN b (r + o + 1) r o) (ns.getD 0 0) : Nat) : Int) t') rfl hL hi lF lN ?_ ?_ ?_
  · refine ⟨_, congrArg (fun z : Int => Value.int z _) ?_⟩
    first | rfl | (show ((ns.map (fun d : Nat => (d : Int))).getD _ 0 : Int) = _; cases ns with | nil => rfl | cons a r => rfl)
  · rintro i n t a uo h tk own hn ⟨t', rfl⟩ F N
    obtain ⟨nv, rfl, hnv⟩ : ∃ nv : Nat, n = (nv : Int) ∧ ns[i]? = some nv := by
      rw [List.getElem?_map] at hn
      cases e : ns[i]? with
      | none => rw [e] at hn; cases hn
      | some nv => rw [e] at hn; exact ⟨nv, (Option.some.inj hn).symm, rfl⟩
    k_steps
    refine InvEnd.intro (by k_asm) (by k_asm) (fun p hp => hp) ⟨_, _, over_turn (by decide) _ _ _ _ _, _, congrArg (fun z : Nat => Value.int (z : Int) _) ?_⟩
    rw [List.take_add_one, hnv, List.foldl_append]
    rfl
  · rintro a uo h tk ⟨t', rfl⟩ F N
    rw [List.length_map, List.take_length] at F
    (try dsimp only)
    (try k_fold)
    k_steps
    (try dsimp only)
    exact hret _ _ _ (by k_asm) (by k_asm)
end Mine
end

open PySem.W in
theorem Mine.offRevl : True := by
  k_with_none
  w_top off
  exact trivial

section
open PySem PySem.W PySem.Spec PySem.Calls PyProof.Rows
namespace Mine

section
variable {prog : Program} {w : World} {A : Around} {E : Value → Shared → Prop} {s : Shared} {env : Env} {h₀ : Heap} {x : PySem.Str} {body : List Stmt} {Q : Flow → Shared → Prop}
theorem rev_inv {I : Addr} {lp : Addr × Obj} (J : List Value → (PySem.Str → Option Value) → List (Addr × Obj) → Prop)
    (hk : ∀ r m n, J r m n → lp ∈ n)
    (turn : ∀ v r m news o h tk, J (v :: r) m news → o.cls = .type "list_reverseiterator" → Fr h₀ env.locals h (fun y => if y = x then some v else m y) → News h₀ env.locals h ((I, o) :: news) →
      wpAny (model prog w) A (execs body env) (TurnPost h₀ env.locals s (I, o) (J r) Q) E { s with heap := h, toks := tk })
    (fin : ∀ m news h tk, J [] m news → Fr h₀ env.locals h m → News h₀ env.locals h news → Q .next { s with heap := h, toks := tk }) (vs : List Value) :
    ∀ m news, J vs m news → RevRest prog w A E h₀ env x body Q s I lp vs m news := by
  induction vs with
  | nil => exact fun m news hj => RevRest.zero fun h tk F N => fin m news h tk hj F N
  | cons v r ih =>
    intro m news hj
    refine RevRest.succ fun o h tk ho F N => ?_
    refine wpAny_mono (turn v r m news o h tk hj ho F N) (fun f s₃ h₃ => ?_) fun _ _ e => e
    have fin' : TurnEnd h₀ env.locals s (I, o) (J r) s₃ → UnrEnd h₀ env.locals { s with heap := h, toks := tk } I o (fun m' n' => lp ∈ n' ∧ RevRest prog w A E h₀ env x body Q s I lp r m' n') s₃ := by
      rintro ⟨h', tk', m', news', all, rfl, F', N', hi, hs, ho', hj'⟩
      obtain ⟨h2, tk2, m2, n2, e, F2, N2, o2, r2⟩ := UnrEndW.intro (s₁ := { s with heap := h, toks := tk }) (tk := tk') (its := [(I, o)]) (rest := fun m' n' => lp ∈ n' ∧ RevRest prog w A E h₀ env x body Q s I lp r m' n') F' N' news' ⟨hi, trivial⟩ hs ho' ⟨hk _ _ _ hj', ih _ _ hj'⟩
      exact ⟨h2, tk2, m2, n2, e, F2, N2, fun p hp => o2 p hp _ (.head _), r2⟩
    cases f with
    | ret v => exact h₃
    | brk => exact h₃
    | next => exact fin' h₃
    | cont => exact fin' h₃
end

/-- it hands back a new tuple, and may fill the code tables -/
abbrev CtrDT (w : World) (mean : ExcName → Option Value) (mg mb : PySem.Str → Option Value) (f : Addr) (vs : List Value) (c : Nat) (own : List (Addr × Obj)) (R : Tok → Tok → List Value) : Prop :=
  SurD w mean mg mb f vs c own fun K Q => ∀ (a : Addr) (t u : Tok) (T' : List (Addr × Obj)) (h' : Heap) (tk' : Nat), OkT T' → Dj T' own → (∀ p ∈ T', p.1 ≠ a) → (∀ p ∈ own, p.1 ≠ a) → K ((a, { cls := .type "tuple", data := .seq (R t u).toArray }) :: (own ++ T')) h' → Q (.ref a) h' tk'
section
variable {w : World} {mean : ExcName → Option Value} {mg mb : PySem.Str → Option Value} {f : Addr} {vs : List Value} {c : Nat} {own : List (Addr × Obj)} {dp un : Nat} {gd : Option (List Code)} {cn : PySem.Str} {cs : Scope} {a : Addr} {ccd : Value} {cl : List (PySem.Str × Addr)} {outer : List Env} {A₀ : Around} {base h₀ : Heap} {L : Addr} {m : PySem.Str → Option Value} {T : List (Addr × Obj)} {s : Shared} {Q E : Value → Shared → Prop}
theorem dl_use {ds : List Int} (C : CtrDL w mean mg mb f vs c own ds)
    (h1 : Below A₀ base outer h₀ := by k_asm) (h2 : Fr h₀ L s.heap m := by k_asm) (h3 : (hd.heap_1 w.params).In h₀ := by k_asm) (h4 : News h₀ L s.heap (own ++ T) := by k_asm) (h5 : OkT T := by assumption) (h6 : Dj T own := by first | exact Dj.nil | assumption) (h7 : Hds h₀ := by assumption) (h8 : Top topProg LO mean mg mb h₀ := by k_asm) (h9 : cs.kind = .function := by first | exact rfl | assumption) (hA : dp + c < recursionLimit := by cb_room) (hB : un + 8 * c < cLine := by cb_units)
    (h : ∀ (a : Addr) (us : List Value) (nn : Nat) (T' : List (Addr × Obj)) (h' : Heap) (tk' : Nat), OkT T' → Dj T' own → IntsAre us ds → (∀ p ∈ T', p.1 ≠ a) → (∀ p ∈ own, p.1 ≠ a) → Fr h₀ L h' m → News h₀ L h' ((a, listOf us.toArray nn) :: (own ++ T')) → Q (.ref a) { s with heap := h', toks := tk' }) :
      wpAny (model PR w) (ktrTop dp un gd cn cs L a ccd cl outer) (call (.ref f) vs) Q E s :=
  C dp un gd cn cs a ccd cl outer A₀ base h₀ L m T s Q E h1 h2 h3 h4 h5 h6 h7 h8 h9 hA hB fun a us nn T' h' tk' x1 x2 x3 x4 x5 x6 => h a us nn T' h' tk' x1 x2 x3 x4 x5 x6.1 x6.2
theorem dp_use {R : Tok → Value} (C : CtrD w mean mg mb f vs c own R)
    (h1 : Below A₀ base outer h₀ := by k_asm) (h2 : Fr h₀ L s.heap m := by k_asm) (h3 : (hd.heap_1 w.params).In h₀ := by k_asm) (h4 : News h₀ L s.heap (own ++ T) := by k_asm) (h5 : OkT T := by assumption) (h6 : Dj T own := by first | exact Dj.nil | assumption) (h7 : Hds h₀ := by assumption) (h8 : Top topProg LO mean mg mb h₀ := by k_asm) (h9 : cs.kind = .function := by first | exact rfl | assumption) (hA : dp + c < recursionLimit := by cb_room) (hB : un + 8 * c < cLine := by cb_units)
    (h : ∀ (t : Tok) (T' : List (Addr × Obj)) (h' : Heap) (tk' : Nat), OkT T' → Dj T' own → Fr h₀ L h' m → News h₀ L h' (own ++ T') → Q (R t) { s with heap := h', toks := tk' }) :
      wpAny (model PR w) (ktrTop dp un gd cn cs L a ccd cl outer) (call (.ref f) vs) Q E s :=
  C dp un gd cn cs a ccd cl outer A₀ base h₀ L m T s Q E h1 h2 h3 h4 h5 h6 h7 h8 h9 hA hB fun t T' h' tk' x1 x2 x6 => h t T' h' tk' x1 x2 x6.1 x6.2
theorem dt_use {R : Tok → Tok → List Value} (C : CtrDT w mean mg mb f vs c own R)
    (h1 : Below A₀ base outer h₀ := by k_asm) (h2 : Fr h₀ L s.heap m := by k_asm) (h3 : (hd.heap_1 w.params).In h₀ := by k_asm) (h4 : News h₀ L s.heap (own ++ T) := by k_asm) (h5 : OkT T := by assumption) (h6 : Dj T own := by first | exact Dj.nil | assumption) (h7 : Hds h₀ := by assumption) (h8 : Top topProg LO mean mg mb h₀ := by k_asm) (h9 : cs.kind = .function := by first | exact rfl | assumption) (hA : dp + c < recursionLimit := by cb_room) (hB : un + 8 * c < cLine := by cb_units)
    (h : ∀ (a : Addr) (t u : Tok) (T' : List (Addr × Obj)) (h' : Heap) (tk' : Nat), OkT T' → Dj T' own → (∀ p ∈ T', p.1 ≠ a) → (∀ p ∈ own, p.1 ≠ a) → Fr h₀ L h' m → News h₀ L h' ((a, { cls := .type "tuple", data := .seq (R t u).toArray }) :: (own ++ T')) → Q (.ref a) { s with heap := h', toks := tk' }) :
      wpAny (model PR w) (ktrTop dp un gd cn cs L a ccd cl outer) (call (.ref f) vs) Q E s :=
  C dp un gd cn cs a ccd cl outer A₀ base h₀ L m T s Q E h1 h2 h3 h4 h5 h6 h7 h8 h9 hA hB fun a t u T' h' tk' x1 x2 x3 x4 x6 => h a t u T' h' tk' x1 x2 x3 x4 x6.1 x6.2
end
/-- how many figures to the base 2^k -/
def figs (k x : Nat) : Nat := (Builtin.Int.intBits (x : Int) + k - 1) / k
theorem figs_is {k x : Nat} (hk : 0 < k) : (((Builtin.Int.intBits (x : Int) : Nat) : Int) + (k : Int) - 1).fdiv k = ((figs k x : Nat) : Int) := by
  unfold figs
  rw [← fdiv_nat]
  congr 1
  (first | lia | omega)
theorem bits_pos {x : Nat} (hx : 0 < x) : 0 < Builtin.Int.intBits (x : Int) := by
  rcases Nat.eq_zero_or_pos (Builtin.Int.intBits (x : Int)) with h | h
  · have := intBits_le_iff.mp (Nat.le_of_eq h)
    simp at this
    (first | lia | omega)
  · exact h
theorem bits_le {x m : Nat} (hx : x < 2 ^ m) : Builtin.Int.intBits (x : Int) ≤ m := intBits_le_iff.mpr (by simpa using hx)
theorem bits_lt {x m : Nat} (hx : Builtin.Int.intBits (x : Int) ≤ m) : x < 2 ^ m := by simpa using intBits_le_iff.mp hx
theorem figs_pos {k x : Nat} (hk : 0 < k) (hx : 0 < x) : 0 < figs k x := by
  have := bits_pos hx
  exact Nat.div_pos (by (first | lia | omega)) hk
theorem figs_le {k x m : Nat} (hk : 0 < k) (hx : x < 2 ^ m) : figs k x * k ≤ m + k := by
  have h1 := bits_le hx
  have h2 := Nat.div_mul_le_self (Builtin.Int.intBits (x : Int) + k - 1) k
  unfold figs
  (first | lia | omega)
theorem figs_lt {k x : Nat} (hk : 0 < k) : x < (2 ^ k) ^ figs k x := by
  rw [← Nat.pow_mul]
  refine bits_lt ?_
  have h2 := Nat.div_add_mod (Builtin.Int.intBits (x : Int) + k - 1) k
  have h3 := Nat.mod_lt (Builtin.Int.intBits (x : Int) + k - 1) hk
  unfold figs
  (first | lia | omega)
theorem i2dF {w : World} {mean : ExcName → Option Value} {mg mb : PySem.Str → Option Value} (x k : Nat) (t u : Tok) (hx : 0 < x) (hx2 : x < 2 ^ 40) (hk : 0 < k) (hk2 : k < 8) (own : List (Addr × Obj)) :
    CtrDL w mean mg mb 176 [.int x t, .int k u] 80 own (digs (2 ^ k) (figs k x) x) :=
  i2d x k t u (figs k x) (figs_is hk) (by have h1 := figs_le hk hx2; have h2 : figs k x ≤ figs k x * k := Nat.le_mul_of_pos_right _ hk; (first | lia | omega)) (figs_pos hk hx) (figs_lt hk) hx (by (first | lia | omega)) hk hk2 own

theorem ints_inv : ∀ (D x B : Nat), 0 < B → ∃ l : List Nat, l.length = D ∧ (∀ d ∈ l, d < B) ∧ digs B D x = l.map (fun d : Nat => (d : Int)) ∧ valOf B l = x % B ^ D
  | 0, x, B, hB => ⟨[], rfl, nofun, rfl, by simp [valOf, Nat.mod_one]⟩
  | D + 1, x, B, hB => by
    obtain ⟨l, h1, h2, h3, h4⟩ := ints_inv D (x / B) B hB
    refine ⟨x % B :: l, by rw [List.length_cons, h1], fun d hd => ?_, by rw [digs, h3]; rfl, ?_⟩
    · rcases List.mem_cons.mp hd with rfl | hd
      · exact Nat.mod_lt _ hB
      · exact h2 d hd
    · rw [valOf, h4, Nat.pow_succ, Nat.mul_comm (B ^ D) B, Nat.mod_mul]
/-- how far the long division has come -/
structure Div (B a b : Nat) (todo : List Nat) (qd : List Nat) (r : Nat) : Prop where
  split : ∃ p : List Nat, valOf B (todo.reverse ++ p.reverse) = a ∧ p.length = qd.length ∧ valOf B p.reverse = b * valOf B qd.reverse + r
  rem : r < b
  td : ∀ d ∈ todo, d < B
  qs : ∀ d ∈ qd, d < B
theorem Div.step {B a b d r : Nat} {todo qd : List Nat} (h : Div B a b (d :: todo) qd r) : Div B a b todo (qd ++ [(r * B + d) / b]) ((r * B + d) % b) := by
  obtain ⟨⟨p, h1, h2, h3⟩, hr, ht, hq⟩ := h
  have hb : 0 < b := by (first | lia | omega)
  have hd := ht d (.head _)
  refine ⟨⟨p ++ [d], ?_, by simp [h2], ?_⟩, Nat.mod_lt _ hb, fun e he => ht e (.tail _ he), fun e he => ?_⟩
  · rw [List.reverse_append]
    rw [List.reverse_cons, List.append_assoc] at h1
    exact h1
  · rw [List.reverse_append, List.reverse_append]
    show d + B * valOf B p.reverse = b * ((r * B + d) / b + B * valOf B qd.reverse) + _
    rw [h3]
    have e := Nat.div_add_mod (r * B + d) b
    have e2 : B * (b * valOf B qd.reverse + r) = b * (B * valOf B qd.reverse) + r * B := by
      rw [Nat.mul_add, Nat.mul_left_comm, Nat.mul_comm B r]
    rw [Nat.mul_add b]
    (first | lia | omega)
  · rcases List.mem_append.mp he with he | he
    · exact hq e he
    · rw [List.mem_singleton.mp he, Nat.div_lt_iff_lt_mul hb]
      have : (r + 1) * B ≤ b * B := Nat.mul_le_mul_right B hr
      rw [Nat.add_mul, Nat.one_mul] at this
      rw [Nat.mul_comm B b]
      (first | lia | omega)
theorem Div.last {B a b r : Nat} {qd : List Nat} (h : Div B a b [] qd r) : valOf B qd.reverse = a / b ∧ r = a % b := by
  obtain ⟨⟨p, h1, h2, h3⟩, hr, ht, hq⟩ := h
  have hb : 0 < b := by (first | lia | omega)
  rw [List.reverse_nil, List.nil_append] at h1
  rw [h1] at h3
  subst h3
  constructor
  · rw [Nat.mul_comm b, Nat.add_comm, Nat.add_mul_div_right _ _ hb, Nat.div_eq_of_lt hr, Nat.zero_add]
  · rw [Nat.mul_comm b, Nat.add_comm, Nat.add_mul_mod_self_right, Nat.mod_eq_of_lt hr]
theorem over_three {x y z : PySem.Str} (h1 : x ≠ y) (h2 : x ≠ z) (h3 : y ≠ z) (u1 u2 u3 v2 v3 : Option Value) (m : PySem.Str → Option Value) :
    (fun t => if t = z then v3 else if t = y then v2 else over x u1 (over y u2 (over z u3 m)) t) = over x u1 (over y v2 (over z v3 m)) := by
  funext t
  by_cases e1 : t = x
  · subst e1; simp [over, h1, h2]
  · by_cases e2 : t = y
    · subst e2; simp [over, e1, h3]
    · by_cases e3 : t = z
      · subst e3; simp [over, e1, e2]
      · simp [over, e1, e2, e3]
theorem offW_of {I : Addr} {o : Obj} {l : List (Addr × Obj)} (h : ∀ p ∈ l, p.1 ≠ I) : OffW [(I, o)] l := by
  induction l with
  | nil => exact trivial
  | cons p r ih => exact ⟨⟨.inl (fun e => h p (.head _) e), trivial⟩, ih fun q hq => h q (.tail _ hq)⟩
theorem offI_of {I : Addr} {o : Obj} {l : List (Addr × Obj)} (h : ∀ p ∈ l, p.1 ≠ I) : OffI I o l := by
  induction l with
  | nil => exact trivial
  | cons p r ih => exact ⟨.inl (h p (.head _)), ih fun q hq => h q (.tail _ hq)⟩
theorem loop_rev {prog : Program} {w : World} {A : Around} {E : Value → Shared → Prop} {s : Shared} {env : Env} {h₀ : Heap} {body : List Stmt} {Q : Flow → Shared → Prop} {x y z : PySem.Str} {I lq ax : Addr} {post : List (Addr × Obj)} {vs qs0 : List Value} {n n0 : Nat} {m₀ : PySem.Str → Option Value} {r0 : Int} {t0 : Tok} (P : List Value → List Value → Int → Prop)
    (hh : A.handled = none) (F : Fr h₀ env.locals s.heap m₀) (N : News h₀ env.locals s.heap ((I, revObj ax ((vs.length : Int) - 1)) :: (lq, listOf qs0.toArray n0) :: (ax, listOf vs.toArray n) :: post)) (hp : lq ≠ I ∧ ax ≠ I ∧ ∀ p ∈ post, p.1 ≠ I)
    (hz : m₀ z = some (.int r0 t0)) (h0 : P vs.reverse qs0 r0)
    (turn : ∀ v r qs nn rr tr u2 o h tk, P (v :: r) qs rr → o.cls = .type "list_reverseiterator" → Fr h₀ env.locals h (over x (some v) (over y u2 (over z (some (.int rr tr)) m₀))) → News h₀ env.locals h ((I, o) :: (lq, listOf qs.toArray nn) :: (ax, listOf vs.toArray n) :: post) →
      wpAny (model prog w) A (execs body env) (TurnPost h₀ env.locals s (I, o) (fun m' news' => ∃ u1 u2 qs' nn' rr' tr', m' = over x u1 (over y u2 (over z (some (.int rr' tr')) m₀)) ∧ news' = (lq, listOf qs'.toArray nn') :: (ax, listOf vs.toArray n) :: post ∧ P r qs' rr') Q) E { s with heap := h, toks := tk })
    (fin : ∀ qs nn rr tr u1 u2 h tk, P [] qs rr → Fr h₀ env.locals h (over x u1 (over y u2 (over z (some (.int rr tr)) m₀))) → News h₀ env.locals h ((lq, listOf qs.toArray nn) :: (ax, listOf vs.toArray n) :: post) → Q .next { s with heap := h, toks := tk }) :
    wpAny (model prog w) A (pyIter (.ref I)) (fun it s₂ => LoopAtV prog w A h₀ env x body Q E it s₂) E s := by
  have hne : ∀ p ∈ (lq, listOf qs0.toArray n0) :: (ax, listOf vs.toArray n) :: post, p.1 ≠ I := fun p hp' => by
    rcases List.mem_cons.mp hp' with rfl | hp'
    · exact hp.1
    · rcases List.mem_cons.mp hp' with rfl | hp'
      · exact hp.2.1
      · exact hp.2.2 p hp'
  refine iter_revUnr hh F N (offI_of hne) (.tail _ (.head _)) rfl rfl ?_
  refine rev_inv (fun r m news => ∃ u1 u2 qs' nn' rr' tr', m = over x u1 (over y u2 (over z (some (.int rr' tr')) m₀)) ∧ news = (lq, listOf qs'.toArray nn') :: (ax, listOf vs.toArray n) :: post ∧ P r qs' rr') ?_ ?_ ?_ _ _ _ ?_
  · rintro r m news ⟨u1, u2, qs, nn, rr, tr, rfl, rfl, hP⟩
    exact .tail _ (.head _)
  · rintro v r m news o h tk ⟨u1, u2, qs, nn, rr, tr, rfl, rfl, hP⟩ ho F₁ N₁
    exact turn v r qs nn rr tr u2 o h tk hP ho (by rw [over_over] at F₁; exact F₁) N₁
  · rintro m news h tk ⟨u1, u2, qs, nn, rr, tr, rfl, rfl, hP⟩ F₁ N₁
    exact fin qs nn rr tr u1 u2 h tk hP F₁ N₁
  · refine ⟨m₀ x, m₀ y, qs0, n0, r0, t0, ?_, rfl, h0⟩
    rw [← hz, ← over_own z m₀, ← over_own y m₀]
    exact over_own x m₀
theorem ints_snoc (q : Nat) (t : Tok) {qs : List Value} {qd : List Nat} (h : IntsAre qs (qd.map (fun d : Nat => (d : Int)))) : IntsAre (qs ++ [.int (q : Int) t]) ((qd ++ [q]).map (fun d : Nat => (d : Int))) := by
  rw [List.map_append]
  exact h.append (.cons _ _ .nil)
theorem off_of {g h' : Heap} {L' : Addr} {all own T' : List (Addr × Obj)} (N' : News g L' h' all) (hG : ∀ q ∈ own, g.get? q.1 = some q.2) (hT : ∀ p ∈ T', p ∈ all) : Dj T' own := fun p hp q hq e => by
  have := (N' p (hT p hp)).2.2
  rw [e, hG q hq] at this
  cases this
theorem news_three {h₀ h' : Heap} {L : Addr} {all own T' : List (Addr × Obj)} {x : Addr × Obj} (N : News h₀ L h' all) (R : News h₀ L h' own) (hT : ∀ p ∈ T', p ∈ all) (hx : x ∈ all) : News h₀ L h' (x :: (own ++ T')) := fun p hp => by
  rcases List.mem_cons.mp hp with rfl | hp
  · exact N _ hx
  · exact (List.mem_append.mp hp).elim (R p) fun h => N p (hT p h)
theorem retDT {Q : Value → Shared → Prop} {h₀ g h' : Heap} {L L' : Addr} {m : PySem.Str → Option Value} {own all T' : List (Addr × Obj)} {s : Shared} {R : Tok → Tok → List Value} {vs' : List Value} {a : Addr} {t u : Tok} {tk' : Nat}
    (hret : ∀ (a : Addr) (t u : Tok) (T' : List (Addr × Obj)) (h' : Heap) (tk' : Nat), OkT T' → Dj T' own → (∀ p ∈ T', p.1 ≠ a) → (∀ p ∈ own, p.1 ≠ a) → (Fr h₀ L h' m ∧ News h₀ L h' ((a, { cls := .type "tuple", data := .seq (R t u).toArray }) :: (own ++ T'))) → Q (.ref a) { s with heap := h', toks := tk' })
    (hG : ∀ q ∈ own, g.get? q.1 = some q.2) (N' : News g L' h' all) (F : Fr h₀ L h' m) (N : News h₀ L h' all) (N2 : News h₀ L h' own) (okT : OkT T') (hT : ∀ p ∈ T', p ∈ all) (lt : ∀ p ∈ T', p.1 ≠ a) (hm : (a, ({ cls := .type "tuple", data := .seq vs'.toArray } : Obj)) ∈ all) (e : vs' = R t u) : Q (.ref a) { s with heap := h', toks := tk' } := by
  subst e
  exact hret a t u T' h' tk' okT (off_of N' hG hT) lt (fun p hp => ((off_of (T' := [_]) N' hG (fun p hp => by rw [List.mem_singleton.mp hp]; exact hm)) _ (.head _) p hp).symm) ⟨F, news_three N N2 hT hm⟩
theorem pair_eq {p p' r r' : Nat} {t u : Tok} (h1 : p = p') (h2 : r = r') : [Value.int (p : Int) t, Value.int (r : Int) u] = [Value.int (p' : Int) t, Value.int (r' : Int) u] := by rw [h1, h2]
theorem shl_eq (r n d : Nat) : ((r : Int) * 2 ^ ((n : Nat) : Int).toNat + (d : Int)) = ((r * 2 ^ n + d : Nat) : Int) := by simp
theorem rulrevl1 : True := by
  k_with "call ref" => (k_here; k_dflt (first | (refine ctrT_use (div2n1n _ _ _ _ _ _ (by (rw [shl_eq]; (first | lia | omega))) (by (first | lia | omega)) (by (first | lia | omega)) (by (rw [shl_eq]; exact Int.natCast_nonneg _)) (by (rw [shl_eq]; (first | lia | omega)))) (h := ?_); intro a9 t9 u9 v9 h9 tk9 F9 N9 l9; (replace l9 := allNe_of l9; simp only [AllNe, and_true] at l9); (try (revert a9 t9 u9 v9 h9 tk9 F9 N9 l9; intros))) | (refine dp_use (d2i _ _ _ _ _ _ (by assumption) (by assumption) (by (first | lia | omega)) (by (first | lia | omega)) (by assumption) (by assumption) (by assumption) [_, _] (.head _)) (by k_asm) (by k_asm) (by k_asm) (by k_asm) (by assumption) (by assumption) (by assumption) (by k_asm) (by (first | exact rfl | assumption)) (by cb_room) (by cb_units) ?_; intro t9 T9 h9 tk9 okT dj9 F9 N9; (simp only [List.cons_append, List.nil_append] at N9); (try (revert t9 T9 h9 tk9 okT dj9 F9 N9; intros))) | (refine dl_use (i2dF _ _ _ _ (by assumption) (by assumption) (by assumption) (by assumption) []) (h := ?_); intro a9 us9 n9 T9 h9 tk9 okT dj9 hi9 ne9 ne8 F9 N9; (try simp only [List.nil_append] at N9); (try (revert a9 us9 n9 T9 h9 tk9 okT dj9 hi9 ne9 ne8 F9 N9; intros)))); (try dsimp only); (try k_fold))
  k_with "call builtin:list.reverse" => (k_here; (with_reducible show wpAny _ _ (call (Value.builtin _) [Value.ref _]) _ _ _); k_dflt (refine kl_reverse (by k_asm) (by k_asm) (by rfl) (by k_upd) (by (simp [sizeLine_eq]; (first | lia | omega))) ?_); intro h' F' N'; (try (revert h' F' N'; intros)))
  k_with "pyIter ref" => (k_here; k_dflt (show Hold _))
  trivial
theorem divmod_pos {w mean mg mb} (a b n : Nat) (t u : Tok) (own : List (Addr × Obj)) (ha : 0 < a) (ha2 : a < 2 ^ 40) (hb : 1 < b) (hb2 : b < 2 ^ n) (hn : Builtin.Int.intBits (b : Int) = n) (hn0 : 0 < n) (hn2 : n < 8) : CtrDT w mean mg mb 190 [.int (a : Int) t, .int (b : Int) u] 100 own (fun t u => [.int ((a / b : Nat) : Int) t, .int ((a % b : Nat) : Int) u]) := by
  unfold CtrDT SurD PR
  k_fill
  intro dp un gd cn cs aF ccd cl outer A₀ base h₀ L m T s Q E h1 h2 h3 h4 h5 h6 h7 h8 h9 h10 h11 hret
  have h4' : News h₀ L s.heap (T ++ own) := newsSub h4 fun p hp => by simp only [List.mem_append] at hp ⊢; rcases hp with h | h <;> simp [h]
  refine wpAny_call ?_
  k_dflt (refine' enter_plain (part := T) (rest := own) ?k1 ?k2 ?k3 h4' (dj_ne h6) ?k5 ?kA ?kF ?kK ?k6 ?k7 ?k8 ?k9 ?kB ?_ ?c2 ?c3 ?c4 ?c5; (case kA => exact rfl); (case kF => exact rfl); (case kK => assumption); (case k1 => k_asm); (case k2 => k_asm); (case k3 => k_asm); (case k5 => k_asm); (case k6 => k_is); (case k7 => k_is); (case k8 => ktr_room); (case k9 => first | exact BindsTo.of_eq (binds := [(_, _)]) rfl | exact BindsTo.of_eq (binds := [(_, _), (_, _)]) rfl | exact BindsTo.of_eq (binds := [(_, _), (_, _), (_, _)]) rfl); (case c5 => decide); (case kB => exact locs rfl); (case c2 => exact rfl); (case c3 => exact rfl); (case c4 => exact rfl); k_whole; intro g' L' h' FG' F' N' B' X' T' l1 hG' GZ DZ tkZ OZ QZ hQZ; (try dsimp only); (try k_lift B'))
  have hH := h7.keeps FG'.keep
  have hbb : b < 256 := by
    have : (2 : Nat) ^ n ≤ 2 ^ 7 := Nat.pow_le_pow_right (by decide) (by (first | lia | omega))
    (first | lia | omega)
  have hbits := hn
  subst hn
  k_steps
  rename IntsAre _ _ => hi
  obtain ⟨ds, e1, e2, e3, e4⟩ := ints_inv (figs (Builtin.Int.intBits (b : Int)) a) a (2 ^ Builtin.Int.intBits (b : Int)) (Nat.pow_pos (by decide))
  rw [Nat.mod_eq_of_lt (figs_lt hn0)] at e4
  rw [e3] at hi
  have hlen : ds.length ≤ 60 ∧ ds.length * Builtin.Int.intBits (b : Int) ≤ 60 ∧ 0 < ds.length := by
    rw [e1]
    have h1 := figs_le hn0 ha2
    have h2 : figs (Builtin.Int.intBits (b : Int)) a ≤ figs (Builtin.Int.intBits (b : Int)) a * Builtin.Int.intBits (b : Int) := Nat.le_mul_of_pos_right _ hn0
    exact ⟨by (first | lia | omega), by (first | lia | omega), figs_pos hn0 ha⟩
  have hir := hi.reverse
  rename_i a9 us9 n9 T9 h9 tk9 okT dj9 ne9 ne8 _ _ _ lq _ lA _ Dr _ lF lN lL
  show wpAny _ _ (pyIter _) _ _ _
  refine loop_rev (y := PySem.Str.ofString "q_digit") (z := PySem.Str.ofString "r") (fun r qs rr => ∃ (todo qd : List Nat) (rn : Nat), IntsAre r (todo.map (fun d : Nat => (d : Int))) ∧ IntsAre qs (qd.map (fun d : Nat => (d : Int))) ∧ rr = (rn : Int) ∧ qd.length + todo.length = ds.length ∧ Div (2 ^ Builtin.Int.intBits (b : Int)) a b todo qd rn) rfl lF lN ⟨Nat.ne_of_lt lL.1, Nat.ne_of_lt lL.2.1, fun p hp => Nat.ne_of_lt (lt_of_all lL.2.2 p hp)⟩ rfl ?_ ?_ ?_
  · refine ⟨ds.reverse, [], 0, by rw [List.map_reverse]; exact hir, .nil, rfl, by simp, ⟨[], by simpa using e4, rfl, rfl⟩, by (first | lia | omega), fun d hd => e2 d (List.mem_reverse.mp hd), nofun⟩
  · rintro v r qs nn rr tr u2 o h tk ⟨todo, qd, rn, i1, i2, rfl, i4, dv⟩ ho F N
    obtain ⟨d, todo', rfl⟩ : ∃ d todo', todo = d :: todo' := by
      cases todo with
      | nil => cases i1
      | cons d t => exact ⟨d, t, rfl⟩
    obtain ⟨td, vs', e, i1'⟩ := IntsAre.cons_inv (n := (d : Int)) i1
    cases e
    have hrn := dv.rem
    have hdd := dv.td d (.head _)
    have hl2 : qs.length = qd.length := by rw [i2.length, List.length_map]
    rw [List.length_cons] at i4
    have hpow : 2 ^ Builtin.Int.intBits (b : Int) ≤ 128 := Nat.le_trans (Nat.pow_le_pow_right (by decide) (by (first | lia | omega))) (Nat.le_of_eq (by decide : 2 ^ 7 = 128))
    have hxx : rn * 2 ^ Builtin.Int.intBits (b : Int) + d < 2 ^ 16 := by
      have : rn * 2 ^ Builtin.Int.intBits (b : Int) ≤ 256 * 128 := Nat.mul_le_mul (by (first | lia | omega)) hpow
      (first | lia | omega)
    have hxb := bits_le hxx
    k_steps
    rename Fr g' _ _ _ => F8
    rename News g' _ _ _ => N8
    (try simp only [List.push_toArray] at N8)
    rw [shl_eq, fdiv_nat, fmod_nat] at F8
    rw [shl_eq, fdiv_nat] at N8
    show TurnEnd _ _ _ _ _ _
    refine TurnEnd.intro F8 N8 (.tail _ (.head _)) _ (subL_of fun p hp => .tail _ (.tail _ hp)) (offW_of fun p hp => ?_) ⟨_, _, _, _, _, _, over_three (by decide) (by decide) (by decide) _ _ _ _ _ _, rfl, todo', _, _, i1', ints_snoc _ _ i2, rfl, by simp only [List.length_append, List.length_cons, List.length_nil]; (first | lia | omega), dv.step⟩
    · rcases List.mem_cons.mp hp with rfl | hp
      · exact Nat.ne_of_lt lL.1
      · rcases List.mem_cons.mp hp with rfl | hp
        · exact Nat.ne_of_lt lL.2.1
        · exact Nat.ne_of_lt (lt_of_all lL.2.2 p hp)
  · rintro qs nn rr tr u1 u2 h tk ⟨todo, qd, rn, i1, i2, rfl, i4, dv⟩ F N
    obtain rfl : todo = [] := by
      cases todo with
      | nil => rfl
      | cons d t => cases i1
    obtain ⟨q1, q2⟩ := dv.last
    have hqi : IntsAre qs.reverse (qd.reverse.map (fun d : Nat => (d : Int))) := by rw [List.map_reverse]; exact i2.reverse
    have hql : qd.reverse.length = ds.length := by rw [List.length_reverse]; simpa using i4
    have hq2 : ∀ d ∈ qd.reverse, d < 2 ^ Builtin.Int.intBits (b : Int) := fun d hd => dv.qs d (List.mem_reverse.mp hd)
    have hl2 : qs.length = ds.length := by rw [i2.length, List.length_map]; simpa using i4
    have hqk : qd.reverse.length * Builtin.Int.intBits (b : Int) ≤ 60 := by rw [hql]; exact hlen.2.1
    have djT : ∀ n2, Dj T9 [(lq, listOf qs.reverse.toArray n2), (a9, listOf us9.toArray n9)] := fun n2 => Dj.cons (fun p hp => Nat.ne_of_lt (lt_of_all lA.2 p hp)) (Dj.cons ne9 Dj.nil)
    have djT := djT nn
    k_steps
    dsimp only
    rename _ ∧ _ ∧ AllLt _ _ => lt9
    refine retDT hret hG' (by k_asm) (by k_asm) (by k_asm) (by k_asm) (by assumption) (fun p hp => .tail _ (.tail _ (.tail _ hp))) (fun p hp => Nat.ne_of_lt (lt_of_all lt9.2.2 p hp)) (.head _) (pair_eq q1 q2)
theorem rulrevl2 : True := by
  k_with "call ref" => (k_here; k_dflt (first | (refine dt_use (divmod_pos _ _ _ _ _ [] (by assumption) (by assumption) (by assumption) (by assumption) (by assumption) (by assumption) (by assumption)) (by k_asm) (by k_asm) (by k_asm) (by k_asm) (by assumption) (by exact Dj.nil) (by assumption) (by k_asm) (by (first | exact rfl | assumption)) (by cb_room) (by cb_units) ?_; intro a9 t9 u9 T9 h9 tk9 okT dj9 ne8 ne9 F9 N9; (try simp only [List.nil_append] at N9); (try (revert a9 t9 u9 T9 h9 tk9 okT dj9 ne8 ne9 F9 N9; intros)))); (try dsimp only); (try k_fold))
  trivial
theorem int_divmod {w mean mg mb} (a b n : Nat) (t u : Tok) (own : List (Addr × Obj)) (ha : 0 < a) (ha2 : a < 2 ^ 40) (hb : 1 < b) (hb2 : b < 2 ^ n) (hn : Builtin.Int.intBits (b : Int) = n) (hn0 : 0 < n) (hn2 : n < 8) : CtrDT w mean mg mb 197 [.int (a : Int) t, .int (b : Int) u] 104 own (fun t u => [.int ((a / b : Nat) : Int) t, .int ((a % b : Nat) : Int) u]) := by
  unfold CtrDT SurD PR
  k_fill
  intro dp un gd cn cs aF ccd cl outer A₀ base h₀ L m T s Q E h1 h2 h3 h4 h5 h6 h7 h8 h9 h10 h11 hret
  have h4' : News h₀ L s.heap (T ++ own) := newsSub h4 fun p hp => by simp only [List.mem_append] at hp ⊢; rcases hp with h | h <;> simp [h]
  refine wpAny_call ?_
  k_dflt (refine' enter_plain (part := T) (rest := own) ?k1 ?k2 ?k3 h4' (dj_ne h6) ?k5 ?kA ?kF ?kK ?k6 ?k7 ?k8 ?k9 ?kB ?_ ?c2 ?c3 ?c4 ?c5; (case kA => exact rfl); (case kF => exact rfl); (case kK => assumption); (case k1 => k_asm); (case k2 => k_asm); (case k3 => k_asm); (case k5 => k_asm); (case k6 => k_is); (case k7 => k_is); (case k8 => ktr_room); (case k9 => first | exact BindsTo.of_eq (binds := [(_, _)]) rfl | exact BindsTo.of_eq (binds := [(_, _), (_, _)]) rfl | exact BindsTo.of_eq (binds := [(_, _), (_, _), (_, _)]) rfl); (case c5 => decide); (case kB => exact locs rfl); (case c2 => exact rfl); (case c3 => exact rfl); (case c4 => exact rfl); k_whole; intro g' L' h' FG' F' N' B' X' T' l1 hG' GZ DZ tkZ OZ QZ hQZ; (try dsimp only); (try k_lift B'))
  have hH := h7.keeps FG'.keep
  k_steps
  · exact absurd (by assumption : (b : Int) = 0) (by (first | lia | omega))
  · dsimp only
    exact retDT hret hG' (by k_asm) (by k_asm) (by k_asm) (by k_asm) (by assumption) (fun p hp => .tail _ hp) (by assumption) (.head _) rfl
end Mine
end

open PySem.W in
theorem Mine.offPath : True := by
  k_with_none
  w_top off
  exact trivial

section
open PySem PySem.W PySem.Spec PySem.Calls PyProof.Rows
namespace Mine

/-- the number that a path's figures tell, the folder at the top last -/
abbrev numOf' (k : Nat) (ds : List Nat) : Nat := valOf (2 ^ k) (ds ++ [1])
theorem numOf_eq (k : Nat) (ds : List Nat) : numOf' k ds = valOf (2 ^ k) ds + (2 ^ k) ^ ds.length := by
  show valOf _ (ds ++ [1]) = _
  rw [valOf_append]
  simp [valOf]
theorem numOf_pos (k : Nat) (ds : List Nat) : 0 < numOf' k ds := by
  rw [numOf_eq]
  have : 0 < (2 ^ k) ^ ds.length := Nat.pow_pos (Nat.pow_pos (by decide))
  (first | lia | omega)
theorem numOf_lt {k : Nat} {ds : List Nat} (h : ∀ d ∈ ds, d < 2 ^ k) : numOf' k ds < 2 * (2 ^ k) ^ ds.length := by
  rw [numOf_eq]
  have := valOf_lt (B := 2 ^ k) (Nat.pow_pos (by decide)) h
  (first | lia | omega)
theorem numOf_bits {k : Nat} {ds : List Nat} (h : ∀ d ∈ ds, d < 2 ^ k) : Builtin.Int.intBits ((numOf' k ds : Nat) : Int) = ds.length * k + 1 := by
  have h1 := numOf_lt h
  rw [← Nat.pow_mul, Nat.mul_comm k] at h1
  have h2 : numOf' k ds < 2 ^ (ds.length * k + 1) := by rw [Nat.pow_succ]; (first | lia | omega)
  refine Nat.le_antisymm (bits_le h2) (Nat.lt_of_not_le fun hle => ?_)
  have h3 := bits_lt hle
  have h4 := numOf_eq k ds
  rw [← Nat.pow_mul, Nat.mul_comm k] at h4
  (first | lia | omega)
theorem numOf_figs {k : Nat} {ds : List Nat} (hk : 0 < k) (h : ∀ d ∈ ds, d < 2 ^ k) : figs k (numOf' k ds) = ds.length + 1 := by
  unfold figs
  rw [numOf_bits h, show ds.length * k + 1 + k - 1 = (ds.length + 1) * k from by rw [Nat.add_mul]; (first | lia | omega)]
  exact Nat.mul_div_cancel _ hk
theorem lt_snoc {k : Nat} {ds : List Nat} (hk : 0 < k) (h : ∀ d ∈ ds, d < 2 ^ k) : ∀ d ∈ ds ++ [1], d < 2 ^ k := fun d hd => by
  rcases List.mem_append.mp hd with hd | hd
  · exact h d hd
  · rw [List.mem_singleton.mp hd]
    exact Nat.one_lt_two_pow (by (first | lia | omega))
theorem numOf_digs {k : Nat} {ds : List Nat} (hk : 0 < k) (h : ∀ d ∈ ds, d < 2 ^ k) : digs (2 ^ k) (figs k (numOf' k ds)) (numOf' k ds) = (ds ++ [1]).map (fun d : Nat => (d : Int)) := by
  have e := digs_val (B := 2 ^ k) (Nat.pow_pos (by decide)) (ds ++ [1]) (lt_snoc hk h)
  rw [numOf_figs hk h]
  rw [List.length_append] at e
  exact e
theorem numOf_le {k : Nat} {ds : List Nat} (h : ∀ d ∈ ds, d < 2 ^ k) (hl : ds.length * k < 40) : numOf' k ds < 2 ^ 40 := by
  have h1 := numOf_lt h
  rw [← Nat.pow_mul, Nat.mul_comm k] at h1
  have : 2 ^ (ds.length * k) ≤ 2 ^ 39 := Nat.pow_le_pow_right (by decide) (by (first | lia | omega))
  (first | lia | omega)
theorem i2dW {w : World} {mean : ExcName → Option Value} {mg mb : PySem.Str → Option Value} (ds : List Nat) (k : Nat) (t u : Tok) (hd : ∀ d ∈ ds, d < 2 ^ k) (hl : ds.length * k < 40) (hk : 0 < k) (hk2 : k < 8) (own : List (Addr × Obj)) :
    CtrDL w mean mg mb 176 [.int ((numOf' k ds : Nat) : Int) t, .int k u] 80 own ((ds ++ [1]).map (fun d : Nat => (d : Int))) := by
  have := i2dF (w := w) (mean := mean) (mg := mg) (mb := mb) (numOf' k ds) k t u (numOf_pos k ds) (numOf_le hd hl) hk hk2 own
  rw [numOf_digs hk hd] at this
  exact this

theorem pick_m2 (vs : List Value) : (slicePick vs.toArray (some (-2)) none (some (-1))).toList = vs.dropLast.reverse := by
  have e : sliceBounds (some (-2)) none (some (-1)) vs.toArray.size = ((((vs.length - 1 : Nat) : Int) - 1), -1, -1) := by
    simp only [sliceBounds, Option.getD_some, List.size_toArray]
    simp
    (first | lia | omega)
  unfold slicePick
  rw [e]
  show ((sliceRange (((vs.length - 1 : Nat) : Int) - 1) (-1) (-1)).filterMap (vs.toArray[·]?)) = _
  rw [krv_sliceRange, krv_range, List.filterMap_reverse, List.dropLast_eq_take]
  have h := pick_run vs.toArray 0 (vs.length - 1)
  have e2 : (List.range (vs.length - 1)).map (0 + ·) = List.range (vs.length - 1) := by
    rw [show ((0 + ·) : Nat → Nat) = id from funext fun k => Nat.zero_add k, List.map_id]
  rw [e2, List.drop_zero] at h
  rw [h]
section
open LCg
variable {prog : Program} {w : World} {A : Around} {E : Value → Shared → Prop} {s : Shared} {h₀ : Heap} {L : Addr} {m : PySem.Str → Option Value} {env : Env}
theorem comp_inv {elt : Expr} {x : PySem.Str} {scope : Scope} {cl : List (PySem.Str × Addr)} {S : List (Addr × Obj) → Prop} {P : Nat → Value → Prop} {Fin : List Value → List (Addr × Obj) → Prop} {n : Nat} {news : List (Addr × Obj)} (J : Nat → List Value → List (Addr × Obj) → Prop) (h0 : J 0 [] news)
    (turn : ∀ i v ys news I oI C oC D m₂ h tk (E' : Value → Shared → Prop), i < n → P i v → J i ys news → NsObj oC m₂ → m₂ x = some v → Fr h₀ L h m → News h₀ L h ((I, oI) :: (C, oC) :: (D, lst ys) :: news) → Off3 I C D news → ((@Ne Nat I C) ∧ (@Ne Nat I D) ∧ (@Ne Nat C D)) →
      wpAny (model prog w) A (eval elt (compEnvC scope cl C env)) (CompEnd h₀ L m { s with heap := h, toks := tk } I oI C oC D (lst ys) S (fun y news' => J (i + 1) (ys ++ [y]) news')) E' { s with heap := h, toks := tk })
    (fin : ∀ ys news, J n ys news → Fin ys news) : CompRest prog w A h₀ L m env elt x scope cl s S P Fin n 0 [] news := by
  have key : ∀ (j i : Nat) (ys : List Value) (news : List (Addr × Obj)), i + j = n → J i ys news → CompRest prog w A h₀ L m env elt x scope cl s S P Fin j i ys news := by
    intro j
    induction j with
    | zero => intro i ys news e hj; cases (show i = n from e); exact CompRest.zero (fin ys news hj)
    | succ j ih =>
      intro i ys news e hj
      refine CompRest.succ ?_
      intro v I oI C oC D m₂ h tk E' hv hC hx F N off ne
      refine wpAny_mono (turn i v ys news I oI C oC D m₂ h tk E' (by (first | lia | omega)) hv hj hC hx F N off ne) (fun y s₂ hq => ?_) fun _ _ e => e
      obtain ⟨h', tk', nw, e, F', N', off', hS, hn⟩ := hq
      exact ⟨h', tk', nw, e, F', N', off', hS, ih (i + 1) _ _ (by (first | lia | omega)) hn⟩
  exact key n 0 [] news (by (first | lia | omega)) h0
end
theorem rulpath1 : True := by
  k_with "call ref" => (k_here; k_dflt (first | (refine dl_use (i2dW _ _ _ _ (by assumption) (by assumption) (by assumption) (by assumption) []) (h := ?_); intro a9 us9 n9 T9 h9 tk9 okT dj9 hi9 ne9 ne8 F9 N9; (have hl9 := hi9.length; simp only [List.length_map, List.length_append, List.length_cons, List.length_nil] at hl9); (try simp only [List.nil_append] at N9); (try (revert a9 us9 n9 T9 h9 tk9 okT dj9 hi9 ne9 ne8 F9 N9; intros)))); (try dsimp only); (try k_fold))
  k_with "subscriptTail Name Slice ref ref" => (k_here; (with_reducible show wpAny _ _ (subscriptTail _ (PySem.Expr.Slice (some _) none (some _) _) (Value.ref _) (Value.ref _)) _ _ _); k_dflt (refine kmk_slice3_lit (lo := some (-2)) (hi := none) (st := some (-1)) (by k_asm) (by k_asm) (by kmk_list) (by kmk_part) (by kmk_part) (by kmk_part) (by decide) (pick_m2 _) ?_ (by with_unfolding_all rfl) (by kmk_pure) (by (simp only [List.size_toArray, sizeLine_eq]; (first | lia | omega)))); intro D' h' F' N' l1; (try k_lt l1); (try (revert D' h' F' N' l1; intros)); (try k_sweep))
  k_with "CompSrc" => (k_here; k_dflt (show Hold _))
  k_with "eval ListComp" => (k_here; k_dflt (refine LCg.ListComp_U (F₀ := by k_asm) (by with_unfolding_all rfl) (by decide) (by rfl) (by decide) (by rfl) ?_))
  trivial
noncomputable def figStr (d : Nat) : PySem.Str := PySem.Str.ofString (toString (d : Int))
noncomputable def pathOf (ds : List Nat) : PySem.Str := "/" ++ Txt.join "/" (ds.reverse.map figStr)
theorem figStr_len (d : Nat) : (figStr d).length ≤ d + 2 := by
  have := len_str_of_int (d : Int)
  unfold figStr
  (first | lia | omega)
theorem wt_figs {ds : List Nat} (hd : ∀ d ∈ ds, d < 16) : wt (ds.map figStr) ≤ 18 * ds.length := by
  induction ds with
  | nil => exact Nat.le_refl _
  | cons d r ih =>
    have h1 := ih fun e he => hd e (.tail _ he)
    have h2 := figStr_len d
    have h3 := hd d (.head _)
    rw [List.map_cons, wt_cons, List.length_cons]
    (first | lia | omega)
theorem retD {Q : Value → Shared → Prop} {h₀ g h' : Heap} {L L' : Addr} {m : PySem.Str → Option Value} {own all T' : List (Addr × Obj)} {s : Shared} {R : Tok → Value} {v : Value} {t : Tok} {tk' : Nat}
    (hret : ∀ (t : Tok) (T' : List (Addr × Obj)) (h' : Heap) (tk' : Nat), OkT T' → Dj T' own → (Fr h₀ L h' m ∧ News h₀ L h' (own ++ T')) → Q (R t) { s with heap := h', toks := tk' })
    (hG : ∀ q ∈ own, g.get? q.1 = some q.2) (N' : News g L' h' all) (F : Fr h₀ L h' m) (N : News h₀ L h' all) (N2 : News h₀ L h' own) (okT : OkT T') (hT : ∀ p ∈ T', p ∈ all) (e : v = R t) : Q v { s with heap := h', toks := tk' } := by
  subst e
  exact hret t T' h' tk' okT (off_of N' hG hT) ⟨F, fun p hp => (List.mem_append.mp hp).elim (N2 p) fun h => N p (hT p h)⟩
theorem join_in {prog : Program} {w : World} {A : Around} {E : Value → Shared → Prop} {s : Shared} {h₀ : Heap} {L d : Addr} {news : List (Addr × Obj)} {n : Nat} {vs : List Value} {ys : List PySem.Str} {x : PySem.Str} {t : Tok} {Q : Value → Shared → Prop} (N : News h₀ L s.heap news) (hm : (d, listOf vs.toArray n) ∈ news) (hi : StrsAre vs ys) (hsep : x.length ≤ 16) (hw : wt ys ≤ 1048576)
    (h : ∀ t' k, Q (.str (Txt.join x ys) t') { s with toks := k }) : wpAny (model prog w) A (call (.builtin "str.join") [.str x t, .ref d]) Q E s :=
  join_listW (list_in N hm) hi hsep hw h
theorem txt_join_le (l : List PySem.Str) : (Txt.join (PySem.Str.ofString "/") l).length ≤ wt l := by
  have h1 := StrLaws.join_length_le (PySem.Str.ofString "/") l
  rw [show Txt.join (PySem.Str.ofString "/") l = Str.join (PySem.Str.ofString "/") l from StrLaws.glued_eq_join _ _]
  have e : (PySem.Str.ofString "/").length = 1 := by decide
  rw [e] at h1
  unfold wt
  (first | lia | omega)
theorem strs_snoc {y : PySem.Str} {t : Tok} : ∀ {vs : List Value} {ys : List PySem.Str}, StrsAre vs ys → StrsAre (vs ++ [.str y t]) (ys ++ [y])
  | _, _, .nil => .cons y t .nil
  | _, _, .cons z u r => .cons z u (strs_snoc r)
theorem rulpath2 : True := by
  k_with "call builtin:str.join" => (k_here; k_dflt (refine join_in (by k_asm) (by k_mem) (by assumption) (by decide) (by (first | lia | omega)) ?_); intro t' k'; (try (revert t' k'; intros)))
  trivial
theorem law_path {w mean mg mb} (ds : List Nat) (k : Nat) (t u : Tok) (hd : ∀ d ∈ ds, d < 2 ^ k) (hl : ds.length * k < 40) (hk : 0 < k) (hk2 : k ≤ 4) (own : List (Addr × Obj)) :
    CtrD w mean mg mb 202 [.int ((numOf' k ds : Nat) : Int) t, .int k u] 90 own (fun t => .str (pathOf ds) t) := by
  unfold CtrD SurD PR
  k_fill
  intro dp un gd cn cs aF ccd cl outer A₀ base h₀ L m T s Q E h1 h2 h3 h4 h5 h6 h7 h8 h9 h10 h11 hret
  have h4' : News h₀ L s.heap (T ++ own) := newsSub h4 fun p hp => by simp only [List.mem_append] at hp ⊢; rcases hp with h | h <;> simp [h]
  refine wpAny_call ?_
  k_dflt (refine' enter_plain (part := T) (rest := own) ?k1 ?k2 ?k3 h4' (dj_ne h6) ?k5 ?kA ?kF ?kK ?k6 ?k7 ?k8 ?k9 ?kB ?_ ?c2 ?c3 ?c4 ?c5; (case kA => exact rfl); (case kF => exact rfl); (case kK => assumption); (case k1 => k_asm); (case k2 => k_asm); (case k3 => k_asm); (case k5 => k_asm); (case k6 => k_is); (case k7 => k_is); (case k8 => ktr_room); (case k9 => first | exact BindsTo.of_eq (binds := [(_, _)]) rfl | exact BindsTo.of_eq (binds := [(_, _), (_, _)]) rfl | exact BindsTo.of_eq (binds := [(_, _), (_, _), (_, _)]) rfl); (case c5 => decide); (case kB => exact locs rfl); (case c2 => exact rfl); (case c3 => exact rfl); (case c4 => exact rfl); k_whole; intro g' L' h' FG' F' N' B' X' T' l1 hG' GZ DZ tkZ OZ QZ hQZ; (try dsimp only); (try k_lift B'))
  have hH := h7.keeps FG'.keep
  have hk8 : k < 8 := by (first | lia | omega)
  have hdl : ds.length < 40 := by
    have : ds.length ≤ ds.length * k := Nat.le_mul_of_pos_right _ hk
    (first | lia | omega)
  k_steps
  rename_i a9 us n9 T9 h9 tk9 okT dj9 hi ne9 ne8 hl9 Dl h8 lF lN lL
  have hi2 : IntsAre us.dropLast.reverse (ds.reverse.map (fun d : Nat => (d : Int))) := by
    have e := hi.take ds.length
    rw [List.dropLast_eq_take, hl9, List.map_reverse]
    rw [List.map_append, List.take_left' (List.length_map _)] at e
    exact e.reverse
  have hlr : us.dropLast.reverse.length = ds.length := by rw [hi2.length, List.length_map, List.length_reverse]
  have hdr : ∀ d ∈ ds.reverse, d < 16 := fun d hd' => Nat.lt_of_lt_of_le (hd d (List.mem_reverse.mp hd')) (Nat.le_trans (Nat.pow_le_pow_right (by decide) hk2) (by decide : 2 ^ 4 ≤ 16))
  have hw := wt_figs hdr
  rw [List.length_reverse] at hw
  show LCg.CompSrc _ _ _ _ _ _ _ _ _ _ _ _ _ _
  refine LCg.CompSrc.ledger rfl lF lN (.head _) (by simp only [List.size_toArray, sizeLine_eq]; (first | lia | omega)) fun g => ?_
  refine comp_inv (fun i ys news => news = (Dl, listOf us.dropLast.reverse.toArray 0) :: (a9, listOf us.toArray n9) :: T9 ∧ StrsAre ys ((ds.reverse.take i).map figStr)) ⟨rfl, .nil⟩ ?_ ?_
  · rintro i v ys news I oI C oC D m₂ h tk E' hi' hv ⟨rfl, hy⟩ hC hx F N off ne
    obtain ⟨d, td, rfl, hdm, hdi⟩ : ∃ (d : Nat) (td : Tok), v = .int (d : Int) td ∧ d ∈ ds.reverse ∧ ds.reverse[i]? = some d := by
      obtain ⟨n, t', e, e2⟩ := hi2.at i v (by simpa using hv)
      rw [List.getElem?_map] at e2
      cases e3 : ds.reverse[i]? with
      | none => rw [e3] at e2; cases e2
      | some d => rw [e3] at e2; exact ⟨d, t', by rw [e, ← Option.some.inj e2], List.mem_of_getElem? e3, rfl⟩
    have hd16 := hdr d hdm
    k_steps
    refine LCg.CompEnd.intro (by assumption) (by assumption) _ (fun p hp => hp) off (.inr ⟨_, .head _, rfl, _, rfl⟩) ⟨rfl, ?_⟩
    rw [List.take_add_one, hdi, List.map_append]
    exact strs_snoc hy
  · rintro ys news ⟨rfl, hy⟩
    have hy : StrsAre ys (ds.reverse.map figStr) := by
      rw [List.size_toArray, hlr, ← List.length_reverse, List.take_length] at hy
      exact hy
    have hj := txt_join_le (ds.reverse.map figStr)
    have hyl : ys.length = ds.length := by rw [hy.length, List.length_map, List.length_reverse]
    intro D h tk F N off
    have N : News g' L' h ((D, listOf ys.toArray ys.length) :: (Dl, listOf us.dropLast.reverse.toArray 0) :: (a9, listOf us.toArray n9) :: T9) := N
    dsimp only
    k_steps
    dsimp only
    exact retD hret hG' (by k_asm) (by k_asm) (by k_asm) (by k_asm) (by assumption) (fun p hp => .tail _ (.tail _ (.tail _ hp))) rfl
end Mine
end

open PySem.W in
theorem Mine.offTexts : True := by
  k_with_none
  w_top off
  exact trivial

section
open PySem PySem.W PySem.Spec PySem.Calls PyProof.Rows
namespace Mine

section
open LCg LCt
variable {prog : Program} {w : World} {A : Around} {E : Value → Shared → Prop} {s : Shared} {h₀ : Heap} {L : Addr} {m : PySem.Str → Option Value} {env : Env}
theorem comp_invT {ct elt : Expr} {x : PySem.Str} {scope : Scope} {cl : List (PySem.Str × Addr)} {S : List (Addr × Obj) → Prop} {P : Nat → Value → Prop} {Fin : List Value → List (Addr × Obj) → Prop} {n : Nat} {news : List (Addr × Obj)} (J : Nat → List Value → List (Addr × Obj) → Prop) (h0 : J 0 [] news)
    (turn : ∀ i v ys news I oI C oC D m₂ h tk (E' : Value → Shared → Prop), i < n → P i v → J i ys news → NsObj oC m₂ → m₂ x = some v → Fr h₀ L h m → News h₀ L h ((I, oI) :: (C, oC) :: (D, lst ys) :: news) → Off3 I C D news → ((@Ne Nat I C) ∧ (@Ne Nat I D) ∧ (@Ne Nat C D)) →
      wpAny (model prog w) A (isTrue ct (compEnvC scope cl C env) (eval ct (compEnvC scope cl C env))) (fun ok s' => if ok = true then
        wpAny (model prog w) A (eval elt (compEnvC scope cl C env)) (CompEnd h₀ L m { s with heap := h, toks := tk } I oI C oC D (lst ys) S (fun y news' => J (i + 1) (ys ++ [y]) news')) E' s'
        else CompEnd h₀ L m { s with heap := h, toks := tk } I oI C oC D (lst ys) S (fun _ news' => J (i + 1) ys news') Value.none s') E' { s with heap := h, toks := tk })
    (fin : ∀ ys news, J n ys news → Fin ys news) : CompRestT prog w A h₀ L m env ct elt x scope cl s S P Fin n 0 [] news := by
  have key : ∀ (j i : Nat) (ys : List Value) (news : List (Addr × Obj)), i + j = n → J i ys news → CompRestT prog w A h₀ L m env ct elt x scope cl s S P Fin j i ys news := by
    intro j
    induction j with
    | zero => intro i ys news e hj; cases (show i = n from e); exact CompRestT.zero (fin ys news hj)
    | succ j ih =>
      intro i ys news e hj
      refine CompRestT.succ ?_
      intro v I oI C oC D m₂ h tk E' hv hC hx F N off ne
      refine wpAny_mono (turn i v ys news I oI C oC D m₂ h tk E' (by (first | lia | omega)) hv hj hC hx F N off ne) (fun ok s' hq => ?_) fun _ _ e => e
      cases ok with
      | true =>
        rw [if_pos rfl] at hq ⊢
        refine wpAny_mono hq (fun y s₂ hq => ?_) fun _ _ e => e
        obtain ⟨h', tk', nw, e, F', N', off', hS, hn⟩ := hq
        exact ⟨h', tk', nw, e, F', N', off', hS, ih (i + 1) _ _ (by (first | lia | omega)) hn⟩
      | false =>
        rw [if_neg Bool.false_ne_true] at hq ⊢
        obtain ⟨h', tk', nw, e, F', N', off', hS, hn⟩ := hq
        exact ⟨h', tk', nw, e, F', N', off', hS, ih (i + 1) _ _ (by (first | lia | omega)) hn⟩
  exact key n 0 [] news (by (first | lia | omega)) h0
end
/-- texts put together with a sign between -/
def jn (c : Nat) : List (List Nat) → List Nat
  | [] => []
  | [x] => x
  | x :: y :: r => x ++ c :: jn c (y :: r)
theorem join_cps (c : Nat) : ∀ l : List PySem.Str, (Str.join ⟨#[c]⟩ l).cps.toList = jn c (l.map (·.cps.toList))
  | [] => rfl
  | [x] => rfl
  | x :: y :: r => by
    have e : Str.join ⟨#[c]⟩ (x :: y :: r) = x ++ ⟨#[c]⟩ ++ Str.join ⟨#[c]⟩ (y :: r) := rfl
    have h := join_cps c (y :: r)
    rw [e]
    show (x.cps ++ #[c] ++ (Str.join ⟨#[c]⟩ (y :: r)).cps).toList = _
    rw [Array.toList_append, Array.toList_append, h]
    simp [jn]
theorem cut_eq {c : Nat} : ∀ {x y r r' : List Nat}, c ∉ x → c ∉ y → x ++ c :: r = y ++ c :: r' → x = y ∧ r = r'
  | [], [], r, r', _, _, h => ⟨rfl, by simpa using h⟩
  | [], b :: y, r, r', _, hy, h => by simp at h; exact absurd (by rw [h.1]; exact .head _) hy
  | a :: x, [], r, r', hx, _, h => by simp at h; exact absurd (by rw [← h.1]; exact .head _) hx
  | a :: x, b :: y, r, r', hx, hy, h => by
    simp only [List.cons_append, List.cons.injEq] at h
    obtain ⟨e1, e2⟩ := cut_eq (fun m => hx (.tail _ m)) (fun m => hy (.tail _ m)) h.2
    exact ⟨by rw [h.1, e1], e2⟩
theorem jn_inj {c : Nat} : ∀ {l1 l2 : List (List Nat)}, l1 ≠ [] → l2 ≠ [] → (∀ x ∈ l1, c ∉ x) → (∀ x ∈ l2, c ∉ x) → jn c l1 = jn c l2 → l1 = l2
  | [], _, h, _, _, _, _ => absurd rfl h
  | _ :: _, [], _, h, _, _, _ => absurd rfl h
  | [x], [y], _, _, _, _, h => by rw [show x = y from h]
  | [x], y :: z :: r, _, _, h1, _, h => by
    have : c ∈ x := by rw [show x = y ++ c :: jn c (z :: r) from h]; simp
    exact absurd this (h1 x (.head _))
  | x :: z :: r, [y], _, _, _, h2, h => by
    have : c ∈ y := by rw [show y = x ++ c :: jn c (z :: r) from h.symm]; simp
    exact absurd this (h2 y (.head _))
  | x :: x2 :: r, y :: y2 :: r', _, _, h1, h2, h => by
    obtain ⟨e1, e2⟩ := cut_eq (h1 x (.head _)) (h2 y (.head _)) (show x ++ c :: jn c (x2 :: r) = y ++ c :: jn c (y2 :: r') from h)
    have e3 := jn_inj (List.cons_ne_nil _ _) (List.cons_ne_nil _ _) (fun z hz => h1 z (.tail _ hz)) (fun z hz => h2 z (.tail _ hz)) e2
    rw [e1, e3]
theorem cps_inj : ∀ {a b : PySem.Str}, a.cps.toList = b.cps.toList → a = b
  | ⟨⟨_⟩⟩, ⟨⟨_⟩⟩, rfl => rfl
theorem cps_map_inj : ∀ {l1 l2 : List PySem.Str}, l1.map (·.cps.toList) = l2.map (·.cps.toList) → l1 = l2
  | [], [], _ => rfl
  | [], _ :: _, h => by cases h
  | _ :: _, [], h => by cases h
  | a :: r, b :: r', h => by
    simp only [List.map_cons, List.cons.injEq] at h
    rw [cps_inj h.1, cps_map_inj h.2]
theorem split_joined {c : Nat} {l : List PySem.Str} (hl : l ≠ []) (hf : ∀ p ∈ l, c ∉ p.cps.toList) : Txt.split (Str.join ⟨#[c]⟩ l) ⟨#[c]⟩ = l := by
  have h1 := StrLaws.join_split (Str.join ⟨#[c]⟩ l) ⟨#[c]⟩
  have h2 := StrLaws.split_free (Str.join ⟨#[c]⟩ l) c
  have h3 := split_pos (Str.join ⟨#[c]⟩ l) ⟨#[c]⟩
  have h4 := congrArg (fun s : PySem.Str => s.cps.toList) h1

  rw [join_cps, join_cps] at h4
  refine cps_map_inj (jn_inj (c := c) ?_ ?_ ?_ ?_ h4)
  · intro e; rw [List.map_eq_nil_iff.mp e] at h3; simp at h3
  · intro e; exact hl (List.map_eq_nil_iff.mp e)
  · intro x hx; obtain ⟨p, hp, rfl⟩ := List.mem_map.mp hx; exact h2 p hp
  · intro x hx; obtain ⟨p, hp, rfl⟩ := List.mem_map.mp hx; exact hf p hp
theorem fig_digits (d : Nat) : ∀ c ∈ (figStr d).cps.toList, 48 ≤ c ∧ c ≤ 57 := by
  intro c hc
  have hc : c ∈ (PySem.Str.ofString (toString ((d : Nat) : Int))).cps.toList := hc
  rw [KIN.signs_num] at hc
  obtain ⟨ch, hch, e⟩ := List.mem_map.mp hc
  have r := digit_range (Nat.isDigit_of_mem_toDigits (by decide) (by decide) hch)
  rw [← e]
  exact r
theorem fig_free (d : Nat) : 47 ∉ (figStr d).cps.toList := fun h => by have := fig_digits d _ h; (first | lia | omega)
theorem fig_inj {d e : Nat} (hd : d < 10 ^ 10) (he : e < 10 ^ 10) (h : figStr d = figStr e) : d = e := by
  have h1 := KIN.num_reads (n := (d : Int)) (by (first | lia | omega)) (by (first | lia | omega))
  have h2 := KIN.num_reads (n := (e : Int)) (by (first | lia | omega)) (by (first | lia | omega))
  unfold figStr at h
  rw [h, h2] at h1
  have := Option.some.inj h1
  (first | lia | omega)
theorem fig_some (d : Nat) : ∃ c r, (figStr d).cps.toList = c :: r ∧ 48 ≤ c ∧ c ≤ 57 := by
  cases e : (figStr d).cps.toList with
  | nil =>
    have : (PySem.Str.ofString (toString ((d : Nat) : Int))).cps.toList = [] := e
    rw [KIN.signs_num] at this
    have h := toDigits_len_ge 10 d
    rw [List.map_eq_nil_iff.mp this] at h
    exact absurd h (by decide)
  | cons c r => exact ⟨c, r, rfl, fig_digits d c (by rw [e]; exact .head _)⟩
theorem fig_ne {d : Nat} {x : PySem.Str} (h : ∀ c r, x.cps.toList = c :: r → ¬ (48 ≤ c ∧ c ≤ 57)) : figStr d ≠ x := by
  rintro e
  obtain ⟨c, r, e1, e2⟩ := fig_some d
  rw [e] at e1
  exact h c r e1 e2
theorem fig_ne_nil (d : Nat) : figStr d ≠ PySem.Str.ofString "" := fig_ne fun c r h => by cases (show ([] : List Nat) = c :: r from h)
theorem fig_ne_dot (d : Nat) : figStr d ≠ PySem.Str.ofString "." := fig_ne fun c r h => by
  have e : (PySem.Str.ofString ".").cps.toList = [46] := by decide
  rw [e] at h; cases h; (first | lia | omega)
theorem fig_ne_up (d : Nat) : figStr d ≠ PySem.Str.ofString ".." := fig_ne fun c r h => by
  have e : (PySem.Str.ofString "..").cps.toList = [46, 46] := by decide
  rw [e] at h; cases h; (first | lia | omega)
theorem txt_join (l : List PySem.Str) : Txt.join (PySem.Str.ofString "/") l = Str.join ⟨#[47]⟩ l := by
  rw [← slash_is]; exact StrLaws.glued_eq_join _ _
theorem txt_split_join {l : List PySem.Str} (hl : l ≠ []) (hf : ∀ p ∈ l, 47 ∉ p.cps.toList) : Txt.split (Txt.join (PySem.Str.ofString "/") l) (PySem.Str.ofString "/") = l := by
  rw [txt_join, slash_is]
  exact split_joined hl hf
theorem join_ahead (l : List PySem.Str) (hl : l ≠ []) : PySem.Str.ofString "/" ++ Txt.join (PySem.Str.ofString "/") l = Txt.join (PySem.Str.ofString "/") (PySem.Str.ofString "" :: l) := by
  rw [txt_join, txt_join]
  cases l with
  | nil => exact absurd rfl hl
  | cons a r =>
    show _ = PySem.Str.ofString "" ++ ⟨#[47]⟩ ++ Str.join ⟨#[47]⟩ (a :: r)
    have e : PySem.Str.ofString "" ++ ⟨#[47]⟩ = PySem.Str.ofString "/" := by decide
    rw [e]
/-- a path's parts: nothing ahead of the first slash, and the folders, or nothing again at the top -/
noncomputable def partsOf (l : List PySem.Str) : List PySem.Str := if l = [] then [PySem.Str.ofString ""] else l
theorem split_path (l : List PySem.Str) (hf : ∀ p ∈ l, 47 ∉ p.cps.toList) : Txt.split (PySem.Str.ofString "/" ++ Txt.join (PySem.Str.ofString "/") l) (PySem.Str.ofString "/") = PySem.Str.ofString "" :: partsOf l := by
  unfold partsOf
  have h0 : 47 ∉ (PySem.Str.ofString "").cps.toList := by decide
  by_cases hl : l = []
  · rw [if_pos hl]
    subst hl
    have e : PySem.Str.ofString "/" ++ Txt.join (PySem.Str.ofString "/") [] = Txt.join (PySem.Str.ofString "/") [PySem.Str.ofString "", PySem.Str.ofString ""] := by
      rw [txt_join, txt_join]; decide
    rw [e]
    exact txt_split_join (List.cons_ne_nil _ _) fun p hp => by
      rcases List.mem_cons.mp hp with rfl | hp
      · exact h0
      · rw [List.mem_singleton.mp hp]; exact h0
  · rw [if_neg hl, join_ahead l hl]
    exact txt_split_join (List.cons_ne_nil _ _) fun p hp => by
      rcases List.mem_cons.mp hp with rfl | hp
      · exact h0
      · exact hf p hp
theorem figs_free (ds : List Nat) : ∀ p ∈ ds.map figStr, 47 ∉ p.cps.toList := fun p hp => by
  obtain ⟨d, _, rfl⟩ := List.mem_map.mp hp
  exact fig_free d
theorem split_pathOf (ds : List Nat) : Txt.split (pathOf ds) (PySem.Str.ofString "/") = PySem.Str.ofString "" :: partsOf (ds.reverse.map figStr) := split_path _ (figs_free _)
end Mine
end

open PySem.W in
theorem Mine.offNumber : True := by
  k_with_none
  w_top off
  exact trivial

section
open PySem PySem.W PySem.Spec PySem.Calls PyProof.Rows
namespace Mine
theorem rulnumber1 : True := by
  k_with "call ref" => (k_here; k_dflt (first | (refine dp_use (d2i _ _ _ _ _ _ (by assumption) (by assumption) (by assumption) (by assumption) (by assumption) (by assumption) (by assumption) _ (by k_mem)) (h := ?_); intro t9 T9 h9 tk9 okT dj9 F9 N9; (try simp only [List.cons_append, List.nil_append] at N9); (try (revert t9 T9 h9 tk9 okT dj9 F9 N9; intros)))); (try dsimp only); (try k_fold))
  k_with "CompSrcT" => (k_here; k_dflt (show Hold _))
  k_with "eval ListComp" => (k_here; k_dflt (refine LCt.ListComp_T (F₀ := by k_asm) (by with_unfolding_all rfl) (by decide) (by rfl) (by decide) (by rfl) ?_))
  trivial
theorem call_fig {prog : Program} {w : World} {A : Around} {E : Value → Shared → Prop} {s : Shared} {Q : Value → Shared → Prop} {t : Tok} {d : Nat} (hd : d < 16) (h : Q (.int (d : Int) s.toks) { s with toks := s.toks + 1 }) : wpAny (model prog w) A (call (.type "int") [.str (figStr d) t]) Q E s :=
  KIN.call_num (n := (d : Int)) (by omega) (by omega) h
theorem rulnumber2 : True := by
  k_with "call type:int" => (k_here; k_dflt (refine call_fig (by omega) ?_))
  trivial
theorem fig_inj2 {d e : Nat} (he : e < 16) (h : figStr d = figStr e) : d = e := by
  have h1 : (figStr d).cps.toList = (figStr e).cps.toList := by rw [h]
  have h2 : (Nat.toDigits 10 d).map Char.toNat = (Nat.toDigits 10 e).map Char.toNat := by rw [← KIN.signs_num, ← KIN.signs_num]; exact h1
  have h3 := congrArg PySem.NumText.digitsVal h2
  rw [KIN.val_back, KIN.val_back] at h3
  exact h3
theorem fig_map_inj : ∀ {b a : List Nat}, (∀ d ∈ b, d < 16) → a.map figStr = b.map figStr → a = b
  | [], [], _, _ => rfl
  | [], _ :: _, _, h => by cases h
  | _ :: _, [], _, h => by cases h
  | e :: b, d :: a, hb, h => by
    simp only [List.map_cons, List.cons.injEq] at h
    rw [fig_map_inj (fun x hx => hb x (.tail _ hx)) h.2, fig_inj2 (hb e (.head _)) h.1]
theorem off1_mem {D : Addr} : ∀ {l : List (Addr × Obj)}, LCg.Off1 D l → ∀ p ∈ l, p.1 ≠ D
  | [], _, p, hp => nomatch hp
  | q :: r, h, p, hp => by
    rcases List.mem_cons.mp hp with e | hp
    · rw [e]; exact h.1
    · exact off1_mem h.2 p hp
theorem law_number {w mean mg mb} (ds : List Nat) (k : Nat) (t u : Tok) (hd : ∀ d ∈ ds, d < 2 ^ k) (hl : ds.length * k < 40) (hk : 0 < k) (hk2 : k ≤ 4) (own : List (Addr × Obj)) :
    CtrD w mean mg mb 207 [.str (pathOf ds) t, .int k u] 90 own (fun t => .int ((numOf' k ds : Nat) : Int) t) := by
  unfold CtrD SurD PR
  k_fill
  intro dp un gd cn cs aF ccd cl outer A₀ base h₀ L m T s Q E h1 h2 h3 h4 h5 h6 h7 h8 h9 h10 h11 hret
  have h4' : News h₀ L s.heap (T ++ own) := newsSub h4 fun p hp => by simp only [List.mem_append] at hp ⊢; rcases hp with h | h <;> simp [h]
  refine wpAny_call ?_
  k_dflt (refine' enter_plain (part := T) (rest := own) ?k1 ?k2 ?k3 h4' (dj_ne h6) ?k5 ?kA ?kF ?kK ?k6 ?k7 ?k8 ?k9 ?kB ?_ ?c2 ?c3 ?c4 ?c5; (case kA => exact rfl); (case kF => exact rfl); (case kK => assumption); (case k1 => k_asm); (case k2 => k_asm); (case k3 => k_asm); (case k5 => k_asm); (case k6 => k_is); (case k7 => k_is); (case k8 => ktr_room); (case k9 => first | exact BindsTo.of_eq (binds := [(_, _)]) rfl | exact BindsTo.of_eq (binds := [(_, _), (_, _)]) rfl | exact BindsTo.of_eq (binds := [(_, _), (_, _), (_, _)]) rfl); (case c5 => decide); (case kB => exact locs rfl); (case c2 => exact rfl); (case c3 => exact rfl); (case c4 => exact rfl); k_whole; intro g' L' h' FG' F' N' B' X' T' l1 hG' GZ DZ tkZ OZ QZ hQZ; (try dsimp only); (try k_lift B'))
  have hH := h7.keeps FG'.keep
  have hk8 : k < 8 := by omega
  have hdl : ds.length < 40 := by
    have : ds.length ≤ ds.length * k := Nat.le_mul_of_pos_right _ hk
    omega
  have hd16 : ∀ d ∈ ds, d < 16 := fun d hd' => Nat.lt_of_lt_of_le (hd d hd') (Nat.le_trans (Nat.pow_le_pow_right (by decide) hk2) (by decide : 2 ^ 4 ≤ 16))
  have hdr : ∀ d ∈ ds.reverse, d < 16 := fun d hd' => hd16 d (List.mem_reverse.mp hd')
  have hpl : (pathOf ds).length ≤ 1000 := by
    have h1 := txt_join_le (ds.reverse.map figStr)
    have h2 := wt_figs hdr
    rw [List.length_reverse] at h2
    have h3 : (PySem.Str.ofString "/").length = 1 := by decide
    unfold pathOf
    rw [Str.length_append]
    show (PySem.Str.ofString "/").length + _ ≤ _
    omega
  have hTl : ∀ p ∈ T, p.1 < h'.objs.size := fun p hp => Heap.lt_size (N' p hp).1
  k_steps
  rename_i l h6 k6 eP hS hLn hIs lF lN
  rw [split_pathOf] at eP
  have hlsz : (strValues l).length ≤ 60 := by
    have h1 : (strValues l).length = l.length := by simp [strValues]
    have h2 : l.length = (l.map (fun x => x.fst)).length := by simp
    rw [h1, h2, eP]
    unfold partsOf
    split <;> simp <;> omega
  have hfil : (l.map (fun x => x.fst)).filter (· != PySem.Str.ofString "") = ds.reverse.map figStr := by
    rw [eP]
    have e0 : (PySem.Str.ofString "" :: partsOf (ds.reverse.map figStr)).filter (· != PySem.Str.ofString "") = (partsOf (ds.reverse.map figStr)).filter (· != PySem.Str.ofString "") := List.filter_cons_of_neg (by decide)
    rw [e0]
    unfold partsOf
    split
    · rename_i e; rw [e]; exact List.filter_cons_of_neg (by decide)
    · refine List.filter_eq_self.mpr fun p hp => ?_
      obtain ⟨d, _, rfl⟩ := List.mem_map.mp hp
      exact bne_iff_ne.mpr (fig_ne_nil d)
  generalize hDl : (_ : Heap).objs.size = Dl at lN hIs ⊢
  show LCt.CompSrcT _ _ _ _ _ _ _ _ _ _ _ _ _ _ _
  refine LCt.CompSrcT.ledger rfl lF lN (.head _) (by simp only [List.size_toArray, sizeLine_eq]; omega) fun g => ?_
  refine comp_invT (fun i ys news => news = (Dl, listOf (strValues l).toArray _) :: T ∧ ∃ es : List Nat, IntsAre ys (es.map (fun d : Nat => (d : Int))) ∧ es.map figStr = (((l.map (fun x => x.fst)).take i).filter (· != PySem.Str.ofString ""))) ⟨rfl, [], .nil, rfl⟩ ?_ ?_
  · rintro i v ys news I oI C oC D m₂ h tk E' hi' hv ⟨rfl, es, hy, hes⟩ hC hx F N off ne
    obtain ⟨c, tc, rfl, hc⟩ : ∃ (c : PySem.Str) (tc : Tok), v = .str c tc ∧ (l.map (fun x => x.fst))[i]? = some c := by
      have hv : (strValues l)[i]? = some v := by simpa using hv
      unfold strValues at hv
      rw [List.getElem?_map] at hv ⊢
      cases e : l[i]? with
      | none => rw [e] at hv; cases hv
      | some p => rw [e] at hv; exact ⟨p.1, p.2, (Option.some.inj hv).symm, rfl⟩
    have hm := List.mem_of_getElem? hc
    have hend : ((l.map (fun x => x.fst)).take (i + 1)).filter (· != PySem.Str.ofString "") = ((l.map (fun x => x.fst)).take i).filter (· != PySem.Str.ofString "") ++ [c].filter (· != PySem.Str.ofString "") := by
      rw [List.take_add_one, hc, List.filter_append]; rfl
    by_cases e0 : c = PySem.Str.ofString ""
    · subst e0
      k_steps
      refine LCg.CompEnd.intro (by assumption) (by assumption) _ (fun p hp => hp) off (.inr ⟨_, .head _, rfl, _, rfl⟩) ⟨rfl, es, hy, ?_⟩
      rw [hend, ← hes, List.filter_cons_of_neg (by decide)]
      exact (List.append_nil _).symm
    · have hmf : c ∈ ds.reverse.map figStr := by
        rw [← hfil]; exact List.mem_filter.mpr ⟨hm, bne_iff_ne.mpr e0⟩
      obtain ⟨d, hdm, rfl⟩ := List.mem_map.mp hmf
      have hd6 := hdr d hdm
      have hb : (figStr d != PySem.Str.ofString "") = true := bne_iff_ne.mpr e0
      have hfl := figStr_len d
      k_steps
      refine LCg.CompEnd.intro (by assumption) (by assumption) _ (fun p hp => hp) off (.inr ⟨_, .head _, rfl, _, rfl⟩) ⟨rfl, es ++ [d], ints_snoc _ _ hy, ?_⟩
      have e1 : [figStr d].filter (· != PySem.Str.ofString "") = [figStr d] := List.filter_cons_of_pos hb
      rw [hend, ← hes, e1, List.map_append]
      rfl
  · rintro ys news ⟨rfl, es, hy, hes⟩
    rw [List.size_toArray, ← hS.length.symm, List.take_length, hfil] at hes
    obtain rfl : es = ds.reverse := fig_map_inj hdr hes
    have hyl : ys.length = ds.length := by rw [hy.length, List.length_map, List.length_reverse]
    intro D h tk F N off
    have N : News g' L' h ((D, listOf ys.toArray ys.length) :: (Dl, listOf (strValues l).toArray _) :: T) := N
    dsimp only
    have hi1 : IntsAre ys.reverse (ds.map (fun d : Nat => (d : Int))) := by
      have := hy.reverse
      rw [← List.map_reverse, List.reverse_reverse] at this
      exact this
    have hd1 : ∀ d ∈ ds ++ [1], d < 2 ^ k := lt_snoc hk hd
    have hz0 : 0 < (ds ++ [1]).length := by simp
    have hz1 : (ds ++ [1]).length ≤ 60 := by rw [List.length_append]; show ds.length + 1 ≤ 60; omega
    have hz2 : (ds ++ [1]).length * k ≤ 60 := by rw [List.length_append]; show (ds.length + 1) * k ≤ 60; rw [Nat.add_mul]; omega
    k_steps
    rename_i D1 ws1 h1 hI1 hC1 lt1 l2 h2 lt2 D3 ws3 h3 lF lN hI3 lt3
    rw [← List.map_reverse, List.reverse_reverse] at hI3
    have hI3 : IntsAre ws3 ((ds ++ [1]).map (fun d : Nat => (d : Int))) := by rw [List.map_append]; exact hI3
    refine dp_use (d2i _ _ _ _ _ _ hI3 hd1 hz0 hz1 hz2 hk hk8 [_, _, _, _, _] (.head _)) (by k_asm) (by k_asm) (by k_asm) lN (by assumption) ?_ (by assumption) (by k_asm) (by first | exact rfl | assumption) (by cb_room) (by cb_units) ?_
    · refine Dj.cons (fun p hp => Nat.ne_of_lt (lt_of_all lt3.2.2.2.2 p hp)) (Dj.cons (fun p hp => Nat.ne_of_lt (lt_of_all lt2.2.2.2 p hp)) (Dj.cons (fun p hp => Nat.ne_of_lt (lt_of_all lt1.2.2 p hp)) (Dj.cons (off1_mem off.2) (Dj.cons (fun p hp => ?_) Dj.nil))))
      exact hDl ▸ Nat.ne_of_lt (hTl p hp)
    · intro t9 T9 h9 tk9 okT dj9 F9 N9
      dsimp only
      k_steps
      dsimp only
      exact retD hret hG' (by k_asm) (by k_asm) (by k_asm) (by k_asm) okT (fun p hp => List.mem_append_right _ hp) rfl
end Mine
end

open PySem.W in
theorem Mine.offPathLaw : True := by
  k_with_none
  w_top off
  exact trivial

section
open PySem PySem.W PySem.Spec PySem.Calls PyProof.Rows
namespace Mine
set_option maxHeartbeats 200000

theorem str_eta : ∀ x : PySem.Str, x = ⟨⟨x.cps.toList⟩⟩
  | ⟨⟨_⟩⟩ => rfl
theorem cat_cps (x y : PySem.Str) : (x ++ y).cps.toList = x.cps.toList ++ y.cps.toList := Array.toList_append
theorem starts_slash (c : Nat) (r : List Nat) : Txt.startswith ⟨⟨c :: r⟩⟩ (PySem.Str.ofString "/") = (c == 47) := by
  rw [slash_is]
  unfold Txt.startswith Builtin.Str.subAt
  simp [PySem.Str.length]
theorem ends_slash (l : List Nat) (c : Nat) : Txt.endswith ⟨⟨l ++ [c]⟩⟩ (PySem.Str.ofString "/") = (c == 47) := by
  rw [slash_is]
  unfold Txt.endswith Builtin.Str.subAt
  simp [PySem.Str.length]
theorem at_slash (l : List Nat) (i : Nat) : StrLaws.At ⟨⟨l⟩⟩ (PySem.Str.ofString "/") (PySem.Str.length ⟨⟨l⟩⟩) i ↔ l[i]? = some 47 := by
  rw [slash_is]
  unfold StrLaws.At Builtin.Str.subAt
  simp [PySem.Str.length]
  constructor
  · rintro ⟨h1, h2⟩
    have hi : i < l.length := h1
    rw [List.drop_eq_getElem_cons hi] at h2
    rw [List.getElem?_eq_getElem hi]
    exact congrArg some (List.cons.inj (show l[i] :: (l.drop (i + 1)).take 0 = [47] from h2)).1
  · intro h
    obtain ⟨hi, e⟩ := List.getElem?_eq_some_iff.mp h
    refine ⟨hi, ?_⟩
    rw [List.drop_eq_getElem_cons hi, e]
    rfl
theorem sl_from {l : List Nat} {n : Nat} (h : n ≤ l.length) : Txt.slice ⟨⟨l⟩⟩ (some (n : Int)) none = ⟨⟨l.drop n⟩⟩ := by
  have e := eq_of_beq (slice_closes_fromL (x := ⟨⟨l⟩⟩) (i := (n : Int)) (b := (l.length : Int)) (by (first | lia | omega)) (by show (n : Int) ≤ (l.length : Int); (first | lia | omega)) rfl)
  rw [e]
  simp
  rw [List.take_of_length_le (by rw [List.length_drop]; (first | lia | omega))]
theorem sl_to {l : List Nat} {n : Nat} (h : n ≤ l.length) : Txt.slice ⟨⟨l⟩⟩ none (some (n : Int)) = ⟨⟨l.take n⟩⟩ := by
  have e := eq_of_beq (slice_closes_toL (x := ⟨⟨l⟩⟩) (j := (n : Int)) (by (first | lia | omega)) (by show (n : Int) ≤ (l.length : Int); (first | lia | omega)))
  rw [e]
  simp
theorem sl_mid {l : List Nat} {a b : Nat} (h : a ≤ b) (h2 : b ≤ l.length) : Txt.slice ⟨⟨l⟩⟩ (some (a : Int)) (some (b : Int)) = ⟨⟨(l.drop a).take (b - a)⟩⟩ := by
  have e := eq_of_beq (slice_closesL (x := ⟨⟨l⟩⟩) (i := (a : Int)) (j := (b : Int)) (by (first | lia | omega)) (by (first | lia | omega)) (by show (b : Int) ≤ (l.length : Int); (first | lia | omega)))
  rw [e]
  simp
theorem rfind_slash {u f : List Nat} (hf : 47 ∉ f) : Txt.rfind ⟨⟨u ++ 47 :: f⟩⟩ (PySem.Str.ofString "/") = (u.length : Int) := by
  have hu : StrLaws.At ⟨⟨u ++ 47 :: f⟩⟩ (PySem.Str.ofString "/") (PySem.Str.length ⟨⟨u ++ 47 :: f⟩⟩) u.length := (at_slash _ _).mpr (by simp)
  rcases rfind_whole ⟨⟨u ++ 47 :: f⟩⟩ (PySem.Str.ofString "/") with ⟨_, h⟩ | ⟨i, h1, h2, h3⟩
  · exact absurd hu (h _)
  · rw [h1]
    rcases Nat.lt_trichotomy i u.length with h | h | h
    · exact absurd hu (h3 _ h)
    · rw [h]
    · have e := (at_slash _ _).mp h2
      rw [List.getElem?_append_right (by (first | lia | omega))] at e
      obtain ⟨j, hj⟩ : ∃ j, i - u.length = j + 1 := ⟨i - u.length - 1, by (first | lia | omega)⟩
      rw [hj, List.getElem?_cons_succ] at e
      exact absurd (List.mem_of_getElem? e) hf
theorem up_slash {u f : List Nat} (hf : 47 ∉ f) : pUp ⟨⟨u ++ 47 :: f⟩⟩ = ⟨⟨u ++ [47]⟩⟩ := by
  unfold pUp pCut
  rw [rfind_slash hf]
  have := sl_to (l := u ++ 47 :: f) (n := u.length + 1) (by simp)
  rw [show ((u.length : Int) + 1) = ((u.length + 1 : Nat) : Int) from by (first | lia | omega), this]
  rw [show u ++ 47 :: f = (u ++ [47]) ++ f from by simp, List.take_left' (by simp)]
theorem tail_slash {u f : List Nat} (hf : 47 ∉ f) : pTail ⟨⟨u ++ 47 :: f⟩⟩ = ⟨⟨f⟩⟩ := by
  unfold pTail pCut
  rw [rfind_slash hf]
  have := sl_from (l := u ++ 47 :: f) (n := u.length + 1) (by simp)
  rw [show ((u.length : Int) + 1) = ((u.length + 1 : Nat) : Int) from by (first | lia | omega), this]
  rw [show u ++ 47 :: f = (u ++ [47]) ++ f from by simp, List.drop_left' (by simp)]
theorem mul_all (n : Int) : ∀ c ∈ (Txt.mul (PySem.Str.ofString "/") n).cps.toList, c = 47 := by
  have key : ∀ (k : Nat) (acc : Array Nat), (∀ c ∈ acc.toList, c = 47) → ∀ c ∈ ((List.replicate k (#[47] : Array Nat)).foldl (· ++ ·) acc).toList, c = 47 := by
    intro k
    induction k with
    | zero => exact fun acc h => h
    | succ k ih =>
      intro acc h
      rw [List.replicate_succ, List.foldl_cons]
      refine ih _ fun c hc => ?_
      rw [Array.toList_append] at hc
      rcases List.mem_append.mp hc with hc | hc
      · exact h c hc
      · simpa using hc
  rw [slash_is]
  unfold Txt.mul
  split
  · intro c hc; exact absurd hc (by show c ∉ ([] : List Nat); exact List.not_mem_nil)
  · split
    · intro c hc; simpa using hc
    · exact key _ #[] (fun c hc => absurd hc List.not_mem_nil)
theorem rstrip_slash (h' : List Nat) {c : Nat} (hc : c ≠ 47) (j : Nat) : Txt.rstripChars ⟨⟨(h' ++ [c]) ++ List.replicate j 47⟩⟩ (PySem.Str.ofString "/") = ⟨⟨h' ++ [c]⟩⟩ := by
  have e : ((h' ++ [c] ++ List.replicate j 47).reverse.takeWhile (#[47] : Array Nat).contains).length = j := by
    rw [List.reverse_append, List.reverse_replicate, List.reverse_append, List.takeWhile_append_of_pos]
    · have : (#[47] : Array Nat).contains c = false := by simpa using hc
      rw [List.reverse_singleton, List.singleton_append, List.takeWhile_cons_of_neg (by rw [this]; exact Bool.false_ne_true)]
      simp
    · intro a ha; rw [List.eq_of_mem_replicate ha]; simp
  rw [slash_is]
  unfold Txt.rstripChars
  rw [W.stripBy_eq]
  unfold W.stripped
  unfold Builtin.Str.strSub
  simp only [Bool.false_eq_true, if_false, if_true, List.drop_zero]
  rw [e]
  show (⟨(⟨h' ++ [c] ++ List.replicate j 47⟩ : Array Nat).extract 0 ((h' ++ [c] ++ List.replicate j 47).length - j)⟩ : PySem.Str) = _
  have l1 : (h' ++ [c] ++ List.replicate j 47).length - j = (h' ++ [c]).length := by simp; (first | lia | omega)
  rw [l1, List.extract_toArray]
  show (⟨(((h' ++ [c] ++ List.replicate j 47).drop 0).take ((h' ++ [c]).length - 0)).toArray⟩ : PySem.Str) = _
  rw [List.drop_zero, Nat.sub_zero, List.take_left' rfl]
theorem head_top {f : List Nat} (hf : 47 ∉ f) : pHead ⟨⟨47 :: f⟩⟩ = PySem.Str.ofString "/" := by
  have e : pUp ⟨⟨47 :: f⟩⟩ = PySem.Str.ofString "/" := by rw [slash_is]; exact up_slash (u := []) hf
  have h2 : (pUp ⟨⟨47 :: f⟩⟩ != Txt.mul (PySem.Str.ofString "/") ((pUp ⟨⟨47 :: f⟩⟩).length : Int)) = false := by
    rw [e]
    have : Txt.mul (PySem.Str.ofString "/") ((PySem.Str.ofString "/").length : Int) = PySem.Str.ofString "/" := by
      rw [show ((PySem.Str.ofString "/").length : Int) = 1 from by decide]
      rfl
    rw [this]
    exact bne_self_eq_false _
  rw [← pHead_b h2, e]
theorem head_slash (h' : List Nat) {c : Nat} (hc : c ≠ 47) (j : Nat) {f : List Nat} (hf : 47 ∉ f) : pHead ⟨⟨(h' ++ [c]) ++ List.replicate j 47 ++ 47 :: f⟩⟩ = ⟨⟨h' ++ [c]⟩⟩ := by
  have e : pUp ⟨⟨(h' ++ [c]) ++ List.replicate j 47 ++ 47 :: f⟩⟩ = ⟨⟨(h' ++ [c]) ++ List.replicate (j + 1) 47⟩⟩ := by
    rw [up_slash hf, List.replicate_succ', List.append_assoc]
  have h1 : ((pUp ⟨⟨(h' ++ [c]) ++ List.replicate j 47 ++ 47 :: f⟩⟩).length : Int) ≠ 0 := by
    rw [e]
    show ((((h' ++ [c]) ++ List.replicate (j + 1) 47).length : Nat) : Int) ≠ 0
    simp
    (first | lia | omega)
  have h2 : (pUp ⟨⟨(h' ++ [c]) ++ List.replicate j 47 ++ 47 :: f⟩⟩ != Txt.mul (PySem.Str.ofString "/") ((pUp ⟨⟨(h' ++ [c]) ++ List.replicate j 47 ++ 47 :: f⟩⟩).length : Int)) = true := by
    refine bne_iff_ne.mpr fun q => ?_
    have hm : c ∈ (pUp ⟨⟨(h' ++ [c]) ++ List.replicate j 47 ++ 47 :: f⟩⟩).cps.toList := by rw [e]; simp
    rw [q] at hm
    exact hc (mul_all _ c hm)
  rw [← pHead_a h1 h2, e]
  exact rstrip_slash h' hc _
theorem tail_many (h : List Nat) (j : Nat) {f : List Nat} (hf : 47 ∉ f) : pTail ⟨⟨h ++ List.replicate j 47 ++ 47 :: f⟩⟩ = ⟨⟨f⟩⟩ := tail_slash hf

theorem path_top : (pathOf []).cps.toList = [47] := by
  show (PySem.Str.ofString "/" ++ Txt.join (PySem.Str.ofString "/") []).cps.toList = _
  rw [txt_join]; decide
theorem jn_snoc (c : Nat) (f : List Nat) : ∀ l : List (List Nat), l ≠ [] → jn c (l ++ [f]) = jn c l ++ c :: f
  | [], h => absurd rfl h
  | [x], _ => rfl
  | x :: y :: r, _ => by
    have := jn_snoc c f (y :: r) (List.cons_ne_nil _ _)
    show x ++ c :: jn c ((y :: r) ++ [f]) = (x ++ c :: jn c (y :: r)) ++ c :: f
    rw [this]; simp
theorem path_cps (ds : List Nat) : (pathOf ds).cps.toList = 47 :: jn 47 (ds.reverse.map (fun d => (figStr d).cps.toList)) := by
  unfold pathOf
  rw [cat_cps, txt_join, join_cps, List.map_map]
  rfl
theorem path_one (d : Nat) : (pathOf [d]).cps.toList = 47 :: (figStr d).cps.toList := by rw [path_cps]; rfl
theorem path_cons (d e : Nat) (r : List Nat) : (pathOf (d :: e :: r)).cps.toList = (pathOf (e :: r)).cps.toList ++ 47 :: (figStr d).cps.toList := by
  rw [path_cps, path_cps, List.reverse_cons, List.map_append]
  show 47 :: jn 47 (_ ++ [(figStr d).cps.toList]) = _
  rw [jn_snoc]
  · rfl
  · simp
theorem fig_last (d : Nat) : ∃ h c, (figStr d).cps.toList = h ++ [c] ∧ c ≠ 47 := by
  rcases List.eq_nil_or_concat (figStr d).cps.toList with e | ⟨h, c, e⟩
  · obtain ⟨c, r, e2, _⟩ := fig_some d
    rw [e] at e2; cases e2
  · refine ⟨h, c, by rw [e, List.concat_eq_append], fun q => fig_free d ?_⟩
    rw [e, q]; simp
theorem path_last (d : Nat) (r : List Nat) : ∃ h c, (pathOf (d :: r)).cps.toList = h ++ [c] ∧ c ≠ 47 := by
  obtain ⟨h, c, e, hc⟩ := fig_last d
  cases r with
  | nil => exact ⟨47 :: h, c, by rw [path_one, e]; rfl, hc⟩
  | cons a r => exact ⟨_ ++ 47 :: h, c, by rw [path_cons, e]; simp; rfl, hc⟩
theorem tail_top : pTail (pathOf []) = PySem.Str.ofString "" := by
  have e : PySem.Str.ofString "" = ⟨⟨[]⟩⟩ := by decide
  have e2 : pathOf [] = ⟨⟨[] ++ 47 :: []⟩⟩ := by rw [str_eta (pathOf []), path_top]; rfl
  rw [e, e2]
  exact tail_slash List.not_mem_nil
theorem head_top' : pHead (pathOf []) = pathOf [] := by
  have e2 : pathOf [] = ⟨⟨47 :: []⟩⟩ := by rw [str_eta (pathOf []), path_top]
  rw [e2, head_top (f := []) List.not_mem_nil, slash_is]
theorem tail_path (d : Nat) (r : List Nat) : pTail (pathOf (d :: r)) = figStr d := by
  rw [str_eta (figStr d)]
  cases r with
  | nil =>
    have e2 : pathOf [d] = ⟨⟨[] ++ 47 :: (figStr d).cps.toList⟩⟩ := by rw [str_eta (pathOf [d]), path_one]; rfl
    rw [e2]; exact tail_slash (fig_free d)
  | cons a r => rw [str_eta (pathOf (d :: a :: r)), path_cons]; exact tail_slash (fig_free d)
theorem head_path (d : Nat) (r : List Nat) : pHead (pathOf (d :: r)) = pathOf r := by
  rw [str_eta (pathOf (d :: r)), str_eta (pathOf r)]
  cases r with
  | nil => rw [path_one, path_top, head_top (fig_free d), slash_is]
  | cons a r =>
    obtain ⟨h, c, e, hc⟩ := path_last a r
    have e1 : (h ++ [c]) ++ 47 :: (figStr d).cps.toList = (h ++ [c]) ++ List.replicate 0 47 ++ 47 :: (figStr d).cps.toList := by simp
    rw [path_cons, e, e1]
    exact head_slash h hc 0 (fig_free d)
theorem slash_cps : (PySem.Str.ofString "/").cps.toList = [47] := by decide
theorem tail_closed (d : Nat) (r : List Nat) : pTail (pathOf (d :: r) ++ PySem.Str.ofString "/") = PySem.Str.ofString "" := by
  rw [str_eta (_ ++ _), cat_cps, slash_cps]
  have e : PySem.Str.ofString "" = ⟨⟨[]⟩⟩ := by decide
  rw [e]
  exact tail_slash List.not_mem_nil
theorem head_closed (d : Nat) (r : List Nat) : pHead (pathOf (d :: r) ++ PySem.Str.ofString "/") = pathOf (d :: r) := by
  obtain ⟨h, c, e, hc⟩ := path_last d r
  have e1 : (h ++ [c]) ++ [47] = (h ++ [c]) ++ List.replicate 0 47 ++ 47 :: [] := by simp
  rw [str_eta (_ ++ _), cat_cps, slash_cps, e, e1, str_eta (pathOf (d :: r)), e]
  exact head_slash h hc 0 List.not_mem_nil
theorem cps2 : (PySem.Str.ofString "//").cps.toList = [47, 47] := by decide
theorem cps3 : (PySem.Str.ofString "///").cps.toList = [47, 47, 47] := by decide
theorem tail_two (d e : Nat) (r : List Nat) : pTail (pathOf (d :: r) ++ PySem.Str.ofString "//" ++ figStr e) = figStr e := by
  rw [str_eta (_ ++ figStr e), str_eta (figStr e), cat_cps, cat_cps, cps2]
  have e1 : (pathOf (d :: r)).cps.toList ++ [47, 47] ++ (figStr e).cps.toList = ((pathOf (d :: r)).cps.toList ++ [47]) ++ 47 :: (figStr e).cps.toList := by
    rw [List.append_assoc, List.append_assoc]; rfl
  rw [e1]
  exact tail_slash (fig_free e)
theorem head_two (d e : Nat) (r : List Nat) : pHead (pathOf (d :: r) ++ PySem.Str.ofString "//" ++ figStr e) = pathOf (d :: r) := by
  obtain ⟨h, c, q, hc⟩ := path_last d r
  rw [str_eta (_ ++ figStr e), str_eta (pathOf (d :: r)), cat_cps, cat_cps, cps2, q]
  have e1 : (h ++ [c]) ++ [47, 47] ++ (figStr e).cps.toList = (h ++ [c]) ++ List.replicate 1 47 ++ 47 :: (figStr e).cps.toList := by
    simp [List.replicate]
  rw [e1]
  exact head_slash h hc 1 (fig_free e)
theorem head_three (d e : Nat) (r : List Nat) : pHead (pathOf (d :: r) ++ PySem.Str.ofString "///" ++ figStr e) = pathOf (d :: r) := by
  obtain ⟨h, c, q, hc⟩ := path_last d r
  rw [str_eta (_ ++ figStr e), str_eta (pathOf (d :: r)), cat_cps, cat_cps, cps3, q]
  have e1 : (h ++ [c]) ++ [47, 47, 47] ++ (figStr e).cps.toList = (h ++ [c]) ++ List.replicate 2 47 ++ 47 :: (figStr e).cps.toList := by
    simp [List.replicate]
  rw [e1]
  exact head_slash h hc 2 (fig_free e)
end Mine
end

open PySem.W in
theorem Mine.offNormLaw : True := by
  k_with_none
  w_top off
  exact trivial

section
open PySem PySem.W PySem.Spec PySem.Calls PyProof.Rows
namespace Mine

set_option maxHeartbeats 400000
noncomputable def joined (l : List PySem.Str) : PySem.Str := PySem.Str.ofString "/" ++ Txt.join (PySem.Str.ofString "/") l
theorem path_joined (ds : List Nat) : pathOf ds = joined (ds.reverse.map figStr) := rfl
noncomputable def normT (x : PySem.Str) : PySem.Str := joined ((Txt.split (Txt.slice x (some 1) none) (PySem.Str.ofString "/")).foldl normStep [])
theorem joined_cps (l : List PySem.Str) : (joined l).cps.toList = 47 :: jn 47 (l.map (·.cps.toList)) := by
  unfold joined
  rw [cat_cps, txt_join, join_cps]
  rfl
theorem tjoin_cps (l : List PySem.Str) : (Txt.join (PySem.Str.ofString "/") l).cps.toList = jn 47 (l.map (·.cps.toList)) := by rw [txt_join, join_cps]
theorem jn_append (c : Nat) (m : List (List Nat)) (hm : m ≠ []) : ∀ l : List (List Nat), l ≠ [] → jn c (l ++ m) = jn c l ++ c :: jn c m
  | [], h => absurd rfl h
  | [x], _ => by
    cases m with
    | nil => exact absurd rfl hm
    | cons y r => rfl
  | x :: y :: r, _ => by
    have := jn_append c m hm (y :: r) (List.cons_ne_nil _ _)
    show x ++ c :: jn c ((y :: r) ++ m) = (x ++ c :: jn c (y :: r)) ++ c :: jn c m
    rw [this]; simp
/-- a list of parts, the first with a sign that is no slash -/
structure Parts (l : List PySem.Str) : Prop where
  free : ∀ p ∈ l, 47 ∉ p.cps.toList
  first : ∃ a r c q, l = a :: r ∧ a.cps.toList = c :: q
theorem Parts.jn {l : List PySem.Str} (h : Parts l) : ∃ c q, Mine.jn 47 (l.map (·.cps.toList)) = c :: q ∧ c ≠ 47 := by
  obtain ⟨a, r, c, q, rfl, e⟩ := h.first
  have hc : c ≠ 47 := fun k => h.free a (.head _) (by rw [e, k]; exact .head _)
  cases r with
  | nil => exact ⟨c, q, e, hc⟩
  | cons b r =>
    refine ⟨c, q ++ 47 :: Mine.jn 47 ((b :: r).map (·.cps.toList)), ?_, hc⟩
    show a.cps.toList ++ 47 :: Mine.jn 47 _ = _
    rw [e]; rfl
theorem Parts.ne {l : List PySem.Str} (h : Parts l) : l ≠ [] := by
  obtain ⟨a, r, c, q, rfl, e⟩ := h.first
  exact List.cons_ne_nil _ _
theorem joinP_rel (ds : List Nat) {pw : List PySem.Str} (h : Parts pw) : joinP (pathOf ds) (Txt.join (PySem.Str.ofString "/") pw) = joined (ds.reverse.map figStr ++ pw) := by
  obtain ⟨c, q, e, hc⟩ := h.jn
  have hs : Txt.startswith (Txt.join (PySem.Str.ofString "/") pw) (PySem.Str.ofString "/") = false := by
    rw [str_eta (Txt.join _ _), tjoin_cps, e, starts_slash]
    simpa using hc
  have hl : ((pathOf ds).length : Int) ≠ 0 := by
    have : (pathOf ds).length = (pathOf ds).cps.toList.length := rfl
    rw [this, path_cps]
    simp
    (first | lia | omega)
  cases ds with
  | nil =>
    have he : Txt.endswith (pathOf []) (PySem.Str.ofString "/") = true := by
      rw [str_eta (pathOf []), path_top]
      exact ends_slash [] 47
    rw [← joinP_c hs hl he]
    refine cps_inj ?_
    rw [cat_cps, path_top, tjoin_cps, joined_cps]
    rfl
  | cons d r =>
    have he : Txt.endswith (pathOf (d :: r)) (PySem.Str.ofString "/") = false := by
      obtain ⟨hh, c2, e2, hc2⟩ := path_last d r
      rw [str_eta (pathOf (d :: r)), e2, ends_slash]
      simpa using hc2
    rw [← joinP_d hs hl he]
    refine cps_inj ?_
    rw [cat_cps, cat_cps, path_cps, tjoin_cps, joined_cps, slash_cps, List.map_append, jn_append]
    · rw [List.map_map]; rfl
    · rw [Ne, List.map_eq_nil_iff]; exact h.ne
    · simp
theorem joinP_abs (x : PySem.Str) (l : List PySem.Str) : joinP x (joined l) = joined l := by
  refine (joinP_a ?_).symm
  rw [str_eta (joined l), joined_cps, starts_slash]
  rfl
theorem joined_one {l : List PySem.Str} (h : Parts l) : Txt.slice (joined l) none (some 1) = PySem.Str.ofString "/" ∧ (Txt.slice (joined l) (some 1) (some 2) != PySem.Str.ofString "/") = true ∧ Txt.slice (joined l) (some 1) none = Txt.join (PySem.Str.ofString "/") l := by
  obtain ⟨c, q, e, hc⟩ := h.jn
  have hx : joined l = ⟨⟨47 :: c :: q⟩⟩ := by rw [str_eta (joined l), joined_cps, e]
  have hj : Txt.join (PySem.Str.ofString "/") l = ⟨⟨c :: q⟩⟩ := by rw [str_eta (Txt.join _ _), tjoin_cps, e]
  rw [hx, hj]
  refine ⟨?_, ?_, ?_⟩
  · rw [slash_is]; exact sl_to (l := 47 :: c :: q) (n := 1) (by simp)
  · have := sl_mid (l := 47 :: c :: q) (a := 1) (b := 2) (by (first | lia | omega)) (by simp)
    have e2 : Txt.slice ⟨⟨47 :: c :: q⟩⟩ (some 1) (some 2) = ⟨⟨[c]⟩⟩ := this
    rw [e2, slash_is]
    refine bne_iff_ne.mpr fun k => hc ?_
    have := congrArg (fun s : PySem.Str => s.cps.toList) k
    simpa using this
  · exact sl_from (l := 47 :: c :: q) (n := 1) (by simp)
theorem norm_joined {l : List PySem.Str} (h : Parts l) : normT (joined l) = joined (l.foldl normStep []) := by
  unfold normT
  rw [(joined_one h).2.2, txt_split_join h.ne h.free]
def Plain (l : List PySem.Str) : Prop := ∀ p ∈ l, p ≠ PySem.Str.ofString "" ∧ p ≠ PySem.Str.ofString "." ∧ p ≠ PySem.Str.ofString ".."
theorem norm_fold : ∀ {l : List PySem.Str} (acc : List PySem.Str), Plain l → l.foldl normStep acc = acc ++ l
  | [], acc, _ => (List.append_nil _).symm
  | a :: r, acc, h => by
    have ha := h a (.head _)
    have e : normStep acc a = acc ++ [a] := by
      unfold normStep
      rw [if_neg (by rintro (q | q); exact ha.1 q; exact ha.2.1 q), if_neg ha.2.2]
    rw [List.foldl_cons, e, norm_fold (acc ++ [a]) (fun p hp => h p (.tail _ hp))]
    simp
theorem figs_plain (ds : List Nat) : Plain (ds.map figStr) := fun p hp => by
  obtain ⟨d, _, rfl⟩ := List.mem_map.mp hp
  exact ⟨fig_ne_nil d, fig_ne_dot d, fig_ne_up d⟩
theorem figs_first (d : Nat) (r : List PySem.Str) : ∃ a r' c q, figStr d :: r = a :: r' ∧ a.cps.toList = c :: q := by
  obtain ⟨c, q, e, _⟩ := fig_some d
  exact ⟨_, _, c, q, rfl, e⟩
theorem parts_add (ds : List Nat) {pw : List PySem.Str} (h : Parts pw) : Parts (ds.reverse.map figStr ++ pw) := by
  refine ⟨fun p hp => (List.mem_append.mp hp).elim (figs_free _ p) (h.free p), ?_⟩
  cases e : ds.reverse with
  | nil => exact h.first
  | cons d r => exact figs_first d _
theorem walk_norm (ds : List Nat) {pw : List PySem.Str} (h : Parts pw) : normT (joinP (pathOf ds) (Txt.join (PySem.Str.ofString "/") pw)) = joined (pw.foldl normStep (ds.reverse.map figStr)) := by
  rw [joinP_rel ds h, norm_joined (parts_add ds h), List.foldl_append, norm_fold [] (figs_plain _), List.nil_append]
noncomputable def wUp : List PySem.Str := [PySem.Str.ofString ".."]
noncomputable def wRound (f : Nat) : List PySem.Str := [PySem.Str.ofString ".", figStr f, PySem.Str.ofString "", figStr f, PySem.Str.ofString "..", PySem.Str.ofString ".."]
theorem free_lit {x : PySem.Str} {l : List Nat} (e : x.cps.toList = l) (h : l.contains 47 = false) : 47 ∉ x.cps.toList := by
  rw [e]; intro q; rw [List.contains_iff_mem.mpr q] at h; cases h
theorem parts_up : Parts wUp := ⟨fun p hp => by rw [List.mem_singleton.mp hp]; exact free_lit (l := [46, 46]) (by decide) (by decide), _, _, 46, [46], rfl, by decide⟩
theorem parts_fig (f : Nat) : Parts [figStr f] := ⟨fun p hp => by rw [List.mem_singleton.mp hp]; exact fig_free f, figs_first f []⟩
theorem parts_round (f : Nat) : Parts (wRound f) := by
  refine ⟨fun p hp => ?_, _, _, 46, [], rfl, by decide⟩
  unfold wRound at hp
  simp only [List.mem_cons, List.not_mem_nil, or_false] at hp
  rcases hp with rfl | rfl | rfl | rfl | rfl | rfl
  · exact free_lit (l := [46]) (by decide) (by decide)
  · exact fig_free f
  · exact free_lit (l := []) (by decide) (by decide)
  · exact fig_free f
  · exact free_lit (l := [46, 46]) (by decide) (by decide)
  · exact free_lit (l := [46, 46]) (by decide) (by decide)
theorem step_up (F : List PySem.Str) : wUp.foldl normStep F = F.dropLast := by
  show normStep F (PySem.Str.ofString "..") = _
  unfold normStep
  rw [if_neg (by rintro (q | q) <;> exact absurd q (by decide)), if_pos rfl]
theorem step_fig (F : List PySem.Str) (f : Nat) : [figStr f].foldl normStep F = F ++ [figStr f] := norm_fold (l := [figStr f]) F (figs_plain [f])
theorem step_round (F : List PySem.Str) (f : Nat) : (wRound f).foldl normStep F = F := by
  unfold wRound
  have e1 : normStep F (PySem.Str.ofString ".") = F := by unfold normStep; rw [if_pos (.inr rfl)]
  have e2 : ∀ G, normStep G (figStr f) = G ++ [figStr f] := fun G => step_fig G f
  have e3 : ∀ G, normStep G (PySem.Str.ofString "") = G := fun G => by unfold normStep; rw [if_pos (.inl rfl)]
  have e4 : ∀ G, normStep G (PySem.Str.ofString "..") = G.dropLast := fun G => step_up G
  simp only [List.foldl_cons, List.foldl_nil, e1, e2, e3, e4, List.dropLast_concat]
theorem round_word (f : Nat) : PySem.Str.ofString "./" ++ figStr f ++ PySem.Str.ofString "//" ++ figStr f ++ PySem.Str.ofString "/../.." = Txt.join (PySem.Str.ofString "/") (wRound f) := by
  refine cps_inj ?_
  have c1 : (PySem.Str.ofString "./").cps.toList = [46, 47] := by decide
  have c2 : (PySem.Str.ofString "/../..").cps.toList = [47, 46, 46, 47, 46, 46] := by decide
  have c3 : (PySem.Str.ofString ".").cps.toList = [46] := by decide
  have c4 : (PySem.Str.ofString "").cps.toList = [] := by decide
  have c5 : (PySem.Str.ofString "..").cps.toList = [46, 46] := by decide
  rw [tjoin_cps, cat_cps, cat_cps, cat_cps, cat_cps, c1, c2, cps2]
  unfold wRound
  simp [jn, c3, c4, c5]
theorem up_word : PySem.Str.ofString ".." = Txt.join (PySem.Str.ofString "/") wUp := by
  refine cps_inj ?_
  rw [tjoin_cps]; rfl
theorem fig_word (f : Nat) : figStr f = Txt.join (PySem.Str.ofString "/") [figStr f] := by
  refine cps_inj ?_
  rw [tjoin_cps]; rfl
theorem top_word (f : Nat) : PySem.Str.ofString "/" ++ figStr f = joined [figStr f] := by
  refine cps_inj ?_
  rw [joined_cps, cat_cps, slash_cps]; rfl
end Mine
end

open PySem.W in
theorem Mine.offWalk : True := by
  k_with_none
  w_top off
  exact trivial

section
open PySem PySem.W PySem.Spec PySem.Calls PyProof.Rows
namespace Mine

/-- what a step of the walk does to the figures -/
def stepN (k : Nat) (ds : List Nat) (x : Int) : List Nat :=
  if x.fmod 6 = 0 then ds.tail else if x.fmod 6 = 1 then ds else if x.fmod 6 = 2 then [((x.fdiv 6).fmod ((2 ^ k : Nat) : Int)).toNat] else ((x.fdiv 6).fmod ((2 ^ k : Nat) : Int)).toNat :: ds
def walkN (k : Nat) : List Nat → List Int → List (List Nat)
  | _, [] => []
  | ds, x :: r => stepN k ds x :: walkN k (stepN k ds x) r
abbrev tupo (a b : Value) : Obj := { cls := .type "tuple", data := .seq ([a, b] : List Value).toArray }
/-- the walk's list: a pair for each step -/
structure Steps (k : Nat) (vs : List Value) (tups : List (Addr × Obj)) (dss : List (List Nat)) : Prop where
  len : vs.length = dss.length
  at' : ∀ (i : Nat) (ds : List Nat), dss[i]? = some ds → ∃ (a : Addr) (t u : Tok), vs[i]? = some (Value.ref a) ∧ (a, tupo (.str (pathOf ds) t) (.int ((numOf' k ds : Nat) : Int) u)) ∈ tups
theorem Steps.snoc {k : Nat} {vs : List Value} {tups : List (Addr × Obj)} {dss : List (List Nat)} (h : Steps k vs tups dss) (ds : List Nat) (a : Addr) (t u : Tok) : Steps k (vs ++ [.ref a]) ((a, tupo (.str (pathOf ds) t) (.int ((numOf' k ds : Nat) : Int) u)) :: tups) (dss ++ [ds]) := by
  refine ⟨by simp [h.len], fun i ds' e => ?_⟩
  by_cases hi : i < dss.length
  · rw [List.getElem?_append_left hi] at e
    obtain ⟨b, t', u', e1, e2⟩ := h.at' i ds' e
    exact ⟨b, t', u', by rw [List.getElem?_append_left (by rw [h.len]; exact hi)]; exact e1, .tail _ e2⟩
  · rw [List.getElem?_append_right (by (first | lia | omega))] at e
    have hi0 : i - dss.length = 0 := by
      have := List.getElem?_eq_some_iff.mp e
      obtain ⟨h1, _⟩ := this
      simp at h1; (first | lia | omega)
    rw [hi0] at e
    cases e
    refine ⟨a, t, u, ?_, .head _⟩
    rw [List.getElem?_append_right (by rw [h.len]; (first | lia | omega)), h.len, hi0]
    rfl

noncomputable abbrev over5 (u1 u2 u3 u4 u5 : Option Value) (m : PySem.Str → Option Value) : PySem.Str → Option Value :=
  over (PySem.Str.ofString "x") u1 (over (PySem.Str.ofString "figure") u2 (over (PySem.Str.ofString "word") u3 (over (PySem.Str.ofString "path") u4 (over (PySem.Str.ofString "number") u5 m))))
theorem five_a (u1 u2 u3 u4 u5 v1 v2 v3 v4 v5 : Option Value) (m : PySem.Str → Option Value) :
    (fun z => if z = PySem.Str.ofString "path" then v4 else if z = PySem.Str.ofString "number" then v5 else if z = PySem.Str.ofString "word" then v3 else if z = PySem.Str.ofString "figure" then v2 else if z = PySem.Str.ofString "x" then v1 else over5 u1 u2 u3 u4 u5 m z) = over5 v1 v2 v3 v4 v5 m := by
  funext z
  by_cases e1 : z = PySem.Str.ofString "path"
  · subst e1; rfl
  by_cases e2 : z = PySem.Str.ofString "number"
  · subst e2; rfl
  by_cases e3 : z = PySem.Str.ofString "word"
  · subst e3; rfl
  by_cases e4 : z = PySem.Str.ofString "figure"
  · subst e4; rfl
  by_cases e5 : z = PySem.Str.ofString "x"
  · subst e5; rfl
  simp only [over5, over, e1, e2, e3, e4, e5, if_false]
theorem five_b (u1 u2 u3 u4 u5 v1 v2 v3 v4 : Option Value) (m : PySem.Str → Option Value) :
    (fun z => if z = PySem.Str.ofString "path" then v4 else if z = PySem.Str.ofString "word" then v3 else if z = PySem.Str.ofString "figure" then v2 else if z = PySem.Str.ofString "x" then v1 else over5 u1 u2 u3 u4 u5 m z) = over5 v1 v2 v3 v4 u5 m := by
  funext z
  by_cases e1 : z = PySem.Str.ofString "path"
  · subst e1; rfl
  by_cases e2 : z = PySem.Str.ofString "number"
  · subst e2; rfl
  by_cases e3 : z = PySem.Str.ofString "word"
  · subst e3; rfl
  by_cases e4 : z = PySem.Str.ofString "figure"
  · subst e4; rfl
  by_cases e5 : z = PySem.Str.ofString "x"
  · subst e5; rfl
  simp only [over5, over, e1, e2, e3, e4, e5, if_false]
theorem five_own (m : PySem.Str → Option Value) : m = over5 (m (PySem.Str.ofString "x")) (m (PySem.Str.ofString "figure")) (m (PySem.Str.ofString "word")) (m (PySem.Str.ofString "path")) (m (PySem.Str.ofString "number")) m := by
  unfold over5
  rw [← over_own (PySem.Str.ofString "number"), ← over_own (PySem.Str.ofString "path"), ← over_own (PySem.Str.ofString "word"), ← over_own (PySem.Str.ofString "figure"), ← over_own (PySem.Str.ofString "x")]
theorem path_nil : pathOf [] = PySem.Str.ofString "/" := cps_inj (by rw [path_top]; decide)
theorem num_nil (k : Nat) : ((numOf' k [] : Nat) : Int) = 1 := by
  show ((valOf (2 ^ k) ([] ++ [1]) : Nat) : Int) = 1
  simp [valOf]
theorem loop_walk {prog : Program} {w : World} {A : Around} {E : Value → Shared → Prop} {s : Shared} {env : Env} {h₀ : Heap} {target : Expr} {body : List Stmt} {Q : Flow → Shared → Prop} {Dl D : Addr} {lo : Obj} {tl0 : List (Addr × Obj)} {vs : List Value} {n n0 k : Nat} {m₀ : PySem.Str → Option Value} {tp tn : Tok} (P : Addr → List Value → List Nat → List Value → List (Addr × Obj) → Prop)
    (hh : A.handled = none) (F : Fr h₀ env.locals s.heap m₀) (N : News h₀ env.locals s.heap ((Dl, listOf ([] : List Value).toArray n0) :: (D, lo) :: tl0)) (hc : lo.cls = .type "list") (hd : lo.data = .seq vs.toArray n)
    (hp : m₀ (PySem.Str.ofString "path") = some (.str (PySem.Str.ofString "/") tp)) (hn : m₀ (PySem.Str.ofString "number") = some (.int 1 tn)) (h0 : ∀ I, (∀ p ∈ (Dl, listOf ([] : List Value).toArray n0) :: (D, lo) :: tl0, p.1 < I) → P I vs [] [] tl0)
    (turn : ∀ I o v r ds cs nn' tl u1 u2 u3 t4 t5 h tk, Dl < I → D < I → P I (v :: r) ds cs tl → o.cls = .type "list_iterator" → Fr h₀ env.locals h (over5 u1 u2 u3 (some (.str (pathOf ds) t4)) (some (.int ((numOf' k ds : Nat) : Int) t5)) m₀) → News h₀ env.locals h ((I, o) :: (Dl, listOf cs.toArray nn') :: (D, lo) :: tl) →
      wpAny (model prog w) A (assign target env v) (fun _ s₂ => wpAny (model prog w) A (execs body env) (TurnPost h₀ env.locals s (I, o) (fun m' news' => ∃ u1 u2 u3 t4 t5 ds cs nn' tl, m' = over5 u1 u2 u3 (some (.str (pathOf ds) t4)) (some (.int ((numOf' k ds : Nat) : Int) t5)) m₀ ∧ news' = (Dl, listOf cs.toArray nn') :: (D, lo) :: tl ∧ P I r ds cs tl) Q) E s₂) E { s with heap := h, toks := tk })
    (fin : ∀ I ds cs nn' tl u1 u2 u3 t4 t5 h tk, P I [] ds cs tl → Fr h₀ env.locals h (over5 u1 u2 u3 (some (.str (pathOf ds) t4)) (some (.int ((numOf' k ds : Nat) : Int) t5)) m₀) → News h₀ env.locals h ((Dl, listOf cs.toArray nn') :: (D, lo) :: tl) → Q .next { s with heap := h, toks := tk }) :
    wpAny (model prog w) A (pyIter (.ref D)) (fun it s₂ => TurnsAt prog w A h₀ env target body Q E it s₂) E s := by
  refine iter_listTurns hh F N (.tail _ (.head _)) hc hd fun I lI => ?_
  refine items_inv (fun r m' news' => ∃ u1 u2 u3 t4 t5 ds cs nn' tl, m' = over5 u1 u2 u3 (some (.str (pathOf ds) t4)) (some (.int ((numOf' k ds : Nat) : Int) t5)) m₀ ∧ news' = (Dl, listOf cs.toArray nn') :: (D, lo) :: tl ∧ P I r ds cs tl) ?_ ?_ ?_ vs m₀ _ ⟨m₀ (PySem.Str.ofString "x"), m₀ (PySem.Str.ofString "figure"), m₀ (PySem.Str.ofString "word"), tp, tn, [], [], n0, tl0, ?_, rfl, h0 I lI⟩
  · rintro r m news ⟨u1, u2, u3, t4, t5, ds, cs, nn, tl, rfl, rfl, hp⟩
    exact ⟨.tail _ (.head _), trivial⟩
  · rintro v r m news o h tk ⟨u1, u2, u3, t4, t5, ds, cs, nn, tl, rfl, rfl, hp⟩ ho F₁ N₁
    exact turn I o v r ds cs nn tl u1 u2 u3 t4 t5 h tk (lI (Dl, listOf ([] : List Value).toArray n0) (.head _)) (lI (D, lo) (.tail _ (.head _))) hp ho F₁ N₁
  · rintro m news h tk ⟨u1, u2, u3, t4, t5, ds, cs, nn, tl, rfl, rfl, hp⟩ F₁ N₁
    exact fin I ds cs nn tl u1 u2 u3 t4 t5 h tk hp F₁ N₁
  · have := five_own m₀
    rw [hp, hn, ← path_nil, ← num_nil k] at this
    exact this
theorem fig_of (x : Int) (k : Nat) : ∃ f : Nat, (x.fdiv 6).fmod ((2 ^ k : Nat) : Int) = (f : Int) ∧ f < 2 ^ k := by
  have hB : 0 < 2 ^ k := Nat.pow_pos (by decide)
  have h1 := Int.fmod_nonneg_of_pos (x.fdiv 6) (b := ((2 ^ k : Nat) : Int)) (by (first | lia | omega))
  have h2 := Int.fmod_lt_of_pos (x.fdiv 6) (b := ((2 ^ k : Nat) : Int)) (by (first | lia | omega))
  obtain ⟨f, e⟩ := Int.eq_ofNat_of_zero_le h1
  rw [e] at h2
  exact ⟨f, e, by (first | lia | omega)⟩
theorem norm_ok {l : List PySem.Str} (h : Parts l) (hw : wt l ≤ 4000) : (joined l).length ≤ 4096 ∧ ((joined l).length : Int) ≠ 0 ∧ (Txt.slice (joined l) none (some 1) != PySem.Str.ofString "/") = false ∧ (Txt.slice (joined l) (some 1) (some 2) != PySem.Str.ofString "/") = true := by
  have h1 := txt_join_le l
  have h3 : (PySem.Str.ofString "/").length = 1 := by decide
  have h4 : (joined l).length = (PySem.Str.ofString "/").length + (Txt.join (PySem.Str.ofString "/") l).length := Str.length_append _ _
  refine ⟨by (first | lia | omega), by (first | lia | omega), ?_, (joined_one h).2.1⟩
  rw [(joined_one h).1]
  exact bne_self_eq_false _
theorem num_div {k d : Nat} (hd : d < 2 ^ k) (r : List Nat) : numOf' k (d :: r) / 2 ^ k = numOf' k r := by
  show (d + 2 ^ k * valOf (2 ^ k) (r ++ [1])) / 2 ^ k = _
  rw [Nat.add_mul_div_left _ _ (Nat.pow_pos (by decide)), Nat.div_eq_of_lt hd, Nat.zero_add]
theorem num_top_div {k : Nat} (hk : 0 < k) : numOf' k [] / 2 ^ k = 0 := by
  show (1 + 2 ^ k * 0) / 2 ^ k = 0
  exact Nat.div_eq_of_lt (Nat.one_lt_two_pow (by (first | lia | omega)))
theorem num_mod {k d : Nat} (hd : d < 2 ^ k) (r : List Nat) : numOf' k (d :: r) % 2 ^ k = d := by
  show (d + 2 ^ k * valOf (2 ^ k) (r ++ [1])) % 2 ^ k = _
  rw [Nat.add_mul_mod_self_left, Nat.mod_eq_of_lt hd]
theorem bits_pow (k : Nat) : Builtin.Int.intBits ((2 ^ k : Nat) : Int) = k + 1 := by
  refine Nat.le_antisymm (bits_le (Nat.pow_lt_pow_right (by decide) (Nat.lt_succ_self k))) (Nat.lt_of_not_le fun h => ?_)
  exact absurd (bits_lt h) (Nat.lt_irrefl _)
theorem walk_up (ds : List Nat) : normT (joinP (pathOf ds) (PySem.Str.ofString "..")) = pathOf ds.tail := by
  rw [up_word, walk_norm ds parts_up, step_up, path_joined]
  cases ds with
  | nil => rfl
  | cons d r => rw [List.reverse_cons, List.map_append, List.map_singleton, List.dropLast_concat]; rfl
theorem walk_round (ds : List Nat) (f : Nat) : normT (joinP (pathOf ds) (PySem.Str.ofString "./" ++ figStr f ++ PySem.Str.ofString "//" ++ figStr f ++ PySem.Str.ofString "/../..")) = pathOf ds := by
  rw [round_word, walk_norm ds (parts_round f), step_round, path_joined]
theorem walk_fig (ds : List Nat) (f : Nat) : normT (joinP (pathOf ds) (figStr f)) = pathOf (f :: ds) := by
  have := walk_norm ds (parts_fig f)
  rw [← fig_word] at this
  rw [this, step_fig, path_joined, List.reverse_cons, List.map_append]
  rfl
theorem walk_top (x : PySem.Str) (f : Nat) : normT (joinP x (PySem.Str.ofString "/" ++ figStr f)) = pathOf [f] := by
  rw [top_word, joinP_abs, norm_joined (parts_fig f), step_fig]
  rfl
theorem num_up {k : Nat} {ds : List Nat} (hk : 0 < k) (hd : ∀ d ∈ ds, d < 2 ^ k) : (if ((numOf' k ds / 2 ^ k : Nat) : Int) > 1 then ((numOf' k ds / 2 ^ k : Nat) : Int) else 1) = ((numOf' k ds.tail : Nat) : Int) := by
  cases ds with
  | nil =>
    rw [num_top_div hk, if_neg (by decide)]
    exact (num_nil k).symm
  | cons d r =>
    have h1 := numOf_pos k r
    rw [num_div (hd d (.head _))]
    show (if ((numOf' k r : Nat) : Int) > 1 then ((numOf' k r : Nat) : Int) else 1) = ((numOf' k r : Nat) : Int)
    split <;> (first | lia | omega)
theorem num_one (k f : Nat) : ((2 ^ k : Nat) : Int) + (f : Int) = ((numOf' k [f] : Nat) : Int) := by
  have : numOf' k [f] = f + 2 ^ k * (1 + 2 ^ k * 0) := rfl
  rw [this, Nat.mul_zero, Nat.add_zero, Nat.mul_one, Nat.add_comm]; rfl
theorem num_cons (k f : Nat) (ds : List Nat) : ((numOf' k ds : Nat) : Int) * ((2 ^ k : Nat) : Int) + (f : Int) = ((numOf' k (f :: ds) : Nat) : Int) := by
  have : numOf' k (f :: ds) = f + 2 ^ k * numOf' k ds := rfl
  rw [this, Nat.add_comm, Nat.mul_comm]; rfl
theorem wt_round {f : Nat} (h : (figStr f).length ≤ 18) : wt (wRound f) ≤ 100 := by
  unfold wRound
  simp only [wt_cons]
  have e1 : (PySem.Str.ofString ".").length = 1 := by decide
  have e2 : (PySem.Str.ofString "").length = 0 := by decide
  have e3 : (PySem.Str.ofString "..").length = 2 := by decide
  have e : wt [] = 0 := rfl
  (first | lia | omega)
/-- how far the walk has come -/
structure WalkP (k : Nat) (ns : List Int) (Dl D : Addr) (I : Addr) (r : List Value) (ds : List Nat) (cs : List Value) (tl : List (Addr × Obj)) : Prop where
  go : ∃ (todo : List Int) (done : List (List Nat)) (tups T : List (Addr × Obj)), tl = tups ++ T ∧ IntsAre r todo ∧ OkT T ∧ Steps k cs tups done ∧ walkN k [] ns = done ++ walkN k ds todo ∧ done.length + todo.length = ns.length ∧ ds.length ≤ done.length ∧ Dj T tups
  dig : ∀ d ∈ ds, d < 2 ^ k
  offI : ∀ p ∈ tl, p.1 ≠ I
  offD : ∀ p ∈ tl, p.1 ≠ D
  offL : ∀ p ∈ tl, p.1 ≠ Dl

theorem walkP_step {k : Nat} {ns : List Int} {Dl D I A9 : Addr} {x : Int} {todo : List Int} {r : List Value} {ds ds' : List Nat} {done : List (List Nat)} {cs : List Value} {tups T1 T9 : List (Addr × Obj)} {o lo l1 : Obj} (t u : Tok) (hr : IntsAre r todo) (okT : OkT T9) (hst : Steps k cs tups done) (hwk : walkN k [] ns = done ++ walkN k ds (x :: todo)) (hlen : done.length + (x :: todo).length = ns.length) (hdl : ds.length ≤ done.length)
    (hx : stepN k ds x = ds') (hds : ds'.length ≤ ds.length + 1) (hdig : ∀ d ∈ ds', d < 2 ^ k) (offI : ∀ p ∈ tups ++ T1, p.1 ≠ I) (offD : ∀ p ∈ tups ++ T1, p.1 ≠ D) (offL : ∀ p ∈ tups ++ T1, p.1 ≠ Dl) (dj9 : Dj T9 ((I, o) :: (Dl, lo) :: (D, l1) :: tups)) (ltI : I < A9) (lt9 : AllLt A9 ((Dl, lo) :: (D, l1) :: (tups ++ T9))) :
    WalkP k ns Dl D I r ds' (cs ++ [.ref A9]) ((A9, tupo (.str (pathOf ds') t) (.int ((numOf' k ds' : Nat) : Int) u)) :: (tups ++ T9)) := by
  have nA : ∀ p ∈ tups ++ T9, p.1 ≠ A9 := fun p hp => Nat.ne_of_lt (lt_of_all lt9 p (.tail _ (.tail _ hp)))
  refine ⟨⟨todo, done ++ [ds'], _ :: tups, T9, rfl, hr, okT, hst.snoc ds' A9 t u, ?_, ?_, ?_, ?_⟩, hdig, ?_, ?_, ?_⟩
  · rw [hwk, List.append_assoc]
    show _ = done ++ (ds' :: walkN k ds' todo)
    rw [← hx]; rfl
  · rw [List.length_append]; simp only [List.length_cons, List.length_nil] at hlen ⊢; (first | lia | omega)
  · rw [List.length_append]; simp only [List.length_cons, List.length_nil]; (first | lia | omega)
  · exact fun p hp q hq => by
      rcases List.mem_cons.mp hq with rfl | hq
      · exact nA p (List.mem_append_right _ hp)
      · exact dj9 p hp q (.tail _ (.tail _ (.tail _ hq)))
  · intro p hp
    rcases List.mem_cons.mp hp with rfl | hp
    · exact (Nat.ne_of_lt ltI).symm
    · rcases List.mem_append.mp hp with hp | hp
      · exact offI p (List.mem_append_left _ hp)
      · exact dj9 p hp _ (.head _)
  · intro p hp
    rcases List.mem_cons.mp hp with rfl | hp
    · exact (Nat.ne_of_lt (lt_of_all lt9 _ (.tail _ (.head _)))).symm
    · rcases List.mem_append.mp hp with hp | hp
      · exact offD p (List.mem_append_left _ hp)
      · exact dj9 p hp _ (.tail _ (.tail _ (.head _)))
  · intro p hp
    rcases List.mem_cons.mp hp with rfl | hp
    · exact (Nat.ne_of_lt (lt_of_all lt9 _ (.head _))).symm
    · rcases List.mem_append.mp hp with hp | hp
      · exact offL p (List.mem_append_left _ hp)
      · exact dj9 p hp _ (.tail _ (.head _))

theorem turn_walk {s : Shared} {h₀ : Heap} {L : Addr} {h : Heap} {tk : Nat} {I Dl D A9 : Addr} {o l1 : Obj} {k n2 : Nat} {ns : List Int} {r cs : List Value} {ds' : List Nat} {X tups T9 : List (Addr × Obj)} {m₀ m7 : PySem.Str → Option Value} {t u t4 t5 : Tok} {u1 u2 u3 : Option Value}
    (F : Fr h₀ L h m7) (N : News h₀ L h ((A9, tupo (.str (pathOf ds') t) (.int ((numOf' k ds' : Nat) : Int) u)) :: (X ++ (I, o) :: (Dl, listOf (cs ++ [Value.ref A9]).toArray n2) :: (D, l1) :: (tups ++ T9))))
    (hm : m7 = over5 u1 u2 u3 (some (.str (pathOf ds') t4)) (some (.int ((numOf' k ds' : Nat) : Int) t5)) m₀) (hI1 : Dl < I) (hI2 : D < I)
    (W : WalkP k ns Dl D I r ds' (cs ++ [.ref A9]) ((A9, tupo (.str (pathOf ds') t) (.int ((numOf' k ds' : Nat) : Int) u)) :: (tups ++ T9))) :
    TurnEnd h₀ L s (I, o) (fun m' news' => ∃ u1 u2 u3 t4 t5 ds cs nn' tl, m' = over5 u1 u2 u3 (some (.str (pathOf ds) t4)) (some (.int ((numOf' k ds : Nat) : Int) t5)) m₀ ∧ news' = (Dl, listOf cs.toArray nn') :: (D, l1) :: tl ∧ WalkP k ns Dl D I r ds cs tl) { s with heap := h, toks := tk } := by
  refine TurnEnd.intro F N (.tail _ (List.mem_append_right _ (.head _))) ((Dl, listOf (cs ++ [Value.ref A9]).toArray n2) :: (D, l1) :: (A9, tupo (.str (pathOf ds') t) (.int ((numOf' k ds' : Nat) : Int) u)) :: (tups ++ T9)) (subL_of fun p hp => ?_) (offW_of fun p hp => ?_) ⟨_, _, _, _, _, ds', cs ++ [Value.ref A9], n2, _, hm, rfl, W⟩
  · rcases List.mem_cons.mp hp with rfl | hp
    · exact .tail _ (List.mem_append_right _ (.tail _ (.head _)))
    rcases List.mem_cons.mp hp with rfl | hp
    · exact .tail _ (List.mem_append_right _ (.tail _ (.tail _ (.head _))))
    rcases List.mem_cons.mp hp with rfl | hp
    · exact .head _
    exact .tail _ (List.mem_append_right _ (.tail _ (.tail _ (.tail _ hp))))
  · rcases List.mem_cons.mp hp with rfl | hp
    · exact Nat.ne_of_lt hI1
    rcases List.mem_cons.mp hp with rfl | hp
    · exact Nat.ne_of_lt hI2
    exact W.offI p hp
theorem rulwalk1 : True := by
  k_with "call ref" => (k_here; k_dflt (first | (refine ctr_use (normpath _ _ (by with_reducible assumption) (by with_reducible assumption) (by with_reducible assumption) (by with_reducible assumption)) (h := ?_); intro t9 h9 tk9 F9 N9; (try (revert t9 h9 tk9 F9 N9; intros))) | (refine ctr_use (join _ _ _ _ (by with_reducible assumption) (by with_reducible assumption)) (h := ?_); intro t9 h9 tk9 F9 N9; (try (revert t9 h9 tk9 F9 N9; intros))) | ((with_reducible show wpAny _ _ (call (Value.ref _) _) _ _ _); (show Hold (wpAny _ _ (call (Value.ref _) _) _ _ _)))); (try dsimp only); (try k_fold))
  trivial
theorem pow_as {prog : Program} {w : World} {A : Around} {E : Value → Shared → Prop} {s : Shared} {Q : Value → Shared → Prop} {k : Nat} {t u : Tok} (hk : k ≤ 4) (h : Q (.int ((2 ^ k : Nat) : Int) s.toks) { s with toks := s.toks + 1 }) : wpAny (model prog w) A (binaryOp .Pow (.int 2 t) (.int (k : Int) u)) Q E s := by
  refine pow_int_small (by (first | lia | omega)) (by (first | lia | omega)) (by decide) ?_
  have e : (2 : Int) ^ ((k : Nat) : Int).toNat = ((2 ^ k : Nat) : Int) := by simp
  rw [e]; exact h
theorem mod_as {prog : Program} {w : World} {A : Around} {E : Value → Shared → Prop} {s : Shared} {Q : Value → Shared → Prop} {a b c : Int} {t u : Tok} (e : a.fmod b = c) (hb : b ≠ 0) (h : Q (.int c s.toks) { s with toks := s.toks + 1 }) : wpAny (model prog w) A (binaryOp .Mod (.int a t) (.int b u)) Q E s := by
  subst e; exact mod_int' hb h
theorem tup0 {prog : Program} {w : World} {A : Around} {E : Value → Shared → Prop} {s : Shared} {Q : Value → Shared → Prop} {h₀ : Heap} {L d : Addr} {news : List (Addr × Obj)} {a b : Value} {u : Tok} {value slice : PySem.Expr} (N : News h₀ L s.heap news) (hm : (d, tupo a b) ∈ news) (h : Q a s)
    (hs : subscripted slice false (.ref d) (.int 0 u) = operate [.ref d, .int 0 u] (getItem (.ref d) (.int 0 u))) :
    wpAny (model prog w) A (subscriptTail value slice (.ref d) (.int 0 u)) Q E s :=
  item_tupleT (l := [a, b]) (k := 0) (j := 0) ⟨_, (N _ hm).1, rfl, _, rfl⟩ (by decide) (by decide) rfl rfl h hs
/-- behind the four ways of a step: the word, and the number that fits it -/
structure MidF (k : Nat) (ds : List Nat) (x : Int) (wd : PySem.Str) (ds' : List Nat) : Prop where
  hx : stepN k ds x = ds'
  hds : ds'.length ≤ ds.length + 1
  hdig : ∀ d ∈ ds', d < 2 ^ k
  hw : wd.length ≤ 4096
  hX : (joinP (pathOf ds) wd).length ≤ 4096 ∧ ((joinP (pathOf ds) wd).length : Int) ≠ 0 ∧ (Txt.slice (joinP (pathOf ds) wd) none (some 1) != PySem.Str.ofString "/") = false ∧ (Txt.slice (joinP (pathOf ds) wd) (some 1) (some 2) != PySem.Str.ofString "/") = true
  hN : normT (joinP (pathOf ds) wd) = pathOf ds'
inductive MidW (g : Heap) (L : Addr) (GG : Array GenState) (DD : Drawn) (OO : OsState) (m : PySem.Str → Option Value) (I Dl D : Addr × Obj) (tups : List (Addr × Obj)) (k : Nat) (ds : List Nat) (x : Int) : Flow → Shared → Prop
  | intro (wd : PySem.Str) (tw : Tok) (ds' : List Nat) (tn : Tok) (T9 : List (Addr × Obj)) (h9 : Heap) (tk9 : Nat)
    (F : Fr g L h9 (fun z => if z = PySem.Str.ofString "number" then some (.int ((numOf' k ds' : Nat) : Int) tn) else if z = PySem.Str.ofString "word" then some (.str wd tw) else m z))
    (N : News g L h9 (I :: Dl :: D :: (tups ++ T9))) (okT : OkT T9) (dj : Dj T9 (I :: Dl :: D :: tups)) (f : MidF k ds x wd ds') : MidW g L GG DD OO m I Dl D tups k ds x .next ⟨h9, GG, DD, tk9, OO⟩
theorem mid_walk {M : Model} {A : Around} {t : Sem Flow} {Q : Flow → Shared → Prop} {E : Value → Shared → Prop} {s : Shared} {g h : Heap} {L : Addr} {GG : Array GenState} {DD : Drawn} {OO : OsState} {m : PySem.Str → Option Value} {I Dl D : Addr × Obj} {tups : List (Addr × Obj)} {k : Nat} {ds : List Nat} {x : Int} (_F : Fr g L h m)
    (h1 : wpAny M A t (MidW g L GG DD OO m I Dl D tups k ds x) E s)
    (h2 : ∀ (wd : PySem.Str) (tw : Tok) (ds' : List Nat) (tn : Tok) (T9 : List (Addr × Obj)) (h9 : Heap) (tk9 : Nat), Fr g L h9 (fun z => if z = PySem.Str.ofString "number" then some (.int ((numOf' k ds' : Nat) : Int) tn) else if z = PySem.Str.ofString "word" then some (.str wd tw) else m z) →
      News g L h9 (I :: Dl :: D :: (tups ++ T9)) → OkT T9 → Dj T9 (I :: Dl :: D :: tups) → MidF k ds x wd ds' → Q .next ⟨h9, GG, DD, tk9, OO⟩) : wpAny M A t Q E s :=
  wpAny_mono h1 (fun fl s' H => by
    cases H with
    | intro wd tw ds' tn T9 h9 tk9 F N okT dj f => exact h2 wd tw ds' tn T9 h9 tk9 F N okT dj f) fun _ _ h => h
theorem fr_eq {g h : Heap} {L : Addr} {m m' : PySem.Str → Option Value} (F : Fr g L h m) (e : m = m') : Fr g L h m' := e ▸ F
theorem mid_same (v v2 v1 u1 u2 u3 u4 u5 : Option Value) (m : PySem.Str → Option Value) :
    (fun z => if z = PySem.Str.ofString "word" then v else if z = PySem.Str.ofString "figure" then v2 else if z = PySem.Str.ofString "x" then v1 else over5 u1 u2 u3 u4 u5 m z) = fun z => if z = PySem.Str.ofString "number" then u5 else if z = PySem.Str.ofString "word" then v else if z = PySem.Str.ofString "figure" then v2 else if z = PySem.Str.ofString "x" then v1 else over5 u1 u2 u3 u4 u5 m z := by
  funext z
  by_cases e : z = PySem.Str.ofString "number"
  · subst e; rfl
  · rw [if_neg e]
theorem rulwalk2 : True := by
  k_with "subscriptTail" => (k_here; (with_reducible show wpAny _ _ (subscriptTail _ _ (Value.ref _) (Value.int _ _)) _ _ _); (with_unfolding_all refine tup0 (by k_asm) (by k_mem) ?_ (by with_unfolding_all rfl)))
  k_with "call builtin:list.append" => (k_here; (with_reducible show wpAny _ _ (call (Value.builtin _) [Value.ref _, _]) _ _ _); k_dflt (refine append_K (hsz := (by (simp only [List.size_toArray, sizeLine_eq]; (first | lia | omega)))) (by k_asm) (by k_asm) (by repeat (first | exact Upd.head (by assumption) | refine Upd.tail (by first | assumption | k_ne) ?_)) ?_); intro h' F' N'; (try (revert h' F' N'; intros)))
  k_with "binaryOp Pow int int" => (k_here; k_dflt (refine pow_as (by with_reducible assumption) ?_))
  k_with "binaryOp Mult int int" => (k_here; k_dflt (refine mul_int ?_ (IntMulOk.of_right (by with_reducible assumption))))
  k_with "binaryOp Mod int int" => (k_here; k_dflt (refine mod_as (by with_reducible assumption) (by first | with_reducible assumption | decide) ?_))
  k_with "exec For Name Name cons nil" => (k_here; (rename Fr _ _ _ _ => lF'); (with_unfolding_all refine' For_turns lF' ?_; k_whole))
  k_with "pyIter ref" => (k_here; k_dflt (show Hold _))
  k_with "exec If" => (k_here; (with_reducible show wpAny _ _ (exec (Stmt.If (PySem.Expr.Compare _ _ [PySem.Expr.Constant (Const.int 0) _ _] _) _ _ _) _) _ _ _); k_dflt (show Hold _))
  trivial
theorem law_walk {w mean mg mb} (D : Addr) (us : List Value) (nn : Nat) (ns : List Int) (k : Nat) (u : Tok) (hi : IntsAre us ns) (hz : ns.length ≤ 9) (hk : 0 < k) (hk2 : k ≤ 4) (own : List (Addr × Obj)) (hDo : ∀ p ∈ own, p.1 ≠ D) :
    SurD w mean mg mb 214 [.ref D, .int (k : Int) u] 130 ((D, listOf us.toArray nn) :: own) fun K Q => ∀ (a : Addr) (vs : List Value) (nn' : Nat) (tups T' : List (Addr × Obj)) (h' : Heap) (tk' : Nat), OkT T' → Dj T' ((D, listOf us.toArray nn) :: own) → Steps k vs tups (walkN k [] ns) → Dj T' ((a, listOf vs.toArray nn') :: tups) → Dj ((a, listOf vs.toArray nn') :: tups) ((D, listOf us.toArray nn) :: own) → (∀ p ∈ tups, p.1 ≠ a) → K ((a, listOf vs.toArray nn') :: (tups ++ (((D, listOf us.toArray nn) :: own) ++ T'))) h' → Q (.ref a) h' tk' := by
  unfold SurD PR
  k_fill
  intro dp un gd cn cs aF ccd cl outer A₀ base h₀ L m T s Q E h1 h2 h3 h4 h5 h6 h7 h8 h9 h10 h11 hret
  have h4' : News h₀ L s.heap (((D, listOf us.toArray nn) :: T) ++ own) := newsSub h4 fun p hp => by
    simp only [List.mem_append, List.mem_cons] at hp ⊢
    rcases hp with (h | h) | h <;> simp [h]
  have h6' : Dj ((D, listOf us.toArray nn) :: T) own := fun p hp q hq => by
    rcases List.mem_cons.mp hp with rfl | hp
    · exact (hDo q hq).symm
    · exact h6 p hp q (.tail _ hq)
  refine wpAny_call ?_
  k_dflt (refine' enter_plain (part := (D, listOf us.toArray nn) :: T) (rest := own) ?k1 ?k2 ?k3 h4' (dj_ne h6') ?k5 ?kA ?kF ?kK ?k6 ?k7 ?k8 ?k9 ?kB ?_ ?c2 ?c3 ?c4 ?c5; (case kA => exact rfl); (case kF => exact rfl); (case kK => assumption); (case k1 => k_asm); (case k2 => k_asm); (case k3 => k_asm); (case k5 => k_asm); (case k6 => k_is); (case k7 => k_is); (case k8 => ktr_room); (case k9 => first | exact BindsTo.of_eq (binds := [(_, _)]) rfl | exact BindsTo.of_eq (binds := [(_, _), (_, _)]) rfl | exact BindsTo.of_eq (binds := [(_, _), (_, _), (_, _)]) rfl); (case c5 => decide); (case kB => exact locs rfl); (case c2 => exact rfl); (case c3 => exact rfl); (case c4 => exact rfl); k_whole; intro g' L' h' FG' F' N' B' X' T' l1 hG' GZ DZ tkZ OZ QZ hQZ; (try dsimp only); (try k_lift B'))
  have hH := h7.keeps FG'.keep
  have hk8 : k < 8 := by (first | lia | omega)
  have hB64 : Builtin.Int.intBits ((2 ^ k : Nat) : Int) ≤ 64 := by rw [bits_pow]; (first | lia | omega)
  have hB0 : ((2 ^ k : Nat) : Int) ≠ 0 := by have : 0 < 2 ^ k := Nat.pow_pos (by decide); (first | lia | omega)
  have hTl : ∀ p ∈ T, p.1 ≠ D := fun p hp => h6 p hp _ (.head _)
  k_steps
  rename_i h5' h6'' h7' Dl h8' lL h9' lN; have lF := lF'
  show wpAny _ _ (pyIter _) _ _ _
  have hDDl := lL.1
  refine loop_walk (k := k) (WalkP k ns Dl D) rfl lF lN rfl rfl rfl rfl ?_ ?_ ?_
  · intro I lI
    exact ⟨⟨ns, [], [], T, rfl, hi, h5, ⟨rfl, fun i ds e => by simp at e⟩, rfl, by simp, by simp, Dj.nil⟩, nofun, fun p hp => Nat.ne_of_lt (lI p (.tail _ (.tail _ hp))), hTl, fun p hp => Nat.ne_of_lt (lt_of_all lL.2 p hp)⟩
  · rintro I o v r ds cs nn' tl u1 u2 u3 t4 t5 h tk hI1 hI2 ⟨⟨todo, done, tups, T1, rfl, hr, okT, hst, hwk, hlen, hdl, hdj⟩, hdig, offI, offD, offL⟩ ho F N
    obtain ⟨x, todo, rfl⟩ : ∃ x t, todo = x :: t := by
      cases todo with
      | nil => cases hr
      | cons x t => exact ⟨x, t, rfl⟩
    obtain ⟨tx, r', e, hr'⟩ := hr.cons_inv
    cases e
    obtain ⟨f, hf, hf2⟩ := fig_of x k
    obtain ⟨q, hq⟩ : ∃ q, x.fmod 6 = q := ⟨_, rfl⟩
    have hdr : ∀ d ∈ ds.reverse, d < 16 := fun d hd' => Nat.lt_of_lt_of_le (hdig d (List.mem_reverse.mp hd')) (Nat.le_trans (Nat.pow_le_pow_right (by decide) hk2) (by decide : 2 ^ 4 ≤ 16))
    have hcl : cs.length ≤ 9 := by rw [hst.len]; (first | lia | omega)
    have hpl : (pathOf ds).length ≤ 1000 := by
      have h1 := txt_join_le (ds.reverse.map figStr)
      have h2 := wt_figs hdr
      rw [List.length_reverse] at h2
      have h3 : (PySem.Str.ofString "/").length = 1 := by decide
      rw [List.length_cons] at hlen
      unfold pathOf
      rw [Str.length_append]
      show (PySem.Str.ofString "/").length + _ ≤ _
      (first | lia | omega)
    have hd4 : ds.length * k < 40 := by have : ds.length * k ≤ 8 * 4 := Nat.mul_le_mul (by rw [List.length_cons] at hlen; (first | lia | omega)) hk2; (first | lia | omega)
    have hpl4 : (pathOf ds).length ≤ 4096 := by (first | lia | omega)
    have hf16 : f < 16 := Nat.lt_of_lt_of_le hf2 (Nat.le_trans (Nat.pow_le_pow_right (by decide) hk2) (by decide : 2 ^ 4 ≤ 16))
    have hfl : (figStr f).length ≤ 18 := by have := figStr_len f; (first | lia | omega)
    have djI : Dj T1 ((I, o) :: (Dl, listOf cs.toArray nn') :: (D, listOf us.toArray nn) :: tups) := Dj.cons (fun p hp => offI p (List.mem_append_right _ hp)) (Dj.cons (fun p hp => offL p (List.mem_append_right _ hp)) (Dj.cons (fun p hp => offD p (List.mem_append_right _ hp)) hdj))
    have hft : (x.fdiv 6).fmod ((2 ^ k : Nat) : Int) = (f : Int) := hf
    have hw3 := wt_figs hdr
    rw [List.length_reverse] at hw3
    have hw4 : 18 * ds.length ≤ 200 := by rw [List.length_cons] at hlen; (first | lia | omega)
    k_steps
    rename Fr g' _ _ _ => F8
    show wpAny _ _ (exec _ _) _ _ _
    refine mid_walk (k := k) (ds := ds) (x := x) (I := (I, o)) (Dl := (Dl, listOf cs.toArray nn')) (D := (D, listOf us.toArray nn)) (tups := tups) (GG := GZ) (DD := DZ) (OO := OZ) F8 ?_ fun wd tw ds' tn T9 h9 tk9 F N okT9 dj9 mf => ?_
    · refine wpAny_If ?_
      by_cases q0 : q = 0
      · subst q0
        have hX := norm_ok (parts_add ds parts_up) (by rw [wt_append]; have e : wt wUp = 3 := (by decide); (first | lia | omega))
        rw [← joinP_rel ds parts_up, ← up_word] at hX
        k_steps
        refine dt_use (int_divmod (numOf' k ds) (2 ^ k) (k + 1) _ _ ((I, o) :: (Dl, listOf cs.toArray nn') :: (D, listOf us.toArray nn) :: tups) (numOf_pos k ds) (numOf_le hdig hd4) (Nat.one_lt_two_pow (by (first | lia | omega))) (Nat.pow_lt_pow_right (by decide) (Nat.lt_succ_self k)) (bits_pow k) (by (first | lia | omega)) (by (first | lia | omega))) (by k_asm) (by k_asm) (by k_asm) (by k_asm) okT (Dj.cons (fun p hp => offI p (List.mem_append_right _ hp)) (Dj.cons (fun p hp => offL p (List.mem_append_right _ hp)) (Dj.cons (fun p hp => offD p (List.mem_append_right _ hp)) hdj))) hH (by k_asm) (by first | exact rfl | assumption) (by cb_room) (by cb_units) ?_
        intro a9 t9 u9 T9 h9 tk9 okT9 dj9 ne9 ne8 F9 N9
        simp only [List.cons_append] at N9
        have hm := num_up hk hdig
        dsimp only
        k_steps
        rename Fr g' _ _ _ => F8
        rename News g' _ _ _ => N8
        rw [hm] at F8
        refine MidW.intro (PySem.Str.ofString "..") _ (ds.tail) _ _ _ _ F8 (newsSub N8 fun p hp => .tail _ hp) okT9 dj9 ⟨?_, ?_, fun d hd' => hdig d (List.mem_of_mem_tail hd'), by decide, hX, walk_up ds⟩
        · unfold stepN; rw [if_pos hq]
        · rw [List.length_tail]; (first | lia | omega)
      by_cases q1 : q = 1
      · subst q1
        have hX := norm_ok (parts_add ds (parts_round f)) (by rw [wt_append]; have e : wt (wRound f) ≤ 100 := wt_round hfl; (first | lia | omega))
        rw [← joinP_rel ds (parts_round f), ← round_word] at hX
        k_steps
        rename Fr g' _ _ _ => F8
        rename News g' _ _ _ => N8
        refine MidW.intro (PySem.Str.ofString "./" ++ figStr f ++ PySem.Str.ofString "//" ++ figStr f ++ PySem.Str.ofString "/../..") _ (ds) _ _ _ _ (fr_eq F8 (mid_same _ _ _ _ _ _ _ _ _)) N8 okT djI ⟨?_, by (first | lia | omega), hdig, ?_, hX, walk_round ds f⟩
        · unfold stepN; rw [if_neg (by rw [hq]; decide), if_pos hq]
        · simp only [Str.length_append]
          have e1 : (PySem.Str.ofString "./").length = 2 := by decide
          have e2 : (PySem.Str.ofString "//").length = 2 := by decide
          have e3 : (PySem.Str.ofString "/../..").length = 6 := by decide
          (first | lia | omega)
      by_cases q2 : q = 2
      · subst q2
        have hX := norm_ok (parts_fig f) (by rw [wt_cons]; have e : wt [] = 0 := rfl; (first | lia | omega))
        rw [← joinP_abs (pathOf ds) [figStr f], ← top_word] at hX
        k_steps
        rename Fr g' _ _ _ => F8
        rename News g' _ _ _ => N8
        have hm : ((2 ^ k : Nat) : Int) + (f : Int) = ((numOf' k [f] : Nat) : Int) := num_one k f
        rw [hm] at F8
        refine MidW.intro (PySem.Str.ofString "/" ++ figStr f) _ ([f]) _ _ _ _ F8 N8 okT djI ⟨?_, ?_, fun d hd' => by rw [List.mem_singleton.mp hd']; exact hf2, ?_, hX, walk_top (pathOf ds) f⟩
        · unfold stepN; rw [if_neg (by rw [hq]; decide), if_neg (by rw [hq]; decide), if_pos hq, hf]; rfl
        · simp only [List.length_cons, List.length_nil]; (first | lia | omega)
        · simp only [Str.length_append]
          have e1 : (PySem.Str.ofString "/").length = 1 := by decide
          (first | lia | omega)
      have b0 : (q == 0) = false := by simpa using q0
      have b1 : (q == 1) = false := by simpa using q1
      have b2 : (q == 2) = false := by simpa using q2
      have hX := norm_ok (parts_add ds (parts_fig f)) (by rw [wt_append, wt_cons]; have e : wt [] = 0 := rfl; (first | lia | omega))
      rw [← joinP_rel ds (parts_fig f), ← fig_word] at hX
      k_steps
      rename Fr g' _ _ _ => F8
      rename News g' _ _ _ => N8
      have hm : ((numOf' k ds : Nat) : Int) * ((2 ^ k : Nat) : Int) + (f : Int) = ((numOf' k (f :: ds) : Nat) : Int) := num_cons k f ds
      rw [hm] at F8
      refine MidW.intro (figStr f) _ (f :: ds) _ _ _ _ F8 N8 okT djI ⟨?_, ?_, fun d hd' => (List.mem_cons.mp hd').elim (fun e => e ▸ hf2) (hdig d), by (first | lia | omega), hX, walk_fig ds f⟩
      · unfold stepN; rw [if_neg (by rw [hq]; exact q0), if_neg (by rw [hq]; exact q1), if_neg (by rw [hq]; exact q2), hf]; rfl
      · simp only [List.length_cons]; (first | lia | omega)
    dsimp only
    have hw1 := mf.hw
    have hX1 := mf.hX.1
    have hX2 := mf.hX.2.1
    have hX3 := mf.hX.2.2.1
    have hX4 := mf.hX.2.2.2
    have hN := mf.hN
    have hUp : ∀ p ∈ (D, listOf us.toArray nn) :: (tups ++ T9), p.1 ≠ Dl := fun p hp => by
      rcases List.mem_cons.mp hp with rfl | hp
      · exact Nat.ne_of_lt hDDl
      · rcases List.mem_append.mp hp with hp | hp
        · exact offL p (List.mem_append_left _ hp)
        · exact dj9 p hp _ (.tail _ (.head _))
    k_steps
    rename Fr g' _ _ _ => F8
    rename News g' _ _ _ => N8
    rename (_ ∧ _ ∧ _ ∧ AllLt _ _) => lt8
    rename_i A9 _
    refine append_K (its := cs.toArray) (n := nn') (hsz := by simp only [List.size_toArray, sizeLine_eq]; (first | lia | omega)) F8 N8 (.tail (Nat.ne_of_gt lt8.2.1) (.tail (Nat.ne_of_gt hI1) (.head hUp))) ?_
    intro h7 F7 N7
    k_steps
    unfold normT joined at hN
    rw [hN] at F7 N7
    simp only [List.push_toArray] at N7
    show TurnEnd _ _ _ _ _ _
    exact turn_walk (X := []) F7 N7 (five_a _ _ _ _ _ _ _ _ _ _ _) hI1 hI2 (walkP_step _ _ hr' okT9 hst hwk hlen hdl mf.hx mf.hds mf.hdig offI offD offL dj9 lt8.1 lt8.2)
  · rintro I ds cs nn' tl u1 u2 u3 t4 t5 h tk ⟨⟨todo, done, tups, T1, rfl, hr, okT, hst, hwk, hlen, hdl, hdj⟩, hdig, offI, offD, offL⟩ F N
    obtain rfl : todo = [] := by cases hr; rfl
    k_steps
    rename Fr h₀ L _ _ => F9
    rename News h₀ L _ own => N8
    rename News h₀ L _ (_ :: _) => N9
    have offO : ∀ p ∈ (Dl, listOf cs.toArray nn') :: (D, listOf us.toArray nn) :: (tups ++ T1), ∀ q ∈ own, p.1 ≠ q.1 := off_of N hG' (fun p hp => hp)
    rw [show walkN k ds [] = [] from rfl, List.append_nil] at hwk
    rw [← hwk] at hst
    refine hret Dl cs nn' tups T1 h tk okT ?_ hst ?_ ?_ (fun p hp => offL p (List.mem_append_left _ hp)) ⟨F9, ?_⟩
    · intro p hp q hq
      rcases List.mem_cons.mp hq with rfl | hq
      · exact offD p (List.mem_append_right _ hp)
      · exact offO p (.tail _ (.tail _ (List.mem_append_right _ hp))) q hq
    · intro p hp q hq
      rcases List.mem_cons.mp hq with rfl | hq
      · exact offL p (List.mem_append_right _ hp)
      · exact hdj p hp q hq
    · intro p hp q hq
      rcases List.mem_cons.mp hp with rfl | hp
      · rcases List.mem_cons.mp hq with rfl | hq
        · exact (Nat.ne_of_lt hDDl).symm
        · exact offO _ (.head _) q hq
      · rcases List.mem_cons.mp hq with rfl | hq
        · exact offD p (List.mem_append_left _ hp)
        · exact offO p (.tail _ (.tail _ (List.mem_append_left _ hp))) q hq
    · intro p hp
      rcases List.mem_cons.mp hp with rfl | hp
      · exact N9 _ (.head _)
      rcases List.mem_append.mp hp with hp | hp
      · exact N9 p (.tail _ (.tail _ (List.mem_append_left _ hp)))
      rcases List.mem_append.mp hp with hp | hp
      · rcases List.mem_cons.mp hp with rfl | hp
        · exact N9 _ (.tail _ (.head _))
        · exact N8 p hp
      · exact N9 p (.tail _ (.tail _ (List.mem_append_right _ hp)))
end Mine
end

open PySem.W in
theorem Mine.offTold : True := by
  k_with_none
  w_top off
  exact trivial

section
open PySem PySem.W PySem.Spec PySem.Calls PyProof.Rows
namespace Mine

theorem splitE {w mean mg mb} (x h l : PySem.Str) (t : Tok) (hx : x.length ≤ 4096) (h1 : pHead x = h) (h2 : pTail x = l) : CtrT w mean mg mb 122 [.str x t] 6 (fun t u _ => [.str h t, .str l u]) := by subst h1 h2; exact split x t hx
theorem dirnameE {w mean mg mb} (x h : PySem.Str) (t : Tok) (hx : x.length ≤ 4096) (h1 : pHead x = h) : Ctr w mean mg mb 143 [.str x t] 6 (fun t => .str h t) := by subst h1; exact dirname x t hx
theorem basenameE {w mean mg mb} (x l : PySem.Str) (t : Tok) (hx : x.length ≤ 4096) (h1 : pTail x = l) : Ctr w mean mg mb 136 [.str x t] 6 (fun t => .str l t) := by subst h1; exact basename x t hx
theorem ok_iff (x : PySem.Str) : PyData.strOk x = true ↔ ∀ c ∈ x.cps.toList, c < 1114112 := by
  unfold PyData.strOk
  rw [← Array.all_toList, List.all_eq_true]
  simp
theorem ok_fig (d : Nat) : PyData.strOk (figStr d) = true := by
  rw [ok_iff]
  intro c hc
  have := fig_digits d c hc
  (first | lia | omega)
theorem ok_cat {x y : PySem.Str} (hx : PyData.strOk x = true) (hy : PyData.strOk y = true) : PyData.strOk (x ++ y) = true := by
  rw [ok_iff] at *
  intro c hc
  rw [cat_cps] at hc
  exact (List.mem_append.mp hc).elim (hx c) (hy c)
theorem ok_slash : PyData.strOk (PySem.Str.ofString "/") = true := by
  rw [ok_iff, slash_cps]; decide
theorem ok_none : PyData.strOk (PySem.Str.ofString "") = true := by
  rw [ok_iff, show (PySem.Str.ofString "").cps.toList = [] by decide]; decide
theorem ok_path : ∀ ds : List Nat, PyData.strOk (pathOf ds) = true
  | [] => by rw [path_nil]; exact ok_slash
  | [d] => by
    rw [ok_iff, path_one]
    intro c hc
    rcases List.mem_cons.mp hc with rfl | hc
    · decide
    · exact (ok_iff _).mp (ok_fig d) c hc
  | d :: e :: r => by
    rw [ok_iff, path_cons]
    intro c hc
    rcases List.mem_append.mp hc with hc | hc
    · exact (ok_iff _).mp (ok_path (e :: r)) c hc
    rcases List.mem_cons.mp hc with rfl | hc
    · decide
    · exact (ok_iff _).mp (ok_fig d) c hc
theorem two_shaped {a b : PySem.Str} (h1 : PyData.strOk a = true) (h2 : PyData.strOk b = true) : SeqAt.shaped (PyData.tuple [.str a, .str b]) = true := by
  unfold SeqAt.shaped
  rw [show (PyData.tuple [.str a, .str b]).canLay0 = (PyData.strOk a && (PyData.strOk b && true)) from rfl, h1, h2]
  rfl
theorem divE {w mean mg mb} (d : Nat) (r : List Nat) (k : Nat) (t u : Tok) (hd : ∀ x ∈ d :: r, x < 2 ^ k) (hl : (d :: r).length * k < 40) (hk : 0 < k) (hk2 : k ≤ 4) (own : List (Addr × Obj)) :
    CtrDT w mean mg mb 197 [.int ((numOf' k (d :: r) : Nat) : Int) t, .int ((2 ^ k : Nat) : Int) u] 104 own (fun t u => [.int ((numOf' k r : Nat) : Int) t, .int (d : Int) u]) := by
  have h := int_divmod (w := w) (mean := mean) (mg := mg) (mb := mb) (numOf' k (d :: r)) (2 ^ k) (k + 1) t u own (numOf_pos k _) (numOf_le hd hl) (Nat.one_lt_two_pow (by (first | lia | omega))) (Nat.pow_lt_pow_right (by decide) (Nat.lt_succ_self k)) (bits_pow k) (by (first | lia | omega)) (by (first | lia | omega))
  rw [num_div (hd d (.head _)), num_mod (hd d (.head _))] at h
  exact h
theorem rultold1 : True := by
  k_with "compareOp NotEq ref ref" => (k_here; (with_reducible show wpAny _ _ (compareOp CmpOp.NotEq (Value.ref _) (Value.ref _)) _ _ _); k_dflt (refine ne_dataH (by ke_read) (by ke_read) (two_shaped (by with_reducible assumption) (by with_reducible assumption)) (two_shaped (by with_reducible assumption) (by with_reducible assumption)) (by ke_room) ?_); ke_norm)
  k_with "compareOp Eq ref ref" => (k_here; (with_reducible show wpAny _ _ (compareOp CmpOp.Eq (Value.ref _) (Value.ref _)) _ _ _); k_dflt (refine eq_dataH (by ke_read) (by ke_read) (two_shaped (by with_reducible assumption) (by with_reducible assumption)) (two_shaped (by with_reducible assumption) (by with_reducible assumption)) (by ke_room) ?_); ke_norm)
  k_with "exec If" => (k_here; (with_reducible show wpAny _ _ (exec (Stmt.If (PySem.Expr.Compare _ _ [PySem.Expr.Constant (Const.int 1) _ _] _) _ _ _) _) _ _ _); k_dflt (show Hold _))
  k_with "exec If" => (k_here; (with_reducible show wpAny _ _ (exec (Stmt.If (PySem.Expr.BoolOp PySem.BoolOp.And _ _) _ _ _) _) _ _ _); k_dflt (show Hold _))
  k_with "call ref" => (k_here; k_dflt (first | (refine ctrT_use (splitE _ _ _ _ (by with_reducible assumption) (by with_reducible assumption) (by with_reducible assumption)) (h := ?_); intro a9 t9 u9 v9 h9 tk9 F9 N9 l9; (try (replace l9 := allNe_of l9; simp only [AllNe, and_true] at l9)); (try (revert a9 t9 u9 v9 h9 tk9 F9 N9 l9; intros))) | (refine ctr_use (dirnameE _ _ _ (by with_reducible assumption) (by with_reducible assumption)) (h := ?_); intro t9 h9 tk9 F9 N9; (try (revert t9 h9 tk9 F9 N9; intros))) | (refine ctr_use (basenameE _ _ _ (by with_reducible assumption) (by with_reducible assumption)) (h := ?_); intro t9 h9 tk9 F9 N9; (try (revert t9 h9 tk9 F9 N9; intros))) | ((with_reducible show wpAny _ _ (call (Value.ref _) _) _ _ _); (show Hold (wpAny _ _ (call (Value.ref _) _) _ _ _)))); (try dsimp only); (try k_fold))
  trivial
theorem path_len {ds : List Nat} (hd16 : ∀ d ∈ ds, d < 16) (hl : ds.length < 40) : (pathOf ds).length ≤ 1000 := by
  have hdr : ∀ d ∈ ds.reverse, d < 16 := fun d hd' => hd16 d (List.mem_reverse.mp hd')
  have h1 := txt_join_le (ds.reverse.map figStr)
  have h2 := wt_figs hdr
  rw [List.length_reverse] at h2
  have h3 : (PySem.Str.ofString "/").length = 1 := by decide
  unfold pathOf
  rw [Str.length_append]
  show (PySem.Str.ofString "/").length + _ ≤ _
  (first | lia | omega)
theorem news_drop {h₀ : Heap} {L : Addr} {h : Heap} {l : List (Addr × Obj)} (X : List (Addr × Obj)) (N : News h₀ L h (X ++ l)) : News h₀ L h l := newsSub N fun p hp => List.mem_append_right _ hp
theorem num_big {k : Nat} (hk : 0 < k) (d : Nat) (r : List Nat) : ((numOf' k (d :: r) : Nat) : Int) ≠ 1 := by
  have h : numOf' k (d :: r) = d + 2 ^ k * numOf' k r := rfl
  have h1 := numOf_pos k r
  have h2 : 1 < 2 ^ k := Nat.one_lt_two_pow (by (first | lia | omega))
  have h3 : 2 ^ k * 1 ≤ 2 ^ k * numOf' k r := Nat.mul_le_mul_left _ h1
  (first | lia | omega)
/-- behind a test that lets the walk go on: the frame as it was, and the tables -/
inductive MidT (g : Heap) (L : Addr) (GG : Array GenState) (DD : Drawn) (OO : OsState) (m : PySem.Str → Option Value) (T : List (Addr × Obj)) : Flow → Shared → Prop
  | intro (h9 : Heap) (tk9 : Nat) (F : Fr g L h9 m) (N : News g L h9 T) : MidT g L GG DD OO m T .next ⟨h9, GG, DD, tk9, OO⟩
theorem mid_told {M : Model} {A : Around} {t : Sem Flow} {Q : Flow → Shared → Prop} {E : Value → Shared → Prop} {s : Shared} {g h : Heap} {L : Addr} {GG : Array GenState} {DD : Drawn} {OO : OsState} {m : PySem.Str → Option Value} {T : List (Addr × Obj)} (_F : Fr g L h m)
    (h1 : wpAny M A t (MidT g L GG DD OO m T) E s) (h2 : ∀ h9 tk9, Fr g L h9 m → News g L h9 T → Q .next ⟨h9, GG, DD, tk9, OO⟩) : wpAny M A t Q E s :=
  wpAny_mono h1 (fun fl s' H => by
    cases H with
    | intro h9 tk9 F N => exact h2 h9 tk9 F N) fun _ _ h => h
theorem law_told {w mean mg mb} (ds : List Nat) (k : Nat) (t u v : Tok) (hd : ∀ d ∈ ds, d < 2 ^ k) (hl : ds.length * k < 40) (hk : 0 < k) (hk2 : k ≤ 4) (own : List (Addr × Obj)) :
    CtrD w mean mg mb 242 [.str (pathOf ds) t, .int ((numOf' k ds : Nat) : Int) u, .int k v] 130 own (fun _ => .bool true) := by
  unfold CtrD SurD PR
  k_fill
  intro dp un gd cn cs aF ccd cl outer A₀ base h₀ L m T s Q E h1 h2 h3 h4 h5 h6 h7 h8 h9 h10 h11 hret
  have h4' : News h₀ L s.heap (T ++ own) := newsSub h4 fun p hp => by simp only [List.mem_append] at hp ⊢; rcases hp with h | h <;> simp [h]
  refine wpAny_call ?_
  k_dflt (refine' enter_plain (part := T) (rest := own) ?k1 ?k2 ?k3 h4' (dj_ne h6) ?k5 ?kA ?kF ?kK ?k6 ?k7 ?k8 ?k9 ?kB ?_ ?c2 ?c3 ?c4 ?c5; (case kA => exact rfl); (case kF => exact rfl); (case kK => assumption); (case k1 => k_asm); (case k2 => k_asm); (case k3 => k_asm); (case k5 => k_asm); (case k6 => k_is); (case k7 => k_is); (case k8 => ktr_room); (case k9 => first | exact BindsTo.of_eq (binds := [(_, _)]) rfl | exact BindsTo.of_eq (binds := [(_, _), (_, _)]) rfl | exact BindsTo.of_eq (binds := [(_, _), (_, _), (_, _)]) rfl); (case c5 => decide); (case kB => exact locs rfl); (case c2 => exact rfl); (case c3 => exact rfl); (case c4 => exact rfl); k_whole; intro g' L' h' FG' F' N' B' X' T' l1 hG' GZ DZ tkZ OZ QZ hQZ; (try dsimp only); (try k_lift B'))
  have hH := h7.keeps FG'.keep
  have hk8 : k < 8 := by (first | lia | omega)
  have hdl : ds.length < 40 := by
    have : ds.length ≤ ds.length * k := Nat.le_mul_of_pos_right _ hk
    (first | lia | omega)
  have hd16 : ∀ d ∈ ds, d < 16 := fun d hd' => Nat.lt_of_lt_of_le (hd d hd') (Nat.le_trans (Nat.pow_le_pow_right (by decide) hk2) (by decide : 2 ^ 4 ≤ 16))
  have hpl := path_len hd16 hdl
  have hx0 : (pathOf ds).length ≤ 4096 := by (first | lia | omega)
  have b1 : (pathOf ds != pathOf ds) = false := bne_self_eq_false _
  have b2 : (((numOf' k ds : Nat) : Int) != ((numOf' k ds : Nat) : Int)) = false := bne_self_eq_false _
  k_steps
  refine dp_use (law_path ds k _ _ hd hl hk hk2 []) (by k_asm) (by k_asm) (by k_asm) (T := T) (by k_asm) (by assumption) Dj.nil hH (by k_asm) (by first | exact rfl | assumption) (by cb_room) (by cb_units) ?_
  intro t1 T1 h1' tk1 ok1 dj1 F1 N1
  simp only [List.nil_append] at N1
  k_steps
  refine dp_use (law_number ds k _ _ hd hl hk hk2 []) (by k_asm) (by k_asm) (by k_asm) (T := T1) (by k_asm) (by assumption) Dj.nil hH (by k_asm) (by first | exact rfl | assumption) (by cb_room) (by cb_units) ?_
  intro t2 T2 h2' tk2 ok2 dj2 F2 N2
  simp only [List.nil_append] at N2
  have oe := ok_none
  have os := ok_slash
  obtain ⟨H, e1⟩ : ∃ H, pHead (pathOf ds) = H := ⟨_, rfl⟩
  obtain ⟨Tl, e2⟩ : ∃ Tl, pTail (pathOf ds) = Tl := ⟨_, rfl⟩
  have oH : PyData.strOk H = true := by
    rw [← e1]
    cases ds with
    | nil => rw [head_top', path_nil]; exact ok_slash
    | cons d r => rw [head_path d r]; exact ok_path r
  have oT : PyData.strOk Tl = true := by
    rw [← e2]
    cases ds with
    | nil => rw [show pTail (pathOf []) = PySem.Str.ofString "" from tail_top]; exact ok_none
    | cons d r => rw [tail_path d r]; exact ok_fig d
  k_steps
  show wpAny _ _ (exec _ _) _ _ _
  cases ds with
  | nil =>
    obtain rfl : H = PySem.Str.ofString "/" := by rw [← e1, head_top', path_nil]
    obtain rfl : Tl = PySem.Str.ofString "" := by rw [← e2]; exact tail_top
    have n1 : ((numOf' k [] : Nat) : Int) = 1 := num_nil k
    have n2 : (((numOf' k [] : Nat) : Int) == 1) = true := by rw [n1]; rfl
    refine wpAny_If ?_
    k_steps
    exact retD (t := t) hret hG' (by k_asm) (by k_asm) (by k_asm) (by k_asm) ok2 (fun p hp => by simp [hp]) rfl
  | cons d r =>
    obtain rfl : H = pathOf r := by rw [← e1]; exact head_path d r
    obtain rfl : Tl = figStr d := by rw [← e2]; exact tail_path d r
    have hr : ∀ x ∈ r, x < 2 ^ k := fun x hx => hd x (.tail _ hx)
    have hrl : r.length * k < 40 := Nat.lt_of_le_of_lt (Nat.mul_le_mul_right k (Nat.le_succ r.length)) hl
    have hd0 := hd16 d (.head _)
    have x2 : (figStr d).length ≤ 18 := by have := figStr_len d; (first | lia | omega)
    have o1 := ok_path r
    have o2 := ok_fig d
    have o3 := ok_path (d :: r)
    have e3 := head_closed d r
    have e4 := tail_closed d r
    have n1 : ((numOf' k (d :: r) : Nat) : Int) ≠ 1 := num_big hk d r
    have n2 : (((numOf' k (d :: r) : Nat) : Int) == 1) = false := by simpa using n1
    have hpr := path_len (fun x hx => hd16 x (List.mem_cons_of_mem _ hx)) (ds := r) (by have : r.length < (d :: r).length := Nat.lt_succ_self _; (first | lia | omega))
    have x1 : (pathOf (d :: r) ++ PySem.Str.ofString "/").length ≤ 4096 := by
      rw [Str.length_append]
      have h3 : (PySem.Str.ofString "/").length = 1 := by decide
      (first | lia | omega)
    have x3 : (pathOf r ++ PySem.Str.ofString "//" ++ figStr d).length ≤ 4096 := by
      simp only [Str.length_append]
      have h3 : (PySem.Str.ofString "//").length = 2 := by decide
      (first | lia | omega)
    have x4 : (pathOf r ++ PySem.Str.ofString "///" ++ figStr d).length ≤ 4096 := by
      simp only [Str.length_append]
      have h3 : (PySem.Str.ofString "///").length = 3 := by decide
      (first | lia | omega)
    unfold figStr at *
    refine wpAny_If ?_
    k_steps
    show wpAny _ _ (exec _ _) _ _ _
    rename Fr g' L' _ _ => FB
    rename News g' _ _ _ => NB
    have NB := newsSub (n' := T2) NB (fun p hp => by simp at hp ⊢; simp [hp])
    refine mid_told (T := T2) (GG := GZ) (DD := DZ) (OO := OZ) FB ?_ fun h9 tk9 F N => ?_
    · refine wpAny_If ?_
      cases r with
      | nil =>
        have c1 : (pathOf [] != PySem.Str.ofString "/") = false := by rw [path_nil]; exact bne_self_eq_false _
        k_steps
        exact MidT.intro _ _ (by k_asm) (by k_asm)
      | cons d2 r =>
        have c1 : (pathOf (d2 :: r) != PySem.Str.ofString "/") = true := by
          simp only [bne_iff_ne, ne_eq]
          intro h
          have := congrArg (fun x : PySem.Str => x.cps.toList) h
          simp only [slash_cps] at this
          cases r with
          | nil => rw [path_one] at this; simp only [List.cons.injEq, true_and] at this; obtain ⟨c, q, e, _⟩ := fig_some d2; rw [e] at this; cases this
          | cons d3 r => rw [path_cons, path_cps] at this; simp at this
        have b3 : (pathOf (d2 :: r) != pathOf (d2 :: r)) = false := bne_self_eq_false _
        have e5 := head_two d2 d r
        have e6 := tail_two d2 d r
        have e7 := head_three d2 d r
        unfold figStr at *
        k_steps
        exact MidT.intro _ _ (by k_asm) (newsSub (by k_asm) (fun p hp => by simp at hp ⊢; simp [hp]))
    clear NB
    dsimp only
    k_steps
    refine dt_use (divE d _ k _ _ hd hl hk hk2 []) (by k_asm) (by k_asm) (by k_asm) (T := T2) N ok2 Dj.nil hH (by k_asm) (by first | exact rfl | assumption) (by cb_room) (by cb_units) ?_
    intro a3 t3 u3 T3 h3' tk3 ok3 dj3 ne3 ne4 F3 N3
    simp only [List.nil_append] at N3
    k_steps
    rename News g' _ _ _ => N4
    rename (_ ∧ AllLt _ _) => lt4
    rename_i A4 _ _
    refine dp_use (law_path _ k _ _ hr hrl hk hk2 [(A4, _)]) (by k_asm) (by k_asm) (by k_asm) (T := T3) (newsSub N4 (fun p hp => (List.mem_cons.mp hp).elim (fun e => e ▸ .head _) fun h => .tail _ (.tail _ h))) ok3 (fun p hp q hq => by rw [List.mem_singleton.mp hq]; exact Nat.ne_of_lt (lt_of_all lt4.2 p hp)) hH (by k_asm) (by first | exact rfl | assumption) (by cb_room) (by cb_units) ?_
    intro t5 T5 h5' tk5 ok5 dj5 F5 N5
    simp only [List.cons_append, List.nil_append] at N5
    k_steps
    exact retD (t := t) hret hG' (by k_asm) (by k_asm) (by k_asm) (by k_asm) ok5 (fun p hp => by simp [hp]) rfl
end Mine
end

open PySem.W in
theorem Mine.offMapTup : True := by
  k_with_none
  w_top off
  exact trivial

section
open PySem PySem.W PySem.Spec PySem.Calls PyProof.Rows
namespace Mine

namespace FM
open PySem
theorem owner_map : Manifest.owners.lookup (String.ofList ['p', 'a', 'm'].reverse) = some Manifest.sig_map := by kernel_rfl
theorem slot_map_next : Slot "map" "__next__" "map.__next__" :=
  .of (owner := "map") (n := "__next__") (by rw [typeLookup_type, builtinLookup_eq_fast]; kernel_rfl) (by decide +kernel) (by decide +kernel) (by decide +kernel)
    (by first | exact .inl (by decide +kernel) | exact .inr (by decide +kernel)) (by rw [isSubtype_type]; kernel_rfl)
theorem entry_map_next : entryFor table "map.__next__" = some Builtin.«map.__next__» := entryFor_of_tree (by kernel_rfl)
theorem args_map_next_1 (a : Value) : argsOk "map.__next__" ⟨[a], []⟩ := by
  unfold argsOk; rw [signature?_of (id := "map.__next__") (n := ['_', '_', 't', 'x', 'e', 'n', '_', '_']) (o := ['p', 'a', 'm']) (by kernel_rfl) owner_map]; kernel_rfl
theorem slot_map_iter : Slot "map" "__iter__" "map.__iter__" :=
  .of (owner := "map") (n := "__iter__") (by rw [typeLookup_type, builtinLookup_eq_fast]; kernel_rfl) (by decide +kernel) (by decide +kernel) (by decide +kernel)
    (by first | exact .inl (by decide +kernel) | exact .inr (by decide +kernel)) (by rw [isSubtype_type]; kernel_rfl)
theorem args_map_iter_1 (a : Value) : argsOk "map.__iter__" ⟨[a], []⟩ := by
  unfold argsOk; rw [signature?_of (id := "map.__iter__") (n := ['_', '_', 'r', 'e', 't', 'i', '_', '_']) (o := ['p', 'a', 'm']) (by kernel_rfl) owner_map]; kernel_rfl
theorem entry_map_iter : entryFor table "map.__iter__" = some Builtin.«dict_keyiterator.__iter__» :=
  entryFor_alias (id' := "dict_keyiterator.__iter__") (by kernel_rfl) (by first | rfl | decide +kernel | (unfold String.splitOn; simp +decide [String.splitOnAux])) (by decide +kernel) (by kernel_rfl)
theorem mro_map : mroOf (.type "map") = pure [.type "map", .type "object"] := by rw [mroOf_type]; kernel_rfl
theorem lookup_map_new : typeLookup (.type "map") "__new__" = pure (some (.builtin "map.__new__")) := by rw [typeLookup_type, builtinLookup_eq_fast]; kernel_rfl
theorem slot_map_init : Slot "map" "__init__" "object.__init__" :=
  .of (owner := "object") (n := "__init__") (by rw [typeLookup_type, builtinLookup_eq_fast]; kernel_rfl) (by decide +kernel) (by decide +kernel) (by decide +kernel)
    (by first | exact .inl (by decide +kernel) | exact .inr (by decide +kernel)) (by rw [isSubtype_type]; kernel_rfl)
theorem called_map : TypeCalled "map" "map.__new__" "object.__init__" :=
  ⟨by decide +kernel, by decide +kernel, ⟨_, _, mro_map⟩, madeBy_type mro_map lookup_map_new (by decide +kernel), by decide +kernel, by rw [isSubtype_type]; kernel_rfl, slot_map_init⟩
theorem typeCall_map_2 (a b : Value) : checkTypeCall "map" ⟨[a, b], []⟩ = pure () := by kernel_rfl
theorem newCall_map_2 (a b : Value) : checkBuiltinCall "map.__new__" ⟨[.type "map", a, b], []⟩ = pure () := by kernel_rfl
theorem entry_map_new : entryFor table "map.__new__" = some Builtin.«map.__new__» := entryFor_of_tree (by kernel_rfl)
theorem map_no_len : typeLookup (.type "map") "__len__" = pure none := by rw [typeLookup_type, builtinLookup_eq_fast]; kernel_rfl
theorem map_no_hint : typeLookup (.type "map") "__length_hint__" = pure none := by rw [typeLookup_type, builtinLookup_eq_fast]; kernel_rfl
theorem sub_map : isSubtype (.type "map") (.type "map") = pure true := by rw [isSubtype_type]; kernel_rfl
end FM
abbrev mapObj (T : Addr) (f : Value) : Obj := { cls := .type "map", data := .fields #[.ref T, f] }
open Sem (wp) in
theorem meets_map_new (f : Value) (l : Addr) (items : Array Value) :
    Meets (Builtin.«map.__new__» ⟨[.type "map", f, .ref l], []⟩) (fun _ R s => s.heap.IsList l items ∧
      R (.ok (.ret (.ref ((s.heap.push { cls := .type "list_iterator", data := .fields #[.ref l, .int 0 0] }).push { cls := .type "tuple", data := .seq #[.ref s.heap.objs.size] }).objs.size)))
        { s with heap := ((s.heap.push { cls := .type "list_iterator", data := .fields #[.ref l, .int 0 0] }).push { cls := .type "tuple", data := .seq #[.ref s.heap.objs.size] }).push (mapObj (s.heap.push { cls := .type "list_iterator", data := .fields #[.ref l, .int 0 0] }).objs.size f) }) :=
  .of_wp fun prog w A R s h => by
    obtain ⟨hp, g, d, tk, os⟩ := s; obtain ⟨hl1, h⟩ := h
    have hsub := FM.sub_map
    have hL1 : Heap.IsList (Shared.heap ⟨hp, g, d, tk, os⟩) l items := hl1
    wp_walk using wpAny_pyIter_list hL1
    exact ⟨_, rfl, h⟩
end Mine
end

open PySem.W in
theorem Mine.offMapTup2 : True := by
  k_with_none
  w_top off
  exact trivial

section
open PySem PySem.W PySem.Spec PySem.Calls PyProof.Rows
namespace Mine

abbrev tup1 (I : Addr) : Obj := { cls := .type "tuple", data := .seq #[.ref I] }
abbrev iterObj (l : Addr) (i : Int) : Obj := { cls := .type "list_iterator", data := .fields #[.ref l, .int i 0] }
section
variable {prog : Program} {w : World} {A : Around} {E : Value → Shared → Prop} {s : Shared} {h₀ : Heap} {L : Addr} {m : PySem.Str → Option Value} {news : List (Addr × Obj)}
theorem call_map {f : Value} {l : Addr} {items : Array Value} {Q : Value → Shared → Prop} (hl : s.heap.IsList l items)
    (h : ∀ h', h'.get? (s.heap.objs.size + 2) = some (mapObj (s.heap.objs.size + 1) f) → h'.get? (s.heap.objs.size + 1) = some (tup1 s.heap.objs.size) → h'.get? s.heap.objs.size = some (iterObj l 0) →
      (∀ c o, s.heap.get? c = some o → h'.get? c = some o) → Q (.ref (s.heap.objs.size + 2)) { s with heap := h' }) :
    wpAny (model prog w) A (call (.type "map") [f, .ref l]) Q E s := by
  refine callType_new FM.called_map (by decide) (FM.typeCall_map_2 _ _) (FM.newCall_map_2 _ _) (fun obj => F.args_object_init_3 obj _ _) FM.entry_map_new
    (meets_map_new f l items) ⟨hl, ?_⟩
  have z1 : (s.heap.push (iterObj l 0)).objs.size = s.heap.objs.size + 1 := Heap.size_push ..
  have z2 : ((s.heap.push (iterObj l 0)).push (tup1 s.heap.objs.size)).objs.size = s.heap.objs.size + 2 := by rw [Heap.size_push, z1]
  have g3 := Heap.get?_push_size ((s.heap.push (iterObj l 0)).push (tup1 s.heap.objs.size)) (o := mapObj (s.heap.push (iterObj l 0)).objs.size f) rfl
  have g2 : (((s.heap.push (iterObj l 0)).push (tup1 s.heap.objs.size)).push (mapObj (s.heap.push (iterObj l 0)).objs.size f)).get? (s.heap.push (iterObj l 0)).objs.size = some _ := Heap.get?_push_of_some _ (Heap.get?_push_size _ rfl)
  have g1 : (((s.heap.push (iterObj l 0)).push (tup1 s.heap.objs.size)).push (mapObj (s.heap.push (iterObj l 0)).objs.size f)).get? s.heap.objs.size = some _ := Heap.get?_push_of_some _ (Heap.get?_push_of_some _ (Heap.get?_push_size _ rfl))
  show _ ∧ _
  rw [z1] at g2
  rw [z2] at g3
  rw [z1] at g3
  refine ⟨⟨_, by rw [z2, z1]; exact g3, rfl⟩, ?_⟩
  rw [z2]
  refine h _ ?_ ?_ g1 fun c o x => Heap.get?_push_of_some _ (Heap.get?_push_of_some _ (Heap.get?_push_of_some _ x))
  · rw [z1]; exact g3
  · rw [z1]; exact g2
theorem map_next_item {M T I l : Addr} {f x : Value} {i : Nat} {items : Array Value} {Q : Option Value → Shared → Prop}
    (hM : s.heap.get? M = some (mapObj T f)) (hT : s.heap.get? T = some (tup1 I)) (hit : s.heap.IsListIter I l i) (hl : s.heap.IsList l items) (hx : items[i]? = some x) (hMI : M ≠ I) (hTI : T ≠ I)
    (hc : ∀ h', h'.IsListIter I l (i + 1) → Heap.SameBut I s.heap h' → wpAny (model prog w) A.in1 (call f [x]) (fun v s' => Q (some v) s') (fun _ _ => False) { s with heap := h' }) :
    wpAny (model prog w) A (pyNext (.ref M)) Q E s := by
  have hTy : s.TypeIs (.ref M) "map" := ⟨_, hM, rfl⟩
  unfold pyNext
  refine wpAny_bind (wpAny_attempt (wpAny_callSpecial?_slot (name := PySem.Str.ofString "__next__") hTy FM.slot_map_next
    (wpAny_call_entry FM.slot_map_next hTy FM.entry_map_next ?_ (FM.args_map_next_1 _))))
  show wpAny _ _ (field (.ref M) 0 >>= _) _ _ s
  refine wpAny_bind (wpAny_field hM rfl (x := .ref T) rfl ?_)
  refine wpAny_bind (wpAny_seqItems hT rfl ?_)
  show wpAny _ _ (forIn #[Value.ref I] #[] _ >>= _) _ _ s
  refine wpAny_bind ?_
  rw [← Array.forIn_toList]
  show wpAny _ _ (forIn [Value.ref I] #[] _) _ _ s
  rw [List.forIn_cons]
  refine wpAny_bind (wpAny_bind (wpAny_holding (wpAny_nextOf_list_item hit hl hx fun h₁ hit₁ hs₁ => ?_)))
  refine wpAny_pure ?_
  dsimp only
  rw [List.forIn_nil]
  refine wpAny_pure ?_
  have hM₁ : h₁.get? M = some (mapObj T f) := (hs₁.2 M hMI).trans hM
  refine wpAny_bind (wpAny_field hM₁ rfl (x := f) rfl ?_)
  refine wpAny_bind (wpAny_holding ?_)
  refine wpAny_mono (hc h₁ hit₁ hs₁) (fun v s' hq => ?_) fun _ _ h => h.elim
  refine wpAny_bind (wpAny_letGo (wpAny_pure ⟨_, rfl, ?_⟩))
  exact wpAny_pure hq
theorem map_next_end {M T I l : Addr} {f : Value} {i : Nat} {items : Array Value} {Q : Option Value → Shared → Prop} (hh : A.handled = none)
    (hM : s.heap.get? M = some (mapObj T f)) (hT : s.heap.get? T = some (tup1 I)) (hit : s.heap.IsListIter I l i) (hl : s.heap.IsList l items) (hx : items[i]? = none)
    (hQ : ∀ h', Heap.ExtBut I s.heap h' → Q none { s with heap := h' }) :
    wpAny (model prog w) A (pyNext (.ref M)) Q E s := by
  have hTy : s.TypeIs (.ref M) "map" := ⟨_, hM, rfl⟩
  unfold pyNext
  refine wpAny_bind (wpAny_attempt (wpAny_callSpecial?_slot (name := PySem.Str.ofString "__next__") hTy FM.slot_map_next
    (wpAny_call_entry FM.slot_map_next hTy FM.entry_map_next ?_ (FM.args_map_next_1 _))))
  show wpAny _ _ (field (.ref M) 0 >>= _) _ _ s
  refine wpAny_bind (wpAny_field hM rfl (x := .ref T) rfl ?_)
  refine wpAny_bind (wpAny_seqItems hT rfl ?_)
  show wpAny _ _ (forIn #[Value.ref I] #[] _ >>= _) _ _ s
  refine wpAny_bind ?_
  rw [← Array.forIn_toList]
  show wpAny _ _ (forIn [Value.ref I] #[] _) _ _ s
  rw [List.forIn_cons]
  refine wpAny_bind (wpAny_bind (wpAny_holding (wpAny_nextOf_list_end hh hit hl hx fun h' x he' hx' => ?_)))
  obtain ⟨o, ho, hc⟩ := hx'
  refine wpAny_bind (wpAny_isInstance (T := "StopIteration") (b := true) ⟨o, ho, hc⟩ isSubtype_stop ?_)
  exact wpAny_pure (hQ _ he')
end
end Mine
end

open PySem.W in
theorem Mine.offMapTup3 : True := by
  k_with_none
  w_top off
  exact trivial

section
open PySem PySem.W PySem.Spec PySem.Calls PyProof.Rows
namespace Mine

theorem strs_get : ∀ {vs : List Value} {xs : List PySem.Str} {i : Nat} {x : PySem.Str}, StrsAre vs xs → xs[i]? = some x → ∃ t, vs[i]? = some (Value.str x t)
  | _, _, i, x, .nil, e => by simp at e
  | _, _, 0, x, .cons _ t _, e => by simp at e; subst e; exact ⟨t, rfl⟩
  | _, _, i + 1, x, .cons _ _ r, e => by simp at e ⊢; exact strs_get r e
theorem fr_push {h₀ h : Heap} {L : Addr} {m : PySem.Str → Option Value} (F : Fr h₀ L h m) (o : Obj) : Fr h₀ L (h.push o) m := F.keeps fun _ _ e => Heap.get?_push_of_some _ e
theorem fresh_of {h₀ h : Heap} {L : Addr} {m : PySem.Str → Option Value} (F : Fr h₀ L h m) {b : Addr} (hb : h.objs.size ≤ b) : h₀.get? b = none := by
  cases e : h₀.get? b with
  | none => rfl
  | some o => exact absurd (Heap.lt_size (F.keep _ _ e)) (Nat.not_lt.mpr hb)
theorem news_cons {h₀ h : Heap} {L a : Addr} {o : Obj} {l : List (Addr × Obj)} (h1 : h.get? a = some o) (h2 : a ≠ L) (h3 : h₀.get? a = none) (N : News h₀ L h l) : News h₀ L h ((a, o) :: l) := fun p hp => by
  rcases List.mem_cons.mp hp with rfl | hp
  · exact ⟨h1, h2, h3⟩
  · exact N p hp
section
variable {prog : Program} {w : World} {A : Around} {E : Value → Shared → Prop} {s : Shared} {h₀ : Heap} {L : Addr} {m : PySem.Str → Option Value} {news : List (Addr × Obj)}
/-- what the mapped function does -/
def Maps (prog : Program) (w : World) (A : Around) (s : Shared) (h₀ : Heap) (L : Addr) (m : PySem.Str → Option Value) (f : Value) (xs : List PySem.Str) : Prop :=
  ∀ (x : PySem.Str) (t : Tok) (h : Heap) (tk : Nat) (led : List (Addr × Obj)) (Q : Value → Shared → Prop), x ∈ xs → Fr h₀ L h m → News h₀ L h led →
    (∀ t' h' tk', Fr h₀ L h' m → News h₀ L h' led → Q (.str x t') { s with heap := h', toks := tk' }) → wpAny (model prog w) A (call f [.str x t]) Q (fun _ _ => False) { s with heap := h, toks := tk }
theorem map_loop {R : Result → Shared → Prop} {f res : Value} {S M T I l : Addr} {vs : List Value} {xs : List PySem.Str} (hh : A.handled = none) (hi : StrsAre vs xs) (hz : xs.length ≤ 64) (hL : ∀ h, Fr h₀ L h m → News h₀ L h news → h.IsList l vs.toArray) (hf : Maps prog w A.in1.in1 s h₀ L m f xs)
    (hSI : S ≠ I) (hMI : M ≠ I) (hTI : T ≠ I) (hMS : M ≠ S) (hTS : T ≠ S) (hnI : ∀ p ∈ news, p.1 ≠ I) (hnS : ∀ p ∈ news, p.1 ≠ S)
    (hR : ∀ (h' : Heap) (tk' : Nat) (acc : List Value) (c : Nat), Fr h₀ L h' m → News h₀ L h' ((S, listOf acc.toArray c) :: news) → StrsAre acc xs → R (.ok (.ret res)) { s with heap := h', toks := tk' }) :
    ∀ (k i : Nat) (h : Heap) (tk : Nat) (acc : List Value) (c : Nat) (oI : Obj), xs.length - i = k → i ≤ xs.length → Fr h₀ L h m →
      News h₀ L h ((S, listOf acc.toArray c) :: (I, oI) :: (M, mapObj T f) :: (T, tup1 I) :: news) → h.IsListIter I l i → StrsAre acc (xs.take i) →
      codeAny (model prog w) A (.builtin "list.extend.loop" ⟨[.ref S, .ref M, res], []⟩) R { s with heap := h, toks := tk } := by
  intro k
  induction k with
  | zero =>
    intro i h tk acc c oI hk hi' F N hit hacc
    have nS := N _ (.head _)
    have nI := N _ (.tail _ (.head _))
    have nM := N _ (.tail _ (.tail _ (.head _)))
    have nT := N _ (.tail _ (.tail _ (.tail _ (.head _))))
    have Nn : News h₀ L h news := fun p hp => N p (.tail _ (.tail _ (.tail _ (.tail _ hp))))
    have hl : h.IsList l vs.toArray := hL h F Nn
    refine codeAny_builtin PySem.F.entry_extend_loop ?_
    rw [Around.under_plainId PySem.F.plain_extend_loop _]
    show wpAny _ A.in1 (pyNext (.ref M) >>= _) _ _ _
    refine wpAny_bind (map_next_end hh nM.1 nT.1 hit hl (by have := hi.length; simp; (first | lia | omega)) fun h' hk' => ?_)
    have hk'' : ∀ b o, b ∉ [I] → h.get? b = some o → h'.get? b = some o := fun b o hb e => hk' b o (fun q => hb (by rw [q]; exact .head _)) e
    have F1 := kmk_fr F hk'' nI.2.1 nI.2.2
    have N1 := kmk_news Nn hk'' hnI
    refine wpAny_pure (hR h' _ acc c F1 (news_cons (hk'' S _ (by simpa using hSI) nS.1) nS.2.1 nS.2.2 N1) ?_)
    rw [List.take_of_length_le (by (first | lia | omega))] at hacc
    exact hacc
  | succ k ih =>
    intro i h tk acc c oI hk hi' F N hit hacc
    have hlt : i < xs.length := by (first | lia | omega)
    have nS := N _ (.head _)
    have nI := N _ (.tail _ (.head _))
    have nM := N _ (.tail _ (.tail _ (.head _)))
    have nT := N _ (.tail _ (.tail _ (.tail _ (.head _))))
    have Nn : News h₀ L h news := fun p hp => N p (.tail _ (.tail _ (.tail _ (.tail _ hp))))
    have hl : h.IsList l vs.toArray := hL h F Nn
    obtain ⟨t, hv⟩ := strs_get hi (List.getElem?_eq_getElem hlt)
    refine codeAny_builtin PySem.F.entry_extend_loop ?_
    rw [Around.under_plainId PySem.F.plain_extend_loop _]
    show wpAny _ A.in1 (pyNext (.ref M) >>= _) _ _ _
    refine wpAny_bind (map_next_item nM.1 nT.1 hit hl (by simpa using hv) hMI hTI fun h₁ hit₁ hs₁ => ?_)
    have F1 := ksk_fr F hs₁ nI.2.1 nI.2.2
    obtain ⟨oI', hoI', hc', hd'⟩ := hit₁
    have N1 : News h₀ L h₁ ((S, listOf acc.toArray c) :: (I, oI') :: (M, mapObj T f) :: (T, tup1 I) :: news) := by
      refine news_cons ((hs₁.2 S hSI).trans nS.1) nS.2.1 nS.2.2 (news_cons hoI' nI.2.1 nI.2.2 (ksk_news (fun p hp => N p (.tail _ (.tail _ hp))) hs₁ fun p hp => ?_))
      rcases List.mem_cons.mp hp with rfl | hp
      · exact hMI
      rcases List.mem_cons.mp hp with rfl | hp
      · exact hTI
      exact hnI p hp
    refine hf xs[i] t h₁ _ _ _ (List.getElem_mem hlt) F1 N1 fun t' h₂ tk₂ F2 N2 => ?_
    have nS2 := N2 _ (.head _)
    have nI2 := N2 _ (.tail _ (.head _))
    show wpAny _ A.in1 (updateSeq S (·.push (.str xs[i] t')) >>= _) _ _ _
    refine wpAny_bind ?_
    have hal := hacc.length
    rw [List.length_take] at hal
    have s1 := Heap.SameBut.update h₂ S (Obj.mapSeq fun v => v.push (.str xs[i] t'))
    obtain ⟨c2, hc2⟩ : ∃ c2, (h₂.update S (Obj.mapSeq fun v => v.push (.str xs[i] t'))).get? S = some (listOf (acc ++ [Value.str xs[i] t']).toArray c2) := by
      have hq := get?_update_seq nS2.1 fun v => v.push (Value.str xs[i] t')
      rw [List.push_toArray] at hq
      exact ⟨_, hq⟩
    refine wpAny_updateSeq nS2.1 rfl (wpAny_pure ⟨plainId_quiet PySem.F.plain_extend_loop _, ih (i + 1) _ _ (acc ++ [Value.str xs[i] t']) c2 oI' (by (first | lia | omega)) hlt (ksk_fr F2 s1 nS2.2.1 nS2.2.2) ?_ ⟨oI', (s1.2 I hSI.symm).trans nI2.1, hc', hd'⟩ ?_⟩)
      (by simp [sizeLine_eq]; (first | lia | omega)) (by simp [sizeLine_eq]; (first | lia | omega))
    · refine news_cons hc2 nS2.2.1 nS2.2.2 (ksk_news (fun p hp => N2 p (.tail _ hp)) s1 fun p hp => ?_)
      rcases List.mem_cons.mp hp with rfl | hp
      · exact hSI.symm
      rcases List.mem_cons.mp hp with rfl | hp
      · exact hMS
      rcases List.mem_cons.mp hp with rfl | hp
      · exact hTS
      exact hnS p hp
    · rw [List.take_add_one, List.getElem?_eq_getElem hlt]
      exact strs_snoc hacc
end
end Mine
end

open PySem.W in
theorem Mine.offMapTup4 : True := by
  k_with_none
  w_top off
  exact trivial

section
open PySem PySem.W PySem.Spec PySem.Calls PyProof.Rows
namespace Mine

section
variable {prog : Program} {w : World} {A : Around} {E : Value → Shared → Prop} {s : Shared} {h₀ : Heap} {L : Addr} {m : PySem.Str → Option Value} {news : List (Addr × Obj)}
theorem entry_map_iter_id {M T : Addr} {f : Value} {Q : Value → Shared → Prop} (hM : s.heap.get? M = some (mapObj T f)) (h : Q (.ref M) s) : wpAny (model prog w) A (pyIter (.ref M)) Q E s := by
  have hTy : s.TypeIs (.ref M) "map" := ⟨_, hM, rfl⟩
  refine wpAny_pyIter_slot hTy FM.slot_map_iter (wpAny_call_entry FM.slot_map_iter hTy FM.entry_map_iter ?_ (FM.args_map_iter_1 _))
  exact wpAny_pure ⟨_, rfl, "map", _, hTy, FM.slot_map_next.lookup, h⟩
theorem collect_map {Q : List Value → Shared → Prop} {f : Value} {M T I l : Addr} {vs : List Value} {xs : List PySem.Str} (hh : A.handled = none) (hi : StrsAre vs xs) (hz : xs.length ≤ 64) (hL : ∀ h, Fr h₀ L h m → News h₀ L h news → h.IsList l vs.toArray) (hf : Maps prog w A.in1.in1 s h₀ L m f xs)
    (F : Fr h₀ L s.heap m) (N : News h₀ L s.heap ((M, mapObj T f) :: (T, tup1 I) :: (I, iterObj l 0) :: news)) (hMI : M ≠ I) (hTI : T ≠ I) (hnI : ∀ p ∈ news, p.1 ≠ I)
    (hQ : ∀ (h' : Heap) (tk' : Nat) (acc : List Value), Fr h₀ L h' m → News h₀ L h' news → StrsAre acc xs → Q acc { s with heap := h', toks := tk' }) : wpAny (model prog w) A (collect (.ref M)) Q E s := by
  have nM := N _ (.head _)
  have nT := N _ (.tail _ (.head _))
  have nI := N _ (.tail _ (.tail _ (.head _)))
  have hTy : s.TypeIs (.ref M) "map" := ⟨_, nM.1, rfl⟩
  have lM := Heap.lt_size nM.1
  have lT := Heap.lt_size nT.1
  have lI := Heap.lt_size nI.1
  have hSM : s.heap.objs.size ≠ M := Nat.ne_of_gt lM
  unfold collect
  refine wpAny_bind (wpAny_runValue (codeAny_builtin PySem.F.entry_proto_collect ?_))
  rw [Around.under_plainId PySem.F.plain_proto_collect _]
  show wpAny _ A.in1 (newList [] >>= fun l => again (.builtin "list.__iadd__" ⟨[l, .ref M], []⟩)) _ _ s
  refine wpAny_bind (wpAny_newObj_type ?_)
  refine wpAny_pure ⟨plainId_quiet PySem.F.plain_list_iadd _, codeAny_builtin PySem.F.entry_list_iadd ?_⟩
  rw [Around.under_plainId PySem.F.plain_list_iadd _]
  have hM₁ : (s.heap.push { cls := .type "list", data := .seq ([] : List Value).toArray }).get? M = some (mapObj T f) := Heap.get?_push_of_some _ nM.1
  have hTy₁ : Shared.TypeIs { s with heap := s.heap.push { cls := .type "list", data := .seq ([] : List Value).toArray } } (.ref M) "map" := ⟨_, hM₁, rfl⟩
  show wpAny _ A.in1 (Builtin.List.listExtendWith (.ref s.heap.objs.size) (.ref M) (.ref s.heap.objs.size)) _ _ _
  unfold Builtin.List.listExtendWith
  refine wpAny_bind (wpAny_typeOf hTy₁ ?_)
  have h1 : Builtin.List.listSameRef (.ref s.heap.objs.size) (.ref M) = false := by simp [Builtin.List.listSameRef, hSM]
  have h2 : (Value.type "map" == Value.type "list") = false := by decide
  have h3 : (Value.type "map" == Value.type "tuple") = false := by decide
  simp only [h1, h2, h3, Bool.or_false, Bool.false_eq_true, if_false]
  refine wpAny_bind (entry_map_iter_id hM₁ ?_)
  refine wpAny_bind (wpAny_holding ?_)
  unfold Builtin.List.listLengthHint
  refine wpAny_bind (wpAny_specialOf hTy₁ FM.map_no_len ?_)
  show wpAny _ A.in1 (specialOf (Value.ref M) (PySem.Str.ofString "__length_hint__") >>= _) _ _ _
  refine wpAny_bind (wpAny_specialOf hTy₁ FM.map_no_hint ?_)
  refine wpAny_pure ?_
  show wpAny _ A.in1 (rule "list.extend.makes-room" >>= fun _ => Builtin.List.listTouch (.ref s.heap.objs.size) >>= fun _ =>
    again (.builtin "list.extend.loop" ⟨[.ref s.heap.objs.size, .ref M, .ref s.heap.objs.size], []⟩)) _ _ _
  refine wpAny_bind (wpAny_rule ?_)
  have hS₁ : (s.heap.push { cls := .type "list", data := .seq ([] : List Value).toArray }).get? s.heap.objs.size = some { cls := .type "list", data := .seq ([] : List Value).toArray } := Heap.get?_push_size _ rfl
  refine wpAny_bind ?_
  show wpAny _ A.in1 (updateSeq s.heap.objs.size (·.push .none) >>= fun _ => updateSeq s.heap.objs.size (·.pop)) _ _ _
  refine wpAny_bind (wpAny_updateSeq hS₁ rfl ?_)
  have hS₂ := Heap.get?_update_self (Obj.mapSeq (·.push Value.none)) hS₁ rfl
  refine wpAny_updateSeq hS₂ rfl ?_
  have hS₃ := Heap.get?_update_self (Obj.mapSeq (·.pop)) hS₂ rfl
  generalize hh2 : ((s.heap.push { cls := .type "list", data := .seq ([] : List Value).toArray }).update s.heap.objs.size (Obj.mapSeq (·.push Value.none))).update s.heap.objs.size (Obj.mapSeq (·.pop)) = h2
  have oth : ∀ b o, s.heap.get? b = some o → h2.get? b = some o := fun b o e => by
    have hb := Nat.ne_of_gt (Heap.lt_size e)
    rw [← hh2]
    exact (Heap.get?_update_other _ _ hb).trans ((Heap.get?_update_other _ _ hb).trans (Heap.get?_push_of_some _ e))
  have F2 : Fr h₀ L h2 m := F.keeps oth
  have N2 : News h₀ L h2 ((M, mapObj T f) :: (T, tup1 I) :: (I, iterObj l 0) :: news) := N.grown oth
  rw [hh2] at hS₃
  obtain ⟨c0, hS₄⟩ : ∃ c0, h2.get? s.heap.objs.size = some (listOf ([] : List Value).toArray c0) := ⟨_, hS₃⟩
  have hSL : s.heap.objs.size ≠ L := Ne.symm (Nat.ne_of_lt F.ns.lt)
  have hS0 : h₀.get? s.heap.objs.size = none := fresh_of F (Nat.le_refl _)
  refine wpAny_pure ⟨plainId_quiet PySem.F.plain_extend_loop _, map_loop (s := s) (I := I) (T := T) (f := f) hh hi hz hL hf (Nat.ne_of_gt lI) hMI hTI hSM.symm (Nat.ne_of_lt lT) hnI (fun p hp => Nat.ne_of_lt (Heap.lt_size (N p (.tail _ (.tail _ (.tail _ hp)))).1)) (fun h' tk' acc c F' N' hacc => ?_) xs.length 0 h2 s.toks [] c0 (iterObj l 0) rfl (Nat.zero_le _) F2 ?_ ⟨_, (N2 _ (.tail _ (.tail _ (.head _)))).1, rfl, rfl⟩ .nil⟩
  · show wpAny _ A (load s.heap.objs.size >>= _) _ _ _
    refine wpAny_bind (wpAny_load (N' _ (.head _)).1 ?_)
    exact wpAny_pure (hQ h' tk' acc F' (fun p hp => N' p (.tail _ hp)) hacc)
  · refine news_cons hS₄ hSL hS0 fun p hp => ?_
    rcases List.mem_cons.mp hp with rfl | hp
    · exact N2 _ (.tail _ (.tail _ (.head _)))
    rcases List.mem_cons.mp hp with rfl | hp
    · exact N2 _ (.head _)
    rcases List.mem_cons.mp hp with rfl | hp
    · exact N2 _ (.tail _ (.head _))
    exact N2 p (.tail _ (.tail _ (.tail _ hp)))
theorem call_tuple_map {Q : Value → Shared → Prop} {f : Value} {M T I l : Addr} {vs : List Value} {xs : List PySem.Str} (hh : A.handled = none) (hi : StrsAre vs xs) (hz : xs.length ≤ 64) (hL : ∀ h, Fr h₀ L h m → News h₀ L h news → h.IsList l vs.toArray) (hf : Maps prog w A.in1.in1.in1.in1 s h₀ L m f xs)
    (F : Fr h₀ L s.heap m) (N : News h₀ L s.heap ((M, mapObj T f) :: (T, tup1 I) :: (I, iterObj l 0) :: news)) (hMI : M ≠ I) (hTI : T ≠ I) (hnI : ∀ p ∈ news, p.1 ≠ I)
    (hQ : ∀ (a : Addr) (h' : Heap) (tk' : Nat) (acc : List Value), Fr h₀ L h' m → News h₀ L h' ((a, { cls := .type "tuple", data := .seq acc.toArray }) :: news) → (∀ p ∈ news, p.1 < a) → StrsAre acc xs → Q (.ref a) { s with heap := h', toks := tk' }) : wpAny (model prog w) A (call (.type "tuple") [.ref M]) Q E s := by
  have nM := N _ (.head _)
  have hTy : s.TypeIs (.ref M) "map" := ⟨_, nM.1, rfl⟩
  refine callType_codes (Q₁ := fun obj s₁ => s₁.TypeIs obj "tuple" ∧ Q obj s₁) PySem.F.called_tuple (PySem.F.typeCall_tuple_1 _) PySem.F.entry_object_init
    ?_ fun obj s₁ h₁ => ?_
  · refine codeAny_of_tree ?_
    show wpAny _ A.in1.in1 (do checkBuiltinCall "tuple.__new__" ⟨[.type "tuple", .ref M], []⟩; again (.builtin "tuple.__new__" ⟨[.type "tuple", .ref M], []⟩)) _ _ s
    refine wpAny_bind (wpAny_of_eq (PySem.F.newCall_tuple_1 _) (wpAny_pure ⟨plainId_quiet PySem.F.plain_tuple_new _, codeAny_builtin PySem.F.entry_tuple_new ?_⟩))
    rw [Around.under_plainId PySem.F.plain_tuple_new _]
    have hsub := sub_tuple_self
    have hinit := init_tuple_lookup
    have hmh := madeHere_tuple
    wp_walk using wpAny_typeOf hTy, collect_map (A := A.in1.in1) hh hi hz hL hf F N hMI hTI hnI
    intro h' tk' acc F' N' hacc
    show wpAny _ _ (Builtin.Tuple.tupleExact acc.toArray >>= fun v => ret v) _ _ _
    unfold Builtin.Tuple.tupleExact
    have hal := hacc.length
    refine wpAny_bind (wpAny_newObj_type ?_ (by show acc.toArray.size ≤ sizeLine; simp [sizeLine_eq]; (first | lia | omega)))
    refine wpAny_pure ?_
    have g := Heap.get?_push_size h' (o := { cls := .type "tuple", data := .seq acc.toArray }) rfl
    refine ⟨⟨_, g, rfl⟩, hQ _ _ _ acc (fr_push F' _) (news_cons g (Ne.symm (Nat.ne_of_lt F'.ns.lt)) (fresh_of F' (Nat.le_refl _)) (N'.grown fun _ _ e => Heap.get?_push_of_some _ e)) (fun p hp => Heap.lt_size (N' p hp).1) hacc⟩
  · exact ⟨h₁.1, PySem.F.args_object_init_2 obj _, object_init_meets PySem.F.called_tuple.init.lookup PySem.F.called_tuple.made (by decide) prog w A.in1 _ s₁ ⟨h₁.1, rfl, h₁.2⟩⟩
theorem map_K {Q : Value → Shared → Prop} {f : Value} {l : Addr} {vs : List Value} (F : Fr h₀ L s.heap m) (N : News h₀ L s.heap news) (hl : s.heap.IsList l vs.toArray)
    (h : ∀ (I T M : Addr) (h' : Heap), Fr h₀ L h' m → News h₀ L h' ((M, mapObj T f) :: (T, tup1 I) :: (I, iterObj l 0) :: news) → (∀ p ∈ news, p.1 < I) → I < T → T < M → Q (.ref M) { s with heap := h' }) : wpAny (model prog w) A (call (.type "map") [f, .ref l]) Q E s := by
  refine call_map hl fun h' h1 h2 h3 up => ?_
  have F' : Fr h₀ L h' m := F.keeps up
  have hL := F.ns.lt
  refine h s.heap.objs.size (s.heap.objs.size + 1) (s.heap.objs.size + 2) h' F' ?_ (fun p hp => Heap.lt_size (N p hp).1) (Nat.lt_succ_self _) (Nat.lt_succ_self _)
  refine news_cons h1 ?_ (fresh_of F (Nat.le_add_right _ _)) (news_cons h2 ?_ (fresh_of F (Nat.le_add_right _ _)) (news_cons h3 ?_ (fresh_of F (Nat.le_refl _)) (N.grown up)))
  · exact Ne.symm (Nat.ne_of_lt (Nat.lt_of_lt_of_le hL (Nat.le_add_right _ _)))
  · exact Ne.symm (Nat.ne_of_lt (Nat.lt_of_lt_of_le hL (Nat.le_add_right _ _)))
  · exact Ne.symm (Nat.ne_of_lt hL)
end
end Mine
end

open PySem.W in
theorem Mine.offLex : True := by
  k_with_none
  w_top off
  exact trivial

section
open PySem PySem.W PySem.Spec PySem.Calls PyProof.Rows
namespace Mine

/-- one list of texts before another -/
def lexLt : List PySem.Str → List PySem.Str → Bool
  | _, [] => false
  | [], _ :: _ => true
  | x :: r, y :: t => if (x == y) = true then lexLt r t else decide (x.cps.toList < y.cps.toList)
theorem lex_nilL (ys : List PySem.Str) : lexLt [] ys = !ys.isEmpty := by cases ys <;> rfl
theorem lex_nilL' (x : PySem.Str) (r : List PySem.Str) : lexLt [] (x :: r) = true := rfl
theorem lex_nilR (xs : List PySem.Str) : lexLt xs [] = false := by cases xs <;> rfl
theorem lex_cons (x y : PySem.Str) (r t : List PySem.Str) : lexLt (x :: r) (y :: t) = if (x == y) = true then lexLt r t else decide (x.cps.toList < y.cps.toList) := rfl
section
open Sem (wp)
open AutoSeq1 (wpAny_loadPart')

theorem lt_loop (l b : Addr) (vs ws : List Value) (n n2 : Nat) (xs ys : List PySem.Str) (hx : StrsAre vs xs) (hy : StrsAre ws ys) (k : Nat) :
    ∀ i : Nat, xs.length - i = k → i ≤ xs.length → i ≤ ys.length → Meets (Builtin.«list.__eq__.loop» ⟨[.ref l, .ref b, rawInt i, rawInt 0], []⟩)
      (fun _ R s => s.heap.get? l = some { cls := .type "list", dict := none, data := .seq vs.toArray n, slots := #[] } ∧ s.heap.get? b = some { cls := .type "list", dict := none, data := .seq ws.toArray n2, slots := #[] } ∧
        R (.ok (.ret (.bool (lexLt (xs.drop i) (ys.drop i))))) s) := by
  have ex := hx.length
  have ey := hy.length
  induction k with
  | zero =>
    intro i hk hix hiy prog w A R s h
    obtain ⟨hp, g, d, tk, os⟩ := s; obtain ⟨hl, hb, h⟩ := h
    have hin : i = xs.length := by (first | lia | omega)
    subst hin
    wp_walk using wpAny_loadPart' hl, wpAny_loadPart' hb
    have hi1 : vs.toArray[((xs.length : Nat) : Int).toNat]? = none := by simp; (first | lia | omega)
    rw [hi1]
    wp_walk using wpAny_loadPart' hl, wpAny_loadPart' hb
    show R (.ok (.ret (.bool (decide (vs.toArray.size < ws.toArray.size))))) _
    rw [List.drop_length, lex_nilL] at h
    have e : (decide (vs.toArray.size < ws.toArray.size)) = (!(ys.drop xs.length).isEmpty) := by
      simp only [List.size_toArray]
      by_cases hq : xs.length < ys.length
      · have e1 : (ys.drop xs.length).isEmpty = false := by simp; (first | lia | omega)
        rw [e1]; simp; (first | lia | omega)
      · have e1 : (ys.drop xs.length).isEmpty = true := by simp; (first | lia | omega)
        rw [e1]; simp; (first | lia | omega)
    rw [e]
    exact h
  | succ k ih =>
    intro i hk hix hiy prog w A R s h
    obtain ⟨hp, g, d, tk, os⟩ := s; obtain ⟨hl, hb, h⟩ := h
    have hlt : i < xs.length := by (first | lia | omega)
    obtain ⟨t, hv⟩ := strs_get hx (List.getElem?_eq_getElem hlt)
    have hi1 : vs.toArray[((i : Nat) : Int).toNat]? = some (.str xs[i] t) := by simpa using hv
    have hc : ((i : Int) + 1) = ((i + 1 : Nat) : Int) := by push_cast; rfl
    wp_walk using wpAny_loadPart' hl, wpAny_loadPart' hb
    rw [hi1]
    by_cases hlt2 : i < ys.length
    · obtain ⟨u, hv2⟩ := strs_get hy (List.getElem?_eq_getElem hlt2)
      have hi2 : ws.toArray[((i : Nat) : Int).toNat]? = some (.str ys[i] u) := by simpa using hv2
      rw [hi2]
      rw [List.drop_eq_getElem_cons hlt, List.drop_eq_getElem_cons hlt2, lex_cons] at h
      refine wpAny_bind (SeqAt.EqAt.str_str xs[i] t ys[i] u prog w _ _ ?_)
      cases hb' : (xs[i] == ys[i]) with
      | true =>
        have hb2 : (xs[i] == ys[i]) = true := hb'
        rw [hb2] at h
        wp_walk
        rw [hc]
        exact ⟨plainId_quiet MeetsSeq3.plain_eq_loop _, codeAny_builtin MeetsSeq3.entry_eq_loop (by
          rw [Around.under_plainId MeetsSeq3.plain_eq_loop _]
          exact ih (i + 1) (by (first | lia | omega)) (by (first | lia | omega)) (by (first | lia | omega)) prog w A R _ ⟨hl, hb, by simpa using h⟩)⟩
      | false =>
        have hb2 : (xs[i] == ys[i]) = false := hb'
        rw [hb2] at h
        wp_walk using wpAny_loadPart' hl, wpAny_loadPart' hb
        rw [hi1, hi2]
        refine wpAny_bind ?_
        show wpAny _ _ (compareOp .Lt (.str xs[i] t) (.str ys[i] u)) _ _ _
        refine PySem.P.lt_str ?_
        wp_walk
        simpa using h
    · have hi2 : ws.toArray[((i : Nat) : Int).toNat]? = none := by simp; (first | lia | omega)
      rw [hi2]
      wp_walk using wpAny_loadPart' hl, wpAny_loadPart' hb
      show R (.ok (.ret (.bool (decide (vs.toArray.size < ws.toArray.size))))) _
      have hd2 : ys.drop i = [] := List.drop_of_length_le (by (first | lia | omega))
      rw [hd2, List.drop_eq_getElem_cons hlt, lex_nilR] at h
      have e : (decide (vs.toArray.size < ws.toArray.size)) = false := by
        simp only [List.size_toArray]
        simp; (first | lia | omega)
      rw [e]
      exact h
theorem lt_meets (l b : Addr) (vs ws : List Value) (n n2 : Nat) (xs ys : List PySem.Str) (hx : StrsAre vs xs) (hy : StrsAre ws ys) :
    Meets (Builtin.«list.__lt__» ⟨[.ref l, .ref b], []⟩)
      (fun _ R s => s.heap.get? l = some { cls := .type "list", dict := none, data := .seq vs.toArray n, slots := #[] } ∧ s.heap.get? b = some { cls := .type "list", dict := none, data := .seq ws.toArray n2, slots := #[] } ∧
        R (.ok (.ret (.bool (lexLt xs ys)))) s) := by
  intro prog w A R s h
  obtain ⟨hp, g, d, tk, os⟩ := s; obtain ⟨hl, hb, h⟩ := h
  have f3 := AutoSeq1.sub_list_list
  wp_walk using wpAny_loadPart' hl, wpAny_loadPart' hb
  exact ⟨plainId_quiet MeetsSeq3.plain_eq_loop _, codeAny_builtin MeetsSeq3.entry_eq_loop (by
    rw [Around.under_plainId MeetsSeq3.plain_eq_loop _]
    exact lt_loop l b vs ws n n2 xs ys hx hy _ 0 rfl (Nat.zero_le _) (Nat.zero_le _) prog w A R _ ⟨hl, hb, by simpa using h⟩)⟩
theorem rich_lt {prog : Program} {w : World} {A : Around} {E : Value → Shared → Prop} {s : Shared} {Q : Value → Shared → Prop} {l b : Addr} {vs ws : List Value} {n n2 : Nat} {xs ys : List PySem.Str} (hx : StrsAre vs xs) (hy : StrsAre ws ys)
    (hl : s.heap.get? l = some (listOf vs.toArray n)) (hb : s.heap.get? b = some (listOf ws.toArray n2)) (hu : A.units < cLine) (h : Q (.bool (lexLt xs ys)) s) : wpAny (model prog w) A (richCompare .Lt (.ref l) (.ref b)) Q E s :=
  richCompare_meets_room (op := .Lt) ⟨_, hl, rfl⟩ ⟨_, hb, rfl⟩ PySem.F.slot_list_lt PySem.F.entry_list_lt (PySem.F.args_list_lt_2 _ _) (lt_meets l b vs ws n n2 xs ys hx hy)
    ⟨hl, hb, show Value.bool _ ≠ Value.notImplemented ∧ Q (.bool _) s from ⟨(fun x => nomatch x), h⟩⟩ hu

theorem gt_loop (l b : Addr) (vs ws : List Value) (n n2 : Nat) (xs ys : List PySem.Str) (hx : StrsAre vs xs) (hy : StrsAre ws ys) (k : Nat) :
    ∀ i : Nat, xs.length - i = k → i ≤ xs.length → i ≤ ys.length → Meets (Builtin.«list.__eq__.loop» ⟨[.ref l, .ref b, rawInt i, rawInt 4], []⟩)
      (fun _ R s => s.heap.get? l = some { cls := .type "list", dict := none, data := .seq vs.toArray n, slots := #[] } ∧ s.heap.get? b = some { cls := .type "list", dict := none, data := .seq ws.toArray n2, slots := #[] } ∧
        R (.ok (.ret (.bool (lexLt (ys.drop i) (xs.drop i))))) s) := by
  have ex := hx.length
  have ey := hy.length
  induction k with
  | zero =>
    intro i hk hix hiy prog w A R s h
    obtain ⟨hp, g, d, tk, os⟩ := s; obtain ⟨hl, hb, h⟩ := h
    have hin : i = xs.length := by (first | lia | omega)
    subst hin
    wp_walk using wpAny_loadPart' hl, wpAny_loadPart' hb
    have hi1 : vs.toArray[((xs.length : Nat) : Int).toNat]? = none := by simp; (first | lia | omega)
    rw [hi1]
    wp_walk using wpAny_loadPart' hl, wpAny_loadPart' hb
    show R (.ok (.ret (.bool (decide (vs.toArray.size > ws.toArray.size))))) _
    rw [List.drop_length, lex_nilR] at h
    have e : (decide (vs.toArray.size > ws.toArray.size)) = (false) := by
      simp only [List.size_toArray]
      simp; (first | lia | omega)
    rw [e]
    exact h
  | succ k ih =>
    intro i hk hix hiy prog w A R s h
    obtain ⟨hp, g, d, tk, os⟩ := s; obtain ⟨hl, hb, h⟩ := h
    have hlt : i < xs.length := by (first | lia | omega)
    obtain ⟨t, hv⟩ := strs_get hx (List.getElem?_eq_getElem hlt)
    have hi1 : vs.toArray[((i : Nat) : Int).toNat]? = some (.str xs[i] t) := by simpa using hv
    have hc : ((i : Int) + 1) = ((i + 1 : Nat) : Int) := by push_cast; rfl
    wp_walk using wpAny_loadPart' hl, wpAny_loadPart' hb
    rw [hi1]
    by_cases hlt2 : i < ys.length
    · obtain ⟨u, hv2⟩ := strs_get hy (List.getElem?_eq_getElem hlt2)
      have hi2 : ws.toArray[((i : Nat) : Int).toNat]? = some (.str ys[i] u) := by simpa using hv2
      rw [hi2]
      rw [List.drop_eq_getElem_cons hlt, List.drop_eq_getElem_cons hlt2, lex_cons] at h
      refine wpAny_bind (SeqAt.EqAt.str_str xs[i] t ys[i] u prog w _ _ ?_)
      cases hb' : (xs[i] == ys[i]) with
      | true =>
        have hb2 : (ys[i] == xs[i]) = true := by rw [Bool.eq_iff_iff] at *; simp at *; first | exact hb'.symm | exact fun e => hb' e.symm
        rw [hb2] at h
        wp_walk
        rw [hc]
        exact ⟨plainId_quiet MeetsSeq3.plain_eq_loop _, codeAny_builtin MeetsSeq3.entry_eq_loop (by
          rw [Around.under_plainId MeetsSeq3.plain_eq_loop _]
          exact ih (i + 1) (by (first | lia | omega)) (by (first | lia | omega)) (by (first | lia | omega)) prog w A R _ ⟨hl, hb, by simpa using h⟩)⟩
      | false =>
        have hb2 : (ys[i] == xs[i]) = false := by rw [Bool.eq_iff_iff] at *; simp at *; first | exact hb'.symm | exact fun e => hb' e.symm
        rw [hb2] at h
        wp_walk using wpAny_loadPart' hl, wpAny_loadPart' hb
        rw [hi1, hi2]
        refine wpAny_bind ?_
        show wpAny _ _ (compareOp .Gt (.str xs[i] t) (.str ys[i] u)) _ _ _
        refine PySem.P.gt_str ?_
        wp_walk
        simpa using h
    · have hi2 : ws.toArray[((i : Nat) : Int).toNat]? = none := by simp; (first | lia | omega)
      rw [hi2]
      wp_walk using wpAny_loadPart' hl, wpAny_loadPart' hb
      show R (.ok (.ret (.bool (decide (vs.toArray.size > ws.toArray.size))))) _
      have hd2 : ys.drop i = [] := List.drop_of_length_le (by (first | lia | omega))
      rw [hd2, List.drop_eq_getElem_cons hlt, lex_nilL'] at h
      have e : (decide (vs.toArray.size > ws.toArray.size)) = true := by
        simp only [List.size_toArray]
        simp; (first | lia | omega)
      rw [e]
      exact h
theorem gt_meets (l b : Addr) (vs ws : List Value) (n n2 : Nat) (xs ys : List PySem.Str) (hx : StrsAre vs xs) (hy : StrsAre ws ys) :
    Meets (Builtin.«list.__gt__» ⟨[.ref l, .ref b], []⟩)
      (fun _ R s => s.heap.get? l = some { cls := .type "list", dict := none, data := .seq vs.toArray n, slots := #[] } ∧ s.heap.get? b = some { cls := .type "list", dict := none, data := .seq ws.toArray n2, slots := #[] } ∧
        R (.ok (.ret (.bool (lexLt ys xs)))) s) := by
  intro prog w A R s h
  obtain ⟨hp, g, d, tk, os⟩ := s; obtain ⟨hl, hb, h⟩ := h
  have f3 := AutoSeq1.sub_list_list
  wp_walk using wpAny_loadPart' hl, wpAny_loadPart' hb
  exact ⟨plainId_quiet MeetsSeq3.plain_eq_loop _, codeAny_builtin MeetsSeq3.entry_eq_loop (by
    rw [Around.under_plainId MeetsSeq3.plain_eq_loop _]
    exact gt_loop l b vs ws n n2 xs ys hx hy _ 0 rfl (Nat.zero_le _) (Nat.zero_le _) prog w A R _ ⟨hl, hb, by simpa using h⟩)⟩
theorem rich_gt {prog : Program} {w : World} {A : Around} {E : Value → Shared → Prop} {s : Shared} {Q : Value → Shared → Prop} {l b : Addr} {vs ws : List Value} {n n2 : Nat} {xs ys : List PySem.Str} (hx : StrsAre vs xs) (hy : StrsAre ws ys)
    (hl : s.heap.get? l = some (listOf vs.toArray n)) (hb : s.heap.get? b = some (listOf ws.toArray n2)) (hu : A.units < cLine) (h : Q (.bool (lexLt ys xs)) s) : wpAny (model prog w) A (richCompare .Gt (.ref l) (.ref b)) Q E s :=
  richCompare_meets_room (op := .Gt) ⟨_, hl, rfl⟩ ⟨_, hb, rfl⟩ PySem.F.slot_list_gt PySem.F.entry_list_gt (PySem.F.args_list_gt_2 _ _) (gt_meets l b vs ws n n2 xs ys hx hy)
    ⟨hl, hb, show Value.bool _ ≠ Value.notImplemented ∧ Q (.bool _) s from ⟨(fun x => nomatch x), h⟩⟩ hu

end
end Mine
end

open PySem.W in
theorem Mine.offMinMax : True := by
  k_with_none
  w_top off
  exact trivial

section
open PySem PySem.W PySem.Spec PySem.Calls PyProof.Rows
namespace Mine

section
variable {prog : Program} {w : World} {A : Around} {E : Value → Shared → Prop} {s : Shared}

theorem min_loop {R : Result → Shared → Prop} {l I S : Addr} {vs : List Value} {G : Heap → Prop} (bt : Nat → Nat → Bool) (hh : A.handled = none) (hlI : l ≠ I) (hSI : S ≠ I) (hSl : S ≠ l)
    (hG : ∀ h h', G h → (∀ b o, b ≠ I → b ≠ S → h.get? b = some o → h'.get? b = some o) → G h')
    (hcmp : ∀ i j vi vj (s : Shared) (Q E : Value → Shared → Prop), G s.heap → vs[i]? = some vi → vs[j]? = some vj → Q (.bool (bt i j)) s → wpAny (model prog w) A.in1 (richCompare .Lt vi vj) Q E s) :
    ∀ (k j : Nat) (s : Shared) (vb : Value) (c : Nat), vs.length - (j + 1) = k → j + 1 ≤ vs.length → s.heap.IsListIter I l (j + 1) → s.heap.IsList l vs.toArray → G s.heap → vs[argBest bt j]? = some vb →
      s.heap.get? S = some (listOf #[vb, vb] c) →
      (∀ v h' tk, vs[argBest bt (vs.length - 1)]? = some v → (∀ b o, b ≠ I → b ≠ S → s.heap.get? b = some o → h'.get? b = some o) → R (.ok (.ret v)) { s with heap := h', toks := tk }) →
      codeAny (model prog w) A (.builtin "min.loop" ⟨[.ref I, .none, .ref S], []⟩) R s := by
  have hname : (toString "min" ++ toString ".loop" : String) = "min.loop" := by decide
  intro k
  induction k with
  | zero =>
    intro j s vb c hk hj hit hl hg hb hS hR
    refine codeAny_builtin PySem.F.entry_min_loop ?_
    rw [Around.under_plainId PySem.F.plain_min_loop _]
    show wpAny _ A.in1 (seqItems? (.ref S) >>= _) _ _ s
    refine wpAny_bind (wpAny_seqItems hS rfl ?_)
    show wpAny _ A.in1 (tryCatch (pyNext (.ref I)) _ >>= _) _ _ s
    refine wpAny_bind (wpAny_tryCatch (wpAny_pyNext_list_end hh hit hl (by simp; omega) fun h' hk' => ?_))
    have hS' := hk' S _ hSI hS
    show wpAny _ A.in1 (updateSeq S (fun _ => #[]) >>= _) _ _ _
    refine wpAny_bind ?_
    refine wpAny_updateSeq hS' rfl (wpAny_bind (wpAny_letGo (wpAny_pure ?_)))
    refine hR vb _ s.toks (by rw [← hb]; congr 2; omega) fun b o h1 h2 e => (Heap.get?_update_other _ _ (Ne.symm h2)).trans (hk' b o h1 e)
  | succ k ih =>
    intro j s vb c hk hj hit hl hg hb hS hR
    have hlt : j + 1 < vs.length := by omega
    refine codeAny_builtin PySem.F.entry_min_loop ?_
    rw [Around.under_plainId PySem.F.plain_min_loop _]
    show wpAny _ A.in1 (seqItems? (.ref S) >>= _) _ _ s
    refine wpAny_bind (wpAny_seqItems hS rfl ?_)
    show wpAny _ A.in1 (tryCatch (pyNext (.ref I)) _ >>= _) _ _ s
    refine wpAny_bind (wpAny_tryCatch (wpAny_pyNext_list_item (x := vs[j + 1]) hit hl (by simp [hlt]) fun h₁ hit₁ hs₁ => ?_))
    have hv : vs[j + 1]? = some vs[j + 1] := List.getElem?_eq_getElem hlt
    have hS' : h₁.get? S = some (listOf #[vb, vb] c) := (hs₁.2 S hSI).trans hS
    have k₁ : ∀ b o, b ≠ I → b ≠ S → s.heap.get? b = some o → h₁.get? b = some o := fun b o h1 _ e => (hs₁.2 b h1).trans e
    have hg₁ := hG _ _ hg k₁
    have hl₁ : h₁.IsList l vs.toArray := by obtain ⟨o, e, r⟩ := hl; exact ⟨o, (hs₁.2 l hlI).trans e, r⟩
    show wpAny _ A.in1 (tryCatch (holding [vs[j + 1], vs[j + 1]] (richCompare .Lt vs[j + 1] vb >>= _)) _ >>= _) _ _ _
    refine wpAny_bind (wpAny_tryCatch (wpAny_holding (wpAny_bind (hcmp (j + 1) (argBest bt j) vs[j + 1] vb _ _ _ hg₁ hv hb ?_))))
    refine wpAny_bind (wpAny_holding (wpAny_truthy_bool ?_))
    refine wpAny_bind (wpAny_letGo (wpAny_pure ?_))
    cases hb' : bt (j + 1) (argBest bt j) with
    | true =>
      simp only [if_true]
      refine wpAny_bind ?_
      obtain ⟨c2, hc2⟩ : ∃ c2, (h₁.update S (Obj.mapSeq fun _ => #[vs[j + 1], vs[j + 1]])).get? S = some (listOf #[vs[j + 1], vs[j + 1]] c2) := ⟨_, get?_update_seq hS' fun _ => #[vs[j + 1], vs[j + 1]]⟩
      have s2 := Heap.SameBut.update h₁ S (Obj.mapSeq fun _ => #[vs[j + 1], vs[j + 1]])
      refine wpAny_updateSeq hS' rfl (wpAny_bind (wpAny_letGo ?_))
      rw [hname]
      refine wpAny_pure ⟨plainId_quiet PySem.F.plain_min_loop _, ih (j + 1) _ vs[j + 1] c2 (by omega) hlt ?_ ?_ (hG _ _ hg₁ fun b o _ h2 e => (s2.2 b h2).trans e) (by simp only [argBest, hb', if_true]; exact hv) hc2 fun v' h'' tk'' hP' hk'' => ?_⟩
      · obtain ⟨o, e, r⟩ := hit₁; exact ⟨o, (s2.2 I hSI.symm).trans e, r⟩
      · obtain ⟨o, e, r⟩ := hl₁; exact ⟨o, (s2.2 l hSl.symm).trans e, r⟩
      · exact hR v' h'' tk'' hP' fun b o h1 h2 e => hk'' b o h1 h2 ((s2.2 b h2).trans (k₁ b o h1 h2 e))
    | false =>
      simp only [Bool.false_eq_true, if_false]
      refine wpAny_bind (wpAny_letGo ?_)
      rw [hname]
      refine wpAny_pure ⟨plainId_quiet PySem.F.plain_min_loop _, ih (j + 1) _ vb c (by omega) hlt hit₁ hl₁ hg₁ (by simp only [argBest, hb', Bool.false_eq_true, if_false]; exact hb) hS' fun v' h'' tk'' hP' hk'' => ?_⟩
      exact hR v' h'' tk'' hP' fun b o h1 h2 e => hk'' b o h1 h2 (k₁ b o h1 h2 e)
theorem call_min_lists {l : Addr} {vs : List Value} {n : Nat} {news : List (Addr × Obj)} {h₀ : Heap} {L : Addr} {m : PySem.Str → Option Value} {Q : Value → Shared → Prop} (bt : Nat → Nat → Bool) (hh : A.handled = none) (hne : 0 < vs.length)
    (F : Fr h₀ L s.heap m) (N : News h₀ L s.heap news) (hm : (l, listOf vs.toArray n) ∈ news)
    (hcmp : ∀ i j vi vj (s : Shared) (Q E : Value → Shared → Prop), News h₀ L s.heap news → vs[i]? = some vi → vs[j]? = some vj → Q (.bool (bt i j)) s → wpAny (model prog w) A.in1 (richCompare .Lt vi vj) Q E s)
    (h : ∀ v h' tk, vs[argBest bt (vs.length - 1)]? = some v → Fr h₀ L h' m → News h₀ L h' news → Q v { s with heap := h', toks := tk }) :
    wpAny (model prog w) A (call (.builtin "min") [.ref l]) Q E s := by
  have hname : (toString "min" ++ toString ".loop" : String) = "min.loop" := by decide
  have hl : s.heap.IsList l vs.toArray := ⟨_, (N _ hm).1, rfl, _, rfl⟩
  have lt : ∀ p ∈ news, p.1 < s.heap.objs.size := fun p hp => Heap.lt_size (N p hp).1
  have ll := lt _ hm
  refine call_function_tree PySem.F.kind_min PySem.F.plain_min PySem.F.entry_min (PySem.F.args_min1 _) ?_
  show wpAny _ A.in1 (Builtin.Builtins.bindParams "min" ["key", "default"] 0 ⟨[], []⟩ >>= _) _ _ s
  refine wpAny_bind (wpAny_of_eq (show Builtin.Builtins.bindParams "min" ["key", "default"] 0 ⟨[], []⟩ = pure [none, none] from rfl) ?_)
  refine wpAny_bind (wpAny_pure ?_)
  refine wpAny_bind (wpAny_pyIter_list hl ?_)
  refine wpAny_bind (wpAny_newObj_type ?_)
  rw [hname]
  have z1 : (s.heap.push (iterObj l 0)).objs.size = s.heap.objs.size + 1 := Heap.size_push ..
  have g1 : ((s.heap.push (iterObj l 0)).push (listOf (#[] : Array Value) 0)).get? s.heap.objs.size = some (iterObj l 0) := Heap.get?_push_of_some _ (Heap.get?_push_size _ rfl)
  have g2 := Heap.get?_push_size (s.heap.push (iterObj l 0)) (o := listOf (#[] : Array Value) 0) rfl
  have up : ∀ b o, s.heap.get? b = some o → ((s.heap.push (iterObj l 0)).push (listOf (#[] : Array Value) 0)).get? b = some o := fun b o e => Heap.get?_push_of_some _ (Heap.get?_push_of_some _ e)
  generalize hh2 : (s.heap.push (iterObj l 0)).push (listOf (#[] : Array Value) 0) = h2 at g1 g2 up
  rw [z1] at g2
  have hSI : s.heap.objs.size + 1 ≠ s.heap.objs.size := Nat.succ_ne_self _
  have hl2 : h2.IsList l vs.toArray := ⟨_, up _ _ (N _ hm).1, rfl, _, rfl⟩
  have hit2 : h2.IsListIter s.heap.objs.size l 0 := ⟨_, g1, rfl, rfl⟩
  refine wpAny_pure ⟨plainId_quiet PySem.F.plain_min_loop _, ?_⟩
  show codeAny _ _ (.builtin "min.loop" ⟨[.ref s.heap.objs.size, .none, .ref (s.heap.push (iterObj l 0)).objs.size], []⟩) _ { s with heap := h2 }
  rw [z1]
  refine codeAny_builtin PySem.F.entry_min_loop ?_
  rw [Around.under_plainId PySem.F.plain_min_loop _]
  show wpAny _ A.in1 (seqItems? (.ref (s.heap.objs.size + 1)) >>= _) _ _ _
  refine wpAny_bind (wpAny_seqItems g2 rfl ?_)
  show wpAny _ A.in1 (tryCatch (pyNext (.ref s.heap.objs.size)) _ >>= _) _ _ _
  refine wpAny_bind (wpAny_tryCatch (wpAny_pyNext_list_item (x := vs[0]) hit2 hl2 (by simp [hne]) fun h₁ hit₁ hs₁ => ?_))
  have hS' : h₁.get? (s.heap.objs.size + 1) = some (listOf (#[] : Array Value) 0) := (hs₁.2 _ hSI).trans g2
  show wpAny _ A.in1 (updateSeq (s.heap.objs.size + 1) (fun _ => #[vs[0], vs[0]]) >>= _) _ _ _
  refine wpAny_bind ?_
  obtain ⟨c2, hc2⟩ : ∃ c2, (h₁.update (s.heap.objs.size + 1) (Obj.mapSeq fun _ => #[vs[0], vs[0]])).get? (s.heap.objs.size + 1) = some (listOf #[vs[0], vs[0]] c2) := ⟨_, get?_update_seq hS' fun _ => #[vs[0], vs[0]]⟩
  have s2 := Heap.SameBut.update h₁ (s.heap.objs.size + 1) (Obj.mapSeq fun _ => #[vs[0], vs[0]])
  refine wpAny_updateSeq hS' rfl ?_
  rw [hname]
  have kk : ∀ b o, s.heap.get? b = some o → (h₁.update (s.heap.objs.size + 1) (Obj.mapSeq fun _ => #[vs[0], vs[0]])).get? b = some o := fun b o e => by
    have hb := Heap.lt_size e
    exact (s2.2 b (Nat.ne_of_lt (Nat.lt_succ_of_lt hb))).trans ((hs₁.2 b (Nat.ne_of_lt hb)).trans (up b o e))
  refine wpAny_pure ⟨plainId_quiet PySem.F.plain_min_loop _, min_loop (G := fun h => News h₀ L h news) bt hh (Nat.ne_of_lt ll) hSI (Nat.ne_of_gt (Nat.lt_succ_of_lt ll)) (fun h h' g hk p hp => ?_) hcmp _ 0 _ vs[0] c2 rfl hne ?_ ?_ (N.grown kk) (List.getElem?_eq_getElem hne) hc2 fun v h' tk hv hk => ?_⟩
  · exact ⟨hk _ _ (Nat.ne_of_lt (lt p hp)) (Nat.ne_of_lt (Nat.lt_succ_of_lt (lt p hp))) (g p hp).1, (g p hp).2⟩
  · obtain ⟨o, e, r⟩ := hit₁; exact ⟨o, (s2.2 _ hSI.symm).trans e, r⟩
  · exact ⟨_, kk _ _ (N _ hm).1, rfl, _, rfl⟩
  · have hk2 : ∀ b o, s.heap.get? b = some o → h'.get? b = some o := fun b o e => hk b o (Nat.ne_of_lt (Heap.lt_size e)) (Nat.ne_of_lt (Nat.lt_succ_of_lt (Heap.lt_size e))) (kk b o e)
    exact h v h' tk hv (F.keeps hk2) (N.grown hk2)

theorem max_loop {R : Result → Shared → Prop} {l I S : Addr} {vs : List Value} {G : Heap → Prop} (bt : Nat → Nat → Bool) (hh : A.handled = none) (hlI : l ≠ I) (hSI : S ≠ I) (hSl : S ≠ l)
    (hG : ∀ h h', G h → (∀ b o, b ≠ I → b ≠ S → h.get? b = some o → h'.get? b = some o) → G h')
    (hcmp : ∀ i j vi vj (s : Shared) (Q E : Value → Shared → Prop), G s.heap → vs[i]? = some vi → vs[j]? = some vj → Q (.bool (bt i j)) s → wpAny (model prog w) A.in1 (richCompare .Gt vi vj) Q E s) :
    ∀ (k j : Nat) (s : Shared) (vb : Value) (c : Nat), vs.length - (j + 1) = k → j + 1 ≤ vs.length → s.heap.IsListIter I l (j + 1) → s.heap.IsList l vs.toArray → G s.heap → vs[argBest bt j]? = some vb →
      s.heap.get? S = some (listOf #[vb, vb] c) →
      (∀ v h' tk, vs[argBest bt (vs.length - 1)]? = some v → (∀ b o, b ≠ I → b ≠ S → s.heap.get? b = some o → h'.get? b = some o) → R (.ok (.ret v)) { s with heap := h', toks := tk }) →
      codeAny (model prog w) A (.builtin "max.loop" ⟨[.ref I, .none, .ref S], []⟩) R s := by
  have hname : (toString "max" ++ toString ".loop" : String) = "max.loop" := by decide
  intro k
  induction k with
  | zero =>
    intro j s vb c hk hj hit hl hg hb hS hR
    refine codeAny_builtin PySem.F.entry_max_loop ?_
    rw [Around.under_plainId PySem.F.plain_max_loop _]
    show wpAny _ A.in1 (seqItems? (.ref S) >>= _) _ _ s
    refine wpAny_bind (wpAny_seqItems hS rfl ?_)
    show wpAny _ A.in1 (tryCatch (pyNext (.ref I)) _ >>= _) _ _ s
    refine wpAny_bind (wpAny_tryCatch (wpAny_pyNext_list_end hh hit hl (by simp; omega) fun h' hk' => ?_))
    have hS' := hk' S _ hSI hS
    show wpAny _ A.in1 (updateSeq S (fun _ => #[]) >>= _) _ _ _
    refine wpAny_bind ?_
    refine wpAny_updateSeq hS' rfl (wpAny_bind (wpAny_letGo (wpAny_pure ?_)))
    refine hR vb _ s.toks (by rw [← hb]; congr 2; omega) fun b o h1 h2 e => (Heap.get?_update_other _ _ (Ne.symm h2)).trans (hk' b o h1 e)
  | succ k ih =>
    intro j s vb c hk hj hit hl hg hb hS hR
    have hlt : j + 1 < vs.length := by omega
    refine codeAny_builtin PySem.F.entry_max_loop ?_
    rw [Around.under_plainId PySem.F.plain_max_loop _]
    show wpAny _ A.in1 (seqItems? (.ref S) >>= _) _ _ s
    refine wpAny_bind (wpAny_seqItems hS rfl ?_)
    show wpAny _ A.in1 (tryCatch (pyNext (.ref I)) _ >>= _) _ _ s
    refine wpAny_bind (wpAny_tryCatch (wpAny_pyNext_list_item (x := vs[j + 1]) hit hl (by simp [hlt]) fun h₁ hit₁ hs₁ => ?_))
    have hv : vs[j + 1]? = some vs[j + 1] := List.getElem?_eq_getElem hlt
    have hS' : h₁.get? S = some (listOf #[vb, vb] c) := (hs₁.2 S hSI).trans hS
    have k₁ : ∀ b o, b ≠ I → b ≠ S → s.heap.get? b = some o → h₁.get? b = some o := fun b o h1 _ e => (hs₁.2 b h1).trans e
    have hg₁ := hG _ _ hg k₁
    have hl₁ : h₁.IsList l vs.toArray := by obtain ⟨o, e, r⟩ := hl; exact ⟨o, (hs₁.2 l hlI).trans e, r⟩
    show wpAny _ A.in1 (tryCatch (holding [vs[j + 1], vs[j + 1]] (richCompare .Gt vs[j + 1] vb >>= _)) _ >>= _) _ _ _
    refine wpAny_bind (wpAny_tryCatch (wpAny_holding (wpAny_bind (hcmp (j + 1) (argBest bt j) vs[j + 1] vb _ _ _ hg₁ hv hb ?_))))
    refine wpAny_bind (wpAny_holding (wpAny_truthy_bool ?_))
    refine wpAny_bind (wpAny_letGo (wpAny_pure ?_))
    cases hb' : bt (j + 1) (argBest bt j) with
    | true =>
      simp only [if_true]
      refine wpAny_bind ?_
      obtain ⟨c2, hc2⟩ : ∃ c2, (h₁.update S (Obj.mapSeq fun _ => #[vs[j + 1], vs[j + 1]])).get? S = some (listOf #[vs[j + 1], vs[j + 1]] c2) := ⟨_, get?_update_seq hS' fun _ => #[vs[j + 1], vs[j + 1]]⟩
      have s2 := Heap.SameBut.update h₁ S (Obj.mapSeq fun _ => #[vs[j + 1], vs[j + 1]])
      refine wpAny_updateSeq hS' rfl (wpAny_bind (wpAny_letGo ?_))
      rw [hname]
      refine wpAny_pure ⟨plainId_quiet PySem.F.plain_max_loop _, ih (j + 1) _ vs[j + 1] c2 (by omega) hlt ?_ ?_ (hG _ _ hg₁ fun b o _ h2 e => (s2.2 b h2).trans e) (by simp only [argBest, hb', if_true]; exact hv) hc2 fun v' h'' tk'' hP' hk'' => ?_⟩
      · obtain ⟨o, e, r⟩ := hit₁; exact ⟨o, (s2.2 I hSI.symm).trans e, r⟩
      · obtain ⟨o, e, r⟩ := hl₁; exact ⟨o, (s2.2 l hSl.symm).trans e, r⟩
      · exact hR v' h'' tk'' hP' fun b o h1 h2 e => hk'' b o h1 h2 ((s2.2 b h2).trans (k₁ b o h1 h2 e))
    | false =>
      simp only [Bool.false_eq_true, if_false]
      refine wpAny_bind (wpAny_letGo ?_)
      rw [hname]
      refine wpAny_pure ⟨plainId_quiet PySem.F.plain_max_loop _, ih (j + 1) _ vb c (by omega) hlt hit₁ hl₁ hg₁ (by simp only [argBest, hb', Bool.false_eq_true, if_false]; exact hb) hS' fun v' h'' tk'' hP' hk'' => ?_⟩
      exact hR v' h'' tk'' hP' fun b o h1 h2 e => hk'' b o h1 h2 (k₁ b o h1 h2 e)
theorem call_max_lists {l : Addr} {vs : List Value} {n : Nat} {news : List (Addr × Obj)} {h₀ : Heap} {L : Addr} {m : PySem.Str → Option Value} {Q : Value → Shared → Prop} (bt : Nat → Nat → Bool) (hh : A.handled = none) (hne : 0 < vs.length)
    (F : Fr h₀ L s.heap m) (N : News h₀ L s.heap news) (hm : (l, listOf vs.toArray n) ∈ news)
    (hcmp : ∀ i j vi vj (s : Shared) (Q E : Value → Shared → Prop), News h₀ L s.heap news → vs[i]? = some vi → vs[j]? = some vj → Q (.bool (bt i j)) s → wpAny (model prog w) A.in1 (richCompare .Gt vi vj) Q E s)
    (h : ∀ v h' tk, vs[argBest bt (vs.length - 1)]? = some v → Fr h₀ L h' m → News h₀ L h' news → Q v { s with heap := h', toks := tk }) :
    wpAny (model prog w) A (call (.builtin "max") [.ref l]) Q E s := by
  have hname : (toString "max" ++ toString ".loop" : String) = "max.loop" := by decide
  have hl : s.heap.IsList l vs.toArray := ⟨_, (N _ hm).1, rfl, _, rfl⟩
  have lt : ∀ p ∈ news, p.1 < s.heap.objs.size := fun p hp => Heap.lt_size (N p hp).1
  have ll := lt _ hm
  refine call_function_tree PySem.F.kind_max PySem.F.plain_max PySem.F.entry_max (PySem.F.args_max1 _) ?_
  show wpAny _ A.in1 (Builtin.Builtins.bindParams "max" ["key", "default"] 0 ⟨[], []⟩ >>= _) _ _ s
  refine wpAny_bind (wpAny_of_eq (show Builtin.Builtins.bindParams "max" ["key", "default"] 0 ⟨[], []⟩ = pure [none, none] from rfl) ?_)
  refine wpAny_bind (wpAny_pure ?_)
  refine wpAny_bind (wpAny_pyIter_list hl ?_)
  refine wpAny_bind (wpAny_newObj_type ?_)
  rw [hname]
  have z1 : (s.heap.push (iterObj l 0)).objs.size = s.heap.objs.size + 1 := Heap.size_push ..
  have g1 : ((s.heap.push (iterObj l 0)).push (listOf (#[] : Array Value) 0)).get? s.heap.objs.size = some (iterObj l 0) := Heap.get?_push_of_some _ (Heap.get?_push_size _ rfl)
  have g2 := Heap.get?_push_size (s.heap.push (iterObj l 0)) (o := listOf (#[] : Array Value) 0) rfl
  have up : ∀ b o, s.heap.get? b = some o → ((s.heap.push (iterObj l 0)).push (listOf (#[] : Array Value) 0)).get? b = some o := fun b o e => Heap.get?_push_of_some _ (Heap.get?_push_of_some _ e)
  generalize hh2 : (s.heap.push (iterObj l 0)).push (listOf (#[] : Array Value) 0) = h2 at g1 g2 up
  rw [z1] at g2
  have hSI : s.heap.objs.size + 1 ≠ s.heap.objs.size := Nat.succ_ne_self _
  have hl2 : h2.IsList l vs.toArray := ⟨_, up _ _ (N _ hm).1, rfl, _, rfl⟩
  have hit2 : h2.IsListIter s.heap.objs.size l 0 := ⟨_, g1, rfl, rfl⟩
  refine wpAny_pure ⟨plainId_quiet PySem.F.plain_max_loop _, ?_⟩
  show codeAny _ _ (.builtin "max.loop" ⟨[.ref s.heap.objs.size, .none, .ref (s.heap.push (iterObj l 0)).objs.size], []⟩) _ { s with heap := h2 }
  rw [z1]
  refine codeAny_builtin PySem.F.entry_max_loop ?_
  rw [Around.under_plainId PySem.F.plain_max_loop _]
  show wpAny _ A.in1 (seqItems? (.ref (s.heap.objs.size + 1)) >>= _) _ _ _
  refine wpAny_bind (wpAny_seqItems g2 rfl ?_)
  show wpAny _ A.in1 (tryCatch (pyNext (.ref s.heap.objs.size)) _ >>= _) _ _ _
  refine wpAny_bind (wpAny_tryCatch (wpAny_pyNext_list_item (x := vs[0]) hit2 hl2 (by simp [hne]) fun h₁ hit₁ hs₁ => ?_))
  have hS' : h₁.get? (s.heap.objs.size + 1) = some (listOf (#[] : Array Value) 0) := (hs₁.2 _ hSI).trans g2
  show wpAny _ A.in1 (updateSeq (s.heap.objs.size + 1) (fun _ => #[vs[0], vs[0]]) >>= _) _ _ _
  refine wpAny_bind ?_
  obtain ⟨c2, hc2⟩ : ∃ c2, (h₁.update (s.heap.objs.size + 1) (Obj.mapSeq fun _ => #[vs[0], vs[0]])).get? (s.heap.objs.size + 1) = some (listOf #[vs[0], vs[0]] c2) := ⟨_, get?_update_seq hS' fun _ => #[vs[0], vs[0]]⟩
  have s2 := Heap.SameBut.update h₁ (s.heap.objs.size + 1) (Obj.mapSeq fun _ => #[vs[0], vs[0]])
  refine wpAny_updateSeq hS' rfl ?_
  rw [hname]
  have kk : ∀ b o, s.heap.get? b = some o → (h₁.update (s.heap.objs.size + 1) (Obj.mapSeq fun _ => #[vs[0], vs[0]])).get? b = some o := fun b o e => by
    have hb := Heap.lt_size e
    exact (s2.2 b (Nat.ne_of_lt (Nat.lt_succ_of_lt hb))).trans ((hs₁.2 b (Nat.ne_of_lt hb)).trans (up b o e))
  refine wpAny_pure ⟨plainId_quiet PySem.F.plain_max_loop _, max_loop (G := fun h => News h₀ L h news) bt hh (Nat.ne_of_lt ll) hSI (Nat.ne_of_gt (Nat.lt_succ_of_lt ll)) (fun h h' g hk p hp => ?_) hcmp _ 0 _ vs[0] c2 rfl hne ?_ ?_ (N.grown kk) (List.getElem?_eq_getElem hne) hc2 fun v h' tk hv hk => ?_⟩
  · exact ⟨hk _ _ (Nat.ne_of_lt (lt p hp)) (Nat.ne_of_lt (Nat.lt_succ_of_lt (lt p hp))) (g p hp).1, (g p hp).2⟩
  · obtain ⟨o, e, r⟩ := hit₁; exact ⟨o, (s2.2 _ hSI.symm).trans e, r⟩
  · exact ⟨_, kk _ _ (N _ hm).1, rfl, _, rfl⟩
  · have hk2 : ∀ b o, s.heap.get? b = some o → h'.get? b = some o := fun b o e => hk b o (Nat.ne_of_lt (Heap.lt_size e)) (Nat.ne_of_lt (Nat.lt_succ_of_lt (Heap.lt_size e))) (kk b o e)
    exact h v h' tk hv (F.keeps hk2) (N.grown hk2)

end
end Mine
end

open PySem.W in
theorem Mine.offSetC : True := by
  k_with_none
  w_top off
  exact trivial

section
open PySem PySem.W PySem.Spec PySem.Calls PyProof.Rows
namespace Mine

section
variable {prog : Program} {w : World} {A : Around} {E : Value → Shared → Prop} {s : Shared} {R : Result → Shared → Prop}
theorem startSet {elt target iter ifs rest scope pos it acc env}
    (h0 : codeAny (model prog w) A (.compLoop (.SetComp elt (⟨target, iter, ifs, 0⟩ :: rest) scope pos) 0 it acc env) R s)
    (h : wpAny (model prog w) A (pyIter it) (fun it' s' => codeAny (model prog w) A (.compLoop (.SetComp elt (⟨target, iter, ifs, 0⟩ :: rest) scope pos) 0 it' acc env) R s')
      (notedBy (model prog w) A env fun x s' => R (.error x) s') s) :
    codeAny (model prog w) A (.compStart (.SetComp elt (⟨target, iter, ifs, 0⟩ :: rest) scope pos) 0 it acc env) R s := by
  refine codeAny_of_tree ?_
  show wpAny _ _ ((compStart (.SetComp elt (⟨target, iter, ifs, 0⟩ :: rest) scope pos) 0 it acc env).onRaise (fun x => do noteFrame x env; standAt theWindowsPlace)) _ _ s
  refine wpAny_notedAt ?_
  unfold compStart
  show wpAny _ _ (ask >>= _) _ _ s
  refine wpAny_bind (wpAny_askSetting (wpAny_ite ?_))
  split
  · first
      | exact wpAny_bind (wpAny_pure (wpAny_pure (And.intro rfl h0)))
      | exact wpAny_pure (And.intro rfl h0)
  · first
      | exact wpAny_bind (wpAny_rule (wpAny_bind (wpAny_standAt (wpAny_bind (wpAny_mono h (fun it' s' h' => wpAny_pure (And.intro rfl h')) fun _ _ x => x)))))
      | (refine wpAny_bind (wpAny_rule ?_); show wpAny _ _ (standAt iter.pos >>= _) _ _ s; exact wpAny_bind (wpAny_standAt (wpAny_bind (wpAny_mono h (fun it' s' h' => wpAny_pure (And.intro rfl h')) fun _ _ x => x))))
theorem turnSet (elt target iter : Expr) (scope : Scope) (pos : Pos) (it acc : Value) (env : Env) :
    compTurn (.SetComp elt [⟨target, iter, [], 0⟩] scope pos) 0 it acc env = (standAt iter.pos >>= fun _ => pyNext it >>= fun r => match r with
      | none => pure (.done .next)
      | some v => letOwnedTupleGo target it v >>= fun _ => assign target env v >>= fun _ =>
        (eval elt env >>= fun x => standAt elt.pos >>= fun _ => call (.builtin "set.add") [acc, x] >>= fun _ => pure ()) >>= fun _ =>
          again (.compLoop (.SetComp elt [⟨target, iter, [], 0⟩] scope pos) 0 it acc env)) := by rfl
theorem loopSet {elt target iter : Expr} {scope : Scope} {pos : Pos} {it acc : Value} {env : Env} (I : Nat → Shared → Prop)
    (turn : ∀ n s, I n s → wpAny (model prog w) A (pyNext it) (fun r s₁ => match r with
      | none => R (.ok .next) s₁
      | some v => wpAny (model prog w) A (assign target env v) (fun _ s₂ => wpAny (model prog w) A (eval elt env) (fun x s₃ =>
          wpAny (model prog w) A (call (.builtin "set.add") [acc, x]) (fun _ s₄ => ∃ m, m < n ∧ I m s₄) (notedBy (model prog w) A env fun e s' => R (.error e) s') s₃)
          (notedBy (model prog w) A env fun e s' => R (.error e) s') s₂) (notedBy (model prog w) A env fun e s' => R (.error e) s') s₁) (notedBy (model prog w) A env fun e s' => R (.error e) s') s)
    (n : Nat) (h : I n s) (ht : ∀ v, letOwnedTupleGo target it v = pure () := by intro _; rfl) :
    codeAny (model prog w) A (.compLoop (.SetComp elt [⟨target, iter, [], 0⟩] scope pos) 0 it acc env) R s := by
  refine codeAny_loop rfl I (fun n s hI => ?_) n h
  show wpAny _ _ ((compTurn (.SetComp elt [⟨target, iter, [], 0⟩] scope pos) 0 it acc env).onRaise (fun x => do noteFrame x env; theTreesLotGoes x)) _ _ s
  refine wpAny_noted ?_
  rw [turnSet]
  refine wpAny_bind (wpAny_standAt (wpAny_bind (wpAny_mono (turn n s hI) (fun r s₁ h₁ => ?_) fun _ _ h' => h')))
  cases r with
  | none => exact wpAny_pure h₁
  | some v =>
    refine wpAny_bind (wpAny_of_eq (ht v) ?_)
    exact wpAny_bind (wpAny_mono h₁ (fun _ s₂ h₂ => wpAny_bind (wpAny_bind (wpAny_mono h₂ (fun x s₃ h₃ => wpAny_bind (wpAny_standAt (wpAny_bind (wpAny_mono h₃
      (fun _ s₄ h₄ => wpAny_pure (wpAny_pure ⟨rfl, h₄⟩)) fun _ _ h' => h')))) fun _ _ h' => h'))) fun _ _ h' => h')
end
end Mine
end

open PySem.W in
theorem Mine.offSetD : True := by
  k_with_none
  w_top off
  exact trivial

section
open PySem PySem.W PySem.Spec PySem.Calls PyProof.Rows
namespace Mine

section
open LCg
/-- what is left of a set comprehension whose elements, 'bv', make the set objects 'so' -/
def SetRest (prog : Program) (w : World) (A : Around) (h₀ : Heap) (L : Addr) (m : PySem.Str → Option Value) (env : Env) (elt : Expr) (x : PySem.Str) (scope : Scope) (cl : List (PySem.Str × Addr)) (s : Shared) (S : List (Addr × Obj) → Prop) (P : Nat → Value → Prop) (so : Nat → Obj) (bv : Nat → Value)
    (Fin : List (Addr × Obj) → Prop) : Nat → Nat → List (Addr × Obj) → Prop
  | 0, _, news => Fin news
  | k + 1, i, news => ∀ v I oI C oC D m₂ h tk (E' : Value → Shared → Prop), P i v → NsObj oC m₂ → m₂ x = some v → Fr h₀ L h m → News h₀ L h ((I, oI) :: (C, oC) :: (D, so i) :: news) → Off3 I C D news → ((@Ne Nat I C) ∧ (@Ne Nat I D) ∧ (@Ne Nat C D)) →
      wpAny (model prog w) A (eval elt (compEnvC scope cl C env)) (CompEnd h₀ L m { s with heap := h, toks := tk } I oI C oC D (so i) S (fun y news' => y = bv i ∧ SetRest prog w A h₀ L m env elt x scope cl s S P so bv Fin k (i + 1) news')) E' { s with heap := h, toks := tk }
def Adds (prog : Program) (w : World) (A : Around) (so : Nat → Obj) (bv : Nat → Value) (n : Nat) : Prop :=
  ∀ (i : Nat) (D : Addr) (s : Shared) (Q E : Value → Shared → Prop), i < n → s.heap.get? D = some (so i) → (∀ h' tk', h'.get? D = some (so (i + 1)) → Heap.SameBut D s.heap h' → Q .none { s with heap := h', toks := tk' }) → wpAny (model prog w) A (call (.builtin "set.add") [.ref D, bv i]) Q E s
variable {prog : Program} {w : World} {A : Around} {E : Value → Shared → Prop} {s : Shared} {h₀ : Heap} {L : Addr} {m : PySem.Str → Option Value} {env : Env}
theorem block_S {elt iter : Expr} {x : PySem.Str} {px : Pos} {scope : Scope} {cl : List (PySem.Str × Addr)} {pos : Pos} {s₂ : Shared} {I : Addr} {fp : List Addr} {n : Nat} {P : Nat → Value → Prop} {St : Nat → Heap → Prop} {S : List (Addr × Obj) → Prop} {news : List (Addr × Obj)}
    {Fin : List (Addr × Obj) → Prop} {so : Nat → Obj} {bv : Nat → Value} {RR : Value → Addr → Result → Shared → Prop}
    (hadd : Adds prog w A so bv n)
    (hnew : ∀ (s : Shared) (Q : Value → Shared → Prop) (E : Value → Shared → Prop), Q (.ref s.heap.objs.size) { s with heap := s.heap.push (so 0) } → wpAny (model prog w) A (newSet (.type "set")) Q E s) (hfr : (so 0).isFreed = false)
    (W : Walks prog w A I fp [I] n P St) (hIo : ∀ i h, St i h → ∃ o, h.get? I = some o)
    (hSt : ∀ i h h' o nw, St i h → h.get? I = some o → h'.get? I = some o → (∀ b o, h₀.get? b = some o → h'.get? b = some o) → News h₀ L h' nw → S nw → St i h')
    (hcell : ∀ y ∈ scope.names, y.2 ≠ .cell) (hkind : scope.kind = .function) (hx : scope.names.lookup x = some .local) (hst : St 0 s₂.heap) (hfp : ∀ b ∈ fp, b < s₂.heap.objs.size)
    (F : Fr h₀ L s₂.heap m) (N : News h₀ L s₂.heap news) (hIL : L ≠ I) (hI₀ : h₀.get? I = none) (off : ∀ p ∈ news, p.1 ≠ I) (hS : S news)
    (R : SetRest prog w A h₀ L m env elt x scope cl s₂ S P so bv Fin n 0 news)
    (hRR : ∀ D C h tk m' news', Fr h₀ L h m → News h₀ L h ((D, so n) :: news') → Off1 D news' → h.Ns C m' → h₀.get? C = none → h₀.get? D = none → C ≠ L → D ≠ L → C ≠ D → (∀ p ∈ news', p.1 ≠ C) → Fin news' → RR (.ref D) C (.ok .next) { s₂ with heap := h, toks := tk }) :
    wpAny (model prog w) A (newSet (.type "set")) (fun acc s₃ => wpAny (model prog w) A (newFunctionEnv scope env.globals cl [] env.qual none .none (some env)) (fun cenv s₄ =>
      codeAny (model prog w) A (.compStart (.SetComp elt [⟨.Name x px, iter, [], 0⟩] scope pos) 0 (.ref I) acc { cenv with scope := relabel scope env }) (RR acc cenv.locals) s₄) E s₃) E s₂ := by
  refine hnew _ _ _ (wpAny_newFunctionEnv hcell (by intro y hy; simp at hy) (fun h₁ hns₁ hsb₁ => ?_) hkind)
  dsimp only at hns₁ hsb₁ ⊢
  generalize hH2 : s₂.heap.push (so 0) = H2 at hns₁ hsb₁ ⊢
  have hC : H2.objs.size = s₂.heap.objs.size + 1 := by rw [← hH2, Heap.size_push]
  have hDC : s₂.heap.objs.size ≠ H2.objs.size := by rw [hC]; exact Nat.ne_of_lt (Nat.lt_succ_self _)
  have below : ∀ b, b < s₂.heap.objs.size → b ≠ H2.objs.size ∧ b ≠ s₂.heap.objs.size := fun b hb => ⟨by rw [hC]; exact Nat.ne_of_lt (Nat.lt_succ_of_lt hb), Nat.ne_of_lt hb⟩
  have hDf : s₂.heap.objs.size ∉ fp := fun hm => Nat.lt_irrefl _ (hfp _ hm)
  have hCf : H2.objs.size ∉ fp := fun hm => by have := hfp _ hm; rw [hC] at this; exact Nat.lt_irrefl _ (Nat.lt_of_succ_lt this)
  have hIf : I ∈ fp := W.sub I (List.mem_singleton.mpr rfl)
  have hIlt : I < s₂.heap.objs.size := hfp I hIf
  have old : ∀ b o, s₂.heap.get? b = some o → h₁.get? b = some o := fun b o e => hsb₁.extBut b o (below b (Heap.lt_size e)).1 (Heap.get?_push_of_some _ (hH2 ▸ Heap.get?_push_of_some _ e))
  have hacc : h₁.get? s₂.heap.objs.size = some (so 0) := hsb₁.extBut _ _ hDC (Heap.get?_push_of_some _ (hH2 ▸ Heap.get?_push_size _ hfr))
  have hst₁ : St 0 h₁ := W.frame _ _ _ hst fun b _ o e => old b o e
  have hD₀ : h₀.get? s₂.heap.objs.size = none := fresh_of F (Nat.le_refl _)
  have hC₀ : h₀.get? H2.objs.size = none := fresh_of F (by rw [hC]; exact Nat.le_succ _)
  have hLlt : L < s₂.heap.objs.size := F.ns.lt
  have hDL : s₂.heap.objs.size ≠ L := Ne.symm (below L hLlt).2
  have hCL : H2.objs.size ≠ L := Ne.symm (below L hLlt).1
  have hCI : I ≠ H2.objs.size := (below I hIlt).1
  have hDI : I ≠ s₂.heap.objs.size := (below I hIlt).2
  have off₀ : Off3 I H2.objs.size s₂.heap.objs.size news := Off3.of fun p hp => ⟨off p hp, (below _ (Heap.lt_size (N p hp).1)).1, (below _ (Heap.lt_size (N p hp).1)).2⟩
  have loop : ∀ s₃ : Shared, s₃ = { s₂ with heap := h₁, toks := s₂.toks + ([] : List (PySem.Str × Value)).length } →
      codeAny (model prog w) A (.compLoop (.SetComp elt [⟨.Name x px, iter, [], 0⟩] scope pos) 0 (.ref I) (.ref s₂.heap.objs.size) (compEnvC scope cl H2.objs.size env))
        (RR (.ref s₂.heap.objs.size) H2.objs.size) s₃ := by
    rintro s₃ rfl
    refine loopSet
      (fun k s' => ∃ h' tk i m' news', s' = { s₂ with heap := h', toks := tk } ∧ i ≤ n ∧ k = n + 1 - i ∧ St i h' ∧ Fr h₀ L h' m ∧ h'.Ns H2.objs.size m' ∧ News h₀ L h' ((s₂.heap.objs.size, so i) :: news') ∧
        Off3 I H2.objs.size s₂.heap.objs.size news' ∧ S news' ∧ SetRest prog w A h₀ L m env elt x scope cl s₂ S P so bv Fin (n - i) i news') ?_ (n + 1)
      ⟨h₁, _, 0, _, news, rfl, Nat.zero_le _, rfl, hst₁, F.keeps old, hns₁, fun p hp => ?_, off₀, hS, R⟩
    · rintro k s' ⟨h', tk, i, m', news', rfl, hi, rfl, hst', F', hn', N', off', hS', R'⟩
      by_cases hlt : i < n
      · obtain ⟨j, hj⟩ : ∃ j, n - i = j + 1 := ⟨n - i - 1, by (first | lia | omega)⟩
        rw [hj] at R'
        refine W.item i _ _ _ hlt hst' fun v h₂ tk₂ hPv hst₂ hk₂ => ?_
        refine wpAny_assign_Name (wpAny_storeName_local (lookup_relabel_local hx) (hn'.at' fun o e => hk₂ _ o (by simpa using Ne.symm hCI) e) (fun h₃ hn₃ hs₃ => ?_) (by simp [compEnvC, relabel, hkind]))
        have hst₃ : St (i + 1) h₃ := W.frame _ _ _ hst₂ fun b hb o e => hs₃.extBut b o (fun q => hCf (by have q' : b = H2.objs.size := q; rw [← q']; exact hb)) e
        obtain ⟨oI, heI⟩ := hIo _ _ hst₃
        obtain ⟨oC, heC, hoC⟩ := ns_obj hn₃
        have F₃ : Fr h₀ L h₃ m := (fr_but F' hk₂ hIL hI₀).change hs₃ hCL hC₀
        have off3 := off'.mem
        have N₂ : News h₀ L h₂ ((s₂.heap.objs.size, so i) :: news') := news_but N' hk₂ fun p hp => by
          rcases List.mem_cons.mp hp with rfl | hp
          · exact Ne.symm hDI
          · exact (off3 p hp).1
        have N₃ : News h₀ L h₃ ((I, oI) :: (H2.objs.size, oC) :: (s₂.heap.objs.size, so i) :: news') := fun p hp => by
          rcases List.mem_cons.mp hp with rfl | hp
          · exact ⟨heI, Ne.symm hIL, hI₀⟩
          · rcases List.mem_cons.mp hp with rfl | hp
            · exact ⟨heC, hCL, hC₀⟩
            · have z := N₂ p hp
              refine ⟨hs₃.extBut _ _ ?_ z.1, z.2⟩
              rcases List.mem_cons.mp hp with rfl | hp
              · exact hDC
              · exact (off3 p hp).2.1
        refine wpAny_mono (R' v I oI H2.objs.size oC s₂.heap.objs.size _ h₃ _ _ hPv hoC (by simp) F₃ N₃ off' ⟨hCI, hDI, Ne.symm hDC⟩) (fun y s₄ h₄ => ?_) fun _ _ e => e
        obtain ⟨h₄, tk₄, news₄, rfl, F₄, N₄, off₄, hS₄, rfl, R₄⟩ := h₄
        have zI := (N₄ (I, oI) List.mem_cons_self).1
        have zC := (N₄ (H2.objs.size, oC) (List.mem_cons_of_mem _ List.mem_cons_self)).1
        have zD := (N₄ (s₂.heap.objs.size, so i) (List.mem_cons_of_mem _ (List.mem_cons_of_mem _ List.mem_cons_self))).1
        have N₄' : News h₀ L h₄ news₄ := fun p hp => N₄ p (List.mem_cons_of_mem _ (List.mem_cons_of_mem _ (List.mem_cons_of_mem _ hp)))
        have hst₄ : St (i + 1) h₄ := hSt _ _ _ _ _ hst₃ heI zI F₄.keep N₄' hS₄
        refine hadd i _ _ _ _ hlt zD fun h₅ tk₅ hD₅ hs₅ => ?_
        have off4 := off₄.mem
        refine ⟨n + 1 - (i + 1), by (first | lia | omega), h₅, tk₅, i + 1, _, news₄, rfl, hlt, rfl, W.frame _ _ _ hst₄ fun b hb o e => hs₅.extBut b o (fun q => hDf (q ▸ hb)) e, F₄.change hs₅ hDL hD₀,
          (hoC.ns zC).sameBut hs₅ (Ne.symm hDC), fun p hp => ?_, off₄, hS₄, ?_⟩
        · rcases List.mem_cons.mp hp with rfl | hp
          · exact ⟨hD₅, hDL, hD₀⟩
          · exact ⟨hs₅.extBut _ _ (off4 p hp).2.2 (N₄' p hp).1, (N₄' p hp).2⟩
        · rw [show n - (i + 1) = j by (first | lia | omega)]
          exact R₄
      · obtain rfl : i = n := Nat.le_antisymm hi (Nat.not_lt.mp hlt)
        rw [Nat.sub_self] at R'
        refine W.done _ _ _ hst' fun h₂ tk₂ hk₂ => ?_
        have off3 := off'.mem
        exact hRR _ _ h₂ tk₂ _ news' (fr_but F' hk₂ hIL hI₀) (news_but N' hk₂ fun p hp => by
          rcases List.mem_cons.mp hp with rfl | hp
          · exact Ne.symm hDI
          · exact (off3 p hp).1) off'.one (hn'.at' fun o e => hk₂ _ o (by simpa using Ne.symm hCI) e) hC₀ hD₀ hCL hDL (Ne.symm hDC) (fun p hp => (off3 p hp).2.1) R'
    · rcases List.mem_cons.mp hp with rfl | hp
      · exact ⟨hacc, hDL, hD₀⟩
      · exact ⟨old _ _ (N p hp).1, (N p hp).2⟩
  exact startSet (loop _ rfl) (W.self 0 _ _ _ hst₁ (loop _ rfl))
/-- a tuple of the ledger as a comprehension's source -/
def SrcTup (ax : Addr) (its : Array Value) (news : List (Addr × Obj)) : Prop := ∃ o, (ax, o) ∈ news ∧ o.cls = .type "tuple" ∧ ∃ n, o.data = .seq its n
theorem SrcTup.tup {h₀ h : Heap} {L ax : Addr} {its : Array Value} {news : List (Addr × Obj)} (x : SrcTup ax its news) (N : News h₀ L h news) : h.IsTuple ax its := by
  obtain ⟨o, hm, r⟩ := x
  exact ⟨o, (N _ hm).1, r⟩
theorem tup_st {ax I : Addr} {its : Array Value} : ∀ i (h h' : Heap) (o : Obj) (nw : List (Addr × Obj)), (h.IsTupleIter I ax i ∧ h.IsTuple ax its) → h.get? I = some o → h'.get? I = some o → (∀ b o, h₀.get? b = some o → h'.get? b = some o) → News h₀ L h' nw → SrcTup ax its nw → (h'.IsTupleIter I ax i ∧ h'.IsTuple ax its) :=
  fun i h h' o nw st e e' _ N S => ⟨by obtain ⟨o', q, r⟩ := st.1; rw [e] at q; cases q; exact ⟨o, e', r⟩, S.tup N⟩
def FinS (h₀ : Heap) (L : Addr) (m : PySem.Str → Option Value) (oD : Obj) (s : Shared) (Q : Value → Shared → Prop) (news : List (Addr × Obj)) : Prop :=
  ∀ D h tk, Fr h₀ L h m → News h₀ L h ((D, oD) :: news) → Off1 D news → Q (.ref D) { s with heap := h, toks := tk }

def SetSrc (prog : Program) (w : World) (A : Around) (h₀ : Heap) (L : Addr) (m : PySem.Str → Option Value) (env : Env) (elt : Expr) (x : PySem.Str) (scope : Scope) (cl : List (PySem.Str × Addr)) (so : Nat → Obj) (bv : Nat → Value) (Q : Value → Shared → Prop) (xv : Value) (s₁ : Shared) : Prop :=
  ∃ ax its news, xv = .ref ax ∧ A.handled = none ∧ Fr h₀ L s₁.heap m ∧ News h₀ L s₁.heap news ∧ SrcTup ax its news ∧ Adds prog w A so bv its.size ∧
    ∀ s₂ : Shared, (∃ h, s₂ = { s₁ with heap := h }) → SetRest prog w A h₀ L m env elt x scope cl s₂ (SrcTup ax its) (fun i v => its[i]? = some v) so bv (FinS h₀ L m (so its.size) s₂ Q) its.size 0 news
theorem SetComp_T {elt iter : Expr} {x : PySem.Str} {px : Pos} {scope : Scope} {cl : List (PySem.Str × Addr)} {pos : Pos} {so : Nat → Obj} {bv : Nat → Value} {Q : Value → Shared → Prop} (F₀ : Fr h₀ L s.heap m)
    (hnew : ∀ (s : Shared) (Q : Value → Shared → Prop) (E : Value → Shared → Prop), Q (.ref s.heap.objs.size) { s with heap := s.heap.push (so 0) } → wpAny (model prog w) A (newSet (.type "set")) Q E s) (hfr : (so 0).isFreed = false)
    (hclos : closureFor scope env = pure cl) (hcell : ∀ y ∈ scope.names, y.2 ≠ .cell) (hkind : scope.kind = .function)
    (hnames : ∀ y ∈ scope.names, y.2 = .local → scope.names.lookup y.1 = some .local) (hx : scope.names.lookup x = some .local)
    (h : wpAny (model prog w) A (eval iter env) (SetSrc prog w A h₀ L m env elt x scope cl so bv Q) E s)
    (hs : ∀ x, foldedSetIterable iter env x = pure x := by intro _; rfl) :
    wpAny (model prog w) A (eval (.SetComp elt [⟨.Name x px, iter, [], 0⟩] scope pos) env) Q E s := by
  rw [show eval (.SetComp elt [⟨.Name x px, iter, [], 0⟩] scope pos) env = comprehension (.SetComp elt [⟨.Name x px, iter, [], 0⟩] scope pos) scope env (firstIterPos [⟨.Name x px, iter, [], 0⟩] pos) (newSet (.type "set")) (firstAsync [⟨.Name x px, iter, [], 0⟩]) (firstIter [⟨.Name x px, iter, [], 0⟩] env) from by rw [arm_eval_SetComp]]
  refine wpAny_comprehension_free (use := none) rfl hs hclos hkind hnames (wpAny_mono h (fun xv s₁ h₁ => ?_) fun _ _ e => e)
  obtain ⟨ax, its, news, rfl, hh, F, N, S, ha, R⟩ := h₁
  have hl := S.tup N
  have hlt : ax < s₁.heap.objs.size := by obtain ⟨_, e, _⟩ := hl; exact Heap.lt_size e
  refine wpAny_pyIter_tuple hl ?_
  have up : ∀ b o, s₁.heap.get? b = some o → (s₁.heap.push { cls := .type "tuple_iterator", data := .fields #[.ref ax, .int 0 0] }).get? b = some o := fun b o e => Heap.get?_push_of_some _ e
  refine block_S ha hnew hfr (Walks.tuple hh s₁.heap.objs.size ax (Nat.ne_of_lt hlt) its) (fun i h st => by obtain ⟨o, e, _⟩ := st.1; exact ⟨o, e⟩) tup_st hcell hkind hx ⟨⟨_, Heap.get?_push_size _ rfl, rfl, rfl⟩, by obtain ⟨o, e, r⟩ := hl; exact ⟨o, up _ _ e, r⟩⟩ (fun b hb => ?_)
    (F.keeps up) (N.grown up) (Nat.ne_of_lt F.ns.lt) (fresh_of F (Nat.le_refl _)) (fun p hp => Nat.ne_of_lt (Heap.lt_size (N p hp).1)) S (R _ ⟨_, rfl⟩) ?_
  · show b < (s₁.heap.push _).objs.size
    rw [Heap.size_push]
    rcases List.mem_cons.mp hb with rfl | hb
    · exact Nat.lt_succ_self _
    · rw [List.mem_singleton.mp hb]; exact Nat.lt_succ_of_lt hlt
  · intro D C h tk m' news' F' N' o1 hn hC₀ hD₀ hCL hDL hCD offC fin
    refine ⟨m', hn, fun h'' hs'' => fin D h'' tk (F'.change hs'' hCL hC₀) (fun p hp => ?_) o1⟩
    refine ⟨hs''.extBut _ _ ?_ (N' p hp).1, (N' p hp).2⟩
    rcases List.mem_cons.mp hp with rfl | hp
    · exact Ne.symm hCD
    · exact offC p hp
def TupSrcA (prog : Program) (w : World) (A : Around) (h₀ : Heap) (L : Addr) (m : PySem.Str → Option Value) (env : Env) (elt : Expr) (x : PySem.Str) (scope : Scope) (cl : List (PySem.Str × Addr)) (y : PySem.Str) (Q : Flow → Shared → Prop) (xv : Value) (s₁ : Shared) : Prop :=
  ∃ ax its news, xv = .ref ax ∧ A.handled = none ∧ Fr h₀ L s₁.heap m ∧ News h₀ L s₁.heap news ∧ SrcTup ax its news ∧ its.size ≤ sizeLine ∧
    ∀ s₂ : Shared, (∃ h, s₂ = { s₁ with heap := h }) → CompRest prog w A h₀ L m env elt x scope cl s₂ (SrcTup ax its) (fun i v => its[i]? = some v) (FinA h₀ L m s₂ y Q) its.size 0 [] news
theorem Assign_ListComp_Tup {elt iter : Expr} {x y : PySem.Str} {px py : Pos} {scope : Scope} {cl : List (PySem.Str × Addr)} {pos spos : Pos} {Q : Flow → Shared → Prop} (F₀ : Fr h₀ L s.heap m) (hLe : env.locals = L)
    (hsw : swapsWith (.ListComp elt [⟨.Name x px, iter, [], 0⟩] scope pos) (some (.Name y py)) spos.line env = pure true)
    (hclos : closureFor scope env = pure cl) (hcell : ∀ z ∈ scope.names, z.2 ≠ .cell) (hkind : scope.kind = .function)
    (hnames : ∀ z ∈ scope.names, z.2 = .local → scope.names.lookup z.1 = some .local) (hx : scope.names.lookup x = some .local)
    (hy : env.kindOf y = some .local) (hp : (env.scope.kind == .class || (env.scope.kind == .module && env.locals != env.globals)) = false)
    (h : wpAny (model prog w) A (eval iter env) (TupSrcA prog w A h₀ L m env elt x scope cl y Q) E s)
    (hs : ∀ x, foldedSetIterable iter env x = pure x := by intro _; rfl) :
    wpAny (model prog w) A (exec (.Assign [.Name y py] (.ListComp elt [⟨.Name x px, iter, [], 0⟩] scope pos) spos) env) Q E s := by
  subst hLe
  rw [exec_Assign_Name_used _ _ _ _ hsw]
  refine wpAny_bind (wpAny_standAt (wpAny_bind ?_))
  show wpAny _ A (do let _ ← comprehension (.ListComp elt [⟨.Name x px, iter, [], 0⟩] scope pos) scope env _ (newList []) false (eval iter env) (some (assign (.Name y py) env))) _ _ s
  refine wpAny_bind (wpAny_mono (wpAny_comprehension_free (use := some (assign (.Name y py) env)) (Q := fun _ s' => Q .next s') rfl hs hclos hkind hnames
    (wpAny_mono h (fun xv s₁ h₁ => ?_) fun _ _ e => e)) (fun _ s' hq => wpAny_pure (wpAny_pure hq)) fun _ _ e => e)
  obtain ⟨ax, its, news, rfl, hh, F, N, S, hsz, R⟩ := h₁
  have hl := S.tup N
  have hlt : ax < s₁.heap.objs.size := by obtain ⟨_, e, _⟩ := hl; exact Heap.lt_size e
  refine wpAny_pyIter_tuple hl ?_
  have up : ∀ b o, s₁.heap.get? b = some o → (s₁.heap.push { cls := .type "tuple_iterator", data := .fields #[.ref ax, .int 0 0] }).get? b = some o := fun b o e => Heap.get?_push_of_some _ e
  refine block_U (Walks.tuple hh s₁.heap.objs.size ax (Nat.ne_of_lt hlt) its) hsz (fun i h st => by obtain ⟨o, e, _⟩ := st.1; exact ⟨o, e⟩) tup_st hcell hkind hx ⟨⟨_, Heap.get?_push_size _ rfl, rfl, rfl⟩, by obtain ⟨o, e, r⟩ := hl; exact ⟨o, up _ _ e, r⟩⟩ (fun b hb => ?_)
    (F.keeps up) (N.grown up) (Nat.ne_of_lt F.ns.lt) (fresh_of F (Nat.le_refl _)) (fun p hp => Nat.ne_of_lt (Heap.lt_size (N p hp).1)) S (R _ ⟨_, rfl⟩) ?_
  · show b < (s₁.heap.push _).objs.size
    rw [Heap.size_push]
    rcases List.mem_cons.mp hb with rfl | hb
    · exact Nat.lt_succ_self _
    · rw [List.mem_singleton.mp hb]; exact Nat.lt_succ_of_lt hlt
  · intro D C h' tk m' ys news' F' N' o1 hn hC₀ hD₀ hCL hDL hCD offC fin
    show wpAny _ A (assign (.Name y py) env (.ref D)) _ _ _
    refine wpAny_assign_Name (wpAny_storeName_local hy F'.ns (fun h₂ hn₂ hs₂ => ?_) hp)
    have hL₀ : h₀.get? env.locals = none := Heap.get?_none_of_le F'.above
    have F₂ : Fr h₀ env.locals h₂ (fun z => if z = y then some (.ref D) else m z) := ⟨hn₂, fun b o e => hs₂.extBut b o (fun q => by rw [q, hL₀] at e; cases e) (F'.keep b o e), F'.above⟩
    refine ⟨m', hn.sameBut hs₂ hCL, fun h'' hs'' => fin D h'' _ (F₂.change hs'' hCL hC₀) (fun p hp => ?_) o1⟩
    have z : h₂.get? p.1 = some p.2 := hs₂.extBut _ _ (N' p hp).2.1 (N' p hp).1
    refine ⟨hs''.extBut _ _ ?_ z, (N' p hp).2⟩
    rcases List.mem_cons.mp hp with rfl | hp
    · exact Ne.symm hCD
    · exact offC p hp
end
end Mine
end

open PySem.W in
theorem Mine.offSetE : True := by
  k_with_none
  w_top off
  exact trivial

section
open PySem PySem.W PySem.Spec PySem.Calls PyProof.Rows
namespace Mine

abbrev setO (es : Array (Int × Value)) (ep : Nat) (t : SetTable) : Obj := { cls := .type "set", data := .set es ep t }
def hb (b : Bool) : Int := if b then 1 else 0
noncomputable def byText (w : World) : Bool := w.params.followText "set-order"
section
variable {prog : Program} {w : World} {A : Around} {E : Value → Shared → Prop} {s : Shared}
theorem newSet_led {Q : Value → Shared → Prop} (h : Q (.ref s.heap.objs.size) { s with heap := s.heap.push (setO #[] 0 (.fresh 0 0 (!byText w))) }) : wpAny (model prog w) A (newSet (.type "set")) Q E s := by
  unfold newSet setsByText
  refine wpAny_bind (wpAny_bind (wpAny_askSetting (wpAny_pure ?_)))
  dsimp only
  simp only [newObj]
  exact wpAny_bind (wpAny_alloc (wpAny_pure h))
theorem pyHash_bool {b : Bool} {Q : Int → Shared → Prop} (h : Q (hb b) { s with toks := s.toks + 1 }) : wpAny (model prog w) A (pyHash (.bool b)) Q E s := by
  have hT : s.TypeIs (.bool b) "bool" := rfl
  unfold pyHash
  have hv : [Value.bool b].any Value.onHeap = false := rfl
  refine wpAny_bind ?_
  rw [cRoomFor, if_neg (by rw [hv]; exact Bool.false_ne_true)]; refine wpAny_pure ?_
  refine wpAny_bind (wpAny_specialOf hT PySem.F.slot_bool_hash.lookup ?_)
  show wpAny _ _ (if (some (Value.builtin "int.__hash__") == some Value.none) = true then _ else _) Q E s
  rw [if_neg (by rw [beq_builtin_none]; exact Bool.false_ne_true)]
  refine wpAny_bind (wpAny_specialOf hT PySem.F.slot_bool_hash.lookup ?_)
  show wpAny _ _ (callSpecialIfBoundUnlessNone? (.bool b) "__hash__" _ >>= _) Q E s
  refine wpAny_bind (wpAny_callSpecialIfBoundUnlessNone?_slot hT PySem.F.slot_bool_hash
    (wpAny_call_entry PySem.F.slot_bool_hash hT PySem.F.entry_int_hash
      (show wpAny _ _ (do ret (← mkInt (rawHash (if b then 1 else 0)))) _ _ s from wpAny_ret_mkInt ?_) (PySem.F.args_int_hash_1 _)))
  have hr := rawHash_range (if b then 1 else 0)
  show wpAny _ _ (if (decide (-(2 : Int) ^ 63 ≤ rawHash (if b then 1 else 0)) && decide (rawHash (if b then 1 else 0) < 2 ^ 63)) = true then _ else _) Q E _
  rw [if_pos (by rw [decide_eq_true hr.1, decide_eq_true hr.2]; rfl)]
  have e : hashInt (if b then 1 else 0) = hb b := by cases b <;> decide
  rw [← e] at h
  exact wpAny_pure h
/-- the table of a set with one bool -/
def t1 (led : Bool) (b : Bool) : SetTable := (layNew (.fresh 0 0 led) #[] (hb b) (.bool b)).2.1
def t2 (led : Bool) : SetTable := (layNew (t1 led true) #[(1, .bool true)] 0 (.bool false)).2.1
theorem lay1 (led b : Bool) : layNew (.fresh 0 0 led) #[] (hb b) (.bool b) = (#[(hb b, .bool b)], t1 led b, false, false) := by cases led <;> cases b <;> kernel_rfl
theorem plain1 (led b : Bool) : (t1 led b).plain = true := by cases led <;> cases b <;> kernel_rfl
theorem full1 (led b : Bool) : (!false && (t1 led b).tooFull) = false := by cases led <;> cases b <;> kernel_rfl
theorem fits1 (led b : Bool) : (t1 led b).fits 1 = true := by cases led <;> cases b <;> kernel_rfl
theorem lay2 (led : Bool) : layNew (t1 led true) #[(hb true, .bool true)] (hb false) (.bool false) = (#[(hb false, .bool false), (hb true, .bool true)], t2 led, false, false) := by cases led <;> kernel_rfl
theorem plain2 (led : Bool) : (t2 led).plain = true := by cases led <;> kernel_rfl
theorem full2 (led : Bool) : (!false && (t2 led).tooFull) = false := by cases led <;> kernel_rfl
theorem fits2 (led : Bool) : (t2 led).fits 2 = true := by cases led <;> kernel_rfl
theorem scan0 (b : Bool) : byScan (.bool b) #[] = true := by cases b <;> kernel_rfl
theorem scan1 (b c : Bool) : byScan (.bool b) #[(hb c, .bool c)] = true := by cases b <;> cases c <;> kernel_rfl
theorem add_start {D : Addr} {b : Bool} {es : Array (Int × Value)} {ep : Nat} {t : SetTable} {Q : Value → Shared → Prop} (hD : s.heap.get? D = some (setO es ep t)) (hf : t.fits es.size = true) (hsc : byScan (.bool b) es = true)
    (h : wpAny (model prog w) A.in1 (setAddByScan D (.bool b) (hb b) es t) (fun r s' => ∃ x, r = some x ∧ Q .none s') E { s with toks := s.toks + 1 }) : wpAny (model prog w) A (call (.builtin "set.add") [.ref D, .bool b]) Q E s := by
  have hT : s.TypeIs (.ref D) "set" := ⟨_, hD, rfl⟩
  refine wpAny_call_entry PySem.F.slot_set_add hT PySem.F.entry_set_add ?_ (PySem.F.args_set_add_2 _ _)
  unfold Builtin.«set.add» Builtin.Frozenset.oneOther
  simp only [List.isEmpty_nil, bind_assoc]
  unfold Builtin.Frozenset.addrOf setAdd
  refine wpAny_bind (wpAny_pure ?_)
  try dsimp only
  refine wpAny_bind (wpAny_pure ?_)
  try dsimp only
  refine wpAny_bind ?_
  refine wpAny_holding ?_
  refine wpAny_bind (pyHash_bool ?_)
  unfold setAddHashed setAddHashedIn
  refine wpAny_holding (wpAny_bind (wpAny_setState_of hD rfl hf ?_))
  dsimp only
  rw [hsc]
  simp only [if_true]
  refine wpAny_bind (wpAny_mono h (fun r s' hr => ?_) fun _ _ e => e)
  obtain ⟨x, rfl, hq⟩ := hr
  refine wpAny_pure ?_
  show wpAny _ _ (ret Value.none) _ _ _
  exact wpAny_pure ⟨_, rfl, hq⟩
theorem add_gen {D : Addr} {b : Bool} {es es' : Array (Int × Value)} {ep : Nat} {t t' : SetTable} {Q : Value → Shared → Prop} (hD : s.heap.get? D = some (setO es ep t)) (hf : t.fits es.size = true) (hsc : byScan (.bool b) es = true)
    (hscan : ∀ s₁ : Shared, wpAny (model prog w) A.in1 (setScan D (.bool b) (hb b) true es) (fun r s' => r = .absent ∧ s' = s₁) E s₁) (hlay : layNew t es (hb b) (.bool b) = (es', t', false, false)) (hpl : t'.plain = true) (hfull : (!false && t'.tooFull) = false) (hz : es'.size ≤ 9)
    (h : ∀ h', h'.get? D = some (setO es' (ep + 1) t') → Heap.SameBut D s.heap h' → Q .none { s with heap := h', toks := s.toks + 1 }) : wpAny (model prog w) A (call (.builtin "set.add") [.ref D, .bool b]) Q E s := by
  refine add_start hD hf hsc ?_
  unfold setAddByScan
  refine wpAny_bind (wpAny_rule ?_)
  refine wpAny_bind (wpAny_mono (hscan _) (fun r s' hr => ?_) fun _ _ e => e)
  obtain ⟨rfl, rfl⟩ := hr
  dsimp only
  rw [hlay]
  dsimp only
  refine wpAny_bind (wpAny_pure ?_)
  rw [if_pos hpl]
  refine wpAny_bind (wpAny_pure ?_)
  simp only [if_true]
  refine wpAny_bind (wpAny_storeSet_of (s := { s with toks := s.toks + 1 }) hD rfl ?_ (by rw [sizeLine_eq]; omega))
  rw [if_neg (by rw [hfull]; decide)]
  have hg : (s.heap.update D (Obj.putSet es' t')).get? D = some (setO es' (ep + 1) t') := Heap.get?_update_self _ hD rfl
  exact wpAny_pure ⟨_, rfl, h _ hg (Heap.SameBut.update ..)⟩
theorem add_new {D : Addr} {b : Bool} {led : Bool} {Q : Value → Shared → Prop} (hD : s.heap.get? D = some (setO #[] 0 (.fresh 0 0 led)))
    (h : ∀ h', h'.get? D = some (setO #[(hb b, .bool b)] 1 (t1 led b)) → Heap.SameBut D s.heap h' → Q .none { s with heap := h', toks := s.toks + 1 }) : wpAny (model prog w) A (call (.builtin "set.add") [.ref D, .bool b]) Q E s := by
  refine add_gen hD (by cases led <;> rfl) (scan0 b) (fun s₁ => ?_) (lay1 led b) (plain1 led b) (full1 led b) (by simp) h
  unfold setScan setScanFrom
  exact wpAny_pure ⟨rfl, rfl⟩
theorem eq_bool {a b : Bool} {Q : Bool → Shared → Prop} (h : Q (a == b) s) : wpAny (model prog w) A (eqBool (.bool a) (.bool b)) Q E s := SeqAt.EqAt.bool_bool a b prog w E Q h
theorem add_old {D : Addr} {b : Bool} {led : Bool} {Q : Value → Shared → Prop} (hD : s.heap.get? D = some (setO #[(hb b, .bool b)] 1 (t1 led b)))
    (h : Q .none { s with toks := s.toks + 1 }) : wpAny (model prog w) A (call (.builtin "set.add") [.ref D, .bool b]) Q E s := by
  refine add_start hD (fits1 led b) (scan1 b b) ?_
  unfold setAddByScan
  refine wpAny_bind (wpAny_rule ?_)
  refine wpAny_bind ?_
  unfold setScan
  show wpAny _ _ (setScanFrom D (.bool b) (hb b) true [(hb b, .bool b)] 0) _ _ _
  unfold setScanFrom
  rw [if_pos (beq_self_eq_true _)]
  refine wpAny_bind (wpAny_setEpoch_of (s := { s with toks := s.toks + 1 }) hD rfl (fits1 led b) ?_)
  refine wpAny_bind (eq_bool ?_)
  rw [beq_self_eq_true, if_pos (by rfl)]
  refine wpAny_pure ?_
  exact wpAny_pure ⟨_, rfl, h⟩
theorem scan_other {D : Addr} (s₁ : Shared) : wpAny (model prog w) A (setScan D (.bool false) (hb false) true #[(hb true, .bool true)]) (fun r s' => r = .absent ∧ s' = s₁) E s₁ := by
  unfold setScan
  show wpAny _ _ (setScanFrom D (.bool false) (hb false) true [(hb true, .bool true)] 0) _ _ _
  unfold setScanFrom
  rw [if_neg (show ¬ ((hb true == hb false) = true) by decide)]
  unfold setScanFrom
  exact wpAny_pure ⟨rfl, rfl⟩
theorem add_both {D : Addr} {led : Bool} {Q : Value → Shared → Prop} (hD : s.heap.get? D = some (setO #[(hb true, .bool true)] 1 (t1 led true)))
    (h : ∀ h', h'.get? D = some (setO #[(hb false, .bool false), (hb true, .bool true)] 2 (t2 led)) → Heap.SameBut D s.heap h' → Q .none { s with heap := h', toks := s.toks + 1 }) : wpAny (model prog w) A (call (.builtin "set.add") [.ref D, .bool false]) Q E s :=
  add_gen hD (fits1 led true) (scan1 false true) scan_other (lay2 led) (plain2 led) (full2 led) (by simp) h
end
end Mine
end

open PySem.W in
theorem Mine.offSetF : True := by
  k_with_none
  w_top off
  exact trivial

section
open PySem PySem.W PySem.Spec PySem.Calls PyProof.Rows
namespace Mine

namespace FS
open PySem
theorem owner_si : Manifest.owners.lookup (String.ofList "set_iterator".toList) = some Manifest.sig_set_iterator := by kernel_rfl
theorem slot_si_next : Slot "set_iterator" "__next__" "set_iterator.__next__" :=
  .of (owner := "set_iterator") (n := "__next__") (by rw [typeLookup_type, builtinLookup_eq_fast]; kernel_rfl) (by decide +kernel) (by decide +kernel) (by decide +kernel)
    (by first | exact .inl (by decide +kernel) | exact .inr (by decide +kernel)) (by rw [isSubtype_type]; kernel_rfl)
theorem entry_si_next : entryFor table "set_iterator.__next__" = some Builtin.«set_iterator.__next__» := entryFor_of_tree (by kernel_rfl)
theorem args_si_next (a : Value) : argsOk "set_iterator.__next__" ⟨[a], []⟩ := by
  unfold argsOk; rw [signature?_of (id := "set_iterator.__next__") (n := "__next__".toList.reverse) (o := "set_iterator".toList.reverse) (by kernel_rfl) owner_si]; kernel_rfl
theorem entry_set_iter : entryFor table "set.__iter__" = some Builtin.«frozenset.__iter__» :=
  entryFor_alias (id' := "frozenset.__iter__") (by kernel_rfl) (by first | rfl | decide +kernel | (unfold String.splitOn; simp +decide [String.splitOnAux])) (by decide +kernel) (by kernel_rfl)
end FS
abbrev itO (first : Value) (i : Nat) (sv : Value) (n ep : Nat) : Obj := { cls := .type "set_iterator", data := .fields #[first, .int i 0, sv, .int n 0, .int ep 0] }
section
variable {prog : Program} {w : World} {A : Around} {E : Value → Shared → Prop} {s : Shared}
theorem iter_set {D : Addr} {es : Array (Int × Value)} {ep : Nat} {t : SetTable} {Q : Value → Shared → Prop} (hD : s.heap.get? D = some (setO es ep t)) (hf : t.fits es.size = true) (hpl : t.plain = true)
    (h : Q (.ref s.heap.objs.size) { s with heap := s.heap.push (itO (.int 0 0) 0 (.ref D) es.size ep) }) : wpAny (model prog w) A (pyIter (.ref D)) Q E s := by
  have hT : s.TypeIs (.ref D) "set" := ⟨_, hD, rfl⟩
  refine wpAny_pyIter_slot hT PySem.F.slot_set_iter (wpAny_call_entry PySem.F.slot_set_iter hT FS.entry_set_iter ?_ (PySem.F.args_set_iter_1 _))
  unfold Builtin.«frozenset.__iter__» Builtin.Frozenset.slot0 slotArgs
  simp only [List.isEmpty_nil, Bool.not_true, Bool.false_eq_true, ↓reduceIte, bind_assoc, List.length_nil, bne_self_eq_false]
  unfold Builtin.Frozenset.addrOf Builtin.Frozenset.sizeOf
  refine wpAny_bind (wpAny_pure ?_)
  try dsimp only
  refine wpAny_bind (wpAny_pure ?_)
  refine wpAny_bind (wpAny_bind (wpAny_setEntries_of hD rfl hf (wpAny_pure ?_)))
  unfold setDrawn setsByText
  refine wpAny_bind (wpAny_bind (wpAny_setState_of hD rfl hf ?_))
  try dsimp only
  refine wpAny_bind (wpAny_bind (wpAny_askSetting (wpAny_pure ?_)))
  refine wpAny_pure ?_
  show wpAny _ _ (if (!byText w && (!t.plain && decide (es.size > 1))) = true then _ else _) _ _ _
  rw [if_neg (by rw [hpl]; simp)]
  refine wpAny_bind (wpAny_pure ?_)
  refine wpAny_bind (wpAny_setEpoch_of hD rfl hf ?_)
  show wpAny _ _ (newFields "set_iterator" [rawInt 0, rawInt 0, .ref D, rawInt es.size, rawInt ep] >>= fun v => ret v) _ _ _
  exact wpAny_bind (wpAny_newObj_type (wpAny_pure ⟨_, rfl, "set_iterator", _, ⟨_, Heap.get?_push_size _ rfl, rfl⟩, FS.slot_si_next.lookup, h⟩))
/-- what the set's iterator reads -/
def Gives1 (w : World) (D : Addr) (es : Array (Int × Value)) (ep : Nat) (t : SetTable) (slot given : Nat) (r : Option (Value × Nat) → Prop) : Prop :=
  (byText w = true → r (((pickOrder (w.params.setOrder D ep) es)[given]?).map fun e => (e.2, slot))) ∧
  (byText w = false → r (match es[SetTable.below t.place slot]?, t.place[SetTable.below t.place slot]? with | some (_, x), some j => some (x, j + 1) | _, _ => none))
theorem set_next {D : Addr} {es : Array (Int × Value)} {ep : Nat} {t : SetTable} {slot given : Nat} {r : Option (Value × Nat) → Prop} {Q : Option (Value × Nat) → Shared → Prop} (hD : s.heap.get? D = some (setO es ep t)) (hf : t.fits es.size = true) (hpl : t.plain = true) (hled : t.led = !byText w)
    (hg : Gives1 w D es ep t slot given r) (h : ∀ v, r v → Q v s) : wpAny (model prog w) A (setNext D slot given ep) Q E s := by
  unfold setNext
  refine wpAny_bind (wpAny_setState_of hD rfl hf ?_)
  dsimp only
  unfold setsByText
  refine wpAny_bind (wpAny_bind (wpAny_askSetting (wpAny_pure ?_)))
  by_cases hB : byText w = true
  · show wpAny _ _ (if byText w = true then _ else _) _ _ _
    rw [if_pos hB]
    rw [if_neg (by simp)]
    refine wpAny_bind ?_
    unfold setWalk setsByText
    refine wpAny_bind (wpAny_setState_of hD rfl hf ?_)
    dsimp only
    refine wpAny_bind (wpAny_bind (wpAny_askSetting (wpAny_pure ?_)))
    show wpAny _ _ (if byText w = true then _ else _) _ _ _
    rw [if_pos hB]
    refine wpAny_bind (wpAny_askSetting (wpAny_pure ?_))
    exact wpAny_pure (h _ (hg.1 hB))
  · have hB' : byText w = false := by simpa using hB
    show wpAny _ _ (if byText w = true then _ else _) _ _ _
    rw [if_neg hB]
    show wpAny _ _ (if (!t.plain && decide (es.size > 1)) = true then _ else _) _ _ _
    rw [if_neg (by rw [hpl]; simp)]
    show wpAny _ _ ((if (!t.led && !es.isEmpty) = true then _ else _) >>= _) _ _ _
    rw [if_neg (by rw [hled, hB']; simp)]
    refine wpAny_bind (wpAny_pure ?_)
    exact wpAny_pure (h _ (hg.2 hB'))
theorem si_next {I D : Addr} {es : Array (Int × Value)} {ep : Nat} {t : SetTable} {slot given : Nat} {r : Option (Value × Nat) → Prop} {Q : Option Value → Shared → Prop} (hh : A.handled = none) (hI : s.heap.get? I = some (itO (.int slot 0) given (.ref D) es.size ep)) (hDI : D ≠ I)
    (hD : s.heap.get? D = some (setO es ep t)) (hf : t.fits es.size = true) (hpl : t.plain = true) (hled : t.led = !byText w) (hg : Gives1 w D es ep t slot given r)
    (h1 : ∀ x nx h', r (some (x, nx)) → h'.get? I = some (itO (.int nx 0) (given + 1) (.ref D) es.size ep) → Heap.SameBut I s.heap h' → Q (some x) { s with heap := h' })
    (h2 : r none → ∀ h', Heap.ExtBut I s.heap h' → Q none { s with heap := h' }) : wpAny (model prog w) A (pyNext (.ref I)) Q E s := by
  have hT : s.TypeIs (.ref I) "set_iterator" := ⟨_, hI, rfl⟩
  unfold pyNext
  refine wpAny_bind (wpAny_attempt (wpAny_callSpecial?_slot (name := PySem.Str.ofString "__next__") hT FS.slot_si_next
    (wpAny_call_entry FS.slot_si_next hT FS.entry_si_next ?_ (FS.args_si_next _))))
  unfold Builtin.«set_iterator.__next__» slotArgs
  simp only [List.isEmpty_nil, Bool.not_true, Bool.false_eq_true, ↓reduceIte, bind_assoc, List.length_nil, bne_self_eq_false]
  refine wpAny_bind (wpAny_pure ?_)
  try dsimp only
  refine wpAny_bind (wpAny_fieldsOf hI rfl ?_)
  dsimp only
  refine wpAny_bind (wpAny_setEntries_of hD rfl hf ?_)
  rw [if_neg (by simp)]
  simp only [Int.toNat_natCast]
  refine wpAny_bind (set_next hD hf hpl hled hg fun v hv => ?_)
  cases v with
  | some p =>
    obtain ⟨x, nx⟩ := p
    dsimp only
    refine wpAny_bind (wpAny_setField_rec hI (by simp) fun h₁ hI₁ hs₁ => ?_)
    refine wpAny_bind (wpAny_setField_rec (s := { s with heap := h₁ }) hI₁ (by simp) fun h₂ hI₂ hs₂ => ?_)
    refine wpAny_pure ⟨x, rfl, ?_⟩
    exact wpAny_pure (h1 x nx h₂ hv hI₂ (hs₁.trans hs₂))
  | none =>
    dsimp only
    refine wpAny_bind (wpAny_setField_rec hI (by simp) fun h₁ hI₁ hs₁ => ?_)
    show wpAny _ _ (newExc (.type "StopIteration") [] >>= _) _ _ _
    refine wpAny_bind ?_
    simp only [newExc, newTuple]
    refine wpAny_bind (wpAny_newObj_type ?_ (by size_fits))
    refine wpAny_bind (m := firstArgMember _ _) (wpAny_of_eq (a := Value.none) (by first | rfl | (simp only [firstArgMember]; rfl)) ?_)
    refine wpAny_newObj_type ?_ (by size_fits)
    simp only [raiseNew]
    refine wpAny_bind (wpAny_handled ?_)
    first | rw [show A.in1.handled = none from hh] | rw [hh]
    refine wpAny_bind (wpAny_pure (wpAny_throw ?_))
    refine wpAny_bind (wpAny_isInstance (T := "StopIteration") (b := true) ⟨_, Heap.get?_push_size _ rfl, rfl⟩ isSubtype_stop ?_)
    exact wpAny_pure (h2 hv _ ((hs₁.extBut.push _).push _))
end
end Mine
end

open PySem.W in
theorem Mine.offSetG : True := by
  k_with_none
  w_top off
  exact trivial

section
open PySem PySem.W PySem.Spec PySem.Calls PyProof.Rows
namespace Mine

theorem led1 (led b : Bool) : (t1 led b).led = led := by cases led <;> cases b <;> kernel_rfl
theorem led2 (led : Bool) : (t2 led).led = led := by cases led <;> kernel_rfl
theorem pick1 {α : Type} (next : Nat → Nat) (e : α) : pickOrder next #[e] = #[e] := by
  unfold pickOrder
  show pickOrder.go next 1 0 [e] #[] = _
  unfold pickOrder.go
  rw [List.length_singleton, Nat.mod_one]
  simp [pickOrder.go]
theorem pick2 {α : Type} (next : Nat → Nat) (e f : α) : ∃ a c, pickOrder next #[e, f] = #[a, c] := by
  have h0 : next 0 % 2 = 0 ∨ next 0 % 2 = 1 := by (first | lia | omega)
  unfold pickOrder
  show ∃ a c, pickOrder.go next 2 0 [e, f] #[] = _
  unfold pickOrder.go
  rw [show [e, f].length = 2 from rfl]
  rcases h0 with h | h
  · rw [h]
    show ∃ a c, pickOrder.go next 1 1 [f] #[e] = _
    unfold pickOrder.go
    rw [List.length_singleton, Nat.mod_one]
    exact ⟨e, f, by simp [pickOrder.go]⟩
  · rw [h]
    show ∃ a c, pickOrder.go next 1 1 [e] #[f] = _
    unfold pickOrder.go
    rw [List.length_singleton, Nat.mod_one]
    exact ⟨f, e, by simp [pickOrder.go]⟩
theorem below1 (led b : Bool) : SetTable.below (t1 led b).place 0 = 0 ∧ (t1 led b).place[0]? = some (hb b).toNat ∧ SetTable.below (t1 led b).place ((hb b).toNat + 1) = 1 := by cases led <;> cases b <;> exact ⟨by kernel_rfl, by kernel_rfl, by kernel_rfl⟩
theorem below2 (led : Bool) : SetTable.below (t2 led).place 0 = 0 ∧ (t2 led).place[0]? = some 0 ∧ SetTable.below (t2 led).place 1 = 1 ∧ (t2 led).place[1]? = some 1 := by cases led <;> exact ⟨by kernel_rfl, by kernel_rfl, by kernel_rfl, by kernel_rfl⟩
noncomputable def nx1 (w : World) (b : Bool) : Nat := if byText w = true then 0 else (hb b).toNat + 1
theorem gives_a (w : World) (D : Addr) (led b : Bool) : Gives1 w D #[(hb b, .bool b)] 1 (t1 led b) 0 0 (fun v => v = some (.bool b, nx1 w b)) := by
  constructor
  · intro h; rw [pick1]; simp [nx1, h]
  · intro h
    obtain ⟨a, c, _⟩ := below1 led b
    rw [a, c]
    simp [nx1, h]
theorem gives_b (w : World) (D : Addr) (led b : Bool) : Gives1 w D #[(hb b, .bool b)] 1 (t1 led b) (nx1 w b) 1 (fun v => v = none) := by
  constructor
  · intro h; rw [pick1]; simp
  · intro h
    obtain ⟨_, _, c⟩ := below1 led b
    rw [show nx1 w b = (hb b).toNat + 1 by simp [nx1, h], c]
    rfl
noncomputable def nx2 (w : World) : Nat := if byText w = true then 0 else 1
theorem gives_c (w : World) (D : Addr) (led : Bool) : Gives1 w D #[(hb false, .bool false), (hb true, .bool true)] 2 (t2 led) 0 0 (fun v => ∃ x, v = some (x, nx2 w)) := by
  constructor
  · intro h
    obtain ⟨a, c, e⟩ := pick2 (w.params.setOrder D 2) (hb false, Value.bool false) (hb true, Value.bool true)
    rw [e]; simp [nx2, h]
  · intro h
    obtain ⟨a, c, _⟩ := below2 led
    rw [a, c]
    simp [nx2, h]
theorem gives_d (w : World) (D : Addr) (led : Bool) : Gives1 w D #[(hb false, .bool false), (hb true, .bool true)] 2 (t2 led) (nx2 w) 1 (fun v => ∃ x n, v = some (x, n)) := by
  constructor
  · intro h
    obtain ⟨a, c, e⟩ := pick2 (w.params.setOrder D 2) (hb false, Value.bool false) (hb true, Value.bool true)
    rw [e]; simp
  · intro h
    obtain ⟨_, _, a, c⟩ := below2 led
    rw [show nx2 w = 1 by simp [nx2, h], a, c]
    simp
section
variable {prog : Program} {w : World} {A : Around} {E : Value → Shared → Prop} {s : Shared}
theorem not_iter {D : Addr} {es : Array (Int × Value)} {ep : Nat} {t : SetTable} {Q : Bool → Shared → Prop} (hD : s.heap.get? D = some (setO es ep t)) (h : Q false s) : wpAny (model prog w) A (notIterableAtAll (.ref D)) Q E s := by
  have hT : s.TypeIs (.ref D) "set" := ⟨_, hD, rfl⟩
  unfold notIterableAtAll
  refine wpAny_bind (wpAny_specialOf hT PySem.F.slot_set_iter.lookup ?_)
  exact wpAny_pure h
theorem unpack_set1 {D : Addr} {led b : Bool} {Q : List Value → Shared → Prop} (hh : A.handled = none) (hled : led = !byText w) (hD : s.heap.get? D = some (setO #[(hb b, .bool b)] 1 (t1 led b)))
    (h : ∀ h', Heap.ExtBut s.heap.objs.size s.heap h' → Q [.bool b] { s with heap := h' }) : wpAny (model prog w) A (unpackItems (.ref D) 1 none) Q E s := by
  have hDI : D ≠ s.heap.objs.size := Nat.ne_of_lt (Heap.lt_size hD)
  have hl : (t1 led b).led = !byText w := by rw [led1, hled]
  unfold unpackItems
  refine wpAny_bind (not_iter hD ?_)
  rw [if_neg Bool.false_ne_true]
  refine wpAny_bind (wpAny_holding (iter_set hD (fits1 led b) (plain1 led b) ?_))
  dsimp only
  refine wpAny_bind (wpAny_holding ?_)
  show wpAny _ _ (pyNext (.ref s.heap.objs.size) >>= _) _ _ _
  refine wpAny_bind (si_next (slot := 0) (given := 0) (D := D) (es := #[(hb b, .bool b)]) (ep := 1) (t := t1 led b) hh (Heap.get?_push_size _ rfl) hDI (Heap.get?_push_of_some _ hD) (fits1 led b) (plain1 led b) hl (gives_a w D led b) (fun x nx h₁ hx hI₁ hs₁ => ?_) (fun hx => by cases hx))
  cases hx
  have hD₁ : h₁.get? D = some (setO #[(hb b, .bool b)] 1 (t1 led b)) := (hs₁.2 D hDI).trans (Heap.get?_push_of_some _ hD)
  refine wpAny_bind (wpAny_holding (wpAny_pure (wpAny_pure ?_)))
  rw [if_neg (by simp)]
  refine wpAny_bind (wpAny_holding (si_next hh hI₁ hDI hD₁ (fits1 led b) (plain1 led b) hl (gives_b w D led b) (fun x nx h₂ hx _ _ => by cases hx) (fun _ h₂ he₂ => ?_)))
  rw [if_neg (by simp)]
  exact wpAny_pure (h h₂ fun c o hc e => he₂ c o hc ((hs₁.2 c hc).trans (Heap.get?_push_of_some _ e)))
theorem unpack_set2 {D : Addr} {led : Bool} {Q : List Value → Shared → Prop} (hh : A.handled = none) (hled : led = !byText w) (hD : s.heap.get? D = some (setO #[(hb false, .bool false), (hb true, .bool true)] 2 (t2 led)))
    (h : ∀ h', Heap.ExtBut s.heap.objs.size s.heap h' → wpAny (model prog w) A (raiseError "ValueError" (toString "too many values to unpack (expected " ++ toString (1 : Nat) ++ toString ")") : Sem Unit) (fun _ _ => False) E { s with heap := h' }) : wpAny (model prog w) A (unpackItems (.ref D) 1 none) Q E s := by
  have hDI : D ≠ s.heap.objs.size := Nat.ne_of_lt (Heap.lt_size hD)
  have hl : (t2 led).led = !byText w := by rw [led2, hled]
  unfold unpackItems
  refine wpAny_bind (not_iter hD ?_)
  rw [if_neg Bool.false_ne_true]
  refine wpAny_bind (wpAny_holding (iter_set hD (fits2 led) (plain2 led) ?_))
  dsimp only
  refine wpAny_bind (wpAny_holding ?_)
  show wpAny _ _ (pyNext (.ref s.heap.objs.size) >>= _) _ _ _
  refine wpAny_bind (si_next (slot := 0) (given := 0) (D := D) (es := #[(hb false, .bool false), (hb true, .bool true)]) (ep := 2) (t := t2 led) hh (Heap.get?_push_size _ rfl) hDI (Heap.get?_push_of_some _ hD) (fits2 led) (plain2 led) hl (gives_c w D led) (fun x nx h₁ hx hI₁ hs₁ => ?_) (fun hx => by obtain ⟨_, q⟩ := hx; cases q))
  obtain ⟨x', e⟩ := hx
  cases e
  have hD₁ : h₁.get? D = some (setO #[(hb false, .bool false), (hb true, .bool true)] 2 (t2 led)) := (hs₁.2 D hDI).trans (Heap.get?_push_of_some _ hD)
  refine wpAny_bind (wpAny_holding (wpAny_pure (wpAny_pure ?_)))
  rw [if_neg (by simp)]
  refine wpAny_bind (wpAny_holding (si_next hh hI₁ hDI hD₁ (fits2 led) (plain2 led) hl (gives_d w D led) (fun x nx h₂ hx hI₂ hs₂ => ?_) (fun hx => by obtain ⟨_, _, q⟩ := hx; cases q)))
  rw [if_pos (by rfl)]
  refine wpAny_bind (wpAny_rule ?_)
  refine wpAny_bind (wpAny_mono (h h₂ fun c o hc e => (hs₂.2 c hc).trans ((hs₁.2 c hc).trans (Heap.get?_push_of_some _ e))) (fun _ _ q => q.elim) fun _ _ e => e)
end
end Mine
end

open PySem.W in
theorem Mine.offEnumi : True := by
  k_with_none
  w_top off
  exact trivial

section
open PySem PySem.W PySem.Spec PySem.Calls PyProof.Rows
namespace Mine

section
variable {prog : Program} {w : World} {A : Around} {s : Shared} {env : Env} {h₀ : Heap} {E : Value → Shared → Prop} {body : List Stmt} {Q : Flow → Shared → Prop}
def EPost (h₀ : Heap) (L : Addr) (s : Shared) (I : Addr) (o1 o2 : Obj) (news : List (Addr × Obj)) (J : (PySem.Str → Option Value) → Prop) (Q : Flow → Shared → Prop) (f : Flow) (s₃ : Shared) : Prop :=
  match f with
  | .ret v => Q (.ret v) s₃
  | .brk => Q .next s₃
  | _ => ∃ h' tk' m', s₃ = { s with heap := h', toks := tk' } ∧ Fr h₀ L h' m' ∧ News h₀ L h' ((I + 1, o1) :: (I, o2) :: news) ∧ J m'
theorem enum_inv {elts : List Expr} {k : Nat} {pos : Pos} {l : Addr} {lo : Obj} {vs : List Value} {n : Nat} {m₀ : PySem.Str → Option Value} {news : List (Addr × Obj)} (J : Nat → (PySem.Str → Option Value) → Prop)
    (hh : A.handled = none) (F : Fr h₀ env.locals s.heap m₀) (N : News h₀ env.locals s.heap news) (hm : (l, lo) ∈ news) (hc : lo.cls = .type "list") (hd : lo.data = .seq vs.toArray n) (h0 : J 0 m₀)
    (turn : ∀ I i v m h tk T t o1 o2, (∀ p ∈ news, p.1 < I) → vs[i]? = some v → J i m → IsTup h T #[.int (i : Int) t, v] → Fr h₀ env.locals h m → News h₀ env.locals h ((I + 1, o1) :: (I, o2) :: news) →
      wpAny (model prog w) A (assign (.Tuple elts k pos) env (.ref T)) (fun _ s₂ => wpAny (model prog w) A (execs body env) (EPost h₀ env.locals s I o1 o2 news (J (i + 1)) Q) E s₂) E { s with heap := h, toks := tk })
    (fin : ∀ m h tk, J vs.length m → Fr h₀ env.locals h m → News h₀ env.locals h news → Q .next { s with heap := h, toks := tk }) :
    wpAny (model prog w) A (call (.type "enumerate") [.ref l]) (fun xv s₁ => wpAny (model prog w) A (pyIter xv) (fun it s₂ => TurnsAt prog w A h₀ env (.Tuple elts k pos) body Q E it s₂) E s₁) E s := by
  refine ktu_enum hh F N hm hc hd rfl fun I lI => ?_
  have key : ∀ (r : List Value) (i : Nat) (m : PySem.Str → Option Value), vs.drop i = r → J i m → i ≤ vs.length → ItemsRest prog w A E h₀ env (.Tuple elts k pos) body Q s [(I + 1, "enumerate"), (I, "list_iterator")] [(l, lo)] (enumItems i r) m news := by
    intro r
    induction r with
    | nil =>
      intro i m hr hj hi
      have : i = vs.length := by
        have := congrArg List.length hr
        simp at this; (first | lia | omega)
      subst this
      exact ItemsRest.zero fun h tk F N => fin m h tk hj F N
    | cons v r ih =>
      intro i m hr hj hi
      have hlt : i < vs.length := by
        have := congrArg List.length hr
        simp at this; (first | lia | omega)
      have hv : vs[i]? = some v := by
        have := List.getElem?_drop (xs := vs) (i := i) (j := 0)
        rw [hr] at this
        simpa using this.symm
      have hr' : vs.drop (i + 1) = r := by
        rw [← List.tail_drop, hr]; rfl
      refine ItemsRest.pair fun T t h tk hT F => AllObj.cons fun o1 _ => AllObj.cons fun o2 _ => AllObj.nil fun N => ?_
      refine wpAny_mono (turn I i v m h tk T t o1 o2 lI hv hj hT F N) (fun _ s₂ h₂ => wpAny_mono h₂ (fun f s₃ h₃ => ?_) fun _ _ e => e) fun _ _ e => e
      have fin' : (∃ h' tk' m', s₃ = { s with heap := h', toks := tk' } ∧ Fr h₀ env.locals h' m' ∧ News h₀ env.locals h' ((I + 1, o1) :: (I, o2) :: news) ∧ J (i + 1) m') → UnrEndW h₀ env.locals { s with heap := h, toks := tk } [(I + 1, o1), (I, o2)] (fun m' n' => SubL [(l, lo)] n' ∧ ItemsRest prog w A E h₀ env (.Tuple elts k pos) body Q s [(I + 1, "enumerate"), (I, "list_iterator")] [(l, lo)] (enumItems (i + 1) r) m' n') s₃ := by
        rintro ⟨h', tk', m', rfl, F', N', hj'⟩
        refine ⟨h', tk', m', news, rfl, F', N', ?_, ⟨hm, trivial⟩, ih (i + 1) m' hr' hj' hlt⟩
        intro p hp q hq
        have := lI p hp
        rcases List.mem_cons.mp hq with rfl | hq
        · exact Nat.ne_of_lt (Nat.lt_succ_of_lt this)
        · rw [List.mem_singleton.mp hq]; exact Nat.ne_of_lt this
      cases f with
      | ret v => exact h₃
      | brk => exact h₃
      | next => exact fin' h₃
      | cont => exact fin' h₃
  exact key vs 0 m₀ rfl h0 (Nat.zero_le _)
end
theorem pick_to (vs : List Value) (i : Nat) (hi : i ≤ vs.length) : (slicePick vs.toArray none (some (i : Int)) none).toList = vs.take i := by
  have e : sliceBounds none (some (i : Int)) none vs.toArray.size = (((0 : Nat) : Int), ((i : Nat) : Int), 1) := by
    simp only [sliceBounds, Option.getD_none, List.size_toArray]
    simp
    (first | lia | omega)
  rw [kmk_pick_nat _ e]
  show (vs.drop 0).take (i - 0) = _
  rw [List.drop_zero, Nat.sub_zero]
section
variable {prog : Program} {w : World} {A : Around} {s : Shared} {env : Env} {h₀ : Heap} {E : Value → Shared → Prop} {body : List Stmt} {Q : Flow → Shared → Prop}
theorem enum_two {elts : List Expr} {k : Nat} {pos : Pos} {l : Addr} {lo : Obj} {vs : List Value} {n : Nat} {m₀ : PySem.Str → Option Value} {news : List (Addr × Obj)} {x y : PySem.Str} (P : Nat → Prop)
    (hh : A.handled = none) (F : Fr h₀ env.locals s.heap m₀) (N : News h₀ env.locals s.heap news) (hm : (l, lo) ∈ news) (hc : lo.cls = .type "list") (hd : lo.data = .seq vs.toArray n) (h0 : P 0)
    (turn : ∀ I i v h tk T t o1 o2 u1 u2, (∀ p ∈ news, p.1 < I) → vs[i]? = some v → P i → IsTup h T #[.int (i : Int) t, v] → Fr h₀ env.locals h (over x u1 (over y u2 m₀)) → News h₀ env.locals h ((I + 1, o1) :: (I, o2) :: news) →
      wpAny (model prog w) A (assign (.Tuple elts k pos) env (.ref T)) (fun _ s₂ => wpAny (model prog w) A (execs body env) (EPost h₀ env.locals s I o1 o2 news (fun m => ∃ u1 u2, m = over x u1 (over y u2 m₀) ∧ P (i + 1)) Q) E s₂) E { s with heap := h, toks := tk })
    (fin : ∀ u1 u2 h tk, P vs.length → Fr h₀ env.locals h (over x u1 (over y u2 m₀)) → News h₀ env.locals h news → Q .next { s with heap := h, toks := tk }) :
    wpAny (model prog w) A (call (.type "enumerate") [.ref l]) (fun xv s₁ => wpAny (model prog w) A (pyIter xv) (fun it s₂ => TurnsAt prog w A h₀ env (.Tuple elts k pos) body Q E it s₂) E s₁) E s := by
  refine enum_inv (fun i m => ∃ u1 u2, m = over x u1 (over y u2 m₀) ∧ P i) hh F N hm hc hd ⟨m₀ x, m₀ y, by rw [← over_own y, ← over_own x], h0⟩ ?_ ?_
  · rintro I i v m h tk T t o1 o2 lI hv ⟨u1, u2, rfl, hp⟩ hT F N
    exact turn I i v h tk T t o1 o2 u1 u2 lI hv hp hT F N
  · rintro m h tk ⟨u1, u2, rfl, hp⟩ F N
    exact fin u1 u2 h tk hp F N
end
/-- the texts that two lists begin with -/
noncomputable def comm : List PySem.Str → List PySem.Str → List PySem.Str
  | x :: r, y :: t => if x = y then x :: comm r t else []
  | _, _ => []
theorem comm_all : ∀ {a b : List PySem.Str}, a.take a.length = b.take a.length → comm a b = a
  | [], _, _ => by cases ‹List PySem.Str› <;> rfl
  | x :: r, [], h => by simp at h
  | x :: r, y :: t, h => by
    simp only [List.length_cons, List.take_succ_cons, List.cons.injEq] at h
    obtain ⟨rfl, h⟩ := h
    unfold comm
    rw [if_pos rfl, comm_all h]
theorem comm_at : ∀ {i : Nat} {a b : List PySem.Str} {c d : PySem.Str}, a.take i = b.take i → a[i]? = some c → b[i]? = some d → c ≠ d → comm a b = a.take i
  | 0, x :: r, y :: t, c, d, _, h1, h2, h3 => by
    simp at h1 h2
    unfold comm
    rw [if_neg (by rw [h1, h2]; exact h3)]; rfl
  | i + 1, x :: r, y :: t, c, d, h, h1, h2, h3 => by
    simp only [List.take_succ_cons, List.cons.injEq] at h
    obtain ⟨rfl, h⟩ := h
    unfold comm
    rw [if_pos rfl, comm_at h (by simpa using h1) (by simpa using h2) h3]; rfl
  | 0, [], _, _, _, _, h1, _, _ => by simp at h1
  | 0, _ :: _, [], _, _, _, _, h2, _ => by simp at h2
  | i + 1, [], _, _, _, _, h1, _, _ => by simp at h1
  | i + 1, _ :: _, [], _, _, _, _, h2, _ => by simp at h2
theorem lex_short : ∀ {i : Nat} {a b : List PySem.Str}, a.take i = b.take i → i < a.length → lexLt b a = false → i < b.length
  | 0, x :: r, [], _, _, h => by cases h
  | 0, x :: r, y :: t, _, _, _ => by simp
  | i + 1, x :: r, y :: t, h, hi, hl => by
    simp only [List.take_succ_cons, List.cons.injEq] at h
    obtain ⟨rfl, h⟩ := h
    rw [lex_cons, if_pos (beq_self_eq_true _)] at hl
    have := lex_short h (by simpa using hi) hl
    simpa using this
  | i + 1, x :: r, [], h, _, _ => by simp at h
  | _, [], _, _, hi, _ => by simp at hi
theorem slt_trans {x y z : List Nat} (h1 : x < y) (h2 : y < z) : x < z := List.lt_trans h1 h2
theorem lex_trans : ∀ {a b c : List PySem.Str}, lexLt a b = true → lexLt b c = true → lexLt a c = true
  | _, [], _, h, _ => by rw [lex_nilR] at h; cases h
  | _, _ :: _, [], _, h => by rw [lex_nilR] at h; cases h
  | [], _ :: _, _ :: _, _, _ => rfl
  | x :: r, y :: t, z :: u, h1, h2 => by
    rw [lex_cons] at h1 h2 ⊢
    by_cases e1 : x = y
    · subst e1
      rw [if_pos (beq_self_eq_true _)] at h1
      by_cases e2 : x = z
      · subst e2
        rw [if_pos (beq_self_eq_true _)] at h2 ⊢
        exact lex_trans h1 h2
      · rw [if_neg (by simpa using e2)] at h2 ⊢
        exact h2
    · rw [if_neg (by simpa using e1)] at h1
      by_cases e2 : y = z
      · subst e2
        rw [if_neg (by simpa using e1)]; exact h1
      · rw [if_neg (by simpa using e2)] at h2
        have h3 := slt_trans (of_decide_eq_true h1) (of_decide_eq_true h2)
        have e3 : x ≠ z := fun e => by rw [e] at h3; exact List.lt_irrefl _ h3
        rw [if_neg (by simpa using e3)]
        exact decide_eq_true h3
theorem lex_irrefl : ∀ a : List PySem.Str, lexLt a a = false
  | [] => rfl
  | x :: r => by rw [lex_cons, if_pos (beq_self_eq_true _)]; exact lex_irrefl r
theorem best_min (yss : List (List PySem.Str)) : ∀ (n i : Nat), i ≤ n → lexLt (yss.getD i []) (yss.getD (argBest (fun i j => lexLt (yss.getD i []) (yss.getD j [])) n) []) = false := by
  intro n
  induction n with
  | zero => intro i hi; cases Nat.le_zero.mp hi; exact lex_irrefl _
  | succ n ih =>
    intro i hi
    simp only [argBest]
    by_cases hb : lexLt (yss.getD (n + 1) []) (yss.getD (argBest (fun i j => lexLt (yss.getD i []) (yss.getD j [])) n) []) = true
    · rw [if_pos hb]
      by_cases e : i = n + 1
      · subst e; exact lex_irrefl _
      · cases h : lexLt (yss.getD i []) (yss.getD (n + 1) []) with
        | false => rfl
        | true => have := lex_trans h hb; rw [ih i (by (first | lia | omega))] at this; cases this
    · rw [if_neg hb]
      by_cases e : i = n + 1
      · subst e; simpa using hb
      · exact ih i (by (first | lia | omega))
theorem best_max (yss : List (List PySem.Str)) : ∀ (n i : Nat), i ≤ n → lexLt (yss.getD (argBest (fun i j => lexLt (yss.getD j []) (yss.getD i [])) n) []) (yss.getD i []) = false := by
  intro n
  induction n with
  | zero => intro i hi; cases Nat.le_zero.mp hi; exact lex_irrefl _
  | succ n ih =>
    intro i hi
    simp only [argBest]
    by_cases hb : lexLt (yss.getD (argBest (fun i j => lexLt (yss.getD j []) (yss.getD i [])) n) []) (yss.getD (n + 1) []) = true
    · rw [if_pos hb]
      by_cases e : i = n + 1
      · subst e; exact lex_irrefl _
      · cases h : lexLt (yss.getD (n + 1) []) (yss.getD i []) with
        | false => rfl
        | true => have := lex_trans hb h; rw [ih i (by (first | lia | omega))] at this; cases this
    · rw [if_neg hb]
      by_cases e : i = n + 1
      · subst e; simpa using hb
      · exact ih i (by (first | lia | omega))
theorem argBest_le (bt : Nat → Nat → Bool) : ∀ n, argBest bt n ≤ n
  | 0 => Nat.le_refl _
  | n + 1 => by
    simp only [argBest]
    split
    · exact Nat.le_refl _
    · exact Nat.le_succ_of_le (argBest_le bt n)
end Mine
end

open PySem.W in
theorem Mine.offTryX : True := by
  k_with_none
  w_top off
  exact trivial

section
open PySem PySem.W PySem.Spec PySem.Calls PyProof.Rows
namespace Mine

section
variable {M : Model} {A : Around} {E : Value → Shared → Prop} {s' : Shared} {base g h : Heap} {outer : List Env} {L e t : Addr} {m : PySem.Str → Option Value} {env : Env} {Q : Unit → Shared → Prop}
theorem mem_frames {b : Addr} (hf : env.frame = some L) (hm : b ∈ (env :: outer).filterMap (·.frame)) : b = L ∨ b ∈ outer.filterMap (·.frame) := by
  obtain ⟨env', he, hf'⟩ := List.mem_filterMap.mp hm
  rcases List.mem_cons.mp he with rfl | he
  · exact .inl (Option.some.inj (hf.symm.trans hf')).symm
  · exact .inr (List.mem_filterMap.mpr ⟨env', he, hf'⟩)
theorem leave_newX {cls : String} (hfe : env.frame = some L) (hk : env.scope.kind = .function) (K : Below A base outer g) (hx : Heap.NewExc h s'.heap e cls) (F : Fr g L h m)
    (hQ : ∀ h', RaisedSN base g outer e (.type cls) [] h' → g.UpToSlots h' → Q () { s' with heap := h' }) :
    wpAny M (A.deeper env) (leaving env (.ref e)) Q E s' := by
  have Kf := (pushX K F hfe hk).frames
  have Ks := Around.frames_deeper (env := env) K.stack
  have Kb : base.StaysIn h := fun b o q => F.keep b o (K.stays b o q)
  have hin : ∀ env' ∈ (env :: outer), ∀ b, env'.frame = some b → b ∈ (env :: outer).filterMap (·.frame) := fun env' he b hb => List.mem_filterMap.mpr ⟨env', he, hb⟩
  have st : base.StaysIn (hideAll h ((env :: outer).filterMap (·.frame))) := fun b o q => hideAll_get _ (Kb b o q) fun hm => by
    rw [(Kf.mem hm).1] at q; cases q
  have sg : ∀ b o, g.get? b = some o → b ∉ outer.filterMap (·.frame) → (hideAll h ((env :: outer).filterMap (·.frame))).get? b = some o := fun b o q nm => hideAll_get _ (F.keep b o q) fun hm => by
    rcases mem_frames hfe hm with z | z
    · rw [z, kts_self F] at q
      cases q
    · exact nm z
  obtain ⟨ob, tp, he, hcls, hd⟩ := hx.there
  have hen : (hideAll h ((env :: outer).filterMap (·.frame))).get? e = none := by
    cases q : (hideAll h ((env :: outer).filterMap (·.frame))).get? e with
    | none => rfl
    | some o => have := of_hideAll _ q; rw [hx.new] at this; cases this
  refine wpAny_leaving_firstW (a0 := tp) Ks ((funFrames_hide Kf hin).of_keeps fun b o hb _ => ⟨o, hx.keeps b o hb, rfl⟩) hfe he (fun b o hb => hx.keeps b o (of_hideAll _ hb)) hen hd rfl rfl fun h' hL => ?_
  obtain ⟨k1, ⟨_, _, k2⟩, k3, k4⟩ := hL
  have R : RaisedSN base g outer e (.type cls) [] h' := ⟨hideAll h ((env :: outer).filterMap (·.frame)), tp, st, sg, fun q hq => (nomatch hq), k1, hen, k2, by rw [← hcls]; exact k3⟩
  exact hQ h' R (((Heap.UpToSlots.of_keeps F.keep).trans (Heap.UpToSlots.of_keeps hx.keeps)).trans k4)
end
section
variable {prog : Program} {w : World} {A A₀ : Around} {s : Shared} {K : Frag} {L : Addr} {h₀ base : Heap} {m mg mb : PySem.Str → Option Value} {rest : List (Addr × Obj)} {p : Program} {loose : List PySem.Str} {mean : ExcName → Option Value}
def TryLeave (h₀ : Heap) (L : Addr) (m : PySem.Str → Option Value) (g : Heap) (rest : List (Addr × Obj)) (R : Result → Shared → Prop) (v : Value) (s' : Shared) : Prop :=
  ∃ g' L' m', KtsTurn [L] g g' ∧ Fr g' L' s'.heap m' ∧ (Fr h₀ L s'.heap m → News h₀ L s'.heap rest → R (.ok (.ret v)) s')
theorem enter_try {env : Env} {R : Result → Shared → Prop} {name qual : PySem.Str} {params : Arguments} {body : List Stmt} {scope : Scope} {dV kV doc pm cdv ct oc : Value} {an od : Option Addr} {osl : Array (Option Value)} {f : Addr} {args : Args} {binds : List (PySem.Str × Value)}
    (B : Below A₀ base [] h₀) (F : Fr h₀ L s.heap m) (X₀ : K.In h₀) (N : News h₀ L s.heap rest) (T : Top p loose mean mg mb h₀) (hA : A.frames = some [env]) (hf : env.frame = some L) (hke : env.scope.kind = .function)
    (ho : K.lookup f = some ⟨oc, od, .func (fnOf name qual params body scope dV kV doc pm an cdv ct), osl⟩) (hcd : codeIn K cdv qual = true) (hroom : A.depth < recursionLimit)
    (hbind : BindsTo s (fnOf name qual params body scope dV kV doc pm an cdv ct) args binds) (hloc : ∀ y ∈ binds, scope.names.lookup y.1 = some .local)
    (h : ∀ g L' h₁, Fr h₀ L g m → Fr g L' h₁ (fun y => binds.reverse.lookup y) → News g L' h₁ [] → Below A base [env] g → K.In g → Top p loose mean mg mb g → (∀ q ∈ rest, g.get? q.1 = some q.2) → KtsDicts [L] g →
      wpAny (model prog w) (A.deeper (envOf qual scope L' f cdv)) (execs body (envOf qual scope L' f cdv))
        (fun fl s' => TryLeave h₀ L m g rest R (match fl with | .ret v => v | _ => .none) s')
        (fun e s' => wpAny (model prog w) (A.deeper (envOf qual scope L' f cdv)) (leaving (envOf qual scope L' f cdv) e) (fun _ s'' => R (.error e) s'') (fun e' s'' => R (.error e') s'') s')
        { s with heap := h₁, toks := s.toks + binds.length })
    (hco : scope.isCoroutine = false) (hgen : scope.isGenerator = false) (hk : scope.kind = .function)
    (hcell : ∀ x ∈ scope.names, x.2 ≠ .cell) : codeAny (model prog w) A (.call (.ref f) args) R s := by
  obtain ⟨FG, BG, st, _⟩ := groundX (R := R) B F News.nil hA hf hke
  have FG0 := FG
  obtain ⟨oL, es, ep, hLg, hLd, hLk, hLf⟩ := FG0.ns
  have hR : ∀ q ∈ rest, (hideAll s.heap []).get? q.1 = some q.2 := fun q hq => hideAll_get _ (N q hq).1 List.not_mem_nil
  refine codeAny_call_def (fd := fnOf name qual params body scope dV kV doc pm an cdv ct) (body := body) (binds := binds) hroom ((X₀.keeps F.keep) _ _ ho) rfl (T.nolimit.keeps F.keep) (codeRec_of (X₀.keeps F.keep) hcd) rfl hbind hcell hloc (fun h₁ hns hk₁ => ?_) hco hgen hk
  refine wpAny_mono (h _ s.heap.objs.size h₁ FG ⟨hns, fun b o e => hk₁ b o (of_hideAll _ e), Nat.le_of_eq (hideAll_size _ _)⟩ News.nil BG (X₀.keeps st) (T.keeps st) hR (fun b hb => ?_)) (fun fl s' hl => ?_) fun _ _ y => y
  · rw [List.mem_singleton.mp hb]; exact ⟨oL, es, ep, hLg, hLd⟩
  · obtain ⟨g', L'', m', T', F', k⟩ := hl
    obtain ⟨sl, hs⟩ := T'.frame L oL hLg (.head _)
    have nL : h₀.get? L = none := kts_self F
    refine k ⟨⟨_, es, ep, F'.keep _ _ hs, hLd, hLk, hLf⟩, fun b o e => F'.keep b o (T'.other b o (st b o e) fun q => ?_), F.above⟩ fun q hq => ⟨F'.keep _ _ (T'.other _ _ (hR q hq) fun z => (N q hq).2.1 (List.mem_singleton.mp z)), (N q hq).2⟩
    rw [List.mem_singleton.mp q, nL] at e; cases e
end
end Mine
end

open PySem.W in
theorem Mine.offChain : True := by
  k_with_none
  w_top off
  exact trivial

section
open PySem PySem.W PySem.Spec PySem.Calls PyProof.Rows
namespace Mine

theorem entry_unchain : entryFor table "proto.unchain" = some Builtin.«proto.unchain» := entryFor_of_fast (by kernel_rfl)
/-- an exception on its way, or held, in the frames l -/
def Fl (B : Heap) (l : List Env) (e : Addr) (fl c2 : Value) (h : Heap) : Prop :=
  B.StaysIn h ∧ B.get? e = none ∧ h.FunFrames B l ∧ ∃ oe vs T oT ts a0, h.get? e = some oe ∧ oe.cls = .type "ValueError" ∧ oe.data = .fields vs ∧ vs[0]? = some a0 ∧ vs[1]? = some (.ref T) ∧ vs[2]? = some c2 ∧
    B.get? T = none ∧ T ≠ e ∧ h.get? T = some oT ∧ oT.data = .fields ts ∧ ts[3]? = some fl
theorem Fl.held {B : Heap} {l : List Env} {e L : Addr} {c2 : Value} {h : Heap} (x : Fl B l e (rawInt L) c2 h) : ∃ a0, Heap.HeldW B l e (.type "ValueError") a0 L h := by
  obtain ⟨k1, k2, k3, oe, vs, T, oT, ts, a0, he, hc, hd, h0, h1, _, hT, hTe, hTh, hTd, h3⟩ := x
  exact ⟨a0, k1, k2, k3, oe, vs, T, oT, ts, he, ⟨hc, h0⟩, hd, h1, hT, hTe, hTh, hTd, h3⟩
section
variable {M : Model} {A : Around} {E : Value → Shared → Prop} {s : Shared} {B : Heap} {env : Env} {outer : List Env} {L e : Addr} {Q : Unit → Shared → Prop}
theorem note1 {oe : Obj} {vs : Array Value} {c2 a0 : Value} (hfr : A.frames = some (env :: outer)) (hl : s.heap.FunFrames B (env :: outer)) (hf : env.frame = some L) (he : s.heap.get? e = some oe) (hkb : B.StaysIn s.heap) (hen : B.get? e = none)
    (hc : oe.cls = .type "ValueError") (hd : oe.data = .fields vs) (h0 : vs[0]? = some a0) (h1 : vs[1]? = some .none) (h2 : vs[2]? = some c2)
    (h : ∀ h', Fl B (env :: outer) e (rawInt L) c2 h' → s.heap.UpToSlots h' → Q () { s with heap := h' }) : wpAny M A (noteFrame (.ref e) env) Q E s := by
  have hene : e ∉ (env :: outer).filterMap (·.frame) := fun hm => by
    obtain ⟨_, o, ho, hnf⟩ := hl.mem hm
    rw [he] at ho; cases ho; exact hnf vs hd
  have hsz : 1 < vs.size := (Array.getElem?_eq_some_iff.mp h1).1
  unfold noteFrame
  simp only [hf]
  refine wpAny_bind (wpAny_field he hd h1 ?_)
  rw [if_neg (by decide)]
  refine wpAny_bind (wpAny_frameOf_fun hfr hl hf fun g hs => ?_)
  refine wpAny_bind (wpAny_entryPlaceOf fun pl hpl => ?_)
  unfold EntryCells.newEntry newFields
  refine wpAny_bind (wpAny_newObj_type ?_ (hpl.sizeOk5 _ _ _ _ _))
  have heg : g.get? e = some oe := (hs.2.1 e hene).trans he
  have kg : B.StaysIn g := fun b o hb => (hs.2.1 b fun hm => by rw [(hl.mem hm).1] at hb; cases hb).trans (hkb b o hb)
  have hp := Heap.get?_push_of_some (h := g) { cls := .type "traceback", dict := none, data := .fields ([Value.none, .ref L, .none, rawInt L, .none] ++ (if pl.isEmpty then List.replicate 6 Value.none else pl)).toArray } heg
  refine wpAny_setField hp hd hsz (h _ ?_ ?_)
  all_goals have hne : g.objs.size ≠ e := Nat.ne_of_gt (Heap.lt_size heg)
  all_goals have hdd := Obj.data_mapFields hd (·.setIfInBounds 1 (Value.ref g.objs.size))
  all_goals have keep : ∀ b o, b ≠ e → g.get? b = some o → ((g.push { cls := .type "traceback", dict := none, data := .fields ([Value.none, .ref L, .none, rawInt L, .none] ++ (if pl.isEmpty then List.replicate 6 Value.none else pl)).toArray }).update e (Obj.mapFields (·.setIfInBounds 1 (Value.ref g.objs.size)))).get? b = some o := fun b o hb hg => (Heap.get?_update_other _ _ (Ne.symm hb)).trans (Heap.get?_push_of_some _ hg)
  all_goals have plain : ∀ b o, s.heap.get? b = some o → (∀ vs, o.data ≠ .fields vs) → b ≠ e := fun b o hb hn q => by rw [q, he] at hb; cases hb; exact hn vs hd
  · refine ⟨fun b o hb => keep b o (fun q => by rw [q, hen] at hb; cases hb) (kg b o hb), hen, hl.of_keeps fun b o hb hn => ?_, ?_⟩
    · obtain ⟨sl, hq⟩ := hs.2.2 b o hb
      exact ⟨_, keep b _ (plain b o hb hn) hq, rfl⟩
    · refine ⟨_, _, g.objs.size, _, _, a0, Heap.get?_update_self _ hp (Obj.isFreed_of_fields hdd), (Obj.cls_mapFields _ _).trans hc, hdd, ?_, ?_, ?_, kg.fresh, hne, (Heap.get?_update_other _ _ (Ne.symm hne)).trans (Heap.get?_push_size g rfl), rfl, ?_⟩
      · rw [Array.getElem?_setIfInBounds_ne (by decide)]; exact h0
      · simp [hsz]
      · rw [Array.getElem?_setIfInBounds_ne (by decide)]; exact h2
      · simp
  · intro b o hb hn
    obtain ⟨sl, hq⟩ := hs.2.2 b o hb
    exact ⟨sl, keep b _ (plain b o hb hn) hq⟩
theorem flight {l : List Env} {fl c2 : Value} {fr : Option Addr} (x : Fl B l e fl c2 s.heap) (h : ∀ h', Fl B l e (fr.elim .none fun f => rawInt f) c2 h' → s.heap.UpToSlots h' → (∀ b o, s.heap.get? b = some o → (∀ vs, o.data ≠ .fields vs) → h'.get? b = some o) → Q () { s with heap := h' }) : wpAny M A (setFlight (.ref e) fr) Q E s := by
  obtain ⟨k1, k2, k3, oe, vs, T, oT, ts, a0, he, hc, hd, h0, h1, h2, hT, hTe, hTh, hTd, h3⟩ := x
  have hsz : 3 < ts.size := (Array.getElem?_eq_some_iff.mp h3).1
  unfold setFlight
  refine wpAny_bind (wpAny_field he hd h1 ?_)
  rw [if_pos (show (Value.ref T != Value.none) = true from by simp)]
  have other : ∀ b, b ≠ T → (s.heap.update T (Obj.mapFields (·.setIfInBounds 3 (fr.elim Value.none fun f => rawInt f)))).get? b = s.heap.get? b := fun b hb => Heap.get?_update_other _ _ (Ne.symm hb)
  have plain : ∀ b o, s.heap.get? b = some o → (∀ vs, o.data ≠ .fields vs) → b ≠ T := fun b o hb hn q => by rw [q, hTh] at hb; cases hb; exact hn ts hTd
  refine wpAny_setField hTh hTd hsz (h _ ⟨fun b o hb => (other b fun q => by rw [q, hT] at hb; cases hb).trans (k1 b o hb), k2, k3.of_keeps fun b o hb hn => ⟨o, (other b (plain b o hb hn)).trans hb, rfl⟩,
    oe, vs, T, _, _, a0, (other e (Ne.symm hTe)).trans he, hc, hd, h0, h1, h2, hT, hTe, Heap.get?_update_self _ hTh (Obj.isFreed_of_fields (Obj.data_mapFields hTd _)), Obj.data_mapFields hTd _, by simp [hsz]⟩ (fun b o hb hn => ⟨o.slots, (other b (plain b o hb hn)).trans hb⟩) fun b o hb hn => (other b (plain b o hb hn)).trans hb)
theorem Fl.push {l : List Env} {fl c2 : Value} {h : Heap} (x : Fl B l e fl c2 h) (o : Obj) : Fl B l e fl c2 (h.push o) := by
  obtain ⟨k1, k2, k3, oe, vs, T, oT, ts, a0, he, hc, hd, h0, h1, h2, hT, hTe, hTh, hTd, h3⟩ := x
  exact ⟨fun b o hb => Heap.get?_push_of_some _ (k1 b o hb), k2, k3.of_keeps fun b o hb _ => ⟨o, Heap.get?_push_of_some _ hb, rfl⟩, oe, vs, T, oT, ts, a0, Heap.get?_push_of_some _ he, hc, hd, h0, h1, h2, hT, hTe, Heap.get?_push_of_some _ hTh, hTd, h3⟩
theorem Fl.keeps {l : List Env} {fl c2 : Value} {h h' : Heap} (x : Fl B l e fl c2 h) (k : ∀ b o, h.get? b = some o → h'.get? b = some o) : Fl B l e fl c2 h' := by
  obtain ⟨k1, k2, k3, oe, vs, T, oT, ts, a0, he, hc, hd, h0, h1, h2, hT, hTe, hTh, hTd, h3⟩ := x
  exact ⟨fun b o hb => k _ _ (k1 b o hb), k2, k3.of_keeps fun b o hb _ => ⟨o, k _ _ hb, rfl⟩, oe, vs, T, oT, ts, a0, k _ _ he, hc, hd, h0, h1, h2, hT, hTe, k _ _ hTh, hTd, h3⟩
theorem Fl.typeIs {l : List Env} {fl c2 : Value} (x : Fl B l e fl c2 s.heap) : s.TypeIs (.ref e) "ValueError" := by
  obtain ⟨_, _, _, oe, _, _, _, _, _, he, hc, _⟩ := x
  exact ⟨oe, he, hc⟩
/-- an exception set on its way again in its own frame -/
theorem pass_on {α : Type} {what : String} {l : List Env} {fl c2 : Value} {Q : α → Shared → Prop} (hf : env.frame = some L) (x : Fl B l e fl c2 s.heap) (h : ∀ h', Fl B l e (rawInt L) c2 h' → s.heap.UpToSlots h' → E (.ref e) { s with heap := h' }) : wpAny M A (PySem.passOn what (.ref e) env) Q E s := by
  unfold PySem.passOn
  have x' := x
  obtain ⟨_, _, _, oe, vs, T, _, _, _, he, _, hd, _, h1, _⟩ := x'
  refine wpAny_bind (wpAny_field he hd h1 ?_)
  rw [if_neg (show ¬ ((Value.ref T == Value.none) = true) from by simp)]
  refine wpAny_bind (flight x fun h' x' u _ => ?_)
  rw [hf] at x'
  exact wpAny_throw (h h' x' u)
/-- an exception raised in a suite of a handler comes back to its frame -/
theorem came_back {l : List Env} {fl c2 : Value} (hf : env.frame = some L) (x : Fl B l e fl c2 s.heap) (h : ∀ h', Fl B l e (rawInt L) c2 h' → s.heap.UpToSlots h' → E (.ref e) { s with heap := h' }) : cameBackBy M A env E (.ref e) s := by
  unfold cameBackBy
  have x' := x
  obtain ⟨_, _, _, oe, vs, T, _, _, _, he, _, hd, _, h1, _⟩ := x'
  refine wpAny_bind (wpAny_field he hd h1 ?_)
  rw [if_neg (show ¬ ((Value.ref T == Value.none) = true) from by simp)]
  refine flight x fun h' x' u _ => ?_
  rw [hf] at x'
  exact h h' x' u
end
section
variable {prog : Program} {w : World} {A : Around} {E : Value → Shared → Prop} {s : Shared} {B : Heap} {env : Env} {outer : List Env} {L e1 : Addr}
set_option maxHeartbeats 800000 in
/-- raise X(..) from None, in a handler -/
theorem raise_from_none {l : List Env} {x : PySem.Expr} {pos np : Pos} {np0 : Nat} {fl : Value} {Q : Flow → Shared → Prop} (hh : A.handled = some (.ref e1)) (x1 : Fl B l e1 fl .none s.heap)
    (h : wpAny (model prog w) A (eval x env) (fun v s₁ => ∃ e g, v = .ref e ∧ Heap.NewExc g s₁.heap e "ValueError" ∧ (∀ b o, s.heap.get? b = some o → g.get? b = some o) ∧
      ∀ h' oe vs a0, h'.get? e = some oe → oe.cls = .type "ValueError" → oe.data = .fields vs → vs[0]? = some a0 → vs[1]? = some .none → vs[2]? = some (.ref e1) → (∀ b, b ≠ e → h'.get? b = s₁.heap.get? b) → E (.ref e) { s₁ with heap := h' }) E s) :
    wpAny (model prog w) A (exec (.Raise (some x) (some (.Constant .none np0 np)) pos) env) Q E s := by
  show wpAny _ A (do standAt pos; raiseStmt env (some (do let v ← eval x env; standAt pos; pure v)) (some (do let c ← eval (.Constant .none np0 np) env; standAt pos; pure c))) Q E s
  refine wpAny_bind (wpAny_standAt ?_)
  unfold raiseStmt
  dsimp only
  refine wpAny_bind (wpAny_bind (wpAny_mono h (fun v s₁ h₁ => wpAny_bind (wpAny_standAt (wpAny_pure ?_))) fun _ _ x => x))
  obtain ⟨e, g, rfl, hx, hg, hE⟩ := h₁
  obtain ⟨ob, t, he, hc, hd⟩ := hx.there
  have hne : e1 ≠ e := fun q => by
    obtain ⟨_, _, _, oe, _, _, _, _, _, he1, _⟩ := x1
    have := hg _ _ he1
    rw [q, hx.new] at this; cases this
  have x1' : Fl B l e1 fl .none s₁.heap := x1.keeps fun b o hb => hx.keeps _ _ (hg _ _ hb)
  have hT : s₁.TypeIs (.ref e) "ValueError" := ⟨ob, he, hc⟩
  have hnt : ∀ {h' : Heap} {o : Obj} {vs : Array Value} {Q' : Bool → Shared → Prop}, h'.get? e = some o → o.data = .fields vs → Q' false { s₁ with heap := h' } → wpAny (model prog w) A (isType (.ref e)) Q' E { s₁ with heap := h' } := by
    intro h' o vs Q' ho hd hq
    simp only [isType, loadHead]
    refine wpAny_bind (wpAny_loadPart ho ?_)
    rw [hd]; exact wpAny_pure hq
  refine wpAny_bind (wpAny_holding (wpAny_bind ?_))
  rw [eval_Constant]
  refine wpAny_pure (wpAny_bind (wpAny_standAt (wpAny_pure (wpAny_bind (wpAny_pure ?_)))))
  dsimp only
  refine wpAny_bind (wpAny_holding ?_)
  unfold excFromValue isExcClass
  refine wpAny_bind (wpAny_bind (hnt he hd ?_))
  simp only [Bool.false_eq_true, if_false]
  refine wpAny_pure ?_
  simp only [Bool.false_eq_true, if_false]
  refine wpAny_bind (wpAny_isInstance hT excClass_ValueError.base ?_)
  simp only [if_true]
  refine wpAny_pure (wpAny_bind ?_)
  refine wpAny_pure ?_
  have hd1 := Obj.data_mapFields hd (·.setIfInBounds 3 Value.none)
  have he1 := Heap.get?_update_self (Obj.mapFields (·.setIfInBounds 3 Value.none)) he (Obj.isFreed_of_fields hd1)
  have hd2 := Obj.data_mapFields hd1 (·.setIfInBounds 4 (Value.bool true))
  have he2 := Heap.get?_update_self (Obj.mapFields (·.setIfInBounds 4 (Value.bool true))) he1 (Obj.isFreed_of_fields hd2)
  have hd3 := Obj.data_mapFields hd2 (·.setIfInBounds 2 (Value.ref e1))
  have he3 := Heap.get?_update_self (Obj.mapFields (·.setIfInBounds 2 (Value.ref e1))) he2 (Obj.isFreed_of_fields hd3)
  refine wpAny_bind (wpAny_setField he hd (by simp) ?_)
  refine wpAny_bind (wpAny_setField he1 hd1 (by simp) ?_)
  refine wpAny_bind (hnt he2 hd2 ?_)
  simp only [Bool.false_eq_true, if_false]
  have hc2 := (Obj.cls_mapFields (o := Obj.mapFields (·.setIfInBounds 3 Value.none) ob) (·.setIfInBounds 4 (Value.bool true)) ).trans ((Obj.cls_mapFields (o := ob) (·.setIfInBounds 3 Value.none)).trans hc)
  have hT2 : ({ s₁ with heap := (s₁.heap.update e (Obj.mapFields (·.setIfInBounds 3 Value.none))).update e (Obj.mapFields (·.setIfInBounds 4 (Value.bool true))) } : Shared).TypeIs (.ref e) "ValueError" := ⟨_, he2, hc2⟩
  unfold raisedInstance
  refine wpAny_bind (wpAny_bind (wpAny_typeOf hT2 (wpAny_bind (m := typeOf (.type "ValueError")) (wpAny_pure ?_))))
  rw [if_pos excClass_ValueError.metaType]
  refine wpAny_pure ?_
  unfold setFlight raiseNew
  refine wpAny_bind (wpAny_bind (wpAny_field he2 hd2 (i := 1) (x := .none) (by simp) ?_))
  rw [if_neg (by decide)]
  refine wpAny_pure (wpAny_bind (wpAny_handled ?_))
  rw [hh]
  dsimp only
  rw [if_pos (show (Value.ref e1 != Value.ref e) = true from by simp [hne])]
  obtain ⟨_, _, _, oq, vq, _, _, _, _, heq, _, hdq, _, _, hq2, _⟩ := x1'
  have heq2 := ((Heap.get?_update_other _ (Obj.mapFields (·.setIfInBounds 4 (Value.bool true))) (Ne.symm hne)).trans (Heap.get?_update_other s₁.heap (Obj.mapFields (·.setIfInBounds 3 Value.none)) (Ne.symm hne))).trans heq
  refine wpAny_bind (wpAny_holding (wpAny_runValue (codeAny_builtin entry_unchain ?_)))
  unfold Builtin.«proto.unchain»
  dsimp only
  refine wpAny_bind (wpAny_field heq2 hdq hq2 ?_)
  rw [if_pos (show (Value.none == Value.none) = true from by decide)]
  refine wpAny_pure ?_
  dsimp only
  have hset : ∀ {Q' : Unit → Shared → Prop} {s₂ : Shared}, wpAny (model prog w) A (setField (.ref e) 2 (.ref e1)) Q' E s₂ → wpAny (model prog w) A (updateField e 2 (.ref e1)) Q' E s₂ := fun h => by simpa only [setField] using h
  refine wpAny_bind (hset ?_)
  refine wpAny_setField he2 hd2 (by simp) ?_
  refine wpAny_throw ?_
  have k := hE (((s₁.heap.update e (Obj.mapFields (·.setIfInBounds 3 Value.none))).update e (Obj.mapFields (·.setIfInBounds 4 (Value.bool true)))).update e (Obj.mapFields (·.setIfInBounds 2 (Value.ref e1)))) _ _ t he3 ((Obj.cls_mapFields _ _).trans hc2) hd3
  have o1 : ∀ b, b ≠ e → (s₁.heap.update e (Obj.mapFields (·.setIfInBounds 3 Value.none))).get? b = s₁.heap.get? b := fun b hb => Heap.get?_update_other s₁.heap _ (Ne.symm hb)
  have o2 : ∀ b, b ≠ e → ((s₁.heap.update e (Obj.mapFields (·.setIfInBounds 3 Value.none))).update e (Obj.mapFields (·.setIfInBounds 4 (Value.bool true)))).get? b = s₁.heap.get? b := fun b hb => (Heap.get?_update_other (s₁.heap.update e (Obj.mapFields (·.setIfInBounds 3 Value.none))) _ (Ne.symm hb)).trans (o1 b hb)
  have k1 := k rfl rfl rfl fun b hb => (Heap.get?_update_other ((s₁.heap.update e (Obj.mapFields (·.setIfInBounds 3 Value.none))).update e (Obj.mapFields (·.setIfInBounds 4 (Value.bool true)))) _ (Ne.symm hb)).trans (o2 b hb)
  exact k1
end
end Mine
end

open PySem.W in
theorem Mine.offChain2 : True := by
  k_with_none
  w_top off
  exact trivial

section
open PySem PySem.W PySem.Spec PySem.Calls PyProof.Rows
namespace Mine

section
variable {prog : Program} {w : World} {A : Around} {E : Value → Shared → Prop} {s : Shared} {B base : Heap} {env : Env} {outer : List Env} {L e1 : Addr} {m : PySem.Str → Option Value}
theorem fr_up {h h' : Heap} (F : Fr base L h m) (u : h.UpToSlots h') (k : base.StaysIn h') : Fr base L h' m := ⟨u.ns F.ns, k, F.above⟩
/-- three names of the machine's own errors -/
def Errs (x : PySem.Str) (v : Value) : Prop := (x, v) = (PySem.Str.ofString "ValueError", .type "ValueError") ∨ (x, v) = (PySem.Str.ofString "TypeError", .type "TypeError") ∨ (x, v) = (PySem.Str.ofString "AttributeError", .type "AttributeError")
theorem chain_mix {g : Heap} {msg : PySem.Str} {k0 k1 k2 k3 : Nat} {q1 q2 q3 q4 q5 q6 q7 q8 q9 q10 q11 : Pos} {b₀ : Stmt} {suite : List Stmt} {Q Q2 : Flow → Shared → Prop} {E2 : Value → Shared → Prop} (hfr : A.frames = some (env :: outer)) (hf : env.frame = some L)
    (hname : ∀ (x : PySem.Str) (v : Value) (np : Pos) (A' : Around) (E' : Value → Shared → Prop) (Q' : Value → Shared → Prop) (s' : Shared), Errs x v → Fr base L s'.heap m → Q' v s' → wpAny (model prog w) A' (eval (.Name x np) env) Q' E' s')
    (hB : base.StaysIn B) (kB : B.StaysIn g) (hl : g.FunFrames B (env :: outer)) (F : Fr base L g m) (hx : Heap.NewExc g s.heap e1 "ValueError")
    (h : ∀ h' tk e c2, Fl B (env :: outer) e (rawInt L) c2 h' → g.UpToSlots h' → E2 (.ref e) { s with heap := h', toks := tk }) :
    wpAny (model prog w) A (noteFrame (.ref e1) env) (fun _ s₂ => wpAny (model prog w) A (setFlight (.ref e1) none) (fun _ s₃ =>
        wpAny (model prog w) A (handleBy (.ref e1) env [.ExceptHandler (some (.Name (PySem.Str.ofString "ValueError") q1)) none [.Raise (some (.Call (.Name (PySem.Str.ofString "ValueError") q2) [.Constant (.str msg) k1 q3] [] q4)) (some (.Constant .none k2 q5)) q6] q7]) Q
          (fun e s₁ => wpAny (model prog w) A (noteFrame e env) (fun _ s₂ => wpAny (model prog w) A (setFlight e none) (fun _ s₃ => wpAny (model prog w) A (handleBy e env [.ExceptHandler (some (.Tuple [.Name (PySem.Str.ofString "TypeError") q8, .Name (PySem.Str.ofString "AttributeError") q9] k3 q10)) none (b₀ :: suite) q11]) Q2 E2 s₃) E2 s₂) E2 s₁) s₃)
        (fun e s₁ => wpAny (model prog w) A (noteFrame e env) (fun _ s₂ => wpAny (model prog w) A (setFlight e none) (fun _ s₃ => wpAny (model prog w) A (handleBy e env [.ExceptHandler (some (.Tuple [.Name (PySem.Str.ofString "TypeError") q8, .Name (PySem.Str.ofString "AttributeError") q9] k3 q10)) none (b₀ :: suite) q11]) Q2 E2 s₃) E2 s₂) E2 s₁) s₂)
      (fun e s₁ => wpAny (model prog w) A (noteFrame e env) (fun _ s₂ => wpAny (model prog w) A (setFlight e none) (fun _ s₃ => wpAny (model prog w) A (handleBy e env [.ExceptHandler (some (.Tuple [.Name (PySem.Str.ofString "TypeError") q8, .Name (PySem.Str.ofString "AttributeError") q9] k3 q10)) none (b₀ :: suite) q11]) Q2 E2 s₃) E2 s₂) E2 s₁) s := by
  have late : ∀ (e : Addr) (s₁ : Shared) (c2 : Value), Fl B (env :: outer) e (rawInt L) c2 s₁.heap → Fr base L s₁.heap m → (∀ h' tk, Fl B (env :: outer) e (rawInt L) c2 h' → s₁.heap.UpToSlots h' → E2 (.ref e) { s₁ with heap := h', toks := tk }) →
      wpAny (model prog w) A (noteFrame (.ref e) env) (fun _ s₂ => wpAny (model prog w) A (setFlight (.ref e) none) (fun _ s₃ => wpAny (model prog w) A (handleBy (.ref e) env [.ExceptHandler (some (.Tuple [.Name (PySem.Str.ofString "TypeError") q8, .Name (PySem.Str.ofString "AttributeError") q9] k3 q10)) none (b₀ :: suite) q11]) Q2 E2 s₃) E2 s₂) E2 s₁ := by
    intro e s₁ c2 x F he2
    obtain ⟨a0, hh⟩ := x.held
    refine wpAny_noteFrame_againW hf hh.2.2.2 ?_
    refine flight x fun h1 x1 u1 _ => ?_
    have F1 : Fr base L h1 m := fr_up F u1 fun b o hb => x1.1 b o (hB b o hb)
    refine wpAny_handleBy_tup2 (X := "ValueError") (T1 := "TypeError") (T2 := "AttributeError") (b1 := false) (b2 := false) (isSubtype_of_subB (by decide +kernel)) (isSubtype_of_subB (by decide +kernel)) (isSubtype_of_subB (by decide +kernel)) (isSubtype_of_subB (by decide +kernel)) (isSubtype_of_subB (by decide +kernel)) (isSubtype_of_subB (by decide +kernel)) ?_
    refine Tuple_ (spliced_more (hname _ _ _ _ _ _ _ (.inr (.inl rfl)) F1 (spliced_more (hname _ _ _ _ _ _ _ (.inr (.inr rfl)) F1 (spliced_none ?_)))))
    refine wpAny_newObj_type ⟨_, rfl, IsTup.new _ _, (x1.push _).typeIs, ?_⟩
    rw [if_neg (by decide)]
    refine wpAny_handleBy_nil (pass_on hf (x1.push _) fun h2 x2 u2 => ?_)
    exact he2 _ _ x2 ((u1.trans (Heap.UpToSlots.of_keeps fun b o hb => Heap.get?_push_of_some _ hb)).trans u2)
  obtain ⟨ob, t, he, hc, hd⟩ := hx.there
  have kB' : B.StaysIn s.heap := fun b o hb => hx.keeps _ _ (kB b o hb)
  have hBn : B.get? e1 = none := by
    cases q : B.get? e1 with
    | none => rfl
    | some o => have := kB _ _ q; rw [hx.new] at this; cases this
  refine note1 (oe := ob) hfr (hl.of_keeps fun b o hb _ => ⟨o, hx.keeps _ _ hb, rfl⟩) hf he kB' hBn hc hd rfl rfl rfl fun h1 x1 u1 => ?_
  have F1 : Fr base L h1 m := fr_up (F.keeps hx.keeps) u1 fun b o hb => x1.1 b o (hB b o hb)
  refine flight x1 fun h2 x2 u2 _ => ?_
  have F2 : Fr base L h2 m := fr_up F1 u2 fun b o hb => x2.1 b o (hB b o hb)
  refine wpAny_handleBy_builtin (X := "ValueError") (T := "ValueError") (b := true) (isSubtype_of_subB (by decide +kernel)) (isSubtype_of_subB (by decide +kernel)) (isSubtype_of_subB (by decide +kernel)) ?_
  refine hname _ _ _ _ _ _ _ (.inl rfl) F2 ⟨rfl, x2.typeIs, ?_⟩
  rw [if_pos rfl]
  refine flight x2 fun h3 x3 u3 _ => ?_
  have F3 : Fr base L h3 m := fr_up F2 u3 fun b o hb => x3.1 b o (hB b o hb)
  refine wpAny_execs_cons ?_
  refine raise_from_none rfl x3 ?_
  refine Call_Name rfl (hname _ _ _ _ _ _ _ (.inl rfl) F3 (callWith_type1 (spliced_more (Constant_str (spliced_none ?_)))))
  refine call_exc excClass_ValueError (fun h4 e2 hx4 => ?_) (by simp [sizeLine_eq])
  refine ⟨e2, _, rfl, hx4, fun b o hb => hb, fun h5 oe vs a0 g1 g2 g3 g4 g5 g6 g7 => ?_⟩
  have n2 : ∀ b o, h3.get? b = some o → b ≠ e2 := fun b o hb q => by have := hx4.new; rw [← q] at this; rw [show h3.get? b = none from this] at hb; cases hb
  have k5 : ∀ b o, h3.get? b = some o → h5.get? b = some o := fun b o hb => (g7 b (n2 b o hb)).trans (hx4.keeps b o hb)
  have x5 := x3.keeps k5
  have b2 : B.get? e2 = none := by
    cases q : B.get? e2 with
    | none => rfl
    | some o => exact absurd rfl (n2 _ _ (x3.1 _ _ q))
  refine note1 (oe := oe) hfr x5.2.2.1 hf g1 x5.1 b2 g2 g3 g4 g5 g6 fun h6 x6 u6 => ?_
  refine came_back hf x6 fun h7 x7 u7 => ?_
  have u5 : h3.UpToSlots h5 := Heap.UpToSlots.of_keeps k5
  have F7 : Fr base L h7 m := fr_up F3 ((u5.trans u6).trans u7) fun b o hb => x7.1 b o (hB b o hb)
  refine late e2 _ _ x7 F7 fun h8 tk8 x8 u8 => ?_
  exact h _ _ _ _ x8 (((((Heap.UpToSlots.of_keeps hx.keeps).trans u1).trans u2).trans u3).trans (((u5.trans u6).trans u7).trans u8))
theorem mix_here {g g8 : Heap} {msg : PySem.Str} {k1 k2 k3 : Nat} {q1 q2 q3 q4 q5 q6 q7 q8 q9 q10 q11 : Pos} {b₀ : Stmt} {suite : List Stmt} {Q Q2 : Flow → Shared → Prop} {E2 : Value → Shared → Prop}
    (K : Below A base outer g) (hfe : env.frame = some L) (hk : env.scope.kind = .function) (F : Fr g L g8 m) (hsz : base.objs.size ≤ L)
    (hname : ∀ (x : PySem.Str) (v : Value) (np : Pos) (A' : Around) (E' : Value → Shared → Prop) (Q' : Value → Shared → Prop) (s' : Shared), Errs x v → Fr base L s'.heap m → Q' v s' → wpAny (model prog w) A' (eval (.Name x np) env) Q' E' s')
    (hx : Heap.NewExc g8 s.heap e1 "ValueError")
    (h : ∀ h' tk e c2 B, Fl B (env :: outer) e (rawInt L) c2 h' → g8.UpToSlots h' → base.StaysIn B → (∀ b o, g.get? b = some o → b ∉ outer.filterMap (·.frame) → B.get? b = some o) → E2 (.ref e) { s with heap := h', toks := tk }) :
    wpAny (model prog w) (A.deeper env) (noteFrame (.ref e1) env) (fun _ s₂ => wpAny (model prog w) (A.deeper env) (setFlight (.ref e1) none) (fun _ s₃ =>
        wpAny (model prog w) (A.deeper env) (handleBy (.ref e1) env [.ExceptHandler (some (.Name (PySem.Str.ofString "ValueError") q1)) none [.Raise (some (.Call (.Name (PySem.Str.ofString "ValueError") q2) [.Constant (.str msg) k1 q3] [] q4)) (some (.Constant .none k2 q5)) q6] q7]) Q
          (fun e s₁ => wpAny (model prog w) (A.deeper env) (noteFrame e env) (fun _ s₂ => wpAny (model prog w) (A.deeper env) (setFlight e none) (fun _ s₃ => wpAny (model prog w) (A.deeper env) (handleBy e env [.ExceptHandler (some (.Tuple [.Name (PySem.Str.ofString "TypeError") q8, .Name (PySem.Str.ofString "AttributeError") q9] k3 q10)) none (b₀ :: suite) q11]) Q2 E2 s₃) E2 s₂) E2 s₁) s₃)
        (fun e s₁ => wpAny (model prog w) (A.deeper env) (noteFrame e env) (fun _ s₂ => wpAny (model prog w) (A.deeper env) (setFlight e none) (fun _ s₃ => wpAny (model prog w) (A.deeper env) (handleBy e env [.ExceptHandler (some (.Tuple [.Name (PySem.Str.ofString "TypeError") q8, .Name (PySem.Str.ofString "AttributeError") q9] k3 q10)) none (b₀ :: suite) q11]) Q2 E2 s₃) E2 s₂) E2 s₁) s₂)
      (fun e s₁ => wpAny (model prog w) (A.deeper env) (noteFrame e env) (fun _ s₂ => wpAny (model prog w) (A.deeper env) (setFlight e none) (fun _ s₃ => wpAny (model prog w) (A.deeper env) (handleBy e env [.ExceptHandler (some (.Tuple [.Name (PySem.Str.ofString "TypeError") q8, .Name (PySem.Str.ofString "AttributeError") q9] k3 q10)) none (b₀ :: suite) q11]) Q2 E2 s₃) E2 s₂) E2 s₁) s := by
  have Kf := (pushX K F hfe hk).frames
  have hin : ∀ env' ∈ (env :: outer), ∀ b, env'.frame = some b → b ∈ (env :: outer).filterMap (·.frame) := fun env' he b hb => List.mem_filterMap.mpr ⟨env', he, hb⟩
  have Kb : base.StaysIn g8 := fun b o q => F.keep b o (K.stays b o q)
  have st : base.StaysIn (hideAll g8 ((env :: outer).filterMap (·.frame))) := fun b o q => hideAll_get _ (Kb b o q) fun hm => by
    rw [(Kf.mem hm).1] at q; cases q
  have sg : ∀ b o, g.get? b = some o → b ∉ outer.filterMap (·.frame) → (hideAll g8 ((env :: outer).filterMap (·.frame))).get? b = some o := fun b o q nm => hideAll_get _ (F.keep b o q) fun hm => by
    rcases mem_frames hfe hm with z | z
    · rw [z, kts_self F] at q
      cases q
    · exact nm z
  exact chain_mix (k0 := 0) (base := base) (B := hideAll g8 ((env :: outer).filterMap (·.frame))) (Around.frames_deeper K.stack) hfe hname st (fun b o q => of_hideAll _ q) (funFrames_hide Kf hin) ⟨F.ns, Kb, hsz⟩ hx fun h9 tk9 e9 c9 x9 u9 => h _ _ _ _ _ x9 u9 st sg
theorem fl_leaves {M : Model} {g : Heap} {e : Addr} {c2 : Value} {Q : Unit → Shared → Prop} (hfe : env.frame = some L) (x : Fl B (env :: outer) e (rawInt L) c2 s.heap) (st : base.StaysIn B) (sg : ∀ b o, g.get? b = some o → b ∉ outer.filterMap (·.frame) → B.get? b = some o) (u : g.UpToSlots s.heap)
    (hQ : ∀ h', RaisedSN base g outer e (.type "ValueError") [] h' → g.UpToSlots h' → Q () { s with heap := h' }) : wpAny M A (leaving env (.ref e)) Q E s := by
  obtain ⟨a0, hh⟩ := x.held
  unfold leaving
  refine wpAny_bind (wpAny_noteFrame_againW hfe hh.2.2.2 ?_)
  refine flight x fun h' x' u' _ => ?_
  obtain ⟨k1, k2, ⟨_, _, k3⟩, oe, vs, T, oT, ts, a1, he, hc, hd, h0, h1, _, hT, hTe, hTh, hTd, h3⟩ := x'
  exact hQ h' ⟨B, a1, st, sg, fun q hq => (nomatch hq), k1, k2, k3, oe, vs, T, oT, ts, he, ⟨hc, h0⟩, hd, h1, hT, hTe, hTh, hTd, h3⟩ (u.trans u')
end
end Mine
end

open PySem.W in
theorem Mine.offCommon : True := by
  k_with_none
  w_top off
  exact trivial

section
open PySem PySem.W PySem.Spec PySem.Calls PyProof.Rows
namespace Mine

abbrev tupL (l : List Value) : Obj := { cls := .type "tuple", data := .seq l.toArray }
/-- a path's folders -/
noncomputable def partsC (x : PySem.Str) : List PySem.Str := (Txt.split x (PySem.Str.ofString "/")).filter fun c => c != PySem.Str.ofString "" && c != PySem.Str.ofString "."
theorem mem_rotL {α : Type} {n : α} {pre rest : List α} : ∀ p ∈ pre ++ n :: rest, p ∈ n :: (pre ++ rest) := by
  intro p hp
  simp only [List.mem_append, List.mem_cons] at hp ⊢
  rcases hp with h | h | h <;> simp [h]
/-- a list of lists of texts -/
structure Lists (ys : List Value) (objs : List (Addr × Obj)) (yss : List (List PySem.Str)) : Prop where
  len : ys.length = yss.length
  at' : ∀ (i : Nat) (l : List PySem.Str), yss[i]? = some l → ∃ (a : Addr) (vs : List Value) (n : Nat), ys[i]? = some (.ref a) ∧ (a, listOf vs.toArray n) ∈ objs ∧ StrsAre vs l
theorem Lists.elim {ys : List Value} {objs : List (Addr × Obj)} {f : PySem.Str → List PySem.Str} {xs : List PySem.Str} (h : Lists ys objs (xs.map f)) {i : Nat} {v : Value} (hv : ys.toArray[i]? = some v) :
    ∃ (x : PySem.Str) (a : Addr) (vs : List Value) (n : Nat), v = .ref a ∧ xs[i]? = some x ∧ (a, listOf vs.toArray n) ∈ objs ∧ StrsAre vs (f x) := by
  have hv : ys[i]? = some v := by simpa using hv
  have hlt : i < xs.length := by
    obtain ⟨h1, _⟩ := List.getElem?_eq_some_iff.mp hv
    have := h.len; rw [List.length_map] at this; (first | lia | omega)
  obtain ⟨a, vs, n, e1, e2, e3⟩ := h.at' i (f xs[i]) (by rw [List.getElem?_map, List.getElem?_eq_getElem hlt]; rfl)
  rw [hv] at e1
  exact ⟨xs[i], a, vs, n, Option.some.inj e1, List.getElem?_eq_getElem hlt, e2, e3⟩
theorem Lists.elim' {ys : List Value} {objs : List (Addr × Obj)} {f : PySem.Str → List PySem.Str} {xs : List PySem.Str} (h : Lists ys objs (xs.map f)) {i : Nat} {v : Value} (hv : ys[i]? = some v) :
    ∃ (x : PySem.Str) (a : Addr) (vs : List Value) (n : Nat), v = .ref a ∧ xs[i]? = some x ∧ (a, listOf vs.toArray n) ∈ objs ∧ StrsAre vs (f x) := h.elim (by simpa using hv)
theorem split_len (x : PySem.Str) : (Txt.split x (PySem.Str.ofString "/")).length ≤ x.length + 1 :=
  Nat.le_trans (wt_len _) (wt_split x)
theorem len_ne {c : PySem.Str} (h : c ≠ PySem.Str.ofString "") : (c.length : Int) ≠ 0 := by
  intro e
  refine h (cps_inj ?_)
  have e1 : c.cps.toList.length = 0 := by
    have : c.length = c.cps.toList.length := Array.length_toList.symm
    (first | lia | omega)
  rw [List.length_eq_zero_iff.mp e1]
  decide
theorem getD_map {α β : Type} {f : α → List β} {l : List α} {i : Nat} {x : α} (h : l[i]? = some x) : (l.map f).getD i [] = f x := by
  rw [List.getD_eq_getElem?_getD, List.getElem?_map, h]; rfl
theorem strs_take : ∀ {vs : List Value} {xs : List PySem.Str}, StrsAre vs xs → ∀ i, StrsAre (vs.take i) (xs.take i)
  | _, _, .nil, i => by simp; exact .nil
  | _, _, .cons y t r, 0 => .nil
  | _, _, .cons y t r, i + 1 => .cons y t (strs_take r i)
theorem comm_wt : ∀ a b : List PySem.Str, wt (comm a b) ≤ wt a
  | [], _ => by unfold comm; exact Nat.zero_le _
  | x :: r, [] => by unfold comm; exact Nat.zero_le _
  | x :: r, y :: t => by
    unfold comm
    split
    · rw [wt_cons, wt_cons]; have := comm_wt r t; (first | lia | omega)
    · exact Nat.zero_le _
theorem parts_wt (x : PySem.Str) : wt (partsC x) ≤ x.length + 1 := by
  refine Nat.le_trans ?_ (wt_split x)
  unfold partsC
  generalize Txt.split x (PySem.Str.ofString "/") = l
  induction l with
  | nil => exact Nat.le_refl _
  | cons c r ih =>
    rw [wt_cons, List.filter_cons]
    split
    · rw [wt_cons]; (first | lia | omega)
    · (first | lia | omega)
noncomputable def loL (yss : List (List PySem.Str)) : List PySem.Str := yss.getD (argBest (fun i j => lexLt (yss.getD i []) (yss.getD j [])) (yss.length - 1)) []
noncomputable def hiL (yss : List (List PySem.Str)) : List PySem.Str := yss.getD (argBest (fun i j => lexLt (yss.getD j []) (yss.getD i [])) (yss.length - 1)) []
/-- what commonpath tells -/
noncomputable def cpath (b : Bool) (xs : List PySem.Str) : PySem.Str := (if b = true then PySem.Str.ofString "/" else PySem.Str.ofString "") ++ Txt.join (PySem.Str.ofString "/") (comm (loL (xs.map partsC)) (hiL (xs.map partsC)))
theorem cpath_t {b : Bool} {xs : List PySem.Str} {lo hi : List PySem.Str} (hb : b = true) (h1 : loL (xs.map partsC) = lo) (h2 : hiL (xs.map partsC) = hi) : PySem.Str.ofString "/" ++ Txt.join (PySem.Str.ofString "/") (comm lo hi) = cpath b xs := by
  unfold cpath; rw [if_pos hb, h1, h2]
theorem cpath_f {b : Bool} {xs : List PySem.Str} {lo hi : List PySem.Str} (hb : b = false) (h1 : loL (xs.map partsC) = lo) (h2 : hiL (xs.map partsC) = hi) : PySem.Str.ofString "" ++ Txt.join (PySem.Str.ofString "/") (comm lo hi) = cpath b xs := by
  unfold cpath; rw [if_neg (by rw [hb]; decide), h1, h2]
theorem Lists.nil {objs : List (Addr × Obj)} : Lists [] objs [] := ⟨rfl, fun i l e => by simp at e⟩
theorem Lists.snoc {ys : List Value} {objs : List (Addr × Obj)} {yss : List (List PySem.Str)} (h : Lists ys objs yss) {l : List PySem.Str} {a : Addr} {vs : List Value} {n : Nat} (hv : StrsAre vs l) : Lists (ys ++ [.ref a]) ((a, listOf vs.toArray n) :: objs) (yss ++ [l]) := by
  refine ⟨by simp [h.len], fun i l' e => ?_⟩
  by_cases hi : i < yss.length
  · rw [List.getElem?_append_left hi] at e
    obtain ⟨b, ws, k, e1, e2, e3⟩ := h.at' i l' e
    exact ⟨b, ws, k, by rw [List.getElem?_append_left (by rw [h.len]; exact hi)]; exact e1, .tail _ e2, e3⟩
  · rw [List.getElem?_append_right (by (first | lia | omega))] at e
    have hi0 : i - yss.length = 0 := by
      obtain ⟨h1, _⟩ := List.getElem?_eq_some_iff.mp e
      simp at h1; (first | lia | omega)
    rw [hi0] at e
    cases e
    refine ⟨a, vs, n, ?_, .head _, hv⟩
    rw [List.getElem?_append_right (by rw [h.len]; (first | lia | omega)), h.len, hi0]
    rfl
theorem strs_values (l : List (PySem.Str × Tok)) : StrsAre (strValues l) (l.map (fun x => x.fst)) := by
  induction l with
  | nil => exact .nil
  | cons p r ih => exact .cons p.1 p.2 ih
theorem strs_at : ∀ {vs : List Value} {xs : List PySem.Str} {i : Nat} {v : Value}, StrsAre vs xs → vs[i]? = some v → ∃ x t, v = .str x t ∧ xs[i]? = some x
  | _, _, i, v, .nil, e => by simp at e
  | _, _, 0, v, .cons x t _, e => by simp at e; exact ⟨x, t, e.symm, rfl⟩
  | _, _, i + 1, v, .cons _ _ r, e => by have := strs_at (i := i) (v := v) r (by simpa using e); simpa using this
theorem mem_rot {α : Type} {n A B C a c d : α} {o : List α} : ∀ p ∈ A :: B :: C :: a :: c :: d :: n :: o, p ∈ n :: A :: B :: C :: a :: c :: d :: o := by
  intro p hp
  simp only [List.mem_cons] at hp ⊢
  rcases hp with h | h | h | h | h | h | h | h <;> simp [h]
noncomputable def soB (w : World) (b : Bool) : Nat → Obj
  | 0 => setO #[] 0 (.fresh 0 0 (!byText w))
  | _ + 1 => setO #[(hb b, .bool b)] 1 (t1 (!byText w) b)
theorem adds_same {prog : Program} {w : World} {A : Around} (b : Bool) (n : Nat) : Adds prog w A (soB w b) (fun _ => .bool b) n := by
  intro i D s Q E hi hD h
  cases i with
  | zero => exact add_new hD fun h' h1 h2 => h h' _ h1 h2
  | succ i => exact add_old hD (h s.heap _ hD (Heap.SameBut.refl _ _))
section
open LCg
variable {prog : Program} {w : World} {A : Around} {E : Value → Shared → Prop} {s : Shared} {h₀ : Heap} {L : Addr} {m : PySem.Str → Option Value} {env : Env}
theorem set_inv {elt : Expr} {x : PySem.Str} {scope : Scope} {cl : List (PySem.Str × Addr)} {S : List (Addr × Obj) → Prop} {P : Nat → Value → Prop} {so : Nat → Obj} {bv : Nat → Value} {Fin : List (Addr × Obj) → Prop} {n : Nat} {news : List (Addr × Obj)}
    (turn : ∀ i v I oI C oC D m₂ h tk (E' : Value → Shared → Prop), i < n → P i v → NsObj oC m₂ → m₂ x = some v → Fr h₀ L h m → News h₀ L h ((I, oI) :: (C, oC) :: (D, so i) :: news) → Off3 I C D news → ((@Ne Nat I C) ∧ (@Ne Nat I D) ∧ (@Ne Nat C D)) →
      wpAny (model prog w) A (eval elt (compEnvC scope cl C env)) (CompEnd h₀ L m { s with heap := h, toks := tk } I oI C oC D (so i) S (fun y news' => y = bv i ∧ news' = news)) E' { s with heap := h, toks := tk })
    (fin : Fin news) : SetRest prog w A h₀ L m env elt x scope cl s S P so bv Fin n 0 news := by
  have key : ∀ (j i : Nat), i + j = n → SetRest prog w A h₀ L m env elt x scope cl s S P so bv Fin j i news := by
    intro j
    induction j with
    | zero => intro i _; exact fin
    | succ j ih =>
      intro i e v I oI C oC D m₂ h tk E' hv hC hx F N off ne
      refine wpAny_mono (turn i v I oI C oC D m₂ h tk E' (by (first | lia | omega)) hv hC hx F N off ne) (fun y s₂ hq => ?_) fun _ _ e => e
      obtain ⟨h', tk', nw, e, F', N', off', hS, hy, rfl⟩ := hq
      exact ⟨h', tk', _, e, F', N', off', hS, hy, ih (i + 1) (by (first | lia | omega))⟩
  exact key n 0 (by (first | lia | omega))
end
section
variable {prog : Program} {w : World} {A : Around} {E : Value → Shared → Prop} {s : Shared} {h₀ : Heap} {L : Addr} {news : List (Addr × Obj)}
theorem assign_set1 {m : PySem.Str → Option Value} {env : Env} {D : Addr} {led b : Bool} {y : PySem.Str} {py pos : Pos} {k : Nat} {Q : Unit → Shared → Prop} (hh : A.handled = none) (hled : led = !byText w) (F : Fr h₀ L s.heap m) (N : News h₀ L s.heap news) (hm : (D, setO #[(hb b, .bool b)] 1 (t1 led b)) ∈ news)
    (h : ∀ h', Fr h₀ L h' m → News h₀ L h' news → wpAny (model prog w) A (assign (.Name y py) env (.bool b)) Q E { s with heap := h' }) : wpAny (model prog w) A (assign (.Tuple [.Name y py] k pos) env (.ref D)) Q E s := by
  rw [arm_assign_Tuple]
  refine wpAny_bind (wpAny_standAt ?_)
  unfold unpack
  show wpAny _ _ (holding [.ref D] (unpackItems (.ref D) 1 none) >>= fun vs => assignInOrder [assign (.Name y py) env] vs) _ _ _
  refine wpAny_bind (wpAny_holding (unpack_set1 hh hled (N _ hm).1 fun h' he => ?_))
  have up : ∀ c o, s.heap.get? c = some o → h'.get? c = some o := fun c o e => he c o (Nat.ne_of_lt (Heap.lt_size e)) e
  show wpAny _ _ (holding [.bool b] (assign (.Name y py) env (.bool b)) >>= fun _ => assignInOrder [] []) _ _ _
  exact wpAny_bind (wpAny_holding (wpAny_mono (h h' (F.keeps up) (N.grown up)) (fun _ _ q => wpAny_pure q) fun _ _ e => e))
theorem tup_true {a : Addr} {v : Value} {r : List Value} {Q : Bool → Shared → Prop} (N : News h₀ L s.heap news) (hm : (a, tupL (v :: r)) ∈ news) (hz : r.length ≤ 100) (h : Q true { s with toks := s.toks + 1 + 1 }) : wpAny (model prog w) A (truthy (.ref a)) Q E s := by
  refine truthy_tuple (items := (v :: r).toArray) ⟨_, (N _ hm).1, rfl, _, rfl⟩ (by simp; (first | lia | omega)) ?_
  exact h
theorem tup_first {a : Addr} {v : Value} {r : List Value} {Q : Value → Shared → Prop} {u : Tok} {value slice : PySem.Expr} (N : News h₀ L s.heap news) (hm : (a, tupL (v :: r)) ∈ news) (h : Q v s)
    (hs : subscripted slice false (.ref a) (.int 0 u) = operate [.ref a, .int 0 u] (getItem (.ref a) (.int 0 u))) :
    wpAny (model prog w) A (subscriptTail value slice (.ref a) (.int 0 u)) Q E s :=
  item_tupleT (l := v :: r) (k := 0) (j := 0) ⟨_, (N _ hm).1, rfl, _, rfl⟩ (by decide) (by decide) (by unfold seqIndex?; simp) rfl h hs
end
theorem rulcommon1 : True := by
  k_with "call type:map" => (k_here; k_dflt (show Hold _))
  k_with "call type:tuple" => (k_here; k_dflt (show Hold _))
  k_with "subscriptTail" => (k_here; (with_reducible show wpAny _ _ (subscriptTail _ _ (Value.ref _) (Value.int _ _)) _ _ _); k_dflt (show Hold _))
  k_with "subscriptTail" => (k_here; (with_reducible show wpAny _ _ (subscriptTail _ _ (Value.ref _) (Value.ref _)) _ _ _); k_dflt (show Hold _))
  k_with "call type:enumerate" => (k_here; k_dflt (show Hold _))
  k_with "call builtin:min" => (k_here; k_dflt (show Hold _))
  k_with "call builtin:max" => (k_here; k_dflt (show Hold _))
  k_with "eval SetComp" => (k_here; k_dflt (show Hold _))
  k_with "eval ListComp" => (k_here; k_dflt (show Hold _))
  k_with "exec For Tuple Call cons nil" => (k_here; (rename Fr _ _ _ _ => lF'); (with_unfolding_all refine' For_turns lF' ?_; k_whole))
  k_with "exec Try" => (k_here; (with_reducible show wpAny _ _ (exec (Stmt.Try _ (_ :: _) _ [] _) _) _ _ _); refine wpAny_Try_except (wpAny_noRaise ?_))
  k_with "exec Assign cons ListComp" => (k_here; (with_reducible show wpAny _ _ (exec (Stmt.Assign _ (PySem.Expr.ListComp (PySem.Expr.Call _ _ _ _) _ _ _) _) _) _ _ _); k_dflt (refine Assign_ListComp_Tup (F₀ := by k_asm) (by rfl) (by with_unfolding_all rfl) (by with_unfolding_all rfl) (by decide) (by rfl) (by decide) (by rfl) (by rfl) (by rfl) ?_))
  k_with "exec Assign cons ListComp" => (k_here; (with_reducible show wpAny _ _ (exec (Stmt.Assign _ (PySem.Expr.ListComp (PySem.Expr.ListComp _ _ _ _) _ _ _) _) _) _ _ _); k_dflt (refine LCg.Assign_ListComp_U (F₀ := by k_asm) (by rfl) (by with_unfolding_all rfl) (by with_unfolding_all rfl) (by decide) (by rfl) (by decide) (by rfl) (by rfl) (by rfl) ?_))
  k_with "CompSrc" => (k_here; k_dflt (show Hold _))
  k_with "CompSrcT" => (k_here; k_dflt (show Hold _))
  k_with "truthy ref" => (k_here; (with_reducible show wpAny _ _ (truthy (Value.ref _)) _ _ _); k_dflt (refine tup_true (by k_asm) (by k_mem) (by assumption) ?_))
  k_with "subscriptTail" => (k_here; (with_reducible show wpAny _ _ (subscriptTail _ _ (Value.ref _) (Value.int 0 _)) _ _ _); (with_unfolding_all refine tup_first (by k_asm) (by k_mem) ?_ (by with_unfolding_all rfl)))
  trivial
theorem commonpath {w mean mg mb} (D : Addr) (vs : List Value) (nn : Nat) (xs : List PySem.Str) (b : Bool) (hi : StrsAre vs xs) (hz : 0 < xs.length ∧ xs.length ≤ 60) (hst : ∀ x ∈ xs, Txt.startswith x (PySem.Str.ofString "/") = b) (hl : ∀ x ∈ xs, x.length ≤ 2000) :
    CtrI w mean mg mb 155 [.ref D] 12 [(D, listOf vs.toArray nn)] (fun t => .str (cpath b xs) t) := by
  unfold CtrI Sur PR; dsimp only [CbRet]
  k_fill
  intro dp un gd cn cs aF ccd cl outer A₀ base h₀ L m news s Q E h1 h2 h3 h4 h5 h6 h7 h8 hret
  refine wpAny_call ?_
  k_dflt (refine' enter_cells1 ?k1 ?k2 ?k3 ?k4 ?k5 ?kA ?kF ?kK ?k6 ?k7 ?k8 ?k9 ?kB ?kD ?_ ?c2 ?c3 ?c4; (case kA => exact rfl); (case kF => exact rfl); (case kK => assumption); (case k1 => k_asm); (case k2 => k_asm); (case k3 => k_asm); (case k4 => k_asm); (case k5 => k_asm); (case k6 => k_is); (case k7 => k_is); (case k8 => ktr_room); (case k9 => first | exact BindsTo.of_eq (binds := [(_, _)]) rfl | exact BindsTo.of_eq (binds := [(_, _), (_, _)]) rfl | exact BindsTo.of_eq (binds := [(_, _), (_, _), (_, _)]) rfl); (case kB => exact rfl); (case kD => decide +kernel); (case c2 => exact rfl); (case c3 => exact rfl); (case c4 => exact rfl); k_whole; intro g' L' h' tk' cells' FG' F' N' Y' B' X' T' hG' GZ DZ tkZ OZ QZ hQZ; k_cells Y'; (try simp only [List.cons_append, List.nil_append, List.append_nil] at N'); (try dsimp only); (try k_lift B'))
  have hL : g'.IsList D vs.toArray := ⟨_, hG' _ (.head _), rfl, nn, rfl⟩
  have hLk : ∀ (h : Heap), (∀ (c : Addr) (o : Obj), g'.get? c = some o → h.get? c = some o) → h.IsList D vs.toArray := fun h k => by obtain ⟨o, e, r⟩ := hL; exact ⟨o, k _ _ e, r⟩
  k_steps
  refine map_K F' N' (hLk _ F'.keep) fun I T M h2' F2 N2 l1 l2 l3 => ?_
  k_steps
  refine call_tuple_map (f := .ref 94) rfl hi (by (first | lia | omega)) (fun h F _ => hLk h F.keep) (fun x t h tk led Q' hx F N hq => ?_) F2 N2 (Nat.ne_of_gt (Nat.lt_trans l2 l3)) (Nat.ne_of_gt l2) (fun p hp => Nat.ne_of_lt (l1 p hp)) fun a h3' tk3 acc F3 N3 l4 hacc => ?_
  · refine' ctr_use (fspath x t) ?k1 ?k2 ?k3 ?k4 ?k5 ?k6 ?k7 ?k8 (fun _ h' tk' F N => hq t h' tk' F N)
    case k1 => k_asm
    case k2 => exact F
    case k3 => k_asm
    case k4 => exact N
    case k5 => k_asm
    case k6 => exact rfl
    case k7 => cb_room
    case k8 => cb_units
  obtain ⟨x0, xr, rfl⟩ : ∃ x0 xr, xs = x0 :: xr := by
    cases xs with
    | nil => exact absurd hz.1 (by simp)
    | cons x0 xr => exact ⟨x0, xr, rfl⟩
  obtain ⟨t0, vr, rfl, hvr⟩ : ∃ t0 vr, acc = .str x0 t0 :: vr ∧ StrsAre vr xr := by cases hacc with | cons _ t0 hr => exact ⟨t0, _, rfl, hr⟩
  have hz9 : vr.length ≤ 100 := by have := hvr.length; rw [List.length_cons] at hz; (first | lia | omega)
  k_steps
  rename_i h6 oS F6 N6 dS h7 oC F7 N7 dC
  simp only [List.cons_append, List.nil_append] at N7
  have hacc2 : StrsAre (Value.str x0 t0 :: vr) (x0 :: xr) := .cons _ _ hvr
  refine ⟨a, (Value.str x0 t0 :: vr).toArray, _, rfl, rfl, F7, N7, ⟨_, .head _, rfl, _, rfl⟩, by simp [sizeLine_eq]; (first | lia | omega), fun s₂ hs => ?_⟩
  obtain ⟨g, rfl⟩ := hs
  refine comp_inv (fun i ys news => ∃ objs, news = (a, tupL (Value.str x0 t0 :: vr)) :: (_, oC) :: (_, oS) :: objs ∧ Lists ys objs (((x0 :: xr).take i).map (fun x => Txt.split x (PySem.Str.ofString "/")))) ⟨[], rfl, .nil⟩ ?_ ?_
  · rintro i v ys news I1 oI C1 oC1 D1 m₂ h tk E' hi' hv ⟨objs, rfl, hls⟩ hNs hx F N off ne
    obtain ⟨x, tx, rfl, hxi⟩ := strs_at hacc2 (by simpa using hv)
    have hxl := hl x (List.mem_of_getElem? hxi)
    have hlt := fun p hp => Heap.lt_size (N p hp).1
    k_steps
    rename_i l h9 k9 eP hS hLn hIs F9 N9
    refine LCg.CompEnd.intro F9 N9 ((a, tupL (Value.str x0 t0 :: vr)) :: (_, oC) :: (_, oS) :: (h.objs.size, listOf (strValues l).toArray _) :: objs) mem_rot (LCg.Off3.of fun p hp => ?_) ⟨_, .head _, rfl, _, rfl⟩ ⟨_, rfl, ?_⟩
    · have hold := off.mem
      rcases List.mem_cons.mp hp with rfl | hp
      · exact hold _ (.head _)
      rcases List.mem_cons.mp hp with rfl | hp
      · exact hold _ (.tail _ (.head _))
      rcases List.mem_cons.mp hp with rfl | hp
      · exact hold _ (.tail _ (.tail _ (.head _)))
      rcases List.mem_cons.mp hp with rfl | hp
      · exact ⟨Nat.ne_of_gt (hlt _ (.head _)), Nat.ne_of_gt (hlt _ (.tail _ (.head _))), Nat.ne_of_gt (hlt _ (.tail _ (.tail _ (.head _))))⟩
      exact hold _ (.tail _ (.tail _ (.tail _ hp)))
    · rw [List.take_add_one, hxi, List.map_append]
      refine hls.snoc ?_
      show StrsAre (strValues l) (Txt.split x (PySem.Str.ofString "/"))
      rw [← eP]; exact hS
  · rintro ys news ⟨objs, rfl, hls⟩
    rw [List.size_toArray, hacc2.length, List.take_length] at hls
    intro D1 h tk F N off
    have N : News g' L' h ((D1, listOf ys.toArray ys.length) :: (a, tupL (Value.str x0 t0 :: vr)) :: (_, oC) :: (_, oS) :: objs) := N
    dsimp only
    k_steps
    refine SetComp_T (so := soB w b) (bv := fun _ => .bool b) (F₀ := by k_asm) (fun _ _ _ h => newSet_led h) rfl (by with_unfolding_all rfl) (by decide) (by rfl) (by decide) (by rfl) ?_
    k_steps
    refine ⟨a, (Value.str x0 t0 :: vr).toArray, _, rfl, rfl, F, N, ⟨_, .tail _ (.head _), rfl, _, rfl⟩, adds_same b _, fun s₂ hs => ?_⟩
    obtain ⟨g, rfl⟩ := hs
    refine set_inv ?_ ?_
    · rintro i v I1 oI C1 oC1 D2 m₂ h tk E' hi' hv hNs hx F N off ne
      obtain ⟨x, tx, rfl, hxi⟩ := strs_at hacc2 (by simpa using hv)
      have hxb := hst x (List.mem_of_getElem? hxi)
      have hxl := hl x (List.mem_of_getElem? hxi)
      k_steps
      rw [hxb]
      exact LCg.CompEnd.intro F N _ (fun p hp => hp) off ⟨_, .tail _ (.head _), rfl, _, rfl⟩ ⟨rfl, rfl⟩
    intro D2 h tk F N off2
    have N : News g' L' h ((D2, setO #[(hb b, .bool b)] 1 (t1 (!byText w) b)) :: (D1, listOf ys.toArray ys.length) :: (a, tupL (Value.str x0 t0 :: vr)) :: (_, oC) :: (_, oS) :: objs) := N
    dsimp only
    k_steps
    refine assign_set1 rfl rfl F N (.head _) fun h8 F8 N8 => ?_
    k_steps
    rename Fr g' L' _ _ => F9
    rename News g' L' _ _ => N9
    refine LCg.CompSrc.ledger rfl F9 N9 (ax := D1) (its := ys.toArray) (.tail _ (.head _)) (by have h1 := hls.len; have h2 := hz.2; rw [List.length_map] at h1; rw [List.size_toArray, sizeLine_eq]; (first | lia | omega)) fun g => ?_
    refine comp_inv (fun i zs news => ∃ objs2, news = (D2, setO #[(hb b, .bool b)] 1 (t1 (!byText w) b)) :: (D1, listOf ys.toArray ys.length) :: (a, tupL (Value.str x0 t0 :: vr)) :: (_, oC) :: (_, oS) :: (objs2 ++ objs) ∧ Lists zs objs2 (((x0 :: xr).take i).map partsC)) ⟨[], rfl, .nil⟩ ?_ ?_
    · rintro i v zs news I1 oI C1 oC1 D3 m₂ h tk E' hi' hv ⟨objs2, rfl, hls2⟩ hNs hx F N off3 ne
      obtain ⟨x, ai, vsi, ni, rfl, hxi, hmi, hsi⟩ := hls.elim hv
      have hxl := hl x (List.mem_of_getElem? hxi)
      have hsl := split_len x
      have hsz := hsi.length
      refine LCt.ListComp_T (F₀ := F) (by with_unfolding_all rfl) (by decide) (by rfl) (by decide) (by rfl) ?_
      k_steps
      refine LCt.CompSrcT.ledger rfl F N (ax := ai) (its := vsi.toArray) (.tail _ (.tail _ (.tail _ (.tail _ (.tail _ (.tail _ (.tail _ (.tail _ (List.mem_append_right _ hmi))))))))) (by rw [List.size_toArray, sizeLine_eq]; (first | lia | omega)) fun g2 => ?_
      refine comp_invT (fun j ws news => news = (I1, oI) :: (C1, oC1) :: (D3, LCg.lst zs) :: (D2, setO #[(hb b, .bool b)] 1 (t1 (!byText w) b)) :: (D1, listOf ys.toArray ys.length) :: (a, tupL (Value.str x0 t0 :: vr)) :: (_, oC) :: (_, oS) :: (objs2 ++ objs) ∧ StrsAre ws (((Txt.split x (PySem.Str.ofString "/")).take j).filter fun c => c != PySem.Str.ofString "" && c != PySem.Str.ofString ".")) ⟨rfl, .nil⟩ ?_ ?_
      · rintro j u ws news I4 oI4 C4 oC4 D4 m4 h4 tk4 E4 hj hu ⟨rfl, hw⟩ hNs4 hx4 F N off4 ne4
        obtain ⟨c, tc, rfl, hci⟩ := strs_at hsi (by simpa using hu)
        have hend : ((Txt.split x (PySem.Str.ofString "/")).take (j + 1)).filter (fun c => c != PySem.Str.ofString "" && c != PySem.Str.ofString ".") = ((Txt.split x (PySem.Str.ofString "/")).take j).filter (fun c => c != PySem.Str.ofString "" && c != PySem.Str.ofString ".") ++ [c].filter (fun c => c != PySem.Str.ofString "" && c != PySem.Str.ofString ".") := by
          rw [List.take_add_one, hci, List.filter_append]; rfl
        have hcl : c.length ≤ 2000 := by have h1 := wt_mem (List.mem_of_getElem? hci); have h2 := wt_split x; (first | lia | omega)
        by_cases e0 : c = PySem.Str.ofString ""
        · subst e0
          k_steps
          refine LCg.CompEnd.intro (by assumption) (by assumption) _ (fun p hp => hp) off4 (.inr ⟨_, .tail _ (.tail _ (.tail _ (.tail _ (.tail _ (.tail _ (.tail _ (.tail _ (List.mem_append_right _ hmi)))))))), rfl, _, rfl⟩) ⟨rfl, ?_⟩
          rw [hend, List.filter_cons_of_neg (by decide), List.filter_nil, List.append_nil]
          exact hw
        have b0 : (c != PySem.Str.ofString "") = true := bne_iff_ne.mpr e0
        have b00 : (c.length : Int) ≠ 0 := len_ne e0
        by_cases e1 : c = PySem.Str.ofString "."
        · subst e1
          k_steps
          refine LCg.CompEnd.intro (by assumption) (by assumption) _ (fun p hp => hp) off4 (.inr ⟨_, .tail _ (.tail _ (.tail _ (.tail _ (.tail _ (.tail _ (.tail _ (.tail _ (List.mem_append_right _ hmi)))))))), rfl, _, rfl⟩) ⟨rfl, ?_⟩
          rw [hend, List.filter_cons_of_neg (by decide), List.filter_nil, List.append_nil]
          exact hw
        have b1 : (c != PySem.Str.ofString ".") = true := bne_iff_ne.mpr e1
        k_steps
        rotate_left
        · exact absurd (by assumption) b00
        refine LCg.CompEnd.intro (by assumption) (by assumption) _ (fun p hp => hp) off4 (.inr ⟨_, .tail _ (.tail _ (.tail _ (.tail _ (.tail _ (.tail _ (.tail _ (.tail _ (List.mem_append_right _ hmi)))))))), rfl, _, rfl⟩) ⟨rfl, ?_⟩
        rw [hend, List.filter_cons_of_pos (by simp only [b0, b1, Bool.and_self]), List.filter_nil]
        exact strs_snoc hw
      · rintro ws news ⟨rfl, hw⟩
        rw [List.size_toArray, hsz, List.take_length] at hw
        intro D4 h tk F N off4
        show LCg.CompEnd _ _ _ _ _ _ _ _ _ _ _ _ _ _
        have hoff := off1_mem off4
        refine LCg.CompEnd.intro F N ((D2, setO #[(hb b, .bool b)] 1 (t1 (!byText w) b)) :: (D1, listOf ys.toArray ys.length) :: (a, tupL (Value.str x0 t0 :: vr)) :: (_, oC) :: (_, oS) :: ((D4, listOf ws.toArray ws.length) :: objs2 ++ objs)) (mem_rotL (pre := [_, _, _, _, _, _, _, _])) (LCg.Off3.of fun p hp => ?_) (show LCg.SrcAt g' D1 ys.toArray _ from Or.inr ⟨_, .tail _ (.head _), rfl, _, rfl⟩) (show ∃ o2, _ from ⟨(D4, listOf ws.toArray ws.length) :: objs2, rfl, ?_⟩)
        · have hold := off3.mem
          rcases mem_rotL (pre := [_, _, _, _, _]) p hp with _ | ⟨_, hp⟩
          · exact ⟨(hoff _ (.head _)).symm, (hoff _ (.tail _ (.head _))).symm, (hoff _ (.tail _ (.tail _ (.head _)))).symm⟩
          · exact hold p hp
        · rw [List.take_add_one, hxi, List.map_append]
          exact hls2.snoc hw
    · rintro zs news ⟨objs2, rfl, hls2⟩
      rw [List.size_toArray, hls.len, List.length_map, List.take_length] at hls2
      intro D3 h tk F N off3
      have N : News g' L' h ((D3, listOf zs.toArray zs.length) :: (D2, setO #[(hb b, .bool b)] 1 (t1 (!byText w) b)) :: (D1, listOf ys.toArray ys.length) :: (a, tupL (Value.str x0 t0 :: vr)) :: (_, oC) :: (_, oS) :: (objs2 ++ objs)) := N
      dsimp only
      k_steps
      have hzl : zs.length = (x0 :: xr).length := by rw [hls2.len, List.length_map]
      have hz0 : 0 < zs.length := by rw [hzl]; exact hz.1
      have hyl : ((x0 :: xr).map partsC).length = zs.length := hls2.len.symm
      refine call_min_lists (bt := fun i j => lexLt (((x0 :: xr).map partsC).getD i []) (((x0 :: xr).map partsC).getD j [])) rfl hz0 F N (.head _) (fun i j vi vj s Q' E' N hvi hvj hq => ?_) fun v1 hA tkA hv1 FA NA => ?_
      · obtain ⟨x, ai, vi', ni, rfl, hxi, hmi, hsi⟩ := hls2.elim' hvi
        obtain ⟨y, aj, vj', nj, rfl, hyj, hmj, hsj⟩ := hls2.elim' hvj
        rw [getD_map hxi, getD_map hyj] at hq
        exact rich_lt hsi hsj (N _ (.tail _ (.tail _ (.tail _ (.tail _ (.tail _ (.tail _ (List.mem_append_left _ hmi)))))))).1 (N _ (.tail _ (.tail _ (.tail _ (.tail _ (.tail _ (.tail _ (List.mem_append_left _ hmj)))))))).1 (by ke_room) hq
      obtain ⟨xlo, a1, v1', n1, rfl, hx1, hm1, hs1⟩ := hls2.elim' hv1
      k_steps
      rename Fr g' L' _ _ => FB
      rename News g' L' _ _ => NB
      refine call_max_lists (bt := fun i j => lexLt (((x0 :: xr).map partsC).getD j []) (((x0 :: xr).map partsC).getD i [])) rfl hz0 FB NB (.head _) (fun i j vi vj s Q' E' N hvi hvj hq => ?_) fun v2 hC tkC hv2 FC NC => ?_
      · obtain ⟨x, ai, vi', ni, rfl, hxi, hmi, hsi⟩ := hls2.elim' hvi
        obtain ⟨y, aj, vj', nj, rfl, hyj, hmj, hsj⟩ := hls2.elim' hvj
        rw [getD_map hxi, getD_map hyj] at hq
        exact rich_gt hsi hsj (N _ (.tail _ (.tail _ (.tail _ (.tail _ (.tail _ (.tail _ (List.mem_append_left _ hmi)))))))).1 (N _ (.tail _ (.tail _ (.tail _ (.tail _ (.tail _ (.tail _ (List.mem_append_left _ hmj)))))))).1 (by ke_room) hq
      obtain ⟨xhi, a2, v2', n2, rfl, hx2, hm2, hs2⟩ := hls2.elim' hv2
      have hlh : lexLt (partsC xhi) (partsC xlo) = false := by
        have := best_min ((x0 :: xr).map partsC) (zs.length - 1) _ (argBest_le (fun i j => lexLt (((x0 :: xr).map partsC).getD j []) (((x0 :: xr).map partsC).getD i [])) (zs.length - 1))
        rw [getD_map hx2, getD_map hx1] at this
        exact this
      k_steps
      rename Fr g' L' _ _ => FD
      rename News g' L' _ _ => ND
      have hwl : (partsC xlo).length ≤ 2001 := Nat.le_trans (List.length_filter_le _ _) (Nat.le_trans (split_len xlo) (by have := hl xlo (List.mem_of_getElem? hx1); (first | lia | omega)))
      have hlo : loL ((x0 :: xr).map partsC) = partsC xlo := by unfold loL; rw [hyl]; exact getD_map hx1
      have hhi : hiL ((x0 :: xr).map partsC) = partsC xhi := by unfold hiL; rw [hyl]; exact getD_map hx2
      have hwc : wt (comm (partsC xlo) (partsC xhi)) ≤ 2001 := by have h1 := comm_wt (partsC xlo) (partsC xhi); have h2 := parts_wt xlo; have h3 := hl xlo (List.mem_of_getElem? hx1); (first | lia | omega)
      have hjl : (Txt.join (PySem.Str.ofString "/") (comm (partsC xlo) (partsC xhi))).length ≤ 2001 := Nat.le_trans (txt_join_le _) hwc
      show wpAny _ _ (call _ _) _ _ _
      refine enum_two (x := PySem.Str.ofString "i") (y := PySem.Str.ofString "c") (fun i => (partsC xlo).take i = (partsC xhi).take i) rfl FD ND (.tail _ (.tail _ (.tail _ (.tail _ (.tail _ (.tail _ (List.mem_append_left _ hm1))))))) rfl rfl rfl ?_ ?_
      · rintro I1 i v h tk T5 t5 o1 o2 u1 u2 lI hv hp hT F N
        obtain ⟨c, tc, rfl, hci⟩ := strs_at hs1 hv
        have hil : i < (partsC xlo).length := (List.getElem?_eq_some_iff.mp hci).1
        have hih := lex_short hp hil hlh
        obtain ⟨td, hdv⟩ := strs_get hs2 (List.getElem?_eq_getElem hih)
        k_steps
        rename Fr g' L' _ _ => FE
        rename News g' L' _ _ => NE
        have hvl := hs1.length
        refine item_listL (l := v2') ⟨_, (NE (a2, listOf v2'.toArray n2) (.tail _ (.tail _ (.tail _ (.tail _ (.tail _ (.tail _ (.tail _ (.tail _ (List.mem_append_left _ hm2)))))))))).1, rfl, _, rfl⟩ (Int.natCast_nonneg _) (by (first | lia | omega)) (by simpa using hdv) ?_ (by with_unfolding_all rfl) (by intro _; with_unfolding_all rfl)
        by_cases hcd : c = (partsC xhi)[i]
        · have hb0 : (c != (partsC xhi)[i]) = false := by rw [hcd]; exact bne_self_eq_false _
          k_steps
          refine ⟨_, _, _, rfl, FE, NE, _, _, over_turn (by decide) _ _ _ _ _, ?_⟩
          rw [List.take_add_one, List.take_add_one, hci, List.getElem?_eq_getElem hih, hcd, hp]
        · have hb0 : (c != (partsC xhi)[i]) = true := bne_iff_ne.mpr hcd
          k_steps
          refine' kmk_slice_lit (lo := none) (hi := some (i : Int)) FE NE (its := v1'.toArray) ⟨_, (NE (a1, listOf v1'.toArray n1) (.tail _ (.tail _ (.tail _ (.tail _ (.tail _ (.tail _ (.tail _ (.tail _ (List.mem_append_left _ hm1)))))))))).1, rfl, _, rfl⟩ ?kp ?kq (pick_to v1' i (by (first | lia | omega))) ?_ ?ks ?kt ?kz
          case kp => kmk_part
          case kq => kmk_part
          case ks => with_unfolding_all rfl
          case kt => kmk_pure
          case kz => rw [List.size_toArray, sizeLine_eq]; (first | lia | omega)
          intro D7 h7' F7 N7 l7
          k_steps
          have hcm : comm (partsC xlo) (partsC xhi) = (partsC xlo).take i := comm_at hp hci (List.getElem?_eq_getElem hih) hcd
          have hs7 : StrsAre (v1'.take i) (comm (partsC xlo) (partsC xhi)) := by rw [hcm]; exact strs_take hs1 i
          dsimp only [EPost]
          k_steps
          all_goals rename News g' L' _ _ => NF
          all_goals refine join_in NF (.head _) hs7 (by decide) (by (first | lia | omega)) ?_
          all_goals intro tj kj
          all_goals k_steps
          all_goals dsimp only
          · rw [cpath_t (by assumption) hlo hhi]
            exact hret _ _ _ (by k_asm) (by k_asm)
          · rw [cpath_f (by assumption) hlo hhi]
            exact hret _ _ _ (by k_asm) (by k_asm)
      · intro u1 u2 h tk hp F N
        have hcm : comm (partsC xlo) (partsC xhi) = partsC xlo := comm_all (by rw [← hs1.length]; exact hp)
        have hs7 : StrsAre v1' (comm (partsC xlo) (partsC xhi)) := by rw [hcm]; exact hs1
        dsimp only
        k_steps
        all_goals rename News g' L' _ _ => NF
        all_goals refine join_in NF (.tail _ (.tail _ (.tail _ (.tail _ (.tail _ (.tail _ (List.mem_append_left _ hm1))))))) hs7 (by decide) (by (first | lia | omega)) ?_
        all_goals intro tj kj
        all_goals k_steps
        all_goals dsimp only
        · rw [cpath_t (by assumption) hlo hhi]
          exact hret _ _ _ (by k_asm) (by k_asm)
        · rw [cpath_f (by assumption) hlo hhi]
          exact hret _ _ _ (by k_asm) (by k_asm)
end Mine
end

open PySem.W in
theorem Mine.offCRaise : True := by
  k_with_none
  w_top off
  exact trivial

section
open PySem PySem.W PySem.Spec PySem.Calls PyProof.Rows
namespace Mine
theorem rulcraise1 : True := by
  k_with "call type:map" => (k_here; k_dflt (show Hold _))
  k_with "call type:tuple" => (k_here; k_dflt (show Hold _))
  k_with "subscriptTail" => (k_here; (with_reducible show wpAny _ _ (subscriptTail _ _ (Value.ref _) (Value.int _ _)) _ _ _); k_dflt (show Hold _))
  k_with "subscriptTail" => (k_here; (with_reducible show wpAny _ _ (subscriptTail _ _ (Value.ref _) (Value.ref _)) _ _ _); k_dflt (show Hold _))
  k_with "call type:enumerate" => (k_here; k_dflt (show Hold _))
  k_with "call builtin:min" => (k_here; k_dflt (show Hold _))
  k_with "call builtin:max" => (k_here; k_dflt (show Hold _))
  k_with "eval SetComp" => (k_here; k_dflt (show Hold _))
  k_with "eval ListComp" => (k_here; k_dflt (show Hold _))
  k_with "exec For Tuple Call cons nil" => (k_here; (rename Fr _ _ _ _ => lF'); (with_unfolding_all refine' For_turns lF' ?_; k_whole))
  k_with "exec Try" => (k_here; (with_reducible show wpAny _ _ (exec (Stmt.Try _ (_ :: _) _ [] _) _) _ _ _); refine wpAny_Try_except ?_)
  k_with "exec Assign cons ListComp" => (k_here; (with_reducible show wpAny _ _ (exec (Stmt.Assign _ (PySem.Expr.ListComp (PySem.Expr.Call _ _ _ _) _ _ _) _) _) _ _ _); k_dflt (refine Assign_ListComp_Tup (F₀ := by k_asm) (by rfl) (by with_unfolding_all rfl) (by with_unfolding_all rfl) (by decide) (by rfl) (by decide) (by rfl) (by rfl) (by rfl) ?_))
  k_with "exec Assign cons ListComp" => (k_here; (with_reducible show wpAny _ _ (exec (Stmt.Assign _ (PySem.Expr.ListComp (PySem.Expr.ListComp _ _ _ _) _ _ _) _) _) _ _ _); k_dflt (refine LCg.Assign_ListComp_U (F₀ := by k_asm) (by rfl) (by with_unfolding_all rfl) (by with_unfolding_all rfl) (by decide) (by rfl) (by decide) (by rfl) (by rfl) (by rfl) ?_))
  k_with "CompSrc" => (k_here; k_dflt (show Hold _))
  k_with "CompSrcT" => (k_here; k_dflt (show Hold _))
  k_with "truthy ref" => (k_here; (with_reducible show wpAny _ _ (truthy (Value.ref _)) _ _ _); k_dflt (refine tup_true (by k_asm) (by k_mem) (by assumption) ?_))
  k_with "subscriptTail" => (k_here; (with_reducible show wpAny _ _ (subscriptTail _ _ (Value.ref _) (Value.int 0 _)) _ _ _); (with_unfolding_all refine tup_first (by k_asm) (by k_mem) ?_ (by with_unfolding_all rfl)))
  k_with "exec Raise some none" => (k_here; refine Raise_new rfl ?_)
  trivial
/-- a call that raises ValueError -/
abbrev CtrE (w : World) (mean : ExcName → Option Value) (mg mb : PySem.Str → Option Value) (f : Addr) (vs : List Value) (c : Nat) (Pre : Heap → Prop) : Prop :=
  ∀ (dp un : Nat) (gd : Option (List Code)) (cn : PySem.Str) (cs : Scope) (a : Addr) (ccd : Value) (cl : List (PySem.Str × Addr)) (outer : List Env) (A₀ : Around) (base h₀ : Heap) (L : Addr) (m : PySem.Str → Option Value) (news : List (Addr × Obj)) (s : Shared) (Q E : Value → Shared → Prop),
    Below A₀ base outer h₀ → Fr h₀ L s.heap m → (hd.heap_1 w.params).In h₀ → News h₀ L s.heap news → Pre h₀ → Top topProg LO mean mg mb h₀ → cs.kind = .function →
    dp + c < recursionLimit → un + 8 * c < cLine →
    (∀ (G : Heap) (e : Addr) (h' : Heap) (tk' : Nat), Fr h₀ L G m → (∀ q ∈ news, G.get? q.1 = some q.2) → RaisedSN base G (envX cn cs L a ccd cl :: outer) e (.type "ValueError") [] h' → G.UpToSlots h' → E (.ref e) { s with heap := h', toks := tk' }) →
      wpAny (model PR w) (ktrTop dp un gd cn cs L a ccd cl outer) (call (.ref f) vs) Q E s
theorem raise_nil {w mean mg mb} (D : Addr) :
    CtrE w mean mg mb 155 [.ref D] 12 (fun h => h.IsList D ([] : List Value).toArray) := by
  unfold CtrE PR
  k_fill
  intro dp un gd cn cs aF ccd cl outer A₀ base h₀ L m news s Q E h1 h2 h3 h4 hL0 h5 h6 h7 h8 hret
  refine wpAny_call ?_
  k_dflt (refine' enter_cells0 ?k1 ?k2 ?k3 ?k4 ?k5 ?kA ?kF ?kK ?k6 ?k7 ?k8 ?k9 ?kB ?kD ?_ ?c2 ?c3 ?c4; (case kA => exact rfl); (case kF => exact rfl); (case kK => assumption); (case k1 => k_asm); (case k2 => k_asm); (case k3 => k_asm); (case k4 => k_asm); (case k5 => k_asm); (case k6 => k_is); (case k7 => k_is); (case k8 => ktr_room); (case k9 => exact BindsTo.of_eq rfl); (case kB => exact rfl); (case kD => decide +kernel); (case c2 => exact rfl); (case c3 => exact rfl); (case c4 => exact rfl); k_whole; intro g' L' h' tk' cells' FG' F' N' Y' B' X' T' hG'; k_cells Y'; (try simp only [List.cons_append, List.nil_append, List.append_nil] at N'); (try dsimp only); (try k_lift B'); (try k_fold))
  have hL : g'.IsList D ([] : List Value).toArray := by obtain ⟨o, e, r⟩ := hL0; exact ⟨o, FG'.keep _ _ e, r⟩
  have hLk : ∀ (h : Heap), (∀ (c : Addr) (o : Obj), g'.get? c = some o → h.get? c = some o) → h.IsList D ([] : List Value).toArray := fun h k => by obtain ⟨o, e, r⟩ := hL; exact ⟨o, k _ _ e, r⟩
  k_steps
  refine map_K F' N' (hLk _ F'.keep) fun I T M h2' F2 N2 l1 l2 l3 => ?_
  k_steps
  refine call_tuple_map (f := .ref 94) (xs := []) rfl .nil (by simp) (fun h F _ => hLk h F.keep) (fun x t h tk led Q' hx F N hq => nomatch hx) F2 N2 (Nat.ne_of_gt (Nat.lt_trans l2 l3)) (Nat.ne_of_gt l2) (fun p hp => Nat.ne_of_lt (l1 p hp)) fun a h3' tk3 acc F3 N3 l4 hacc => ?_
  cases hacc
  k_steps
  rename Heap.NewExc _ _ _ _ => hX
  rename Fr g' L' _ _ => FX
  exact leave_newX rfl rfl B' hX FX fun h' R up => hret _ _ _ _ FG' hG' R up
end Mine
end

open PySem.W in
theorem Mine.offRMix : True := by
  k_with_none
  w_top off
  exact trivial

section
open PySem PySem.W PySem.Spec PySem.Calls PyProof.Rows
namespace Mine

noncomputable def soM (w : World) : Nat → Obj
  | 0 => setO #[] 0 (.fresh 0 0 (!byText w))
  | 1 => setO #[(hb true, .bool true)] 1 (t1 (!byText w) true)
  | _ => setO #[(hb false, .bool false), (hb true, .bool true)] 2 (t2 (!byText w))
theorem adds_mix {prog : Program} {w : World} {A : Around} : Adds prog w A (soM w) (fun i => .bool (i == 0)) 2 := by
  intro i D s Q E hi hD h
  match i, hi with
  | 0, _ => exact add_new hD fun h' h1 h2 => h h' _ h1 h2
  | 1, _ => exact add_both hD fun h' h1 h2 => h h' _ h1 h2
section
variable {prog : Program} {w : World} {A : Around} {E : Value → Shared → Prop} {s : Shared} {h₀ : Heap} {L : Addr} {news : List (Addr × Obj)}
theorem assign_set2 {m : PySem.Str → Option Value} {env : Env} {D : Addr} {led : Bool} {y : PySem.Str} {py pos : Pos} {k : Nat} {Q : Unit → Shared → Prop} (hh : A.handled = none) (hled : led = !byText w) (F : Fr h₀ L s.heap m) (N : News h₀ L s.heap news) (hm : (D, setO #[(hb false, .bool false), (hb true, .bool true)] 2 (t2 led)) ∈ news)
    (h : ∀ g h' tk e, Fr h₀ L g m → News h₀ L g news → Heap.NewExc g h' e "ValueError" → E (.ref e) { s with heap := h', toks := tk }) : wpAny (model prog w) A (assign (.Tuple [.Name y py] k pos) env (.ref D)) Q E s := by
  rw [arm_assign_Tuple]
  refine wpAny_bind (wpAny_standAt ?_)
  unfold unpack
  show wpAny _ _ (holding [.ref D] (unpackItems (.ref D) 1 none) >>= fun vs => assignInOrder [assign (.Name y py) env] vs) _ _ _
  refine wpAny_bind (wpAny_holding (unpack_set2 hh hled (N _ hm).1 fun h' he => ?_))
  have up : ∀ c o, s.heap.get? c = some o → h'.get? c = some o := fun c o e => he c o (Nat.ne_of_lt (Heap.lt_size e)) e
  exact wpAny_raiseErrorMade plainExc_ValueError hh fun h2 tk e hx => h h' h2 tk e (F.keeps up) (N.grown up) hx
end
theorem rulrmix1 : True := by
  k_with "call type:map" => (k_here; k_dflt (show Hold _))
  k_with "call type:tuple" => (k_here; k_dflt (show Hold _))
  k_with "subscriptTail" => (k_here; (with_reducible show wpAny _ _ (subscriptTail _ _ (Value.ref _) (Value.int _ _)) _ _ _); k_dflt (show Hold _))
  k_with "subscriptTail" => (k_here; (with_reducible show wpAny _ _ (subscriptTail _ _ (Value.ref _) (Value.ref _)) _ _ _); k_dflt (show Hold _))
  k_with "call type:enumerate" => (k_here; k_dflt (show Hold _))
  k_with "call builtin:min" => (k_here; k_dflt (show Hold _))
  k_with "call builtin:max" => (k_here; k_dflt (show Hold _))
  k_with "eval SetComp" => (k_here; k_dflt (show Hold _))
  k_with "eval ListComp" => (k_here; k_dflt (show Hold _))
  k_with "exec For Tuple Call cons nil" => (k_here; (rename Fr _ _ _ _ => lF'); (with_unfolding_all refine' For_turns lF' ?_; k_whole))
  k_with "exec Try" => (k_here; (with_reducible show wpAny _ _ (exec (Stmt.Try _ (_ :: _) _ [] _) _) _ _ _); refine wpAny_Try_except ?_)
  k_with "exec Assign cons ListComp" => (k_here; (with_reducible show wpAny _ _ (exec (Stmt.Assign _ (PySem.Expr.ListComp (PySem.Expr.Call _ _ _ _) _ _ _) _) _) _ _ _); k_dflt (refine Assign_ListComp_Tup (F₀ := by k_asm) (by rfl) (by with_unfolding_all rfl) (by with_unfolding_all rfl) (by decide) (by rfl) (by decide) (by rfl) (by rfl) (by rfl) ?_))
  k_with "exec Assign cons ListComp" => (k_here; (with_reducible show wpAny _ _ (exec (Stmt.Assign _ (PySem.Expr.ListComp (PySem.Expr.ListComp _ _ _ _) _ _ _) _) _) _ _ _); k_dflt (refine LCg.Assign_ListComp_U (F₀ := by k_asm) (by rfl) (by with_unfolding_all rfl) (by with_unfolding_all rfl) (by decide) (by rfl) (by decide) (by rfl) (by rfl) (by rfl) ?_))
  k_with "CompSrc" => (k_here; k_dflt (show Hold _))
  k_with "CompSrcT" => (k_here; k_dflt (show Hold _))
  k_with "truthy ref" => (k_here; (with_reducible show wpAny _ _ (truthy (Value.ref _)) _ _ _); k_dflt (refine tup_true (by k_asm) (by k_mem) (by assumption) ?_))
  k_with "subscriptTail" => (k_here; (with_reducible show wpAny _ _ (subscriptTail _ _ (Value.ref _) (Value.int 0 _)) _ _ _); (with_unfolding_all refine tup_first (by k_asm) (by k_mem) ?_ (by with_unfolding_all rfl)))
  k_with "exec Raise some none" => (k_here; refine Raise_new rfl ?_)
  trivial
abbrev CtrEB (w : World) (mean : ExcName → Option Value) (mg mb : PySem.Str → Option Value) (f : Addr) (vs : List Value) (c : Nat) (Pre : Heap → Prop) : Prop :=
  ∀ (dp un : Nat) (gd : Option (List Code)) (cn : PySem.Str) (cs : Scope) (a : Addr) (ccd : Value) (cl : List (PySem.Str × Addr)) (outer : List Env) (A₀ : Around) (base h₀ : Heap) (L : Addr) (m : PySem.Str → Option Value) (news : List (Addr × Obj)) (s : Shared) (Q E : Value → Shared → Prop),
    Below A₀ base outer h₀ → Fr h₀ L s.heap m → (hd.heap_1 w.params).In h₀ → News h₀ L s.heap news → Pre h₀ → Top topProg LO mean mg mb h₀ → (hd.heap_1 w.params).In base → Top topProg LO mean mg mb base → base.objs.size ≤ h₀.objs.size → cs.kind = .function →
    dp + c < recursionLimit → un + 8 * c < cLine →
    (∀ (G : Heap) (e : Addr) (h' : Heap) (tk' : Nat), Fr h₀ L G m → (∀ q ∈ news, G.get? q.1 = some q.2) → RaisedSN base G (envX cn cs L a ccd cl :: outer) e (.type "ValueError") [] h' → G.UpToSlots h' → E (.ref e) { s with heap := h', toks := tk' }) →
      wpAny (model PR w) (ktrTop dp un gd cn cs L a ccd cl outer) (call (.ref f) vs) Q E s
theorem raise_mix {w mean mg mb} (D : Addr) (ta tb : Tok) (nn : Nat) :
    CtrEB w mean mg mb 155 [.ref D] 12 (fun h => h.IsList D [.str (PySem.Str.ofString "/a") ta, .str (PySem.Str.ofString "b") tb].toArray) := by
  unfold CtrEB PR
  k_fill
  intro dp un gd cn cs aF ccd cl outer A₀ base h₀ L m news s Q E h1 h2 h3 h4 hL0 h5 hXB hTB hsz h6 h7 h8 hret
  refine wpAny_call ?_
  k_dflt (refine' enter_cells0 ?k1 ?k2 ?k3 ?k4 ?k5 ?kA ?kF ?kK ?k6 ?k7 ?k8 ?k9 ?kB ?kD ?_ ?c2 ?c3 ?c4; (case kA => exact rfl); (case kF => exact rfl); (case kK => assumption); (case k1 => k_asm); (case k2 => k_asm); (case k3 => k_asm); (case k4 => k_asm); (case k5 => k_asm); (case k6 => k_is); (case k7 => k_is); (case k8 => ktr_room); (case k9 => exact BindsTo.of_eq rfl); (case kB => exact rfl); (case kD => decide +kernel); (case c2 => exact rfl); (case c3 => exact rfl); (case c4 => exact rfl); k_whole; intro g' L' h' tk' cells' FG' F' N' Y' B' X' T' hG'; k_cells Y'; (try simp only [List.cons_append, List.nil_append, List.append_nil] at N'); (try dsimp only); (try k_lift B'); (try k_fold))
  have hi : StrsAre [.str (PySem.Str.ofString "/a") ta, .str (PySem.Str.ofString "b") tb] [PySem.Str.ofString "/a", PySem.Str.ofString "b"] := .cons _ _ (.cons _ _ .nil)
  have hl : ∀ x ∈ [PySem.Str.ofString "/a", PySem.Str.ofString "b"], x.length ≤ 2000 := by decide
  generalize hvs : [Value.str (PySem.Str.ofString "/a") ta, Value.str (PySem.Str.ofString "b") tb] = vs at *
  generalize hxs : [PySem.Str.ofString "/a", PySem.Str.ofString "b"] = xs at *
  have hL : g'.IsList D vs.toArray := by obtain ⟨o, e, r⟩ := hL0; exact ⟨o, FG'.keep _ _ e, r⟩
  have hLk : ∀ (h : Heap), (∀ (c : Addr) (o : Obj), g'.get? c = some o → h.get? c = some o) → h.IsList D vs.toArray := fun h k => by obtain ⟨o, e, r⟩ := hL; exact ⟨o, k _ _ e, r⟩
  k_steps
  refine map_K F' N' (hLk _ F'.keep) fun I T M h2' F2 N2 l1 l2 l3 => ?_
  k_steps
  refine call_tuple_map (f := .ref 94) rfl hi (by rw [← hxs]; decide) (fun h F _ => hLk h F.keep) (fun x t h tk led Q' hx F N hq => ?_) F2 N2 (Nat.ne_of_gt (Nat.lt_trans l2 l3)) (Nat.ne_of_gt l2) (fun p hp => Nat.ne_of_lt (l1 p hp)) fun a h3' tk3 acc F3 N3 l4 hacc => ?_
  · refine' ctr_use (fspath x t) ?k1 ?k2 ?k3 ?k4 ?k5 ?k6 ?k7 ?k8 (fun _ h' tk' F N => hq t h' tk' F N)
    case k1 => k_asm
    case k2 => exact F
    case k3 => k_asm
    case k4 => exact N
    case k5 => k_asm
    case k6 => exact rfl
    case k7 => cb_room
    case k8 => cb_units
  obtain ⟨t0, t1', rfl⟩ : ∃ t0 t1', acc = [.str (PySem.Str.ofString "/a") t0, .str (PySem.Str.ofString "b") t1'] := by
    rw [← hxs] at hacc
    cases hacc with | cons _ t0 hr => cases hr with | cons _ t1 hr => cases hr; exact ⟨_, _, rfl⟩
  have hacc2 := hacc
  rw [← hxs] at hl hacc2
  have hz9 : [Value.str (PySem.Str.ofString "b") t1'].length ≤ 100 := by simp
  k_steps
  rename_i h6 oS F6 N6 dS h7 oC F7 N7 dC
  simp only [List.cons_append, List.nil_append] at N7
  refine ⟨a, [.str (PySem.Str.ofString "/a") t0, .str (PySem.Str.ofString "b") t1'].toArray, _, rfl, rfl, F7, N7, ⟨_, .head _, rfl, _, rfl⟩, by simp [sizeLine_eq], fun s₂ hs => ?_⟩
  obtain ⟨g, rfl⟩ := hs
  refine comp_inv (fun i ys news => ∃ objs, news = (a, tupL [.str (PySem.Str.ofString "/a") t0, .str (PySem.Str.ofString "b") t1']) :: (_, oC) :: (_, oS) :: objs ∧ Lists ys objs ([PySem.Str.ofString "/a", PySem.Str.ofString "b"].take i |>.map (fun x => Txt.split x (PySem.Str.ofString "/")))) ⟨[], rfl, .nil⟩ ?_ ?_
  · rintro i v ys news I1 oI C1 oC1 D1 m₂ h tk E' hi' hv ⟨objs, rfl, hls⟩ hNs hx F N off ne
    obtain ⟨x, tx, rfl, hxi⟩ := strs_at hacc2 (by simpa using hv)
    have hxl := hl x (List.mem_of_getElem? hxi)
    have hlt := fun p hp => Heap.lt_size (N p hp).1
    k_steps
    rename_i l h9 k9 eP hS hLn hIs F9 N9
    refine LCg.CompEnd.intro F9 N9 ((a, tupL [.str (PySem.Str.ofString "/a") t0, .str (PySem.Str.ofString "b") t1']) :: (_, oC) :: (_, oS) :: (h.objs.size, listOf (strValues l).toArray _) :: objs) mem_rot (LCg.Off3.of fun p hp => ?_) ⟨_, .head _, rfl, _, rfl⟩ ⟨_, rfl, ?_⟩
    · have hold := off.mem
      rcases List.mem_cons.mp hp with rfl | hp
      · exact hold _ (.head _)
      rcases List.mem_cons.mp hp with rfl | hp
      · exact hold _ (.tail _ (.head _))
      rcases List.mem_cons.mp hp with rfl | hp
      · exact hold _ (.tail _ (.tail _ (.head _)))
      rcases List.mem_cons.mp hp with rfl | hp
      · exact ⟨Nat.ne_of_gt (hlt _ (.head _)), Nat.ne_of_gt (hlt _ (.tail _ (.head _))), Nat.ne_of_gt (hlt _ (.tail _ (.tail _ (.head _))))⟩
      exact hold _ (.tail _ (.tail _ (.tail _ hp)))
    · rw [List.take_add_one, hxi, List.map_append]
      refine hls.snoc ?_
      show StrsAre (strValues l) (Txt.split x (PySem.Str.ofString "/"))
      rw [← eP]; exact hS
  · rintro ys news ⟨objs, rfl, hls⟩
    intro D1 h tk F N off
    have N : News g' L' h ((D1, listOf ys.toArray ys.length) :: (a, tupL [.str (PySem.Str.ofString "/a") t0, .str (PySem.Str.ofString "b") t1']) :: (_, oC) :: (_, oS) :: objs) := N
    dsimp only
    k_steps
    refine SetComp_T (so := soM w) (bv := fun i => .bool (i == 0)) (F₀ := by k_asm) (fun _ _ _ h => newSet_led h) rfl (by with_unfolding_all rfl) (by decide) (by rfl) (by decide) (by rfl) ?_
    k_steps
    refine ⟨a, [.str (PySem.Str.ofString "/a") t0, .str (PySem.Str.ofString "b") t1'].toArray, _, rfl, rfl, F, N, ⟨_, .tail _ (.head _), rfl, _, rfl⟩, adds_mix, fun s₂ hs => ?_⟩
    obtain ⟨g, rfl⟩ := hs
    refine set_inv ?_ ?_
    · rintro i v I1 oI C1 oC1 D2 m₂ h tk E' hi' hv hNs hx F N off ne
      obtain ⟨x, tx, rfl, hxi⟩ := strs_at hacc2 (by simpa using hv)
      have hxb : Txt.startswith x (PySem.Str.ofString "/") = (i == 0) := by
        match i, hi' with
        | 0, _ => cases hxi; decide
        | 1, _ => cases hxi; decide
      have hxl := hl x (List.mem_of_getElem? hxi)
      k_steps
      rw [hxb]
      exact LCg.CompEnd.intro F N _ (fun p hp => hp) off ⟨_, .tail _ (.head _), rfl, _, rfl⟩ ⟨rfl, rfl⟩
    intro D2 h tk F N off2
    have N : News g' L' h ((D2, setO #[(hb false, .bool false), (hb true, .bool true)] 2 (t2 (!byText w))) :: (D1, listOf ys.toArray ys.length) :: (a, tupL [.str (PySem.Str.ofString "/a") t0, .str (PySem.Str.ofString "b") t1']) :: (_, oC) :: (_, oS) :: objs) := N
    dsimp only
    k_steps
    refine assign_set2 rfl rfl F N (.head _) fun g8 h8 tk8 e8 F8 N8 hx8 => ?_
    have hLg : L < g'.objs.size := by obtain ⟨o, es, ep, q, _⟩ := FG'.ns; exact Heap.lt_size q
    refine' mix_here ?k1 ?k2 ?k3 ?k4 ?k5 ?n ?k7 ?k8
    case k1 => exact B'
    case k2 => exact rfl
    case k3 => exact rfl
    case k4 => exact F8
    case k5 => exact Nat.le_trans hsz (Nat.le_trans FG'.above (Nat.le_trans (Nat.le_of_lt hLg) F8.above))
    case k7 => exact hx8
    case n =>
      intro x v np A' E' Q' s' hx F q
      rcases hx with h | h | h <;> cases h
      all_goals exact nameX_B (K := hd.heap_1 w.params) F hXB (topRead_of hTB) (by k_is) (by decide +kernel) (by decide) q
    intro h9 tk9 e9 c9 B9 x9 u9 st9 sg9
    refine fl_leaves rfl x9 st9 sg9 ((Heap.UpToSlots.of_keeps F8.keep).trans u9) fun h' R up => hret _ _ _ _ FG' hG' R up
end Mine
end

open PySem.W in
theorem Mine.offRefused : True := by
  k_with_none
  w_top off
  exact trivial

section
open PySem PySem.W PySem.Spec PySem.Calls PyProof.Rows
namespace Mine
theorem rulrefused1 : True := by
  k_with "call ref" => (k_here; k_dflt (show Hold _))
  trivial
theorem ce_use {w : World} {mean : ExcName → Option Value} {mg mb : PySem.Str → Option Value} {f : Addr} {vs : List Value} {c : Nat} {Pre : Heap → Prop} (C : CtrE w mean mg mb f vs c Pre) {dp un : Nat} {gd : Option (List Code)} {cn : PySem.Str} {cs : Scope} {a : Addr} {ccd : Value} {cl : List (PySem.Str × Addr)} {outer : List Env} {A₀ : Around} {base h₀ : Heap} {L : Addr} {m : PySem.Str → Option Value} {news : List (Addr × Obj)} {s : Shared} {Q E : Value → Shared → Prop}
    (h1 : Below A₀ base outer h₀) (h2 : Fr h₀ L s.heap m) (h3 : (hd.heap_1 w.params).In h₀) (h4 : News h₀ L s.heap news) (hp : Pre h₀) (h5 : Top topProg LO mean mg mb h₀) (h6 : cs.kind = .function) (h7 : dp + c < recursionLimit) (h8 : un + 8 * c < cLine)
    (h : ∀ (G : Heap) (e : Addr) (h' : Heap) (tk' : Nat), Fr h₀ L G m → (∀ q ∈ news, G.get? q.1 = some q.2) → RaisedSN base G (envX cn cs L a ccd cl :: outer) e (.type "ValueError") [] h' → G.UpToSlots h' → E (.ref e) { s with heap := h', toks := tk' }) :
    wpAny (model PR w) (ktrTop dp un gd cn cs L a ccd cl outer) (call (.ref f) vs) Q E s := C dp un gd cn cs a ccd cl outer A₀ base h₀ L m news s Q E h1 h2 h3 h4 hp h5 h6 h7 h8 h
/-- a call from the law itself that reads a list of its and may catch -/
abbrev CtrI0 (w : World) (mean : ExcName → Option Value) (mg mb : PySem.Str → Option Value) (f : Addr) (vs : List Value) (c : Nat) (own : List (Addr × Obj)) (R : Tok → Value) : Prop :=
  ∀ (dp un : Nat) (gd : Option (List Code)) (cn : PySem.Str) (cs : Scope) (a : Addr) (ccd : Value) (cl : List (PySem.Str × Addr)) (A₀ : Around) (base h₀ : Heap) (L : Addr) (m : PySem.Str → Option Value) (news : List (Addr × Obj)) (s : Shared) (Q E : Value → Shared → Prop),
    Below A₀ base [] h₀ → Fr h₀ L s.heap m → (hd.heap_1 w.params).In h₀ → News h₀ L s.heap (own ++ news) → Top topProg LO mean mg mb h₀ → (hd.heap_1 w.params).In base → Top topProg LO mean mg mb base → cs.kind = .function →
    dp + c < recursionLimit → un + 8 * c < cLine → (∀ (t : Tok) (h' : Heap) (tk' : Nat), Fr h₀ L h' m → News h₀ L h' (own ++ news) → Q (R t) { s with heap := h', toks := tk' }) →
      wpAny (model PR w) (ktrTop dp un gd cn cs L a ccd cl []) (call (.ref f) vs) Q E s
theorem refused_nil {w mean mg mb} (D : Addr) (nn : Nat) :
    CtrI0 w mean mg mb 235 [.ref D] 40 [(D, listOf ([] : List Value).toArray nn)] (fun _ => .bool true) := by
  unfold CtrI0 PR
  k_fill
  intro dp un gd cn cs aF ccd cl A₀ base h₀ L m news s Q E h1 h2 h3 h4 h5 hXB hTB h6 h7 h8 hret
  refine wpAny_call ?_
  k_dflt (refine' enter_try (rest := [(D, listOf ([] : List Value).toArray nn)] ++ news) h1 h2 h3 h4 h5 ?kA ?kF ?kK ?k6 ?k7 ?k8 ?k9 ?kB ?_ ?c2 ?c3 ?c4 ?c5; (case kA => exact rfl); (case kF => exact rfl); (case kK => assumption); (case k6 => k_is); (case k7 => k_is); (case k8 => ktr_room); (case k9 => exact BindsTo.of_eq rfl); (case c5 => decide); (case kB => exact locs rfl); (case c2 => exact rfl); (case c3 => exact rfl); (case c4 => exact rfl); k_whole; intro g' L' h' FG' F' N' B' X' T' hG' D'; (try dsimp only); (try k_lift B'); (try k_fold))
  have hL : g'.IsList D ([] : List Value).toArray := ⟨_, hG' _ (.head _), rfl, nn, rfl⟩
  k_steps
  refine ce_use (raise_nil D) (by k_asm) (by k_asm) (by k_asm) (news := []) (by k_asm) hL (by k_asm) (by first | exact rfl | assumption) (by cb_room) (by cb_units) fun G e h9 tk9 FG hn R up => ?_
  refine caught_SN0 (T' := "ValueError") R FG B' up hXB hTB D' KtsTurn.refl (by k_is) PyProof.Rows.Boot.«ValueError» (by decide) PySem.F.isExc_ValueError PySem.F.notTuple_ValueError (by first | rfl | (rw [isSubtype_type]; kernel_rfl)) fun h' g1 T1 F1 N1 B1 X1 P1 D1 => ?_
  k_steps
  refine ⟨g1, _, _, T1, F1, fun F N => ?_⟩
  dsimp only
  exact hret (0 : Nat) _ _ F N
end Mine
end

open PySem.W in
theorem Mine.offRefMix : True := by
  k_with_none
  w_top off
  exact trivial

section
open PySem PySem.W PySem.Spec PySem.Calls PyProof.Rows
namespace Mine
theorem rulrefmix1 : True := by
  k_with "call ref" => (k_here; k_dflt (show Hold _))
  trivial
theorem cb_use {w : World} {mean : ExcName → Option Value} {mg mb : PySem.Str → Option Value} {f : Addr} {vs : List Value} {c : Nat} {Pre : Heap → Prop} (C : CtrEB w mean mg mb f vs c Pre) {dp un : Nat} {gd : Option (List Code)} {cn : PySem.Str} {cs : Scope} {a : Addr} {ccd : Value} {cl : List (PySem.Str × Addr)} {outer : List Env} {A₀ : Around} {base h₀ : Heap} {L : Addr} {m : PySem.Str → Option Value} {news : List (Addr × Obj)} {s : Shared} {Q E : Value → Shared → Prop}
    (h1 : Below A₀ base outer h₀) (h2 : Fr h₀ L s.heap m) (h3 : (hd.heap_1 w.params).In h₀) (h4 : News h₀ L s.heap news) (hp : Pre h₀) (h5 : Top topProg LO mean mg mb h₀) (hx : (hd.heap_1 w.params).In base) (ht : Top topProg LO mean mg mb base) (hz : base.objs.size ≤ h₀.objs.size) (h6 : cs.kind = .function) (h7 : dp + c < recursionLimit) (h8 : un + 8 * c < cLine)
    (h : ∀ (G : Heap) (e : Addr) (h' : Heap) (tk' : Nat), Fr h₀ L G m → (∀ q ∈ news, G.get? q.1 = some q.2) → RaisedSN base G (envX cn cs L a ccd cl :: outer) e (.type "ValueError") [] h' → G.UpToSlots h' → E (.ref e) { s with heap := h', toks := tk' }) :
    wpAny (model PR w) (ktrTop dp un gd cn cs L a ccd cl outer) (call (.ref f) vs) Q E s := C dp un gd cn cs a ccd cl outer A₀ base h₀ L m news s Q E h1 h2 h3 h4 hp h5 hx ht hz h6 h7 h8 h
/-- as CtrI0, with the base no larger than the ground -/
abbrev CtrI1 (w : World) (mean : ExcName → Option Value) (mg mb : PySem.Str → Option Value) (f : Addr) (vs : List Value) (c : Nat) (own : List (Addr × Obj)) (R : Tok → Value) : Prop :=
  ∀ (dp un : Nat) (gd : Option (List Code)) (cn : PySem.Str) (cs : Scope) (a : Addr) (ccd : Value) (cl : List (PySem.Str × Addr)) (A₀ : Around) (base h₀ : Heap) (L : Addr) (m : PySem.Str → Option Value) (news : List (Addr × Obj)) (s : Shared) (Q E : Value → Shared → Prop),
    Below A₀ base [] h₀ → Fr h₀ L s.heap m → (hd.heap_1 w.params).In h₀ → News h₀ L s.heap (own ++ news) → Top topProg LO mean mg mb h₀ → (hd.heap_1 w.params).In base → Top topProg LO mean mg mb base → base.objs.size ≤ h₀.objs.size → cs.kind = .function →
    dp + c < recursionLimit → un + 8 * c < cLine → (∀ (t : Tok) (h' : Heap) (tk' : Nat), Fr h₀ L h' m → News h₀ L h' (own ++ news) → Q (R t) { s with heap := h', toks := tk' }) →
      wpAny (model PR w) (ktrTop dp un gd cn cs L a ccd cl []) (call (.ref f) vs) Q E s
theorem refused_mix {w mean mg mb} (D : Addr) (ta tb : Tok) (nn : Nat) :
    CtrI1 w mean mg mb 235 [.ref D] 40 [(D, listOf ([.str (PySem.Str.ofString "/a") ta, .str (PySem.Str.ofString "b") tb] : List Value).toArray nn)] (fun _ => .bool true) := by
  unfold CtrI1 PR
  k_fill
  intro dp un gd cn cs aF ccd cl A₀ base h₀ L m news s Q E h1 h2 h3 h4 h5 hXB hTB hsz h6 h7 h8 hret
  refine wpAny_call ?_
  k_dflt (refine' enter_try (rest := [(D, listOf ([.str (PySem.Str.ofString "/a") ta, .str (PySem.Str.ofString "b") tb] : List Value).toArray nn)] ++ news) h1 h2 h3 h4 h5 ?kA ?kF ?kK ?k6 ?k7 ?k8 ?k9 ?kB ?_ ?c2 ?c3 ?c4 ?c5; (case kA => exact rfl); (case kF => exact rfl); (case kK => assumption); (case k6 => k_is); (case k7 => k_is); (case k8 => ktr_room); (case k9 => exact BindsTo.of_eq rfl); (case c5 => decide); (case kB => exact locs rfl); (case c2 => exact rfl); (case c3 => exact rfl); (case c4 => exact rfl); k_whole; intro g' L' h' FG' F' N' B' X' T' hG' D'; (try dsimp only); (try k_lift B'); (try k_fold))
  have hL : g'.IsList D ([.str (PySem.Str.ofString "/a") ta, .str (PySem.Str.ofString "b") tb] : List Value).toArray := ⟨_, hG' _ (.head _), rfl, nn, rfl⟩
  have hLg : L < g'.objs.size := by obtain ⟨o, es, ep, q, _⟩ := FG'.ns; exact Heap.lt_size q
  have hzz : base.objs.size ≤ g'.objs.size := Nat.le_trans hsz (Nat.le_trans FG'.above (Nat.le_of_lt hLg))
  k_steps
  refine cb_use (raise_mix D ta tb nn) (by k_asm) (by k_asm) (by k_asm) (news := []) (by k_asm) hL (by k_asm) hXB hTB hzz (by first | exact rfl | assumption) (by cb_room) (by cb_units) fun G e h9 tk9 FG hn R up => ?_
  refine caught_SN0 (T' := "ValueError") R FG B' up hXB hTB D' KtsTurn.refl (by k_is) PyProof.Rows.Boot.«ValueError» (by decide) PySem.F.isExc_ValueError PySem.F.notTuple_ValueError (by first | rfl | (rw [isSubtype_type]; kernel_rfl)) fun h' g1 T1 F1 N1 B1 X1 P1 D1 => ?_
  k_steps
  refine ⟨g1, _, _, T1, F1, fun F N => ?_⟩
  dsimp only
  exact hret (0 : Nat) _ _ F N
end Mine
end

open PySem.W in
theorem Mine.offGcp : True := by
  k_with_none
  w_top off
  exact trivial

section
open PySem PySem.W PySem.Spec PySem.Calls PyProof.Rows
namespace Mine

/-- the greatest list that all of these begin with -/
def Gcp {α : Type} (p : List α) (ls : List (List α)) : Prop := (∀ l ∈ ls, p <+: l) ∧ ∀ q, (∀ l ∈ ls, q <+: l) → q <+: p
theorem Gcp.unique {α : Type} {p q : List α} {ls : List (List α)} (h1 : Gcp p ls) (h2 : Gcp q ls) : p = q :=
  have a := h1.2 q h2.1
  have b := h2.2 p h1.1
  b.eq_of_length (Nat.le_antisymm b.length_le a.length_le)
theorem comm_l : ∀ a b : List PySem.Str, comm a b <+: a
  | x :: r, y :: t => by
    unfold comm
    split
    · exact List.cons_prefix_cons.mpr ⟨rfl, comm_l r t⟩
    · exact List.nil_prefix
  | [], b => by unfold comm; exact List.nil_prefix
  | x :: r, [] => by unfold comm; exact List.nil_prefix
theorem comm_max : ∀ {q a b : List PySem.Str}, q <+: a → q <+: b → q <+: comm a b
  | [], _, _, _, _ => List.nil_prefix
  | z :: q, [], _, h1, _ => by have := h1.length_le; simp at this
  | z :: q, _ :: _, [], _, h2 => by have := h2.length_le; simp at this
  | z :: q, x :: r, y :: t, h1, h2 => by
    obtain ⟨e1, p1⟩ := List.cons_prefix_cons.mp h1
    obtain ⟨e2, p2⟩ := List.cons_prefix_cons.mp h2
    subst e1; subst e2
    unfold comm
    rw [if_pos rfl]
    exact List.cons_prefix_cons.mpr ⟨rfl, comm_max p1 p2⟩
theorem lex_mid : ∀ {y a b : List PySem.Str}, lexLt y a = false → lexLt b y = false → comm a b <+: y
  | _, [], _, _, _ => by unfold comm; exact List.nil_prefix
  | _, _ :: _, [], _, _ => by unfold comm; exact List.nil_prefix
  | [], _ :: _, _ :: _, h, _ => by cases h
  | z :: u, x :: r, x' :: t, h1, h2 => by
    unfold comm
    split
    · rename_i e
      subst e
      rw [lex_cons] at h1 h2
      by_cases e : z = x
      · subst e
        rw [if_pos (beq_self_eq_true _)] at h1 h2
        exact List.cons_prefix_cons.mpr ⟨rfl, lex_mid h1 h2⟩
      · rw [if_neg (by simpa using e)] at h1
        rw [if_neg (by simpa using Ne.symm e)] at h2
        have i1 := List.not_lt.mp (of_decide_eq_false h1)
        have i2 := List.not_lt.mp (of_decide_eq_false h2)
        exact absurd (cps_inj (List.le_antisymm i2 i1)) e
    · exact List.nil_prefix
theorem getD_mem {α : Type} {l : List α} {i : Nat} {d : α} (h : i < l.length) : l.getD i d ∈ l := by
  rw [List.getD_eq_getElem?_getD, List.getElem?_eq_getElem h]
  exact List.getElem_mem h
theorem comm_gcp {yss : List (List PySem.Str)} (h : 0 < yss.length) : Gcp (comm (loL yss) (hiL yss)) yss := by
  refine ⟨fun l hl => ?_, fun q hq => ?_⟩
  · obtain ⟨i, hi, rfl⟩ := List.getElem_of_mem hl
    have e : yss.getD i [] = yss[i] := by rw [List.getD_eq_getElem?_getD, List.getElem?_eq_getElem hi]; rfl
    have h1 := best_min yss (yss.length - 1) i (by omega)
    have h2 := best_max yss (yss.length - 1) i (by omega)
    rw [e] at h1 h2
    exact lex_mid h1 h2
  · refine comm_max (hq _ (getD_mem ?_)) (hq _ (getD_mem ?_))
    · exact Nat.lt_of_le_of_lt (argBest_le _ _) (by omega)
    · exact Nat.lt_of_le_of_lt (argBest_le _ _) (by omega)
/-- the figures that two lists begin with -/
def cpre : List Nat → List Nat → List Nat
  | x :: r, y :: t => if x = y then x :: cpre r t else []
  | _, _ => []
theorem cpre_nilL (b : List Nat) : cpre [] b = [] := by unfold cpre; rfl
theorem cpre_nilR (a : List Nat) : cpre a [] = [] := by cases a <;> rfl
theorem cpre_pre : ∀ a b : List Nat, cpre a b <+: a ∧ cpre a b <+: b
  | x :: r, y :: t => by
    unfold cpre
    split
    · rename_i e
      exact ⟨List.cons_prefix_cons.mpr ⟨rfl, (cpre_pre r t).1⟩, List.cons_prefix_cons.mpr ⟨e, (cpre_pre r t).2⟩⟩
    · exact ⟨List.nil_prefix, List.nil_prefix⟩
  | [], b => by rw [cpre_nilL]; exact ⟨List.nil_prefix, List.nil_prefix⟩
  | x :: r, [] => by rw [cpre_nilR]; exact ⟨List.nil_prefix, List.nil_prefix⟩
theorem cpre_max : ∀ {q a b : List Nat}, q <+: a → q <+: b → q <+: cpre a b
  | [], _, _, _, _ => List.nil_prefix
  | z :: q, [], _, h1, _ => by have := h1.length_le; simp at this
  | z :: q, _ :: _, [], _, h2 => by have := h2.length_le; simp at this
  | z :: q, x :: r, y :: t, h1, h2 => by
    obtain ⟨e1, p1⟩ := List.cons_prefix_cons.mp h1
    obtain ⟨e2, p2⟩ := List.cons_prefix_cons.mp h2
    subst e1; subst e2
    unfold cpre
    rw [if_pos rfl]
    exact List.cons_prefix_cons.mpr ⟨rfl, cpre_max p1 p2⟩
theorem cpre_gcp (a b : List Nat) : Gcp (cpre a b) [a, b] := by
  refine ⟨fun l hl => ?_, fun q hq => cpre_max (hq _ (.head _)) (hq _ (.tail _ (.head _)))⟩
  rcases List.mem_cons.mp hl with rfl | hl
  · exact (cpre_pre _ _).1
  · rw [List.mem_singleton.mp hl]; exact (cpre_pre _ _).2
theorem fold_gcp : ∀ (ls : List (List Nat)) (a : List Nat), Gcp (ls.foldl cpre a) (a :: ls)
  | [], a => ⟨fun l hl => by rw [List.mem_singleton.mp hl]; exact List.prefix_refl _, fun q hq => hq _ (.head _)⟩
  | b :: r, a => by
    have ih := fold_gcp r (cpre a b)
    have h1 := ih.1 _ (.head _)
    refine ⟨fun l hl => ?_, fun q hq => ih.2 q fun l hl => ?_⟩
    · rcases List.mem_cons.mp hl with rfl | hl
      · exact h1.trans (cpre_pre _ _).1
      · rcases List.mem_cons.mp hl with rfl | hl
        · exact h1.trans (cpre_pre _ _).2
        · exact ih.1 l (.tail _ hl)
    · rcases List.mem_cons.mp hl with rfl | hl
      · exact cpre_max (hq _ (.head _)) (hq _ (.tail _ (.head _)))
      · exact hq l (.tail _ (.tail _ hl))
theorem fold0_gcp {ls : List (List Nat)} (h : 0 < ls.length) : Gcp (ls.foldl cpre (ls.getD 0 [])) ls := by
  have g := fold_gcp ls (ls.getD 0 [])
  refine ⟨fun l hl => g.1 l (.tail _ hl), fun q hq => g.2 q fun l hl => ?_⟩
  rcases List.mem_cons.mp hl with rfl | hl
  · exact hq _ (getD_mem h)
  · exact hq l hl
theorem map_pre {f : Nat → PySem.Str} {B : Nat} (hf : ∀ a b, a < B → b < B → f a = f b → a = b) : ∀ {a b : List Nat}, (∀ d ∈ a, d < B) → (∀ d ∈ b, d < B) → a.map f <+: b.map f → a <+: b
  | [], _, _, _, _ => List.nil_prefix
  | x :: r, [], _, _, h => by have := h.length_le; simp at this
  | x :: r, y :: t, h1, h2, h => by
    obtain ⟨e, h⟩ := List.cons_prefix_cons.mp h
    exact List.cons_prefix_cons.mpr ⟨hf _ _ (h1 _ (.head _)) (h2 _ (.head _)) e, map_pre hf (fun d hd => h1 d (.tail _ hd)) (fun d hd => h2 d (.tail _ hd)) h⟩
theorem Gcp.map {f : Nat → PySem.Str} {B : Nat} (hf : ∀ a b, a < B → b < B → f a = f b → a = b) {p : List Nat} {ls : List (List Nat)} (h : Gcp p ls) (h0 : 0 < ls.length) (hd : ∀ l ∈ ls, ∀ d ∈ l, d < B) : Gcp (p.map f) (ls.map (List.map f)) := by
  refine ⟨fun l hl => ?_, fun q hq => ?_⟩
  · obtain ⟨l', hl', rfl⟩ := List.mem_map.mp hl
    exact (h.1 l' hl').map f
  · have hm := getD_mem (d := ([] : List Nat)) h0
    have hq0 := hq _ (List.mem_map_of_mem hm)
    have e : q = ((ls.getD 0 []).take q.length).map f := by rw [List.map_take]; exact List.prefix_iff_eq_take.mp hq0
    rw [e]
    refine (h.2 _ fun l hl => ?_).map f
    refine map_pre hf (fun d hd' => hd _ hm d (List.mem_of_mem_take hd')) (hd l hl) ?_
    rw [← e]
    exact hq _ (List.mem_map_of_mem hl)
end Mine
end

open PySem.W in
theorem Mine.offMeet : True := by
  k_with_none
  w_top off
  exact trivial

section
open PySem PySem.W PySem.Spec PySem.Calls PyProof.Rows
namespace Mine

/-- the figures that two lists end with -/
def csuf (a b : List Nat) : List Nat := (cpre a.reverse b.reverse).reverse
theorem cpre_self : ∀ a : List Nat, cpre a a = a
  | [] => rfl
  | x :: r => by unfold cpre; rw [if_pos rfl, cpre_self r]
theorem cpre_comm : ∀ a b : List Nat, cpre a b = cpre b a
  | [], b => by rw [cpre_nilL, cpre_nilR]
  | x :: r, [] => rfl
  | x :: r, y :: t => by
    unfold cpre
    by_cases e : x = y
    · rw [if_pos e, if_pos e.symm, e, cpre_comm r t]
    · rw [if_neg e, if_neg (Ne.symm e)]
theorem cpre_snoc : ∀ (a m : List Nat) (d : Nat), m.length ≤ a.length + 1 → m ≠ a ++ [d] → cpre (a ++ [d]) m = cpre a m
  | a, [], d, _, _ => by rw [cpre_nilR, cpre_nilR]
  | [], [y], d, _, h => by
    show (if d = y then d :: cpre [] [] else []) = []
    rw [if_neg fun e => h (by rw [e]; rfl)]
  | [], y :: z :: t, d, h, _ => by simp at h
  | x :: r, y :: t, d, h, hn => by
    show (if x = y then x :: cpre (r ++ [d]) t else []) = if x = y then x :: cpre r t else []
    by_cases e : x = y
    · rw [if_pos e, if_pos e, cpre_snoc r t d (by simpa using h) fun q => hn (by rw [e, q]; rfl)]
    · rw [if_neg e, if_neg e]
theorem csuf_self (a : List Nat) : csuf a a = a := by unfold csuf; rw [cpre_self, List.reverse_reverse]
theorem csuf_comm (a b : List Nat) : csuf a b = csuf b a := by unfold csuf; rw [cpre_comm]
theorem csuf_tail (d : Nat) (r b : List Nat) (h : b.length ≤ r.length + 1) (hn : b ≠ d :: r) : csuf r b = csuf (d :: r) b := by
  unfold csuf
  rw [List.reverse_cons, cpre_snoc r.reverse b.reverse d (by simpa using h) fun q => hn ?_]
  have := congrArg List.reverse q
  simpa using this
section
variable {k : Nat}
theorem num_cons' (d : Nat) (r : List Nat) : numOf' k (d :: r) = d + 2 ^ k * numOf' k r := rfl
theorem num_len_le {a b : List Nat} (ha : ∀ d ∈ a, d < 2 ^ k) (hk : 0 < k) (h : numOf' k b ≤ numOf' k a) : b.length ≤ a.length := by
  refine Nat.le_of_not_lt fun hl => ?_
  have h1 := numOf_lt ha
  have h2 := numOf_eq k b
  have h3 : (2 ^ k) ^ (a.length + 1) ≤ (2 ^ k) ^ b.length := Nat.pow_le_pow_right (Nat.pow_pos (by decide)) hl
  rw [Nat.pow_succ, Nat.mul_comm] at h3
  have h4 : 2 * (2 ^ k) ^ a.length ≤ 2 ^ k * (2 ^ k) ^ a.length := Nat.mul_le_mul_right _ (Nat.one_lt_two_pow (by (first | lia | omega)))
  (first | lia | omega)
theorem num_inj (hk : 0 < k) : ∀ {a b : List Nat}, (∀ d ∈ a, d < 2 ^ k) → (∀ d ∈ b, d < 2 ^ k) → numOf' k a = numOf' k b → a = b
  | [], [], _, _, _ => rfl
  | d :: r, [], ha, hb, h => by have := num_len_le hb hk (Nat.le_of_eq h); simp at this
  | [], d :: r, ha, hb, h => by have := num_len_le ha hk (Nat.le_of_eq h.symm); simp at this
  | d :: r, e :: t, ha, hb, h => by
    have h1 := num_mod (ha _ (.head _)) r
    have h2 := num_mod (hb _ (.head _)) t
    have h3 := num_div (ha _ (.head _)) r
    have h4 := num_div (hb _ (.head _)) t
    rw [h] at h1 h3
    rw [num_inj hk (fun x hx => ha x (.tail _ hx)) (fun x hx => hb x (.tail _ hx)) (h3.symm.trans h4), h1.symm.trans h2]
theorem num_tail_lt (hk : 0 < k) (d : Nat) (r : List Nat) : numOf' k r < numOf' k (d :: r) := by
  have h1 := numOf_pos k r
  have h2 : 2 * numOf' k r ≤ 2 ^ k * numOf' k r := Nat.mul_le_mul_right _ (Nat.one_lt_two_pow (by (first | lia | omega)))
  have h3 := num_cons' (k := k) d r
  (first | lia | omega)
theorem meet_num (hk : 0 < k) : ∀ (f : Nat) (a b : List Nat), (∀ d ∈ a, d < 2 ^ k) → (∀ d ∈ b, d < 2 ^ k) → numOf' k a + numOf' k b < f → meetN (2 ^ k) f (numOf' k a) (numOf' k b) = numOf' k (csuf a b)
  | 0, _, _, _, _, h => absurd h (Nat.not_lt_zero _)
  | f + 1, a, b, ha, hb, h => by
    unfold meetN
    by_cases e : numOf' k a = numOf' k b
    · rw [if_pos e]
      have e' := num_inj hk ha hb e
      subst e'
      rw [csuf_self]
    rw [if_neg e]
    by_cases hl : numOf' k b < numOf' k a
    · rw [if_pos hl]
      have hlen := num_len_le ha hk (Nat.le_of_lt hl)
      cases a with
      | nil =>
        cases b with
        | nil => exact absurd rfl e
        | cons x t => simp at hlen
      | cons d r =>
        have hr : ∀ x ∈ r, x < 2 ^ k := fun x hx => ha x (.tail _ hx)
        have ht := num_tail_lt hk d r
        rw [num_div (ha _ (.head _)) r, meet_num hk f r b hr hb (by (first | lia | omega)), csuf_tail d r b hlen fun q => e (by rw [q])]
    · rw [if_neg hl]
      have hlen := num_len_le hb hk (by (first | lia | omega) : numOf' k a ≤ numOf' k b)
      cases b with
      | nil =>
        cases a with
        | nil => exact absurd rfl e
        | cons x t => simp at hlen
      | cons d r =>
        have hr : ∀ x ∈ r, x < 2 ^ k := fun x hx => hb x (.tail _ hx)
        have ht := num_tail_lt hk d r
        rw [num_div (hb _ (.head _)) r, meet_num hk f a r ha hr (by (first | lia | omega)), csuf_comm a r, csuf_comm a (d :: r), csuf_tail d r a hlen fun q => e (by rw [q])]
theorem csuf_lt {a b : List Nat} (ha : ∀ d ∈ a, d < 2 ^ k) : ∀ d ∈ csuf a b, d < 2 ^ k := fun d hd => by
  unfold csuf at hd
  exact ha d (List.mem_reverse.mp ((cpre_pre a.reverse b.reverse).1.subset (List.mem_reverse.mp hd)))
theorem fold_num (hk : 0 < k) : ∀ (ds : List (List Nat)) (a : List Nat), (∀ d ∈ a, d < 2 ^ k) → (∀ l ∈ ds, ∀ d ∈ l, d < 2 ^ k) →
    (ds.map (numOf' k)).foldl (fun r o => meetN (2 ^ k) (r + o + 1) r o) (numOf' k a) = numOf' k (ds.foldl csuf a) ∧ ∀ d ∈ ds.foldl csuf a, d < 2 ^ k
  | [], a, ha, _ => ⟨rfl, ha⟩
  | b :: r, a, ha, hd => by
    rw [List.map_cons, List.foldl_cons, List.foldl_cons, meet_num hk _ a b ha (hd _ (.head _)) (Nat.lt_succ_self _)]
    exact fold_num hk r (csuf a b) (csuf_lt ha) fun l hl => hd l (.tail _ hl)
theorem least_num (hk : 0 < k) (ds : List (List Nat)) (h0 : 0 < ds.length) (hd : ∀ l ∈ ds, ∀ d ∈ l, d < 2 ^ k) :
    leastN (2 ^ k) (ds.map (numOf' k)) = numOf' k (ds.foldl csuf (ds.getD 0 [])) ∧ ∀ d ∈ ds.foldl csuf (ds.getD 0 []), d < 2 ^ k := by
  unfold leastN
  have e : (ds.map (numOf' k)).getD 0 0 = numOf' k (ds.getD 0 []) := by
    cases ds with
    | nil => simp at h0
    | cons a r => rfl
  rw [e]
  exact fold_num hk ds _ (hd _ (getD_mem h0)) hd
end
theorem fold_rev : ∀ (ds : List (List Nat)) (a : List Nat), (ds.foldl csuf a).reverse = (ds.map List.reverse).foldl cpre a.reverse
  | [], a => rfl
  | b :: r, a => by
    rw [List.foldl_cons, List.map_cons, List.foldl_cons, fold_rev r]
    unfold csuf
    rw [List.reverse_reverse]
theorem fold_suf_gcp {ds : List (List Nat)} (h : 0 < ds.length) : Gcp (ds.foldl csuf (ds.getD 0 [])).reverse (ds.map List.reverse) := by
  rw [fold_rev]
  have e : (ds.getD 0 []).reverse = (ds.map List.reverse).getD 0 [] := by
    cases ds with
    | nil => rfl
    | cons a r => rfl
  rw [e]
  exact fold0_gcp (by simpa using h)
theorem csuf_gcp (a b : List Nat) : Gcp (csuf a b).reverse [a.reverse, b.reverse] := by
  unfold csuf
  rw [List.reverse_reverse]
  exact cpre_gcp _ _
theorem fig_inj16 {k : Nat} (hk2 : k ≤ 4) (a b : Nat) (ha : a < 2 ^ k) (hb : b < 2 ^ k) (e : figStr a = figStr b) : a = b := by
  have : 2 ^ k ≤ 2 ^ 4 := Nat.pow_le_pow_right (by decide) hk2
  exact fig_inj (by (first | lia | omega)) (by (first | lia | omega)) e
/-- commonpath of paths that are written with figures -/
theorem cpath_of {k : Nat} (hk2 : k ≤ 4) {xs : List PySem.Str} {ls : List (List Nat)} {p : List Nat} (h0 : 0 < ls.length) (hx : xs.map partsC = ls.map fun l => l.reverse.map figStr) (hd : ∀ l ∈ ls, ∀ d ∈ l, d < 2 ^ k) (g : Gcp p.reverse (ls.map List.reverse)) : cpath true xs = pathOf p := by
  unfold cpath pathOf
  rw [if_pos rfl, hx]
  have h1 : 0 < (ls.map fun l => l.reverse.map figStr).length := by simpa using h0
  have g1 := comm_gcp h1
  have g2 := g.map (f := figStr) (fig_inj16 hk2) (by simpa using h0) fun l hl d hd' => by
    obtain ⟨l', hl', rfl⟩ := List.mem_map.mp hl
    exact hd l' hl' d (List.mem_reverse.mp hd')
  rw [List.map_map] at g2
  rw [g1.unique g2]
end Mine
end

open PySem.W in
theorem Mine.offParts : True := by
  k_with_none
  w_top off
  exact trivial

section
open PySem PySem.W PySem.Spec PySem.Calls PyProof.Rows
namespace Mine

theorem parts_filter (l : List PySem.Str) (h : Plain l) : (PySem.Str.ofString "" :: partsOf l).filter (fun c => c != PySem.Str.ofString "" && c != PySem.Str.ofString ".") = l := by
  have e : l.filter (fun c => c != PySem.Str.ofString "" && c != PySem.Str.ofString ".") = l := by
    refine List.filter_eq_self.mpr fun p hp => ?_
    have := h p hp
    simp only [Bool.and_eq_true, bne_iff_ne]
    exact ⟨this.1, this.2.1⟩
  have e0 : (PySem.Str.ofString "" != PySem.Str.ofString "" && PySem.Str.ofString "" != PySem.Str.ofString ".") = false := by decide
  rw [List.filter_cons, if_neg (by rw [e0]; exact Bool.false_ne_true)]
  unfold partsOf
  split
  · rename_i hl
    subst hl
    rw [List.filter_cons, if_neg (by rw [e0]; exact Bool.false_ne_true)]
    rfl
  · exact e
theorem parts_pathOf (ds : List Nat) : partsC (pathOf ds) = ds.reverse.map figStr := by
  unfold partsC
  rw [split_pathOf]
  exact parts_filter _ (figs_plain _)
/-- a path with two slashes, a dot and a slash for each of its slashes, and a slash at its end -/
noncomputable def longP (x : PySem.Str) : PySem.Str := Txt.replace x (PySem.Str.ofString "/") (PySem.Str.ofString "//./") ++ PySem.Str.ofString "/"
theorem join_two (a : PySem.Str) (r : List PySem.Str) : Str.join (PySem.Str.ofString "//./") (a :: r) = Str.join ⟨#[47]⟩ (a :: r.flatMap fun p => [PySem.Str.ofString "", PySem.Str.ofString ".", p]) := by
  induction r generalizing a with
  | nil => rfl
  | cons b r ih =>
    have e1 : Str.join (PySem.Str.ofString "//./") (a :: b :: r) = a ++ PySem.Str.ofString "//./" ++ Str.join (PySem.Str.ofString "//./") (b :: r) := rfl
    rw [e1, ih b]
    refine cps_inj ?_
    have e3 : (PySem.Str.ofString "//./").cps.toList = [47, 47, 46, 47] := by decide
    have e4 : (PySem.Str.ofString ".").cps.toList = [46] := by decide
    have e5 : (PySem.Str.ofString "").cps.toList = [] := by decide
    rw [join_cps, List.flatMap_cons]
    show ((a.cps ++ (PySem.Str.ofString "//./").cps ++ (Str.join ⟨#[47]⟩ _).cps)).toList = _
    rw [Array.toList_append, Array.toList_append, e3, join_cps]
    simp only [List.map_cons, List.cons_append, List.nil_append, e4, e5, jn]
    simp [List.append_assoc, jn]
theorem join_end : ∀ (a : PySem.Str) (r : List PySem.Str), Str.join ⟨#[47]⟩ (a :: r) ++ PySem.Str.ofString "/" = Str.join ⟨#[47]⟩ (a :: (r ++ [PySem.Str.ofString ""]))
  | a, [] => by
    refine cps_inj ?_
    have e5 : (PySem.Str.ofString "").cps.toList = [] := by decide
    show ((Str.join ⟨#[47]⟩ [a]).cps ++ #[47]).toList = _
    rw [Array.toList_append, join_cps, join_cps]
    simp [jn, e5]
  | a, b :: r => by
    have ih := congrArg (fun s : PySem.Str => s.cps.toList) (join_end b r)
    refine cps_inj ?_
    have e5 : (PySem.Str.ofString "").cps.toList = [] := by decide
    have ih' : (Str.join ⟨#[47]⟩ (b :: r)).cps.toList ++ [47] = (Str.join ⟨#[47]⟩ (b :: (r ++ [PySem.Str.ofString ""]))).cps.toList := by
      have e : (Str.join ⟨#[47]⟩ (b :: r) ++ PySem.Str.ofString "/").cps.toList = (Str.join ⟨#[47]⟩ (b :: r)).cps.toList ++ [47] := by
        show ((Str.join ⟨#[47]⟩ (b :: r)).cps ++ #[47]).toList = _
        rw [Array.toList_append]
      rw [← e]; exact ih
    show ((Str.join ⟨#[47]⟩ (a :: b :: r)).cps ++ #[47]).toList = _
    rw [Array.toList_append, join_cps]
    rw [join_cps, join_cps] at ih'
    rw [join_cps]
    simp only [List.map_cons, List.cons_append, jn] at ih' ⊢
    rw [List.append_assoc, List.cons_append]
    exact congrArg (fun t => a.cps.toList ++ 47 :: t) ih'
theorem longP_is {x : PySem.Str} {r : List PySem.Str} (h : Txt.split x (PySem.Str.ofString "/") = PySem.Str.ofString "" :: r) :
    longP x = Str.join ⟨#[47]⟩ (PySem.Str.ofString "" :: ((r.flatMap fun p => [PySem.Str.ofString "", PySem.Str.ofString ".", p]) ++ [PySem.Str.ofString ""])) := by
  unfold longP
  have e := StrLaws.replace_one x (PySem.Str.ofString "//./") 47
  rw [← slash_is] at e
  rw [e, h, join_two, join_end]
theorem split_long {x : PySem.Str} {r : List PySem.Str} (h : Txt.split x (PySem.Str.ofString "/") = PySem.Str.ofString "" :: r) (hf : ∀ p ∈ r, 47 ∉ p.cps.toList) :
    Txt.split (longP x) (PySem.Str.ofString "/") = PySem.Str.ofString "" :: ((r.flatMap fun p => [PySem.Str.ofString "", PySem.Str.ofString ".", p]) ++ [PySem.Str.ofString ""]) := by
  rw [longP_is h, slash_is]
  have h0 : 47 ∉ (PySem.Str.ofString "").cps.toList := by decide
  have h1 : 47 ∉ (PySem.Str.ofString ".").cps.toList := by decide
  refine split_joined (List.cons_ne_nil _ _) fun p hp => ?_
  rcases List.mem_cons.mp hp with rfl | hp
  · exact h0
  rcases List.mem_append.mp hp with hp | hp
  · obtain ⟨q, hq, hp⟩ := List.mem_flatMap.mp hp
    simp only [List.mem_cons, List.not_mem_nil, or_false] at hp
    rcases hp with rfl | rfl | rfl
    · exact h0
    · exact h1
    · exact hf _ hq
  · rw [List.mem_singleton.mp hp]; exact h0
theorem filter_long (f : PySem.Str → Bool) (h0 : f (PySem.Str.ofString "") = false) (h1 : f (PySem.Str.ofString ".") = false) : ∀ r : List PySem.Str, (r.flatMap fun p => [PySem.Str.ofString "", PySem.Str.ofString ".", p]).filter f = r.filter f
  | [] => rfl
  | p :: r => by
    rw [List.flatMap_cons, List.filter_append, filter_long f h0 h1 r]
    simp only [List.filter_cons, h0, h1, List.filter_nil, if_false, Bool.false_eq_true]
    split <;> rfl
theorem parts_long (ds : List Nat) : partsC (longP (pathOf ds)) = ds.reverse.map figStr := by
  have hf : ∀ p ∈ partsOf (ds.reverse.map figStr), 47 ∉ p.cps.toList := fun p hp => by
    unfold partsOf at hp
    split at hp
    · rw [List.mem_singleton.mp hp]; decide
    · exact figs_free _ p hp
  unfold partsC
  rw [split_long (split_pathOf ds) hf]
  have e0 : (PySem.Str.ofString "" != PySem.Str.ofString "" && PySem.Str.ofString "" != PySem.Str.ofString ".") = false := by decide
  have e1 : (PySem.Str.ofString "." != PySem.Str.ofString "" && PySem.Str.ofString "." != PySem.Str.ofString ".") = false := by decide
  have h := parts_filter _ (figs_plain ds.reverse)
  rw [List.filter_cons, if_neg (by rw [e0]; exact Bool.false_ne_true)] at h ⊢
  rw [List.filter_append, filter_long (fun c => c != PySem.Str.ofString "" && c != PySem.Str.ofString ".") e0 e1, h, List.filter_cons, if_neg (by rw [e0]; exact Bool.false_ne_true), List.filter_nil, List.append_nil]

theorem starts_join (a : PySem.Str) (r : List PySem.Str) : Txt.startswith (Str.join ⟨#[47]⟩ (PySem.Str.ofString "" :: a :: r)) (PySem.Str.ofString "/") = true := by
  have e5 : (PySem.Str.ofString "").cps.toList = [] := by decide
  rw [str_eta (Str.join ⟨#[47]⟩ (PySem.Str.ofString "" :: a :: r)), join_cps]
  simp only [List.map_cons, jn, e5, List.nil_append]
  exact starts_slash 47 _
theorem starts_pathOf (ds : List Nat) : Txt.startswith (pathOf ds) (PySem.Str.ofString "/") = true := by
  have e : (pathOf ds).cps.toList = 47 :: (Txt.join (PySem.Str.ofString "/") (ds.reverse.map figStr)).cps.toList := by
    show (PySem.Str.ofString "/" ++ Txt.join (PySem.Str.ofString "/") (ds.reverse.map figStr)).cps.toList = _
    rw [cat_cps, slash_is]
    rfl
  rw [str_eta (pathOf ds), e]
  exact starts_slash 47 _
theorem starts_long (ds : List Nat) : Txt.startswith (longP (pathOf ds)) (PySem.Str.ofString "/") = true := by
  rw [longP_is (split_pathOf ds)]
  unfold partsOf
  split
  · exact starts_join _ _
  · rename_i h
    cases e : ds.reverse.map figStr with
    | nil => exact absurd e h
    | cons a r => exact starts_join _ _
theorem wt_long : ∀ r : List PySem.Str, wt (r.flatMap fun p => [PySem.Str.ofString "", PySem.Str.ofString ".", p]) = wt r + 3 * r.length
  | [] => rfl
  | p :: r => by
    have e1 : (PySem.Str.ofString ".").length = 1 := by decide
    have e5 : (PySem.Str.ofString "").length = 0 := by decide
    rw [List.flatMap_cons, wt_append, wt_long r, wt_cons, wt_cons, wt_cons, wt_nil, wt_cons, e1, e5, List.length_cons]
    (first | lia | omega)
theorem long_len {ds : List Nat} (hd : ∀ d ∈ ds, d < 16) (hl : ds.length ≤ 9) : (longP (pathOf ds)).length ≤ 2000 := by
  have hdr : ∀ d ∈ ds.reverse, d < 16 := fun d hd' => hd d (List.mem_reverse.mp hd')
  have h2 := wt_figs hdr
  rw [List.length_reverse] at h2
  have e5 : (PySem.Str.ofString "").length = 0 := by decide
  have h3 : wt (partsOf (ds.reverse.map figStr)) ≤ wt (ds.reverse.map figStr) + 1 ∧ (partsOf (ds.reverse.map figStr)).length ≤ 10 := by
    unfold partsOf
    split
    · rw [wt_cons, wt_nil, e5]; exact ⟨by (first | lia | omega), by simp⟩
    · exact ⟨by (first | lia | omega), by rw [List.length_map, List.length_reverse]; (first | lia | omega)⟩
  have h4 := join_len 47 (PySem.Str.ofString "") ((partsOf (ds.reverse.map figStr)).flatMap (fun p => [PySem.Str.ofString "", PySem.Str.ofString ".", p]) ++ [PySem.Str.ofString ""])
  rw [longP_is (split_pathOf ds)]
  rw [wt_cons, wt_append, wt_long, wt_cons, wt_nil, e5] at h4
  (first | lia | omega)
end Mine
end

open PySem.W in
theorem Mine.offToks : True := by
  k_with_none
  w_top off
  exact trivial

section
open PySem PySem.W PySem.Spec PySem.Calls PyProof.Rows
namespace Mine

/-- the count of what was made never falls -/
theorem runs_toks {M : Model} {Γ : PySem.Ctx} {p : Pos} {t : Sem Fin} {fs : List Frame} {s : Shared} {e : End} {s' : Shared} (h : Runs M Γ p t fs s e s') : s.toks ≤ s'.toks := by
  induction h
  all_goals first
    | exact Nat.le_refl _
    | assumption
    | (first | lia | omega)
    | (simp only [Shared.setGen] at *; (first | lia | omega))
theorem wakes_toks {M : Model} {Γ : PySem.Ctx} {p : Pos} {g : Nat} {r : Resume} {s : Shared} {res : GenResult} {s' : Shared} (h : Wakes M Γ p g r s res s') : s.toks ≤ s'.toks := by
  unfold Wakes at h
  split at h
  · exact h.elim
  · split at h
    · obtain ⟨e₁, s₁, hr, _, _, rfl⟩ := h
      have h9 := runs_toks hr; exact h9
    · rw [h.2]; exact Nat.le_refl _
    · rw [h.2]; exact Nat.le_refl _
  · obtain ⟨e₁, s₁, hr, _, _, rfl⟩ := h
    have h9 := runs_toks hr; exact h9
  · rw [h.2]; exact Nat.le_refl _
  · rw [h.2]; exact Nat.le_refl _
theorem wp_toks {α : Type} (M : Model) (Γ : PySem.Ctx) (n : Nat) (t : Sem α) : ∀ (Q : α → Pos → Shared → Prop) (E : Value → Pos → Shared → Prop) (p : Pos) (s : Shared), n ≤ s.toks → Sem.wp M Γ t Q E p s →
    Sem.wp M Γ t (fun a p' s' => n ≤ s'.toks ∧ Q a p' s') (fun e p' s' => n ≤ s'.toks ∧ E e p' s') p s := by
  induction t with
  | pure a => intro Q E p s hn h; rw [Sem.wp] at h ⊢; exact ⟨hn, h⟩
  | raise e => intro Q E p s hn h; rw [Sem.wp] at h ⊢; exact ⟨hn, h⟩
  | unsupported _ => intro Q E p s hn h; rw [Sem.wp] at h; exact h.elim
  | finish _ => intro Q E p s hn h; rw [Sem.wp] at h; exact h.elim
  | register _ _ _ => intro Q E p s hn h; rw [Sem.wp] at h; exact h.elim
  | yield _ _ _ _ _ => intro Q E p s hn h; rw [Sem.wp] at h; exact h.elim
  | fork _ _ _ => intro Q E p s hn h; rw [Sem.wp] at h; exact h.elim
  | await _ _ _ _ _ _ => intro Q E p s hn h; rw [Sem.wp] at h; exact h.elim
  | load a _ k ih => intro Q E p s hn h; rw [Sem.wp] at h ⊢; obtain ⟨o, e, h⟩ := h; exact ⟨o, e, ih o Q E p s hn h⟩
  | update a _ f k ih => intro Q E p s hn h; rw [Sem.wp] at h ⊢; exact ⟨h.1, ih () Q E p { s with heap := s.heap.update a f } hn h.2⟩
  | choose src m k ih => intro Q E p s hn h; rw [Sem.wp] at h ⊢; exact ⟨h.1, ih _ Q E p { s with drawn := s.drawn.bump src } hn h.2⟩
  | fresh k ih => intro Q E p s hn h; rw [Sem.wp] at h ⊢; exact ih _ Q E p { s with toks := s.toks + 1 } (Nat.le_succ_of_le hn) h
  | call c hd g l k ih => intro Q E p s hn h; rw [Sem.wp] at h ⊢; obtain ⟨r, s', hr, h⟩ := h; exact ⟨r, s', hr, ih r Q E p s' (Nat.le_trans hn (runs_toks hr)) h⟩
  | genState g k ih => intro Q E p s hn h; rw [Sem.wp] at h ⊢; obtain ⟨st, e, h⟩ := h; exact ⟨st, e, ih _ Q E p s hn h⟩
  | resume g r l k ih => intro Q E p s hn h; rw [Sem.wp] at h ⊢; obtain ⟨res, s', hr, h⟩ := h; exact ⟨res, s', hr, ih res Q E p s' (Nat.le_trans hn (wakes_toks hr)) h⟩
  | rule _ k ih => intro Q E p s hn h; rw [Sem.wp] at h ⊢; exact ih _ _ _ _ _ hn h
  | «at» p' k ih => intro Q E p s hn h; rw [Sem.wp] at h ⊢; exact ih _ _ _ _ _ hn h
  | loadIfAlive a k ih => intro Q E p s hn h; rw [Sem.wp] at h ⊢; exact ih _ _ _ _ _ hn h
  | point _ k ih => intro Q E p s hn h; rw [Sem.wp] at h ⊢; exact ih _ _ _ _ _ hn h
  | alloc o k ih => intro Q E p s hn h; rw [Sem.wp] at h ⊢; exact ih _ Q E p { s with heap := s.heap.push o } hn h
  | ask k ih => intro Q E p s hn h; rw [Sem.wp] at h ⊢; exact ih _ _ _ _ _ hn h
  | os q _ k ih => intro Q E p s hn h; rw [Sem.wp] at h ⊢; exact ih _ Q E p { s with os := (Os.step s.os q).1 } hn h
  | handled own k ih => intro Q E p s hn h; rw [Sem.wp] at h ⊢; exact ih _ _ _ _ _ hn h
  | newGen c k ih => intro Q E p s hn h; rw [Sem.wp] at h ⊢; exact ih _ Q E p { s with gens := s.gens.push (.fresh c) } hn h
  | stack k ih => intro Q E p s hn h; rw [Sem.wp] at h ⊢; exact ih _ _ _ _ _ hn h
  | thread k ih => intro Q E p s hn h; rw [Sem.wp] at h ⊢; exact ih _ _ _ _ _ hn h
theorem wpAny_toks {α : Type} {M : Model} {A : Around} {t : Sem α} {Q : α → Shared → Prop} {E : Value → Shared → Prop} {s : Shared} (h : wpAny M A t Q E s) : wpAny M A t (fun a s' => s.toks ≤ s'.toks ∧ Q a s') E s := fun Γ p hΓ =>
  Sem.wp_mono M Γ t (fun _ _ _ h => h) (fun _ _ _ h => And.right h) p s (wp_toks M Γ s.toks t _ _ p s (Nat.le_refl _) (h Γ p hΓ))
end Mine
end

open PySem.W in
theorem Mine.offPairG : True := by
  k_with_none
  w_top off
  exact trivial

section
open PySem PySem.W PySem.Spec PySem.Calls PyProof.Rows
namespace Mine
section
open LCg
variable {prog : Program} {w : World} {A : Around} {E : Value → Shared → Prop} {s : Shared} {h₀ : Heap} {L : Addr} {m : PySem.Str → Option Value} {env : Env}
/-- a pair of the walk's list, as the ledger holds it -/
def PairAt (news : List (Addr × Obj)) (v v₁ v₂ : Value) : Prop := ∃ (t : Addr), v = .ref t ∧ (t, ({ cls := .type "tuple", data := .seq ([v₁, v₂] : List Value).toArray } : Obj)) ∈ news
/-- the source of a comprehension over pairs of which none passes its test -/
def NoneSrc (prog : Program) (w : World) (A : Around) (h₀ : Heap) (L : Addr) (m : PySem.Str → Option Value) (env : Env) (ct : Expr) (x x₂ : PySem.Str) (scope : Scope) (cl : List (PySem.Str × Addr)) (Q : Value → Shared → Prop) (xv : Value) (s₁ : Shared) : Prop :=
  ∃ (ax : Addr) (its : Array Value) (news : List (Addr × Obj)) (J : Nat → List (Addr × Obj) → Prop), xv = .ref ax ∧ A.handled = none ∧ Fr h₀ L s₁.heap m ∧ News h₀ L s₁.heap news ∧ SrcAt h₀ ax its news ∧ its.size ≤ sizeLine ∧ J 0 news ∧
    (∀ i v news, its[i]? = some v → J i news → ∃ v₁ v₂, PairAt news v v₁ v₂ ∧ ∀ I oI C oC D m₂ h tk (E' : Value → Shared → Prop), NsObj oC m₂ → m₂ x = some v₁ → m₂ x₂ = some v₂ → Fr h₀ L h m → News h₀ L h ((I, oI) :: (C, oC) :: (D, lst []) :: news) → Off3 I C D news → ((@Ne Nat I C) ∧ (@Ne Nat I D) ∧ (@Ne Nat C D)) →
      wpAny (model prog w) A (isTrue ct (compEnvC scope cl C env) (eval ct (compEnvC scope cl C env))) (fun ok s' => ok = false ∧ CompEnd h₀ L m { s₁ with heap := h, toks := tk } I oI C oC D (lst []) (SrcAt h₀ ax its) (fun _ news' => J (i + 1) news') Value.none s') E' { s₁ with heap := h, toks := tk }) ∧
    (∀ news', J its.size news' → FinE h₀ L m s₁ Q [] news')

/-- the source of a comprehension over pairs; each turn knows that something was made before -/
def PairSrc (prog : Program) (w : World) (A : Around) (h₀ : Heap) (L : Addr) (m : PySem.Str → Option Value) (env : Env) (elt : Expr) (x x₂ : PySem.Str) (scope : Scope) (cl : List (PySem.Str × Addr)) (Q : Value → Shared → Prop) (xv : Value) (s₁ : Shared) : Prop :=
  ∃ (ax : Addr) (its : Array Value) (news : List (Addr × Obj)) (J : Nat → List Value → List (Addr × Obj) → Prop), xv = .ref ax ∧ A.handled = none ∧ Fr h₀ L s₁.heap m ∧ News h₀ L s₁.heap news ∧ SrcAt h₀ ax its news ∧ its.size ≤ sizeLine ∧ J 0 [] news ∧
    (∀ i v ys news, its[i]? = some v → J i ys news → ∃ v₁ v₂, PairAt news v v₁ v₂ ∧ ∀ I oI C oC D m₂ h tk (E' : Value → Shared → Prop), s₁.toks ≤ tk → NsObj oC m₂ → m₂ x = some v₁ → m₂ x₂ = some v₂ → Fr h₀ L h m → News h₀ L h ((I, oI) :: (C, oC) :: (D, lst ys) :: news) → Off3 I C D news → ((@Ne Nat I C) ∧ (@Ne Nat I D) ∧ (@Ne Nat C D)) →
      wpAny (model prog w) A (eval elt (compEnvC scope cl C env)) (CompEnd h₀ L m { s₁ with heap := h, toks := tk } I oI C oC D (lst ys) (SrcAt h₀ ax its) (fun y news' => J (i + 1) (ys ++ [y]) news')) E' { s₁ with heap := h, toks := tk }) ∧
    (∀ ys news', J its.size ys news' → FinE h₀ L m s₁ Q ys news')


/-- one turn's end: the list grows or not, and what was made does not fall -/
def Grows (h₀ : Heap) (L : Addr) (m : PySem.Str → Option Value) (s₁ : Shared) (J : Nat → List Value → List (Addr × Obj) → Prop) (ax : Addr) (its : Array Value) (i : Nat) (I C D : Addr) (oI oC : Obj) (tk : Nat) (s₄ : Shared) : Prop :=
  ∃ ys' h₅ tk₅ news₅, s₄ = { s₁ with heap := h₅, toks := tk₅ } ∧ tk ≤ tk₅ ∧ ys'.length ≤ i + 1 ∧ Fr h₀ L h₅ m ∧ News h₀ L h₅ ((I, oI) :: (C, oC) :: (D, lst ys') :: news₅) ∧ Off3 I C D news₅ ∧ SrcAt h₀ ax its news₅ ∧ J (i + 1) ys' news₅
def GenSrc (A : Around) (h₀ : Heap) (L : Addr) (m : PySem.Str → Option Value) (env : Env) (x x₂ : PySem.Str) (scope : Scope) (cl : List (PySem.Str × Addr)) (Q : Value → Shared → Prop) (In : Value → Env → (Shared → Prop) → (Value → Shared → Prop) → Shared → Prop) (xv : Value) (s₁ : Shared) : Prop :=
  ∃ (ax : Addr) (its : Array Value) (news : List (Addr × Obj)) (J : Nat → List Value → List (Addr × Obj) → Prop), xv = .ref ax ∧ A.handled = none ∧ Fr h₀ L s₁.heap m ∧ News h₀ L s₁.heap news ∧ SrcAt h₀ ax its news ∧ its.size ≤ sizeLine ∧ J 0 [] news ∧
    (∀ i v ys news, its[i]? = some v → J i ys news → ys.length ≤ i → ∃ v₁ v₂, PairAt news v v₁ v₂ ∧ ∀ I oI C oC D m₂ h tk (K : Shared → Prop) (Er : Value → Shared → Prop), s₁.toks ≤ tk → NsObj oC m₂ → m₂ x = some v₁ → m₂ x₂ = some v₂ → Fr h₀ L h m → News h₀ L h ((I, oI) :: (C, oC) :: (D, lst ys) :: news) → Off3 I C D news → ((@Ne Nat I C) ∧ (@Ne Nat I D) ∧ (@Ne Nat C D)) →
      (∀ s₄, Grows h₀ L m s₁ J ax its i I C D oI oC tk s₄ → K s₄) → i < its.size → In (.ref D) (compEnvC scope cl C env) K Er { s₁ with heap := h, toks := tk }) ∧
    (∀ ys news', J its.size ys news' → FinE h₀ L m s₁ Q ys news')
theorem pairs_gen {elt iter : Expr} {tests : List Expr} {x x₂ : PySem.Str} {px px₂ tp : Pos} {tk} {scope : Scope} {cl : List (PySem.Str × Addr)} {pos : Pos} {Q : Value → Shared → Prop} (In : Value → Env → (Shared → Prop) → (Value → Shared → Prop) → Shared → Prop)
    (hloop : ∀ (it acc : Value) (cenv : Env) (R : Result → Shared → Prop) (Iv : Nat → Shared → Prop),
      (∀ n s, Iv n s → wpAny (model prog w) A (pyNext it) (fun r s₁ => match r with
        | none => R (.ok .next) s₁
        | some v => wpAny (model prog w) A (letOwnedTupleGo (.Tuple [.Name x px, .Name x₂ px₂] tk tp) it v) (fun _ s₀ => wpAny (model prog w) A (assign (.Tuple [.Name x px, .Name x₂ px₂] tk tp) cenv v)
            (fun _ s₂ => In acc cenv (fun s₅ => ∃ m, m < n ∧ Iv m s₅) (notedBy (model prog w) A cenv fun e s' => R (.error e) s') s₂)
            (notedBy (model prog w) A cenv fun e s' => R (.error e) s') s₀) (notedBy (model prog w) A cenv fun e s' => R (.error e) s') s₁) (notedBy (model prog w) A cenv fun e s' => R (.error e) s') s) →
      ∀ n s, Iv n s → codeAny (model prog w) A (.compLoop (.ListComp elt [⟨.Tuple [.Name x px, .Name x₂ px₂] tk tp, iter, tests, 0⟩] scope pos) 0 it acc cenv) R s)
    (hclos : closureFor scope env = pure cl) (hcell : ∀ y ∈ scope.names, y.2 ≠ .cell) (hkind : scope.kind = .function)
    (hnames : ∀ y ∈ scope.names, y.2 = .local → scope.names.lookup y.1 = some .local) (hx : scope.names.lookup x = some .local) (hx₂ : scope.names.lookup x₂ = some .local) (hxx : x ≠ x₂)
    (h : wpAny (model prog w) A (eval iter env) (GenSrc A h₀ L m env x x₂ scope cl Q In) E s)
    (hs : ∀ x, foldedSetIterable iter env x = pure x) :
    wpAny (model prog w) A (eval (.ListComp elt [⟨.Tuple [.Name x px, .Name x₂ px₂] tk tp, iter, tests, 0⟩] scope pos) env) Q E s := by
  rw [eval_ListComp]
  refine wpAny_comprehension_free (use := none) rfl hs hclos hkind hnames (wpAny_mono h (fun xv s₁ h₁ => ?_) fun _ _ e => e)
  obtain ⟨ax, its, news, J, rfl, hh, F, N, S, hsz, j0, turn, fin⟩ := h₁
  have hl := S.list F.keep N
  have hlt : ax < s₁.heap.objs.size := by obtain ⟨_, e, _⟩ := hl; exact Heap.lt_size e
  refine wpAny_pyIter_list hl ?_
  refine wpAny_newObj_type (wpAny_newFunctionEnv hcell (by intro y hy; simp at hy) (fun h₁ hns₁ hsb₁ => ?_) hkind)
  dsimp only at hns₁ hsb₁ ⊢
  generalize hI : s₁.heap.objs.size = I at hns₁ hsb₁ ⊢
  generalize hG0 : s₁.heap.push { cls := .type "list_iterator", data := .fields #[.ref ax, .int 0 0] } = G0 at hns₁ hsb₁ ⊢
  have hD : G0.objs.size = I + 1 := by rw [← hG0, Heap.size_push, hI]
  generalize hDe : G0.objs.size = D at hns₁ hsb₁ hD ⊢
  generalize hG1 : G0.push { cls := .type "list", dict := none, data := .seq ([] : List Value).toArray } = G1 at hns₁ hsb₁ ⊢
  have hC : G1.objs.size = D + 1 := by rw [← hG1, Heap.size_push, hDe]
  generalize hCe : G1.objs.size = C at hns₁ hsb₁ hC ⊢
  have up0 : ∀ b o, s₁.heap.get? b = some o → G0.get? b = some o := fun b o e => hG0 ▸ Heap.get?_push_of_some _ e
  have up1 : ∀ b o, G0.get? b = some o → G1.get? b = some o := fun b o e => hG1 ▸ Heap.get?_push_of_some _ e
  have ltC : ∀ b o, G1.get? b = some o → b ≠ C := fun b o e => Nat.ne_of_lt (hCe ▸ Heap.lt_size e)
  have old : ∀ b o, s₁.heap.get? b = some o → h₁.get? b = some o := fun b o e => hsb₁.extBut b o (ltC b o (up1 _ _ (up0 _ _ e))) (Heap.get?_push_of_some _ (up1 _ _ (up0 _ _ e)))
  have lt0 : ∀ b o, s₁.heap.get? b = some o → b ≠ I ∧ b ≠ C ∧ b ≠ D := fun b o e => by
    have h1 : @LT.lt Nat _ b I := hI ▸ Heap.lt_size e
    have h2 : @LT.lt Nat _ b D := by (first | lia | omega)
    have h3 : @LT.lt Nat _ b C := by (first | lia | omega)
    exact ⟨Nat.ne_of_lt h1, Nat.ne_of_lt h3, Nat.ne_of_lt h2⟩
  have lID : @LT.lt Nat _ I D := by (first | lia | omega)
  have lDC : @LT.lt Nat _ D C := by (first | lia | omega)
  have hID : I ≠ D := Nat.ne_of_lt lID
  have hCD : C ≠ D := Nat.ne_of_gt lDC
  have hIC : I ≠ C := Nat.ne_of_lt (Nat.lt_trans lID lDC)
  have gI0 : G0.get? I = some { cls := .type "list_iterator", data := .fields #[.ref ax, .int 0 0] } := by rw [← hG0, ← hI]; exact Heap.get?_push_size _ rfl
  have gI : h₁.get? I = some { cls := .type "list_iterator", data := .fields #[.ref ax, .int 0 0] } := hsb₁.extBut _ _ hIC (Heap.get?_push_of_some _ (up1 _ _ gI0))
  have gD1 : G1.get? D = some (lst []) := by rw [← hG1, ← hDe]; exact Heap.get?_push_size _ rfl
  have gD : h₁.get? D = some (lst []) := hsb₁.extBut _ _ (Ne.symm hCD) (Heap.get?_push_of_some _ gD1)
  have fresh₀ : ∀ a, I ≤ a → h₀.get? a = none := fun a ha => Heap.get?_none_of_le (Nat.le_of_lt (Nat.lt_of_lt_of_le (Nat.lt_of_le_of_lt F.above F.ns.lt) (by rw [hI]; exact ha)))
  have hI₀ := fresh₀ I (Nat.le_refl _)
  have hD₀ := fresh₀ D (Nat.le_of_lt lID)
  have hC₀ := fresh₀ C (Nat.le_of_lt (Nat.lt_trans lID lDC))
  have hLlt : @LT.lt Nat _ L I := hI ▸ F.ns.lt
  have hIL : I ≠ L := Nat.ne_of_gt hLlt
  have hDL : D ≠ L := Nat.ne_of_gt (Nat.lt_trans hLlt lID)
  have hCL : C ≠ L := Nat.ne_of_gt (Nat.lt_trans hLlt (Nat.lt_trans lID lDC))
  have off₀ : Off3 I C D news := Off3.of fun p hp => lt0 _ _ (N p hp).1
  have W := Walks.list (prog := prog) (w := w) hh I ax (by rw [← hI]; exact Nat.ne_of_lt hlt) its
  have loop : ∀ s₃ : Shared, s₃ = { s₁ with heap := h₁, toks := s₁.toks + ([] : List (PySem.Str × Value)).length } →
      codeAny (model prog w) A (.compLoop (.ListComp elt [⟨.Tuple [.Name x px, .Name x₂ px₂] tk tp, iter, tests, 0⟩] scope pos) 0 (.ref I) (.ref D) (compEnvC scope cl C env))
        (compPost (model prog w) A E none Q (.ref D) C) s₃ := by
    rintro s₃ rfl
    refine hloop _ _ _ _
      (fun k s' => ∃ h' tk i ys m' news', s' = { s₁ with heap := h', toks := tk } ∧ s₁.toks ≤ tk ∧ i ≤ its.size ∧ ys.length ≤ i ∧ k = its.size + 1 - i ∧ (h'.IsListIter I ax i ∧ h'.IsList ax its) ∧ Fr h₀ L h' m ∧ h'.Ns C m' ∧
        News h₀ L h' ((D, lst ys) :: news') ∧ Off3 I C D news' ∧ SrcAt h₀ ax its news' ∧ J i ys news') ?_ (its.size + 1) _
      ⟨h₁, _, 0, [], _, news, rfl, Nat.le_refl _, Nat.zero_le _, Nat.le_refl _, rfl, ⟨⟨_, gI, rfl, rfl⟩, S.list (fun b o e => old _ _ (F.keep b o e)) (N.grown old)⟩, F.keeps old, hns₁, news_cons gD hDL hD₀ (N.grown old), off₀, S, j0⟩
    rintro k s' ⟨h', tk', i, ys, m', news', rfl, htk, hi, hyl, rfl, hst', F', hn', N', off', S', j'⟩
    have off3 := off'.mem
    by_cases hlt : i < its.size
    · refine wpAny_mono (wpAny_toks (W.item (Q := fun r s₂ => ∃ v h₂ tk₂, r = some v ∧ s₂ = { s₁ with heap := h₂, toks := tk₂ } ∧ its[i]? = some v ∧ (h₂.IsListIter I ax (i + 1) ∧ h₂.IsList ax its) ∧ ∀ b o, b ∉ [I] → h'.get? b = some o → h₂.get? b = some o) i _ _ hlt hst' fun v h₂ tk₂ hPv hst₂ hk₂ => ⟨v, h₂, tk₂, rfl, rfl, hPv, hst₂, hk₂⟩)) (fun r s₂ h₂ => ?_) fun _ _ e => e
      obtain ⟨htk2, v, h₂, tk₂, rfl, rfl, hPv, hst₂, hk₂⟩ := h₂
      obtain ⟨v₁, v₂, ⟨t, rfl, hmt⟩, go⟩ := turn i v ys news' hPv j' hyl
      have N₂ : News h₀ L h₂ ((D, lst ys) :: news') := news_but N' hk₂ fun p hp => by
        rcases List.mem_cons.mp hp with rfl | hp
        · exact Ne.symm hID
        · exact (off3 p hp).1
      have ht : IsTup h₂ t #[v₁, v₂] := ⟨_, (N₂ _ (.tail _ hmt)).1, rfl, _, rfl⟩
      refine wpAny_letOwnedTupleGo_listiter hst₂.1 ?_
      refine wpAny_mono (wpAny_toks (kcp_assign (Q := fun _ s₃ => ∃ h₃ tk₃, s₃ = { s₁ with heap := h₃, toks := tk₃ } ∧ h₃.Ns C _ ∧ ∀ c o, c ≠ C → h₂.get? c = some o → h₃.get? c = some o) (env := compEnvC scope cl C env) hh ht (lookup_relabel_local hx) (lookup_relabel_local hx₂) (by simp [compEnvC, relabel, hkind]) (hn'.at' fun o e => hk₂ _ o (by simpa using Ne.symm hIC) e) fun h₃ tk₃ hn₃ hs₃ => ⟨h₃, tk₃, rfl, hn₃, hs₃⟩)) (fun _ s₃ h₃ => ?_) fun _ _ e => e
      obtain ⟨htk3, h₃, tk₃, rfl, hn₃, hs₃⟩ := h₃
      have htk4 : s₁.toks ≤ tk₃ := Nat.le_trans htk (Nat.le_trans htk2 htk3)
      have hst₃ := W.frame _ _ _ hst₂ fun b hb o e => hs₃ b o (fun q => by
        have q' : b = C := q
        subst q'
        rcases List.mem_cons.mp hb with q | hb
        · exact hIC q.symm
        · have q := List.mem_singleton.mp hb
          have := ltC ax _ (up1 _ _ (up0 _ _ hl.choose_spec.1))
          exact this q.symm) e
      obtain ⟨oI, heI, hoI⟩ : ∃ oI : Obj, h₃.get? I = some oI ∧ ∀ h : Heap, h.get? I = some oI → h.IsListIter I ax (i + 1) := by obtain ⟨o, e, r⟩ := hst₃.1; exact ⟨o, e, fun h e' => ⟨o, e', r⟩⟩
      obtain ⟨oC, heC, hoC⟩ := ns_obj hn₃
      have F₂ := fr_but F' hk₂ (Ne.symm hIL) hI₀
      have F₃ : Fr h₀ L h₃ m := ⟨F₂.ns.at' fun o e => hs₃ _ o (Ne.symm hCL) e, fun b o e => hs₃ b o (fun q => by have q' : b = C := q; subst q'; rw [hC₀] at e; cases e) (F₂.keep b o e), F₂.above⟩
      have N₃ : News h₀ L h₃ ((I, oI) :: (C, oC) :: (D, lst ys) :: news') := news_cons heI hIL hI₀ (news_cons heC hCL hC₀ fun p hp => ⟨hs₃ _ _ (by
        rcases List.mem_cons.mp hp with rfl | hp
        · exact Ne.symm hCD
        · exact (off3 p hp).2.1) (N₂ p hp).1, (N₂ p hp).2⟩)
      refine go I oI C oC D _ h₃ tk₃ _ _ htk4 hoC (by simp [hxx]) (by simp) F₃ N₃ off' ⟨hIC, hID, hCD⟩ (fun s₄ h₄ => ?_) hlt
      obtain ⟨ys', h₄, tk₄, news₄, rfl, htk5, hyl', F₄, N₄, off₄, S₄, j₄⟩ := h₄
      have zI := (N₄ _ (.head _)).1
      have zC := (N₄ _ (.tail _ (.head _))).1
      have N₄' : News h₀ L h₄ ((D, lst ys') :: news₄) := fun p hp => N₄ p (.tail _ (.tail _ hp))
      exact ⟨its.size + 1 - (i + 1), by (first | lia | omega), h₄, tk₄, i + 1, ys', _, news₄, rfl, Nat.le_trans htk4 htk5, hlt, hyl', rfl, ⟨hoI _ zI, S₄.list F₄.keep fun p hp => N₄' p (.tail _ hp)⟩, F₄, hoC.ns zC, N₄', off₄, S₄, j₄⟩
    · obtain hie : i = its.size := Nat.le_antisymm hi (Nat.not_lt.mp hlt)
      rw [hie] at j' hst'
      refine W.done _ _ _ hst' fun h₂ tk₂ hk₂ => ?_
      have F₂ := fr_but F' hk₂ (Ne.symm hIL) hI₀
      have N₂ : News h₀ L h₂ ((D, lst ys) :: news') := news_but N' hk₂ fun p hp => by
        rcases List.mem_cons.mp hp with rfl | hp
        · exact Ne.symm hID
        · exact (off3 p hp).1
      refine ⟨m', hn'.at' fun o e => hk₂ _ o (by simpa using Ne.symm hIC) e, fun h'' hs'' => fin ys news' j' D h'' tk₂ (F₂.change hs'' hCL hC₀) (fun p hp => ⟨hs''.extBut _ _ ?_ (N₂ p hp).1, (N₂ p hp).2⟩) off'.one⟩
      rcases List.mem_cons.mp hp with rfl | hp
      · exact Ne.symm hCD
      · exact (off3 p hp).2.1
  exact codeAny_compStart_list (loop _ rfl) (W.self 0 _ _ _ ⟨⟨_, gI, rfl, rfl⟩, S.list (fun b o e => old _ _ (F.keep b o e)) (N.grown old)⟩ (loop _ rfl))

theorem ListComp_more {elt iter : Expr} {x x₂ : PySem.Str} {px px₂ tp : Pos} {tk} {scope : Scope} {cl : List (PySem.Str × Addr)} {pos : Pos} {Q : Value → Shared → Prop} (F₀ : Fr h₀ L s.heap m)
    (hclos : closureFor scope env = pure cl) (hcell : ∀ y ∈ scope.names, y.2 ≠ .cell) (hkind : scope.kind = .function)
    (hnames : ∀ y ∈ scope.names, y.2 = .local → scope.names.lookup y.1 = some .local) (hx : scope.names.lookup x = some .local) (hx₂ : scope.names.lookup x₂ = some .local) (hxx : x ≠ x₂)
    (h : wpAny (model prog w) A (eval iter env) (PairSrc prog w A h₀ L m env elt x x₂ scope cl Q) E s)
    (hs : ∀ x, foldedSetIterable iter env x = pure x := by intro _; rfl) :
    wpAny (model prog w) A (eval (.ListComp elt [⟨.Tuple [.Name x px, .Name x₂ px₂] tk tp, iter, [], 0⟩] scope pos) env) Q E s := by
  refine pairs_gen (h₀ := h₀) (L := L) (m := m) (fun acc cenv K Er s₂ => wpAny (model prog w) A (eval elt cenv) (fun x s₄ => wpAny (model prog w) A (call (.builtin "list.append") [acc, x]) (fun _ s₅ => K s₅) Er s₄) Er s₂) (fun it acc cenv R Iv t n s h => kcp_loop Iv t n h) hclos hcell hkind hnames hx hx₂ hxx (wpAny_mono h (fun xv s₁ h₁ => ?_) fun _ _ e => e) hs
  obtain ⟨ax, its, news, J, e, hh, F, N, S, hsz, j0, turn, fin⟩ := h₁
  refine ⟨ax, its, news, J, e, hh, F, N, S, hsz, j0, fun i v ys news hv hj hyl => ?_, fin⟩
  obtain ⟨v₁, v₂, hp, go⟩ := turn i v ys news hv hj
  refine ⟨v₁, v₂, hp, fun I oI C oC D m₂ h tk K Er htk hC hx hx2 F N off ne hK hlt => ?_⟩
  have hD₀ := (N (D, lst ys) (.tail _ (.tail _ (.head _)))).2
  have hI₀ := (N (I, oI) (.head _)).2
  have hC₀ := (N (C, oC) (.tail _ (.head _))).2
  refine wpAny_mono (wpAny_toks (go I oI C oC D m₂ h tk Er htk hC hx hx2 F N off ne)) (fun y s₄ h₄ => ?_) fun _ _ e => e
  obtain ⟨htk5, h₄, tk₄, news₄, rfl, F₄, N₄, off₄, S₄, j₄⟩ := h₄
  have zI := (N₄ _ (.head _)).1
  have zC := (N₄ _ (.tail _ (.head _))).1
  have zD := (N₄ _ (.tail _ (.tail _ (.head _)))).1
  have N₄' : News h₀ L h₄ news₄ := fun p hp => N₄ p (.tail _ (.tail _ (.tail _ hp)))
  have off4 := off₄.mem
  refine append_at (hsz := by show ys.toArray.size ≤ sizeLine; rw [List.size_toArray]; (first | lia | omega)) zD fun h₅ hs₅ hD₅ => ?_
  refine hK _ ⟨ys ++ [y], h₅, tk₄, news₄, rfl, htk5, by rw [List.length_append, List.length_singleton]; (first | lia | omega), F₄.change hs₅ hD₀.1 hD₀.2, ?_, off₄, S₄, j₄⟩
  exact news_cons (hs₅.extBut _ _ ne.2.1 zI) hI₀.1 hI₀.2 (news_cons (hs₅.extBut _ _ ne.2.2 zC) hC₀.1 hC₀.2 (news_cons (hD₅.trans (congrArg some (lst_snoc ys y))) hD₀.1 hD₀.2 fun q hq => ⟨hs₅.extBut _ _ (off4 q hq).2.2 (N₄' q hq).1, (N₄' q hq).2⟩))

theorem ListComp_none {ct elt iter : Expr} {x x₂ : PySem.Str} {px px₂ tp : Pos} {tk} {scope : Scope} {cl : List (PySem.Str × Addr)} {pos : Pos} {Q : Value → Shared → Prop} (F₀ : Fr h₀ L s.heap m)
    (hclos : closureFor scope env = pure cl) (hcell : ∀ y ∈ scope.names, y.2 ≠ .cell) (hkind : scope.kind = .function)
    (hnames : ∀ y ∈ scope.names, y.2 = .local → scope.names.lookup y.1 = some .local) (hx : scope.names.lookup x = some .local) (hx₂ : scope.names.lookup x₂ = some .local) (hxx : x ≠ x₂)
    (h : wpAny (model prog w) A (eval iter env) (NoneSrc prog w A h₀ L m env ct x x₂ scope cl Q) E s)
    (hs : ∀ x, foldedSetIterable iter env x = pure x := by intro _; rfl) :
    wpAny (model prog w) A (eval (.ListComp elt [⟨.Tuple [.Name x px, .Name x₂ px₂] tk tp, iter, [ct], 0⟩] scope pos) env) Q E s := by
  refine pairs_gen (h₀ := h₀) (L := L) (m := m) (fun acc cenv K Er s₂ => wpAny (model prog w) A (isTrue ct cenv (eval ct cenv)) (fun ok s₃ => if ok = true then wpAny (model prog w) A (eval elt cenv) (fun x s₄ => wpAny (model prog w) A (call (.builtin "list.append") [acc, x]) (fun _ s₅ => K s₅) Er s₄) Er s₃ else K s₃) Er s₂) (fun it acc cenv R Iv t n s h => kct_loop Iv t n h) hclos hcell hkind hnames hx hx₂ hxx (wpAny_mono h (fun xv s₁ h₁ => ?_) fun _ _ e => e) hs
  obtain ⟨ax, its, news, J, e, hh, F, N, S, hsz, j0, turn, fin⟩ := h₁
  refine ⟨ax, its, news, fun i ys news => ys = [] ∧ J i news, e, hh, F, N, S, hsz, ⟨rfl, j0⟩, ?_, ?_⟩
  · rintro i v ys news hv ⟨rfl, hj⟩ hyl
    obtain ⟨v₁, v₂, hp, go⟩ := turn i v news hv hj
    refine ⟨v₁, v₂, hp, fun I oI C oC D m₂ h tk K Er htk hC hx hx2 F N off ne hK hlt => ?_⟩
    refine wpAny_mono (wpAny_toks (go I oI C oC D m₂ h tk Er hC hx hx2 F N off ne)) (fun okb s₄ h₄ => ?_) fun _ _ e => e
    obtain ⟨htk5, rfl, h₄, tk₄, news₄, rfl, F₄, N₄, off₄, S₄, j₄⟩ := h₄
    rw [if_neg Bool.false_ne_true]
    exact hK _ ⟨[], h₄, tk₄, news₄, rfl, htk5, Nat.zero_le _, F₄, N₄, off₄, S₄, rfl, j₄⟩
  · rintro ys news' ⟨rfl, hj⟩
    exact fin news' hj
end
end Mine
end

open PySem.W in
theorem Mine.offLawPre : True := by
  k_with_none
  w_top off
  exact trivial

section
open PySem PySem.W PySem.Spec PySem.Calls PyProof.Rows
namespace Mine

section
variable {w : World} {mean : ExcName → Option Value} {mg mb : PySem.Str → Option Value} {f : Addr} {vs : List Value} {c : Nat} {dp un : Nat} {gd : Option (List Code)} {cn : PySem.Str} {cs : Scope} {a : Addr} {ccd : Value} {cl : List (PySem.Str × Addr)} {outer : List Env} {A₀ : Around} {base h₀ : Heap} {L : Addr} {m : PySem.Str → Option Value} {news own : List (Addr × Obj)} {s : Shared} {Q E : Value → Shared → Prop}
theorem ci_use {R : Tok → Value} (C : CtrI w mean mg mb f vs c own R)
    (h1 : Below A₀ base outer h₀) (h2 : Fr h₀ L s.heap m) (h3 : (hd.heap_1 w.params).In h₀) (h4 : News h₀ L s.heap (own ++ news)) (h5 : Top topProg LO mean mg mb h₀) (h6 : cs.kind = .function)
    (h7 : dp + c < recursionLimit) (h8 : un + 8 * c < cLine) (h : ∀ (t : Tok) (h' : Heap) (tk' : Nat), Fr h₀ L h' m → News h₀ L h' (own ++ news) → Q (R t) { s with heap := h', toks := tk' }) :
      wpAny (model PR w) (ktrTop dp un gd cn cs L a ccd cl outer) (call (.ref f) vs) Q E s :=
  C dp un gd cn cs a ccd cl outer A₀ base h₀ L m news s Q E h1 h2 h3 h4 h5 h6 h7 h8 h
theorem c0_use {R : Tok → Value} (C : CtrI0 w mean mg mb f vs c own R)
    (h1 : Below A₀ base [] h₀) (h2 : Fr h₀ L s.heap m) (h3 : (hd.heap_1 w.params).In h₀) (h4 : News h₀ L s.heap (own ++ news)) (h5 : Top topProg LO mean mg mb h₀) (hx : (hd.heap_1 w.params).In base) (ht : Top topProg LO mean mg mb base) (h6 : cs.kind = .function)
    (h7 : dp + c < recursionLimit) (h8 : un + 8 * c < cLine) (h : ∀ (t : Tok) (h' : Heap) (tk' : Nat), Fr h₀ L h' m → News h₀ L h' (own ++ news) → Q (R t) { s with heap := h', toks := tk' }) :
      wpAny (model PR w) (ktrTop dp un gd cn cs L a ccd cl []) (call (.ref f) vs) Q E s :=
  C dp un gd cn cs a ccd cl A₀ base h₀ L m news s Q E h1 h2 h3 h4 h5 hx ht h6 h7 h8 h
theorem c1_use {R : Tok → Value} (C : CtrI1 w mean mg mb f vs c own R)
    (h1 : Below A₀ base [] h₀) (h2 : Fr h₀ L s.heap m) (h3 : (hd.heap_1 w.params).In h₀) (h4 : News h₀ L s.heap (own ++ news)) (h5 : Top topProg LO mean mg mb h₀) (hx : (hd.heap_1 w.params).In base) (ht : Top topProg LO mean mg mb base) (hz : base.objs.size ≤ h₀.objs.size) (h6 : cs.kind = .function)
    (h7 : dp + c < recursionLimit) (h8 : un + 8 * c < cLine) (h : ∀ (t : Tok) (h' : Heap) (tk' : Nat), Fr h₀ L h' m → News h₀ L h' (own ++ news) → Q (R t) { s with heap := h', toks := tk' }) :
      wpAny (model PR w) (ktrTop dp un gd cn cs L a ccd cl []) (call (.ref f) vs) Q E s :=
  C dp un gd cn cs a ccd cl A₀ base h₀ L m news s Q E h1 h2 h3 h4 h5 hx ht hz h6 h7 h8 h
theorem walk_use {D : Addr} {us : List Value} {nn : Nat} {ns : List Int} {k : Nat} {u : Tok} {T : List (Addr × Obj)} (hi : IntsAre us ns) (hz : ns.length ≤ 9) (hk : 0 < k) (hk2 : k ≤ 4) (hDo : ∀ p ∈ own, p.1 ≠ D)
    (h1 : Below A₀ base outer h₀) (h2 : Fr h₀ L s.heap m) (h3 : (hd.heap_1 w.params).In h₀) (h4 : News h₀ L s.heap (((D, listOf us.toArray nn) :: own) ++ T)) (h5 : OkT T) (h6 : Dj T ((D, listOf us.toArray nn) :: own)) (h7 : Hds h₀) (h8 : Top topProg LO mean mg mb h₀) (h9 : cs.kind = .function) (hA : dp + 130 < recursionLimit) (hB : un + 8 * 130 < cLine)
    (h : ∀ (a : Addr) (vs : List Value) (nn' : Nat) (tups T' : List (Addr × Obj)) (h' : Heap) (tk' : Nat), OkT T' → Dj T' ((D, listOf us.toArray nn) :: own) → Steps k vs tups (walkN k [] ns) → Dj T' ((a, listOf vs.toArray nn') :: tups) → Dj ((a, listOf vs.toArray nn') :: tups) ((D, listOf us.toArray nn) :: own) → (∀ p ∈ tups, p.1 ≠ a) → Fr h₀ L h' m → News h₀ L h' ((a, listOf vs.toArray nn') :: (tups ++ (((D, listOf us.toArray nn) :: own) ++ T'))) → Q (.ref a) { s with heap := h', toks := tk' }) :
      wpAny (model PR w) (ktrTop dp un gd cn cs L a ccd cl outer) (call (.ref 214) [.ref D, .int (k : Int) u]) Q E s :=
  law_walk D us nn ns k u hi hz hk hk2 own hDo dp un gd cn cs a ccd cl outer A₀ base h₀ L m T s Q E h1 h2 h3 h4 h5 h6 h7 h8 h9 hA hB fun a vs nn' tups T' h' tk' x1 x2 x3 x4 x5 x6 x7 => h a vs nn' tups T' h' tk' x1 x2 x3 x4 x5 x6 x7.1 x7.2
end
/-- how wide a figure is -/
theorem wide_add {prog : Program} {w : World} {A : Around} {E : Value → Shared → Prop} {s : Shared} {Q : Value → Shared → Prop} {z : Int} {t u : Tok} (h : ∀ k : Nat, 0 < k → k ≤ 4 → Q (.int (k : Int) s.toks) { s with toks := s.toks + 1 }) : wpAny (model prog w) A (binaryOp .Add (.int 1 t) (.int (z.fmod 4) u)) Q E s := by
  refine add_int ?_
  have h1 := Int.fmod_nonneg_of_pos z (by decide : (0:Int) < 4)
  have h2 := Int.fmod_lt_of_pos z (by decide : (0:Int) < 4)
  have e : 1 + z.fmod 4 = (((1 + z.fmod 4).toNat : Nat) : Int) := by (first | lia | omega)
  rw [e]
  exact h _ (by (first | lia | omega)) (by (first | lia | omega))
/-- the tables before any call -/
theorem okT0 : OkT [(171, tabObj #[]), (178, tabObj #[])] := ⟨[_], [_], rfl, .inl rfl, .inl rfl, fun p hp q hq => by
  rw [List.mem_singleton.mp hp, List.mem_singleton.mp hq]
  decide⟩

theorem dj_first {c D : Nat} {x0 oL oR oW : Obj} (ll : c + 1 + 1 + 1 < D ∧ c + 1 + 1 < D ∧ c + 1 < D ∧ 178 < D ∧ 171 < D) (l0 : 178 < c ∧ 171 < c) : Dj [(171, tabObj #[]), (178, tabObj #[])] ((D, x0) :: [((c + 1 + 1 + 1 : Nat), oL), ((c + 1 + 1 : Nat), oR), ((c + 1 : Nat), oW)]) := by
  intro p hp q hq
  have hp8 : ((p.1 : Nat) = 171 ∨ (p.1 : Nat) = 178) := by
    simp only [List.mem_cons, List.not_mem_nil, or_false] at hp
    rcases hp with rfl | rfl
    · exact .inl rfl
    · exact .inr rfl
  have hq8 : (q.1 : Nat) = D ∨ (q.1 : Nat) = c + 1 + 1 + 1 ∨ (q.1 : Nat) = c + 1 + 1 ∨ (q.1 : Nat) = c + 1 := by
    simp only [List.mem_cons, List.not_mem_nil, or_false] at hq
    rcases hq with rfl | rfl | rfl | rfl <;> simp
  have key : ∀ x y : Nat, (x = 171 ∨ x = 178) → (y = D ∨ y = c + 1 + 1 + 1 ∨ y = c + 1 + 1 ∨ y = c + 1) → x ≠ y := by (first | lia | omega)
  exact key p.1 q.1 hp8 hq8
/-- the law's walk, called from the law's own ledger -/
theorem walk_first {w : World} {mean : ExcName → Option Value} {mg mb : PySem.Str → Option Value} {dp un : Nat} {gd : Option (List Code)} {cn : PySem.Str} {cs : Scope} {a : Addr} {ccd : Value} {cl : List (PySem.Str × Addr)} {A₀ : Around} {base h₀ : Heap} {L : Addr} {m : PySem.Str → Option Value} {s : Shared} {Q E : Value → Shared → Prop}
    {D l1 Dt : Addr} {c : Nat} {us : List Value} {nn : Nat} {ns : List Int} {k : Nat} {u : Tok} {g1 g2 : Addr × Obj} {oL oR oW : Obj} (hi : IntsAre us ns) (hz : ns.length ≤ 9) (hk : 0 < k) (hk2 : k ≤ 4)
    (h1 : Below A₀ base [] h₀) (h2 : Fr h₀ L s.heap m) (h3 : (hd.heap_1 w.params).In h₀) (h4 : News h₀ L s.heap [(D, listOf us.toArray nn), g1, g2, (c + 1 + 1 + 1, oL), (c + 1 + 1, oR), (c + 1, oW), (178, tabObj #[]), (171, tabObj #[])])
    (ll : l1 < D ∧ Dt < D ∧ c + 1 + 1 + 1 < D ∧ c + 1 + 1 < D ∧ c + 1 < D ∧ 178 < D ∧ 171 < D) (l0 : 178 < c ∧ 171 < c) (h7 : Hds h₀) (h8 : Top topProg LO mean mg mb h₀) (h9 : cs.kind = .function) (hA : dp + 130 < recursionLimit) (hB : un + 8 * 130 < cLine)
    (h : ∀ (aw : Addr) (vs : List Value) (nn' : Nat) (tups T : List (Addr × Obj)) (h' : Heap) (tk' : Nat), OkT T → Steps k vs tups (walkN k [] ns) → Dj T ((aw, listOf vs.toArray nn') :: (c + 1 + 1 + 1, oL) :: (c + 1 + 1, oR) :: (c + 1, oW) :: tups) → Fr h₀ L h' m →
      News h₀ L h' ((aw, listOf vs.toArray nn') :: (c + 1 + 1 + 1, oL) :: (c + 1 + 1, oR) :: (c + 1, oW) :: (tups ++ T)) → Dj ((aw, listOf vs.toArray nn') :: tups) [(c + 1 + 1 + 1, oL), (c + 1 + 1, oR), (c + 1, oW)] → (∀ p ∈ tups, p.1 ≠ aw) → Q (.ref aw) { s with heap := h', toks := tk' }) :
      wpAny (model PR w) (ktrTop dp un gd cn cs L a ccd cl []) (call (.ref 214) [.ref D, .int (k : Int) u]) Q E s := by
  refine walk_use (nn := nn) (own := [((c + 1 + 1 + 1 : Nat), oL), ((c + 1 + 1 : Nat), oR), ((c + 1 : Nat), oW)]) (T := [(171, tabObj #[]), (178, tabObj #[])]) hi hz hk hk2 ?_ h1 h2 h3 (newsSub h4 ?_) okT0 (dj_first ll.2.2 l0) h7 h8 h9 hA hB ?_
  · intro p hp
    simp only [List.mem_cons, List.not_mem_nil, or_false] at hp
    rcases hp with rfl | rfl | rfl
    · exact Nat.ne_of_lt ll.2.2.1
    · exact Nat.ne_of_lt ll.2.2.2.1
    · exact Nat.ne_of_lt ll.2.2.2.2.1
  · intro p hp
    simp only [List.mem_append, List.mem_cons, List.not_mem_nil, or_false] at hp ⊢
    rcases hp with (h | h | h | h) | h | h <;> simp [h]
  · intro aw vs nn' tups T h' tk' oT dj1 hs dj2 dj3 ne F N
    refine h aw vs nn' tups T h' tk' oT hs (fun p hp q hq => ?_) F (newsSub N fun p hp => ?_) (fun p hp q hq => dj3 p hp q (.tail _ hq)) ne
    · simp only [List.mem_cons] at hq
      rcases hq with rfl | rfl | rfl | rfl | hq
      · exact dj2 p hp _ (.head _)
      · exact dj1 p hp _ (.tail _ (.head _))
      · exact dj1 p hp _ (.tail _ (.tail _ (.head _)))
      · exact dj1 p hp _ (.tail _ (.tail _ (.tail _ (.head _))))
      · exact dj2 p hp q (.tail _ hq)
    · simp only [List.mem_append, List.mem_cons, List.not_mem_nil, or_false] at hp ⊢
      rcases hp with h | h | h | h | h | h <;> simp [h]

theorem Steps.elim {k : Nat} {vs : List Value} {tups : List (Addr × Obj)} {dss : List (List Nat)} (h : Steps k vs tups dss) {i : Nat} {v : Value} (e : vs.toArray[i]? = some v) : ∃ (ds : List Nat) (a : Addr) (t u : Tok), v = .ref a ∧ dss[i]? = some ds ∧ (a, tupo (.str (pathOf ds) t) (.int ((numOf' k ds : Nat) : Int) u)) ∈ tups := by
  have e' : vs[i]? = some v := by simpa using e
  have hi : i < dss.length := by
    rw [← h.len]
    exact (List.getElem?_eq_some_iff.mp e').1
  have e2 : dss[i]? = some dss[i] := List.getElem?_eq_getElem hi
  obtain ⟨a, t, u, e3, m⟩ := h.at' i _ e2
  rw [e'] at e3
  exact ⟨_, a, t, u, Option.some.inj e3, e2, m⟩

section
open LCg
theorem dj_comp {I C D : Addr} {oI oC oD : Obj} {P T : List (Addr × Obj)} (off : Off3 I C D (P ++ T)) (dj : Dj T P) : Dj T ((I, oI) :: (C, oC) :: (D, oD) :: P) :=
  have o := off.mem
  Dj.cons (fun p hp => (o p (List.mem_append_right _ hp)).1) (Dj.cons (fun p hp => (o p (List.mem_append_right _ hp)).2.1) (Dj.cons (fun p hp => (o p (List.mem_append_right _ hp)).2.2) dj))
theorem off_comp {I C D : Addr} {oI oC oD : Obj} {P T T' : List (Addr × Obj)} (off : Off3 I C D (P ++ T)) (dj : Dj T' ((I, oI) :: (C, oC) :: (D, oD) :: P)) : Off3 I C D (P ++ T') :=
  Off3.of fun p hp => (List.mem_append.mp hp).elim (fun h => off.mem p (List.mem_append_left _ h)) fun h => ⟨dj p h _ (.head _), dj p h _ (.tail _ (.head _)), dj p h _ (.tail _ (.tail _ (.head _)))⟩
/-- a call that may fill the code tables, from a comprehension's turn -/
theorem cd_turn {w : World} {mean : ExcName → Option Value} {mg mb : PySem.Str → Option Value} {f : Addr} {vs : List Value} {c : Nat} {dp un : Nat} {gd : Option (List Code)} {cn : PySem.Str} {cs : Scope} {a : Addr} {ccd : Value} {cl : List (PySem.Str × Addr)} {outer : List Env} {A₀ : Around} {base h₀ : Heap} {L : Addr} {m : PySem.Str → Option Value} {s : Shared} {Q E : Value → Shared → Prop}
    {R : Tok → Value} {I C D : Addr} {oI oC oD : Obj} (P : List (Addr × Obj)) {T : List (Addr × Obj)} (K : ∀ own, CtrD w mean mg mb f vs c own R) (oT : OkT T) (dj : Dj T P)
    (off : Off3 I C D (P ++ T)) (N : News h₀ L s.heap ((I, oI) :: (C, oC) :: (D, oD) :: (P ++ T)))
    (h1 : Below A₀ base outer h₀) (h2 : Fr h₀ L s.heap m) (h3 : (hd.heap_1 w.params).In h₀) (h7 : Hds h₀) (h8 : Top topProg LO mean mg mb h₀) (h9 : cs.kind = .function) (hA : dp + c < recursionLimit) (hB : un + 8 * c < cLine)
    (h : ∀ (t : Tok) (T' : List (Addr × Obj)) (h' : Heap) (tk' : Nat), OkT T' → Dj T' P → Off3 I C D (P ++ T') → Fr h₀ L h' m → News h₀ L h' ((I, oI) :: (C, oC) :: (D, oD) :: (P ++ T')) → Q (R t) { s with heap := h', toks := tk' }) :
      wpAny (model PR w) (ktrTop dp un gd cn cs L a ccd cl outer) (call (.ref f) vs) Q E s :=
  dp_use (own := (I, oI) :: (C, oC) :: (D, oD) :: P) (K _) h1 h2 h3 N oT (dj_comp off dj) h7 h8 h9 hA hB fun t T' h' tk' oT' dj' F N' => h t T' h' tk' oT' (fun p hp q hq => dj' p hp q (.tail _ (.tail _ (.tail _ hq)))) (off_comp off dj') F N'
end
/-- the figures of the walk -/
theorem stepN_ok {k : Nat} {ds : List Nat} {x : Int} {n : Nat} (h : (∀ d ∈ ds, d < 2 ^ k) ∧ ds.length ≤ n) : (∀ d ∈ stepN k ds x, d < 2 ^ k) ∧ (stepN k ds x).length ≤ n + 1 := by
  have hB : (0 : Int) < ((2 ^ k : Nat) : Int) := Int.natCast_pos.mpr (Nat.pow_pos (by decide))
  have hf : ((x.fdiv 6).fmod ((2 ^ k : Nat) : Int)).toNat < 2 ^ k := by
    have h1 := Int.fmod_nonneg_of_pos (x.fdiv 6) hB
    have h2 := Int.fmod_lt_of_pos (x.fdiv 6) hB
    (first | lia | omega)
  unfold stepN
  split
  · exact ⟨fun d hd => h.1 d (List.mem_of_mem_tail hd), by rw [List.length_tail]; (first | lia | omega)⟩
  split
  · exact ⟨h.1, by (first | lia | omega)⟩
  split
  · exact ⟨fun d hd => by rw [List.mem_singleton.mp hd]; exact hf, by simp⟩
  · refine ⟨fun d hd => ?_, by rw [List.length_cons]; (first | lia | omega)⟩
    rcases List.mem_cons.mp hd with rfl | hd
    · exact hf
    · exact h.1 d hd
theorem walkN_ok {k : Nat} : ∀ (ns : List Int) (ds : List Nat) (n : Nat), (∀ d ∈ ds, d < 2 ^ k) ∧ ds.length ≤ n → ∀ l ∈ walkN k ds ns, (∀ d ∈ l, d < 2 ^ k) ∧ l.length ≤ n + ns.length
  | [], _, _, _, l, hl => nomatch hl
  | x :: r, ds, n, h, l, hl => by
    have h1 := stepN_ok (x := x) h
    unfold walkN at hl
    rcases List.mem_cons.mp hl with rfl | hl
    · exact ⟨h1.1, Nat.le_trans h1.2 (by rw [List.length_cons]; (first | lia | omega))⟩
    · have := walkN_ok r _ _ h1 l hl
      exact ⟨this.1, Nat.le_trans this.2 (by rw [List.length_cons]; (first | lia | omega))⟩
theorem walkN_len {k : Nat} : ∀ (ns : List Int) (ds : List Nat), (walkN k ds ns).length = ns.length
  | [], _ => rfl
  | x :: r, ds => by unfold walkN; rw [List.length_cons, walkN_len r, List.length_cons]
theorem walk_good {k : Nat} {ns : List Int} (hk4 : k ≤ 4) (hz : ns.length ≤ 9) {l : List Nat} (hl : l ∈ walkN k [] ns) : (∀ d ∈ l, d < 2 ^ k) ∧ l.length ≤ 9 ∧ l.length * k < 40 := by
  have h := walkN_ok ns [] 0 ⟨(fun _ hd => nomatch hd), Nat.le_refl _⟩ l hl
  have h9 : l.length ≤ 9 := by (first | lia | omega)
  refine ⟨h.1, h9, ?_⟩
  have : l.length * k ≤ 9 * 4 := Nat.mul_le_mul h9 hk4
  (first | lia | omega)

theorem walkN_app {k : Nat} : ∀ (xs ys : List Int) (ds : List Nat), walkN k ds (xs ++ ys) = walkN k ds xs ++ walkN k (xs.foldl (stepN k) ds) ys
  | [], _, _ => rfl
  | x :: r, ys, ds => by
    rw [List.cons_append, walkN, walkN, walkN_app r ys, List.cons_append, List.foldl_cons]
theorem step_push {k : Nat} (ds : List Nat) {x : Int} (h0 : x.fmod 6 ≠ 0) (h1 : x.fmod 6 ≠ 1) (h2 : x.fmod 6 ≠ 2) : ∃ d, stepN k ds x = d :: ds := by
  unfold stepN
  rw [if_neg h0, if_neg h1, if_neg h2]
  exact ⟨_, rfl⟩
/-- the last path of the walk has a folder -/
theorem walk_last (k : Nat) (xs : List Int) : ∃ d r, (walkN k [] (xs ++ [9, 3, 11, 6, 7]))[xs.length + 4]? = some (d :: r) := by
  rw [walkN_app, List.getElem?_append_right (by rw [walkN_len]; (first | lia | omega)), walkN_len, show xs.length + 4 - xs.length = 4 from by (first | lia | omega)]
  generalize xs.foldl (stepN k) [] = e
  obtain ⟨a, ha⟩ := step_push (k := k) e (x := 9) (by decide) (by decide) (by decide)
  obtain ⟨b, hb⟩ := step_push (k := k) (a :: e) (x := 3) (by decide) (by decide) (by decide)
  obtain ⟨c, hc⟩ := step_push (k := k) (b :: a :: e) (x := 11) (by decide) (by decide) (by decide)
  have h6 : stepN k (c :: b :: a :: e) 6 = b :: a :: e := by
    unfold stepN
    rw [if_pos (by decide)]
    rfl
  have h7 : stepN k (b :: a :: e) 7 = b :: a :: e := by
    unfold stepN
    rw [if_neg (by decide), if_pos (by decide)]
  refine ⟨b, a :: e, ?_⟩
  show (walkN k e [9, 3, 11, 6, 7])[4]? = _
  simp only [walkN, ha, hb, hc, h6, h7]
  rfl
theorem item_neg1 {prog : Program} {w : World} {A : Around} {E : Value → Shared → Prop} {s : Shared} {h₀ : Heap} {L d : Addr} {news : List (Addr × Obj)} {n : Nat} {vs : List Value} {v : Value} {u : Tok} {value slice : PySem.Expr} {Q : Value → Shared → Prop} (N : News h₀ L s.heap news) (hm : (d, listOf vs.toArray n) ∈ news) (hz : vs.length ≤ 9) (hv : vs[vs.length - 1]? = some v) (h : Q v s)
    (hs : subscripted slice false (.ref d) (.int (-1) u) = operate [.ref d, .int (-1) u] (getItem (.ref d) (.int (-1) u)) := by with_unfolding_all rfl) :
    wpAny (model prog w) A (subscriptTail value slice (.ref d) (.int (-1) u)) Q E s := by
  have hl := list_in N hm
  have hp : 0 < vs.length := by
    have := (List.getElem?_eq_some_iff.mp hv).1
    (first | lia | omega)
  have hsz : vs.toArray.size = vs.length := List.size_toArray
  refine tail_any hl.typeIs slot_list_getitem.lookup (wpAny_getItem_list_neg hl (by decide) (by rw [hsz]; (first | lia | omega)) (by decide) ?_ h) hs
  rw [hsz]
  have e2 : (-1 + ((vs.length : Nat) : Int)).toNat = vs.length - 1 := by (first | lia | omega)
  rw [e2]
  simpa using hv

theorem unpack2 {prog : Program} {w : World} {A : Around} {E : Value → Shared → Prop} {s : Shared} {h₀ : Heap} {L T : Addr} {m : PySem.Str → Option Value} {news : List (Addr × Obj)} {env : Env} {a b : PySem.Str} {pa pb tp : Pos} {kk : Nat} {x y : Value} {Q : Unit → Shared → Prop} (hh : A.handled = none) (F : Fr h₀ L s.heap m) (N : News h₀ L s.heap news) (hm : (T, tupo x y) ∈ news)
    (h : ∀ h', Fr h₀ L h' m → News h₀ L h' news → wpAny (model prog w) A (assign (.Name a pa) env x) (fun _ s₁ => wpAny (model prog w) A (assign (.Name b pb) env y) Q E s₁) E { s with heap := h' }) :
    wpAny (model prog w) A (assign (.Tuple [.Name a pa, .Name b pb] kk tp) env (.ref T)) Q E s := by
  have ht : s.heap.IsTuple T #[x, y] := ⟨_, (N _ hm).1, rfl, _, rfl⟩
  refine wpAny_assign_Tuple hh ht rfl rfl fun h₁ he₁ => ?_
  have up : ∀ c o, s.heap.get? c = some o → h₁.get? c = some o := fun c o e => he₁ c o (Nat.ne_of_lt (Heap.lt_size e)) e
  show wpAny _ _ (assignInOrder [assign (.Name a pa) env, assign (.Name b pb) env] [x, y]) _ _ _
  refine assignInOrder_cons (wpAny_mono (h h₁ (F.keeps up) (N.grown up)) (fun _ s₁ h1 => ?_) fun _ _ e => e)
  exact assignInOrder_cons (wpAny_mono h1 (fun _ s₂ h2 => assignInOrder_nil h2) fun _ _ e => e)

section
variable {prog : Program} {w : World} {A : Around} {E : Value → Shared → Prop} {s : Shared} {h₀ : Heap} {L : Addr} {m : PySem.Str → Option Value}
/-- the law's cells stand apart from the walk's list and what it holds -/
structure Apart (c : Nat) (aw : Addr) (r : List (Addr × Obj)) : Prop where
  aw : aw ≠ c + 1 + 1 + 1 ∧ aw ≠ c + 1 + 1 ∧ aw ≠ c + 1
  r : ∀ p ∈ r, p.1 ≠ c + 1 + 1 + 1 ∧ p.1 ≠ c + 1 + 1 ∧ p.1 ≠ c + 1
theorem Apart.of {c : Nat} {aw : Addr} {x oL oR oW : Obj} {tups T : List (Addr × Obj)} (h1 : Dj ((aw, x) :: tups) [(c + 1 + 1 + 1, oL), (c + 1 + 1, oR), (c + 1, oW)]) (h2 : Dj T ((aw, x) :: (c + 1 + 1 + 1, oL) :: (c + 1 + 1, oR) :: (c + 1, oW) :: tups)) : Apart c aw (tups ++ T) := by
  refine ⟨⟨h1 _ (.head _) _ (.head _), h1 _ (.head _) _ (.tail _ (.head _)), h1 _ (.head _) _ (.tail _ (.tail _ (.head _)))⟩, fun p hp => ?_⟩
  rcases List.mem_append.mp hp with hp | hp
  · exact ⟨h1 _ (.tail _ hp) _ (.head _), h1 _ (.tail _ hp) _ (.tail _ (.head _)), h1 _ (.tail _ hp) _ (.tail _ (.tail _ (.head _)))⟩
  · exact ⟨h2 _ hp _ (.tail _ (.head _)), h2 _ hp _ (.tail _ (.tail _ (.head _))), h2 _ hp _ (.tail _ (.tail _ (.tail _ (.head _))))⟩
theorem law_unpack {cn : PySem.Str} {cs : Scope} {fa : Addr} {ccd : Value} {cl : List (PySem.Str × Addr)} {a b : PySem.Str} {pa pb tp : Pos} {kk c : Nat} {x y : Value} {Q : Unit → Shared → Prop} {aw al : Addr} {oX oL oR oW : Obj} {vL vR : Option Value} {g1 g2 : Addr × Obj} {tups T : List (Addr × Obj)}
    (hh : A.handled = none) (F : Fr h₀ L s.heap m) (N : News h₀ L s.heap (g1 :: g2 :: (aw, oX) :: (c + 1 + 1 + 1, oL) :: (c + 1 + 1, oR) :: (c + 1, oW) :: (tups ++ T))) (ap : Apart c aw (tups ++ T)) (hm : (al, tupo x y) ∈ tups) (dL : oL.data = .cell vL) (dR : oR.data = .cell vR)
    (ha : cl.lookup a = some (c + 1 + 1)) (hb : cl.lookup b = some (c + 1 + 1 + 1)) (hk : cs.kind = .function) (hxa : (envX cn cs L fa ccd cl).kindOf a = some .cell) (hxb : (envX cn cs L fa ccd cl).kindOf b = some .cell)
    (h : ∀ h' oL' oR', Fr h₀ L h' m → News h₀ L h' ((aw, oX) :: (c + 1 + 1 + 1, oL') :: (c + 1 + 1, oR') :: (c + 1, oW) :: (tups ++ T)) → oR'.data = .cell (some x) → oL'.data = .cell (some y) → Q () { s with heap := h' }) :
    wpAny (model prog w) A (assign (.Tuple [.Name a pa, .Name b pb] kk tp) (envX cn cs L fa ccd cl) (.ref al)) Q E s := by
  refine unpack2 (news := (aw, oX) :: (c + 1 + 1 + 1, oL) :: (c + 1 + 1, oR) :: (c + 1, oW) :: (tups ++ T)) hh F (newsSub N fun p hp => .tail _ (.tail _ hp)) (.tail _ (.tail _ (.tail _ (.tail _ (List.mem_append_left _ hm))))) fun h1 F1 N1 => ?_
  have n32 : (c + 1 + 1 + 1 : Nat) ≠ c + 1 + 1 := Nat.ne_of_gt (Nat.lt_succ_self _)
  have n21 : (c + 1 + 1 : Nat) ≠ c + 1 := Nat.ne_of_gt (Nat.lt_succ_self _)
  have n31 : (c + 1 + 1 + 1 : Nat) ≠ c + 1 := Nat.ne_of_gt (Nat.lt_succ_of_lt (Nat.lt_succ_self _))
  refine wpAny_assign_Name (storeX_C F1 N1 ha (.tail ap.aw.2.1 (.tail n32 (.head fun p hp => ?_))) dR (fun h2 oR' F2 N2 dR' => ?_) hk hxa)
  · rcases List.mem_cons.mp hp with rfl | hp
    · exact Ne.symm n21
    · exact (ap.r p hp).2.1
  refine wpAny_assign_Name (storeX_C F2 N2 hb (.tail ap.aw.1 (.head fun p hp => ?_)) dL (fun h3 oL' F3 N3 dL' => ?_) hk hxb)
  · rcases List.mem_cons.mp hp with rfl | hp
    · exact Ne.symm n32
    rcases List.mem_cons.mp hp with rfl | hp
    · exact Ne.symm n31
    · exact (ap.r p hp).1
  exact h h3 oL' oR' F3 N3 dR' dL'
end

theorem long_is {x : PySem.Str} : Txt.replace x (PySem.Str.ofString "/") (PySem.Str.ofString "//./") ++ PySem.Str.ofString "/" = longP x := rfl
theorem replace_law {prog : Program} {w : World} {A : Around} {E : Value → Shared → Prop} {s : Shared} {Q : Value → Shared → Prop} {x : PySem.Str} {t u : Tok} (hu : (0 : Nat) < u) (hx : x.length ≤ 1000) (hq : ∀ t' k, Q (.str (Txt.replace x (PySem.Str.ofString "/") (PySem.Str.ofString "//./")) t') { s with toks := k }) :
    wpAny (model prog w) A (call (.builtin "str.replace") [.str x t, .str (PySem.Str.ofString "/") u, .str (PySem.Str.ofString "//./") (u + 1)]) Q E s :=
  SC.replaceW (Nat.ne_of_gt hu) (Nat.succ_ne_zero u) (Nat.ne_of_lt (Nat.lt_succ_self u)) (by decide) (by (first | lia | omega)) (by decide) hq

theorem cat_law {prog : Program} {w : World} {A : Around} {E : Value → Shared → Prop} {s : Shared} {Q : Value → Shared → Prop} {x : PySem.Str} {t u : Tok} (hl : (longP x).length ≤ 2000) (h : ∀ t' k, Q (.str (longP x) t') { s with toks := k }) :
    wpAny (model prog w) A (binaryOp .Add (.str (Txt.replace x (PySem.Str.ofString "/") (PySem.Str.ofString "//./")) t) (.str (PySem.Str.ofString "/") u)) Q E s := by
  refine add_str (fun t' k => h t' k) ?_
  have e : (longP x).length = (Txt.replace x (PySem.Str.ofString "/") (PySem.Str.ofString "//./")).length + (PySem.Str.ofString "/").length := Str.length_append _ _
  rw [← e, sizeLine_eq]
  (first | lia | omega)
theorem common_two {k : Nat} (hk2 : k ≤ 4) {ds es : List Nat} (hd : ∀ d ∈ ds, d < 2 ^ k) (he : ∀ d ∈ es, d < 2 ^ k) : cpath true [longP (pathOf ds), pathOf es] = pathOf (csuf ds es) := by
  refine cpath_of hk2 (ls := [ds, es]) (Nat.succ_pos _) ?_ (fun l hl => ?_) (csuf_gcp ds es)
  · simp only [List.map_cons, List.map_nil, parts_long, parts_pathOf]
  · rcases List.mem_cons.mp hl with rfl | hl
    · exact hd
    · rw [List.mem_singleton.mp hl]; exact he
theorem two_of {P : PySem.Str → Prop} {a b : PySem.Str} (ha : P a) (hb : P b) : ∀ x ∈ [a, b], P x := fun x hx => by
  rcases List.mem_cons.mp hx with rfl | hx
  · exact ha
  · rw [List.mem_singleton.mp hx]; exact hb
theorem take_snoc {α β : Type} {l : List α} {i : Nat} {a : α} {f : α → β} (h : l[i]? = some a) : (l.take (i + 1)).map f = (l.take i).map f ++ [f a] := by
  rw [List.take_add_one, h, List.map_append]
  rfl

theorem dj_same {T P P' : List (Addr × Obj)} (h : Dj T P) (e : P.map Prod.fst = P'.map Prod.fst) : Dj T P' := fun p hp q hq => by
  have : q.1 ∈ P.map Prod.fst := by rw [e]; exact List.mem_map_of_mem hq
  obtain ⟨q', hq', e'⟩ := List.mem_map.mp this
  rw [← e']
  exact h p hp q' hq'
theorem dj_more {D : Addr} {o : Obj} {T P P' : List (Addr × Obj)} (off : LCg.Off1 D (P' ++ T)) (h : Dj T P) (e : P.map Prod.fst = P'.map Prod.fst) : Dj T ((D, o) :: P') :=
  Dj.cons (fun p hp => off1_mem off p (List.mem_append_right _ hp)) (dj_same h e)
theorem meet_law {w mean mg mb} {k : Nat} (hk : 0 < k) (hk4 : k ≤ 4) {ds es : List Nat} (hd : ∀ d ∈ ds, d < 2 ^ k) (he : ∀ d ∈ es, d < 2 ^ k) (t u v : Tok) :
    Ctr w mean mg mb 221 [.int ((numOf' k ds : Nat) : Int) t, .int ((numOf' k es : Nat) : Int) u, .int ((2 ^ k : Nat) : Int) v] 8 (fun t => .int ((numOf' k (csuf ds es) : Nat) : Int) t) := by
  have hb : 2 ^ k ≤ 2 ^ 4 := Nat.pow_le_pow_right (by decide) hk4
  have h := law_meet (w := w) (mean := mean) (mg := mg) (mb := mb) (numOf' k ds) (numOf' k es) (2 ^ k) t u v (Nat.one_lt_two_pow (by (first | lia | omega))) (by (first | lia | omega))
  rw [meet_num hk _ ds es hd he (Nat.lt_succ_self _)] at h
  exact h
theorem csuf_len (a b : List Nat) : (csuf a b).length ≤ a.length := by
  unfold csuf
  rw [List.length_reverse]
  exact Nat.le_trans (cpre_pre a.reverse b.reverse).1.length_le (by rw [List.length_reverse]; exact Nat.le_refl _)
theorem csuf_ok {k : Nat} {a b : List Nat} (ha : (∀ d ∈ a, d < 2 ^ k) ∧ a.length ≤ 9 ∧ a.length * k < 40) : (∀ d ∈ csuf a b, d < 2 ^ k) ∧ (csuf a b).length ≤ 9 ∧ (csuf a b).length * k < 40 := by
  have h := csuf_len a b
  exact ⟨csuf_lt ha.1, Nat.le_trans h ha.2.1, Nat.lt_of_le_of_lt (Nat.mul_le_mul_right _ h) ha.2.2⟩

theorem strs_carried : ∀ {vs : List Value} {xs : List PySem.Str}, StrsAre vs xs → CarriedAll vs (xs.map PyData.str)
  | _, _, .nil => .nil
  | _, _, .cons _ t r => .cons (.str _ t) (strs_carried r)
theorem strs_lay : ∀ {xs : List PySem.Str}, (∀ x ∈ xs, PyData.strOk x = true) → PyData.canLayAll0 (xs.map PyData.str) = true
  | [], _ => rfl
  | x :: r, h => by simp [PyData.canLayAll0, PyData.canLay0, strs_lay (xs := r) fun y hy => h y (.tail _ hy), h x (.head _)]
theorem strs_depth : ∀ xs : List PySem.Str, PyData.depthAll (xs.map PyData.str) = 0
  | [] => rfl
  | _ :: r => by simp [PyData.depthAll, PyData.depth, strs_depth r]
theorem strs_shaped {xs : List PySem.Str} (h : ∀ x ∈ xs, PyData.strOk x = true) : SeqAt.shaped (.list (xs.map PyData.str)) = true := by
  simp [SeqAt.shaped, PyData.canLay0, PyData.depth, strs_lay h, strs_depth]
theorem ne_strs_same {prog : Program} {w : World} {A : Around} {E : Value → Shared → Prop} {s : Shared} {a b : Addr} {zs ws : List Value} {xs : List PySem.Str} {Q : Value → Shared → Prop} (ha : s.heap.IsList a zs.toArray) (hb : s.heap.IsList b ws.toArray) (hi : StrsAre zs xs) (hj : StrsAre ws xs) (ok : ∀ x ∈ xs, PyData.strOk x = true) (hu : A.units + 64 < cLine) (h : Q (.bool false) s) :
    wpAny (model prog w) A (compareOp .NotEq (.ref a) (.ref b)) Q E s :=
  ne_dataH (reads_newData ha (strs_carried hi)) (reads_newData hb (strs_carried hj)) (strs_shaped ok) (strs_shaped ok) hu (by rw [SeqAt.eqv_refl _ (SeqAt.canLay_of_shaped (strs_shaped ok))]; exact h)
theorem ints_end {n : Int} {t : Tok} : ∀ {vs : List Value} {ns : List Int}, IntsAre vs ns → IntsAre (vs ++ [.int n t]) (ns ++ [n])
  | _, _, .nil => .cons n t .nil
  | _, _, .cons z u r => .cons z u (ints_end r)
theorem common_all {k : Nat} (hk2 : k ≤ 4) {dss : List (List Nat)} (h0 : 0 < dss.length) (hd : ∀ l ∈ dss, ∀ d ∈ l, d < 2 ^ k) : cpath true (dss.map pathOf) = pathOf (dss.foldl csuf (dss.getD 0 [])) := by
  refine cpath_of hk2 (ls := dss) h0 ?_ hd (fold_suf_gcp h0)
  rw [List.map_map]
  exact List.map_congr_left fun l _ => parts_pathOf l
theorem least_law {w mean mg mb} (D : Addr) (vs : List Value) (nn : Nat) {k : Nat} (hk : 0 < k) (hk4 : k ≤ 4) {dss : List (List Nat)} (u : Tok) (hi : IntsAre vs (dss.map fun ds => ((numOf' k ds : Nat) : Int))) (h0 : 0 < dss.length) (h9 : dss.length ≤ 9) (hd : ∀ l ∈ dss, ∀ d ∈ l, d < 2 ^ k) :
    CtrI w mean mg mb 228 [.ref D, .int ((2 ^ k : Nat) : Int) u] 12 [(D, listOf vs.toArray nn)] (fun t => .int ((numOf' k (dss.foldl csuf (dss.getD 0 [])) : Nat) : Int) t) := by
  have hb : 2 ^ k ≤ 2 ^ 4 := Nat.pow_le_pow_right (by decide) hk4
  have h := law_least (w := w) (mean := mean) (mg := mg) (mb := mb) D vs nn (dss.map (numOf' k)) (2 ^ k) u (by rw [List.map_map]; exact hi) (by rw [List.length_map]; (first | lia | omega)) (Nat.one_lt_two_pow (by (first | lia | omega))) (by (first | lia | omega))
  rw [(least_num hk dss h0 hd).1] at h
  exact h
theorem fold_len : ∀ (ds : List (List Nat)) (a : List Nat), (ds.foldl csuf a).length ≤ a.length
  | [], _ => Nat.le_refl _
  | b :: r, a => Nat.le_trans (fold_len r _) (csuf_len a b)
theorem fold_ok {k : Nat} (hk : 0 < k) {dss : List (List Nat)} (h0 : 0 < dss.length) (h : ∀ l ∈ dss, (∀ d ∈ l, d < 2 ^ k) ∧ l.length ≤ 9 ∧ l.length * k < 40) : (∀ d ∈ dss.foldl csuf (dss.getD 0 []), d < 2 ^ k) ∧ (dss.foldl csuf (dss.getD 0 [])).length * k < 40 :=
  ⟨(least_num hk dss h0 fun l hl => (h l hl).1).2, Nat.lt_of_le_of_lt (Nat.mul_le_mul_right _ (fold_len dss _)) (h _ (getD_mem h0)).2.2⟩

theorem ne_same {prog : Program} {w : World} {A : Around} {E : Value → Shared → Prop} {s : Shared} {Q : Value → Shared → Prop} {x : PySem.Str} {t u : Tok} (h : Q (.bool false) s) : wpAny (model prog w) A (compareOp .NotEq (.str x t) (.str x u)) Q E s := by
  refine ne_str ?_
  have e : (x != x) = false := by simp
  rw [e]
  exact h

/-- a figure with its last bit turned -/
def flipN (d : Nat) : Nat := d + 1 - 2 * (d % 2)
theorem pow_even {k : Nat} (hk : 0 < k) : 2 ^ k % 2 = 0 := by
  cases k with
  | zero => (first | lia | omega)
  | succ n => rw [Nat.pow_succ, Nat.mul_mod_left]
theorem flip_lt {k d : Nat} (hk : 0 < k) (h : d < 2 ^ k) : flipN d < 2 ^ k := by
  have := pow_even hk
  unfold flipN
  (first | lia | omega)
theorem flip_ne (d : Nat) : d ≠ flipN d := by unfold flipN; (first | lia | omega)
theorem num_flip {k : Nat} (hk : 0 < k) (d : Nat) (r : List Nat) : Builtin.bitXor ((numOf' k (d :: r) : Nat) : Int) 1 = ((numOf' k (flipN d :: r) : Nat) : Int) := by
  rw [bitXor_and, bitAnd_m1, num_cons', num_cons']
  have h : (2 ^ k * numOf' k r) % 2 = 0 := by rw [Nat.mul_mod, pow_even hk]; simp
  generalize 2 ^ k * numOf' k r = m at h
  unfold flipN
  (first | lia | omega)
theorem cpre_two : ∀ (a : List Nat) {d e : Nat}, d ≠ e → cpre (a ++ [d]) (a ++ [e]) = a
  | [], d, e, h => by
    show (if d = e then d :: cpre [] [] else []) = []
    rw [if_neg h]
  | x :: r, d, e, h => by
    show (if x = x then x :: cpre (r ++ [d]) (r ++ [e]) else []) = _
    rw [if_pos rfl, cpre_two r h]
theorem common_flip {k : Nat} (hk : 0 < k) (hk4 : k ≤ 4) {d : Nat} {r : List Nat} (hd : ∀ x ∈ d :: r, x < 2 ^ k) : cpath true [pathOf (d :: r), pathOf (flipN d :: r)] = pathOf r := by
  refine cpath_of hk4 (ls := [d :: r, flipN d :: r]) (Nat.succ_pos _) ?_ (fun l hl => ?_) ?_
  · simp only [List.map_cons, List.map_nil, parts_pathOf]
  · rcases List.mem_cons.mp hl with rfl | hl
    · exact hd
    · rw [List.mem_singleton.mp hl]
      intro x hx
      rcases List.mem_cons.mp hx with rfl | hx
      · exact flip_lt hk (hd _ (.head _))
      · exact hd x (.tail _ hx)
  · have g := csuf_gcp (d :: r) (flipN d :: r)
    have e : csuf (d :: r) (flipN d :: r) = r := by
      unfold csuf
      rw [List.reverse_cons, List.reverse_cons, cpre_two _ (flip_ne d), List.reverse_reverse]
    rw [e] at g
    exact g
section
variable {prog : Program} {w : World} {A : Around} {E : Value → Shared → Prop} {s : Shared} {Q : Value → Shared → Prop} {k d : Nat} {r : List Nat} {t u : Tok}
theorem xor_law (hk : 0 < k) (h : Q (.int ((numOf' k (flipN d :: r) : Nat) : Int) s.toks) { s with toks := s.toks + 1 }) : wpAny (model prog w) A (binaryOp .BitXor (.int ((numOf' k (d :: r) : Nat) : Int) t) (.int 1 u)) Q E s :=
  xor_int (by rw [num_flip hk]; exact h)
theorem fdiv_law (hk4 : k ≤ 4) (hd : (∀ x ∈ d :: r, x < 2 ^ k) ∧ (d :: r).length ≤ 9 ∧ (d :: r).length * k < 40) (h : Q (.int ((numOf' k r : Nat) : Int) s.toks) { s with toks := s.toks + 1 }) : wpAny (model prog w) A (binaryOp .FloorDiv (.int ((numOf' k (d :: r) : Nat) : Int) t) (.int ((2 ^ k : Nat) : Int) u)) Q E s := by
  have h0 : 0 < 2 ^ k := Nat.pow_pos (by decide)
  have hb : 2 ^ k ≤ 2 ^ 4 := Nat.pow_le_pow_right (by decide) hk4
  refine floordiv_int (by (first | lia | omega)) ?_ (Or.inl (PyProof.noPylong_small (by rw [Int.natAbs_natCast]; (first | lia | omega))))
  rw [fdiv_nat, num_div (hd.1 d (.head _))]
  exact h
theorem flip_ok (hk : 0 < k) (hd : (∀ x ∈ d :: r, x < 2 ^ k) ∧ (d :: r).length ≤ 9 ∧ (d :: r).length * k < 40) : (∀ x ∈ flipN d :: r, x < 2 ^ k) ∧ (flipN d :: r).length * k < 40 :=
  ⟨fun x hx => by
    rcases List.mem_cons.mp hx with rfl | hx
    · exact flip_lt hk (hd.1 _ (.head _))
    · exact hd.1 x (.tail _ hx), hd.2.2⟩
theorem tail_ok (hd : (∀ x ∈ d :: r, x < 2 ^ k) ∧ (d :: r).length ≤ 9 ∧ (d :: r).length * k < 40) : (∀ x ∈ r, x < 2 ^ k) ∧ r.length * k < 40 :=
  ⟨fun x hx => hd.1 x (.tail _ hx), Nat.lt_of_le_of_lt (Nat.mul_le_mul_right _ (Nat.le_succ _)) hd.2.2⟩
end

theorem cpath_const : cpath false [PySem.Str.ofString "a//b/.", PySem.Str.ofString "a/c"] = PySem.Str.ofString "a" := by decide +kernel
theorem starts_const : ∀ x ∈ [PySem.Str.ofString "a//b/.", PySem.Str.ofString "a/c"], Txt.startswith x (PySem.Str.ofString "/") = false := two_of (by decide +kernel) (by decide +kernel)
theorem len_const : ∀ x ∈ [PySem.Str.ofString "a//b/.", PySem.Str.ofString "a/c"], x.length ≤ 2000 := two_of (by decide +kernel) (by decide +kernel)

theorem eq_final {prog : Program} {w : World} {A : Around} {E : Value → Shared → Prop} {s : Shared} {a b : Addr} {t u : Tok} {Q : Value → Shared → Prop} (ha : s.heap.IsList a ([.bool true, .bool true, .str (PySem.Str.ofString "a") t] : List Value).toArray) (hb : s.heap.IsList b ([.bool true, .bool true, .str (PySem.Str.ofString "a") u] : List Value).toArray) (hu : A.units + 64 < cLine) (h : Q (.bool true) s) :
    wpAny (model prog w) A (compareOp .Eq (.ref a) (.ref b)) Q E s := by
  have hs : SeqAt.shaped (.list [.bool true, .bool true, .str (PySem.Str.ofString "a")]) = true := by decide +kernel
  have c : ∀ t, CarriedAll ([.bool true, .bool true, .str (PySem.Str.ofString "a") t] : List Value) [.bool true, .bool true, .str (PySem.Str.ofString "a")] := fun t => .cons (.bool _) (.cons (.bool _) (.cons (.str _ _) .nil))
  exact eq_dataH (reads_newData ha (c t)) (reads_newData hb (c u)) hs hs hu (by rw [SeqAt.eqv_refl _ (SeqAt.canLay_of_shaped hs)]; exact h)

theorem grown_of {T news : List (Addr × Obj)} {h₀ h : Heap} {L : Addr} (oT : OkT T) (N : News h₀ L h news) (sub : ∀ p ∈ T, p ∈ news) : GrownAll [(182, 178), (175, 171)] h := by
  obtain ⟨TA, TB, rfl, hA, hB, _⟩ := oT
  refine ⟨?_, ?_, trivial⟩
  · rcases hB with rfl | ⟨c, oc, rfl, _, _⟩
    · exact ⟨_, (N _ (sub _ (List.mem_append_right _ (.head _)))).1⟩
    · exact ⟨_, (N _ (sub _ (List.mem_append_right _ (.head _)))).1⟩
  · rcases hA with rfl | ⟨c, oc, rfl, _, _⟩
    · exact ⟨_, (N _ (sub _ (List.mem_append_left _ (.head _)))).1⟩
    · exact ⟨_, (N _ (sub _ (List.mem_append_left _ (.head _)))).1⟩

/-- the posts as names: the walk need not carry them -/
theorem post_gen {α : Type} {M : Model} {A : Around} {t : Sem α} {Q : α → Shared → Prop} {E : Value → Shared → Prop} {s : Shared} (h : ∀ (Q' : α → Shared → Prop) (E' : Value → Shared → Prop), (∀ a s, Q a s → Q' a s) → wpAny M A t Q' E' s) : wpAny M A t Q E s := h Q E (fun _ _ h => h)

theorem post_law (xs : List Int) : PySem.Challenge.rw_ik0009_01.row.claim.post [ofPy (PyData.list (List.map PyData.int xs))] (WData.bool true) [ofPy (PyData.list (List.map PyData.int xs))] = true := by
  wrow_post
end Mine
end

open PySem.W in
theorem Mine.offLawA : True := by
  k_with_none
  w_top off
  exact trivial

section
open PySem PySem.W PySem.Spec PySem.Calls PyProof.Rows
namespace Mine

theorem rullawa1 : True := by
  k_with "compareOp Eq ref ref" => (k_here; k_dflt (show Hold _))
  k_with "binaryOp BitXor int int" => (k_here; k_dflt (refine xor_law (by assumption) ?_))
  k_with "binaryOp FloorDiv int int" => (k_here; k_dflt (refine fdiv_law (by assumption) (by assumption) ?_))
  k_with "compareOp NotEq str str" => (k_here; k_dflt (refine ne_same ?_))
  k_with "compareOp NotEq ref ref" => (k_here; k_dflt (show Hold _))
  k_with "binaryOp Pow int int" => (k_here; k_dflt (refine pow_as (by with_reducible assumption) ?_))
  k_with "binaryOp Add str str" => (k_here; k_dflt (refine cat_law (by assumption) ?_); intro tr kr; (try (revert tr kr; intros)))
  k_with "call builtin:str.replace" => (k_here; k_dflt (refine replace_law (by assumption) (by assumption) ?_); intro tr kr; (try (revert tr kr; intros)))
  k_with "assign Tuple" => (k_here; (with_reducible show wpAny _ _ (assign (PySem.Expr.Tuple _ _ _) _ (Value.ref _)) _ _ _); k_dflt (refine' law_unpack ?azlawa8 ?Fzlawa8 ?Nzlawa8 ?pzlawa8 ?mzlawa8 ?dlzlawa8 ?drzlawa8 ?hazlawa8 ?hbzlawa8 ?hkzlawa8 ?hxazlawa8 ?hxbzlawa8 ?_; (case azlawa8 => exact rfl); (case Fzlawa8 => k_asm); (case Nzlawa8 => k_asm); (case pzlawa8 => assumption); (case mzlawa8 => assumption); (case dlzlawa8 => assumption); (case drzlawa8 => assumption); (case hazlawa8 => rfl); (case hbzlawa8 => rfl); (case hkzlawa8 => rfl); (case hxazlawa8 => rfl); (case hxbzlawa8 => rfl); k_whole); intro h' oL' oR' F' N' dR' dL'; (try (revert h' oL' oR' F' N' dR' dL'; intros)))
  k_with "subscriptTail" => (k_here; (with_reducible show wpAny _ _ (subscriptTail _ _ (Value.ref _) (Value.int (-1) _)) _ _ _); (with_unfolding_all refine' item_neg1 ?Nzlawa9 ?mzlawa9 ?zzlawa9 ?vzlawa9 ?_ ?hszlawa9; (case Nzlawa9 => k_asm); (case mzlawa9 => k_mem); (case zzlawa9 => assumption); (case vzlawa9 => assumption); (case hszlawa9 => with_unfolding_all rfl); k_whole))
  k_with "call ref" => (k_here; k_dflt (show Hold _))
  k_with "eval ListComp" => (k_here; k_dflt (show Hold _))
  k_with "binaryOp Add int int" => (k_here; k_dflt (refine wide_add ?_; intro k hk0 hk4; (try (revert k hk0 hk4; intros))))
  trivial
theorem lawT : PySem.Challenge.rw_ik0009_01.Holds := by
  refine hd ?_
  k_go0
  all_goals try k_fold
  refine post_gen fun QZ EZ hQZ => ?_
  have hz : ∀ xs : List Int, (List.take 4 xs ++ [9, 3, 11, 6, 7]).length ≤ 9 := fun xs => by rw [List.length_append]; exact Nat.add_le_add_right (List.length_take_le _ _) 5
  k_steps
  rename_i gL tL oL oR oW0 dL dR dW0 X0 XX TT BB hc1 l0 Dt wt h5 hIt hCt hLt l2 h4 h3 tk3 t3 k hk0 hk4 h2 oW dW l1 h1 ll Dl wl h0 FF NN hIl llD
  have hH : Hds _ := ⟨codeHd, hc1⟩
  refine' walk_first hIl ?z hk0 hk4 BB FF XX NN llD l0 hH TT rfl ?A ?B ?_
  case z => exact hz _
  case A => cb_room
  case B => cb_units
  intro aw vs nn tups T2 h6 tk6 oT hSt dj1 F6 N6 dj2 ne6
  generalize hdss : walkN k [] _ = dss at hSt
  have hdl : dss.length ≤ 9 := by rw [← hdss, walkN_len]; exact hz _
  have hgd : ∀ l ∈ dss, (∀ d ∈ l, d < 2 ^ k) ∧ l.length ≤ 9 ∧ l.length * k < 40 := fun l hl => walk_good hk4 (hz _) (by rw [hdss]; exact hl)
  obtain ⟨dl, rl, hLast⟩ : ∃ dl rl, dss[dss.length - 1]? = some (dl :: rl) := by
    obtain ⟨d, r, e⟩ := walk_last k _
    rw [hdss] at e
    refine ⟨d, r, ?_⟩
    rw [← e, ← hdss, walkN_len, List.length_append]
    rfl
  obtain ⟨al, tl, ul, hvl, hml⟩ := hSt.at' _ _ hLast
  have hgl := hgd _ (List.mem_of_getElem? hLast)
  have hpl2 : (pathOf (dl :: rl)).length ≤ 2000 := Nat.le_trans (path_len (fun d hd => Nat.lt_of_lt_of_le (hgl.1 d hd) (Nat.le_trans (Nat.pow_le_pow_right (by decide) hk4) (by decide : 2 ^ 4 ≤ 16))) (by omega)) (by decide)
  have hvz : vs.length ≤ 9 := by rw [hSt.len]; exact hdl
  have hvl : vs[vs.length - 1]? = some (.ref al) := by rw [← hvl, hSt.len]
  k_steps
  refine ListComp_none (F₀ := by k_asm) (by with_unfolding_all rfl) (by decide) (by rfl) (by decide) (by rfl) (by rfl) (by decide) ?_
  k_steps
  rename Fr _ _ _ _ => F7
  rename News _ _ _ _ => N7
  refine ⟨aw, vs.toArray, _, fun i news => ∃ T, news = (aw, listOf vs.toArray nn) :: (_, oL) :: (_, oR) :: (_, oW) :: (tups ++ T) ∧ OkT T ∧ Dj T ((aw, listOf vs.toArray nn) :: (_, oL) :: (_, oR) :: (_, oW) :: tups), rfl, rfl, F7, N7, .inr ⟨_, .head _, rfl, _, rfl⟩, ?z, ⟨T2, rfl, oT, dj1⟩, ?turn, ?fin⟩
  case turn =>
    rintro i v news hv ⟨T, rfl, oT, dj⟩
    obtain ⟨ds, ta, tt, tu, rfl, hds, hm⟩ := hSt.elim hv
    refine ⟨_, _, ⟨ta, rfl, .tail _ (.tail _ (.tail _ (.tail _ (List.mem_append_left _ hm))))⟩, ?_⟩
    intro I oI C oC D m₂ h tk E' hC hx hx2 F N off ne
    have hg := hgd _ (List.mem_of_getElem? hds)
    k_steps
    refine' cd_turn ((aw, listOf vs.toArray nn) :: (_, oL) :: (_, oR) :: (_, oW) :: tups) (law_told ds k _ _ _ hg.1 hg.2.2 hk0 hk4) oT dj off ?kN BB ?kF XX hH TT rfl ?kA ?kB ?_
    case kN => k_asm
    case kF => k_asm
    case kA => cb_room
    case kB => cb_units
    intro t9 T9 h9 tk9 oT9 dj9 off9 F9 N9
    k_steps
    exact LCg.CompEnd.intro F9 N9 _ (fun _ hp => hp) off9 (.inr ⟨_, .head _, rfl, _, rfl⟩) ⟨T9, rfl, oT9, dj9⟩
  case z => rw [List.size_toArray, sizeLine_eq]; omega
  case fin =>
    rintro news ⟨T, rfl, oT, dj⟩ D1 h tk F N off
    have ap := Apart.of dj2 dj
    dsimp only
    k_steps
    refine' ne_strs_same (zs := []) (ws := []) (xs := []) (list_in (n := 0) ?N1 (.tail _ (.head _))) (list_in (n := 0) ?N2 (.head _)) .nil .nil (fun _ h => nomatch h) (by ke_room) ?_
    case N1 => k_asm
    case N2 => k_asm
    dsimp only
    k_steps
    refine ListComp_more (F₀ := by k_asm) (by with_unfolding_all rfl) (by decide) (by rfl) (by decide) (by rfl) (by rfl) (by decide) ?_
    k_steps
    rename_i h5 oL2 oR2 F5 N5 dR2 dL2
    refine ⟨aw, vs.toArray, _, fun i ys news => news = (aw, listOf vs.toArray nn) :: (_, oL2) :: (_, oR2) :: (_, oW) :: (tups ++ T) ∧ StrsAre ys ((dss.take i).map fun ds => pathOf (csuf ds (dl :: rl))), rfl, rfl, F5, N5, .inr ⟨_, .head _, rfl, _, rfl⟩, by rw [List.size_toArray, sizeLine_eq]; omega, ⟨rfl, .nil⟩, ?turn2, ?fin2⟩
    case turn2 =>
      rintro i v ys news hv ⟨rfl, hy⟩
      obtain ⟨ds, ta, tt, tu, rfl, hds, hm⟩ := hSt.elim hv
      refine ⟨_, _, ⟨ta, rfl, .tail _ (.tail _ (.tail _ (.tail _ (List.mem_append_left _ hm))))⟩, ?_⟩
      intro I oI C oC D m₂ h tk2 E' htk hC hx hx2 F N off ne
      have htk2 : (0 : Nat) < tk2 := Nat.lt_of_lt_of_le (Nat.succ_pos _) htk
      have hg := hgd _ (List.mem_of_getElem? hds)
      have hd16 : ∀ d ∈ ds, d < 16 := fun d hd => Nat.lt_of_lt_of_le (hg.1 d hd) (Nat.le_trans (Nat.pow_le_pow_right (by decide) hk4) (by decide : 2 ^ 4 ≤ 16))
      have hpl : (pathOf ds).length ≤ 1000 := path_len hd16 (by omega)
      have hll := long_len hd16 hg.2.1
      k_steps
      rename_i lc hc lF lN llt
      refine' ci_use (commonpath lc _ _ [longP (pathOf ds), pathOf (dl :: rl)] true (.cons _ _ (.cons _ _ .nil)) ⟨Nat.succ_pos _, Nat.le_of_ble_eq_true rfl⟩ (two_of (starts_long ds) (starts_pathOf _)) (two_of hll hpl2)) BB lF XX lN TT rfl ?kA ?kB ?_
      case kA => cb_room
      case kB => cb_units
      intro t9 h9 tk9 F9 N9
      rw [common_two hk4 hg.1 hgl.1]
      exact LCg.CompEnd.intro F9 N9 _ (fun _ hp => .tail _ hp) off (.inr ⟨_, .head _, rfl, _, rfl⟩) ⟨rfl, by rw [take_snoc hds]; exact strs_snoc hy⟩
    case fin2 =>
      rintro ys news ⟨rfl, hy⟩ D2 h tk2 F N off2
      dsimp only
      k_steps
      refine ListComp_more (F₀ := by k_asm) (by with_unfolding_all rfl) (by decide) (by rfl) (by decide) (by rfl) (by rfl) (by decide) ?_
      k_steps
      rename Fr _ _ _ _ => F6
      rename News _ _ _ _ => N6
      refine ⟨aw, vs.toArray, _, fun i zs news => ∃ T, news = (D2, LCg.lst ys) :: (aw, listOf vs.toArray nn) :: (_, oL2) :: (_, oR2) :: (_, oW) :: (tups ++ T) ∧ OkT T ∧ Dj T ((D2, LCg.lst ys) :: (aw, listOf vs.toArray nn) :: (_, oL2) :: (_, oR2) :: (_, oW) :: tups) ∧ StrsAre zs ((dss.take i).map fun ds => pathOf (csuf ds (dl :: rl))), rfl, rfl, F6, N6, .inr ⟨_, .tail _ (.head _), rfl, _, rfl⟩, by rw [List.size_toArray, sizeLine_eq]; omega, ⟨T, rfl, oT, dj_more (P' := (aw, listOf vs.toArray nn) :: (_, oL2) :: (_, oR2) :: (_, oW) :: tups) off2 dj rfl, .nil⟩, ?turn3, ?fin3⟩
      case turn3 =>
        rintro i v zs news hv ⟨T, rfl, oT, dj, hy⟩
        obtain ⟨ds, ta, tt, tu, rfl, hds, hm⟩ := hSt.elim hv
        refine ⟨_, _, ⟨ta, rfl, .tail _ (.tail _ (.tail _ (.tail _ (.tail _ (List.mem_append_left _ hm)))))⟩, ?_⟩
        intro I oI C oC D m₂ h tk3 E' htk hC hx hx2 F N off ne
        have hg := hgd _ (List.mem_of_getElem? hds)
        have hgc := csuf_ok (b := dl :: rl) hg
        k_steps
        refine' ctr_use (meet_law hk0 hk4 hg.1 hgl.1 _ _ _) BB ?kF XX ?kN TT rfl ?kA ?kB ?_
        case kF => k_asm
        case kN => k_asm
        case kA => cb_room
        case kB => cb_units
        intro t8 h8 tk8 F8 N8
        k_steps
        refine' cd_turn ((D2, LCg.lst ys) :: (aw, listOf vs.toArray nn) :: (_, oL2) :: (_, oR2) :: (_, oW) :: tups) (law_path (csuf ds (dl :: rl)) k _ _ hgc.1 hgc.2.2 hk0 hk4) oT dj off ?kN BB ?kF XX hH TT rfl ?kA ?kB ?_
        case kN => k_asm
        case kF => k_asm
        case kA => cb_room
        case kB => cb_units
        intro t9 T9 h9 tk9 oT9 dj9 off9 F9 N9
        exact LCg.CompEnd.intro F9 N9 _ (fun _ hp => hp) off9 (.inr ⟨_, .tail _ (.head _), rfl, _, rfl⟩) ⟨T9, rfl, oT9, dj9, by rw [take_snoc hds]; exact strs_snoc hy⟩
      case fin3 =>
        rintro zs news ⟨T, rfl, oT, dj, hz3⟩ D3 h tk F N off3
        dsimp only
        k_steps
        have hsz : vs.toArray.size = dss.length := by rw [List.size_toArray, hSt.len]
        rw [hsz, List.take_length] at hy hz3
        refine ne_strs_same (list_in (n := ys.length) N (.tail _ (.head _))) (list_in (n := zs.length) N (.head _)) hy hz3 (fun x hx => by obtain ⟨l, _, rfl⟩ := List.mem_map.mp hx; exact ok_path _) (by ke_room) ?_
        k_steps
        have h0 : 0 < dss.length := by have := (List.getElem?_eq_some_iff.mp hLast).1; omega
        have dj2 : Dj T ((aw, listOf vs.toArray nn) :: (_, oL2) :: (_, oR2) :: (_, oW) :: tups) := fun p hp q hq => dj p hp q (.tail _ hq)
        refine ListComp_more (F₀ := by k_asm) (by with_unfolding_all rfl) (by decide) (by rfl) (by decide) (by rfl) (by rfl) (by decide) ?_
        k_steps
        rename Fr _ _ _ _ => F6
        rename News _ _ _ _ => N6
        refine ⟨aw, vs.toArray, _, fun i zs news => news = (aw, listOf vs.toArray nn) :: (_, oL2) :: (_, oR2) :: (_, oW) :: (tups ++ T) ∧ StrsAre zs ((dss.take i).map pathOf), rfl, rfl, F6, newsSub N6 (fun p hp => .tail _ (.tail _ hp)), .inr ⟨_, .head _, rfl, _, rfl⟩, by rw [List.size_toArray, sizeLine_eq]; omega, ⟨rfl, .nil⟩, ?turn4, ?fin4⟩
        case turn4 =>
          rintro i v zs news hv ⟨rfl, hy⟩
          obtain ⟨ds, ta, tt, tu, rfl, hds, hm⟩ := hSt.elim hv
          refine ⟨_, _, ⟨ta, rfl, .tail _ (.tail _ (.tail _ (.tail _ (List.mem_append_left _ hm))))⟩, ?_⟩
          intro I oI C oC D m₂ h tk3 E' htk hC hx hx2 F N off ne
          k_steps
          exact LCg.CompEnd.intro F N _ (fun _ hp => hp) off (.inr ⟨_, .head _, rfl, _, rfl⟩) ⟨rfl, by rw [take_snoc hds]; exact strs_snoc hy⟩
        rintro ys4 news ⟨rfl, hy4⟩ D4 h tk F N off4
        dsimp only
        rw [hsz, List.take_length] at hy4
        k_steps
        refine' ci_use (commonpath D4 ys4 _ (dss.map pathOf) true hy4 ⟨by rw [List.length_map]; exact h0, by rw [List.length_map]; omega⟩ (fun x hx => by obtain ⟨l, _, rfl⟩ := List.mem_map.mp hx; exact starts_pathOf _) (fun x hx => ?pl)) BB F XX N TT rfl ?kA ?kB ?_
        case pl =>
          obtain ⟨l, hl, rfl⟩ := List.mem_map.mp hx
          have hg := hgd l hl
          exact Nat.le_trans (path_len (fun d hd => Nat.lt_of_lt_of_le (hg.1 d hd) (Nat.le_trans (Nat.pow_le_pow_right (by decide) hk4) (by decide : 2 ^ 4 ≤ 16))) (by omega)) (by decide)
        case kA => cb_room
        case kB => cb_units
        intro t9 h9 tk9 F9 N9
        rw [common_all hk4 h0 fun l hl => (hgd l hl).1]
        k_steps
        refine ListComp_more (F₀ := by k_asm) (by with_unfolding_all rfl) (by decide) (by rfl) (by decide) (by rfl) (by rfl) (by decide) ?_
        k_steps
        rename Fr _ _ _ _ => F6
        rename News _ _ _ _ => N6
        refine ⟨aw, vs.toArray, _, fun i zs news => news = (aw, listOf vs.toArray nn) :: (_, oL2) :: (_, oR2) :: (_, oW) :: (tups ++ T) ∧ IntsAre zs ((dss.take i).map fun ds => ((numOf' k ds : Nat) : Int)), rfl, rfl, F6, newsSub N6 (fun p hp => .tail _ hp), .inr ⟨_, .head _, rfl, _, rfl⟩, by rw [List.size_toArray, sizeLine_eq]; omega, ⟨rfl, .nil⟩, ?turn5, ?fin5⟩
        case turn5 =>
          rintro i v zs news hv ⟨rfl, hy⟩
          obtain ⟨ds, ta, tt, tu, rfl, hds, hm⟩ := hSt.elim hv
          refine ⟨_, _, ⟨ta, rfl, .tail _ (.tail _ (.tail _ (.tail _ (List.mem_append_left _ hm))))⟩, ?_⟩
          intro I oI C oC D m₂ h tk3 E' htk hC hx hx2 F N off ne
          k_steps
          exact LCg.CompEnd.intro F N _ (fun _ hp => hp) off (.inr ⟨_, .head _, rfl, _, rfl⟩) ⟨rfl, by rw [take_snoc hds]; exact ints_end hy⟩
        rintro ys5 news ⟨rfl, hy5⟩ D5 h tk F N off5
        dsimp only
        rw [hsz, List.take_length] at hy5
        k_steps
        refine' ci_use (least_law D5 ys5 _ hk0 hk4 _ hy5 h0 hdl fun l hl => (hgd l hl).1) BB F XX N TT rfl ?kA ?kB ?_
        case kA => cb_room
        case kB => cb_units
        intro t8 h8 tk8 F8 N8
        k_steps
        have hfo := fold_ok hk0 h0 hgd
        refine' dp_use (own := (aw, listOf vs.toArray nn) :: (_, oL2) :: (_, oR2) :: (_, oW) :: tups) (law_path _ k _ _ hfo.1 hfo.2 hk0 hk4 _) BB ?kF XX (newsSub N8 (fun p hp => .tail _ hp)) oT dj2 hH TT rfl ?kA ?kB ?_
        case kF => k_asm
        case kA => cb_room
        case kB => cb_units
        intro t7 T7 h7 tk7 oT7 dj7 F7 N7
        simp only [List.cons_append] at N7
        k_steps
        have hff := flip_ok hk0 hgl
        have htl := tail_ok hgl
        have hpl3 : (pathOf (flipN dl :: rl)).length ≤ 2000 := Nat.le_trans (path_len (fun d hd => Nat.lt_of_lt_of_le (hff.1 d hd) (Nat.le_trans (Nat.pow_le_pow_right (by decide) hk4) (by decide : 2 ^ 4 ≤ 16))) (show (dl :: rl).length < 40 by omega)) (by decide)
        refine' dp_use (own := (aw, listOf vs.toArray nn) :: (_, oL2) :: (_, oR2) :: (_, oW) :: tups) (law_path (flipN dl :: rl) k _ _ hff.1 hff.2 hk0 hk4 _) BB ?kF XX ?kN oT7 dj7 hH TT rfl ?kA ?kB ?_
        case kF => k_asm
        case kN => k_asm
        case kA => cb_room
        case kB => cb_units
        intro t6 T6 h6 tk6 oT6 dj6 F6 N6
        simp only [List.cons_append] at N6
        k_steps
        rename_i lc hc lF lN llt
        refine' ci_use (commonpath lc _ _ [pathOf (dl :: rl), pathOf (flipN dl :: rl)] true (.cons _ _ (.cons _ _ .nil)) ⟨Nat.succ_pos _, Nat.le_of_ble_eq_true rfl⟩ (two_of (starts_pathOf _) (starts_pathOf _)) (two_of hpl2 hpl3)) BB lF XX lN TT rfl ?kA ?kB ?_
        case kA => cb_room
        case kB => cb_units
        intro t5 h5 tk5 F5 N5
        rw [common_flip hk0 hk4 hgl.1]
        k_steps
        refine' dp_use (own := (aw, listOf vs.toArray nn) :: (_, oL2) :: (_, oR2) :: (_, oW) :: tups) (law_path rl k _ _ htl.1 htl.2 hk0 hk4 _) BB ?kF XX (newsSub N5 (fun p hp => .tail _ hp)) oT6 dj6 hH TT rfl ?kA ?kB ?_
        case kF => k_asm
        case kA => cb_room
        case kB => cb_units
        intro t4 T4 h4 tk4 oT4 dj4 F4 N4
        simp only [List.cons_append] at N4
        k_steps
        rename_i le he eF eN elt
        refine' c0_use (refused_nil le _) BB eF XX eN TT XX TT rfl ?kA ?kB ?_
        case kA => cb_room
        case kB => cb_units
        intro t3 h3 tk3 F3 N3
        simp only [List.cons_append, List.nil_append] at N3
        k_steps
        rename_i lm hm mF mN mlt
        refine' c1_use (refused_mix lm _ _ _) BB mF XX mN TT XX TT (Nat.le_refl _) rfl ?kA ?kB ?_
        case kA => cb_room
        case kB => cb_units
        intro t2 h2 tk2 F2 N2
        simp only [List.cons_append, List.nil_append] at N2
        k_steps
        rename_i lz hz9 zF zN zlt
        refine' ci_use (commonpath lz _ _ [PySem.Str.ofString "a//b/.", PySem.Str.ofString "a/c"] false (.cons _ _ (.cons _ _ .nil)) ⟨Nat.succ_pos _, Nat.le_of_ble_eq_true rfl⟩ starts_const len_const) BB zF XX zN TT rfl ?kA ?kB ?_
        case kA => cb_room
        case kB => cb_units
        intro t1 h1 tk1 F1 N1
        rw [cpath_const]
        simp only [List.cons_append, List.nil_append] at N1
        k_steps
        refine' eq_final (list_in (n := 0) ?N1 (.tail _ (.head _))) (list_in (n := 0) ?N2 (.head _)) (by ke_room) ?_
        case N1 => k_asm
        case N2 => k_asm
        rename Fr _ _ _ _ => FZ
        rename News _ _ _ _ => NZ
        refine hQZ _ _ ?_
        dsimp only
        refine And.intro ?g ?t
        case g =>
          exact goodW_bool FZ (by assumption) (raisesW_false (fun ct h => nomatch h)) (post_law _)
        case t => exact grown_of oT4 NZ (by intro p hp; repeat (first | exact List.mem_append_right _ hp | refine List.Mem.tail _ ?_))
end Mine
end

theorem PySem.Challenge.cw_ik0009_01_holds : PySem.Challenge.rw_ik0009_01.Holds :=
  Mine.lawT
