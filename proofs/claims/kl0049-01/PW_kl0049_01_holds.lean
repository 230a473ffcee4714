import PyProof.Rows.All
import Wide.All
import OpenK.AllK
import Wide.FinOn
import PySem.Challenge.RW_kl0049_01
open PySem PySem.W PyProof.Rows
set_option Elab.async false
set_option maxRecDepth 100000
set_option maxHeartbeats 0
set_option linter.unusedSimpArgs false
set_option linter.unusedVariables false
set_option linter.deprecated false
namespace Mine

/- HD -/
/-- the statements of a text that the law leans on -/
def keptOf (b : List Stmt) : List Stmt := b.take 1 ++ (b.drop 2).take 1 ++ (b.drop 4).take 2 ++ (b.drop 7).take 2 ++ b.drop 10
def hd.view_39 : Program := { PySem.Challenge.rw_kl0049_01.row.prog with main := { PySem.Challenge.rw_kl0049_01.row.prog.main with body := keptOf PySem.Challenge.rw_kl0049_01.row.prog.main.body } }
local macro_rules | `(tactic| o_head (kHook $k $a $e)) => `(tactic| (
  refine holds_open (q := Mine.hd.view_39) (loose := [Str.ofString "Whitespace", Str.ofString "_Accumulator"]) (Xt := fun s => xlAt Mine.hd.view_39 [] s && recOk (RowW.records (OpenRow.toRowW PySem.Challenge.rw_kl0049_01.row)) s) (XP := XL Mine.hd.view_39 []) (Yf := Hook.obs (kmHook $k $a $e [136, 143])) (Ya := Hook.val (kmHook $k $a $e [136, 143])) (YP := Hook.says (kmHook $k $a $e [136, 143])) (N := 2526) ?hl (Hook.of (kmHook $k $a $e [136, 143])) (Hook.keeps (kmHook $k $a $e [136, 143])) (fun s e => xl_of s (Bool.and_eq_true_iff.mp e).1) XL.keeps (by rfl) (by rfl) (by rfl) (fun s e => recFacts_of (Bool.and_eq_true_iff.mp e).2) (by first | rfl | fail "open_line: no head takes a call that writes beside a table") (by first | assumption | decide +kernel) (by decide +kernel) ⟨rfl, rfl, rfl, rfl, rfl, by decide +kernel⟩ ?hw ?hc
  case hl =>
    refine LeftO.of_split "special-get-raises" ?_
    intro w
    unfold topFrom
    rw [PySem.W.Fast.te14082659384304107361, PySem.W.Fast.te14364793385576792824, PySem.W.Fast.te4187177175401517315, PySem.W.Fast.te5923862056798008813]
    unfold hd.view_39
    rw [$(Lean.mkIdent `PySem.W.Fast.te13380386993372920047):ident]
    kernel_rfl))
open_top hd for PySem.Challenge.rw_kl0049_01

open PySem.Calls PySem.Spec

/- MB -/
theorem warm : PySem.Challenge.rw_kl0049_01.row.prog = PySem.Challenge.rw_kl0049_01.row.prog ∧ hd.heap_39 = hd.heap_39 := by
  k_fill
  exact ⟨rfl, rfl⟩

/-- a goal, kept out of sight while facts are taken apart -/
theorem hide {P : Prop} (h : ∀ P' : Prop, (P → P') → P') : P := h P id

abbrev MD (w : World) : Model := model PySem.Challenge.rw_kl0049_01.row.prog w

/-- a frame's map, as a written list of names -/
def fm : List (Str × Value) → Str → Option Value
  | [], _ => none
  | (k, v) :: r, y => if y = k then some v else fm r y
theorem fm_cons (k : Str) (v : Value) (r : List (Str × Value)) : (fun y => if y = k then some v else fm r y) = fm ((k, v) :: r) := rfl
theorem fm_lookup (l : List (Str × Value)) : (fun y => l.lookup y) = fm l := by
  funext y
  induction l with
  | nil => rfl
  | cons p r ih =>
    obtain ⟨k, v⟩ := p
    simp only [List.lookup_cons, fm]
    by_cases h : y = k
    · subst h; simp
    · have : (y == k) = false := by simpa using h
      rw [this, if_neg h]; exact ih

/-- where a def's frame stands: all that does not turn while it runs -/
structure At (w : World) (A : Around) (L : Addr) (h₀ : Heap) : Prop where
  calm : A.handled = none
  kin : (hd.heap_39 w.params).In h₀
  ex : ∃ (loose : List Str) (mg mb : Str → Option Value) (bm : Addr) (ob : Obj) (A₀ : Around) (base : Heap) (outer : List Env) (env : Env),
    Below A₀ base outer h₀ ∧ TopRead hd.view_39 loose mg mb h₀ ∧ BMod h₀ mainGlobals mg bm ob ∧ A.frames = some (env :: outer) ∧ env.frame = some L ∧ env.scope.kind = .function

section
variable {w : World} {A : Around} {L : Addr} {h₀ : Heap} {s : Shared} {m : Str → Option Value} {news : List (Addr × Obj)} {E : Value → Shared → Prop} {Q : Value → Shared → Prop}
  {name qual : Str} {params : Arguments} {body : List Stmt} {scope : Scope} {cl : List (Str × Addr)} {dV kV doc pm cdv ct oc : Value} {an od : Option Addr} {osl : Array (Option Value)} {f : Addr} {vals : List Value} {binds : List (Str × Value)}

/-- the way back out of a called def: what the callee leaves, told over the caller's own frame -/
def Ret (h₀ : Heap) (L : Addr) (m : Str → Option Value) (g : Heap) (Q : Value → Shared → Prop) (v : Value) (s' : Shared) : Prop :=
  ∃ L' m' news', Fr g L' s'.heap m' ∧ News g L' s'.heap news' ∧ (Fr h₀ L s'.heap m → News h₀ L s'.heap news' → Q v s')

theorem At.call (G : At w A L h₀) (F : Fr h₀ L s.heap m) (N : News h₀ L s.heap news)
    (ho : (hd.heap_39 w.params).lookup f = some ⟨oc, od, .func (fnX name qual params body scope cl dV kV doc pm an cdv ct), osl⟩)
    (hcd : codeIn (hd.heap_39 w.params) cdv qual = true) (hroom : A.depth < recursionLimit)
    (hbind : BindsTo s (fnX name qual params body scope cl dV kV doc pm an cdv ct) ⟨vals, []⟩ binds) (hloc : ∀ y ∈ binds, scope.names.lookup y.1 = some .local)
    (hcell : ∀ x ∈ scope.names, x.2 ≠ .cell) (hco : scope.isCoroutine = false) (hgen : scope.isGenerator = false) (hk : scope.kind = .function)
    (h : ∀ g L' h₁ E', At w (A.deeper (envX qual scope L' f cdv cl)) L' g → Fr g L' h₁ (fm binds.reverse) → News g L' h₁ news → (∀ p ∈ news, p.1 < L') →
      wpAny (MD w) (A.deeper (envX qual scope L' f cdv cl)) (execs body (envX qual scope L' f cdv cl))
        (fun fl s' => Ret h₀ L m g Q (match fl with | .ret v => v | _ => .none) s') E' { s with heap := h₁, toks := s.toks + binds.length }) :
    wpAny (MD w) A (PySem.call (.ref f) vals) Q E s := by
  obtain ⟨calm, X₀, loose, mg, mb, bm, ob, A₀, base, outer, env, B, T, M, hA, hf, hke⟩ := G
  refine wpAny_call (callX_plain B F N T.nolimit hA hf hke ((X₀.keeps F.keep) _ _ ho) rfl (codeRec_of (X₀.keeps F.keep) hcd) hroom hbind hloc (fun g L' h₁ FG F' N' B' st lt => ?_) hcell hco hgen hk)
  have F'' : Fr g L' h₁ (fm binds.reverse) := by rw [← fm_lookup]; exact F'
  exact h g L' h₁ _ ⟨calm, X₀.keeps st, loose, mg, mb, bm, ob, A, base, env :: outer, envX qual scope L' f cdv cl, B', T.keeps st, M.keeps st, by show (A.deeper _).frames = _; unfold Around.deeper; rw [hA]; rfl, rfl, hk⟩ F'' N' lt
end
/- MC -/
section
variable {A : Around} {E : Value → Shared → Prop} {s : Shared} {env : Env}
def thenOn (k : Sem Flow) (f : Flow) : Sem Flow := match f with | .next => k | f => pure f
theorem execs_cons (x : Stmt) (b : List Stmt) : execs (x :: b) env = exec x env >>= thenOn (execs b env) := by
  show (exec x env >>= fun f => match f with | .next => execs b env | f => pure f) = _
  congr 1
theorem execs_eq : ∀ (n : Nat) (b : List Stmt), execs b env = execs (b.take n) env >>= thenOn (execs (b.drop n) env)
  | 0, b => by
    show _ = (pure Flow.next >>= thenOn (execs b env))
    rw [pure_bind]; rfl
  | n + 1, [] => by
    show _ = (pure Flow.next >>= thenOn (execs [] env))
    rw [pure_bind]; rfl
  | n + 1, x :: b => by
    rw [List.take_succ_cons, List.drop_succ_cons, execs_cons, execs_cons, bind_assoc]
    congr 1
    funext f
    cases f with
    | next => exact execs_eq n b
    | _ => simp only [thenOn, pure_bind]
theorem execs_split {M : Model} {Q : Flow → Shared → Prop} (n : Nat) (h : wpAny M A (execs (b.take n) env) (fun f s' => match f with | .next => wpAny M A (execs (b.drop n) env) Q E s' | f => Q f s') E s) : wpAny M A (execs b env) Q E s := by
  rw [execs_eq n b]
  refine wpAny_bind (wpAny_mono h (fun f s' z => ?_) fun _ _ z => z)
  cases f <;> first | exact z | exact wpAny_pure z
/-- some statements first, what holds behind them, then the rest -/
theorem execs_cut {M : Model} {Q : Flow → Shared → Prop} {b : List Stmt} (n : Nat) (P : Shared → Prop) (h1 : wpAny M A (execs (b.take n) env) (fun f s' => f = .next ∧ P s') E s) (h2 : ∀ s', P s' → wpAny M A (execs (b.drop n) env) Q E s') : wpAny M A (execs b env) Q E s :=
  execs_split n (wpAny_mono h1 (fun f s' ⟨e, z⟩ => by subst e; exact h2 s' z) fun _ _ z => z)
end
/-- an accumulator: an object of the list's own subclass -/
abbrev accObj (dx : Addr) (items : Array Value) (n : Nat) : Obj := { cls := .ref 174, dict := some dx, data := .seq items n }
abbrev iniObj (P : Params) (t0 : Tok) (k : Int) (tk : Tok) : Obj := dictOf [⟨PyData.keyHash P (Str.ofString "_initial_size"), .str (Str.ofString "_initial_size") t0, .int k tk⟩] 1

theorem acc_at {h : Heap} {x dx : Addr} {items : Array Value} {n : Nat} {od : Obj} (h1 : h.get? x = some (accObj dx items n)) (h2 : h.get? dx = some od) : InstAt h x (accObj dx items n) 174 (some od) := ⟨h1, rfl, rfl, h2⟩

section
variable {prog : Program} {w : World} {A : Around} {E : Value → Shared → Prop} {s : Shared} {K : Frag} {x C : Addr} {ox : Obj} {od : Option Obj} {name : Str}

theorem check_self {i owner n : String} {self : Value} {rest : List Value} {kw : List (Str × Value)} {M : Model} {Q : Unit → Shared → Prop}
    (hk : builtinKind i = some .slot ∨ builtinKind i = some .method) (hs : splitId i = some (owner, n)) (hi : Looks M s.heap (isInstance self (.type owner)) true) (ha : argsOk i ⟨self :: rest, kw⟩) (q : Q () s) :
    wpAny M A (checkBuiltinCall i ⟨self :: rest, kw⟩) Q E s := by
  have fin : wpAny M A (match Manifest.signature? i with | some sg => Bind.checkArgs i sg ⟨self :: rest, kw⟩ | none => pure ()) Q E s := by
    cases hsig : Manifest.signature? i with
    | none => exact wpAny_pure q
    | some sig =>
      simp only [argsOk, hsig] at ha
      have h2 : Bind.checkArgs i sig ⟨self :: rest, kw⟩ = pure () := ha
      show wpAny M A (Bind.checkArgs i sig ⟨self :: rest, kw⟩) Q E s
      rw [h2]; exact wpAny_pure q
  rcases hk with hk | hk <;>
  · simp only [checkBuiltinCall, hk, hs]
    refine wpAny_bind (hi.here ?_)
    simp only [Bool.not_true, Bool.false_eq_true, if_false]
    cases hsig : Manifest.signature? i with
    | none => rw [hsig] at fin; exact fin
    | some sig => rw [hsig] at fin; exact fin

/-- a method of a built-in base called upon an object of the text's own class -/
theorem call_self {id owner n : String} {b : Builtin} {self : Value} {rest : List Value} {Q : Value → Shared → Prop}
    (hk : builtinKind id = some .slot ∨ builtinKind id = some .method) (hs : splitId id = some (owner, n)) (hi : Looks (model prog w) s.heap (isInstance self (.type owner)) true) (ha : argsOk id ⟨self :: rest, []⟩)
    (hp : plainId id = true) (hb : entryFor table id = some b)
    (h : wpAny (model prog w) A.in1 (b ⟨self :: rest, []⟩) (fun fin s' => match fin with | .done f => wants Q E (.ok f) s' | .again c' => c'.quiet = true ∧ codeAny (model prog w) A c' (wants Q E) s') (fun e s' => wants Q E (.error e) s') s) :
    wpAny (model prog w) A (call (.builtin id) (self :: rest)) Q E s :=
  wpAny_call (codeAny_call_builtin hp hb (check_self hk hs hi ha h))

theorem inst_sub {h : Heap} {M : Model} {b : Value} (X : K.In h) (I : InstAt h x ox C od) (e : subIn K (.ref C) b = some true) : Looks M h (isInstance (.ref x) b) true :=
  I.type.andThen (looks_subIn X e)

theorem getMethod_own {ga : String} {f tf : Value} {pl : Sem Bool} {dx : Addr} {oD : Obj} {Q : Value × List Value → Shared → Prop} (X : K.In s.heap) (I : InstAt s.heap x ox C (some oD)) (hdx : ox.dict = some dx)
    (hga : findIn K (.ref C) "__getattribute__" = some (some (.builtin ga))) (hcan : (Manifest.canonical ga != "object.__getattribute__") = false) (hgt : findIn K (.ref C) "__getattr__" = some none)
    (hf : findIn K (.ref C) name = some (some f)) (ht : typeIn K f = some tf) (htf : (tf != .type "function" && tf != .type "method_descriptor" && tf != .type "wrapper_descriptor") = false)
    (hown : lookIn name oD = some none) (h : Q (f, [.ref x]) s) : wpAny (model prog w) A (getMethod (.ref x) name pl) Q E s := by
  have hd := I.dict
  rw [hdx] at hd
  unfold getMethod
  refine wpAny_bind ((I.type.andThen (looks_findIn X hga)).here ?_)
  show wpAny _ _ (if (Manifest.canonical ga != "object.__getattribute__") = true then _ else _) _ _ _
  rw [hcan, if_neg Bool.false_ne_true]
  refine wpAny_bind ((I.type.andThen (looks_findIn X hgt)).here ?_)
  refine wpAny_bind ((I.type.andThen (looks_findIn X hf)).here ?_)
  refine wpAny_bind ((looks_typeIn X ht).here ?_)
  simp only [htf, Bool.false_eq_true, if_false]
  refine wpAny_bind (wpAny_loadPart I.at_ ?_)
  simp only [hdx]
  refine wpAny_bind (wpAny_bind (wpAny_loadPart hd ?_))
  rw [nsLook_of hown]
  refine wpAny_pure ?_
  simp only [Option.isSome_none, Bool.false_eq_true, if_false]
  exact wpAny_bind (wpAny_rule (wpAny_pure h))
end
section
variable {w : World} {A : Around} {E : Value → Shared → Prop} {s : Shared} {x dx L : Addr} {h₀ : Heap} {m : Str → Option Value} {news : List (Addr × Obj)} {items : Array Value} {n : Nat} {oD : Obj}

theorem upd_news {h₀ h : Heap} {L d : Addr} {m : Str → Option Value} {news : List (Addr × Obj)} {o o' : Obj} {f : Obj → Obj} (F : Fr h₀ L h m) (N : News h₀ L h news) (hd : (d, o) ∈ news) (e : f o = o') (hf : o'.isFreed = false) :
    Fr h₀ L (h.update d f) m ∧ News h₀ L (h.update d f) (news.map fun p => if p.1 = d then (d, o') else p) := by
  have D := N (d, o) hd
  obtain ⟨oL, es, ep, hL, r⟩ := F.ns
  refine ⟨⟨⟨oL, es, ep, (Heap.get?_update_ne _ _ _ _ (Ne.symm D.2.1)).trans hL, r⟩, fun b x q => (Heap.get?_update_ne _ _ _ _ fun z => ?_).trans (F.keep b x q), F.above⟩, fun p hp => ?_⟩
  · have := D.2.2; rw [← z, q] at this; cases this
  · obtain ⟨q, hq, rfl⟩ := List.mem_map.mp hp
    by_cases hqd : q.1 = d
    · simp only [if_pos hqd]
      exact ⟨e ▸ Heap.get?_update_self _ D.1 (e ▸ hf), D.2⟩
    · simp only [if_neg hqd]
      have P := N q hq
      exact ⟨(Heap.get?_update_ne _ _ _ _ hqd).trans P.1, P.2⟩

/-- the ledger with the object at d turned -/
def put (d : Addr) (o' : Obj) (news : List (Addr × Obj)) : List (Addr × Obj) := news.map fun p => if p.1 = d then (d, o') else p

theorem getMethod_acc_append {pl : Sem Bool} {Q : Value × List Value → Shared → Prop} (X₀ : (hd.heap_39 w.params).In h₀) (F : Fr h₀ L s.heap m) (N : News h₀ L s.heap news) (hx : (x, accObj dx items n) ∈ news) (hd : (dx, oD) ∈ news) (ho : lookIn (Str.ofString "append") oD = some none)
    (h : Q (.builtin "list.append", [.ref x]) s) : wpAny (MD w) A (getMethod (.ref x) (Str.ofString "append") pl) Q E s :=
  getMethod_own (X₀.keeps F.keep) (acc_at (N _ hx).1 (N _ hd).1) rfl (by k_is) (by decide +kernel) (by k_is) (by k_is) (by k_is) (by decide +kernel) ho h

end
/- MD1 -/
section
variable {w : World} {A : Around} {E : Value → Shared → Prop} {s : Shared} {x dx L : Addr} {h₀ : Heap} {m : Str → Option Value} {news : List (Addr × Obj)} {items : Array Value} {n : Nat} {oD : Obj}

theorem acc_list {h : Heap} {M : Model} (X : (hd.heap_39 w.params).In h) (h1 : h.get? x = some (accObj dx items n)) : Looks M h (isInstance (.ref x) (.type "list")) true :=
  ((Looks.ld h1).andThen .now).andThen (looks_subIn X (t := .ref 174) (base := .type "list") (by k_is))

theorem acc_append {v : Value} {Q : Value → Shared → Prop} (X₀ : (hd.heap_39 w.params).In h₀) (F : Fr h₀ L s.heap m) (N : News h₀ L s.heap news) (hx : (x, accObj dx items n) ∈ news) (hsz : items.size ≤ sizeLine)
    (h : ∀ h', Fr h₀ L h' m → News h₀ L h' (put x (accObj dx (items.push v) (n + 1)) news) → Q .none { s with heap := h' }) :
    wpAny (MD w) A (call (.builtin "list.append") [.ref x, v]) Q E s := by
  have X := X₀.keeps F.keep
  have h1 := (N _ hx).1
  refine call_self (owner := "list") (n := "append") (.inr (by decide +kernel)) (by decide +kernel) (acc_list X h1) (_root_.PySem.F.args_list_append_2 _ _) (by decide +kernel) _root_.PySem.F.entry_list_append ?_
  obtain ⟨F', N'⟩ := upd_news (o' := accObj dx (items.push v) (n + 1)) (f := Obj.mapSeq fun xs => xs.push v) F N hx (by
    show ({ cls := .ref 174, dict := some dx, data := .seq (items.push v) _ } : Obj) = _
    rw [Array.size_push]
    simp) rfl
  have hz' : (items.push v).size ≤ sizeLine + 1 := by rw [Array.size_push]; omega
  obtain ⟨hp, g, d, tk, os⟩ := s
  wp_walk using (wpAny_updateSeq h1 rfl (hz := hsz) (_hz' := hz'))
  exact h _ F' N'
end
/- MN -/
section
variable {w : World} {A : Around} {E : Value → Shared → Prop} {s : Shared} {env : Env}
theorem Slice_ {lower upper step : Option Expr} {p : Pos} {Q : Value → Shared → Prop}
    (h : wpAny (MD w) A (evalPart lower env) (fun l s₁ => wpAny (MD w) A (evalPart upper env) (fun u s₂ => wpAny (MD w) A (evalPart step env) (fun st s₃ => wpAny (MD w) A (newFields "slice" [l, u, st]) Q E s₃) E s₂) E s₁) E s) :
    wpAny (MD w) A (eval (.Slice lower upper step p) env) Q E s := by
  rw [arm_eval_Slice]
  exact wpAny_bind (wpAny_mono h (fun l s₁ h₁ => wpAny_bind (wpAny_holding (wpAny_mono h₁ (fun u s₂ h₂ => wpAny_bind (wpAny_holding (wpAny_mono h₂ (fun st s₃ h₃ => h₃) fun _ _ x => x))) fun _ _ x => x))) fun _ _ x => x)
end
/-- a frame's map with one name stored -/
structure Upd (m' m : Str → Option Value) (y : Str) (v : Value) : Prop where
  here : m' y = some v
  other : ∀ z, z ≠ y → m' z = m z
theorem Upd.keep {m' m : Str → Option Value} {y z : Str} {v : Value} {r : Option Value} (U : Upd m' m y v) (hz : z ≠ y) (h : m z = r) : m' z = r := (U.other z hz).trans h
theorem storeX_U {M : Model} {A : Around} {E : Value → Shared → Prop} {s : Shared} {h₀ : Heap} {L a : Addr} {m : Str → Option Value} {cn : Str} {cs : Scope} {ccd : Value} {cl : List (Str × Addr)} {x : Str} {v : Value} {Q : Unit → Shared → Prop} {news : List (Addr × Obj)}
    (F : Fr h₀ L s.heap m) (N : News h₀ L s.heap news) (h : ∀ m', Upd m' m x v → ∀ h', Fr h₀ L h' m' → News h₀ L h' news → Q () { s with heap := h', toks := s.toks + 1 })
    (hk : cs.kind = .function) (hx : (envX cn cs L a ccd cl).kindOf x = some .local) : wpAny M A (storeName (envX cn cs L a ccd cl) x v) Q E s :=
  storeX_L F N (fun h' F' N' => h _ ⟨if_pos rfl, fun _ hz => if_neg hz⟩ h' F' N') hk hx

set_option compiler.extract_closed false in
set_option hygiene false in
local macro_rules | `(tactic| walk_at "hv") => `(tactic| first
  | assumption
  | exact Upd.here (by assumption)
  | (refine Upd.keep (by assumption) (by decide) ?_; walk_at "hv")
  | exact rfl
  | (refine Eq.trans (if_neg (by decide)) ?_; walk_at "hv"))
set_option compiler.extract_closed false in
set_option hygiene false in
local macro_rules | `(tactic| walk_at "n0") => `(tactic| with_reducible (first
    | refine wpAny_execs_cons ?_ | refine wpAny_execs_nil ?_ | refine wpAny_Constant_int ?_ | refine Calls.Constant_str ?_ | refine wpAny_Constant_bool ?_ | refine wpAny_Constant_none ?_ | refine callWith_method0 ?_ | refine Attribute_name ?_
    | refine Tuple_ ?_ | refine List_ ?_ | refine wpAny_Return_some ?_ | refine wpAny_If ?_ | refine wpAny_BinOp ?_ | refine isTrue_not ?_ | refine isTrue_and ?_ | refine isTrue_or ?_ | refine wpAny_truthy_bool ?_ | refine Subscript_ ?_ | refine Slice_ ?_
    | refine evalPart_none_step ?_ | refine evalPart_some_step ?_ | refine PySem.wpAny_add_int ?_ | (refine args_nil ?_; try simp only [List.cons_append, List.nil_append])))
set_option compiler.extract_closed false in
local macro_rules | `(tactic| walk_at "n") => `(tactic| first
  | walk_at "n0"
  | ((with_reducible refine' nameX_L ?F ?N ?_ ?hk ?hx ?b); (case F => assumption); (case N => walk_at "hv"); (case hk => exact rfl); (case hx => exact rfl); (case b => exact rfl))
  | ((with_reducible (first | refine' wpAny_Expr (hi := ?a) (hs := ?b) ?_ | refine' wpAny_Assign_Name (hs := ?a) ?_ | refine' wpAny_Assign_Subscript (hs := ?a) ?_ | refine' MethodCall_ (pl := ?pl) (he := ?a) ?_ | refine' callWith_method1 (he := ?a) (hplain := ?b) ?_ | refine' args_cons (he := ?a) ?_ | refine' Call_ (he := ?a) ?_));
     (case a => exact rfl); (try case b => exact rfl))
  | ((with_reducible (first | refine' wpAny_isTrue_Compare1 (hm := ?a) ?_ | refine' wpAny_Compare1 (hm := ?a) ?_)); (case a => with_unfolding_all rfl))
  | ((with_reducible refine' storeX_U ?F ?N (fun m' U' h' F' N' => ?_) ?hk ?hx); (case F => assumption); (case N => assumption); (case hk => exact rfl); (case hx => exact rfl))
  | dsimp only)
set_option compiler.extract_closed false in
local macro_rules | `(tactic| walk_at "sa") => `(tactic| first
  | with_reducible (first | refine ks_wpAt_execs_cons ?_ | refine ks_wpAt_Return_some ?_ | refine' ks_wpAt_If ?_)
  | ((with_reducible (first | refine' ks_wpAt_Expr_any (hi := ?a) (hs := ?b) ?_ | refine' ks_wpAt_MethodCall (pl := ?pl) (he := ?a) ?_)); (case a => exact rfl); (try case b => exact rfl))
  | dsimp only)
set_option compiler.extract_closed false in
local macro_rules | `(tactic| walk_at "t") => `(tactic| first
  | with_reducible refine isTrue_and_nil ?_
  | with_reducible refine isTrue_or_nil ?_
  | ((with_reducible refine' isTrue_plain (he := ?a) ?_); case a => exact rfl))

/- ME -/
section
variable {w : World} {A : Around} {E : Value → Shared → Prop} {s : Shared} {x dx L : Addr} {h₀ : Heap} {m : Str → Option Value} {news : List (Addr × Obj)} {items : Array Value} {n : Nat} {oD : Obj}
theorem new_tuple {vs : List Value} {Q : Value → Shared → Prop} (F : Fr h₀ L s.heap m) (N : News h₀ L s.heap news)
    (h : ∀ a h', Fr h₀ L h' m → News h₀ L h' ((a, { cls := .type "tuple", data := .seq vs.toArray }) :: news) → (∀ p ∈ news, p.1 < a) → Q (.ref a) { s with heap := h' }) (hsz : vs.length ≤ sizeLine := by size_fits) :
    wpAny (MD w) A (newTuple vs) Q E s := newTuple_N F N (fun h' F' N' => h _ h' F' N' fun p hp => Heap.lt_size (N p hp).1) hsz

theorem push_ok {f g : Str} {tf tg : Tok} {Q : Value → Shared → Prop} (G : At w A L h₀) (F : Fr h₀ L s.heap m) (N : News h₀ L s.heap news) (hx : (x, accObj dx items n) ∈ news) (hd : (dx, oD) ∈ news) (ho : lookIn (Str.ofString "append") oD = some none)
    (hroom : A.depth < recursionLimit) (hsz : items.size ≤ sizeLine)
    (h : ∀ a h' tk, Fr h₀ L h' m → News h₀ L h' ((a, { cls := .type "tuple", data := .seq #[.str f tf, .str g tg] }) :: put x (accObj dx (items.push (.ref a)) (n + 1)) news) → (∀ p ∈ news, p.1 < a) → Q .none { s with heap := h', toks := tk }) :
    wpAny (MD w) A (call (.ref 118) [.ref x, .str f tf, .str g tg]) Q E s := by
  refine G.call (binds := [(Str.ofString "self", .ref x), (Str.ofString "fws", .str f tf), (Str.ofString "string", .str g tg)]) F N (by k_is) (by k_is) hroom (BindsTo.of_eq rfl) (locs rfl) (by decide) rfl rfl rfl (fun g L' h₁ E' G' F' N' lt => ?_)
  repeat walk_at "n"
  refine getMethod_acc_append G'.kin F' N' hx hd ho ?_
  repeat walk_at "n"
  refine new_tuple F' N' (fun a h₂ F₂ N₂ lt₂ => ?_)
  repeat walk_at "n"
  refine acc_append G'.kin F₂ N₂ (.tail _ hx) hsz (fun h₃ F₃ N₃ => ?_)
  repeat walk_at "n"
  have ha : a ≠ x := fun e => absurd (lt₂ _ hx) (by simp [e])
  rw [put, List.map_cons, if_neg ha] at N₃
  exact ⟨_, _, _, F₃, N₃, fun Fz Nz => h a h₃ _ Fz Nz lt₂⟩
end
/- MS -/
theorem slot_wd_get : Slot "wrapper_descriptor" "__get__" "wrapper_descriptor.__get__" := .of (owner := "wrapper_descriptor") (n := "__get__") (by rw [typeLookup_type, builtinLookup_eq_fast]; kernel_rfl) (by decide +kernel) (by decide +kernel) (by decide +kernel)
  (by first | exact .inl (by decide +kernel) | exact .inr (by decide +kernel)) (by rw [isSubtype_type]; kernel_rfl)
theorem entry_wd_get : entryFor table "wrapper_descriptor.__get__" = some Builtin.«wrapper_descriptor.__get__» := entryFor_of_tree (by kernel_rfl)
theorem args_wd_get (a b c : Value) : argsOk "wrapper_descriptor.__get__" ⟨[a, b, c], []⟩ := by unfold argsOk; kernel_rfl
theorem slot_md_get : Slot "method_descriptor" "__get__" "method_descriptor.__get__" := .of (owner := "method_descriptor") (n := "__get__") (by rw [typeLookup_type, builtinLookup_eq_fast]; kernel_rfl) (by decide +kernel) (by decide +kernel) (by decide +kernel)
  (by first | exact .inl (by decide +kernel) | exact .inr (by decide +kernel)) (by rw [isSubtype_type]; kernel_rfl)
theorem entry_md_get : entryFor table "method_descriptor.__get__" = some Builtin.«method_descriptor.__get__» := entryFor_of_tree (by kernel_rfl)
theorem args_md_get (a b c : Value) : argsOk "method_descriptor.__get__" ⟨[a, b, c], []⟩ := by unfold argsOk; kernel_rfl
section
variable {prog : Program} {w : World} {M : Model} {A : Around} {E : Value → Shared → Prop} {h : Heap} {g : Array GenState} {d : Drawn} {t : Nat} {os : OsState}
theorem typeIs_of {v : Value} {T : String} {s : Shared} (e : typeOf v = pure (.type T)) (hv : ∀ a, v ≠ .ref a) : s.TypeIs v T := by
  cases v <;> first | exact absurd rfl (hv _) | exact e
theorem wd_get {id : String} {x C : Addr} {ox : Obj} {Q : Value → Shared → Prop} (ht : builtinType id = pure (.type "wrapper_descriptor")) (hx : h.get? x = some ox)
    (hi : Looks (model prog w) h (isSubtype ox.cls (.type "list")) true) (ho : (".".intercalate (id.cutAt '.').dropLast) = "list")
    (hq : Q (.ref h.objs.size) ⟨h.push { cls := .type "method-wrapper", data := .fields #[.builtin id, .ref x] }, g, d, t, os⟩) :
    wpAny (model prog w) A (call (.builtin "wrapper_descriptor.__get__") [.builtin id, .ref x, .ref C]) Q E ⟨h, g, d, t, os⟩ := by
  refine wpAny_call_entry slot_wd_get (typeIs_of ht (by intro a e; cases e)) entry_wd_get ?_ (args_wd_get _ _ _)
  rw [← ho] at hi
  unfold Builtin.«wrapper_descriptor.__get__»
  repeat lk
  exact ⟨_, rfl, hq⟩
theorem md_get {id : String} {x C : Addr} {ox : Obj} {Q : Value → Shared → Prop} (ht : builtinType id = pure (.type "method_descriptor")) (hx : h.get? x = some ox)
    (hi : Looks (model prog w) h (isSubtype ox.cls (.type "list")) true) (ho : (".".intercalate (id.cutAt '.').dropLast) = "list") (hn : Manifest.toldItsClass.contains id = false)
    (hq : Q (.ref h.objs.size) ⟨h.push { cls := .type "builtin_function_or_method", data := .fields #[.builtin id, .ref x] }, g, d, t, os⟩) :
    wpAny (model prog w) A (call (.builtin "method_descriptor.__get__") [.builtin id, .ref x, .ref C]) Q E ⟨h, g, d, t, os⟩ := by
  refine wpAny_call_entry slot_md_get (typeIs_of ht (by intro a e; cases e)) entry_md_get ?_ (args_md_get _ _ _)
  rw [← ho] at hi
  unfold Builtin.«method_descriptor.__get__»
  repeat (first | lk | rw [hn])

  exact ⟨_, rfl, hq⟩

theorem super_ga {so D x C : Addr} {id gid bt : String} {l₀ l : List Value} {K : Frag} {name : Str} {tk : Tok} {Q : Fin → Shared → Prop}
    (hso : h.get? so = some { cls := .type "super", dict := none, data := .fields #[.ref D, .ref x, .ref C], slots := #[] }) (hno : Looks (model prog w) h (opaqueClassAbove (.ref C)) none)
    (hC : Looks (model prog w) h (mroOf (.ref C)) l₀) (hl : (l₀.dropWhile (· != .ref D)).drop 1 = l) (X : K.In h)
    (hf : alongIn K name l = some (some (.builtin id))) (ht : builtinType id = pure (.type bt)) (hlk : typeLookup (.type bt) "__get__" = pure (some (.builtin gid))) (hxC : x ≠ C) (hn : (name == ("__class__" : Str)) = false)
    (hq : wpAny (model prog w) A (call (.builtin gid) [.builtin id, .ref x, .ref C]) (fun v s' => Q (.done (.ret v)) s') E ⟨h, g, d, t, os⟩) :
    wpAny (model prog w) A (Builtin.«super.__getattribute__» ⟨[.ref so, .str name tk], []⟩) Q E ⟨h, g, d, t, os⟩ := by
  have hne : (Value.ref x == Value.ref C) = false := by simp [hxC]
  have hTf : (⟨h, g, d, t, os⟩ : Shared).TypeIs (.builtin id) bt := typeIs_of ht (by intro a e; cases e)
  have hdt : ({ cls := .type "super", dict := none, data := .fields #[.ref D, .ref x, .ref C], slots := #[] } : Obj).data = .fields #[.ref D, .ref x, .ref C] := rfl
  have f0 : (#[.ref D, .ref x, .ref C] : Array Value)[0]? = some (.ref D) := rfl
  have f1 : (#[.ref D, .ref x, .ref C] : Array Value)[1]? = some (.ref x) := rfl
  have f2 : (#[.ref D, .ref x, .ref C] : Array Value)[2]? = some (.ref C) := rfl
  unfold Builtin.«super.__getattribute__»
  repeat (first
    | (with_reducible refine wpAny_field hso hdt f0 ?_) | (with_reducible refine wpAny_field hso hdt f1 ?_) | (with_reducible refine wpAny_field hso hdt f2 ?_)
    | (with_reducible refine ks_wpAny_notOpaque hno ?_)
    | (with_reducible refine Looks.at hC ?_; rw [hl])
    | (refine ks_forIn_along X (fun _ _ => rfl) rfl ?_ hf)
    | (with_reducible refine wpAny_typeOf hTf ?_)
    | (with_reducible refine wpAny_of_eq hlk ?_)
    | (with_reducible refine wpAny_holding ?_)
    | (with_reducible refine wpAny_mono hq (fun v s' hv => ?_) (fun _ _ z => z))
    | (simp only [hn, hne, Bool.or_false, Bool.false_eq_true, if_false])
    | wp_step
    | dsimp only)

  all_goals exact hv
end
/- MT -/
section
variable {prog : Program} {w : World} {M : Model} {A : Around} {E : Value → Shared → Prop} {h : Heap} {g : Array GenState} {d : Drawn} {t : Nat} {os : OsState}
theorem gm_super {so D x C : Addr} {id gid bt : String} {l₀ l : List Value} {K : Frag} {name : Str} {pl : Sem Bool} {o' : Obj} {Q : Value × List Value → Shared → Prop}
    (hso : h.get? so = some { cls := .type "super", dict := none, data := .fields #[.ref D, .ref x, .ref C], slots := #[] }) (hno : Looks (model prog w) h (opaqueClassAbove (.ref C)) none)
    (hC : Looks (model prog w) h (mroOf (.ref C)) l₀) (hl : (l₀.dropWhile (· != .ref D)).drop 1 = l) (X : K.In h)
    (hf : alongIn K name l = some (some (.builtin id))) (ht : builtinType id = pure (.type bt)) (hlk : typeLookup (.type bt) "__get__" = pure (some (.builtin gid))) (hxC : x ≠ C) (hn : (name == ("__class__" : Str)) = false)
    (hget : ∀ {A' : Around} {E' : Value → Shared → Prop} {Q' : Value → Shared → Prop}, Q' (.ref h.objs.size) ⟨h.push o', g, d, t + 1, os⟩ → wpAny (model prog w) A' (call (.builtin gid) [.builtin id, .ref x, .ref C]) Q' E' ⟨h, g, d, t + 1, os⟩)
    (hq : Q (.ref h.objs.size, []) ⟨h.push o', g, d, t + 1, os⟩) :
    wpAny (model prog w) A (getMethod (.ref so) name pl) Q E ⟨h, g, d, t, os⟩ := by
  have hlk' := _root_.PySem.F.ks_slot_super_ga.lookup
  have hcan := _root_.PySem.F.ks_canon_super_ga
  have hT : ∀ t', (⟨h, g, d, t', os⟩ : Shared).TypeIs (.ref so) "super" := fun _ => ⟨_, hso, rfl⟩
  unfold getMethod
  refine wpAny_bind (wpAny_specialOf (hT _) hlk' ?_)
  show wpAny _ _ (if (Manifest.canonical "super.__getattribute__" != "object.__getattribute__") = true then _ else _) _ _ _
  rw [if_pos hcan]
  unfold getAttr getAttrBy
  refine wpAny_bind (wpAny_bind (wpAny_mkText (wpAny_holding (wpAny_bind (wpAny_typeOf (hT _) (wpAny_bind (wpAny_of_eq hlk' ?_)))))))
  show wpAny _ _ (getAttrByItsOwn (.ref so) (.str name t) (.type "super") (.builtin "super.__getattribute__") true false) _ _ _
  unfold getAttrByItsOwn hookBefore callGetattribute boundAndCalled
  refine wpAny_bind (wpAny_of_eq (show (if onTheHeap (.type "super") then typeLookup (.type "super") "__getattr__" else pure none) = pure none from rfl) ?_)
  refine wpAny_bind (wpAny_attempt (wpAny_holding ?_))
  show wpAny _ _ (bindSpecial (.builtin "super.__getattribute__") (.ref so) >>= _) _ _ _
  refine wpAny_bind (wpAny_of_eq (_root_.PySem.F.ks_slot_super_ga.bind _) ?_)
  refine wpAny_mono (Q := fun v s' => v = .ref h.objs.size ∧ s' = ⟨h.push o', g, d, t + 1, os⟩) (E := fun _ _ => False)
    (wpAny_call_entry _root_.PySem.F.ks_slot_super_ga (hT _) _root_.PySem.F.ks_entry_super_ga (super_ga hso hno hC hl X hf ht hlk hxC hn (hget ⟨_, rfl, rfl, rfl⟩)) (_root_.PySem.F.ks_gaArgs_super _ _)) (fun v s' hv => ?_) fun _ _ z => z.elim
  obtain ⟨rfl, rfl⟩ := hv
  exact wpAny_pure (wpAny_pure hq)
end
section
variable {prog : Program} {w : World} {A₀ A : Around} {s : Shared} {base h₀ : Heap} {outer : List Env} {L : Addr} {m mg mb : Str → Option Value} {env : Env} {news : List (Addr × Obj)} {K : Frag} {p : Program} {loose : List Str} {E : Value → Shared → Prop}
  {R : Result → Shared → Prop} {name qual : Str} {params : Arguments} {body : List Stmt} {scope : Scope} {dV kV doc pm cdv ct oc : Value} {an od : Option Addr} {osl : Array (Option Value)} {f cc : Addr} {args : Args} {binds : List (Str × Value)}
theorem code_superR (B : Below A₀ base outer h₀) (F : Fr h₀ L s.heap m) (X₀ : K.In h₀) (N : News h₀ L s.heap news) (T : h₀.NoLimit) (hA : A.frames = some (env :: outer)) (hf : env.frame = some L) (hke : env.scope.kind = .function)
    (ho : K.lookup f = some ⟨oc, od, .func (ksFn name qual params body scope dV kV doc pm an cdv ct cc), osl⟩) (hcd : codeIn K cdv qual = true) (hroom : A.depth < recursionLimit)
    (hbind : BindsTo s (ksFn name qual params body scope dV kV doc pm an cdv ct cc) args binds) (hloc : ∀ y ∈ binds, scope.names.lookup y.1 = some .local)
    (h : ∀ g L' h₁, Fr h₀ L g m → Fr g L' h₁ (fun y => binds.reverse.lookup y) → News g L' h₁ news → Below A base (env :: outer) g → h₀.StaysIn g → (∀ p ∈ news, p.1 < L') →
      _root_.PySem.wpAt (model prog w) (A.deeper (ksEnv qual scope L' f cdv cc)) (.func body (ksEnv qual scope L' f cdv cc)) (execs body (ksEnv qual scope L' f cdv cc))
        (fun fl s' => LeaveK h₀ L m g R (match fl with | .ret v => v | _ => .none) s')
        (fun e s' => wpAny (model prog w) (A.deeper (ksEnv qual scope L' f cdv cc)) (leaving (ksEnv qual scope L' f cdv cc) e) (fun _ s'' => R (.error e) s'') (fun e' s'' => R (.error e') s'') s')
        { s with heap := h₁, toks := s.toks + binds.length })
    (hcell : ∀ x ∈ scope.names, x.2 ≠ .cell := by decide) (hco : scope.isCoroutine = false := by rfl) (hgen : scope.isGenerator = false := by rfl) (hk : scope.kind = .function := by rfl) : codeAny (model prog w) A (.call (.ref f) args) R s := by
  obtain ⟨FG, BG, st, lv⟩ := groundX (R := R) B F N hA hf hke
  refine ks_codeAny_call_defAt (fd := ksFn name qual params body scope dV kV doc pm an cdv ct cc) (body := body) (binds := binds) hroom ((X₀.keeps F.keep) _ _ ho) rfl (T.keeps F.keep) (codeRec_of (X₀.keeps F.keep) hcd) rfl hbind hcell hloc (fun h₁ hns hk₁ => ?_) hco hgen hk
  exact ks_wpAt_mono (h _ s.heap.objs.size h₁ FG ⟨hns, fun b o e => hk₁ b o (of_hideAll _ e), Nat.le_of_eq (hideAll_size _ _)⟩
    (fun p hp => ⟨hk₁ _ _ (N p hp).1, Nat.ne_of_lt (Heap.lt_size (N p hp).1), hideAll_none _ (List.mem_map_of_mem hp)⟩) BG st (fun p hp => Heap.lt_size (N p hp).1)) (fun fl s' hl => lv _ _ hl) fun _ _ y => y

theorem nodeR {body : List Stmt} {q : Str} {scope : Scope} {p0 p1 : Pos} {attr : Str} {whole : Sem Value} {fd : FuncData} {ar : Arg} {vs : Array Value} {file : Str} {tf : Tok} {oc ccl cl : Value} {od cdd cld : Option Addr} {osl ccs csl : Array (Option Value)} {cdD : ClassData} {x C D cda : Addr} {ox : Obj} {odx : Option Obj} {Q : Value → Shared → Prop}
    (F : Fr h₀ L s.heap m) (X₀ : K.In h₀) (N : News h₀ L s.heap news) (T : TopRead p loose mg mb h₀)
    (hf : K.lookup f = some ⟨oc, od, .func fd, osl⟩) (hp : (fd.params.posonlyargs ++ fd.params.args).head? = some ar) (hv : m ar.arg = some (.ref x)) (I : InstAt s.heap x ox C odx)
    (hcode : K.lookup cda = some ⟨ccl, cdd, .fields vs, ccs⟩) (hvs : vs[2]? = some (.str file tf)) (hfile : ((prog.main.file : Str) == file) = true)
    (hcell : K.lookup cc = some ⟨cl, cld, .cell (some (.ref D)), csl⟩) (hD : clsIn K D = some cdD) (hsub : mroIn K C (.ref D) = some true) (hsuper : nsIn K mainGlobals "super" = some none)
    (hat : (attr == ("__class__" : Str)) = false) (hks : scope.names.lookup ("super" : Str) = some .globalImplicit) (hkc : scope.names.lookup ("__class__" : Str) = some .free) (hka : scope.names.lookup ar.arg = some .local) (hk : scope.kind = .function)
    (htop : (prog.main.scope.names.lookup ("super" : Str)).isSome = false) (hboot : bootBuiltins "super" = some (.type "super"))
    (h : ∀ so h', Fr h₀ L h' m → News h₀ L h' ((so, ks_superObj D x C) :: news) → (∀ p ∈ news, p.1 < so) → Q (.ref so) { s with heap := h' }) :
    _root_.PySem.wpAt (model prog w) A (.func body (ksEnv q scope L f (.ref cda) cc)) (attributeBase (.Call (.Name "super" p0) [] [] p1) attr (ksEnv q scope L f (.ref cda) cc) whole) Q E s := by
  have X : K.In s.heap := X₀.keeps F.keep
  obtain ⟨hh, g, d, t, os⟩ := s
  obtain ⟨oD, hD1, hD2⟩ : ∃ oD, hh.get? D = some oD ∧ oD.data = .cls cdD := by
    unfold clsIn at hD
    split at hD
    · rename_i c d cd' sl ho
      cases hD
      exact ⟨_, X _ _ ho, rfl⟩
    · cases hD
  refine ks_wpAt_super_base (env := ksEnv q scope L f (.ref cda) cc) hks hkc hat rfl (X _ _ hf) rfl hp rfl (X _ _ hcode) rfl hvs hfile htop ?_
  refine ks_loadName_global hk hks (loadGlobal_builtin (env := ksEnv q scope L f (.ref cda) cc) (T.g.keeps F.keep) (mg_none_of X₀ T.g hsuper) (T.b.keeps F.keep) ((T.builtins _ (by decide +kernel)).trans hboot) ⟨rfl, ?_⟩)
  refine wpAny_loadName_free hk hkc rfl ⟨_, X _ _ hcell, rfl⟩ ?_
  refine wpAny_loadName_local hk hka F.ns hv ?_
  refine ks_wpAny_isType_cls hD1 hD2 ⟨rfl, ?_⟩
  refine ks_wpAny_call_super hD1 hD2 I.at_ I.cls (fun c e => ?_) (looks_mroIn X hsub) (fun h' e k => ?_)
  · have := I.no
    unfold notCls at this
    rw [e] at this
    exact Bool.noConfusion this
  · obtain ⟨F', N', l'⟩ := ks_newsPush (s := ⟨hh, g, d, t, os⟩) F N rfl e k
    exact h _ _ F' N' l'
end
section
variable {w : World} {A : Around} {L : Addr} {h₀ : Heap} {s : Shared} {m : Str → Option Value} {news : List (Addr × Obj)} {E : Value → Shared → Prop} {Q : Value → Shared → Prop}
  {name qual : Str} {params : Arguments} {body : List Stmt} {scope : Scope} {dV kV doc pm cdv ct oc : Value} {an od : Option Addr} {osl : Array (Option Value)} {f cc : Addr} {vals : List Value} {binds : List (Str × Value)}
/-- a def that closes over its class: its body knows its own activation -/
theorem At.callS (G : At w A L h₀) (F : Fr h₀ L s.heap m) (N : News h₀ L s.heap news)
    (ho : (hd.heap_39 w.params).lookup f = some ⟨oc, od, .func (ksFn name qual params body scope dV kV doc pm an cdv ct cc), osl⟩)
    (hcd : codeIn (hd.heap_39 w.params) cdv qual = true) (hroom : A.depth < recursionLimit)
    (hbind : BindsTo s (ksFn name qual params body scope dV kV doc pm an cdv ct cc) ⟨vals, []⟩ binds) (hloc : ∀ y ∈ binds, scope.names.lookup y.1 = some .local)
    (hcell : ∀ x ∈ scope.names, x.2 ≠ .cell) (hco : scope.isCoroutine = false) (hgen : scope.isGenerator = false) (hk : scope.kind = .function)
    (h : ∀ g L' h₁ E', At w (A.deeper (ksEnv qual scope L' f cdv cc)) L' g → Fr g L' h₁ (fm binds.reverse) → News g L' h₁ news → (∀ p ∈ news, p.1 < L') →
      _root_.PySem.wpAt (MD w) (A.deeper (ksEnv qual scope L' f cdv cc)) (.func body (ksEnv qual scope L' f cdv cc)) (execs body (ksEnv qual scope L' f cdv cc))
        (fun fl s' => Ret h₀ L m g Q (match fl with | .ret v => v | _ => .none) s') E' { s with heap := h₁, toks := s.toks + binds.length }) :
    wpAny (MD w) A (PySem.call (.ref f) vals) Q E s := by
  obtain ⟨calm, X₀, loose, mg, mb, bm, ob, A₀, base, outer, env, B, T, M, hA, hf, hke⟩ := G
  refine wpAny_call (code_superR B F X₀ N T.nolimit hA hf hke ho hcd hroom hbind hloc (fun g L' h₁ FG F' N' B' st lt => ?_) hcell hco hgen hk)
  have F'' : Fr g L' h₁ (fm binds.reverse) := by rw [← fm_lookup]; exact F'
  exact h g L' h₁ _ ⟨calm, X₀.keeps st, loose, mg, mb, bm, ob, A, base, env :: outer, ksEnv qual scope L' f cdv cc, B', T.keeps st, M.keeps st, by show (A.deeper _).frames = _; unfold Around.deeper; rw [hA]; rfl, rfl, hk⟩ F'' N' lt

theorem At.super {body : List Stmt} {q : Str} {scope : Scope} {p0 p1 : Pos} {attr : Str} {whole : Sem Value} {fd : FuncData} {ar : Arg} {vs : Array Value} {file : Str} {tf : Tok} {ccl cl : Value} {cdd cld : Option Addr} {ccs csl : Array (Option Value)} {cdD : ClassData} {f cc cda x C D : Addr} {ox : Obj} {odx : Option Obj}
    (G : At w A L h₀) (F : Fr h₀ L s.heap m) (N : News h₀ L s.heap news)
    (hf : (hd.heap_39 w.params).lookup f = some ⟨oc, od, .func fd, osl⟩) (hp : (fd.params.posonlyargs ++ fd.params.args).head? = some ar) (hv : m ar.arg = some (.ref x)) (I : InstAt s.heap x ox C odx)
    (hcode : (hd.heap_39 w.params).lookup cda = some ⟨ccl, cdd, .fields vs, ccs⟩) (hvs : vs[2]? = some (.str file tf)) (hfile : ((PySem.Challenge.rw_kl0049_01.row.prog.main.file : Str) == file) = true)
    (hcell : (hd.heap_39 w.params).lookup cc = some ⟨cl, cld, .cell (some (.ref D)), csl⟩) (hD : clsIn (hd.heap_39 w.params) D = some cdD) (hsub : mroIn (hd.heap_39 w.params) C (.ref D) = some true) (hsuper : nsIn (hd.heap_39 w.params) mainGlobals "super" = some none)
    (hat : (attr == ("__class__" : Str)) = false) (hks : scope.names.lookup ("super" : Str) = some .globalImplicit) (hkc : scope.names.lookup ("__class__" : Str) = some .free) (hka : scope.names.lookup ar.arg = some .local) (hk : scope.kind = .function)
    (htop : (PySem.Challenge.rw_kl0049_01.row.prog.main.scope.names.lookup ("super" : Str)).isSome = false) (hboot : bootBuiltins "super" = some (.type "super"))
    (h : ∀ so h', Fr h₀ L h' m → News h₀ L h' ((so, ks_superObj D x C) :: news) → (∀ p ∈ news, p.1 < so) → Q (.ref so) { s with heap := h' }) :
    _root_.PySem.wpAt (MD w) A (.func body (ksEnv q scope L f (.ref cda) cc)) (attributeBase (.Call (.Name "super" p0) [] [] p1) attr (ksEnv q scope L f (.ref cda) cc) whole) Q E s := by
  obtain ⟨calm, X₀, loose, mg, mb, bm, ob, A₀, base, outer, env, B, T, M, hA, hf', hke⟩ := G
  exact nodeR F X₀ N T hf hp hv I hcode hvs hfile hcell hD hsub hsuper hat hks hkc hka hk htop hboot h
end
/- MU -/
abbrev boundObj (T id : String) (self : Value) : Obj := { cls := .type T, dict := none, data := .fields #[.builtin id, self], slots := #[] }
section
variable {prog : Program} {w : World} {A : Around} {E : Value → Shared → Prop} {s : Shared} {pos : Pos}
theorem call_bound {q : Addr} {T id : String} {self : Value} {args : List Value} {b : Builtin} {Q : Value → Shared → Prop} (hq : s.heap.get? q = some (boundObj T id self)) (hT : T = "method-wrapper" ∨ T = "builtin_function_or_method")
    (hck : ∀ {A' : Around} {E' : Value → Shared → Prop} {Q' : Unit → Shared → Prop}, Q' () s → wpAny (model prog w) A' (checkBoundCall id ⟨self :: args, []⟩) Q' E' s)
    (hp : plainId id = true) (hb : entryFor table id = some b)
    (h : wpAny (model prog w) A.in1 (b ⟨self :: args, []⟩) (fun fin s' => match fin with | .done f => wants Q E (.ok f) s' | .again c' => c'.quiet = true ∧ codeAny (model prog w) A c' (wants Q E) s') (fun e s' => wants Q E (.error e) s') s) :
    wpAny (model prog w) A (call (.ref q) args) Q E s := by
  refine wpAny_call (codeAny_of_tree ?_)
  show wpAny _ A.in1 (callAny (.ref q) ⟨args, []⟩) _ _ _
  unfold callAny
  refine wpAny_bind (wpAny_load hq ?_)
  have fin : wpAny (model prog w) A.in1 (checkBoundCall id ⟨self :: args, []⟩ >>= fun _ => again (.builtin id ⟨self :: args, []⟩)) (fun fin s' => match fin with | .done f => wants Q E (.ok f) s' | .again c' => c'.quiet = true ∧ codeAny (model prog w) A c' (wants Q E) s') (fun e s' => wants Q E (.error e) s') s := by
    refine wpAny_bind (hck (wpAny_pure ⟨plainId_quiet hp _, codeAny_builtin hb ?_⟩))
    rw [Around.under_plainId hp _]
    exact h
  rcases hT with rfl | rfl
  · exact fin
  · exact fin
theorem callWith_bound {q : Addr} {T id : String} {self : Value} {env : Env} {Q : Value → Shared → Prop} (hq : s.heap.get? q = some (boundObj T id self)) (hT : T = "method-wrapper" ∨ T = "builtin_function_or_method")
    (h : wpAny (model prog w) A (call (.ref q) []) Q E s) : wpAny (model prog w) A (callWith pos (.ref q) [] (backTo pos (starEach [] env)) []) Q E s := by
  refine callWith_of (P := fun h' => h'.get? q = some (boundObj T id self)) rfl (fun h' e => ⟨.machine, .inr (.inl rfl), ?_⟩) (evalArgs_nil3 ⟨hq, h⟩)
  refine (Looks.ld (part := none) e).andThen ?_
  rcases hT with rfl | rfl <;> exact Looks.of_pure rfl
end
section
variable {w : World} {A : Around} {E : Value → Shared → Prop} {s : Shared} {x dx L : Addr} {h₀ : Heap} {m : Str → Option Value} {news : List (Addr × Obj)} {items : Array Value} {n : Nat} {oD : Obj}
theorem super_slot {so : Addr} {ox : Obj} {od : Option Obj} {id : String} {name : Str} {pl : Sem Bool} {Q : Value × List Value → Shared → Prop} (X₀ : (hd.heap_39 w.params).In h₀) (F : Fr h₀ L s.heap m) (N : News h₀ L s.heap news) (hso : (so, ks_superObj 174 x 174) ∈ news) (I : InstAt s.heap x ox 174 od)
    (hf : ks_superIn (hd.heap_39 w.params) 174 174 name = some (some (.builtin id))) (ht : builtinType id = pure (.type "wrapper_descriptor")) (ho : (".".intercalate (id.cutAt '.').dropLast) = "list") (hn : (name == ("__class__" : Str)) = false)
    (h : ∀ q h', Fr h₀ L h' m → News h₀ L h' ((q, boundObj "method-wrapper" id (.ref x)) :: news) → (∀ p ∈ news, p.1 < q) → Q (.ref q, []) { s with heap := h', toks := s.toks + 1 }) :
    wpAny (MD w) A (getMethod (.ref so) name pl) Q E s := by
  have X := X₀.keeps F.keep
  obtain ⟨cd, hc⟩ : ∃ cd, clsIn (hd.heap_39 w.params) 174 = some cd := ⟨_, by k_is⟩
  have hxC := ks_ne X I hc
  obtain ⟨hh, g, d, t, os⟩ := s
  have hx := I.at_
  have hcl := I.cls
  unfold ks_superIn at hf
  rw [hc] at hf
  have hl : Looks (MD w) hh (isSubtype ox.cls (.type "list")) true := by rw [hcl]; exact looks_subIn X (t := .ref 174) (by k_is)
  refine gm_super (o' := boundObj "method-wrapper" id (.ref x)) (N _ hso).1 (looks_opaque X (by k_is)) (fun A Q E s k q => wpAny_bind ((looks_clsIn X hc) A _ E s k (wpAny_pure q))) rfl X hf ht slot_wd_get.lookup hxC hn (fun {A' E' Q'} z => wd_get (h := hh) ht hx hl ho z) ?_
  obtain ⟨F', N', l'⟩ := ks_newsPush (s := ⟨hh, g, d, t, os⟩) (o := boundObj "method-wrapper" id (.ref x)) F N rfl (Heap.get?_push_at rfl rfl) (fun b o e => Heap.get?_push_of_some _ e)
  exact h _ _ F' N' l'

theorem acc_isa {h : Heap} {M : Model} {b : Value} {r : Bool} (X : (hd.heap_39 w.params).In h) (h1 : h.get? x = some (accObj dx items n)) (e : subIn (hd.heap_39 w.params) (.ref 174) b = some r) : Looks M h (isInstance (.ref x) b) r :=
  ((Looks.ld h1).andThen .now).andThen (looks_subIn X e)

theorem bound_len (v : Value) : checkBoundCall "list.__len__" ⟨[v], []⟩ = pure () := by kernel_rfl
theorem acc_len {Q : PySem.Fin → Shared → Prop} (h1 : s.heap.get? x = some (accObj dx items n)) (h : Q (.done (.ret (.int items.size s.toks))) { s with toks := s.toks + 1 }) :
    wpAny (MD w) A (Builtin.«list.__len__» ⟨[.ref x], []⟩) Q E s := by
  obtain ⟨hp, g, d, tk, os⟩ := s
  wp_walk using (wpAny_loadPart h1)
  exact h
theorem part_count_ok {Q : Value → Shared → Prop} (G : At w A L h₀) (F : Fr h₀ L s.heap m) (N : News h₀ L s.heap news) (hx : (x, accObj dx items n) ∈ news) (hd : (dx, oD) ∈ news) 
    (hroom : A.depth < recursionLimit)
    (h : ∀ h' t tk, Fr h₀ L h' m → News h₀ L h' news → Q (.int items.size t) { s with heap := h', toks := tk }) :
    wpAny (MD w) A (call (.ref 171) [.ref x]) Q E s := by
  refine G.callS (binds := [(Str.ofString "self", .ref x)]) F N (by k_is) (by k_is) hroom (BindsTo.of_eq rfl) (locs rfl) (by decide) rfl rfl rfl (fun g L' h₁ E' G' F' N' lt => ?_)
  repeat walk_at "sa"
  refine G'.super (x := x) (C := 174) F' N' (by k_is) rfl rfl (acc_at (N' _ hx).1 (N' _ hd).1) (by k_is) rfl (by decide +kernel) (by k_is) (by k_is) (by k_is) (by k_is) (by decide) rfl rfl rfl rfl (by decide +kernel) (by decide +kernel) (fun so h₂ F₂ N₂ lt₂ => ?_)
  refine super_slot (id := "list.__len__") G'.kin F₂ N₂ (.head _) (acc_at (N₂ _ (.tail _ hx)).1 (N₂ _ (.tail _ hd)).1) (by ks_is) (by rw [builtinType_eq_fast]; kernel_rfl) (by decide +kernel) (by decide) (fun q h₃ F₃ N₃ lt₃ => ?_)
  refine callWith_bound (N₃ _ (.head _)).1 (.inl rfl) (call_bound (N₃ _ (.head _)).1 (.inl rfl) (fun z => wpAny_of_eq (bound_len _) z) (by decide +kernel) _root_.PySem.F.entry_list_len ?_)
  refine acc_len (N₃ _ (.tail _ (.tail _ hx))).1 ?_
  exact ⟨_, _, _, F₃, fun p hp => N₃ p (.tail _ (.tail _ hp)), fun Fz Nz => h h₃ _ _ Fz Nz⟩
end
/- MV -/
section
variable {w : World} {A : Around} {E : Value → Shared → Prop} {s : Shared} {x dx L : Addr} {h₀ : Heap} {m : Str → Option Value} {news : List (Addr × Obj)} {items : Array Value} {n : Nat} {oD : Obj}

theorem acc_key {i : Value} {name : Str} {Q : Value → Shared → Prop} (X : (hd.heap_39 w.params).In s.heap) (h1 : s.heap.get? x = some (accObj dx items n)) (h : Q i s) : wpAny (MD w) A (sequenceKey (.ref x) i name) Q E s := by
  unfold sequenceKey
  have T : Looks (MD w) s.heap (typeOf (.ref x)) (.ref 174) := (Looks.ld h1).andThen .now
  refine wpAny_bind (T.here ?_)
  refine wpAny_bind ((anyM_none (K := hd.heap_39 w.params) (C := 174) X (l := seqItemTypes) (by with_unfolding_all exact (show noSeq (hd.heap_39 w.params) 174 = true by k_is))).here ?_)
  simp only [Bool.not_false, if_true]
  exact wpAny_pure h

theorem acc_special {name : Str} {id : String} {args : List Value} {Q : Option Value → Shared → Prop} (X : (hd.heap_39 w.params).In s.heap) (h1 : s.heap.get? x = some (accObj dx items n))
    (hf : findIn (hd.heap_39 w.params) (.ref 174) name = some (some (.builtin id))) (hb : bindSpecial (.builtin id) (.ref x) = pure (.builtin id, [.ref x]))
    (h : wpAny (MD w) A (call (.builtin id) (.ref x :: args)) (fun v => Q (some v)) E s) : wpAny (MD w) A (callSpecial? (.ref x) name args) Q E s := by
  unfold callSpecial?
  have T : Looks (MD w) s.heap (typeOf (.ref x)) (.ref 174) := (Looks.ld h1).andThen .now
  refine wpAny_bind ((T.andThen (looks_findIn X hf)).here ?_)
  refine wpAny_holding (wpAny_bind (wpAny_of_eq hb ?_))
  exact wpAny_bind (wpAny_mono h (fun _ _ z => wpAny_pure z) fun _ _ z => z)

theorem acc_getItem {i : Value} {Q : Value → Shared → Prop} (X : (hd.heap_39 w.params).In s.heap) (h1 : s.heap.get? x = some (accObj dx items n))
    (h : wpAny (MD w) A (call (.builtin "list.__getitem__") [.ref x, i]) Q E s) : wpAny (MD w) A (getItem (.ref x) i) Q E s := by
  unfold getItem
  refine wpAny_holding (wpAny_bind (acc_key X h1 (wpAny_bind (acc_special X h1 (by k_is) (slot_list_getitem.bind _) (wpAny_mono h (fun _ _ z => wpAny_pure z) fun _ _ z => z)))))

theorem acc_setItem {i v : Value} {Q : Unit → Shared → Prop} (X : (hd.heap_39 w.params).In s.heap) (h1 : s.heap.get? x = some (accObj dx items n))
    (h : wpAny (MD w) A (call (.builtin "list.__setitem__") [.ref x, i, v]) (fun _ => Q ()) E s) : wpAny (MD w) A (setItem (.ref x) i v) Q E s := by
  unfold setItem
  refine wpAny_holding (wpAny_bind (acc_key X h1 (wpAny_bind (acc_special X h1 (by k_is) (slot_list_setitem.bind _) (wpAny_mono h (fun _ _ z => wpAny_pure z) fun _ _ z => z)))))

theorem acc_slice {sl : Addr} {k : Nat} {t : Tok} {Q : Value → Shared → Prop} (X₀ : (hd.heap_39 w.params).In h₀) (F : Fr h₀ L s.heap m) (N : News h₀ L s.heap news) (hx : (x, accObj dx items n) ∈ news) (hs : s.heap.IsSliceOf sl (.int k t) .none .none) (hk : k ≤ items.size) (hsz : items.size ≤ sizeLine)
    (h : ∀ a h', Fr h₀ L h' m → News h₀ L h' ((a, { cls := .type "list", data := .seq (items.toList.drop k).toArray }) :: news) → (∀ p ∈ news, p.1 < a) → Q (.ref a) { s with heap := h' }) :
    wpAny (MD w) A (getItem (.ref x) (.ref sl)) Q E s := by
  have X := X₀.keeps F.keep
  have h1 := (N _ hx).1
  obtain ⟨os, hos, hcs, hds⟩ := id hs
  have hTs : s.TypeIs (.ref sl) "slice" := ⟨os, hos, hcs⟩
  refine acc_getItem X h1 (call_self (owner := "list") (n := "__getitem__") (.inr (by decide +kernel)) (by decide +kernel) (acc_list X h1) (args_list_getitem _ _) (by decide +kernel) entry_list_getitem ?_)
  show wpAny _ _ (Builtin.List.listSubscript? (.ref sl) >>= _) _ _ s
  refine wpAny_bind ?_
  unfold Builtin.List.listSubscript?
  refine wpAny_bind (wpAny_specialOf hTs slice_no_index ?_)
  simp only [Option.isNone_none, if_true]
  refine wpAny_pure ?_
  show wpAny _ _ (typeOf (.ref sl) >>= _) _ _ s
  refine wpAny_bind (wpAny_typeOf hTs ?_)
  rw [if_neg (by decide)]
  rw [listSliceParts_eq]
  refine wpAny_bind (wpAny_bind (wpAny_field hos hds (x := .none) rfl (wpAny_bind (wpAny_listPart .none ?_))))
  rw [if_neg (by exact Bool.false_ne_true)]
  refine wpAny_bind (wpAny_field hos hds (x := .int k t) rfl (wpAny_bind (wpAny_listPart (.int _ _) ?_)))
  refine wpAny_bind (wpAny_field hos hds (x := .none) rfl (wpAny_bind (wpAny_listPart .none (wpAny_pure ?_))))
  refine wpAny_bind (m := Builtin.List.listItems (.ref x)) ?_
  unfold Builtin.List.listItems
  refine wpAny_bind (wpAny_seqItems h1 rfl (wpAny_pure ?_))
  refine wpAny_bind (wpAny_of_eq (sliceIndices_raw (some (k : Int)) none none items.size (by intro e; cases e)) ?_)
  have hp := slicePick_from items k hk
  refine wpAny_bind (wpAny_newObj_type (wpAny_pure ?_) (Nat.le_trans (slicePick_size_le items (some (k : Int)) none none) hsz))
  show Q _ _
  unfold slicePick at hp
  rw [hp]
  exact h _ _ (F.push _) (N.push F _) fun p hp => Heap.lt_size (N p hp).1

theorem acc_cut {sl e : Addr} {k ne : Nat} {t : Tok} {Q : Unit → Shared → Prop} (X₀ : (hd.heap_39 w.params).In h₀) (F : Fr h₀ L s.heap m) (N : News h₀ L s.heap news) (hx : (x, accObj dx items n) ∈ news) (hs : s.heap.IsSliceOf sl (.int k t) .none .none) (he : s.heap.get? e = some { cls := .type "list", data := .seq #[] ne }) (hk : k ≤ items.size) (hsz : items.size ≤ sizeLine)
    (h : ∀ h' n', Fr h₀ L h' m → News h₀ L h' (put x (accObj dx (items.extract 0 k) n') news) → Q () { s with heap := h' }) :
    wpAny (MD w) A (setItem (.ref x) (.ref sl) (.ref e)) Q E s := by
  have X := X₀.keeps F.keep
  have h1 := (N _ hx).1
  obtain ⟨os, hos, hcs, hds⟩ := id hs
  have hTs : s.TypeIs (.ref sl) "slice" := ⟨os, hos, hcs⟩
  have hTe : s.TypeIs (.ref e) "list" := ⟨_, he, rfl⟩
  refine acc_setItem X h1 (call_self (owner := "list") (n := "__setitem__") (.inl (by decide +kernel)) (by decide +kernel) (acc_list X h1) (args_list_setitem _ _ _) (by decide +kernel) entry_list_setitem ?_)
  show wpAny _ _ (Builtin.List.listSubscript? (.ref sl) >>= _) _ _ s
  refine wpAny_bind ?_
  unfold Builtin.List.listSubscript?
  refine wpAny_bind (wpAny_specialOf hTs slice_no_index ?_)
  simp only [Option.isNone_none, if_true]
  refine wpAny_pure ?_
  show wpAny _ _ (typeOf (.ref sl) >>= _) _ _ s
  refine wpAny_bind (wpAny_typeOf hTs ?_)
  rw [if_neg (by decide)]
  rw [listSliceParts_eq]
  refine wpAny_bind (wpAny_bind (wpAny_field hos hds (x := .none) rfl (wpAny_bind (wpAny_listPart .none ?_))))
  rw [if_neg (by exact Bool.false_ne_true)]
  refine wpAny_bind (wpAny_field hos hds (x := .int k t) rfl (wpAny_bind (wpAny_listPart (.int _ _) ?_)))
  refine wpAny_bind (wpAny_field hos hds (x := .none) rfl (wpAny_bind (wpAny_listPart .none (wpAny_pure ?_))))
  have hne : ¬ (Builtin.List.listSameRef (.ref x) (.ref e) = true) := by
    intro q
    have q' : x = e := by simpa [Builtin.List.listSameRef] using q
    rw [q', he] at h1
    have q2 : Value.type "list" = Value.ref 174 := congrArg Obj.cls (Option.some.inj h1)
    cases q2
  rw [if_neg hne]
  refine wpAny_bind (m := Builtin.List.listAllItems (.ref e) "must assign iterable to extended slice") ?_
  unfold Builtin.List.listAllItems
  refine wpAny_bind (wpAny_typeOf hTe ?_)
  rw [if_pos (by decide)]
  unfold Builtin.List.listItems
  refine wpAny_bind (wpAny_seqItems he rfl (wpAny_pure ?_))
  refine wpAny_bind (wpAny_bind (wpAny_seqItems h1 rfl (wpAny_pure ?_)))
  refine wpAny_bind (wpAny_of_eq (sliceIndices_raw (some (k : Int)) none none items.size (by intro e; cases e)) ?_)
  have eb : sliceBounds (some (k : Int)) none none items.size = ((k : Int), (items.size : Int), 1) := by
    simp only [sliceBounds, Option.getD_none]
    have q1 : ¬ ((k : Int) < 0) := by omega
    simp only [q1, if_false, show (1 : Int) > 0 by decide, if_true]
    congr 1
    omega
  rw [eb]
  dsimp only
  rw [if_pos (by decide)]
  refine wpAny_bind (wpAny_rule ?_)
  have hlong : ¬ (Builtin.List.listTooLong (items.size + (#[] : Array Value).size) = true) := by
    simp only [Builtin.List.listTooLong, Array.size_empty, Nat.add_zero, decide_eq_true_eq]
    omega
  rw [if_neg hlong]
  have ef : (items.extract 0 (k : Int).toNat ++ #[] ++ items.extract (max (k : Int) (items.size : Int)).toNat items.size) = items.extract 0 k := by
    have q1 : (max (k : Int) (items.size : Int)).toNat = items.size := by omega
    rw [q1, Int.toNat_natCast]
    simp
  obtain ⟨F', N'⟩ := upd_news (o' := accObj dx (items.extract 0 k) (if (items.extract 0 k).size == items.size then n else n + 1)) (f := Obj.mapSeq fun xs => xs.extract 0 (k : Int).toNat ++ #[] ++ xs.extract (max (k : Int) (items.size : Int)).toNat xs.size) F N hx (by
    simp only [accObj, Obj.mapSeq, ef]) rfl
  refine wpAny_bind (m := Builtin.List.listUpdate (.ref x) _) ?_
  unfold Builtin.List.listUpdate
  refine wpAny_updateSeq h1 rfl ?_ (hz := hsz) (_hz' := by rw [ef]; simp; omega)
  refine wpAny_bind (wpAny_letGo ?_)
  exact wpAny_pure (h _ _ F' N')
end
/- MW -/
abbrev lstObj (vs : List Value) (n : Nat) : Obj := { cls := .type "list", data := .seq vs.toArray n }
abbrev tupObj (vs : List Value) (n : Nat) : Obj := { cls := .type "tuple", data := .seq vs.toArray n }
abbrev slcObj (l u st : Value) : Obj := { cls := .type "slice", data := .fields #[l, u, st] }
section
variable {w : World} {A : Around} {E : Value → Shared → Prop} {s : Shared} {x dx L : Addr} {h₀ : Heap} {m : Str → Option Value} {news : List (Addr × Obj)} {items : Array Value} {n : Nat} {oD : Obj} {env : Env}
theorem new_list {vs : List Value} {Q : Value → Shared → Prop} (F : Fr h₀ L s.heap m) (N : News h₀ L s.heap news)
    (h : ∀ a h', Fr h₀ L h' m → News h₀ L h' ((a, lstObj vs 0) :: news) → (∀ p ∈ news, p.1 < a) → Q (.ref a) { s with heap := h' }) (hsz : vs.length ≤ sizeLine := by size_fits) :
    wpAny (MD w) A (newList vs) Q E s := newList_N F N (fun h' F' N' => h _ h' F' N' fun p hp => Heap.lt_size (N p hp).1) hsz
theorem pushed {P : Addr → Heap → Prop} {h : Heap} (o : Obj) (F : Fr h₀ L h m) (N : News h₀ L h news)
    (k : ∀ a h', Fr h₀ L h' m → News h₀ L h' ((a, o) :: news) → (∀ p ∈ news, p.1 < a) → P a h') (hf : o.isFreed = false := by rfl) : P h.objs.size (h.push o) :=
  k _ _ (F.push o) (N.push F o hf) fun p hp => Heap.lt_size (N p hp).1
theorem new_slice {l u st : Value} {Q : Value → Shared → Prop} (F : Fr h₀ L s.heap m) (N : News h₀ L s.heap news)
    (h : ∀ a h', Fr h₀ L h' m → News h₀ L h' ((a, slcObj l u st) :: news) → (∀ p ∈ news, p.1 < a) → Q (.ref a) { s with heap := h' }) :
    wpAny (MD w) A (newFields "slice" [l, u, st]) Q E s :=
  wpAny_newObj_type (h _ _ (F.push _) (N.push F _) fun p hp => Heap.lt_size (N p hp).1)
theorem acc_sub {value slice : Expr} {i : Value} {Q : Value → Shared → Prop} (X : (hd.heap_39 w.params).In s.heap) (h1 : s.heap.get? x = some (accObj dx items n))
    (h : wpAny (MD w) A (getItem (.ref x) i) Q E s) (hs : subscripted slice false (.ref x) i = operate [.ref x, i] (getItem (.ref x) i) ∨ subscripted slice false (.ref x) i = operate [i, .ref x] (getItem (.ref x) i)) (ht : ∀ r, letTemporaryGo value (.ref x) r = pure ()) :
    wpAny (MD w) A (subscriptTail value slice (.ref x) i) Q E s := by
  have T : Looks (MD w) s.heap (typeOf (.ref x)) (.ref 174) := (Looks.ld h1).andThen .now
  unfold subscriptTail getitemInPython
  refine wpAny_bind (wpAny_bind ((T.andThen (looks_findIn X (r := some (.builtin "list.__getitem__")) (by k_is))).here (wpAny_pure ?_)))
  refine wpAny_bind ?_
  rcases hs with hs | hs
  · rw [hs]
    unfold operate
    refine wpAny_bind (wpAny_holding (wpAny_mono h (fun r s' hr => ?_) fun _ _ z => z))
    refine wpAny_bind (wpAny_release ?_)
    refine wpAny_pure ?_
    rw [ht]
    exact wpAny_bind (wpAny_pure (wpAny_pure hr))
  · rw [hs]
    unfold operate
    refine wpAny_bind (wpAny_holding (wpAny_mono h (fun r s' hr => ?_) fun _ _ z => z))
    refine wpAny_bind (wpAny_release ?_)
    refine wpAny_pure ?_
    rw [ht]
    exact wpAny_bind (wpAny_pure (wpAny_pure hr))
theorem pop_from_ok {k : Nat} {tk : Tok} {Q : Value → Shared → Prop} (G : At w A L h₀) (F : Fr h₀ L s.heap m) (N : News h₀ L s.heap news) (hx : (x, accObj dx items n) ∈ news) 
    (hroom : A.depth < recursionLimit) (hk : k ≤ items.size) (hsz : items.size ≤ sizeLine)
    (h : ∀ a n' h' tk, Fr h₀ L h' m → News h₀ L h' ((a, lstObj (items.toList.drop k) 0) :: put x (accObj dx (items.extract 0 k) n') news) → (∀ p ∈ news, p.1 < a) → Q (.ref a) { s with heap := h', toks := tk }) :
    wpAny (MD w) A (call (.ref 126) [.ref x, .int k tk]) Q E s := by
  refine G.call (binds := [(Str.ofString "self", .ref x), (Str.ofString "i", .int k tk)]) F N (by k_is) (by k_is) hroom (binds_K (G.kin.keeps F.keep) rfl (by k_is) rfl rfl rfl) (locs rfl) (by decide) rfl rfl rfl (fun g L' h₁ E' G' F' N' lt => ?_)
  repeat walk_at "n"
  refine new_slice F' N' (fun sl h₂ F₂ N₂ lt₂ => ?_)
  have S₂ : h₂.IsSliceOf sl (.int k tk) .none .none := ⟨_, (N₂ _ (.head _)).1, rfl, rfl⟩
  refine acc_sub (G'.kin.keeps F₂.keep) (N₂ _ (.tail _ hx)).1 ?_ (.inr rfl) (fun _ => rfl)
  refine acc_slice G'.kin F₂ N₂ (.tail _ hx) S₂ hk hsz (fun a h₃ F₃ N₃ lt₃ => ?_)
  repeat walk_at "n"
  rename_i h₄ F₄ N₄
  refine new_list F₄ N₄ (fun e h₅ F₅ N₅ lt₅ => ?_)
  repeat walk_at "n"
  refine new_slice F₅ N₅ (fun sl' h₆ F₆ N₆ lt₆ => ?_)
  have S₆ : h₆.IsSliceOf sl' (.int k tk) .none .none := ⟨_, (N₆ _ (.head _)).1, rfl, rfl⟩
  refine acc_cut G'.kin F₆ N₆ (.tail _ (.tail _ (.tail _ (.tail _ hx)))) S₆ (N₆ _ (.tail _ (.head _))).1 hk hsz (fun h₇ n' F₇ N₇ => ?_)
  repeat walk_at "n"
  have hax : a ≠ x := fun e => absurd (lt₃ _ (.tail _ hx)) (by simp [e])
  simp only [put, List.map_cons] at N₇
  refine ⟨_, _, _, F₇, fun p hp => N₇ p (show p ∈ _ from ?_), fun Fz Nz => h a n' h₇ _ Fz Nz fun p hp => lt₃ _ (.tail _ hp)⟩
  rcases List.mem_cons.mp hp with rfl | hp
  · exact .tail _ (.tail _ (by rw [if_neg hax]; exact .head _))
  · exact .tail _ (.tail _ (.tail _ (.tail _ hp)))
end
/- MG -/
/-- a chip as it lies in an accumulator: a tuple of two texts -/
structure Pair where
  a : Addr
  f : Str
  tf : Tok
  g : Str
  tg : Tok
abbrev Pair.obj (q : Pair) : Obj := { cls := .type "tuple", data := .seq #[.str q.f q.tf, .str q.g q.tg] }
abbrev rowArr (row : List Pair) : Array Value := (row.map fun q => Value.ref q.a).toArray

/-- something whose items are kept as a sequence -/
def SeqAt (h : Heap) (l : Addr) (items : Array Value) : Prop := ∃ o n, h.get? l = some o ∧ o.data = .seq items n
theorem SeqAt.extBut {h h' : Heap} {a b : Addr} {items : Array Value} (x : SeqAt h a items) (hs : Heap.ExtBut b h h') (hab : a ≠ b) : SeqAt h' a items :=
  let ⟨o, n, ho, r⟩ := x; ⟨o, n, hs a o hab ho, r⟩

section
variable {prog : Program} {w : World} {A : Around} {E : Value → Shared → Prop} {s : Shared}
theorem seq_item {it l : Addr} {i : Nat} {items : Array Value} {x : Value} {Q : Option Value → Shared → Prop} (hit : s.heap.IsListIter it l i) (hl : SeqAt s.heap l items) (hx : items[i]? = some x)
    (hQ : ∀ h', h'.IsListIter it l (i + 1) → Heap.SameBut it s.heap h' → Q (some x) { s with heap := h' }) : wpAny (model prog w) A (pyNext (.ref it)) Q E s := by
  obtain ⟨o, ho, hc, hd⟩ := id hit
  obtain ⟨ol, nl, hol, hdl⟩ := hl
  unfold pyNext
  refine wpAny_bind (wpAny_attempt (wpAny_callSpecial?_slot (name := Str.ofString "__next__") hit.typeIs slot_listiter_next (wpAny_call_entry slot_listiter_next hit.typeIs entry_listiter_next ?_ (args_listiter_next _))))
  show wpAny _ _ (field (.ref it) 0 >>= _) _ _ s
  refine wpAny_bind (wpAny_field ho hd (x := .ref l) rfl ?_)
  rw [if_neg (show ¬ ((Value.ref l == Value.none) = true) from Bool.false_ne_true)]
  refine wpAny_bind (m := field (.ref it) 1) (wpAny_field ho hd (x := .int i 0) rfl ?_)
  refine wpAny_bind (m := seqItems? (.ref l)) (wpAny_seqItems hol hdl ?_)
  simp only [Int.toNat_natCast, hx]
  refine wpAny_bind (wpAny_setField ho hd (by simp) (wpAny_pure ⟨x, rfl, wpAny_pure (hQ _ ?_ (Heap.SameBut.update ..))⟩))
  exact ⟨_, Heap.get?_update_self _ ho (Obj.isFreed_of_fields (Obj.data_mapFields hd _)), (Obj.cls_mapFields ..).trans hc, by rw [Obj.data_mapFields hd]; simp [rawInt]⟩

theorem seq_end {it l : Addr} {i : Nat} {items : Array Value} {Q : Option Value → Shared → Prop} (hh : A.handled = none) (hit : s.heap.IsListIter it l i) (hl : SeqAt s.heap l items) (hx : items[i]? = none)
    (hQ : ∀ h', Heap.ExtBut it s.heap h' → Q none { s with heap := h' }) : wpAny (model prog w) A (pyNext (.ref it)) Q E s := by
  obtain ⟨o, ho, hc, hd⟩ := id hit
  obtain ⟨ol, nl, hol, hdl⟩ := hl
  unfold pyNext
  refine wpAny_bind (wpAny_attempt (wpAny_callSpecial?_slot (name := Str.ofString "__next__") hit.typeIs slot_listiter_next (wpAny_call_entry slot_listiter_next hit.typeIs entry_listiter_next ?_ (args_listiter_next _))))
  show wpAny _ _ (field (.ref it) 0 >>= _) _ _ s
  refine wpAny_bind (wpAny_field ho hd (x := .ref l) rfl ?_)
  rw [if_neg (show ¬ ((Value.ref l == Value.none) = true) from Bool.false_ne_true)]
  refine wpAny_bind (m := field (.ref it) 1) (wpAny_field ho hd (x := .int i 0) rfl ?_)
  refine wpAny_bind (m := seqItems? (.ref l)) (wpAny_seqItems hol hdl ?_)
  simp only [Int.toNat_natCast, hx]
  refine wpAny_bind (wpAny_rule (wpAny_bind (wpAny_setField ho hd (by simp) ?_)))
  refine wpAny_bind (m := newExc (.type "StopIteration") []) ?_
  simp only [newExc, newTuple]
  refine wpAny_bind (wpAny_newObj_type ?_ (by size_fits))
  refine wpAny_bind (m := firstArgMember _ _) (wpAny_of_eq (a := Value.none) (by first | rfl | (simp only [firstArgMember]; rfl)) ?_)
  refine wpAny_newObj_type ?_ (by size_fits)
  simp only [raiseNew]
  refine wpAny_bind (wpAny_handled ?_)
  rw [show A.in1.handled = none from hh]
  refine wpAny_bind (wpAny_pure (wpAny_throw ?_))
  refine wpAny_bind (wpAny_isInstance (T := "StopIteration") (b := true) ⟨_, Heap.get?_push_size _ rfl, rfl⟩ isSubtype_stop ?_)
  exact wpAny_pure (hQ _ (((Heap.SameBut.update ..).extBut.push _).push _))

/-- the walk through an accumulator's pairs -/
theorem rowWalks (hh : A.handled = none) (I x : Addr) (row : List Pair) (hne : x ≠ I) (hr : ∀ q ∈ row, q.a ≠ I) :
    WalksU prog w A I (I :: x :: row.map (·.a)) [I] row.length (fun j v => ∃ q, row[j]? = some q ∧ v = #[.str q.f q.tf, .str q.g q.tg])
      (fun j h => h.IsListIter I x j ∧ SeqAt h x (rowArr row) ∧ ∀ q ∈ row, h.IsTuple q.a #[.str q.f q.tf, .str q.g q.tg])
      (fun j T h => (∃ q, row[j]? = some q ∧ T = q.a) ∧ h.IsListIter I x (j + 1) ∧ SeqAt h x (rowArr row) ∧ ∀ q ∈ row, h.IsTuple q.a #[.str q.f q.tf, .str q.g q.tg]) where
  sub := fun b hb => by simp at hb; simp [hb]
  frame := fun _ _ _ st hk => ⟨st.1.at fun o e => hk I (by simp) o e, let ⟨o, n, e, r⟩ := st.2.1; ⟨o, n, hk x (by simp) o e, r⟩,
    fun q hq => (st.2.2 q hq).at fun o e => hk q.a (List.mem_cons_of_mem _ (List.mem_cons_of_mem _ (List.mem_map.mpr ⟨q, hq, rfl⟩))) o e⟩
  item := fun i s Q E hi st hQ => by
    have hq : row[i]? = some row[i] := by simp [hi]
    refine seq_item st.1 st.2.1 (x := .ref row[i].a) (by simp [rowArr, hi]) fun h' hit' hs' => ?_
    have tup : ∀ q ∈ row, h'.IsTuple q.a #[.str q.f q.tf, .str q.g q.tg] := fun q hm => (st.2.2 q hm).extBut hs'.extBut (hr q hm)
    exact hQ row[i].a _ h' s.toks ⟨row[i], hq, rfl⟩ (tup _ (List.getElem_mem hi)) ⟨⟨row[i], hq, rfl⟩, hit', st.2.1.extBut hs'.extBut hne, tup⟩ fun b o hb e => hs'.extBut b o (fun h => hb (by simp [h])) e
  go := fun _ _ _ _ _ s Q _ hm hQ => wpAny_letOwnedTupleGo_listiter hm.2.1 (hQ s.heap hm.2 fun _ _ _ e => e)
  apart := fun j T _ hm hmem => by
    obtain ⟨⟨q, hq, rfl⟩, _⟩ := hm
    rcases List.mem_cons.mp hmem with e | e
    · exact hr q (List.mem_of_getElem? hq) e
    · cases e
  done := fun s Q E st hQ => seq_end hh st.1 st.2.1 (by simp [rowArr]) fun h' he' => hQ h' s.toks fun b o hb e => he' b o (fun h => hb (by simp [h])) e
  self := fun _ _ _ _ st hQ => wpAny_pyIter_listiter st.1 hQ
end
section
variable {w : World} {A : Around} {E : Value → Shared → Prop} {s : Shared} {x dx L : Addr} {h₀ : Heap} {m : Str → Option Value} {news : List (Addr × Obj)} {items : Array Value} {n : Nat} {oD : Obj} {env : Env}

theorem acc_iter {Q : Value → Shared → Prop} (X : (hd.heap_39 w.params).In s.heap) (h1 : s.heap.get? x = some (accObj dx items n))
    (h : Q (.ref s.heap.objs.size) { s with heap := s.heap.push { cls := .type "list_iterator", data := .fields #[.ref x, .int 0 0] } }) : wpAny (MD w) A (pyIter (.ref x)) Q E s := by
  have T : Looks (MD w) s.heap (specialOf (.ref x) "__iter__") (some (.builtin "list.__iter__")) := ((Looks.ld h1).andThen .now).andThen (looks_findIn X (t := .ref 174) (by k_is))
  unfold pyIter
  refine wpAny_bind (T.here ?_)
  refine wpAny_bind (m := callSpecialIfBoundUnlessNone? _ _ _) ?_
  simp only [callSpecialIfBoundUnlessNone?, bindSpecialIfBound?]
  refine wpAny_holding (wpAny_bind (wpAny_bind (T.here ?_)))
  simp only [slot_list_iter.bind]
  have go : wpAny (MD w) A (call (.builtin "list.__iter__") [.ref x]) (fun it s' => s'.TypeIs it "list_iterator" ∧ Q it s') E s := by
    refine call_self (owner := "list") (n := "__iter__") (.inl (by decide +kernel)) (by decide +kernel) (acc_list X h1) (args_list_iter _) (by decide +kernel) entry_list_iter ?_
    show wpAny _ _ (do ret (← newFields "list_iterator" [.ref x, rawInt 0])) _ _ s
    exact wpAny_bind (wpAny_newObj_type (wpAny_pure ⟨⟨_, Heap.get?_push_size _ rfl, rfl⟩, h⟩))
  refine wpAny_bind (wpAny_askSetting (wpAny_ite ?_))
  have fin : wpAny (MD w) A (if (Value.builtin "list.__iter__" == Value.none) = true then (do rule "iter.none"; raiseError "TypeError" s!"'{← typeNameOf (.ref x)}' object is not iterable" : Sem Value) >>= fun v => pure (some v) else (call (.builtin "list.__iter__") [.ref x] >>= fun v => pure (some v)))
      (fun r s' => wpAny (MD w) A (match r with
        | some it => do match ← specialOf it "__next__" with
          | none => rule "iter.non-iterator"; raiseError "TypeError" s!"iter() returned non-iterator of type '{← typeNameOf it}'"
          | some _ => pure it
        | none => do match ← bindSpecialIfBound? (.ref x) "__getitem__" with
          | none => rule "iter.not-iterable"; raiseError "TypeError" s!"'{← typeNameOf (.ref x)}' object is not iterable"
          | some _ => rule "iter.getitem-fallback"; newFields "iterator" [.ref x, ← mkInt 0]) Q E s') E s := by
    simp only [builtin_beq_none, Bool.false_eq_true, if_false]
    exact wpAny_bind (wpAny_mono go (fun v s' h' => wpAny_pure (wpAny_bind (wpAny_specialOf h'.1 slot_listiter_next.lookup (wpAny_pure h'.2)))) fun _ _ h' => h')
  split
  · exact wpAny_bind (wpAny_pure (wpAny_pure fin))
  · exact wpAny_tryCatch (wpAny_bind (wpAny_pure (wpAny_pure fin)))

/-- a table of code objects, as it lies in the ledger -/
def TabObj (op : Obj) : Prop := ∃ ps, op = tabObj ps ∧ TriplesOk ps.toList

def codeObjIn (K : Frag) (c P : Addr) : Bool := codeHdIn K c P

theorem gen_code {pos : Pos} {q : Str} {scope : Scope} {c P : Addr} {op : Obj} {Q : Value → Shared → Prop} (X₀ : (hd.heap_39 w.params).In h₀) (F : Fr h₀ L s.heap m) (N : News h₀ L s.heap news) (hc : env.code = .ref c) (hci : codeObjIn (hd.heap_39 w.params) c P = true) (hne : c ≠ P)
    (hP : (P, op) ∈ news) (ht : TabObj op)
    (h : ∀ code h' tk op', TabObj op' → Fr h₀ L h' m → News h₀ L h' (put P op' news) → Heap.ExtBut P s.heap h' → Q code { s with heap := h', toks := tk }) :
    wpAny (MD w) A (genexprCode env pos q scope) Q E s := by
  obtain ⟨ps, rfl, htr⟩ := ht
  have NP := N _ hP
  have C : CodeHd s.heap c P := codeHd_of_K (X₀.keeps F.keep) hci
  have hcd := C.code NP.1 htr
  obtain ⟨oL, es, ep, hL, r⟩ := F.ns
  have fin : ∀ h' (ps' : Array Value), Heap.ExtBut P s.heap h' → h'.get? P = some (tabObj ps') → Fr h₀ L h' m ∧ News h₀ L h' (put P (tabObj ps') news) := fun h' ps' hx hP' =>
    ⟨⟨⟨oL, es, ep, hx _ _ (Ne.symm NP.2.1) hL, r⟩, fun b o e => hx b o (fun z => by rw [z, NP.2.2] at e; cases e) (F.keep b o e), F.above⟩, fun p hp => by
      obtain ⟨p', hp', rfl⟩ := List.mem_map.mp hp
      by_cases e : p'.1 = P
      · rw [if_pos e]; exact ⟨hP', NP.2⟩
      · rw [if_neg e]; exact ⟨hx _ _ e (N _ hp').1, (N _ hp').2⟩⟩
  cases hnf : codeAmong pos ps.toList with
  | some c' =>
    exact wpAny_genexprCode_hit hc hcd hnf (h c' s.heap s.toks _ ⟨ps, rfl, htr⟩ (fin _ ps (Heap.ExtBut.refl _ _) NP.1).1 (fin _ ps (Heap.ExtBut.refl _ _) NP.1).2 (Heap.ExtBut.refl _ _))
  | none =>
    refine wpAny_genexprCodeX hc hcd (C.tab NP.1) hnf fun c' h' tk hx _ _ hc' _ ht' _ => ?_
    obtain ⟨_, _, _, _, _, _, _, _, _, op', _, _, _, _, _, _, _, hop', hdp', htr', _⟩ := hc'
    have e9 := ht'.2
    have e8 : op' = tabObj (ps ++ #[rawInt pos.line, rawInt pos.col, .ref c']) := Option.some.inj (hop'.symm.trans e9)
    exact h (.ref c') h' tk _ ⟨_, rfl, htr'⟩ (fin _ _ hx e9).1 (fin _ _ hx e9).2 hx
theorem code_len : codeObjIn (hd.heap_39 w.params) 140 136 = true := by kernel_rfl
theorem code_str : codeObjIn (hd.heap_39 w.params) 147 143 = true := by kernel_rfl
end
/- MH -/
section
variable {w : World} {A : Around} {E : Value → Shared → Prop} {s : Shared} {x dx L : Addr} {h₀ : Heap} {m : Str → Option Value} {news : List (Addr × Obj)} {items : Array Value} {n : Nat} {oD : Obj} {env : Env}

theorem put_mem {p : Addr × Obj} {d : Addr} {o : Obj} (h : p ∈ news) (hne : p.1 ≠ d) : p ∈ put d o news := List.mem_map.mpr ⟨p, h, by rw [if_neg hne]⟩
theorem put_here {d : Addr} {o o' : Obj} (h : (d, o) ∈ news) : (d, o') ∈ put d o' news := List.mem_map.mpr ⟨_, h, by simp⟩
theorem put_fst {p : Addr × Obj} {d : Addr} {o : Obj} (h : p ∈ put d o news) : ∃ q ∈ news, q.1 = p.1 := by
  refine hide fun P9 hP9 => ?_
  obtain ⟨q, hq, rfl⟩ := List.mem_map.mp h
  refine hP9 ?_
  refine ⟨q, hq, ?_⟩
  split <;> simp_all
theorem news_apart {p q : Addr × Obj} (N : News h₀ L s.heap news) (hp : p ∈ news) (hq : q ∈ news) (h : p.2 ≠ q.2) : p.1 ≠ q.1 := fun e => h (by
  have a := (N p hp).1; have b := (N q hq).1
  rw [e, b] at a; exact (Option.some.inj a).symm)

theorem nle1 {a b : Nat} (h : a < b) : a ≤ b - 1 := by omega
theorem nlt1 {a b c : Nat} (h : a < b) (h2 : b ≤ c) : b - 1 < c := by omega
theorem nlt2 {a b c d : Nat} (h1 : a < b) (h2 : c < d) (h3 : c = b - 1) : a < d := by omega
theorem nlt3 {a b c d : Nat} (hag : b < c) (hd : d = c + 1) (h : a = c ∨ a = b ∨ a < b) : a < d := by omega
theorem gen_row {elt iter : Expr} {xa xb : Str} {pa pb pt : Pos} {kt : Nat} {scope : Scope} {cl : List (Str × Addr)} {pos : Pos} {row : List Pair} {c P : Addr} {op : Obj} {Fy : Pair → Value → Prop} {Q : Value → Shared → Prop}
    (G : At w A L h₀) (F : Fr h₀ L s.heap m) (N : News h₀ L s.heap news) (hx : (x, accObj dx (rowArr row) n) ∈ news) (hrow : ∀ q ∈ row, (q.a, q.obj) ∈ news) (hg : AllBare s.gens) (hP : (P, op) ∈ news) (ht : TabObj op)
    (hc : env.code = .ref c) (hglob : env.globals = mainGlobals) (hci : codeObjIn (hd.heap_39 w.params) c P = true) (hne : c ≠ P) (hroom : A.depth < recursionLimit)
    (hco : scope.isCoroutine = false) (hclos : closureFor scope env = pure cl) (hcell : ∀ y ∈ scope.names, y.2 ≠ .cell) (h0 : scope.names.lookup (".0" : Str) = some NameKind.local)
    (hxa : scope.names.lookup xa = some .local) (hxb : scope.names.lookup xb = some .local) (hab : xa ≠ xb) (hkind : scope.kind = .function) (hs : ∀ x, genFold iter env x = pure x)
    (hiter : ∀ Q' : Value → Shared → Prop, Q' (.ref x) s → wpAny (MD w) A (eval iter env) Q' E s)
    (helt : ∀ (A' : Around) E' (C : Addr) (code : Value) (t : Shared) m₂ q, q ∈ row → A'.handled = none → (∀ b o, h₀.get? b = some o → t.heap.get? b = some o) → t.heap.Ns C m₂ → m₂ xa = some (.str q.f q.tf) → m₂ xb = some (.str q.g q.tg) →
      wpAny (MD w) A' (eval elt (genEnv scope cl C code builtinsNs env)) (fun y s₃ => Fy q y ∧ Keeps t s₃) E' t)
    (h : ∀ a s₅ op' Kb, TabObj op' → Fr h₀ L s₅.heap m → News h₀ L s₅.heap (put P op' news) → AllBare s₅.gens → s₅.os = s.os → L ≤ Kb → (∀ p ∈ put P op' news, p.1 ≤ Kb) → (∀ b o, h₀.get? b = some o → b ≤ Kb) →
      Gen PySem.Challenge.rw_kl0049_01.row.prog w A Kb a row.length (fun j y => ∃ q, row[j]? = some q ∧ Fy q y) s₅ → Q (.ref a) s₅) :
    wpAny (MD w) A (eval (.GeneratorExp elt [⟨.Tuple [.Name xa pa, .Name xb pb] kt pt, iter, [], 0⟩] scope pos) env) Q E s := by
  refine hide fun P9 hP9 => ?_
  obtain ⟨loose, mg, mb, bm, ob, A₀, base, outer, env', B, T, M, hA, hf, hke⟩ := G.ex
  refine hP9 ?_
  have X := G.kin.keeps F.keep
  have h1 := (N _ hx).1
  refine wpAny_GeneratorExp_walksQT G.calm hco hclos hcell h0 hxa hxb hab hkind hroom (hiter _ (acc_iter X h1 ⟨?_, ?_⟩)) hs
  · exact (T.nolimit.keeps F.keep).push _
  refine hide fun P9 hP9 => ?_
  obtain ⟨oL, esL, epL, hL, rL⟩ := id F.ns
  refine hP9 ?_
  have hLlt := Heap.lt_size hL
  have F₁ := F.push (h := s.heap) { cls := .type "list_iterator", data := .fields #[.ref x, .int 0 0] }
  have N₁ : News h₀ L (s.heap.push { cls := .type "list_iterator", data := .fields #[.ref x, .int 0 0] }) news := fun p hp => N.push F _ rfl p (.tail _ hp)
  refine gen_code (s := { s with heap := s.heap.push { cls := .type "list_iterator", data := .fields #[.ref x, .int 0 0] } }) G.kin F₁ N₁ hc hci hne hP ht (fun code h' tk op' ht' F' N' hex => ?_)
  rw [hglob]
  refine wpAny_builtinsFor (M.ns.keeps F'.keep) M.name M.ne (F'.keep _ _ M.obj) M.cls M.dict M.data ?_
  have hIP : s.heap.objs.size ≠ P := fun e => absurd (Heap.lt_size (N _ hP).1) (by rw [← e]; exact Nat.lt_irrefl _)
  have hI : h'.IsListIter s.heap.objs.size x 0 := ⟨_, hex _ _ hIP (Heap.get?_push_size _ rfl), rfl, rfl⟩
  have hxP : x ≠ P := news_apart N hx hP (fun e => by
    refine hide fun P9 hP9 => ?_
    obtain ⟨ps, hd', _⟩ := ht
    refine hP9 ?_
    have e' : accObj dx (rowArr row) n = op := e
    rw [← e'] at hd'; exact absurd (congrArg Obj.cls hd') (by intro z; cases z))
  have hqP : ∀ q ∈ row, q.a ≠ P := fun q hq => news_apart N (hrow q hq) hP (fun e => by
    refine hide fun P9 hP9 => ?_
    obtain ⟨ps, hd', _⟩ := ht
    refine hP9 ?_
    have e' : q.obj = op := e
    rw [← e'] at hd'; exact absurd (congrArg Obj.cls hd') (by intro z; cases z))
  have hsq : SeqAt h' x (rowArr row) := ⟨_, n, hex _ _ hxP (Heap.get?_push_of_some _ h1), rfl⟩
  have htu : ∀ q ∈ row, h'.IsTuple q.a #[.str q.f q.tf, .str q.g q.tg] := fun q hq => ⟨_, hex _ _ (hqP q hq) (Heap.get?_push_of_some _ (N _ (hrow q hq)).1), rfl, 0, rfl⟩
  have up : ∀ b o, h₀.get? b = some o → b < s.heap.objs.size := fun b o e => Heap.lt_size (F.keep b o e)
  refine ⟨_, _, _, _, _, _, _, fun _ => true, fun i y => ∃ q, row[i]? = some q ∧ Fy q y, rfl, fun A' hA' => rowWalks hA' s.heap.objs.size x row (Nat.ne_of_lt (Heap.lt_size h1)) (fun q hq => Nat.ne_of_lt (Heap.lt_size (N _ (hrow q hq)).1)),
    (fun i v hv => by obtain ⟨q, _, rfl⟩ := hv; exact ⟨_, _, rfl⟩), ⟨hI, hsq, htu⟩, ?_, T.nolimit.keeps F'.keep, ?_, ?_, ?_⟩
  · intro b hb
    rcases List.mem_cons.mp hb with rfl | hb
    · obtain ⟨_, e, _⟩ := hI; exact Heap.lt_size e
    · rcases List.mem_cons.mp hb with rfl | hb
      · obtain ⟨_, _, e, _⟩ := hsq; exact Heap.lt_size e
      · refine hide fun P9 hP9 => ?_
        obtain ⟨q, hq, rfl⟩ := List.mem_map.mp hb
        refine hP9 ?_
        obtain ⟨_, e, _⟩ := htu q hq; exact Heap.lt_size e
  · intro hm
    rcases List.mem_cons.mp hm with e | hm
    · refine hide fun P9 hP9 => ?_
      obtain ⟨_, ⟨_, _, _, e', _⟩, _⟩ := T.nolimit
      refine hP9 ?_
      exact absurd (up _ _ e') (by rw [e]; exact Nat.lt_irrefl _)
    · cases hm
  · intro href hhref
    have keep : ∀ (t : Shared), (∀ b ∈ List.range h'.objs.size, b ∉ [s.heap.objs.size] → ∀ o, href.get? b = some o → t.heap.get? b = some o) → ∀ b o, h₀.get? b = some o → t.heap.get? b = some o := fun t hk b o e =>
      hk b (List.mem_range.mpr (Heap.lt_size (F'.keep b o e))) (fun hm => by
        rcases List.mem_cons.mp hm with z | hm
        · exact absurd (up b o e) (by rw [z]; exact Nat.lt_irrefl _)
        · cases hm) o (hhref b o (F'.keep b o e))
    refine ⟨fun A' E' i va vb s₂ m₂ hA' hP' hn ha hb hk => ?_, fun A' E' i va vb s₂ m₂ hA' hP' hp hn ha hb hk => ?_⟩
    · show wpAny _ _ (forIn [] true _) _ _ _
      exact wpAny_pure ⟨rfl, _, _, rfl, fun _ _ e => e⟩
    · refine hide fun P9 hP9 => ?_
      obtain ⟨q, hq, e⟩ := hP'
      refine hP9 ?_
      obtain ⟨rfl, rfl⟩ : va = .str q.f q.tf ∧ vb = .str q.g q.tg := by simpa using congrArg Array.toList e
      exact wpAny_mono (helt A' E' _ _ s₂ m₂ q (List.mem_of_getElem? hq) hA' (keep s₂ hk) hn ha hb) (fun y s₃ z => ⟨⟨q, hq, z.1⟩, z.2⟩) fun _ _ z => z
  · intro a h₅ tk' gs hgb hag hsz hk₅ W hat
    have hps : passing (fun _ => true) row.length 0 = List.range row.length := by simp [passing]
    rw [hps, List.length_range] at W
    have hI' : s.heap.objs.size < h'.objs.size := by obtain ⟨_, e, _⟩ := hI; exact Heap.lt_size e
    refine h a _ op' (s.heap.objs.size - 1) ht' (F'.keeps hk₅) (fun p hp => ⟨hk₅ _ _ (N' p hp).1, (N' p hp).2⟩) (hg.push hgb) rfl (nle1 hLlt) (fun p hp => ?_) (fun b o e => nle1 (up b o e)) ⟨_, _, _, _, W.imp fun j y hy => ?_, hat, (fun i s' st => st.1.typeIs), List.mem_cons_self, ?_, ?_⟩
    · refine hide fun P9 hP9 => ?_
      obtain ⟨q, hq, e⟩ := put_fst hp
      refine hP9 ?_
      rw [← e]
      exact nle1 (Heap.lt_size (N q hq).1)
    · refine hide fun P9 hP9 => ?_
      obtain ⟨i, hi, q, hq, hy⟩ := hy
      refine hP9 ?_
      have : i = j := by
        have hj := hi
        rw [List.getElem?_range] at hj
        · exact (Option.some.inj hj).symm
        · by_cases hjl : j < row.length
          · exact hjl
          · rw [List.getElem?_eq_none (by simpa using Nat.le_of_not_lt hjl)] at hi; cases hi
      exact ⟨q, this ▸ hq, hy⟩
    · intro b hb
      refine nlt3 hag hsz ?_
      rcases List.mem_cons.mp hb with e | hb
      · exact .inl e
      · rcases List.mem_cons.mp hb with e | hb
        · exact .inr (.inl e)
        · exact .inr (.inr (List.mem_range.mp hb))
    · intro b hb
      refine nlt1 hLlt ?_
      rcases List.mem_cons.mp hb with e | hb
      · exact Nat.le_of_lt (e ▸ hI')
      · rcases List.mem_cons.mp hb with e | hb
        · exact Nat.le_of_eq e.symm
        · cases hb
end
/- MI -/
section
variable {w : World} {A : Around} {E : Value → Shared → Prop} {s : Shared} {x dx L : Addr} {h₀ : Heap} {m : Str → Option Value} {news : List (Addr × Obj)} {items : Array Value} {n : Nat} {oD : Obj} {env : Env}
  {cn y : Str} {cs scope : Scope} {a : Addr} {ccd v : Value} {cl : List (Str × Addr)} {pos : Pos} {M : Model} {Q : Value → Shared → Prop}
theorem At.nameB (G : At w A L h₀) (F : Fr h₀ L s.heap m) (e : nsIn (hd.heap_39 w.params) mainGlobals y = some none) (hv : bootBuiltins y = some v) (hn : y ≠ "__name__") (h : Q v s)
    (hk : cs.kind = .function := by rfl) (hx : (envX cn cs L a ccd cl).kindOf y = some .globalImplicit := by rfl) (hd : (y == ("__debug__" : Str)) = false := by decide) :
    wpAny M A (eval (.Name y pos) (envX cn cs L a ccd cl)) Q E s := by
  obtain ⟨loose, mg, mb, bm, ob, A₀, base, outer, env', B, T, M, hA, hf, hke⟩ := G.ex
  exact nameX_B F G.kin T e hv hn h hk hx hd
theorem At.nameK (G : At w A L h₀) (F : Fr h₀ L s.heap m) (e : nsIn (hd.heap_39 w.params) mainGlobals y = some (some v)) (h : Q v s)
    (hk : cs.kind = .function := by rfl) (hx : (envX cn cs L a ccd cl).kindOf y = some .globalImplicit := by rfl) (hd : (y == ("__debug__" : Str)) = false := by decide) :
    wpAny M A (eval (.Name y pos) (envX cn cs L a ccd cl)) Q E s := by
  obtain ⟨loose, mg, mb, bm, ob, A₀, base, outer, env', B, T, M, hA, hf, hke⟩ := G.ex
  exact nameX_K F G.kin T e h hk hx hd
/-- the same within a generator expression -/
theorem At.genB {A' : Around} {C : Addr} {code : Value} (G : At w A L h₀) (hg : env.globals = mainGlobals) (keep : ∀ b o, h₀.get? b = some o → s.heap.get? b = some o) (e : nsIn (hd.heap_39 w.params) mainGlobals y = some none) (hv : bootBuiltins y = some v) (hn : y ≠ "__name__") (h : Q v s)
    (hk : scope.kind = .function := by rfl) (hx : (genEnv scope cl C code builtinsNs env).kindOf y = some .globalImplicit := by rfl) (hd : (y == ("__debug__" : Str)) = false := by decide) :
    wpAny M A' (eval (.Name y pos) (genEnv scope cl C code builtinsNs env)) Q E s := by
  obtain ⟨loose, mg, mb, bm, ob, A₀, base, outer, env', B, T, M, hA, hf, hke⟩ := G.ex
  exact Name_function_global hk hx (loadGlobal_builtin (env := genEnv scope cl C code builtinsNs env) (show s.heap.Ns env.globals mg from hg ▸ T.g.keeps keep) (mg_none_of G.kin T.g e) (T.b.keeps keep) ((T.builtins y hn).trans hv) h) hd
theorem At.genK {A' : Around} {C : Addr} {code : Value} (G : At w A L h₀) (hg : env.globals = mainGlobals) (keep : ∀ b o, h₀.get? b = some o → s.heap.get? b = some o) (e : nsIn (hd.heap_39 w.params) mainGlobals y = some (some v)) (h : Q v s)
    (hk : scope.kind = .function := by rfl) (hx : (genEnv scope cl C code builtinsNs env).kindOf y = some .globalImplicit := by rfl) (hd : (y == ("__debug__" : Str)) = false := by decide) :
    wpAny M A' (eval (.Name y pos) (genEnv scope cl C code builtinsNs env)) Q E s := by
  obtain ⟨loose, mg, mb, bm, ob, A₀, base, outer, env', B, T, M, hA, hf, hke⟩ := G.ex
  exact Name_function_global hk hx (loadGlobal_global (env := genEnv scope cl C code builtinsNs env) (show s.heap.Ns env.globals mg from hg ▸ T.g.keeps keep) (mg_of G.kin T.g e) h) hd
theorem genL {A' : Around} {C : Addr} {code : Value} {m₂ : Str → Option Value} (hn : s.heap.Ns C m₂) (hv : m₂ y = some v) (h : Q v s)
    (hk : scope.kind = .function := by rfl) (hx : (genEnv scope cl C code builtinsNs env).kindOf y = some .local := by rfl) (hd : (y == ("__debug__" : Str)) = false := by decide) :
    wpAny M A' (eval (.Name y pos) (genEnv scope cl C code builtinsNs env)) Q E s := wpAny_Name (wpAny_loadName_local hk hx hn hv h) hd

/-- what the ledger keeps of an entry when only what lies above is touched -/
theorem news_below {h h' : Heap} {Kb : Addr} (N : News h₀ L h news) (hb : ∀ p ∈ news, p.1 ≤ Kb) (hk : ∀ b o, b ≤ Kb → h.get? b = some o → h'.get? b = some o) : News h₀ L h' news :=
  fun p hp => ⟨hk _ _ (hb p hp) (N p hp).1, (N p hp).2⟩

theorem str_def_ok {row : List Pair} {op : Obj} (G : At w A L h₀) (F : Fr h₀ L s.heap m) (N : News h₀ L s.heap news) (hx : (x, accObj dx (rowArr row) n) ∈ news) (hrow : ∀ q ∈ row, (q.a, q.obj) ∈ news) (hg : AllBare s.gens) (hP : (143, op) ∈ news) (ht : TabObj op)
    (hroom : A.depth + 1 < recursionLimit) (hlen : row.length ≤ sizeLine) (hw : ∀ q ∈ row, q.f.length + q.g.length ≤ 1000) (hok : JoinOk "" (row.map fun q => Txt.join "" [q.f, q.g]) = true)
    (h : ∀ s' op' t, TabObj op' → Fr h₀ L s'.heap m → News h₀ L s'.heap (put 143 op' news) → AllBare s'.gens → s'.os = s.os → Q (.str (Txt.join "" (row.map fun q => Txt.join "" [q.f, q.g])) t) s') :
    wpAny (MD w) A (call (.ref 148) [.ref x]) Q E s := by
  refine G.call (binds := [(Str.ofString "self", .ref x)]) F N (by k_is) (by k_is) (Nat.lt_of_succ_lt hroom) (BindsTo.of_eq rfl) (locs rfl) (by decide) rfl rfl rfl (fun g L' h₁ E' G' F' N' lt => ?_)
  repeat walk_at "n"
  refine G'.nameK F' (by k_is) ?_
  refine GM.join ?_
  repeat walk_at "n"
  refine gen_row (row := row) (Fy := fun q y => ∃ u, y = .str (Txt.join "" [q.f, q.g]) u) G' F' N' hx hrow hg hP ht rfl rfl code_str (by decide) ?_ rfl rfl (by decide) rfl rfl rfl (by decide) rfl (fun _ => rfl) (fun Q' hq => ?_) (fun A' E' C code t m₂ q hq hA' keep hn ha hb => ?_) (fun a s₅ op' Kb ht' F₅ N₅ hg₅ hos hLK hb hb0 X => ?_)
  · exact hroom
  · repeat walk_at "n"
    exact hq
  · repeat walk_at "n"
    refine G'.genK rfl keep (by k_is) ?_
    refine GM.join ?_
    repeat walk_at "n"
    refine genL hn ha ?_
    repeat walk_at "n"
    refine genL hn hb ?_
    repeat walk_at "n"
    refine wpAny_newObj_type ?_ (by size_fits)
    repeat walk_at "n"
    refine join_tuple (items := #[.str q.f q.tf, .str q.g q.tg]) (ys := [q.f, q.g]) ⟨_, Heap.get?_push_size _ rfl, rfl, 0, rfl⟩ (.cons _ _ (.cons _ _ .nil)) ?_ (fun t' k => ⟨⟨t', rfl⟩, _, _, rfl, fun b o e => Heap.get?_push_of_some _ e⟩)
    have := hw q hq
    show (q.f.length + (q.g.length + 0)) + 2 * 0 ≤ _
    omega
  · repeat walk_at "n"
    have em : (List.range row.length).map (fun j => (row[j]?.map fun q => Txt.join "" [q.f, q.g]).getD "") = row.map fun q => Txt.join "" [q.f, q.g] := by
      apply List.ext_getElem?
      intro j
      by_cases hj : j < row.length
      · simp [hj]
      · simp [hj]
    refine join_rowsK F₅ hg₅ X hLK (fun j => (row[j]?.map fun q => Txt.join "" [q.f, q.g]).getD "") (fun j v hv => ?_) (em ▸ hok) (fun s' t' F₆ hg₆ hos₆ hk => ?_) hlen
    · obtain ⟨q, hq, u, rfl⟩ := hv
      exact ⟨u, by rw [hq]; rfl⟩
    · rw [em]
      exact ⟨_, _, _, F₆, news_below N₅ hb hk, fun Fz Nz => h s' op' t' ht' Fz Nz hg₆ (hos₆.trans hos)⟩
end
/- MJ -/
/-- a walk told with one more place ahead: for a sum that begins at a number -/
theorem shifted {prog : Program} {w : World} {A : Around} {I : Addr} {fp wr : List Addr} {G : Array GenState → Array GenState → Prop} {n : Nat} {P : Nat → Value → Prop} {St : Nat → Shared → Prop} (W : WalksS prog w A I fp wr G n P St) :
    WalksS prog w A I fp wr G (n + 1) (fun j v => match j with | 0 => False | j + 1 => P j v) (fun j s => match j with | 0 => False | j + 1 => St j s) where
  sub := W.sub
  grefl := W.grefl
  gtrans := W.gtrans
  frame := fun i s h' tk st ht hk => by cases i with | zero => exact st.elim | succ i => exact W.frame i s h' tk st ht hk
  item := fun i s Q E hi st hQ => by cases i with | zero => exact st.elim | succ i => exact W.item i s Q E (Nat.lt_of_succ_lt_succ hi) st fun v s' hP hs hm => hQ v s' hP hs hm
  done := fun s Q E st hQ => W.done s Q E st hQ
  self := fun i s Q E st hQ => by cases i with | zero => exact st.elim | succ i => exact W.self i s Q E st hQ

def ahead (k : Int) (val : Nat → Int) : Nat → Int | 0 => k | j + 1 => val j
theorem preSum_ahead (k : Int) (val : Nat → Int) : ∀ n, preSum (ahead k val) (n + 1) = k + preSum val n
  | 0 => by simp [preSum, ahead]
  | n + 1 => by
    show preSum (ahead k val) (n + 1) + val n = k + (preSum val n + val n)
    rw [preSum_ahead k val n]; omega
theorem args_sum2 (a b : Value) : argsOk "sum" ⟨[a, b], []⟩ := by unfold argsOk; kernel_rfl

section
variable {prog : Program} {w : World} {A : Around} {E : Value → Shared → Prop} {s : Shared} {h₀ : Heap} {L K : Addr} {m : Str → Option Value} {a : Addr} {n : Nat} {F : Nat → Value → Prop} {Q : Value → Shared → Prop}
theorem sum_from {k : Int} {tk : Tok} (Fh : Fr h₀ L s.heap m) (G : AllBare s.gens) (X : Gen prog w A K a n F s) (hLK : L ≤ K) (val : Nat → Int) (hval : ∀ j v, F j v → NumOf (val j) v)
    (hQ : ∀ s' t', Fr h₀ L s'.heap m → AllBare s'.gens → s'.os = s.os → (∀ b o, b ≤ K → s.heap.get? b = some o → s'.heap.get? b = some o) → Q (.int (k + preSum val n) t') s') :
    wpAny (model prog w) A (call (.builtin "sum") [.ref a, .int k tk]) Q E s := by
  obtain ⟨fp, wr, g, St, W, hst, _, _, hfp, hwr⟩ := X
  have W := W.in4_1
  refine call_function_tree _root_.PySem.F.kind_sum _root_.PySem.F.plain_sum _root_.PySem.F.entry_sum (args_sum2 _ _) ?_
  unfold Builtin.«sum»
  simp only [List.length_cons, List.length_nil]
  rw [if_neg (by decide)]
  refine wpAny_bind (wpAny_of_eq (show Builtin.Builtins.bindParams "sum" ["start"] 0 ⟨[.int k tk], []⟩ = pure [some (.int k tk)] from rfl) ?_)
  refine wpAny_bind (W.self 0 _ _ _ hst ?_)
  have fin : ∀ (tA : Tok) (st : Int) (t2 : Nat), (st = 0 ∨ st = 2) → s.toks ≤ t2 → wpAny (model prog w) A.in1 (do
        for (ty, what, hint) in [("str", "strings", "''"), ("bytes", "bytes", "b''"), ("bytearray", "bytearray", "b''")] do
          if ← isInstance (.int k tA) (.type ty) then
            rule "sum.start-refused"; raiseError "TypeError" s!"sum() can't sum {what} [use {hint}.join(seq) instead]"
        again (.builtin "sum.loop" ⟨[.ref a, ← newList [.int k tA], rawInt st, rawInt 0], []⟩)) (fun fin s' => match fin with
      | .done f => (match (Except.ok f : Result) with | .ok (.ret v) => Q v s' | .ok _ => False | .error e => E e s')
      | .again c' => c'.quiet = true ∧ codeAny (model prog w) A c' (fun r s' => match r with | .ok (.ret v) => Q v s' | .ok _ => False | .error e => E e s') s') E { s with toks := t2 } := by
    intro tA st t2 hst2 ht2
    simp only [List.forIn_cons, List.forIn_nil]
    refine wpAny_bind (wpAny_bind (wpAny_bind (wpAny_isInstance (T := "int") (b := false) (typeIs_int _ _ _) _root_.PySem.sub_int_str ?_)))
    simp only [Bool.false_eq_true, if_false]
    refine wpAny_pure (wpAny_bind (wpAny_bind (wpAny_isInstance (T := "int") (b := false) (typeIs_int _ _ _) _root_.PySem.sub_int_bytes ?_)))
    simp only [Bool.false_eq_true, if_false]
    refine wpAny_pure (wpAny_bind (wpAny_bind (wpAny_isInstance (T := "int") (b := false) (typeIs_int _ _ _) _root_.PySem.sub_int_bytearray ?_)))
    simp only [Bool.false_eq_true, if_false]
    refine wpAny_pure (wpAny_pure ?_)
    refine wpAny_bind (wpAny_newObj_type ?_)
    have hSf : s.heap.objs.size ∉ fp := fun hm => Nat.lt_irrefl _ (hfp _ hm)
    have e1 : preSum (ahead k val) 1 = k := by simp [preSum, ahead]
    refine wpAny_pure ⟨plainId_quiet _root_.PySem.F.plain_sum_loop _, codeAny_sum_loopAnyB (shifted W) (ahead k val) (fun i v hv => ?_) s.heap.objs.size hSf n 1 _ tA 0 st hst2 (by omega) (by omega)
      (W.frame 0 s _ _ hst (by first | exact ht2 | exact Nat.le_succ_of_le ht2) fun b _ o e => Heap.get?_push_of_some _ e) (by rw [e1]; exact Heap.get?_push_size _ rfl) fun s' t' hm => ?_⟩
    · cases i with
      | zero => exact hv.elim
      | succ i => exact hval i v hv
    · rw [preSum_ahead]
      have hm' := hm.drop_new (s₂ := s) ht2
      exact hQ s' t' (Fh.moved hm' fun b hb => Nat.lt_of_le_of_lt hLK (hwr b hb)) (G.movedS hm') hm'.os fun b o hb e => hm'.heap b o (fun hmem => Nat.lt_irrefl _ (Nat.lt_of_lt_of_le (hwr b hmem) hb)) e
  dsimp only
  split
  · refine wpAny_bind (wpAny_rule (wpAny_bind (wpAny_mkInt (wpAny_bind (wpAny_pure ?_)))))
    exact fin _ 0 _ (.inl rfl) (Nat.le_succ _)
  · exact wpAny_bind (wpAny_pure (fin _ 2 _ (.inr rfl) (Nat.le_refl _)))
end
/- MK -/
section
variable {w : World} {A : Around} {E : Value → Shared → Prop} {s : Shared} {x dx L : Addr} {h₀ : Heap} {m : Str → Option Value} {news : List (Addr × Obj)} {items : Array Value} {n : Nat} {oD : Obj} {env : Env}
  {v : Value} {Q : Value → Shared → Prop}

theorem gen_toks {prog : Program} {L a : Addr} {n : Nat} {F : Nat → Value → Prop} {tk : Nat} (X : Gen prog w A L a n F s) (ht : s.toks ≤ tk) : Gen prog w A L a n F { s with toks := tk } := by
  obtain ⟨fp, wr, g, St, W, hst, r⟩ := X
  exact ⟨fp, wr, g, St, W, W.frame 0 s s.heap tk hst ht fun _ _ _ e => e, r⟩

theorem slot_list_ga : Slot "list" "__getattribute__" "list.__getattribute__" := .of (owner := "list") (n := "__getattribute__") (by rw [typeLookup_type, builtinLookup_eq_fast]; kernel_rfl) (by decide +kernel) (by decide +kernel) (by decide +kernel)
  (by first | exact .inl (by decide +kernel) | exact .inr (by decide +kernel)) (by rw [isSubtype_type]; kernel_rfl)
theorem entry_list_ga : entryFor table "list.__getattribute__" = some Builtin.«object.__getattribute__» := entryFor_alias (id' := "object.__getattribute__") (by rw [fastTable_eq_tree]; kernel_rfl) (by decide +kernel) (by decide +kernel) (by rw [fastTable_eq_tree]; kernel_rfl)
theorem args_list_ga (a : Value) (y : Str) (t : Tok) : argsOk "list.__getattribute__" ⟨[a, .str y t], []⟩ := by unfold argsOk; kernel_rfl
theorem acc_value {name : Str} {od : Obj} {expr : Bool} (X : (hd.heap_39 w.params).In s.heap) (h1 : s.heap.get? x = some (accObj dx items n)) (h2 : s.heap.get? dx = some od) (hf : findObj (hd.heap_39 w.params) 174 (some od) name = some (.value v)) (hh : handedIn v = true)
    (h : Q v { s with toks := s.toks + 1 }) : wpAny (MD w) A (getAttr (.ref x) name expr) Q E s := by
  obtain ⟨hp, g, d, t, os⟩ := s
  have I := acc_at h1 h2
  have L0 := I.type (M := MD w)
  have L1 := looks_findIn (M := MD w) X (t := .ref 174) (name := "__getattribute__") (r := some (.builtin "list.__getattribute__")) (by k_is)
  have L2 := looks_findIn (M := MD w) X (t := .ref 174) (name := "__getattr__") (r := none) (by k_is)
  have L3 := looks_find (M := MD w) X I hf
  unfold getAttr getAttrBy
  refine wpAny_bind (wpAny_mkText (wpAny_holding (wpAny_bind (L0.at (wpAny_bind (L1.at ?_))))))
  show wpAny _ _ (getAttrByItsOwn _ _ _ _ _ _) _ _ _
  unfold getAttrByItsOwn hookBefore callGetattribute boundAndCalled
  refine wpAny_bind (L2.at ?_)
  refine wpAny_bind (wpAny_attempt (wpAny_holding ?_))
  have e : (expr && onTheHeap (.builtin "list.__getattribute__")) = false := by cases expr <;> rfl
  rw [if_neg (by rw [e]; exact Bool.false_ne_true)]
  refine wpAny_bind (wpAny_of_eq (slot_list_ga.bind _) ?_)
  refine call_self (owner := "list") (n := "__getattribute__") (.inl (by decide +kernel)) (by decide +kernel) (acc_list X h1) (args_list_ga _ _ _) (by decide +kernel) entry_list_ga ?_
  unfold Builtin.«object.__getattribute__»
  refine wpAny_bind (wpAny_of_eq (a := (Value.ref x, [Value.str name t])) rfl ?_)
  refine wpAny_bind (wpAny_of_eq (a := name) rfl ?_)
  refine wpAny_bind (L0.at (wpAny_bind (L3.at ?_)))
  refine wpAny_pure ?_
  show wpAny _ _ (handedOut v) _ _ _
  rw [handedOut_of hh]; exact wpAny_pure h
theorem acc_size {P : Params} {t0 : Tok} {k : Int} {tk : Tok} {expr : Bool} (X₀ : (hd.heap_39 w.params).In h₀) (F : Fr h₀ L s.heap m) (N : News h₀ L s.heap news) (hx : (x, accObj dx items n) ∈ news) (hd : (dx, iniObj P t0 k tk) ∈ news)
    (h : Q (.int k tk) { s with toks := s.toks + 1 }) : wpAny (MD w) A (getAttr (.ref x) "_initial_size" expr) Q E s :=
  acc_value (X₀.keeps F.keep) (N _ hx).1 (N _ hd).1 (findObj_own (C := 174) (by k_is) (attr := none) (by k_is) (by k_is) (by rfl)) (by rfl) h

/-- how long an accumulator's texts are, all told -/
def rowLen (row : List Pair) : Int := (row.map fun q => ((q.f.length : Int) + q.g.length)).sum

theorem len_def_ok {row : List Pair} {op : Obj} {P : Params} {t0 : Tok} {k : Int} {tk : Tok} (G : At w A L h₀) (F : Fr h₀ L s.heap m) (N : News h₀ L s.heap news) (hx : (x, accObj dx (rowArr row) n) ∈ news) (hd : (dx, iniObj P t0 k tk) ∈ news) (hrow : ∀ q ∈ row, (q.a, q.obj) ∈ news) (hg : AllBare s.gens) (hP : (136, op) ∈ news) (ht : TabObj op)
    (hroom : A.depth + 1 < recursionLimit) (hw : ∀ q ∈ row, q.f.length + q.g.length ≤ 1000)
    (h : ∀ s' op' t, TabObj op' → Fr h₀ L s'.heap m → News h₀ L s'.heap (put 136 op' news) → AllBare s'.gens → s'.os = s.os → Q (.int (k + rowLen row) t) s') :
    wpAny (MD w) A (call (.ref 141) [.ref x]) Q E s := by
  refine G.call (binds := [(Str.ofString "self", .ref x)]) F N (by k_is) (by k_is) (Nat.lt_of_succ_lt hroom) (BindsTo.of_eq rfl) (locs rfl) (by decide) rfl rfl rfl (fun g L' h₁ E' G' F' N' lt => ?_)
  repeat walk_at "n"
  try walk_at "n"
  refine G'.nameB F' (by k_is) (by boot_fast) (by decide) ?_
  repeat walk_at "n"
  refine gen_row (row := row) (Fy := fun q y => ∃ u, y = .int ((q.f.length : Int) + q.g.length) u) G' F' N' hx hrow hg hP ht rfl rfl code_len (by decide) ?_ rfl rfl (by decide) rfl rfl rfl (by decide) rfl (fun _ => rfl) (fun Q' hq => ?_) (fun A' E' C code t m₂ q hq hA' keep hn ha hb => ?_) (fun a s₅ op' Kb ht' F₅ N₅ hg₅ hos hLK hb hb0 X => ?_)
  · exact hroom
  · repeat walk_at "n"
    exact hq
  · have := hw q hq
    try walk_at "n"
    try walk_at "n"
    refine G'.genB rfl keep (by k_is) (by boot_fast) (by decide) ?_
    repeat walk_at "n"
    refine genL hn ha ?_
    repeat walk_at "n"
    refine _root_.PySem.P.len_str (by omega) ?_
    try walk_at "n"
    refine G'.genB rfl keep (by k_is) (by boot_fast) (by decide) ?_
    repeat walk_at "n"
    refine genL hn hb ?_
    repeat walk_at "n"
    refine _root_.PySem.P.len_str (by omega) ?_
    exact wpAny_add_int ⟨⟨_, rfl⟩, _, _, rfl, fun _ _ e => e⟩
  · repeat walk_at "n"
    try walk_at "n"
    repeat walk_at "n"
    refine acc_size G'.kin F₅ N₅ (put_mem hx ?_) (put_mem hd ?_) ?_
    · exact news_apart N hx hP (fun e => by
        obtain ⟨ps, hd', _⟩ := ht
        have e' : accObj dx (rowArr row) n = op := e
        rw [← e'] at hd'; exact absurd (congrArg Obj.cls hd') (by intro z; cases z))
    · exact news_apart N hd hP (fun e => by
        obtain ⟨ps, hd', _⟩ := ht
        have e' : iniObj P t0 k tk = op := e
        rw [← e'] at hd'; exact absurd (congrArg Obj.cls hd') (by intro z; cases z))
    repeat walk_at "n"
    refine sum_from (s := { s₅ with toks := s₅.toks + 1 }) F₅ hg₅ (gen_toks X (Nat.le_succ _)) hLK (fun j => ((row[j]?.map fun q => ((q.f.length : Int) + q.g.length)).getD 0)) (fun j v hv => ?_) (fun s' t' F₆ hg₆ hos₆ hk => ?_)
    · obtain ⟨q, hq, u, rfl⟩ := hv
      exact .inl ⟨u, by rw [hq]; rfl⟩
    · have em : preSum (fun j => ((row[j]?.map fun q => ((q.f.length : Int) + q.g.length)).getD 0)) row.length = rowLen row := by
        have e := preSum_getD (row.map fun q => ((q.f.length : Int) + q.g.length)) row.length
        rw [List.take_of_length_le (by simp)] at e
        rw [← show _ = rowLen row from e]
        congr 1
        funext j
        simp [List.getD_eq_getElem?_getD]
      show Ret h₀ L m g Q (.int _ t') s'
      rw [em]
      exact ⟨_, _, _, F₆, news_below N₅ hb hk, fun Fz Nz => h s' op' t' ht' Fz Nz hg₆ (hos₆.trans hos)⟩
end
/- MO -/
section
variable {w : World} {A : Around} {E : Value → Shared → Prop} {s : Shared} {x dx L : Addr} {h₀ : Heap} {m : Str → Option Value} {news : List (Addr × Obj)} {items : Array Value} {n : Nat} {oD : Obj} {env : Env}
  {v : Value} {Q : Value → Shared → Prop} {R : Result → Shared → Prop} {hh : Heap} {g : Array GenState} {d : Drawn} {t : Nat} {os : OsState}

theorem At.in1 (G : At w A L h₀) : At w A.in1 L h₀ := ⟨G.calm, G.kin, G.ex⟩

theorem len_ok {row : List Pair} {op : Obj} {P : Params} {t0 : Tok} {k : Int} {tk : Tok} (G : At w A L h₀) (F : Fr h₀ L s.heap m) (N : News h₀ L s.heap news) (hx : (x, accObj dx (rowArr row) n) ∈ news) (hd : (dx, iniObj P t0 k tk) ∈ news) (hrow : ∀ q ∈ row, (q.a, q.obj) ∈ news) (hg : AllBare s.gens) (hP : (136, op) ∈ news) (ht : TabObj op)
    (hroom : A.depth + 1 < recursionLimit) (hw : ∀ q ∈ row, q.f.length + q.g.length ≤ 1000) (hb : 0 ≤ k + rowLen row ∧ k + rowLen row < 2 ^ 63)
    (h : ∀ s' op' t, TabObj op' → Fr h₀ L s'.heap m → News h₀ L s'.heap (put 136 op' news) → AllBare s'.gens → s'.os = s.os → Q (.int (k + rowLen row) t) s') :
    wpAny (MD w) A (call (.builtin "len") [.ref x]) Q E s :=
  len_K F G.kin (acc_at (N _ hx).1 (N _ hd).1) (f := 141) (by k_is) (by k_is) (len_def_ok G.in1 F N hx hd hrow hg hP ht hroom hw fun s' op' t ht' F' N' hg' hos => ⟨hb, h { s' with toks := s'.toks + 1 } op' _ ht' F' N' hg' hos⟩)

theorem str_ok {row : List Pair} {op : Obj} (G : At w A L h₀) (F : Fr h₀ L s.heap m) (N : News h₀ L s.heap news) (hx : (x, accObj dx (rowArr row) n) ∈ news) (hd : (dx, oD) ∈ news) (hrow : ∀ q ∈ row, (q.a, q.obj) ∈ news) (hg : AllBare s.gens) (hP : (143, op) ∈ news) (ht : TabObj op)
    (hroom : A.depth + 1 < recursionLimit) (hu : A.units + 2 < cLine) (hlen : row.length ≤ sizeLine) (hw : ∀ q ∈ row, q.f.length + q.g.length ≤ 1000) (hok : JoinOk "" (row.map fun q => Txt.join "" [q.f, q.g]) = true)
    (h : ∀ s' op' t, TabObj op' → Fr h₀ L s'.heap m → News h₀ L s'.heap (put 143 op' news) → AllBare s'.gens → s'.os = s.os → Q (.str (Txt.join "" (row.map fun q => Txt.join "" [q.f, q.g])) t) s') :
    wpAny (MD w) A (call (.type "str") [.ref x]) Q E s :=
  kso_call hu (G.kin.keeps F.keep) (acc_at (N _ hx).1 (N _ hd).1) (f := 148) (by k_is) (by k_is) (str_def_ok G.in1.in1 F N hx hrow hg hP ht hroom hlen hw hok fun s' op' t ht' F' N' hg' hos => h s' op' t ht' F' N' hg' hos)

theorem list_new_kind : builtinKind "list.__new__" = some .builtinFn := by decide +kernel
theorem list_new_split : splitId "list.__new__" = some ("list", "__new__") := by decide +kernel
theorem list_new_args (a : Value) (rest : List Value) : argsOk "list.__new__" ⟨a :: rest, []⟩ := by unfold argsOk; kernel_rfl

theorem acc_made {M : Model} (X : (hd.heap_39 w.params).In hh) : Looks M hh (Bind.madeBy (.ref 174)) (some "list.__new__") := by
  have hm : Looks M hh (mroOf (.ref 174)) [.ref 174, .type "list", .type "object"] := by
    obtain ⟨cd, hc, hmr⟩ : ∃ cd, clsIn (hd.heap_39 w.params) 174 = some cd ∧ cd.mro = [.ref 174, .type "list", .type "object"] := ⟨_, by k_is, rfl⟩
    exact hmr ▸ (looks_clsIn X hc).andThen .now
  obtain ⟨o, ho, hs⟩ : ∃ o, (hd.heap_39 w.params).lookup 174 = some o ∧ o.slots.toList[4]? = some (some (.builtin "list.__new__")) := ⟨_, by k_is, rfl⟩
  intro A Q E s k q
  unfold Bind.madeBy
  refine wpAny_bind (hm A _ E s k ?_)
  rw [List.forIn_cons]
  refine wpAny_bind (wpAny_bind (wpAny_bind (wpAny_bind (wpAny_loadPart (k _ _ (X _ _ ho)) (wpAny_pure ?_)))))
  rw [← Array.getElem?_toList, hs]
  exact wpAny_pure (wpAny_pure (wpAny_pure q))
theorem acc_base {M : Model} (X : (hd.heap_39 w.params).In hh) : Looks M hh (Bind.staticBase (.ref 174)) (.ref 174) := by
  have hm : Looks M hh (mroOf (.ref 174)) [.ref 174, .type "list", .type "object"] := by
    obtain ⟨cd, hc, hmr⟩ : ∃ cd, clsIn (hd.heap_39 w.params) 174 = some cd ∧ cd.mro = [.ref 174, .type "list", .type "object"] := ⟨_, by k_is, rfl⟩
    exact hmr ▸ (looks_clsIn X hc).andThen .now
  intro A Q E s k q
  unfold Bind.staticBase
  refine wpAny_bind (hm A _ E s k ?_)
  rw [List.forIn_cons]
  exact wpAny_bind (wpAny_bind (wpAny_bind (acc_made X A _ E s k (wpAny_pure (wpAny_pure (wpAny_pure q))))))

theorem acc_new {k : Int} {tk : Tok} (X : (hd.heap_39 w.params).In hh)
    (hq : R (.ok (.ret (.ref (hh.objs.size + 1)))) ⟨(hh.push emptyDict).push (accObj hh.objs.size #[] 0), g, d, t, os⟩) :
    codeAny (MD w) A (.call (.builtin "list.__new__") ⟨[.ref 174, .int k tk], []⟩) R ⟨hh, g, d, t, os⟩ := by
  obtain ⟨o, ho, hcl, hda⟩ : ∃ o, (hd.heap_39 w.params).lookup 174 = some o ∧ o.cls = .type "type" ∧ ∃ cd, o.data = .cls cd ∧ cd.hasDel = false := ⟨_, by k_is, rfl, _, rfl, rfl⟩
  obtain ⟨cd, hda, hdel⟩ := hda
  have hC := X _ _ ho
  have typ : Looks (MD w) hh (isType (.ref 174)) true := (Looks.ld hC).andThen (by rw [hda]; exact .now)
  have sub : Looks (MD w) hh (isSubtype (.ref 174) (.type "list")) true := looks_subIn X (by k_is)
  have base := acc_base (M := MD w) X
  have made := acc_made (M := MD w) X
  refine codeAny_call_builtin_code (plainId_quiet _root_.PySem.F.plain_list_new _) ?_
  have ck : ∀ {A' : Around} {E' : Value → Shared → Prop} {Q' : Unit → Shared → Prop}, Q' () ⟨hh, g, d, t, os⟩ → wpAny (MD w) A' (checkBuiltinCall "list.__new__" ⟨[.ref 174, .int k tk], []⟩) Q' E' ⟨hh, g, d, t, os⟩ := by
    intro A' E' Q' q
    simp only [checkBuiltinCall, list_new_kind, list_new_split]
    rw [if_pos (by decide)]
    repeat (first | simp only [bne_self_eq_false, Bool.not_true, Bool.false_eq_true, if_false] | lk)
    exact q
  refine ck (codeAny_builtin_stack _root_.PySem.F.entry_list_new rfl fun p st => ?_)
  have hown := owner_list_new
  simp only [hown]
  repeat (first | simp only [bne_self_eq_false, Bool.not_true, Bool.false_eq_true, if_false] | lk)
  refine wpAny_load (Heap.get?_push_of_some _ (Heap.get?_push_of_some _ hC)) ?_
  rw [hda]
  refine wpAny_pure ?_
  rw [hdel]
  repeat (first | simp only [bne_self_eq_false, Bool.not_true, Bool.false_eq_true, if_false] | lk)
  rw [Heap.size_push]
  exact hq

theorem make_acc {k : Int} {tk : Tok} (X : (hd.heap_39 w.params).In s.heap) (F : Fr h₀ L s.heap m) (N : News h₀ L s.heap news)
    (h : ∀ x dx h', Fr h₀ L h' m → News h₀ L h' ((x, accObj dx #[] 0) :: (dx, emptyDict) :: news) → (∀ p ∈ news, p.1 < dx) → dx < x →
      codeAny (MD w) (A.under (.builtin "type.__call__" ⟨[.ref 174, .int k tk], []⟩)) (.call (.ref 111) ⟨[.ref x, .int k tk], []⟩) (InitBack x R) { s with heap := h' }) :
    codeAny (MD w) A (.call (.ref 174) ⟨[.int k tk], []⟩) R s := by
  obtain ⟨hh, g, d, t, os⟩ := s
  have N' := (N.push F emptyDict).push (F.push _) (accObj hh.objs.size #[] 0)
  rw [Heap.size_push] at N'
  have h' := h _ hh.objs.size _ ((F.push emptyDict).push (accObj hh.objs.size #[] 0)) N' (fun p hp => Heap.lt_size (N p hp).1) (Nat.lt_succ_self _)
  obtain ⟨oc, od, cd, sl, ho, hmt⟩ : ∃ oc od cd sl, (hd.heap_39 w.params).lookup 174 = some ⟨oc, od, .cls cd, sl⟩ ∧ cd.mro.isEmpty = false := ⟨_, _, _, _, by k_is, rfl⟩
  have hC := X _ _ ho
  have call : Looks (MD w) hh (specialOf (.ref 174) "__call__") (some (.builtin "type.__call__")) := looks_specialIn X (by k_is)
  have typ : Looks (MD w) hh (isInstance (.ref 174) (.type "type")) true := looks_instIn X (by k_is)
  have hm : Looks (MD w) hh (mroOf (.ref 174)) [.ref 174, .type "list", .type "object"] := by
    obtain ⟨cd, hc, hmr⟩ : ∃ cd, clsIn (hd.heap_39 w.params) 174 = some cd ∧ cd.mro = [.ref 174, .type "list", .type "object"] := ⟨_, by k_is, rfl⟩
    exact hmr ▸ (looks_clsIn X hc).andThen .now
  have made := acc_made (M := MD w) X
  refine codeAny_of_tree ?_
  show wpAny _ _ (callAny (.ref 174) _) _ _ _
  refine nd_load hC ?_
  show wpAny _ _ (callAny.viaDunder (.ref 174) _) _ _ _
  unfold callAny.viaDunder
  refine wpAny_bind (call.at ?_)
  dsimp only
  rw [tc_bind]
  refine wpAny_bind (wpAny_pure (wpAny_bind (wpAny_pure ?_)))
  refine wpAny_pure (a := Fin.again (.call (.builtin "type.__call__") ⟨[.ref 174, .int k tk], []⟩)) (And.intro rfl ?_)
  refine codeAny_call_builtin_at (Code.quiet_builtin _ (by decide +kernel)) entry_typeCall (check_slot tc_kind tc_split typ (tc_args _ _ _) ?_)
  unfold Builtin.«type.__call__»
  repeat (first | simp only [List.isEmpty_cons, Bool.false_eq_true, if_false] | with_reducible refine wpAny_call ?_ | lk)
  refine acc_new X ?_
  have kk : ∀ b o, hh.get? b = some o → ((hh.push emptyDict).push (accObj hh.objs.size #[] 0)).get? b = some o := fun b o e => Heap.get?_push_of_some _ (Heap.get?_push_of_some _ e)
  have hx : ((hh.push emptyDict).push (accObj hh.objs.size #[] 0)).get? (hh.objs.size + 1) = some (accObj hh.objs.size #[] 0) := (N' _ (.head _)).1
  have t1 : Looks (MD w) ((hh.push emptyDict).push (accObj hh.objs.size #[] 0)) (typeOf (.ref (hh.objs.size + 1))) (.ref 174) := (Looks.ld hx).andThen .now
  have X' : (hd.heap_39 w.params).In ((hh.push emptyDict).push (accObj hh.objs.size #[] 0)) := X.keeps kk
  have s1 : Looks (MD w) ((hh.push emptyDict).push (accObj hh.objs.size #[] 0)) (isSubtype (.ref 174) (.ref 174)) true := looks_subIn X' (by k_is)
  have i1 : Looks (MD w) ((hh.push emptyDict).push (accObj hh.objs.size #[] 0)) (typeLookup (.ref 174) "__init__") (some (.ref 111)) := looks_findIn X' (by k_is)
  have b1 : Looks (MD w) ((hh.push emptyDict).push (accObj hh.objs.size #[] 0)) (bindSpecial (.ref 111) (.ref (hh.objs.size + 1))) (.ref 111, [.ref (hh.objs.size + 1)]) := bind_fn X' _ (by k_is)
  unfold isInstance callSpecial? specialOf
  repeat (first | with_reducible refine wpAny_call ?_ | lk)
  refine codeAny_mono h' fun r s' z => ?_
  rcases r with e | (v | _ | _ | _) <;> first | exact z | exact z.elim | skip
  obtain ⟨rfl, z⟩ := z
  exact wpAny_pure (wpAny_pure z)
end
/- MP -/
theorem tc_weight (C : Addr) (r : List Value) : (Code.builtin "type.__call__" ⟨.ref C :: r, []⟩).weight = 1 := by kernel_rfl
theorem tc_units (C : Addr) (r : List Value) : (Code.builtin "type.__call__" ⟨.ref C :: r, []⟩).cUnits = 1 := by kernel_rfl
section
variable {w : World} {A : Around} {E : Value → Shared → Prop} {s : Shared} {x dx L : Addr} {h₀ : Heap} {m : Str → Option Value} {news : List (Addr × Obj)} {items : Array Value} {n : Nat} {oD : Obj} {env : Env}
  {v : Value} {Q : Value → Shared → Prop} {R : Result → Shared → Prop}
theorem At.underTC {C : Addr} {r : List Value} (G : At w A L h₀) : At w (A.under (.builtin "type.__call__" ⟨.ref C :: r, []⟩)) L h₀ := by
  obtain ⟨c, k, loose, mg, mb, bm, ob, A₀, base, outer, env, B, T, M, hA, r⟩ := G
  exact ⟨c, k, loose, mg, mb, bm, ob, A₀, base, outer, env, B, T, M, hA, r⟩
theorem underTC_depth {C : Addr} {r : List Value} : (A.under (.builtin "type.__call__" ⟨.ref C :: r, []⟩)).depth = A.depth + 1 := by
  show A.depth + _ = _; rw [tc_weight]
theorem underTC_units {C : Addr} {r : List Value} : (A.under (.builtin "type.__call__" ⟨.ref C :: r, []⟩)).units = A.units + 1 := by
  show A.units + _ = _; rw [tc_units]

theorem At.codeS {name qual : Str} {params : Arguments} {body : List Stmt} {scope : Scope} {dV kV doc pm cdv ct oc : Value} {an od : Option Addr} {osl : Array (Option Value)} {f cc : Addr} {vals : List Value} {binds : List (Str × Value)}
    (G : At w A L h₀) (F : Fr h₀ L s.heap m) (N : News h₀ L s.heap news)
    (ho : (hd.heap_39 w.params).lookup f = some ⟨oc, od, .func (ksFn name qual params body scope dV kV doc pm an cdv ct cc), osl⟩)
    (hcd : codeIn (hd.heap_39 w.params) cdv qual = true) (hroom : A.depth < recursionLimit)
    (hbind : BindsTo s (ksFn name qual params body scope dV kV doc pm an cdv ct cc) ⟨vals, []⟩ binds) (hloc : ∀ y ∈ binds, scope.names.lookup y.1 = some .local)
    (hcell : ∀ x ∈ scope.names, x.2 ≠ .cell) (hco : scope.isCoroutine = false) (hgen : scope.isGenerator = false) (hk : scope.kind = .function)
    (h : ∀ g L' h₁ E', At w (A.deeper (ksEnv qual scope L' f cdv cc)) L' g → Fr g L' h₁ (fm binds.reverse) → News g L' h₁ news → (∀ p ∈ news, p.1 < L') →
      _root_.PySem.wpAt (MD w) (A.deeper (ksEnv qual scope L' f cdv cc)) (.func body (ksEnv qual scope L' f cdv cc)) (execs body (ksEnv qual scope L' f cdv cc))
        (fun fl s' => Ret h₀ L m g (fun v s' => R (.ok (.ret v)) s') (match fl with | .ret v => v | _ => .none) s') E' { s with heap := h₁, toks := s.toks + binds.length }) :
    codeAny (MD w) A (.call (.ref f) ⟨vals, []⟩) R s := by
  obtain ⟨calm, X₀, loose, mg, mb, bm, ob, A₀, base, outer, env, B, T, M, hA, hf, hke⟩ := G
  refine code_superR B F X₀ N T.nolimit hA hf hke ho hcd hroom hbind hloc (fun g L' h₁ FG F' N' B' st lt => ?_) hcell hco hgen hk
  have F'' : Fr g L' h₁ (fm binds.reverse) := by rw [← fm_lookup]; exact F'
  exact h g L' h₁ _ ⟨calm, X₀.keeps st, loose, mg, mb, bm, ob, A, base, env :: outer, ksEnv qual scope L' f cdv cc, B', T.keeps st, M.keeps st, by show (A.deeper _).frames = _; unfold Around.deeper; rw [hA]; rfl, rfl, hk⟩ F'' N' lt

theorem refuse_acc (self : Value) : refuseLoop self "__setattr__" [.ref 174, .type "list", .type "object"] = pure () := by
  rw [refuseLoop_ref]; kernel_rfl
theorem acc_open {ox : Obj} {od : Option Obj} {name : Str} {tk : Tok} (X : (hd.heap_39 w.params).In s.heap) (I : InstAt s.heap x ox 174 od) (ha : findIn (hd.heap_39 w.params) (.ref 174) name = some none)
    (h : ∀ b, wpAny (MD w) A.in1 (Builtin.ObjectAttr.storeInOwnDict (.ref x) (.ref 174) (.str name tk) name v b)
      (fun fin s' => match fin with | .done f => R (.ok f) s' | .again c' => c'.quiet = true ∧ codeAny (MD w) A c' R s') (fun e s' => R (.error e) s') s) :
    codeAny (MD w) A (.call (.builtin "object.__setattr__") ⟨[.ref x, .str name tk, v], []⟩) R s := by
  have SF := _root_.PySem.F.store_object
  obtain ⟨cd, hc, hmr⟩ : ∃ cd, clsIn (hd.heap_39 w.params) 174 = some cd ∧ cd.mro = [.ref 174, .type "list", .type "object"] := ⟨_, by k_is, rfl⟩
  have hm : Looks (MD w) s.heap (mroOf (.ref 174)) [.ref 174, .type "list", .type "object"] := hmr ▸ (looks_clsIn X hc).andThen .now
  have sub : Looks (MD w) s.heap (isInstance (.ref x) (.type "object")) true := I.type.andThen (looks_subIn X (t := .ref 174) (by k_is))
  refine codeAny_call_builtin SF.slot.plain SF.entry (@check_slot (MD w) _ _ s "object.__setattr__" "object" "__setattr__" (.ref x) [.str name tk, v] [] _ SF.kind SF.split sub (SF.args (.ref x) (.str name tk) v) ?_)
  rw [osa_eq, refuse_eq]
  refine wpAny_bind (wpAny_bind (I.type.here (wpAny_bind (hm.here ?_))))
  rw [refuse_acc]
  refine wpAny_pure (wpAny_bind (I.type.here (wpAny_bind ((looks_findIn X ha).here (wpAny_bind (wpAny_pure ?_))))))
  exact h _

theorem acc_hasDict : ∃ cd, clsIn (hd.heap_39 w.params) 174 = some cd ∧ cd.hasDict = true := ⟨_, by k_is, rfl⟩
theorem acc_store {k : Int} {tk : Tok} {Q : Unit → Shared → Prop} (X₀ : (hd.heap_39 w.params).In h₀) (F : Fr h₀ L s.heap m) (N : News h₀ L s.heap news) (hx : (x, accObj dx items n) ∈ news) (hd : (dx, emptyDict) ∈ news)
    (h : ∀ h' t0, Fr h₀ L h' m → News h₀ L h' (put dx (iniObj w.params t0 k tk) news) → Q () { s with heap := h', toks := s.toks + 2 }) :
    wpAny (MD w) A (setAttr (.ref x) "_initial_size" (.int k tk)) Q E s := by
  obtain ⟨hp, g, d, t, os⟩ := s
  have X := X₀.keeps F.keep
  have I := acc_at (N _ hx).1 (N _ hd).1
  refine set_plain X I (by k_is) (acc_open (s := ⟨hp, g, d, t + 1, os⟩) X I (by k_is) fun b => ?_)
  obtain ⟨F', N'⟩ := upd_news (o' := iniObj w.params (t + 1) k tk) (f := Obj.putName "_initial_size" (PyData.keyHash w.params "_initial_size") (.str "_initial_size" (t + 1)) (.int k tk)) F N hd (by rfl) rfl
  have D := (N _ hd).1
  have D' := (N' _ (put_here hd)).1
  obtain ⟨cd, hc, hd'⟩ := acc_hasDict (w := w)
  unfold Builtin.ObjectAttr.storeInOwnDict
  refine wpAny_bind (wpAny_pure (wpAny_bind (wpAny_bind (wpAny_loadPart I.at_ (wpAny_bind ((looks_clsIn X hc).at ?_))))))
  rw [hd']
  refine wpAny_pure (a := some dx) (wpAny_bind (wpAny_pure (wpAny_bind ?_)))
  unfold nsSet
  refine wpAny_bind (wpAny_bind (wpAny_askSetting (wpAny_pure (wpAny_bind (wpAny_mkText (wpAny_bind (wpAny_loadPart D ?_)))))))
  rw [if_neg (by decide)]
  refine wpAny_updatePart D ?_
  refine wpAny_bind (wpAny_lookBehind D' (pastItsLine_dict (show 1 ≤ sizeLine + 1 by decide)) ?_)
  exact wpAny_pure (h _ _ F' N')

theorem bound_init (v : Value) : checkBoundCall "list.__init__" ⟨[v], []⟩ = pure () := by kernel_rfl
theorem entry_list_init' : entryFor table "list.__init__" = some Builtin.«list.__init__» := entryFor_of_tree (by kernel_rfl)

theorem init_run {Q : PySem.Fin → Shared → Prop} (F : Fr h₀ L s.heap m) (N : News h₀ L s.heap news) (hx : (x, accObj dx #[] n) ∈ news)
    (h : ∀ h' n', Fr h₀ L h' m → News h₀ L h' (put x (accObj dx #[] n') news) → Q (.done (.ret .none)) { s with heap := h' }) :
    wpAny (MD w) A (Builtin.«list.__init__» ⟨[.ref x], []⟩) Q E s := by
  have h1 := (N _ hx).1
  unfold Builtin.«list.__init__»
  dsimp only
  rw [if_neg (by decide)]
  try rw [if_neg (by decide)]
  refine wpAny_bind (m := Builtin.List.listItems (.ref x)) ?_
  unfold Builtin.List.listItems
  refine wpAny_bind (wpAny_seqItems h1 rfl (wpAny_pure ?_))
  obtain ⟨F', N'⟩ := upd_news (o' := accObj dx #[] (if (#[] : Array Value).size == (#[] : Array Value).size then n else n + 1)) (f := Obj.mapSeq fun _ => #[]) F N hx (by rfl) rfl
  refine wpAny_bind (m := Builtin.List.listUpdate (.ref x) _) ?_
  unfold Builtin.List.listUpdate
  refine wpAny_updateSeq h1 rfl ?_ (hz := by decide) (_hz' := by decide)
  refine wpAny_bind (wpAny_letGo ?_)
  exact wpAny_pure (h _ _ F' N')

theorem acc_init_ok {k : Int} {tk : Tok} (G : At w A L h₀) (F : Fr h₀ L s.heap m) (N : News h₀ L s.heap news) (hx : (x, accObj dx #[] 0) ∈ news) (hd : (dx, emptyDict) ∈ news) (hroom : A.depth < recursionLimit)
    (h : ∀ h' t0 n' tk', Fr h₀ L h' m → News h₀ L h' (put x (accObj dx #[] n') (put dx (iniObj w.params t0 k tk) news)) → R (.ok (.ret .none)) { s with heap := h', toks := tk' }) :
    codeAny (MD w) A (.call (.ref 111) ⟨[.ref x, .int k tk], []⟩) R s := by
  have hxd : x ≠ dx := news_apart N hx hd (by intro e; have := congrArg Obj.cls e; cases this)
  refine G.codeS (binds := [(Str.ofString "self", .ref x), (Str.ofString "initial_size", .int k tk)]) F N (by k_is) (by k_is) hroom (binds_K (G.kin.keeps F.keep) rfl (by k_is) rfl rfl rfl) (locs rfl) (by decide) rfl rfl rfl (fun g L' h₁ E' G' F' N' lt => ?_)
  walk_at "sa"
  refine ks_wpAt_Assign_Attr ?_
  refine wpAt_of_wpAny ?_
  repeat walk_at "n"
  refine acc_store G'.kin F' N' hx hd (fun h₂ t0 F₂ N₂ => ?_)
  repeat walk_at "sa"
  refine G'.super (x := x) (C := 174) F₂ N₂ (by k_is) rfl rfl (acc_at (N₂ _ (put_mem hx ?_)).1 (N₂ _ (put_here hd)).1) (by k_is) rfl (by decide +kernel) (by k_is) (by k_is) (by k_is) (by k_is) (by decide) rfl rfl rfl rfl (by decide +kernel) (by decide +kernel) (fun so h₃ F₃ N₃ lt₃ => ?_)
  · exact hxd
  refine super_slot (id := "list.__init__") G'.kin F₃ N₃ (.head _) (acc_at (N₃ _ (.tail _ (put_mem hx ?_))).1 (N₃ _ (.tail _ (put_here hd))).1) (by ks_is) (by rw [builtinType_eq_fast]; kernel_rfl) (by decide +kernel) (by decide) (fun q h₄ F₄ N₄ lt₄ => ?_)
  · exact hxd
  refine callWith_bound (N₄ _ (.head _)).1 (.inl rfl) (call_bound (N₄ _ (.head _)).1 (.inl rfl) (fun z => wpAny_of_eq (bound_init _) z) (by decide +kernel) entry_list_init' ?_)
  refine init_run F₄ N₄ (.tail _ (.tail _ (put_mem hx hxd))) (fun h₅ n' F₅ N₅ => ?_)
  refine wpAt_of_wpAny (wpAny_execs_nil ?_)
  exact ⟨_, _, _, F₅, fun p hp => N₅ p (show p ∈ put x _ (_ :: _ :: put dx _ news) from .tail _ (.tail _ hp)), fun Fz Nz => h h₅ t0 n' _ Fz Nz⟩

theorem new_acc {k : Int} {tk : Tok} (G : At w A L h₀) (F : Fr h₀ L s.heap m) (N : News h₀ L s.heap news) (hroom : A.depth + 1 < recursionLimit)
    (h : ∀ x dx h' t0 n' tk', Fr h₀ L h' m → News h₀ L h' ((x, accObj dx #[] n') :: (dx, iniObj w.params t0 k tk) :: news) → (∀ p ∈ news, p.1 < dx) → dx < x → Q (.ref x) { s with heap := h', toks := tk' }) :
    wpAny (MD w) A (call (.ref 174) [.int k tk]) Q E s := by
  refine wpAny_call (make_acc (G.kin.keeps F.keep) F N fun x dx h' F' N' lt lx => ?_)
  refine acc_init_ok (s := { s with heap := h' }) G.underTC F' N' (.head _) (.tail _ (.head _)) (by rw [underTC_depth]; exact hroom) fun h'' t0 n' tk' F₂ N₂ => ⟨rfl, ?_⟩
  refine h x dx h'' t0 n' tk' F₂ (fun p hp => N₂ p ?_) lt lx
  have hne : x ≠ dx := fun e => absurd lx (by rw [e]; exact Nat.lt_irrefl _)
  rcases List.mem_cons.mp hp with rfl | hp
  · exact put_here (put_mem (.head _) hne)
  · rcases List.mem_cons.mp hp with rfl | hp
    · exact put_mem (put_here (.tail _ (.head _))) hne.symm
    · have h1 := lt p hp
      exact put_mem (put_mem (.tail _ (.tail _ hp)) (Nat.ne_of_lt h1)) (Nat.ne_of_lt (Nat.lt_trans h1 lx))
end
/- MQ -/
section
variable {w : World} {A : Around} {E : Value → Shared → Prop} {s : Shared} {x dx L : Addr} {h₀ : Heap} {m : Str → Option Value} {news : List (Addr × Obj)} {items : Array Value} {n : Nat} {oD : Obj} {env : Env}
  {v : Value} {Q : Value → Shared → Prop} {R : Result → Shared → Prop}

theorem acc_method {name : Str} {f : Addr} {pl : Sem Bool} {Q : Value × List Value → Shared → Prop} (X₀ : (hd.heap_39 w.params).In h₀) (F : Fr h₀ L s.heap m) (N : News h₀ L s.heap news) (hx : (x, accObj dx items n) ∈ news) (hD : (dx, oD) ∈ news) (ho : lookIn name oD = some none)
    (hf : findIn (hd.heap_39 w.params) (.ref 174) name = some (some (.ref f))) (ht : typeIn (hd.heap_39 w.params) (.ref f) = some (.type "function"))
    (h : Q (.ref f, [.ref x]) s) : wpAny (MD w) A (getMethod (.ref x) name pl) Q E s :=
  getMethod_own (tf := .type "function") (X₀.keeps F.keep) (acc_at (N _ hx).1 (N _ hD).1) rfl (by k_is) (by decide +kernel) (by k_is) hf ht (by decide +kernel) ho h

theorem super_md {so : Addr} {ox : Obj} {od : Option Obj} {id : String} {name : Str} {pl : Sem Bool} {Q : Value × List Value → Shared → Prop} (X₀ : (hd.heap_39 w.params).In h₀) (F : Fr h₀ L s.heap m) (N : News h₀ L s.heap news) (hso : (so, ks_superObj 174 x 174) ∈ news) (I : InstAt s.heap x ox 174 od)
    (hf : ks_superIn (hd.heap_39 w.params) 174 174 name = some (some (.builtin id))) (ht : builtinType id = pure (.type "method_descriptor")) (ho : (".".intercalate (id.cutAt '.').dropLast) = "list") (hnt : Manifest.toldItsClass.contains id = false) (hn : (name == ("__class__" : Str)) = false)
    (h : ∀ q h', Fr h₀ L h' m → News h₀ L h' ((q, boundObj "builtin_function_or_method" id (.ref x)) :: news) → (∀ p ∈ news, p.1 < q) → Q (.ref q, []) { s with heap := h', toks := s.toks + 1 }) :
    wpAny (MD w) A (getMethod (.ref so) name pl) Q E s := by
  have X := X₀.keeps F.keep
  obtain ⟨cd, hc⟩ : ∃ cd, clsIn (hd.heap_39 w.params) 174 = some cd := ⟨_, by k_is⟩
  have hxC := ks_ne X I hc
  obtain ⟨hh, g, d, t, os⟩ := s
  have hx := I.at_
  have hcl := I.cls
  unfold ks_superIn at hf
  rw [hc] at hf
  have hl : Looks (MD w) hh (isSubtype ox.cls (.type "list")) true := by rw [hcl]; exact looks_subIn X (t := .ref 174) (by k_is)
  refine gm_super (o' := boundObj "builtin_function_or_method" id (.ref x)) (N _ hso).1 (looks_opaque X (by k_is)) (fun A Q E s k q => wpAny_bind ((looks_clsIn X hc) A _ E s k (wpAny_pure q))) rfl X hf ht slot_md_get.lookup hxC hn (fun {A' E' Q'} z => md_get (h := hh) ht hx hl ho hnt z) ?_
  obtain ⟨F', N', l'⟩ := ks_newsPush (s := ⟨hh, g, d, t, os⟩) (o := boundObj "builtin_function_or_method" id (.ref x)) F N rfl (Heap.get?_push_at rfl rfl) (fun b o e => Heap.get?_push_of_some _ e)
  exact h _ _ F' N' l'

theorem pop_sig : ∃ sig, Manifest.signature? "list.pop" = some sig ∧ ∀ v, Bind.checkArgs "list.pop" { sig with full := "_Accumulator.pop" } ⟨[v], []⟩ = pure () :=
  ⟨⟨.positional, "list.pop", "pop", .self, [⟨"index", .posOnly, false⟩]⟩, by kernel_rfl, fun v => by kernel_rfl⟩
theorem acc_notmod (X : (hd.heap_39 w.params).In s.heap) (h1 : s.heap.get? x = some (accObj dx items n)) {M : Model} : Looks M s.heap (isInstance (.ref x) (.type "module")) false := acc_isa X h1 (by k_is)
theorem acc_cls : ∃ cd, clsIn (hd.heap_39 w.params) 174 = some cd ∧ cd.qualname.toString = "_Accumulator" := ⟨_, by k_is, by decide +kernel⟩
theorem acc_meta : typeIn (hd.heap_39 w.params) (.ref 174) = some (.type "type") := by k_is
theorem bound_pop {Q : Unit → Shared → Prop} (X : (hd.heap_39 w.params).In s.heap) (h1 : s.heap.get? x = some (accObj dx items n)) (q : Q () s) : wpAny (MD w) A (checkBoundCall "list.pop" ⟨[.ref x], []⟩) Q E s := by
  obtain ⟨sig, hs, hc⟩ := pop_sig
  obtain ⟨cd, hcl, hq⟩ := acc_cls (w := w)
  have ty : Looks (MD w) s.heap (isType (.ref x)) false := (Looks.ld h1).andThen .now
  have tp : Looks (MD w) s.heap (typeOf (.ref x)) (.ref 174) := (Looks.ld h1).andThen .now
  simp only [checkBoundCall, hs, show builtinKind "list.pop" = some .method from by decide +kernel]
  rw [if_neg (by decide)]
  refine wpAny_bind ((acc_notmod X h1).here ?_)
  rw [if_neg (by decide +kernel)]
  refine wpAny_bind (m := isType (.ref x)) (ty.here ?_)
  rw [if_neg (by decide)]
  refine wpAny_bind (m := typeOf (.ref x)) (tp.here ?_)
  dsimp only
  refine wpAny_bind (m := classData 174) ((looks_clsIn X hcl).here ?_)
  rw [hq]
  refine wpAny_bind (m := typeOf (.ref 174)) ((looks_typeIn X acc_meta).here ?_)
  rw [if_pos (by decide)]
  have e : (toString "_Accumulator" ++ toString "." ++ toString (Bind.lastOf "list.pop")) = "_Accumulator.pop" := by decide +kernel
  rw [e]
  exact wpAny_of_eq (hc _) q
theorem pop_run {Q : PySem.Fin → Shared → Prop} {y : Value} (F : Fr h₀ L s.heap m) (N : News h₀ L s.heap news) (hx : (x, accObj dx #[y] n) ∈ news)
    (h : ∀ h' n', Fr h₀ L h' m → News h₀ L h' (put x (accObj dx #[] n') news) → Q (.done (.ret y)) { s with heap := h' }) :
    wpAny (MD w) A (Builtin.«list.pop» ⟨[.ref x], []⟩) Q E s := by
  have h1 := (N _ hx).1
  unfold Builtin.«list.pop»
  refine wpAny_bind (wpAny_of_eq (a := (Value.ref x, [])) rfl ?_)
  refine wpAny_bind (wpAny_pure ?_)
  dsimp only
  rw [if_neg (by decide)]
  refine wpAny_bind (m := Builtin.List.listItems (.ref x)) ?_
  unfold Builtin.List.listItems
  refine wpAny_bind (wpAny_seqItems h1 rfl (wpAny_pure ?_))
  have ez : ∀ k : Nat, k = 0 → (#[y] : Array Value).eraseIdxIfInBounds k = #[] := fun k hk => by subst hk; simp [Array.eraseIdxIfInBounds]
  obtain ⟨F', N'⟩ := upd_news (o' := accObj dx #[] (n + 1)) (f := Obj.mapSeq fun xs => xs.eraseIdxIfInBounds (if (-1 : Int) < 0 then -1 + ((#[y] : Array Value).size : Int) else -1).toNat) F N hx (by
    simp only [accObj, Obj.mapSeq, ez _ (show (if (-1 : Int) < 0 then -1 + ((#[y] : Array Value).size : Int) else -1).toNat = 0 from rfl)]
    simp) rfl
  refine wpAny_bind (m := Builtin.List.listUpdate (.ref x) _) ?_
  unfold Builtin.List.listUpdate
  refine wpAny_updateSeq h1 rfl ?_ (hz := by show 1 ≤ sizeLine; decide) (_hz' := by rw [ez ((if (-1 : Int) < 0 then -1 + ((#[y] : Array Value).size : Int) else -1).toNat) rfl]; decide)
  exact wpAny_pure (h _ _ F' N')

theorem pop_ok {y : Value} (G : At w A L h₀) (F : Fr h₀ L s.heap m) (N : News h₀ L s.heap news) (hx : (x, accObj dx #[y] n) ∈ news) (hD : (dx, oD) ∈ news) (ho : lookIn (Str.ofString "part_count") oD = some none)
    (hroom : A.depth + 1 < recursionLimit)
    (h : ∀ h' n' tk, Fr h₀ L h' m → News h₀ L h' (put x (accObj dx #[] n') news) → Q y { s with heap := h', toks := tk }) :
    wpAny (MD w) A (call (.ref 134) [.ref x]) Q E s := by
  refine G.callS (binds := [(Str.ofString "self", .ref x)]) F N (by k_is) (by k_is) (Nat.lt_of_succ_lt hroom) (BindsTo.of_eq rfl) (locs rfl) (by decide) rfl rfl rfl (fun g L' h₁ E' G' F' N' lt => ?_)
  repeat walk_at "sa"
  refine wpAt_of_wpAny ?_
  repeat walk_at "n"
  refine acc_method (f := 171) G'.kin F' N' hx hD ho (by k_is) (by k_is) ?_
  refine callWith_K0 (G'.kin.keeps F'.keep) (by k_is) ?_
  refine part_count_ok G' F' N' hx hD hroom (fun h₂ t₂ tk₂ F₂ N₂ => ?_)
  repeat walk_at "n"
  refine eq_int ?_
  repeat walk_at "n"
  rw [if_neg (show ¬ ((((#[y] : Array Value).size : Nat) : Int) == 0) = true from (by decide : ¬ (((1 : Nat) : Int) == 0) = true))]
  refine wpAt_of_wpAny (wpAny_execs_nil ?_)
  repeat walk_at "sa"
  refine G'.super (x := x) (C := 174) F₂ N₂ (by k_is) rfl rfl (acc_at (N₂ _ hx).1 (N₂ _ hD).1) (by k_is) rfl (by decide +kernel) (by k_is) (by k_is) (by k_is) (by k_is) (by decide) rfl rfl rfl rfl (by decide +kernel) (by decide +kernel) (fun so h₃ F₃ N₃ lt₃ => ?_)
  refine super_md (id := "list.pop") G'.kin F₃ N₃ (.head _) (acc_at (N₃ _ (.tail _ hx)).1 (N₃ _ (.tail _ hD)).1) (by ks_is) (by rw [builtinType_eq_fast]; kernel_rfl) (by decide +kernel) (by decide +kernel) (by decide) (fun q h₄ F₄ N₄ lt₄ => ?_)
  refine callWith_bound (N₄ _ (.head _)).1 (.inr rfl) (call_bound (N₄ _ (.head _)).1 (.inr rfl) (fun z => bound_pop (G'.kin.keeps F₄.keep) (N₄ _ (.tail _ (.tail _ hx))).1 z) (by decide +kernel) _root_.PySem.F.entry_list_pop ?_)
  refine pop_run F₄ N₄ (.tail _ (.tail _ hx)) (fun h₅ n' F₅ N₅ => ?_)
  exact ⟨_, _, _, F₅, fun p hp => N₅ p (show p ∈ put x _ (_ :: _ :: news) from .tail _ (.tail _ hp)), fun Fz Nz => h h₅ n' _ Fz Nz⟩
end
/- MR -/
def LIt (l : Addr) (i : Nat) (o : Obj) : Prop := o.cls = .type "list_iterator" ∧ o.data = .fields #[.ref l, .int i 0]
def SIt (x : Str) (t : Tok) (i : Nat) (o : Obj) : Prop := o.cls = .type "str_ascii_iterator" ∧ o.data = .fields #[.str x t, .int i 0]
abbrev rIt (x left step : Int) : Obj := { cls := .type "range_iterator", dict := none, data := .fields #[rawInt x, rawInt left, rawInt step], slots := #[] }
section
variable {w : World} {A : Around} {E : Value → Shared → Prop} {s : Shared} {x dx L I l : Addr} {h₀ h h' : Heap} {m : Str → Option Value} {news : List (Addr × Obj)} {items : Array Value} {n i : Nat} {o o' : Obj} {env : Env}
  {v : Value} {Q : Value → Shared → Prop} {R : Result → Shared → Prop}

theorem ext_cons (F : Fr h₀ L h m) (N : News h₀ L h ((I, o) :: news)) (hne : ∀ p ∈ news, p.1 ≠ I) (hs : Heap.ExtBut I h h') : Fr h₀ L h' m ∧ News h₀ L h' news := by
  have NI := N _ (.head _)
  obtain ⟨oL, es, ep, hL, r⟩ := F.ns
  exact ⟨⟨⟨oL, es, ep, hs _ _ (Ne.symm NI.2.1) hL, r⟩, fun b x e => hs b x (fun z => by have := NI.2.2; rw [← z, e] at this; cases this) (F.keep b x e), F.above⟩,
    fun p hp => ⟨hs _ _ (hne p hp) (N p (.tail _ hp)).1, (N p (.tail _ hp)).2⟩⟩
theorem next_cons (F : Fr h₀ L h m) (N : News h₀ L h ((I, o) :: news)) (hne : ∀ p ∈ news, p.1 ≠ I) (hs : Heap.SameBut I h h') (ho : h'.get? I = some o') : Fr h₀ L h' m ∧ News h₀ L h' ((I, o') :: news) := by
  obtain ⟨F', N'⟩ := ext_cons F N hne hs.extBut
  refine ⟨F', fun p hp => ?_⟩
  rcases List.mem_cons.mp hp with rfl | hp
  · exact ⟨ho, (N _ (.head _)).2⟩
  · exact N' p hp
theorem ne_of_lt_all {a : Addr} (lt : ∀ p ∈ news, p.1 < a) : ∀ p ∈ news, p.1 ≠ a := fun p hp => Nat.ne_of_lt (lt p hp)

theorem iter_seq (F : Fr h₀ L s.heap m) (N : News h₀ L s.heap news) (hl : s.heap.IsList l items)
    (h : ∀ I o h', LIt l 0 o → Fr h₀ L h' m → News h₀ L h' ((I, o) :: news) → (∀ p ∈ news, p.1 < I) → Q (.ref I) { s with heap := h' }) : wpAny (MD w) A (pyIter (.ref l)) Q E s :=
  wpAny_pyIter_list hl (h _ _ _ ⟨rfl, rfl⟩ (F.push _) (N.push F _) fun p hp => Heap.lt_size (N p hp).1)
theorem next_seq {y : Value} {Q : Option Value → Shared → Prop} (F : Fr h₀ L s.heap m) (N : News h₀ L s.heap ((I, o) :: news)) (hne : ∀ p ∈ news, p.1 ≠ I) (ho : LIt l i o) (hl : SeqAt s.heap l items) (hx : items[i]? = some y)
    (h : ∀ h' o', LIt l (i + 1) o' → Fr h₀ L h' m → News h₀ L h' ((I, o') :: news) → Q (some y) { s with heap := h' }) : wpAny (MD w) A (pyNext (.ref I)) Q E s := by
  refine seq_item ⟨o, (N _ (.head _)).1, ho.1, ho.2⟩ hl hx fun h' hit hs => ?_
  obtain ⟨o', h1, h2, h3⟩ := hit
  obtain ⟨F', N'⟩ := next_cons F N hne hs h1
  exact h h' o' ⟨h2, h3⟩ F' N'
theorem end_seq {Q : Option Value → Shared → Prop} (hh : A.handled = none) (F : Fr h₀ L s.heap m) (N : News h₀ L s.heap ((I, o) :: news)) (hne : ∀ p ∈ news, p.1 ≠ I) (ho : LIt l i o) (hl : SeqAt s.heap l items) (hx : items[i]? = none)
    (h : ∀ h', Fr h₀ L h' m → News h₀ L h' news → Q none { s with heap := h' }) : wpAny (MD w) A (pyNext (.ref I)) Q E s := by
  refine seq_end hh ⟨o, (N _ (.head _)).1, ho.1, ho.2⟩ hl hx fun h' hs => ?_
  obtain ⟨F', N'⟩ := ext_cons F N hne hs
  exact h h' F' N'
theorem iter_str {y : Str} {t : Tok} (ha : y.cps.all (· < 128) = true) (F : Fr h₀ L s.heap m) (N : News h₀ L s.heap news)
    (h : ∀ I o h', SIt y t 0 o → Fr h₀ L h' m → News h₀ L h' ((I, o) :: news) → (∀ p ∈ news, p.1 < I) → Q (.ref I) { s with heap := h' }) : wpAny (MD w) A (pyIter (.str y t)) Q E s :=
  wpAny_pyIter_ascii ha (h _ _ _ ⟨rfl, rfl⟩ (F.push _) (N.push F _) fun p hp => Heap.lt_size (N p hp).1)
theorem next_str {y : Str} {t : Tok} {c : Nat} {Q : Option Value → Shared → Prop} (F : Fr h₀ L s.heap m) (N : News h₀ L s.heap ((I, o) :: news)) (hne : ∀ p ∈ news, p.1 ≠ I) (ho : SIt y t i o) (hx : y.cps[i]? = some c)
    (h : ∀ h' o' u, SIt y t (i + 1) o' → Fr h₀ L h' m → News h₀ L h' ((I, o') :: news) → Q (some (.str ⟨#[c]⟩ u)) { s with heap := h', toks := s.toks + 1 }) : wpAny (MD w) A (pyNext (.ref I)) Q E s := by
  refine wpAny_pyNext_ascii_item ⟨o, (N _ (.head _)).1, ho.1, ho.2⟩ hx fun h' hit hs => ?_
  obtain ⟨o', h1, h2, h3⟩ := hit
  obtain ⟨F', N'⟩ := next_cons F N hne hs h1
  exact h h' o' _ ⟨h2, h3⟩ F' N'
theorem end_str {y : Str} {t : Tok} {Q : Option Value → Shared → Prop} (hh : A.handled = none) (F : Fr h₀ L s.heap m) (N : News h₀ L s.heap ((I, o) :: news)) (hne : ∀ p ∈ news, p.1 ≠ I) (ho : SIt y t i o) (hx : y.cps[i]? = none)
    (h : ∀ h', Fr h₀ L h' m → News h₀ L h' news → Q none { s with heap := h' }) : wpAny (MD w) A (pyNext (.ref I)) Q E s := by
  refine wpAny_pyNext_ascii_end hh ⟨o, (N _ (.head _)).1, ho.1, ho.2⟩ hx fun h' hs => ?_
  obtain ⟨F', N'⟩ := ext_cons F N hne hs
  exact h h' F' N'
theorem iter_range {r : Addr} {a b c : Int} {t u t' : Tok} (hr : IsRange s.heap r a b c t u t') (hsm : Builtin.Range.small a b c = true) (F : Fr h₀ L s.heap m) (N : News h₀ L s.heap news)
    (h : ∀ I h', Fr h₀ L h' m → News h₀ L h' ((I, rIt a (Builtin.Range.rangeSize a b c) c) :: news) → (∀ p ∈ news, p.1 < I) → Q (.ref I) { s with heap := h' }) : wpAny (MD w) A (pyIter (.ref r)) Q E s :=
  wpAny_pyIter_range hr hsm (h _ _ (F.push _) (N.push F _) fun p hp => Heap.lt_size (N p hp).1)
theorem next_range {y left step : Int} {Q : Option Value → Shared → Prop} (F : Fr h₀ L s.heap m) (N : News h₀ L s.heap ((I, rIt y left step) :: news)) (hne : ∀ p ∈ news, p.1 ≠ I) (hl : 0 < left)
    (h : ∀ h' u, Fr h₀ L h' m → News h₀ L h' ((I, rIt (y + step) (left - 1) step) :: news) → Q (some (.int y u)) { s with heap := h', toks := s.toks + 1 }) : wpAny (MD w) A (pyNext (.ref I)) Q E s := by
  refine wpAny_pyNext_range_item (N _ (.head _)).1 hl fun h' hit hs => ?_
  obtain ⟨F', N'⟩ := next_cons F N hne hs hit
  exact h h' _ F' N'
theorem end_range {y left step : Int} {Q : Option Value → Shared → Prop} (hh : A.handled = none) (F : Fr h₀ L s.heap m) (N : News h₀ L s.heap ((I, rIt y left step) :: news)) (hne : ∀ p ∈ news, p.1 ≠ I) (hl : left ≤ 0)
    (h : ∀ h', Fr h₀ L h' m → News h₀ L h' news → Q none { s with heap := h' }) : wpAny (MD w) A (pyNext (.ref I)) Q E s := by
  refine wpAny_pyNext_range_end hh (N _ (.head _)).1 hl fun h' hs => ?_
  obtain ⟨F', N'⟩ := ext_cons F N hne hs
  exact h h' F' N'

/-- a for loop, place by place -/
theorem for_rule {target : Expr} {it : Value} {body : List Stmt} {Q : Flow → Shared → Prop} (n : Nat) (J : Nat → Shared → Prop)
    (item : ∀ i s E', i < n → J i s → wpAny (MD w) A (pyNext it) (fun r s₁ => ∃ v, r = some v ∧ wpAny (MD w) A (letOwnedTupleGo target it v) (fun _ s₁' => wpAny (MD w) A (assign target env v) (fun _ s₂ =>
      wpAny (MD w) A (execs body env) (fun f s₃ => match f with | .next | .cont => J (i + 1) s₃ | .brk => Q .next s₃ | .ret v => Q (.ret v) s₃) E' s₂) E' s₁') E' s₁) E' s)
    (done : ∀ s E', J n s → wpAny (MD w) A (pyNext it) (fun r s₁ => r = none ∧ Q .next s₁) E' s) (h : J 0 s) :
    codeAny (MD w) A (.forLoop target it body [] env) (fun r s' => match r with | .ok f => Q f s' | .error e => cameBackBy (MD w) A env E e s') s := by
  refine codeAny_forLoop_any (fun k s => ∃ i, n - i = k ∧ i ≤ n ∧ J i s) (fun k s hI => ?_) n ⟨0, Nat.sub_zero n, Nat.zero_le n, h⟩
  obtain ⟨i, hk, hi, hJ⟩ := hI
  by_cases hlt : i < n
  · refine wpAny_mono (item i s _ hlt hJ) (fun r s₁ z => ?_) fun _ _ z => z
    obtain ⟨v, rfl, z⟩ := z
    refine wpAny_mono z (fun _ s₁' z => wpAny_mono z (fun _ s₂ z => wpAny_mono z (fun f s₃ z => ?_) fun _ _ z => z) fun _ _ z => z) fun _ _ z => z
    cases f <;> first | exact z | exact ⟨n - (i + 1), by omega, i + 1, rfl, hlt, z⟩
  · have e : i = n := by omega
    subst e
    refine wpAny_mono (done s _ hJ) (fun r s₁ z => ?_) fun _ _ z => z
    obtain ⟨rfl, z⟩ := z
    exact wpAny_execs_nil z
theorem go_name {y : Str} {p : Pos} {it v : Value} {Q : Unit → Shared → Prop} (h : Q () s) : wpAny (MD w) A (letOwnedTupleGo (.Name y p) it v) Q E s := wpAny_pure h
end
/- MX -/
/-- what tabnanny counts: tabs behind so many blanks; blanks behind the last tab; signs; tabs -/
structure WS where
  count : List Int
  b : Nat
  n : Nat
  nt : Nat
def wsPad (count : List Int) (b : Nat) : List Int := if b ≥ count.length then count ++ List.replicate (b - count.length + 1) 0 else count
def wsTab (count : List Int) (b : Nat) : List Int := (wsPad count b).set b ((wsPad count b).getD b 0 + 1)
def wsScan : List Nat → WS → WS
  | [], a => a
  | c :: r, a => if c = 32 then wsScan r ⟨a.count, a.b + 1, a.n + 1, a.nt⟩ else if c = 9 then wsScan r ⟨wsTab a.count a.b, 0, a.n + 1, a.nt + 1⟩ else a
def ws0 : WS := ⟨[], 0, 0, 0⟩

section
variable {w : World} {A : Around} {E : Value → Shared → Prop} {s : Shared} {x dx L : Addr} {h₀ : Heap} {m : Str → Option Value} {news : List (Addr × Obj)} {items : Array Value} {n : Nat} {oD : Obj} {env : Env}
  {v : Value} {Q : Value → Shared → Prop} {R : Result → Shared → Prop}
theorem At.codeP {name qual : Str} {params : Arguments} {body : List Stmt} {scope : Scope} {cl : List (Str × Addr)} {dV kV doc pm cdv ct oc : Value} {an od : Option Addr} {osl : Array (Option Value)} {f : Addr} {vals : List Value} {binds : List (Str × Value)}
    (G : At w A L h₀) (F : Fr h₀ L s.heap m) (N : News h₀ L s.heap news)
    (ho : (hd.heap_39 w.params).lookup f = some ⟨oc, od, .func (fnX name qual params body scope cl dV kV doc pm an cdv ct), osl⟩)
    (hcd : codeIn (hd.heap_39 w.params) cdv qual = true) (hroom : A.depth < recursionLimit)
    (hbind : BindsTo s (fnX name qual params body scope cl dV kV doc pm an cdv ct) ⟨vals, []⟩ binds) (hloc : ∀ y ∈ binds, scope.names.lookup y.1 = some .local)
    (hcell : ∀ x ∈ scope.names, x.2 ≠ .cell) (hco : scope.isCoroutine = false) (hgen : scope.isGenerator = false) (hk : scope.kind = .function)
    (h : ∀ g L' h₁ E', At w (A.deeper (envX qual scope L' f cdv cl)) L' g → Fr g L' h₁ (fm binds.reverse) → News g L' h₁ news → (∀ p ∈ news, p.1 < L') →
      wpAny (MD w) (A.deeper (envX qual scope L' f cdv cl)) (execs body (envX qual scope L' f cdv cl))
        (fun fl s' => Ret h₀ L m g (fun v s' => R (.ok (.ret v)) s') (match fl with | .ret v => v | _ => .none) s') E' { s with heap := h₁, toks := s.toks + binds.length }) :
    codeAny (MD w) A (.call (.ref f) ⟨vals, []⟩) R s := by
  refine hide fun P9 hP9 => ?_
  obtain ⟨calm, X₀, loose, mg, mb, bm, ob, A₀, base, outer, env, B, T, M, hA, hf, hke⟩ := G
  refine hP9 ?_
  refine callX_plain B F N T.nolimit hA hf hke ((X₀.keeps F.keep) _ _ ho) rfl (codeRec_of (X₀.keeps F.keep) hcd) hroom hbind hloc (fun g L' h₁ FG F' N' B' st lt => ?_) hcell hco hgen hk
  have F'' : Fr g L' h₁ (fm binds.reverse) := by rw [← fm_lookup]; exact F'
  exact h g L' h₁ _ ⟨calm, X₀.keeps st, loose, mg, mb, bm, ob, A, base, env :: outer, envX qual scope L' f cdv cl, B', T.keeps st, M.keeps st, by show (A.deeper _).frames = _; unfold Around.deeper; rw [hA]; rfl, rfl, hk⟩ F'' N' lt

theorem set_put {K : Frag} {C : Addr} {ox : Obj} {es : List DictEntry} {n n' : Nat} {name : Str} {Q : Unit → Shared → Prop} (es' : Tok → List DictEntry) (F : Fr h₀ L s.heap m) (X₀ : K.In h₀) (N : News h₀ L s.heap news) (I : InstAt s.heap x ox C (some (dictOf es n))) (hod : ox.dict = some dx) (hD : (dx, dictOf es n) ∈ news)
    (hs : findIn K (.ref C) "__setattr__" = some (some (.builtin "object.__setattr__"))) (hp : plainOver K C = true) (ht : takerIn K C name = some none) (hh : hasDictIn K C = true) (hl : (getL name es).isSome = true)
    (e : ∀ t0, (putL name (PyData.keyHash w.params name) (.str name t0) v es, putN name es n) = (es' t0, n')) (hz : ∀ t0, (es' t0).length ≤ 1000)
    (h : ∀ h' t0, Fr h₀ L h' m → News h₀ L h' (put dx (dictOf (es' t0) n') news) → Q () { s with heap := h', toks := s.toks + 2 }) :
    wpAny (MD w) A (setAttr (.ref x) name v) Q E s := by
  have N1 : News h₀ L s.heap ((dx, dictOf es n) :: news.filter fun p => p.1 != dx) := fun p hp => by
    rcases List.mem_cons.mp hp with rfl | hp
    · exact N _ hD
    · exact N _ (List.mem_filter.mp hp).1
  refine set_dict F X₀ N1 I hod hs hp ht hh hl (e _) (.head fun p hp => by simpa using (List.mem_filter.mp hp).2) (hz _) (fun h' F' N' => h h' (s.toks + 1) F' fun p hp => ?_)
  refine hide fun P9 hP9 => ?_
  obtain ⟨q, hq, rfl⟩ := List.mem_map.mp hp
  refine hP9 ?_
  by_cases hqd : q.1 = dx
  · rw [if_pos hqd]; exact N' _ (.head _)
  · rw [if_neg hqd]; exact N' _ (.tail _ (List.mem_filter.mpr ⟨hq, by simpa using hqd⟩))

theorem unpack_tup {tp : Addr} {n : Nat} {Q : List Value → Shared → Prop} (F : Fr h₀ L s.heap m) (N : News h₀ L s.heap news) (ht : IsTup s.heap tp items) (hh : A.handled = none) (hn : n = items.size)
    (h : ∀ h', Fr h₀ L h' m → News h₀ L h' news → Q items.toList { s with heap := h' }) : wpAny (MD w) A (unpackItems (.ref tp) n none) Q E s := by
  subst hn
  exact unpackItems_tuple hh ht fun h' he => h h' (F.extBut he (Nat.le_refl _)) fun p hp => ⟨he _ _ (Nat.ne_of_lt (Heap.lt_size (N p hp).1)) (N p hp).1, (N p hp).2⟩
theorem assign_two {M : Model} {f g : Value → Sem Unit} {a b : Value} {Q : Unit → Shared → Prop} (h : wpAny M A (f a) (fun _ s₁ => wpAny M A (g b) Q E s₁) E s) : wpAny M A (assignInOrder [f, g] [a, b]) Q E s := by
  show wpAny M A (do holding [b] (f a); holding [] (g b); pure ()) Q E s
  exact wpAny_bind (wpAny_holding (wpAny_mono h (fun _ s₁ h₁ => wpAny_bind (wpAny_holding (wpAny_mono h₁ (fun _ _ z => wpAny_pure z) fun _ _ z => z))) fun _ _ z => z))

theorem ws_inst {h : Heap} {x dx : Addr} {od : Obj} (h1 : h.get? x = some (instObj 83 dx)) (h2 : h.get? dx = some od) : InstAt h x (instObj 83 dx) 83 (some od) := ⟨h1, rfl, rfl, h2⟩

theorem ints_set : ∀ {vs : List Value} {ns : List Int} (k : Nat) (z : Int) (t : Tok), IntsAre vs ns → IntsAre (vs.set k (.int z t)) (ns.set k z)
  | _, _, _, _, _, .nil => .nil
  | _, _, 0, z, t, .cons _ _ r => .cons z t r
  | _, _, k + 1, z, t, .cons n u r => .cons n u (ints_set k z t r)
theorem rep_zero (k : Nat) : (List.replicate k [(0 : Int)]).flatten = List.replicate k 0 := by
  induction k with
  | zero => rfl
  | succ k ih => simp [List.replicate_succ, ih]
theorem pad_of_le {count : List Int} {b : Nat} (h : count.length ≤ b) (x : Int) (hx : x = (b : Int) - count.length + 1) : count ++ (List.replicate x.toNat [(0 : Int)]).flatten = wsPad count b := by
  rw [rep_zero, wsPad, if_pos h]
  congr 2
  omega
theorem pad_len (count : List Int) (b : Nat) : b < (wsPad count b).length := by
  unfold wsPad
  split
  · simp; omega
  · omega
theorem pad_len_le (count : List Int) (b i : Nat) (h1 : b ≤ i) (h2 : count.length ≤ i) : (wsPad count b).length ≤ i + 1 := by
  unfold wsPad
  split
  · simp; omega
  · omega
theorem wsScan_len : ∀ (l : List Nat) (a : WS) (k : Nat), a.b ≤ k → a.count.length ≤ k → (wsScan l a).count.length ≤ k + l.length
  | [], a, k, _, h => by simpa [wsScan] using h
  | c :: r, a, k, hb, h => by
    unfold wsScan
    split
    · have := wsScan_len r ⟨a.count, a.b + 1, a.n + 1, a.nt⟩ (k + 1) (Nat.succ_le_succ hb) (Nat.le_succ_of_le h)
      simp only [List.length_cons]; omega
    · split
      · have h1 : (wsTab a.count a.b).length ≤ k + 1 := by simp only [wsTab, List.length_set]; exact pad_len_le _ _ _ hb h
        have := wsScan_len r ⟨wsTab a.count a.b, 0, a.n + 1, a.nt + 1⟩ (k + 1) (Nat.zero_le _) h1
        simp only [List.length_cons]; omega
      · simp only [List.length_cons]; omega
/-- a Whitespace, as it lies in the ledger -/
inductive WsObj (news : List (Addr × Obj)) (x : Addr) (a : WS) : Prop
  | mk (dx : Addr) (es : List DictEntry) (n : Nat) (tt tc : Addr) (tb : Tok) (vs : List Value) (tn tnt : Tok) (h1 : (x, instObj 83 dx) ∈ news) (h2 : (dx, dictOf es n) ∈ news) (h3 : (tt, ({ cls := .type "tuple", data := .seq #[.ref tc, .int a.b tb] } : Obj)) ∈ news) (h4 : (tc, ({ cls := .type "tuple", data := .seq (List.toArray vs) } : Obj)) ∈ news) (h5 : IntsAre vs a.count)
    (h6 : getL "n" es = some (some (.int a.n tn))) (h7 : getL "nt" es = some (some (.int a.nt tnt))) (h8 : getL "norm" es = some (some (.ref tt))) (h9 : getL "is_simple" es = some (some (.bool (decide (a.count.length ≤ 1)))))
    (h10 : getL "longest_run_of_spaces" es = some none) (h11 : getL "indent_level" es = some none) (h12 : getL "less" es = some none)
theorem WsObj.up {news news' : List (Addr × Obj)} {x : Addr} {a : WS} (h : WsObj news x a) (hs : ∀ p ∈ news, p.2.cls ≠ .ref 174 → (∀ vs, p.2.data ≠ .fields vs) → p ∈ news') : WsObj news' x a := by
  obtain ⟨dx, es, n, tt, tc, tb, vs, tn, tnt, h1, h2, h3, h4, h5, h6, h7, h8, h9, h10, h11, h12⟩ := h
  exact ⟨dx, es, n, tt, tc, tb, vs, tn, tnt, hs _ h1 (by intro e; cases e) (by intro vs e; cases e), hs _ h2 (by intro e; cases e) (by intro vs e; cases e), hs _ h3 (by intro e; cases e) (by intro vs e; cases e), hs _ h4 (by intro e; cases e) (by intro vs e; cases e), h5, h6, h7, h8, h9, h10, h11, h12⟩
theorem cps_sp : (Str.ofString " ").cps.toList = [32] := by decide +kernel
theorem cps_tab : (Str.ofString "\t").cps.toList = [9] := by decide +kernel
theorem sign_sp (c : Nat) : ((⟨#[c]⟩ : Str).cps.toList == (Str.ofString " ").cps.toList) = decide (c = 32) := by rw [cps_sp]; by_cases h : c = 32 <;> simp [h]
theorem sign_tab (c : Nat) : ((⟨#[c]⟩ : Str).cps.toList == (Str.ofString "\t").cps.toList) = decide (c = 9) := by rw [cps_tab]; by_cases h : c = 9 <;> simp [h]
theorem for_then {env : Env} {target : Expr} {it : Value} {body : List Stmt} {Q : Flow → Shared → Prop} (Q1 : Flow → Shared → Prop) (n : Nat) (J : Nat → Shared → Prop)
    (item : ∀ i s E' (R : Flow → Shared → Prop), (∀ s₃, J (i + 1) s₃ → R .next s₃) → (∀ s₃, Q1 .next s₃ → R .brk s₃) → (∀ v s₃, Q1 (.ret v) s₃ → R (.ret v) s₃) → i < n → J i s → wpAny (MD w) A (pyNext it) (fun r s₁ => ∃ v, r = some v ∧ wpAny (MD w) A (letOwnedTupleGo target it v) (fun _ s₁' => wpAny (MD w) A (assign target env v) (fun _ s₂ =>
      wpAny (MD w) A (execs body env) R E' s₂) E' s₁') E' s₁) E' s)
    (done : ∀ s E' (R : Shared → Prop), (∀ s₁, Q1 .next s₁ → R s₁) → J n s → wpAny (MD w) A (pyNext it) (fun r s₁ => r = none ∧ R s₁) E' s) (h : J 0 s) (after : ∀ f s', Q1 f s' → Q f s') :
    codeAny (MD w) A (.forLoop target it body [] env) (fun r s' => match r with | .ok f => Q f s' | .error e => cameBackBy (MD w) A env E e s') s :=
  codeAny_mono (for_rule (Q := Q1) n J (fun i s E' hi hJ => wpAny_mono (item i s E' (fun f s₃ => match f with | .next => J (i + 1) s₃ | .cont => J (i + 1) s₃ | .brk => Q1 .next s₃ | .ret v => Q1 (.ret v) s₃) (fun _ z => z) (fun _ z => z) (fun _ _ z => z) hi hJ)
    (fun r s₁ ⟨v, e, z⟩ => ⟨v, e, wpAny_mono z (fun _ s₁' z => wpAny_mono z (fun _ s₂ z => wpAny_mono z (fun f s₃ z => by cases f <;> exact z) fun _ _ z => z) fun _ _ z => z) fun _ _ z => z⟩) fun _ _ z => z) (fun s E' hJ => done s E' _ (fun _ z => z) hJ) h) fun r s' z => by
    cases r with
    | ok f => exact after f s' z
    | error e => exact z

theorem ws_attr {name : Str} {es : List DictEntry} {n : Nat} {expr : Bool} (X₀ : (hd.heap_39 w.params).In h₀) (F : Fr h₀ L s.heap m) (N : News h₀ L s.heap news) (hx : (x, instObj 83 dx) ∈ news) (hD : (dx, dictOf es n) ∈ news)
    (hl : getL name es = some (some v)) (hf : findIn (hd.heap_39 w.params) (.ref 83) name = some none) (hp : plainGet (hd.heap_39 w.params) 83 name = true) (hv : handedIn v = true) (h : Q v { s with toks := s.toks + 1 }) : wpAny (MD w) A (getAttr (.ref x) name expr) Q E s :=
  get_own F X₀ (ws_inst (N _ hx).1 (N _ hD).1) hp (by k_is) hf (by rfl) hl hv h

abbrev ent (P : Params) (k : Str) (t0 : Tok) (v : Value) : DictEntry := ⟨PyData.keyHash P k, .str k t0, v⟩
theorem ws_set {name : Str} {es : List DictEntry} {n : Nat} {Q : Unit → Shared → Prop} (es' : Tok → List DictEntry) (n' : Nat) (X₀ : (hd.heap_39 w.params).In h₀) (F : Fr h₀ L s.heap m) (N : News h₀ L s.heap news) (hx : (x, instObj 83 dx) ∈ news) (hD : (dx, dictOf es n) ∈ news)
    (ht : takerIn (hd.heap_39 w.params) 83 name = some none) (hl : (getL name es).isSome = true)
    (e : ∀ t0, (putL name (PyData.keyHash w.params name) (.str name t0) v es, putN name es n) = (es' t0, n')) (hz : ∀ t0, (es' t0).length ≤ 1000)
    (h : ∀ h' t0 nw, Fr h₀ L h' m → News h₀ L h' nw → (x, instObj 83 dx) ∈ nw → (dx, dictOf (es' t0) n') ∈ nw → (∀ p ∈ news, p.1 ≠ dx → p ∈ nw) → Q () { s with heap := h', toks := s.toks + 2 }) :
    wpAny (MD w) A (setAttr (.ref x) name v) Q E s := by
  have hxd : x ≠ dx := news_apart N hx hD (by intro e; have := congrArg Obj.cls e; cases this)
  exact set_put es' F X₀ N (ws_inst (N _ hx).1 (N _ hD).1) rfl hD (by k_is) (by k_is) ht (by k_is) hl e hz fun h' t0 F' N' => h h' t0 _ F' N' (put_mem hx hxd) (put_here hD) fun p hp hne => put_mem hp hne
theorem tuple_of {c : Addr} {vs : List Value} {o : Obj} (F : Fr h₀ L s.heap m) (N : News h₀ L s.heap news) (hc : (c, o) ∈ news) (ho : o.cls = .type "list" ∧ ∃ n, o.data = .seq vs.toArray n) (hsz : vs.length ≤ sizeLine)
    (h : ∀ a h', Fr h₀ L h' m → News h₀ L h' ((a, { cls := .type "tuple", data := .seq vs.toArray }) :: news) → (∀ p ∈ news, p.1 < a) → Q (.ref a) { s with heap := h' }) : wpAny (MD w) A (call (.type "tuple") [.ref c]) Q E s := by
  refine call_tuple_list ⟨o, (N _ hc).1, ho.1, ho.2⟩ (fun h' hk => ?_) (by simpa using hsz)
  have N' : News h₀ L h' news := fun p hp => ⟨hk _ _ (N p hp).1, (N p hp).2⟩
  exact h _ _ ((F.keeps hk).push _) (N'.push (F.keeps hk) _) fun p hp => Heap.lt_size (N' p hp).1

def LstOb (vs : List Value) (o : Obj) : Prop := o.cls = .type "list" ∧ ∃ n, o.data = .seq vs.toArray n
theorem LstOb.is {vs : List Value} {o : Obj} {c : Addr} (N : News h₀ L s.heap news) (hc : (c, o) ∈ news) (ho : LstOb vs o) : s.heap.IsList c vs.toArray := ⟨o, (N _ hc).1, ho.1, ho.2⟩
theorem same_put {h h' : Heap} {I : Addr} {o o' : Obj} (F : Fr h₀ L h m) (N : News h₀ L h news) (hI : (I, o) ∈ news) (hs : Heap.SameBut I h h') (ho : h'.get? I = some o') : Fr h₀ L h' m ∧ News h₀ L h' (put I o' news) := by
  have NI := N _ hI
  refine hide fun P9 hP9 => ?_
  obtain ⟨oL, es, ep, hL, r⟩ := F.ns
  refine hP9 ?_
  refine ⟨⟨⟨oL, es, ep, hs.extBut _ _ (Ne.symm NI.2.1) hL, r⟩, fun b x e => hs.extBut b x (fun z => by have := NI.2.2; rw [← z, e] at this; cases this) (F.keep b x e), F.above⟩, fun p hp => ?_⟩
  refine hide fun P9 hP9 => ?_
  obtain ⟨q, hq, rfl⟩ := List.mem_map.mp hp
  refine hP9 ?_
  by_cases hqd : q.1 = I
  · rw [if_pos hqd]; exact ⟨ho, NI.2⟩
  · rw [if_neg hqd]; exact ⟨hs.extBut _ _ hqd (N q hq).1, (N q hq).2⟩
theorem set_item {l : Addr} {vs : List Value} {o : Obj} {k : Nat} {t : Tok} {Q : Unit → Shared → Prop} (F : Fr h₀ L s.heap m) (N : News h₀ L s.heap news) (hl : (l, o) ∈ news) (ho : LstOb vs o) (hk : k < vs.length) (hfit : k < 2 ^ 62)
    (h : ∀ h' o', LstOb (vs.set k v) o' → Fr h₀ L h' m → News h₀ L h' (put l o' news) → Q () { s with heap := h' }) : wpAny (MD w) A (setItem (.ref l) (.int k t) v) Q E s := by
  refine wpAny_setItem_list (ho.is N hl) (by omega) (by omega) (by simp; omega) fun h' hl' hs => ?_
  refine hide fun P9 hP9 => ?_
  obtain ⟨o', h1, h2, n, h3⟩ := hl'
  refine hP9 ?_
  obtain ⟨F', N'⟩ := same_put F N hl hs h1
  exact h h' o' ⟨h2, n, by rw [h3]; simp⟩ F' N'

/-- what stands while the signs are counted -/
structure WsLoop (x : Addr) (news₁ : List (Addr × Obj)) (a : WS) (m' : Str → Option Value) (news' : List (Addr × Obj)) (c : Addr) (cvs : List Value) (oc : Obj) (tS tT tb tn tnt : Nat) : Prop where
  self : m' "self" = some (.ref x)
  S : m' "S" = some (.str " " tS)
  T : m' "T" = some (.str "\t" tT)
  cnt : m' "count" = some (.ref c)
  b : m' "b" = some (.int a.b tb)
  n : m' "n" = some (.int a.n tn)
  nt : m' "nt" = some (.int a.nt tnt)
  cm : (c, oc) ∈ news'
  co : LstOb cvs oc
  ci : IntsAre cvs a.count
  sub : ∀ p ∈ news₁, p ∈ news'
  apart : ∀ p ∈ news₁, p.1 ≠ c

/-- the count's own walk, sign by sign -/
inductive WsAt (s : Shared) (g : Heap) (L' x : Addr) (news₁ : List (Addr × Obj)) (a : WS) (s' : Shared) : Prop
  | mk (e : ∃ hp tk, s' = { s with heap := hp, toks := tk }) (m' : Str → Option Value) (news' : List (Addr × Obj)) (c : Addr) (cvs : List Value) (oc : Obj) (tS tT tb tn tnt : Nat) (F : Fr g L' s'.heap m') (N : News g L' s'.heap news') (W : WsLoop x news₁ a m' news' c cvs oc tS tT tb tn tnt)
inductive WsSt (g : Heap) (L' x I : Addr) (news₁ : List (Addr × Obj)) (y : Str) (t : Tok) (i : Nat) (s' : Shared) (a : WS) : Prop
  | mk (m' : Str → Option Value) (news' : List (Addr × Obj)) (c : Addr) (cvs : List Value) (oc : Obj) (tS tT tb tn tnt : Nat) (o : Obj) (F : Fr g L' s'.heap m') (N : News g L' s'.heap ((I, o) :: news')) (ne : ∀ p ∈ news', p.1 ≠ I) (it : SIt y t i o) (W : WsLoop x news₁ a m' news' c cvs oc tS tT tb tn tnt)
inductive WsJ (s : Shared) (g : Heap) (L' x I : Addr) (news₁ : List (Addr × Obj)) (y : Str) (t : Tok) (i : Nat) (s' : Shared) : Prop
  | mk (a : WS) (e : ∃ hp tk, s' = { s with heap := hp, toks := tk }) (st : WsSt g L' x I news₁ y t i s' a) (h1 : wsScan (y.cps.toList.drop i) a = wsScan y.cps.toList ws0) (h2 : a.b ≤ i) (h3 : a.count.length ≤ i)

theorem ws_init_ok {y : Str} {t : Tok} (G : At w A L h₀) (F : Fr h₀ L s.heap m) (N : News h₀ L s.heap news) (hx : (x, instObj 83 dx) ∈ news) (hD : (dx, emptyDict) ∈ news) (hroom : A.depth < recursionLimit) (ha : y.cps.all (· < 128) = true) (hsz : y.cps.size ≤ 1000)
    (h : ∀ h' nw tk, Fr h₀ L h' m → News h₀ L h' nw → (∀ p ∈ news, p.1 ≠ dx → p ∈ nw) → WsObj nw x (wsScan y.cps.toList ws0) → R (.ok (.ret .none)) { s with heap := h', toks := tk }) :
    codeAny (MD w) A (.call (.ref 38) ⟨[.ref x, .str y t], []⟩) R s := by
  refine G.codeP (binds := [(Str.ofString "self", .ref x), (Str.ofString "ws", .str y t)]) F N (by k_is) (by k_is) hroom (BindsTo.of_eq rfl) (locs rfl) (by decide) rfl rfl rfl (fun g L' h₁ E' G' F' N' lt => ?_)
  repeat walk_at "n"
  refine plainObj_wpAny_Assign_Attribute ?_
  repeat walk_at "n"
  refine set_put (n' := 1) (fun t0 => [⟨PyData.keyHash w.params "raw", .str "raw" t0, .str y t⟩]) F' G'.kin N' (ws_inst (N' _ hx).1 (N' _ hD).1) rfl hD (by k_is) (by k_is) (by k_is) (by k_is) (by rfl) (fun _ => rfl) (fun _ => (by decide : 1 ≤ 1000)) (fun h₂ tr F₂ N₂ => ?_)
  have hxd : x ≠ dx := news_apart N hx hD (by intro e; have := congrArg Obj.cls e; cases this)
  have hx1 := put_mem (o := dictOf [⟨PyData.keyHash w.params "raw", .str "raw" tr, .str y t⟩] 1) hx hxd
  have hD1 := put_here (o' := dictOf [⟨PyData.keyHash w.params "raw", .str "raw" tr, .str y t⟩] 1) hD
  generalize hnw : put dx (dictOf [⟨PyData.keyHash w.params "raw", .str "raw" tr, .str y t⟩] 1) news = nw at hx1 hD1 N₂
  repeat walk_at "n"
  refine Assign_Tuple_swapped (names := ["S", "T"]) ?_ (by rfl) (by rfl)
  repeat walk_at "n"
  refine G'.nameK F₂ (by k_is) ?_
  refine cls_value (mc := .type "type") (G'.kin.keeps F₂.keep) (by k_is) (by k_is) (by rfl) ?_
  repeat walk_at "n"
  refine G'.nameK F₂ (by k_is) ?_
  refine cls_value (mc := .type "type") (G'.kin.keeps F₂.keep) (by k_is) (by k_is) (by rfl) ?_
  repeat walk_at "n"
  refine new_tuple F₂ N₂ (fun a h₃ F₃ N₃ lt₃ => ?_)
  refine unpack_tup F₃ N₃ ⟨_, (N₃ _ (.head _)).1, rfl, 0, rfl⟩ G'.calm rfl (fun h₄ F₄ N₄ => ?_)
  refine assign_two (f := bindName _ "T") (g := bindName _ "S") (bindName_ ?_)
  repeat walk_at "n"
  refine bindName_ ?_
  repeat walk_at "n"
  refine new_list (by assumption) (by assumption) (fun c h₇ F₇ N₇ lt₇ => ?_)
  repeat walk_at "n"
  refine wpAny_Assign_three ?_ (by rfl) (by rfl)
  repeat walk_at "n"
  refine _root_.PyProof.Rows.assign_Name ?_
  repeat walk_at "n"
  refine _root_.PyProof.Rows.assign_Name ?_
  repeat walk_at "n"
  refine _root_.PyProof.Rows.assign_Name ?_
  repeat walk_at "n"
  refine wpAny_For ?_ (fun _ => rfl)
  repeat walk_at "n"
  rename_i F₈ N₈
  refine ws_attr G'.kin F₈ N₈ (.tail _ (.tail _ hx1)) (.tail _ (.tail _ hD1)) (by rfl) (by k_is) (by k_is) (by rfl) ?_
  refine iter_str ha F₈ N₈ (fun I o h₉ ho F₉ N₉ lt₉ => ?_)
  refine for_then (fun f s' => f = .next ∧ WsAt s g L' x nw (wsScan y.cps.toList ws0) s') y.cps.size (WsJ s g L' x I nw y t) (fun i s₁ E₁ R hR1 hR2 hR3 hi hJ => ?_) (fun s₁ E₁ R hR hJ => ?_) ?_ (fun f s' z => ?_)
  · refine hide fun P9 hP9 => ?_
    obtain ⟨a, ⟨hp, tk, rfl⟩, ⟨m', news', c', cvs, oc, tS, tT, tb, tn, tnt, o', F, N, hne, ho', W⟩, hsc, hb, hcl⟩ := hJ
    refine hP9 ?_
    refine hide fun P9 hP9 => ?_
    obtain ⟨hself, hS, hT, hcnt, hvb, hvn, hvnt, hcm, hco, hci, hsub, hap⟩ := id W
    refine hP9 ?_
    have hc : y.cps[i]? = some y.cps[i] := by simp [hi]
    refine next_str F N hne ho' hc (fun h₁₀ o₁₀ u ho₁₀ F₁₀ N₁₀ => ⟨_, rfl, go_name (_root_.PyProof.Rows.assign_Name ?_)⟩)
    repeat walk_at "n"
    refine _root_.PySem.P.eq_str ?_
    repeat walk_at "n"
    rw [sign_sp]
    have hdr : y.cps.toList.drop i = y.cps[i] :: y.cps.toList.drop (i + 1) := by
      rw [List.drop_eq_getElem_cons (by simpa using hi)]; simp
    by_cases h32 : y.cps[i] = 32
    · rw [if_pos (by simp [h32])]
      repeat walk_at "n"
      rename_i F₁₁ N₁₁
      refine hR1 _ ⟨⟨a.count, a.b + 1, a.n + 1, a.nt⟩, ⟨_, _, rfl⟩, ⟨_, news', c', cvs, oc, tS, tT, _, _, tnt, o₁₀, F₁₁, N₁₁, hne, ho₁₀, ⟨by walk_at "hv", by walk_at "hv", by walk_at "hv", by walk_at "hv", by walk_at "hv", by walk_at "hv", by walk_at "hv", hcm, hco, hci, hsub, hap⟩⟩, ?_, Nat.succ_le_succ hb, Nat.le_succ_of_le hcl⟩
      rw [← hsc, hdr, wsScan, if_pos h32]
    · rw [if_neg (by simp [h32])]
      repeat walk_at "n"
      refine _root_.PySem.P.eq_str ?_
      repeat walk_at "n"
      rw [sign_tab]
      by_cases h9 : y.cps[i] = 9
      · rw [if_pos (by simp [h9])]
        repeat walk_at "n"
        refine G'.nameB (by assumption) (by k_is) (by boot_fast) (by decide) ?_
        repeat walk_at "n"
        rename_i F₁₁ N₁₁
        have hlen := hci.length
        refine call_len_list (hco.is N₁₁ (.tail _ hcm)) (by simp; omega) ?_
        refine _root_.PySem.P.ge_int ?_
        repeat walk_at "n"
        by_cases hbl : a.count.length ≤ a.b
        · rw [if_pos (by simp; omega)]
          repeat walk_at "n"
          refine new_list F₁₁ N₁₁ (fun z h₁₂ F₁₂ N₁₂ lt₁₂ => ?_)
          repeat walk_at "n"
          refine G'.nameB (by assumption) (by k_is) (by boot_fast) (by decide) ?_
          repeat walk_at "n"
          refine call_len_list (hco.is N₁₂ (.tail _ (.tail _ hcm))) (by simp; omega) ?_
          refine _root_.PyProof.Rows.sub_int ?_
          repeat walk_at "n"
          have hx63 : ((a.b : Int) - (cvs.toArray.size : Int) + 1) = (a.b : Int) - a.count.length + 1 := by simp [hlen]
          refine KM.mul (ns := [0]) F₁₂ N₁₂ ⟨_, (N₁₂ _ (.head _)).1, rfl, 0, rfl⟩ (.cons _ _ .nil) (by omega) (by omega) (by simp; omega) (fun D h₁₃ F₁₃ N₁₃ lt₁₃ hiD _ _ _ _ _ => ?_)
          refine kmk_add_ints F₁₃ N₁₃ (hco.is N₁₃ (.tail _ (.tail _ (.tail _ hcm)))) ⟨_, (N₁₃ _ (.head _)).1, rfl, 0, rfl⟩ hci hiD (fun D₂ us h₁₄ F₁₄ N₁₄ lt₁₄ hiU => ?_) ?_
          · rw [pad_of_le hbl _ hx63] at hiU
            repeat walk_at "n"
            rename_i F₁₅ N₁₅
            refine item_anyK (vs := us) (ns := wsPad a.count a.b) ⟨_, (N₁₅ _ (.head _)).1, rfl, 0, rfl⟩ hiU (by omega) (by have := pad_len a.count a.b; omega) (by omega) (fun t₁₅ => ?_)
            repeat walk_at "n"
            refine set_item F₁₅ N₁₅ (.head _) ⟨rfl, 0, rfl⟩ (by have := pad_len a.count a.b; rw [hiU.length]; omega) (by omega) (fun h₁₆ o₁₆ hl₁₆ F₁₆ N₁₆ => ?_)
            repeat walk_at "n"
            rename_i F₁₇ N₁₇
            have ltD : ∀ p ∈ news', p.1 < D₂ := fun p hp => lt₁₄ p (.tail _ (.tail _ (.tail _ hp)))
            refine hR1 _ ⟨⟨wsTab a.count a.b, 0, a.n + 1, a.nt + 1⟩, ⟨_, _, rfl⟩, ⟨_, (D₂, o₁₆) :: news', D₂, _, o₁₆, tS, tT, _, _, _, o₁₀, F₁₇, fun p hp => N₁₇ p ?_, ?_, ho₁₀, ⟨by walk_at "hv", by walk_at "hv", by walk_at "hv", by walk_at "hv", by walk_at "hv", by walk_at "hv", by walk_at "hv", .head _, hl₁₆, ints_set _ _ _ hiU, fun p hp => .tail _ (hsub p hp), fun p hp => Nat.ne_of_lt (ltD p (hsub p hp))⟩⟩, ?_, Nat.zero_le _, ?_⟩
            · rcases List.mem_cons.mp hp with rfl | hp
              · exact put_mem (.tail _ (.tail _ (.tail _ (.head _)))) (Nat.ne_of_lt (lt₁₄ _ (.tail _ (.tail _ (.head _)))))
              · rcases List.mem_cons.mp hp with rfl | hp
                · exact put_here (.head _)
                · exact put_mem (.tail _ (.tail _ (.tail _ (.tail _ hp)))) (Nat.ne_of_lt (ltD p hp))
            · intro p hp
              rcases List.mem_cons.mp hp with rfl | hp
              · exact Nat.ne_of_gt (lt₁₄ _ (.tail _ (.tail _ (.head _))))
              · exact hne p hp
            · rw [← hsc, hdr, wsScan, if_neg h32, if_pos h9]
            · simp only [wsTab, List.length_set]; exact pad_len_le _ _ _ hb hcl
          · rw [rep_zero, List.length_replicate, sizeLine_eq]; omega
        · rw [if_neg (by simp; omega)]
          have epad : wsPad a.count a.b = a.count := by rw [wsPad, if_neg hbl]
          repeat walk_at "n"
          refine item_anyK (vs := cvs) (ns := a.count) (hco.is N₁₁ (.tail _ hcm)) hci (by omega) (by omega) (by omega) (fun t₁₅ => ?_)
          repeat walk_at "n"
          refine set_item F₁₁ N₁₁ (.tail _ hcm) hco (by omega) (by omega) (fun h₁₆ o₁₆ hl₁₆ F₁₆ N₁₆ => ?_)
          repeat walk_at "n"
          rename_i F₁₇ N₁₇
          have hcI : I ≠ c' := Ne.symm (hne _ hcm)
          rw [show put c' o₁₆ ((I, o₁₀) :: news') = (I, o₁₀) :: put c' o₁₆ news' from by simp only [put, List.map_cons, if_neg hcI]] at N₁₇
          refine hR1 _ ⟨⟨wsTab a.count a.b, 0, a.n + 1, a.nt + 1⟩, ⟨_, _, rfl⟩, ⟨_, put c' o₁₆ news', c', _, o₁₆, tS, tT, _, _, _, o₁₀, F₁₇, N₁₇, ?_, ho₁₀, ⟨by walk_at "hv", by walk_at "hv", by walk_at "hv", by walk_at "hv", by walk_at "hv", by walk_at "hv", by walk_at "hv", put_here hcm, hl₁₆, ?_, fun p hp => put_mem (hsub p hp) (hap p hp), hap⟩⟩, ?_, Nat.zero_le _, ?_⟩
          · intro p hp
            refine hide fun P9 hP9 => ?_
            obtain ⟨q, hq, e⟩ := put_fst hp
            refine hP9 ?_
            rw [← e]; exact hne q hq
          · rw [wsTab, epad]; exact ints_set _ _ _ hci
          · rw [← hsc, hdr, wsScan, if_neg h32, if_pos h9]
          · simp only [wsTab, List.length_set]; exact pad_len_le _ _ _ hb hcl
      · rw [if_neg (by simp [h9])]
        repeat walk_at "n"
        refine wpAny_Break ?_
        rename_i F₁₁ N₁₁
        refine hR2 _ ⟨rfl, ⟨_, _, rfl⟩, _, news', c', cvs, oc, tS, tT, tb, tn, tnt, F₁₁, fun p hp => N₁₁ p (.tail _ hp), ?_⟩
        rw [show wsScan y.cps.toList ws0 = a from by rw [← hsc, hdr, wsScan, if_neg h32, if_neg h9]]
        exact ⟨by walk_at "hv", by walk_at "hv", by walk_at "hv", by walk_at "hv", by walk_at "hv", by walk_at "hv", by walk_at "hv", hcm, hco, hci, hsub, hap⟩
  · refine hide fun P9 hP9 => ?_
    obtain ⟨a, ⟨hp, tk, rfl⟩, ⟨m', news', c', cvs, oc, tS, tT, tb, tn, tnt, o', F, N, hne, ho', W⟩, hsc, hb, hcl⟩ := hJ
    refine hP9 ?_
    refine end_str G'.calm F N hne ho' (by simp) (fun h₁₀ F₁₀ N₁₀ => ⟨rfl, hR _ ⟨rfl, ⟨_, _, rfl⟩, m', news', c', cvs, oc, tS, tT, tb, tn, tnt, F₁₀, N₁₀, ?_⟩⟩)
    rw [show wsScan y.cps.toList ws0 = a from by rw [← hsc, List.drop_of_length_le (by simp)]; rfl]
    exact W
  · refine ⟨ws0, ⟨_, _, rfl⟩, ⟨_, _, c, [], _, _, _, _, _, _, o, F₉, N₉, ne_of_lt_all lt₉, ho, ⟨by walk_at "hv", by walk_at "hv", by walk_at "hv", by walk_at "hv", by walk_at "hv", by walk_at "hv", by walk_at "hv", .head _, ⟨rfl, 0, rfl⟩, .nil, fun p hp => .tail _ (.tail _ hp), fun p hp => Nat.ne_of_lt (lt₇ p (.tail _ hp))⟩⟩, rfl, Nat.le_refl _, Nat.le_refl _⟩
  · refine hide fun P9 hP9 => ?_
    obtain ⟨rfl, ⟨hp, tk, rfl⟩, m', news', c', cvs, oc, tS, tT, tb, tn, tnt, F, N, W⟩ := z
    refine hP9 ?_
    refine hide fun P9 hP9 => ?_
    obtain ⟨hself, hS, hT, hcnt, hvb, hvn, hvnt, hcm, hco, hci, hsub, hap⟩ := W
    refine hP9 ?_
    have hx2 := hsub _ hx1
    have hD2 := hsub _ hD1
    have hcd := hap _ hD1
    have hcx := hap _ hx1
    repeat walk_at "n"
    refine plainObj_wpAny_Assign_Attribute ?_
    repeat walk_at "n"
    refine ws_set (fun t0 => [ent w.params "raw" tr (.str y t), ent w.params "n" t0 (.int (wsScan y.cps.toList ws0).n tn)]) 2 G'.kin F N hx2 hD2 (by k_is) (by rfl) (fun _ => rfl) (fun _ => (by decide : 2 ≤ 1000)) (fun h₂₁ tr1 nw3 F₂₁ N₂₁ hx3 hD3 up3 => ?_)
    repeat walk_at "n"
    refine plainObj_wpAny_Assign_Attribute ?_
    repeat walk_at "n"
    refine ws_set (fun t0 => [ent w.params "raw" tr (.str y t), ent w.params "n" tr1 (.int (wsScan y.cps.toList ws0).n tn), ent w.params "nt" t0 (.int (wsScan y.cps.toList ws0).nt tnt)]) 3 G'.kin F₂₁ N₂₁ hx3 hD3 (by k_is) (by rfl) (fun _ => rfl) (fun _ => (by decide : 3 ≤ 1000)) (fun h₂₂ tr2 nw4 F₂₂ N₂₂ hx4 hD4 up4 => ?_)
    have hcm4 := up4 _ (up3 _ hcm hcd.symm) hcd.symm
    repeat walk_at "n"
    refine plainObj_wpAny_Assign_Attribute ?_
    repeat walk_at "n"
    refine G'.nameB F₂₂ (by k_is) (by boot_fast) (by decide) ?_
    refine Pv.callWith_type1 ?_
    repeat walk_at "n"
    have hcl : cvs.length ≤ 1000 := by
      rw [hci.length]
      have := wsScan_len y.cps.toList ws0 0 (Nat.le_refl _) (Nat.le_refl _)
      simp only [Array.length_toList] at this
      omega
    refine tuple_of F₂₂ N₂₂ hcm4 hco (by rw [sizeLine_eq]; omega) (fun tc h₂₃ F₂₃ N₂₃ lt₂₃ => ?_)
    repeat walk_at "n"
    refine new_tuple F₂₃ N₂₃ (fun tt h₂₄ F₂₄ N₂₄ lt₂₄ => ?_)
    repeat walk_at "n"
    refine ws_set (fun t0 => [ent w.params "raw" tr (.str y t), ent w.params "n" tr1 (.int (wsScan y.cps.toList ws0).n tn), ent w.params "nt" tr2 (.int (wsScan y.cps.toList ws0).nt tnt), ent w.params "norm" t0 (.ref tt)]) 4 G'.kin F₂₄ N₂₄ (.tail _ (.tail _ hx4)) (.tail _ (.tail _ hD4)) (by k_is) (by rfl) (fun _ => rfl) (fun _ => (by decide : 4 ≤ 1000)) (fun h₂₅ tr3 nw5 F₂₅ N₂₅ hx5 hD5 up5 => ?_)
    have hcm5 := up5 _ (.tail _ (.tail _ hcm4)) hcd.symm
    repeat walk_at "n"
    refine plainObj_wpAny_Assign_Attribute ?_
    repeat walk_at "n"
    refine G'.nameB F₂₅ (by k_is) (by boot_fast) (by decide) ?_
    repeat walk_at "n"
    refine call_len_list (hco.is N₂₅ hcm5) (by simp; omega) ?_
    repeat walk_at "n"
    refine _root_.PySem.P.le_int ?_
    repeat walk_at "n"
    refine ws_set (fun t0 => [ent w.params "raw" tr (.str y t), ent w.params "n" tr1 (.int (wsScan y.cps.toList ws0).n tn), ent w.params "nt" tr2 (.int (wsScan y.cps.toList ws0).nt tnt), ent w.params "norm" tr3 (.ref tt), ent w.params "is_simple" t0 _]) 5 G'.kin F₂₅ N₂₅ hx5 hD5 (by k_is) (by rfl) (fun _ => rfl) (fun _ => (by decide : 5 ≤ 1000)) (fun h₂₆ tr4 nw6 F₂₆ N₂₆ hx6 hD6 up6 => ?_)
    repeat walk_at "n"
    have up1 : ∀ p ∈ news, p.1 ≠ dx → p ∈ nw := fun p hp hne => by rw [← hnw]; exact put_mem hp hne
    refine ⟨_, _, nw6, F₂₆, N₂₆, fun Fz Nz => h h₂₆ nw6 _ Fz Nz (fun p hp hne => up6 _ (up5 _ (.tail _ (.tail _ (up4 _ (up3 _ (hsub _ (up1 p hp hne)) hne) hne))) hne) hne)
      ⟨dx, _, 5, tt, tc, tb, cvs, tn, tnt, hx6, hD6, up6 _ (up5 _ (.head _) (Nat.ne_of_gt (lt₂₄ _ (.tail _ hD4)))) (Nat.ne_of_gt (lt₂₄ _ (.tail _ hD4))), up6 _ (up5 _ (.tail _ (.head _)) (Nat.ne_of_gt (lt₂₃ _ hD4))) (Nat.ne_of_gt (lt₂₃ _ hD4)), hci, by rfl, by rfl, by rfl, ?_, by rfl, by rfl, by rfl⟩⟩
    have e : ((cvs.toArray.size : Int) ≤ 1) ↔ ((wsScan y.cps.toList ws0).count.length ≤ 1) := by rw [← hci.length]; simp; omega
    show some (some (Value.bool (decide ((cvs.toArray.size : Int) ≤ 1)))) = _
    rw [decide_eq_decide.mpr e]

theorem new_ws {y : Str} {t : Tok} (G : At w A L h₀) (F : Fr h₀ L s.heap m) (N : News h₀ L s.heap news) (hroom : A.depth + 1 < recursionLimit) (ha : y.cps.all (· < 128) = true) (hsz : y.cps.size ≤ 1000)
    (h : ∀ x h' nw tk, Fr h₀ L h' m → News h₀ L h' nw → (∀ p ∈ news, p ∈ nw) → WsObj nw x (wsScan y.cps.toList ws0) → Q (.ref x) { s with heap := h', toks := tk }) :
    wpAny (MD w) A (call (.ref 83) [.str y t]) Q E s := by
  refine call_cls F G.kin N (by k_is) (fI := 38) (by k_is) (by k_is) (fun x dx h' F' N' lt lx => ?_)
  refine ws_init_ok (s := { s with heap := h' }) G.underTC F' N' (.head _) (.tail _ (.head _)) (by rw [underTC_depth]; exact hroom) ha hsz fun h'' nw tk' F₂ N₂ up W => ⟨rfl, ?_⟩
  exact h x h'' nw tk' F₂ N₂ (fun p hp => up p (.tail _ (.tail _ hp)) (Nat.ne_of_lt (lt p hp))) W
end
/- MY -/
/-- the longest run of blanks, and how deep a tab of so many signs would bring one -/
def wsRun (a : WS) : Int := if (a.b : Int) > (a.count.length : Int) - 1 then a.b else (a.count.length : Int) - 1
def indTerm (a : WS) (ts i : Nat) : Int := ((i : Int).fdiv ts) * a.count.getD i 0
def indSum (a : WS) (ts : Nat) : Nat → Int
  | 0 => 0
  | k + 1 => indSum a ts k + indTerm a ts (ts + k)
def wsIndent (a : WS) (ts : Nat) : Int := a.b + ts * (indSum a ts (a.count.length - ts) + a.nt)

theorem range_size (a b : Nat) : Builtin.Range.rangeSize (a : Int) (b : Int) 1 = ((b - a : Nat) : Int) := by
  unfold Builtin.Range.rangeSize
  rw [if_pos (by decide)]
  split
  · rw [Int.ediv_one]; omega
  · omega
theorem range_fits (x : Int) (h1 : -(2 ^ 40) ≤ x) (h2 : x ≤ 2 ^ 40) : Builtin.Range.rangeFitsLong x = true := by
  unfold Builtin.Range.rangeFitsLong
  simp only [Bool.and_eq_true, decide_eq_true_eq]
  omega
theorem range_small (a b : Nat) (ha : a ≤ 10000) (hb : b ≤ 10000) : Builtin.Range.small (a : Int) (b : Int) 1 = true := by
  unfold Builtin.Range.small
  rw [range_size, range_fits _ (by omega) (by omega), range_fits _ (by omega) (by omega), range_fits 1 (by decide) (by decide), range_fits _ (by omega) (by omega), if_pos (by decide), range_fits _ (by omega) (by omega)]
  simp
theorem seq_idx (k n : Nat) (h : k < n) : seqIndex? (k : Int) n = some k := by
  unfold seqIndex?
  have h1 : ¬ ((k : Int) < 0) := by omega
  simp only [if_neg h1]
  rw [if_pos (by simp; exact h)]
  simp

section
variable {w : World} {A : Around} {E : Value → Shared → Prop} {s : Shared} {x dx L : Addr} {h₀ : Heap} {m : Str → Option Value} {news : List (Addr × Obj)} {items : Array Value} {n : Nat} {oD : Obj} {env : Env}
  {v : Value} {Q : Value → Shared → Prop} {R : Result → Shared → Prop}

theorem ws_norm {dx : Addr} {es : List DictEntry} {n : Nat} {expr : Bool} (X₀ : (hd.heap_39 w.params).In h₀) (F : Fr h₀ L s.heap m) (N : News h₀ L s.heap news) (hx : (x, instObj 83 dx) ∈ news) (hD : (dx, dictOf es n) ∈ news) (hl : getL "norm" es = some (some v)) (hv : handedIn v = true)
    (h : Q v { s with toks := s.toks + 1 }) : wpAny (MD w) A (getAttr (.ref x) "norm" expr) Q E s := ws_attr X₀ F N hx hD hl (by k_is) (by k_is) hv h

theorem assign_pair {ea eb : Expr} {kk : Nat} {pos : Pos} {tt : Addr} {va vb : Value} {nn : Nat} {Q : Unit → Shared → Prop} (F : Fr h₀ L s.heap m) (N : News h₀ L s.heap news) (hh : A.handled = none) (ht : (tt, ({ cls := .type "tuple", data := .seq #[va, vb] nn } : Obj)) ∈ news)
    (hn : (assignEach [ea, eb] env).length = 2) (hst : (assignEach [ea, eb] env).findIdx? (·.1) = none) (he : (assignEach [ea, eb] env).map (·.2) = [assign ea env, assign eb env])
    (h : ∀ h', Fr h₀ L h' m → News h₀ L h' news → wpAny (MD w) A (assign ea env va) (fun _ s₂ => wpAny (MD w) A (assign eb env vb) Q E s₂) E { s with heap := h' }) :
    wpAny (MD w) A (assign (.Tuple [ea, eb] kk pos) env (.ref tt)) Q E s := by
  refine wpAny_assign_Tuple hh ⟨_, (N _ ht).1, rfl, nn, rfl⟩ hn hst (fun h' hx => ?_)
  rw [he]
  exact assign_two (h h' (F.extBut hx (Nat.le_refl _)) fun p hp => ⟨hx _ _ (Nat.ne_of_lt (Heap.lt_size (N p hp).1)) (N p hp).1, (N p hp).2⟩)

theorem run_ok {a : WS} (G : At w A L h₀) (F : Fr h₀ L s.heap m) (N : News h₀ L s.heap news) (W : WsObj news x a) (hroom : A.depth < recursionLimit) (hlen : a.count.length ≤ 2000)
    (h : ∀ h' t tk, Fr h₀ L h' m → News h₀ L h' news → Q (.int (wsRun a) t) { s with heap := h', toks := tk }) :
    wpAny (MD w) A (call (.ref 45) [.ref x]) Q E s := by
  refine hide fun P9 hP9 => ?_
  obtain ⟨dx, es, n, tt, tc, tb, vs, tn, tnt, hx, hD, htt, htc, hci, hen, hent, henorm, hes, hm1, hm2, hm3⟩ := W
  refine hP9 ?_
  refine G.call (binds := [(Str.ofString "self", .ref x)]) F N (by k_is) (by k_is) hroom (BindsTo.of_eq rfl) (locs rfl) (by decide) rfl rfl rfl (fun g L' h₁ E' G' F' N' lt => ?_)
  repeat walk_at "n"
  refine _root_.PyProof.Rows.Assign_Tuple ?_ (by rfl) (by rfl)
  repeat walk_at "n"
  refine ws_norm G'.kin F' N' hx hD henorm (by rfl) ?_
  refine assign_pair F' N' G'.calm htt rfl rfl rfl (fun h₂ F₂ N₂ => ?_)
  refine _root_.PyProof.Rows.assign_Name ?_
  repeat walk_at "n"
  refine _root_.PyProof.Rows.assign_Name ?_
  repeat walk_at "n"
  rename_i F₃ N₃
  refine G'.nameB F₃ (by k_is) (by boot_fast) (by decide) ?_
  repeat walk_at "n"
  refine G'.nameB F₃ (by k_is) (by boot_fast) (by decide) ?_
  repeat walk_at "n"
  have hvl := hci.length
  refine len_tuple ⟨_, (N₃ _ htc).1, rfl, 0, rfl⟩ (by simp; omega) ?_
  repeat walk_at "n"
  refine _root_.PyProof.Rows.sub_int ?_
  repeat walk_at "n"
  refine max_two_ints G'.calm (fun h₄ tk₄ hk₄ => ?_)
  have e : (if (a.b : Int) > (vs.toArray.size : Int) - 1 then Value.int a.b tb else Value.int ((vs.toArray.size : Int) - 1) (s.toks + [(Str.ofString "self", Value.ref x)].length + 1 + 1 + 1 + 1 + 1 + 1)) = Value.int (wsRun a) (if (a.b : Int) > (vs.toArray.size : Int) - 1 then tb else s.toks + [(Str.ofString "self", Value.ref x)].length + 1 + 1 + 1 + 1 + 1 + 1) := by
    have e2 : (vs.toArray.size : Int) = a.count.length := by simp [hvl]
    rw [e2, wsRun]
    split <;> rfl
  rw [e]
  exact ⟨_, _, news, F₃.keeps hk₄, fun p hp => ⟨hk₄ _ _ (N₃ p hp).1, (N₃ p hp).2⟩, fun Fz Nz => h h₄ _ _ Fz Nz⟩

inductive IndJ (s : Shared) (g : Heap) (L' x I tc : Addr) (news : List (Addr × Obj)) (a : WS) (ts : Nat) (i : Nat) (s' : Shared) : Prop
  | mk (e : ∃ hp tk, s' = { s with heap := hp, toks := tk }) (m' : Str → Option Value) (tt tb ti : Tok) (F : Fr g L' s'.heap m') (N : News g L' s'.heap ((I, rIt ((ts : Int) + i) ((a.count.length - ts - i : Nat) : Int) 1) :: news))
    (h1 : m' "self" = some (.ref x)) (h2 : m' "tabsize" = some (.int ts tt)) (h3 : m' "count" = some (.ref tc)) (h4 : m' "trailing" = some (.int a.b tb)) (h5 : m' "il" = some (.int (indSum a ts i) ti))

theorem indent_ok {a : WS} {ts : Nat} {tts : Tok} (G : At w A L h₀) (F : Fr h₀ L s.heap m) (N : News h₀ L s.heap news) (W : WsObj news x a) (hroom : A.depth < recursionLimit) (hlen : a.count.length ≤ 2000) (h0 : 0 < ts) (hts : ts ≤ 3000)
    (h : ∀ h' t tk, Fr h₀ L h' m → News h₀ L h' news → Q (.int (wsIndent a ts) t) { s with heap := h', toks := tk }) :
    wpAny (MD w) A (call (.ref 52) [.ref x, .int ts tts]) Q E s := by
  refine hide fun P9 hP9 => ?_
  obtain ⟨dx, es, n, tt, tc, tb, vs, tn, tnt, hx, hD, htt, htc, hci, hen, hent, henorm, hes, hm1, hm2, hm3⟩ := W
  refine hP9 ?_
  have hvl := hci.length
  refine G.call (binds := [(Str.ofString "self", .ref x), (Str.ofString "tabsize", .int ts tts)]) F N (by k_is) (by k_is) hroom (BindsTo.of_eq rfl) (locs rfl) (by decide) rfl rfl rfl (fun g L' h₁ E' G' F' N' lt => ?_)
  repeat walk_at "n"
  refine _root_.PyProof.Rows.Assign_Tuple ?_ (by rfl) (by rfl)
  repeat walk_at "n"
  refine ws_norm G'.kin F' N' hx hD henorm (by rfl) ?_
  refine assign_pair F' N' G'.calm htt rfl rfl rfl (fun h₂ F₂ N₂ => ?_)
  refine _root_.PyProof.Rows.assign_Name ?_
  repeat walk_at "n"
  refine _root_.PyProof.Rows.assign_Name ?_
  repeat walk_at "n"
  rename_i F₃ N₃
  refine wpAny_For ?_ (fun _ => rfl)
  repeat walk_at "n"
  refine G'.nameB F₃ (by k_is) (by boot_fast) (by decide) ?_
  refine Pv.callWith_type1 ?_
  repeat walk_at "n"
  refine G'.nameB F₃ (by k_is) (by boot_fast) (by decide) ?_
  repeat walk_at "n"
  refine len_tuple ⟨_, (N₃ _ htc).1, rfl, 0, rfl⟩ (by simp; omega) ?_
  repeat walk_at "n"
  refine call_range_2 ?_
  refine iter_range (IsRange.new _ _ _ _ _ _ _) ?_ (F₃.push _) (fun p hp => N₃.push F₃ _ rfl p (.tail _ hp)) (fun I h₅ F₅ N₅ lt₅ => ?_)
  · simpa [hvl] using range_small ts a.count.length (by omega) (by omega)
  have hrs : Builtin.Range.rangeSize (ts : Int) (vs.toArray.size : Int) 1 = ((a.count.length - ts - 0 : Nat) : Int) := by
    simpa [hvl] using range_size ts a.count.length
  rw [hrs] at N₅
  refine for_then (fun f s' => f = .next ∧ ∃ m' tt tb ti, (∃ hp tk, s' = { s with heap := hp, toks := tk }) ∧ Fr g L' s'.heap m' ∧ News g L' s'.heap news ∧
    m' "self" = some (.ref x) ∧ m' "tabsize" = some (.int ts tt) ∧ m' "trailing" = some (.int a.b tb) ∧ m' "il" = some (.int (indSum a ts (a.count.length - ts)) ti)) (a.count.length - ts) (IndJ s g L' x I tc news a ts) (fun i s₁ E₁ R hR1 hR2 hR3 hi hJ => ?_) (fun s₁ E₁ R hR0 hJ => ?_) ?_ (fun f s' z => ?_)
  · refine hide fun P9 hP9 => ?_
    obtain ⟨⟨hp, tk, rfl⟩, m', tt', tb', ti', F, N, hself, hts', hcnt, htr, hil⟩ := hJ
    refine hP9 ?_
    refine next_range F N (ne_of_lt_all lt₅) (by omega) (fun h₁₀ u F₁₀ N₁₀ => ⟨_, rfl, go_name (_root_.PyProof.Rows.assign_Name ?_)⟩)
    repeat walk_at "n"
    rename_i h₁₁ F₁₁ N₁₁
    refine _root_.PyProof.Rows.floordiv_int (by omega) ?_ (.inl (PyProof.noPylong_small (by omega)))
    repeat walk_at "n"
    have htc' : IsTup h₁₁ tc vs.toArray := ⟨_, (N₁₁ _ (.tail _ htc)).1, rfl, 0, rfl⟩
    obtain ⟨tv, hv⟩ := hci.get (ts + i) (a.count.getD (ts + i) 0) (by rw [List.getD_eq_getElem?_getD, List.getElem?_eq_getElem (by omega)]; rfl)
    refine _root_.PyProof.Rows.tail_any (ops := [.ref tc, .int ((ts : Int) + i) u]) (T := "tuple") (id := "tuple.__getitem__") ⟨_, (N₁₁ _ (.tail _ htc)).1, rfl⟩ slot_tuple_getitem.lookup (getItem_tuple (j := ts + i) htc' (by omega) (by omega) ?_ (by simpa using hv) ?_) (by rfl)
    · have := seq_idx (ts + i) vs.toArray.size (by simp [hvl]; omega)
      simpa using this
    repeat walk_at "n"
    refine _root_.PySem.P.mul_int ?_ (.of_left ?_)
    · repeat walk_at "n"
      rename_i F₁₂ N₁₂
      refine hR1 _ ⟨⟨_, _, rfl⟩, _, tt', tb', _, F₁₂, ?_, by walk_at "hv", by walk_at "hv", by walk_at "hv", by walk_at "hv", by walk_at "hv"⟩
      have e1 : ((ts : Int) + i + 1) = (ts : Int) + ((i + 1 : Nat) : Int) := by push_cast; omega
      have e2 : (((a.count.length - ts - i : Nat) : Int) - 1) = ((a.count.length - ts - (i + 1) : Nat) : Int) := by omega
      rw [← e1, ← e2]
      exact N₁₂
    · have hn : (0 : Int) ≤ (ts : Int) + i := by omega
      rw [Int.fdiv_eq_ediv_of_nonneg _ (by omega)]
      have h1 := Int.ediv_nonneg hn (show (0 : Int) ≤ ts by omega)
      have h2 := Int.ediv_le_self (b := (ts : Int)) hn
      exact intBits_le_64 (by omega) (by omega)
  · refine hide fun P9 hP9 => ?_
    obtain ⟨⟨hp, tk, rfl⟩, m', tt', tb', ti', F, N, hself, hts', hcnt, htr, hil⟩ := hJ
    refine hP9 ?_
    exact end_range G'.calm F N (ne_of_lt_all lt₅) (by omega) (fun h₁₀ F₁₀ N₁₀ => ⟨rfl, hR0 _ ⟨rfl, m', tt', tb', ti', ⟨_, _, rfl⟩, F₁₀, N₁₀, hself, hts', htr, hil⟩⟩)
  · exact ⟨⟨_, _, rfl⟩, _, _, _, _, F₅, by simpa using N₅, by walk_at "hv", by walk_at "hv", by walk_at "hv", by walk_at "hv", by walk_at "hv"⟩
  · refine hide fun P9 hP9 => ?_
    obtain ⟨rfl, m', tt', tb', ti', ⟨hp, tk, rfl⟩, F, N, hself, hts', htr, hil⟩ := z
    refine hP9 ?_
    repeat walk_at "n"
    refine ws_attr G'.kin F N hx hD hent (by k_is) (by k_is) (by rfl) ?_
    repeat walk_at "n"
    refine _root_.PySem.P.mul_int ?_ (.of_left ?_)
    · repeat walk_at "n"
      exact ⟨_, _, news, F, N, fun Fz Nz => h _ _ _ Fz Nz⟩
    · exact intBits_le_64 (by omega) (by omega)

/-- what less says -/
def wsBelow (a b : WS) : Nat → Bool
  | 0 => true
  | k + 1 => wsBelow a b k && decide (wsIndent a (2 + k) < wsIndent b (2 + k))
def wsMost (a b : WS) : Nat := ((if wsRun b > wsRun a then wsRun b else wsRun a) + 1).toNat
def wsLess (a b : WS) : Bool := if a.n ≥ b.n then false else if a.count.length ≤ 1 ∧ b.count.length ≤ 1 then decide (a.nt ≤ b.nt) else wsBelow a b (wsMost a b + 1 - 2)

theorem ws_method {name : Str} {f : Addr} {dx : Addr} {es : List DictEntry} {n : Nat} {pl : Sem Bool} {Q : Value × List Value → Shared → Prop} (X₀ : (hd.heap_39 w.params).In h₀) (F : Fr h₀ L s.heap m) (N : News h₀ L s.heap news) (hx : (x, instObj 83 dx) ∈ news) (hD : (dx, dictOf es n) ∈ news) (ho : getL name es = some none)
    (hf : findIn (hd.heap_39 w.params) (.ref 83) name = some (some (.ref f))) (ht : typeIn (hd.heap_39 w.params) (.ref f) = some (.type "function"))
    (h : Q (.ref f, [.ref x]) s) : wpAny (MD w) A (getMethod (.ref x) name pl) Q E s :=
  getMethod_own (tf := .type "function") (X₀.keeps F.keep) (ws_inst (N _ hx).1 (N _ hD).1) rfl (by k_is) (by decide +kernel) (by k_is) hf ht (by decide +kernel) (show lookIn name (dictOf es n) = some none from ho) h

theorem max_ok {p q : Int} {t u : Tok} (hh : A.handled = none) (F : Fr h₀ L s.heap m) (N : News h₀ L s.heap news) (h : ∀ h' t' tk, Fr h₀ L h' m → News h₀ L h' news → Q (.int (if q > p then q else p) t') { s with heap := h', toks := tk }) :
    wpAny (MD w) A (call (.builtin "max") [.int p t, .int q u]) Q E s := by
  refine max_two_ints hh (fun h' tk hk => ?_)
  have e : (if q > p then Value.int q u else Value.int p t) = .int (if q > p then q else p) (if q > p then u else t) := by split <;> rfl
  rw [e]
  exact h h' _ tk (F.keeps hk) fun p hp => ⟨hk _ _ (N p hp).1, (N p hp).2⟩
theorem wsBelow_mono (a b : WS) {i : Nat} (h : wsBelow a b i = false) : ∀ k, wsBelow a b (i + k) = false
  | 0 => h
  | k + 1 => by show (wsBelow a b (i + k) && _) = false; rw [wsBelow_mono a b h k, Bool.false_and]
theorem wsRun_nonneg (a : WS) : 0 ≤ wsRun a := by unfold wsRun; split <;> omega
theorem wsRun_le (a : WS) (h1 : a.b ≤ 1000) (h2 : a.count.length ≤ 1000) : wsRun a ≤ 1000 := by unfold wsRun; split <;> omega
theorem wsMost_cast (a b : WS) : (wsMost a b : Int) = (if wsRun b > wsRun a then wsRun b else wsRun a) + 1 := by
  have h1 := wsRun_nonneg a; have h2 := wsRun_nonneg b
  unfold wsMost; split <;> omega
theorem wsMost_le (a b : WS) (h1 : wsRun a ≤ 1000) (h2 : wsRun b ≤ 1000) : wsMost a b ≤ 1001 := by
  unfold wsMost; split <;> omega
inductive LessJ (s : Shared) (g : Heap) (L' x y I : Addr) (news : List (Addr × Obj)) (a b : WS) (i : Nat) (s' : Shared) : Prop
  | mk (e : ∃ hp tk, s' = { s with heap := hp, toks := tk }) (m' : Str → Option Value) (F : Fr g L' s'.heap m') (N : News g L' s'.heap ((I, rIt ((2 : Int) + i) ((wsMost a b + 1 - 2 - i : Nat) : Int) 1) :: news))
    (h1 : m' "self" = some (.ref x)) (h2 : m' "other" = some (.ref y)) (h3 : wsBelow a b i = true)

theorem less_ok {y : Addr} {a b : WS} (G : At w A L h₀) (F : Fr h₀ L s.heap m) (N : News h₀ L s.heap news) (W : WsObj news x a) (W' : WsObj news y b) (hroom : A.depth + 1 < recursionLimit) (hla : a.count.length ≤ 1000) (hlb : b.count.length ≤ 1000) (hba : a.b ≤ 1000) (hbb : b.b ≤ 1000)
    (h : ∀ h' tk, Fr h₀ L h' m → News h₀ L h' news → Q (.bool (wsLess a b)) { s with heap := h', toks := tk }) :
    wpAny (MD w) A (call (.ref 73) [.ref x, .ref y]) Q E s := by
  have W₀ := W
  have W₀' := W'
  refine hide fun P9 hP9 => ?_
  obtain ⟨dx, es, n, tt, tc, tb, vs, tn, tnt, hx, hD, htt, htc, hci, hen, hent, henorm, hes, hm1, hm2, hm3⟩ := W
  refine hP9 ?_
  refine hide fun P9 hP9 => ?_
  obtain ⟨dx', es', n', tt', tc', tb', vs', tn', tnt', hx', hD', htt', htc', hci', hen', hent', henorm', hes', hm1', hm2', hm3'⟩ := W'
  refine hP9 ?_
  refine G.call (binds := [(Str.ofString "self", .ref x), (Str.ofString "other", .ref y)]) F N (by k_is) (by k_is) (Nat.lt_of_succ_lt hroom) (BindsTo.of_eq rfl) (locs rfl) (by decide) rfl rfl rfl (fun g L' h₁ E' G' F' N' lt => ?_)
  repeat walk_at "n"
  refine ws_attr G'.kin F' N' hx hD hen (by k_is) (by k_is) (by rfl) ?_
  repeat walk_at "n"
  refine ws_attr G'.kin F' N' hx' hD' hen' (by k_is) (by k_is) (by rfl) ?_
  refine _root_.PySem.P.ge_int ?_
  repeat walk_at "n"
  by_cases h1 : b.n ≤ a.n
  · rw [if_pos (by simp; omega)]
    repeat walk_at "n"
    have e : wsLess a b = false := by rw [wsLess, if_pos h1]
    exact ⟨_, _, news, F', N', fun Fz Nz => e ▸ h h₁ _ Fz Nz⟩
  · rw [if_neg (by simp; omega)]
    repeat walk_at "n"
    walk_at "t"
    repeat walk_at "n"
    refine ws_attr G'.kin F' N' hx hD hes (by k_is) (by k_is) (by rfl) ?_
    repeat walk_at "n"
    by_cases h2 : a.count.length ≤ 1 ∧ b.count.length ≤ 1
    · rw [if_pos (by simp [h2.1])]
      repeat walk_at "n"
      walk_at "t"
      repeat walk_at "n"
      refine ws_attr G'.kin F' N' hx' hD' hes' (by k_is) (by k_is) (by rfl) ?_
      repeat walk_at "n"
      rw [if_pos (by simp [h2.2])]
      walk_at "t"
      rw [if_pos (by rfl)]
      repeat walk_at "n"
      refine ws_attr G'.kin F' N' hx hD hent (by k_is) (by k_is) (by rfl) ?_
      repeat walk_at "n"
      refine ws_attr G'.kin F' N' hx' hD' hent' (by k_is) (by k_is) (by rfl) ?_
      refine _root_.PySem.P.le_int ?_
      have e : wsLess a b = decide ((a.nt : Int) ≤ b.nt) := by
        rw [wsLess, if_neg h1, if_pos h2]
        exact decide_eq_decide.mpr (by omega)
      exact ⟨_, _, news, F', N', fun Fz Nz => e ▸ h h₁ _ Fz Nz⟩
    · by_cases hA : a.count.length ≤ 1
      rw [if_pos (by simp [hA])]
      repeat walk_at "n"
      walk_at "t"
      repeat walk_at "n"
      refine ws_attr G'.kin F' N' hx' hD' hes' (by k_is) (by k_is) (by rfl) ?_
      repeat walk_at "n"
      rw [if_neg (by simp; omega)]
      rotate_left
      rw [if_neg (by simp; omega)]
      all_goals
        rw [if_neg (by exact Bool.false_ne_true)]
        repeat walk_at "n"
        refine G'.nameB F' (by k_is) (by boot_fast) (by decide) ?_
        repeat walk_at "n"
        refine ws_method (f := 45) G'.kin F' N' hx hD hm1 (by k_is) (by k_is) ?_
        refine callWith_K0 (G'.kin.keeps F'.keep) (by k_is) ?_
        refine run_ok G' F' N' W₀ hroom (by omega) (fun h₃ t₃ tk₃ F₃ N₃ => ?_)
        repeat walk_at "n"
        refine ws_method (f := 45) G'.kin F₃ N₃ hx' hD' hm1' (by k_is) (by k_is) ?_
        refine callWith_K0 (G'.kin.keeps F₃.keep) (by k_is) ?_
        refine run_ok G' F₃ N₃ W₀' hroom (by omega) (fun h₄ t₄ tk₄ F₄ N₄ => ?_)
        repeat walk_at "n"
        refine max_ok G'.calm F₄ N₄ (fun h₅ t₅ tk₅ F₅ N₅ => ?_)
        repeat walk_at "n"
        rename_i F₆ N₆
        refine wpAny_For ?_ (fun _ => rfl)
        repeat walk_at "n"
        refine G'.nameB F₆ (by k_is) (by boot_fast) (by decide) ?_
        refine Pv.callWith_type1 ?_
        repeat walk_at "n"
        have hra := wsRun_le a hba hla
        have hrb := wsRun_le b hbb hlb
        have hml := wsMost_le a b hra hrb
        have hsz : (if wsRun b > wsRun a then wsRun b else wsRun a) + 1 + 1 = ((wsMost a b + 1 : Nat) : Int) := by
          have := wsMost_cast a b
          rw [← this]; rfl
        rw [hsz]
        refine call_range_2 ?_
        refine iter_range (IsRange.new _ _ _ _ _ _ _) ?_ (F₆.push _) (fun p hp => N₆.push F₆ _ rfl p (.tail _ hp)) (fun I h₇ F₇ N₇ lt₇ => ?_)
        · exact range_small 2 (wsMost a b + 1) (by omega) (by omega)
        have hrs : Builtin.Range.rangeSize (2 : Int) ((wsMost a b + 1 : Nat) : Int) 1 = ((wsMost a b + 1 - 2 - 0 : Nat) : Int) := range_size 2 (wsMost a b + 1)
        rw [hrs] at N₇
        refine for_then (fun f s' => (∃ hp tk m', s' = { s with heap := hp, toks := tk } ∧ Fr g L' s'.heap m' ∧ News g L' s'.heap news) ∧ ((f = .next ∧ wsBelow a b (wsMost a b + 1 - 2) = true) ∨ (f = .ret (.bool false) ∧ wsBelow a b (wsMost a b + 1 - 2) = false))) (wsMost a b + 1 - 2) (LessJ s g L' x y I news a b) (fun i s₁ E₁ R hR1 hR2 hR3 hi hJ => ?_) (fun s₁ E₁ R hR0 hJ => ?_) ?_ (fun f s' z => ?_)
        · refine hide fun P9 hP9 => ?_
          obtain ⟨⟨hp, tk, rfl⟩, m', F, N, hself, hoth, hbl⟩ := hJ
          refine hP9 ?_
          refine next_range F N (ne_of_lt_all lt₇) (by omega) (fun h₁₀ u F₁₀ N₁₀ => ⟨_, rfl, go_name (_root_.PyProof.Rows.assign_Name ?_)⟩)
          repeat walk_at "n"
          rename_i h₁₁ F₁₁ N₁₁
          refine ws_method (f := 52) G'.kin F₁₁ N₁₁ (.tail _ hx) (.tail _ hD) hm2 (by k_is) (by k_is) ?_
          refine callWith_K G'.kin (by k_is) ?_
          repeat walk_at "n"
          refine ⟨G'.kin.keeps F₁₁.keep, ?_⟩
          refine indent_ok (ts := 2 + i) G' F₁₁ N₁₁ (W₀.up fun p hp _ _ => .tail _ hp) hroom (by omega) (by omega) (by omega) (fun h₁₂ t₁₂ tk₁₂ F₁₂ N₁₂ => ?_)
          repeat walk_at "n"
          refine ws_method (f := 52) G'.kin F₁₂ N₁₂ (.tail _ hx') (.tail _ hD') hm2' (by k_is) (by k_is) ?_
          refine callWith_K G'.kin (by k_is) ?_
          repeat walk_at "n"
          refine ⟨G'.kin.keeps F₁₂.keep, ?_⟩
          refine indent_ok (ts := 2 + i) G' F₁₂ N₁₂ (W₀'.up fun p hp _ _ => .tail _ hp) hroom (by omega) (by omega) (by omega) (fun h₁₃ t₁₃ tk₁₃ F₁₃ N₁₃ => ?_)
          refine _root_.PySem.P.ge_int ?_
          repeat walk_at "n"
          by_cases hlt : wsIndent a (2 + i) < wsIndent b (2 + i)
          · rw [if_neg (by simp; omega)]
            repeat walk_at "n"
            refine hR1 _ ⟨⟨_, _, rfl⟩, _, F₁₃, ?_, by walk_at "hv", by walk_at "hv", ?_⟩
            · have e1 : ((2 : Int) + i + 1) = (2 : Int) + ((i + 1 : Nat) : Int) := by push_cast; omega
              have e2 : (((wsMost a b + 1 - 2 - i : Nat) : Int) - 1) = ((wsMost a b + 1 - 2 - (i + 1) : Nat) : Int) := by omega
              rw [← e1, ← e2]
              exact N₁₃
            · show (wsBelow a b i && decide _) = true
              rw [hbl, decide_eq_true hlt]; rfl
          · rw [if_pos (by simp; omega)]
            repeat walk_at "n"
            refine hR3 _ _ ⟨⟨_, _, _, rfl, F₁₃, fun p hp => N₁₃ p (.tail _ hp)⟩, .inr ⟨rfl, ?_⟩⟩
            have e3 : wsBelow a b (i + 1) = false := by
              show (wsBelow a b i && decide _) = false
              rw [decide_eq_false hlt, Bool.and_false]
            have := wsBelow_mono a b e3 (wsMost a b + 1 - 2 - (i + 1))
            rwa [show i + 1 + (wsMost a b + 1 - 2 - (i + 1)) = wsMost a b + 1 - 2 by omega] at this
        · refine hide fun P9 hP9 => ?_
          obtain ⟨⟨hp, tk, rfl⟩, m', F, N, hself, hoth, hbl⟩ := hJ
          refine hP9 ?_
          exact end_range G'.calm F N (ne_of_lt_all lt₇) (by omega) (fun h₁₀ F₁₀ N₁₀ => ⟨rfl, hR0 _ ⟨⟨_, _, m', rfl, F₁₀, N₁₀⟩, .inl ⟨rfl, hbl⟩⟩⟩)
        · exact ⟨⟨_, _, rfl⟩, _, F₇, by simpa using N₇, by walk_at "hv", by walk_at "hv", rfl⟩
        · have el : wsLess a b = wsBelow a b (wsMost a b + 1 - 2) := by rw [wsLess, if_neg h1, if_neg h2]
          obtain ⟨⟨hp, tk, m', rfl, F, N⟩, ⟨rfl, hz⟩ | ⟨rfl, hz⟩⟩ := z
          · repeat walk_at "n"
            exact ⟨_, _, news, F, N, fun Fz Nz => (el.trans hz) ▸ h _ _ Fz Nz⟩
          · exact ⟨_, _, news, F, N, fun Fz Nz => (el.trans hz) ▸ h _ _ Fz Nz⟩
end
/- MZ -/
open PyProof.Rows.LCg (NsObj)
section
variable {w : World} {A : Around} {E : Value → Shared → Prop} {s : Shared} {x dx L C D : Addr} {h₀ : Heap} {m m' : Str → Option Value} {news : List (Addr × Obj)} {items : Array Value} {n : Nat} {oC oD : Obj} {env : Env}
  {v : Value} {Q : Value → Shared → Prop} {R : Result → Shared → Prop} {scope : Scope} {cl : List (Str × Addr)} {y : Str}

/-- a list comprehension, place by place -/
theorem comp_go {elt target iter : Expr} {ifs : List Expr} {pos : Pos} {it : Value} {use : Option (Value → Sem Unit)} (n : Nat) (J : Nat → Addr → Addr → Shared → Prop) (Fin : Addr → Addr → Shared → Prop)
    (hcell : ∀ y ∈ scope.names, y.2 ≠ .cell) (hkind : scope.kind = .function) (F : Fr h₀ L s.heap m) (N : News h₀ L s.heap news)
    (init : ∀ D C oC h', NsObj oC (fun _ => none) → Fr h₀ L h' m → News h₀ L h' ((C, oC) :: (D, lstObj [] 0) :: news) → (∀ p ∈ news, p.1 < D) → D < C → J 0 D C { s with heap := h' })
    (self : ∀ D C s E' (Q' : Value → Shared → Prop), J 0 D C s → Q' it s → wpAny (MD w) A (pyIter it) Q' E' s)
    (item : ∀ D C i s E', i < n → J i D C s → wpAny (MD w) A (pyNext it) (fun r s₁ => ∃ v, r = some v ∧ wpAny (MD w) A (letOwnedTupleGo target it v) (fun _ s₁' => wpAny (MD w) A (assign target (compEnvC scope cl C env) v) (fun _ s₂ =>
      wpAny (MD w) A (forIn ifs true fun c r => if r = true then do let ok ← isTrue c (compEnvC scope cl C env) (eval c (compEnvC scope cl C env)); pure (ForInStep.yield ok) else pure (ForInStep.yield r)) (fun ok s₃ =>
        if ok = true then wpAny (MD w) A (eval elt (compEnvC scope cl C env)) (fun x s₄ => wpAny (MD w) A (call (.builtin "list.append") [.ref D, x]) (fun _ s₅ => J (i + 1) D C s₅) E' s₄) E' s₃ else J (i + 1) D C s₃) E' s₂) E' s₁') E' s₁) E' s)
    (done : ∀ D C s E', J n D C s → wpAny (MD w) A (pyNext it) (fun r s₁ => r = none ∧ Fin D C s₁) E' s)
    (fin : ∀ D C s₁, Fin D C s₁ → compPost (MD w) A E use Q (.ref D) C (.ok .next) s₁) :
    wpAny (MD w) A (newList []) (fun acc s₃ => wpAny (MD w) A (newFunctionEnv scope env.globals cl [] env.qual none .none (some env)) (fun cenv s₄ =>
      codeAny (MD w) A (.compStart (.ListComp elt [⟨target, iter, ifs, 0⟩] scope pos) 0 it acc { cenv with scope := relabel scope env }) (compPost (MD w) A E use Q acc cenv.locals) s₄) E s₃) E s := by
  refine new_list F N (fun D h₁ F₁ N₁ lt₁ => ?_)
  refine wpAny_newFunctionEnv hcell (by intro y hy; simp at hy) (fun h₂ hns hsb => ?_) hkind
  have hC : ∀ b o, h₁.get? b = some o → h₂.get? b = some o := fun b o e => hsb.extBut b o (Nat.ne_of_lt (Heap.lt_size e)) (Heap.get?_push_of_some _ e)
  refine hide fun P9 hP9 => ?_
  obtain ⟨oC, hoC, hNs⟩ := PyProof.Rows.LCg.ns_obj hns
  refine hP9 ?_
  refine hide fun P9 hP9 => ?_
  obtain ⟨oL, es, ep, hL, r⟩ := F₁.ns
  refine hP9 ?_
  have F₂ : Fr h₀ L h₂ m := F₁.keeps hC
  have N₂ : News h₀ L h₂ ((h₁.objs.size, oC) :: (D, lstObj [] 0) :: news) := fun p hp => by
    rcases List.mem_cons.mp hp with rfl | hp
    · refine ⟨hoC, Nat.ne_of_gt (Heap.lt_size hL), ?_⟩
      cases z : h₀.get? h₁.objs.size with
      | none => rfl
      | some o => exact absurd (Heap.lt_size (F₁.keep _ _ z)) (Nat.lt_irrefl _)
    · exact ⟨hC _ _ (N₁ p hp).1, (N₁ p hp).2⟩
  have hJ := init D h₁.objs.size oC h₂ (by simpa using hNs) F₂ N₂ lt₁ (Heap.lt_size (N₁ _ (.head _)).1)
  have loop : ∀ s', J 0 D h₁.objs.size s' → codeAny (MD w) A (.compLoop (.ListComp elt [⟨target, iter, ifs, 0⟩] scope pos) 0 it (.ref D) (compEnvC scope cl h₁.objs.size env)) (compPost (MD w) A E use Q (.ref D) h₁.objs.size) s' := by
    intro s' hJ'
    refine codeAny_loop rfl (fun k s => ∃ i, n - i = k ∧ i ≤ n ∧ J i D h₁.objs.size s) (fun k s hI => ?_) n ⟨0, Nat.sub_zero n, Nat.zero_le n, hJ'⟩
    refine hide fun P9 hP9 => ?_
    obtain ⟨i, hk, hi, hJi⟩ := hI
    refine hP9 ?_
    show wpAny _ A ((compTurn (.ListComp elt [⟨target, iter, ifs, 0⟩] scope pos) 0 it (.ref D) (compEnvC scope cl h₁.objs.size env)).onRaise (fun x => do noteFrame x (compEnvC scope cl h₁.objs.size env); theTreesLotGoes x)) _ _ s
    refine wpAny_noted ?_
    rw [compTurn_list]
    by_cases hlt : i < n
    · refine wpAny_bind (wpAny_standAt (wpAny_bind (wpAny_mono (item D h₁.objs.size i s _ hlt hJi) (fun r s₁ z => ?_) fun _ _ h' => h')))
      refine hide fun P9 hP9 => ?_
      obtain ⟨v, rfl, z⟩ := z
      refine hP9 ?_
      refine wpAny_bind (wpAny_mono z (fun _ s₁' z => wpAny_bind (wpAny_mono z (fun _ s₂ z => wpAny_bind (wpAny_mono z (fun ok s₃ z => ?_) fun _ _ h' => h')) fun _ _ h' => h')) fun _ _ h' => h')
      cases ok with
      | false => exact wpAny_pure ⟨rfl, n - (i + 1), by omega, i + 1, rfl, hlt, z⟩
      | true => exact wpAny_bind (wpAny_bind (wpAny_mono z (fun x s₄ z => wpAny_bind (wpAny_mono z (fun _ s₅ z => wpAny_pure (wpAny_pure ⟨rfl, n - (i + 1), by omega, i + 1, rfl, hlt, z⟩)) fun _ _ h' => h')) fun _ _ h' => h'))
    · have e : i = n := by omega
      subst e
      refine wpAny_bind (wpAny_standAt (wpAny_bind (wpAny_mono (done D h₁.objs.size s _ hJi) (fun r s₁ z => ?_) fun _ _ h' => h')))
      obtain ⟨rfl, z⟩ := z
      exact wpAny_pure (fin _ _ _ z)
  exact codeAny_compStart_list (loop _ hJ) (self _ _ _ _ _ hJ (loop _ hJ))

theorem store_comp {Q : Unit → Shared → Prop} (F : Fr h₀ L s.heap m) (N : News h₀ L s.heap ((C, oC) :: news)) (hne : ∀ p ∈ news, p.1 ≠ C) (hN : NsObj oC m') (hx : (compEnvC scope cl C env).kindOf y = some .local) (hkind : scope.kind = .function)
    (h : ∀ h' oC', NsObj oC' (fun z => if z = y then some v else m' z) → Fr h₀ L h' m → News h₀ L h' ((C, oC') :: news) → Q () { s with heap := h', toks := s.toks + 1 }) :
    wpAny (MD w) A (storeName (compEnvC scope cl C env) y v) Q E s := by
  refine wpAny_storeName_local hx (hN.ns (N _ (.head _)).1) (fun h' hn' hs' => ?_) (by simp [compEnvC, relabel, hkind])
  refine hide fun P9 hP9 => ?_
  obtain ⟨o', ho', hN'⟩ := PyProof.Rows.LCg.ns_obj hn'
  refine hP9 ?_
  obtain ⟨F', N'⟩ := next_cons F N hne hs' ho'
  exact h h' o' hN' F' N'
theorem compL {M : Model} {pos : Pos} (N : News h₀ L s.heap ((C, oC) :: news)) (hN : NsObj oC m') (hv : m' y = some v) (hk : scope.kind = .function) (hx : (compEnvC scope cl C env).kindOf y = some .local) (h : Q v s) (hd : (y == ("__debug__" : Str)) = false := by decide) :
    wpAny M A (eval (.Name y pos) (compEnvC scope cl C env)) Q E s := wpAny_Name (wpAny_loadName_local hk hx (hN.ns (N _ (.head _)).1) hv h) hd
theorem comp_post_none {news' : List (Addr × Obj)} {oD : Obj} (F : Fr h₀ L s.heap m) (N : News h₀ L s.heap ((C, oC) :: (D, oD) :: news')) (hne : ∀ p ∈ (D, oD) :: news', p.1 ≠ C) (hN : NsObj oC m')
    (h : ∀ h', Fr h₀ L h' m → News h₀ L h' ((D, oD) :: news') → Q (.ref D) { s with heap := h' }) : compPost (MD w) A E none Q (.ref D) C (.ok .next) s :=
  ⟨m', hN.ns (N _ (.head _)).1, fun h' hs => by
    obtain ⟨F', N'⟩ := ext_cons F N hne hs.extBut
    exact h h' F' N'⟩
end
/- N1 -/
open PyProof.Rows.LCg (NsObj)
section
variable {w : World} {A : Around} {E : Value → Shared → Prop} {s : Shared} {x dx L C D l : Addr} {h₀ h : Heap} {m m' : Str → Option Value} {news : List (Addr × Obj)} {items : Array Value} {n : Nat} {oC oD : Obj} {env : Env}
  {v : Value} {Q : Value → Shared → Prop} {R : Result → Shared → Prop} {scope : Scope} {cl : List (Str × Addr)} {y : Str}
theorem news_sub {l' : List (Addr × Obj)} (N : News h₀ L h news) (hs : ∀ p ∈ l', p ∈ news) : News h₀ L h l' := fun p hp => N p (hs p hp)
theorem push_cons {vs : List Value} (F : Fr h₀ L s.heap m) (N : News h₀ L s.heap ((D, oD) :: news)) (hne : ∀ p ∈ news, p.1 ≠ D) (ho : LstOb vs oD) (hsz : vs.length ≤ sizeLine)
    (h : ∀ h' oD', LstOb (vs ++ [v]) oD' → Fr h₀ L h' m → News h₀ L h' ((D, oD') :: news) → Q .none { s with heap := h' }) : wpAny (MD w) A (call (.builtin "list.append") [.ref D, v]) Q E s := by
  refine wpAny_list_append (ho.is N (.head _)) (fun h' hl hs => ?_) (by simpa using hsz)
  refine hide fun P9 hP9 => ?_
  obtain ⟨o', h1, h2, n, h3⟩ := hl
  refine hP9 ?_
  obtain ⟨F', N'⟩ := next_cons F N hne hs h1
  exact h h' o' ⟨h2, n, by rw [h3]; simp⟩ F' N'

theorem store_two {ya yb : Str} {va vb : Value} {pa pb pt : Pos} {kk : Nat} {tt : Addr} {nn : Nat} {Q : Unit → Shared → Prop} (hh : A.handled = none) (F : Fr h₀ L s.heap m) (N : News h₀ L s.heap ((C, oC) :: news)) (hne : ∀ p ∈ news, p.1 ≠ C) (hN : NsObj oC m') (ht : (tt, ({ cls := .type "tuple", data := .seq #[va, vb] nn } : Obj)) ∈ news)
    (hxa : (compEnvC scope cl C env).kindOf ya = some .local) (hxb : (compEnvC scope cl C env).kindOf yb = some .local) (hkind : scope.kind = .function)
    (h : ∀ h' oC' tk, NsObj oC' (fun z => if z = yb then some vb else if z = ya then some va else m' z) → Fr h₀ L h' m → News h₀ L h' ((C, oC') :: news) → Q () { s with heap := h', toks := tk }) :
    wpAny (MD w) A (assign (.Tuple [.Name ya pa, .Name yb pb] kk pt) (compEnvC scope cl C env) (.ref tt)) Q E s := by
  refine assign_pair F N hh (.tail _ ht) rfl rfl rfl (fun h₁ F₁ N₁ => ?_)
  refine _root_.PyProof.Rows.assign_Name (store_comp F₁ N₁ hne hN hxa hkind (fun h₂ oC₂ hN₂ F₂ N₂ => ?_))
  exact _root_.PyProof.Rows.assign_Name (store_comp F₂ N₂ hne hN₂ hxb hkind (fun h₃ oC₃ hN₃ F₃ N₃ => h h₃ oC₃ _ hN₃ F₃ N₃))

theorem letgo_list {I : Addr} {i : Nat} {o : Obj} {target : Expr} {Q : Unit → Shared → Prop} (hI : s.heap.get? I = some o) (ho : LIt l i o) (h : Q () s) : wpAny (MD w) A (letOwnedTupleGo target (.ref I) v) Q E s :=
  letGo_listiter ⟨o, hI, ho.1, ho.2⟩ h

inductive TxtJ (s : Shared) (g : Heap) (L' : Addr) (m₁ : Str → Option Value) (news : List (Addr × Obj)) (l I : Addr) (row : List Pair) (i : Nat) (D C : Addr) (s' : Shared) : Prop
  | mk (e : ∃ hp tk, s' = { s with heap := hp, toks := tk }) (oC oD oI : Obj) (m' : Str → Option Value) (vs : List Value) (F : Fr g L' s'.heap m₁) (N : News g L' s'.heap ((C, oC) :: (D, oD) :: (I, oI) :: news)) (lt : ∀ p ∈ news, p.1 < I) (h1 : I < D) (h2 : D < C) (hN : NsObj oC m') (hD : LstOb vs oD) (hI : LIt l i oI)
    (hs : StrsAre vs ((row.take i).map fun q => q.f ++ q.g))
theorem strs_snoc : ∀ {vs : List Value} {ys : List Str} (z : Str) (t : Tok), StrsAre vs ys → StrsAre (vs ++ [.str z t]) (ys ++ [z])
  | _, _, z, t, .nil => .cons z t .nil
  | _, _, z, t, .cons y u r => .cons y u (strs_snoc z t r)

theorem text_ok {row : List Pair} {ol : Obj} (G : At w A L h₀) (F : Fr h₀ L s.heap m) (N : News h₀ L s.heap news) (hl : (l, ol) ∈ news) (hol : LstOb (row.map fun q => Value.ref q.a) ol) (hrow : ∀ q ∈ row, ∃ nn, (q.a, ({ cls := .type "tuple", data := .seq #[.str q.f q.tf, .str q.g q.tg] nn } : Obj)) ∈ news)
    (hroom : A.depth < recursionLimit) (hlen : row.length ≤ 100) (hw : ∀ q ∈ row, q.f.length + q.g.length ≤ 1000) (hsum : ((row.map fun q => q.f ++ q.g).map (·.length)).sum ≤ 16777216)
    (h : ∀ h' t tk, Fr h₀ L h' m → News h₀ L h' news → Q (.str (Txt.join "" (row.map fun q => q.f ++ q.g)) t) { s with heap := h', toks := tk }) :
    wpAny (MD w) A (call (.ref 190) [.ref l]) Q E s := by
  refine G.call (binds := [(Str.ofString "pieces", .ref l)]) F N (by k_is) (by k_is) hroom (BindsTo.of_eq rfl) (locs rfl) (by decide) rfl rfl rfl (fun g L' h₁ E' G' F' N' lt => ?_)
  repeat walk_at "n"
  refine GM.join ?_
  repeat walk_at "n"
  rw [eval_ListComp]
  refine wpAny_comprehension_free (use := none) rfl (fun _ => rfl) (cl := []) rfl rfl (by decide) ?_
  show wpAny _ _ (eval _ _) _ _ _
  repeat walk_at "n"
  refine iter_seq F' N' (hol.is N' hl) (fun I oI h₂ ho F₂ N₂ lt₂ => ?_)
  have hNI : ∀ p ∈ news, p.1 < I := lt₂
  refine comp_go (n := row.length) (J := TxtJ s g L' (fm [(Str.ofString "pieces", Value.ref l)].reverse) news l I row) (Fin := fun D C s' => (∃ hp tk, s' = { s with heap := hp, toks := tk }) ∧ ∃ oC oD m' vs, Fr g L' s'.heap (fm [(Str.ofString "pieces", Value.ref l)].reverse) ∧ News g L' s'.heap ((C, oC) :: (D, oD) :: news) ∧ (∀ p ∈ news, p.1 < I) ∧ I < D ∧ D < C ∧ NsObj oC m' ∧ LstOb vs oD ∧
    StrsAre vs ((row.take row.length).map fun q => q.f ++ q.g)) (by decide) rfl F₂ N₂ (fun D C oC h₃ hNs F₃ N₃ lt₃ ltC => ?_) (fun D C s₁ E₁ Q₁ hJ hq => ?_) (fun D C i s₁ E₁ hi hJ => ?_) (fun D C s₁ E₁ hJ => ?_) (fun D C s₁ hJ => ?_)
  · exact ⟨⟨_, _, rfl⟩, oC, _, oI, _, [], F₃, N₃, hNI, lt₃ _ (.head _), ltC, hNs, ⟨rfl, 0, rfl⟩, ho, .nil⟩
  · refine hide fun P9 hP9 => ?_
    obtain ⟨⟨hp, tk, rfl⟩, oC, oD, oI', m', vs, F, N, hlt, hID, hDC, hNs, hoD, hoI, hvs⟩ := hJ
    refine hP9 ?_
    exact wpAny_pyIter_listiter ⟨oI', (N _ (.tail _ (.tail _ (.head _)))).1, hoI.1, hoI.2⟩ hq
  · refine hide fun P9 hP9 => ?_
    obtain ⟨⟨hp, tk, rfl⟩, oC, oD, oI', m', vs, F, N, hlt, hID, hDC, hNs, hoD, hoI, hvs⟩ := hJ
    refine hP9 ?_
    have hlI : ∀ p ∈ (C, oC) :: (D, oD) :: news, p.1 ≠ I := fun p hp => by
      rcases List.mem_cons.mp hp with rfl | hp
      · exact Nat.ne_of_gt (Nat.lt_trans hID hDC)
      · rcases List.mem_cons.mp hp with rfl | hp
        · exact Nat.ne_of_gt hID
        · exact Nat.ne_of_lt (hlt p hp)
    have hlC : ∀ o, ∀ p ∈ (D, oD) :: (I, o) :: news, p.1 ≠ C := fun o p hp => by
      rcases List.mem_cons.mp hp with rfl | hp
      · exact Nat.ne_of_lt hDC
      · rcases List.mem_cons.mp hp with rfl | hp
        · exact Nat.ne_of_lt (Nat.lt_trans hID hDC)
        · exact Nat.ne_of_lt (Nat.lt_trans (hlt p hp) (Nat.lt_trans hID hDC))
    have hlD : ∀ o o', ∀ p ∈ (C, o') :: (I, o) :: news, p.1 ≠ D := fun o o' p hp => by
      rcases List.mem_cons.mp hp with rfl | hp
      · exact Nat.ne_of_gt hDC
      · rcases List.mem_cons.mp hp with rfl | hp
        · exact Nat.ne_of_lt hID
        · exact Nat.ne_of_lt (Nat.lt_trans (hlt p hp) hID)
    obtain ⟨nn, hq⟩ := hrow row[i] (List.getElem_mem hi)
    have N₀ := news_sub (l' := (I, oI') :: (C, oC) :: (D, oD) :: news) N (by intro p hp; simp only [List.mem_cons] at hp ⊢; rcases hp with hp | hp | hp | hp <;> simp [hp])
    obtain ⟨nl, hol2⟩ := hol.2
    refine next_seq (items := (row.map fun q => Value.ref q.a).toArray) (y := .ref row[i].a) F N₀ hlI hoI ⟨ol, nl, (N _ (.tail _ (.tail _ (.tail _ hl)))).1, hol2⟩ (by simp [hi]) (fun h₄ o₄ ho₄ F₄ N₄ => ⟨_, rfl, ?_⟩)
    refine letgo_list (N₄ _ (.head _)).1 ho₄ ?_
    have N₅ := news_sub (l' := (C, oC) :: (D, oD) :: (I, o₄) :: news) N₄ (by intro p hp; simp only [List.mem_cons] at hp ⊢; rcases hp with hp | hp | hp | hp <;> simp [hp])
    refine store_two G'.calm F₄ N₅ (hlC _) hNs (.tail _ (.tail _ hq)) (by rfl) (by rfl) rfl (fun h₆ oC₆ tk₆ hN₆ F₆ N₆ => ?_)
    refine wpAny_tests_nil ?_
    rw [if_pos rfl]
    refine wpAny_BinOp ?_
    refine compL N₆ hN₆ (by walk_at "hv") rfl (by rfl) ?_
    refine compL N₆ hN₆ (by walk_at "hv") rfl (by rfl) ?_
    have hwi := hw row[i] (List.getElem_mem hi)
    refine SB.add (fun t' k => ?_) (by rw [sizeLine_eq]; omega)
    have N₇ := news_sub (l' := (D, oD) :: (C, oC₆) :: (I, o₄) :: news) N₆ (by intro p hp; simp only [List.mem_cons] at hp ⊢; rcases hp with hp | hp | hp | hp <;> simp [hp])
    refine push_cons F₆ N₇ (hlD _ _) hoD ?_ (fun h₈ oD₈ hD₈ F₈ N₈ => ?_)
    · have e0 : vs.length = ((row.take i).map fun q => q.f ++ q.g).length := strs_len_eq hvs
      rw [e0, sizeLine_eq]; simp; omega
    · refine ⟨⟨_, _, rfl⟩, oC₆, oD₈, o₄, _, _, F₈, news_sub N₈ (by intro p hp; simp only [List.mem_cons] at hp ⊢; rcases hp with hp | hp | hp | hp <;> simp [hp]), hlt, hID, hDC, hN₆, hD₈, ho₄, ?_⟩
      have e : row.take (i + 1) = row.take i ++ [row[i]] := by rw [List.take_add_one]; simp [hi]
      rw [e, List.map_append]
      exact strs_snoc _ _ hvs
  · refine hide fun P9 hP9 => ?_
    obtain ⟨⟨hp, tk, rfl⟩, oC, oD, oI', m', vs, F, N, hlt, hID, hDC, hNs, hoD, hoI, hvs⟩ := hJ
    refine hP9 ?_
    have hlI : ∀ p ∈ (C, oC) :: (D, oD) :: news, p.1 ≠ I := fun p hp => by
      rcases List.mem_cons.mp hp with rfl | hp
      · exact Nat.ne_of_gt (Nat.lt_trans hID hDC)
      · rcases List.mem_cons.mp hp with rfl | hp
        · exact Nat.ne_of_gt hID
        · exact Nat.ne_of_lt (hlt p hp)
    have N₀ := news_sub (l' := (I, oI') :: (C, oC) :: (D, oD) :: news) N (by intro p hp; simp only [List.mem_cons] at hp ⊢; rcases hp with hp | hp | hp | hp <;> simp [hp])
    obtain ⟨nl, hol2⟩ := hol.2
    exact end_seq (items := (row.map fun q => Value.ref q.a).toArray) G'.calm F N₀ hlI hoI ⟨ol, nl, (N _ (.tail _ (.tail _ (.tail _ hl)))).1, hol2⟩ (by simp) (fun h₄ F₄ N₄ => ⟨rfl, ⟨_, _, rfl⟩, oC, oD, m', vs, F₄, N₄, hlt, hID, hDC, hNs, hoD, hvs⟩)
  · refine hide fun P9 hP9 => ?_
    obtain ⟨⟨hp, tk, rfl⟩, oC, oD, m', vs, F, N, hlt, hID, hDC, hNs, hoD, hvs⟩ := hJ
    refine hP9 ?_
    refine comp_post_none F N (fun p hp => ?_) hNs (fun h₄ F₄ N₄ => ?_)
    · rcases List.mem_cons.mp hp with rfl | hp
      · exact Nat.ne_of_lt hDC
      · exact Nat.ne_of_lt (Nat.lt_trans (hlt p hp) (Nat.lt_trans hID hDC))
    · repeat walk_at "n"
      rw [List.take_of_length_le (Nat.le_refl _)] at hvs
      refine join_list (ys := row.map fun q => q.f ++ q.g) (items := vs.toArray) (hoD.is N₄ (.head _)) (by simpa using hvs) (by show _ + _ * 0 ≤ _; simpa using hsum) (fun t' k => ?_)
      exact ⟨_, _, news, F₄, news_sub N₄ (fun p hp => .tail _ hp), fun Fz Nz => h h₄ t' k Fz Nz⟩
end
/- N2 -/
/-- a text of given signs -/
abbrev tx (l : List Nat) : Str := ⟨l.toArray⟩
def words : Nat → List (List Nat)
  | 0 => [[]]
  | n + 1 => (words n).flatMap fun r => [97 :: r, 98 :: r]
def allWords : List (List Nat) := (List.range 7).flatMap words
def dots : List Nat := [46, 46, 46]
def ell : List Nat → List Nat
  | [] => dots ++ dots
  | c :: r => dots ++ c :: (match r with | [] => dots | _ => ell r)
def ell' (w : List Nat) : List Nat := dots ++ (List.intersperse dots (w.map fun c => [c])).flatten ++ dots
def firstAt (g : List Nat) (c p : Nat) : Option Nat := ((g.drop p).findIdx? (· == c)).map (· + p)
theorem f1 : allWords.all (fun w => !(w.length == 0) → !(Builtin.Str.occurrences (tx (ell' w)) (tx dots) 0 (tx (ell' w)).length 1).isEmpty) = true := by decide +kernel
theorem f2 : allWords.all (fun w => w.length == 0 || Txt.split (tx (ell' w)) (tx dots) == [tx []] ++ w.map (fun c => tx [c]) ++ [tx []]) = true := by decide +kernel
theorem f3 : allWords.all (fun g => [97, 98].all fun c => (List.range 7).all fun p => decide (p ≤ g.length) → Builtin.Str.occurrences (tx g) (tx [c]) p g.length 1 == (firstAt g c p).toList) = true := by decide +kernel
theorem f4 : allWords.all (fun g => (List.range 7).all fun p => decide (p ≤ g.length) → Builtin.Str.occurrences (tx g) (tx []) p g.length 1 == [p]) = true := by decide +kernel

def subs : List Nat → List Nat → Bool
  | [], _ => true
  | c :: r, g => match g.findIdx? (· == c) with | none => false | some j => subs r (g.drop (j + 1))
theorem mem_word_len {g : List Nat} (h : g ∈ allWords) : g.length ≤ 6 := by
  have : allWords.all (fun g => decide (g.length ≤ 6)) = true := by decide +kernel
  simpa using List.all_eq_true.mp this g h
theorem mem_word_letters {g : List Nat} (h : g ∈ allWords) : ∀ c ∈ g, c = 97 ∨ c = 98 := by
  have : allWords.all (fun g => g.all fun c => c == 97 || c == 98) = true := by decide +kernel
  simpa using List.all_eq_true.mp this g h
theorem has_dots {w : List Nat} (h : w ∈ allWords) (h0 : w ≠ []) : (Builtin.Str.occurrences (tx (ell' w)) (tx dots) 0 (tx (ell' w)).length 1).isEmpty = false := by
  have := List.all_eq_true.mp f1 w h
  have hl : (w.length == 0) = false := by cases w with | nil => exact absurd rfl h0 | cons => rfl
  rw [hl] at this
  simpa using this
theorem split_ell {w : List Nat} (h : w ∈ allWords) (h0 : w ≠ []) : Txt.split (tx (ell' w)) (tx dots) = [tx []] ++ w.map (fun c => tx [c]) ++ [tx []] := by
  have := List.all_eq_true.mp f2 w h
  have hl : (w.length == 0) = false := by cases w with | nil => exact absurd rfl h0 | cons => rfl
  rw [hl, Bool.false_or] at this
  exact beq_iff_eq.mp this
theorem occ_letter {g : List Nat} {c p : Nat} (h : g ∈ allWords) (hc : c = 97 ∨ c = 98) (hp : p ≤ g.length) : Builtin.Str.occurrences (tx g) (tx [c]) p g.length 1 = (firstAt g c p).toList := by
  have hl := mem_word_len h
  have := List.all_eq_true.mp (List.all_eq_true.mp (List.all_eq_true.mp f3 g h) c (by rcases hc with rfl | rfl <;> simp)) p (List.mem_range.mpr (by omega))
  rw [decide_eq_true hp] at this
  exact beq_iff_eq.mp (by simpa using this)
theorem occ_none {g : List Nat} {p : Nat} (h : g ∈ allWords) (hp : p ≤ g.length) : Builtin.Str.occurrences (tx g) (tx []) p g.length 1 = [p] := by
  have hl := mem_word_len h
  have := List.all_eq_true.mp (List.all_eq_true.mp f4 g h) p (List.mem_range.mpr (by omega))
  rw [decide_eq_true hp] at this
  exact beq_iff_eq.mp (by simpa using this)

theorem gives_find_range (x y : Str) (i j : Nat) (t u v v' : Tok) (hj : j ≤ x.length) : Gives (Builtin.«str.find» ⟨[.str x t, .str y u, .int i v, .int j v'], []⟩) (.int (match Builtin.Str.occurrences x y i j 1 with | k :: _ => (k : Int) | [] => -1)) := by
  have e1 : (max 0 (if (i : Int) < 0 then (i : Int) + x.length else i)).toNat = i := by rw [if_neg (by omega)]; omega
  have e2 : min (max 0 (if (j : Int) < 0 then (j : Int) + x.length else j)).toNat x.length = j := by rw [if_neg (by omega)]; omega
  show Gives (match Builtin.Str.occurrences x y (max 0 (if (i : Int) < 0 then (i : Int) + x.length else i)).toNat (min (max 0 (if (j : Int) < 0 then (j : Int) + x.length else j)).toNat x.length) 1 with | k :: _ => retInt k | [] => (do rule "str.find.not-found"; retInt (-1))) _
  rw [e1, e2]
  cases Builtin.Str.occurrences x y i j 1 with
  | nil => exact .rule (.of_eq rfl)
  | cons k _ => exact .of_eq rfl

/- N3 -/
section
variable {w : World} {A : Around} {E : Value → Shared → Prop} {s : Shared} {x dx L C D l : Addr} {h₀ h : Heap} {m m' : Str → Option Value} {news : List (Addr × Obj)} {items : Array Value} {n : Nat} {oC oD : Obj} {env : Env}
  {v : Value} {Q : Value → Shared → Prop} {R : Result → Shared → Prop} {scope : Scope} {cl : List (Str × Addr)} {y : Str}
theorem call_find4 {x y : Str} {i j : Nat} {t u t1 t2 : Tok} (hj : j ≤ x.length) (h : Q (.int (match Builtin.Str.occurrences x y i j 1 with | k :: _ => (k : Int) | [] => -1) s.toks) { s with toks := s.toks + 1 }) :
    wpAny (MD w) A (call (.builtin "str.find") [.str x t, .str y u, .int i t1, .int j t2]) Q E s :=
  wpAny_call (codeAny_call_builtin _root_.PySem.F.slot_str_find.plain _root_.PySem.F.entry_str_find (_root_.PySem.F.slot_str_find.check _ _ _ _ _ _ _ _ (typeIs_str _ _ _) (_root_.PySem.F.args_str_find_4 _ _ _ _)
    (gives_find_range x y i j t u t1 t2 hj _ w A (wants Q E) s h)))

theorem ell_len {wd : List Nat} (h : wd ∈ allWords) : (tx (ell' wd)).length ≤ 1000 := by
  have : allWords.all (fun g => decide ((tx (ell' g)).length ≤ 1000)) = true := by decide +kernel
  simpa using List.all_eq_true.mp this wd h
theorem split_shape {sp : List (Str × Tok)} {wd : List Nat} (h : sp.map (·.1) = [tx []] ++ wd.map (fun c => tx [c]) ++ [tx []]) : ∃ t0 t1 mid, sp = (tx [], t0) :: (mid ++ [(tx [], t1)]) ∧ mid.map (·.1) = wd.map (fun c => tx [c]) := by
  rw [List.append_assoc, List.singleton_append, List.map_eq_cons_iff] at h
  refine hide fun P9 hP9 => ?_
  obtain ⟨⟨a, t0⟩, l, rfl, ha, hl⟩ := h
  refine hP9 ?_
  rw [List.map_eq_append_iff] at hl
  refine hide fun P9 hP9 => ?_
  obtain ⟨l1, l2, rfl, h1, h2⟩ := hl
  refine hP9 ?_
  rw [List.map_eq_singleton_iff] at h2
  refine hide fun P9 hP9 => ?_
  obtain ⟨⟨b, t1⟩, rfl, hb⟩ := h2
  refine hP9 ?_
  exact ⟨t0, t1, l1, by simp at ha hb; rw [ha, hb], h1⟩

theorem findIdx_lt {g : List Nat} {c j : Nat} (h : g.findIdx? (· == c) = some j) : j < g.length := by
  rw [List.findIdx?_eq_some_iff_getElem] at h
  exact h.1
theorem ell_step {wd g : List Nat} {i p : Nat} {y : Str} (hw : wd ∈ allWords) (hg : g ∈ allWords) (hi : i < wd.length + 2) (hpg : p ≤ g.length) (hsub : subs (wd.drop (i - 1)) (g.drop p) = subs wd g)
    (hy : ([tx []] ++ wd.map (fun c => tx [c]) ++ [tx []])[i]? = some y) (r : Int) (hr : r = match Builtin.Str.occurrences (tx g) y p g.length 1 with | k :: _ => (k : Int) | [] => -1) :
    (r = -1 ∧ subs wd g = false) ∨ ∃ q : Nat, r = q ∧ y.length ≤ 1 ∧ q + y.length ≤ g.length ∧ subs (wd.drop (i + 1 - 1)) (g.drop (q + y.length)) = subs wd g := by
  have empty : y = tx [] → r = (p : Nat) := fun e => by rw [hr, e, occ_none hg hpg]
  cases i with
  | zero =>
    have ey : y = tx [] := by simpa using hy.symm
    exact .inr ⟨p, empty ey, by rw [ey]; decide, by rw [ey]; exact hpg, by rw [ey]; exact hsub⟩
  | succ k =>
    by_cases hk : k < wd.length
    · have ey : y = tx [wd[k]] := by
        rw [List.append_assoc, List.singleton_append, List.getElem?_cons_succ, List.getElem?_append_left (by simpa using hk)] at hy
        simpa [hk] using hy.symm
      have hdr : wd.drop k = wd[k] :: wd.drop (k + 1) := List.drop_eq_getElem_cons hk
      have hs2 : subs (wd[k] :: wd.drop (k + 1)) (g.drop p) = subs wd g := by rw [← hdr]; exact hsub
      rw [ey, occ_letter hg (mem_word_letters hw _ (List.getElem_mem hk)) hpg] at hr
      unfold firstAt at hr
      cases hf : (g.drop p).findIdx? (· == wd[k]) with
      | none =>
        rw [hf] at hr
        rw [subs, hf] at hs2
        exact .inl ⟨hr, hs2.symm⟩
      | some j =>
        rw [hf] at hr
        rw [subs, hf] at hs2
        have hj := findIdx_lt hf
        rw [List.length_drop] at hj
        refine .inr ⟨j + p, by simpa using hr, by rw [ey]; exact Nat.le_refl 1, by rw [ey]; show j + p + 1 ≤ _; omega, ?_⟩
        rw [ey]
        show subs (wd.drop (k + 1)) (g.drop (j + p + 1)) = _
        rw [← hs2]
        dsimp only
        rw [List.drop_drop]
        congr 2
        omega
    · have ek : k = wd.length := by omega
      have ey : y = tx [] := by
        rw [List.append_assoc, List.singleton_append, List.getElem?_cons_succ, List.getElem?_append_right (by simp; omega)] at hy
        simpa [ek] using hy.symm
      refine .inr ⟨p, empty ey, by rw [ey]; decide, by rw [ey]; exact hpg, ?_⟩
      rw [ey]
      have e1 : wd.drop (k + 1 + 1 - 1) = [] := by rw [List.drop_eq_nil_iff]; omega
      have e2 : wd.drop (k + 1 - 1) = [] := by rw [List.drop_eq_nil_iff]; omega
      rw [e2] at hsub
      rw [e1, ← hsub]
      simp [subs]
inductive EllJ (s : Shared) (g' : Heap) (L' I lw : Addr) (ow : Obj) (news : List (Addr × Obj)) (wd g : List Nat) (tg : Tok) (i : Nat) (s' : Shared) : Prop
  | mk (e : ∃ hp tk, s' = { s with heap := hp, toks := tk }) (m' : Str → Option Value) (oI : Obj) (p : Nat) (tp te : Tok) (F : Fr g' L' s'.heap m') (N : News g' L' s'.heap ((I, oI) :: (lw, ow) :: news)) (it : LIt lw i oI) (hp : p ≤ g.length) (hs : subs (wd.drop (i - 1)) (g.drop p) = subs wd g)
    (h1 : m' "got" = some (.str (tx g) tg)) (h2 : m' "startpos" = some (.int (p : Nat) tp)) (h3 : m' "endpos" = some (.int g.length te))
theorem ell_ok {wd g : List Nat} {t u : Tok} (G : At w A L h₀) (F : Fr h₀ L s.heap m) (N : News h₀ L s.heap news) (hw : wd ∈ allWords) (hw0 : wd ≠ []) (hg : g ∈ allWords) (hroom : A.depth < recursionLimit)
    (h : ∀ h' tk, Fr h₀ L h' m → News h₀ L h' news → Q (.bool (subs wd g)) { s with heap := h', toks := tk }) :
    wpAny (MD w) A (call (.ref 94) [.str (tx (ell' wd)) t, .str (tx g) u]) Q E s := by
  refine G.call (binds := [(Str.ofString "want", .str (tx (ell' wd)) t), (Str.ofString "got", .str (tx g) u)]) F N (by k_is) (by k_is) hroom (BindsTo.of_eq rfl) (locs rfl) (by decide) rfl rfl rfl (fun g' L' h₁ E' G' F' N' lt => ?_)
  repeat walk_at "n"
  refine G'.nameK F' (by k_is) ?_
  repeat walk_at "n"
  refine _root_.PySem.P.notIn_str ?_
  repeat walk_at "n"
  have hd : Str.ofString "..." = tx dots := by decide +kernel
  rw [hd, has_dots hw hw0]
  rw [if_neg (by decide)]
  repeat walk_at "n"
  refine GM.split ?_
  repeat walk_at "n"
  refine G'.nameK F' (by k_is) ?_
  repeat walk_at "n"
  refine splitN1 F' N' (by decide) (fun sp h₂ k₂ hsp F₂ N₂ => ?_) (by rw [sizeLine_eq]; have := ell_len hw; omega)
  rw [hd, split_ell hw hw0] at hsp
  repeat walk_at "n"
  rename_i F₃ N₃
  have hsp0 := hsp
  refine hide fun P9 hP9 => ?_
  obtain ⟨t0, t1, mid, rfl, hmid⟩ := split_shape hsp
  refine hP9 ?_
  have hml : mid.length = wd.length := by have := congrArg List.length hmid; simpa using this
  have hwl := mem_word_len hw
  have hgl := mem_word_len hg
  have hIs : ∀ (hh : Heap), News g' L' hh ((h₁.objs.size, { cls := .type "list", data := .seq (strValues ((tx [], t0) :: (mid ++ [(tx [], t1)]))).toArray }) :: news) → hh.IsList h₁.objs.size (strValues ((tx [], t0) :: (mid ++ [(tx [], t1)]))).toArray := fun hh NN => ⟨_, (NN _ (.head _)).1, rfl, 0, rfl⟩
  have hsz : (strValues ((tx [], t0) :: (mid ++ [(tx [], t1)]))).toArray.size = wd.length + 2 := by simp [strValues, hml]
  refine wpAny_Assert_new G'.calm ?_
  repeat walk_at "n"
  refine G'.nameB F₃ (by k_is) (by boot_fast) (by decide) ?_
  repeat walk_at "n"
  refine call_len_list (hIs _ N₃) (by rw [hsz]; omega) ?_
  repeat walk_at "n"
  refine _root_.PySem.P.ge_int ?_
  repeat walk_at "n"
  rw [hsz, if_pos (by simp; omega)]
  repeat walk_at "n"
  refine Assign_Tuple_swapped (names := ["startpos", "endpos"]) ?_ (by rfl) (by rfl)
  repeat walk_at "n"
  refine G'.nameB F₃ (by k_is) (by boot_fast) (by decide) ?_
  repeat walk_at "n"
  refine _root_.PySem.P.len_str (by show ¬ ((g.toArray.size : Int) ≥ 2 ^ 63); simp; omega) ?_
  repeat walk_at "n"
  refine new_tuple F₃ N₃ (fun a h₄ F₄ N₄ lt₄ => ?_)
  refine unpack_tup F₄ N₄ ⟨_, (N₄ _ (.head _)).1, rfl, 0, rfl⟩ G'.calm rfl (fun h₅ F₅ N₅ => ?_)
  refine assign_two (f := bindName _ "endpos") (g := bindName _ "startpos") (bindName_ ?_)
  repeat walk_at "n"
  refine bindName_ ?_
  repeat walk_at "n"
  rename_i F₆ N₆
  have N₇ := news_sub (l' := (h₁.objs.size, { cls := .type "list", data := .seq (strValues ((tx [], t0) :: (mid ++ [(tx [], t1)]))).toArray }) :: news) N₆ (fun p hp => .tail _ hp)
  refine _root_.PyProof.Rows.tail_any (ops := [.ref h₁.objs.size, .int 0 _]) (T := "list") (id := "list.__getitem__") (hIs _ N₇).typeIs slot_list_getitem.lookup (wpAny_getItem_list (hIs _ N₇) (by decide) (by decide) (x := .str (tx []) t0) (by rfl) ?_) (by rfl)
  repeat walk_at "n"
  walk_at "t"
  repeat walk_at "n"
  refine _root_.PySem.P.truthy_str (by decide) ?_
  rw [if_neg (by decide)]
  repeat walk_at "n"
  refine UnaryOp_ ?_
  repeat walk_at "n"
  refine _root_.PySem.P.neg_int ?_
  rename_i F₈ N₈
  have hlast : (strValues ((tx [], t0) :: (mid ++ [(tx [], t1)]))).toArray[((-1 : Int) + ((strValues ((tx [], t0) :: (mid ++ [(tx [], t1)]))).toArray.size : Int)).toNat]? = some (.str (tx []) t1) := by
    rw [hsz]
    have e : ((-1 : Int) + ((wd.length + 2 : Nat) : Int)).toNat = mid.length + 1 := by omega
    rw [e]
    simp [strValues]
  refine _root_.PyProof.Rows.tail_any (ops := [.ref h₁.objs.size, .int (-1) _]) (T := "list") (id := "list.__getitem__") (hIs _ N₈).typeIs slot_list_getitem.lookup (wpAny_getItem_list_neg (hIs _ N₈) (by decide) (by rw [hsz]; omega) (by decide) hlast ?_) (by rfl)
  repeat walk_at "n"
  walk_at "t"
  repeat walk_at "n"
  refine _root_.PySem.P.truthy_str (by decide) ?_
  rw [if_neg (by decide)]
  repeat walk_at "n"
  refine _root_.PySem.P.gt_int ?_
  repeat walk_at "n"
  rw [if_neg (by intro e; have e := of_decide_eq_true e; omega)]
  repeat walk_at "n"
  rename_i F₉ N₉
  refine wpAny_For ?_ (fun _ => rfl)
  repeat walk_at "n"
  refine iter_seq F₉ N₉ (hIs _ N₉) (fun I oI h₁₀ hoI F₁₀ N₁₀ lt₁₀ => ?_)
  refine for_then (fun f s' => (∃ hp tk m', s' = { s with heap := hp, toks := tk } ∧ Fr g' L' s'.heap m' ∧ News g' L' s'.heap news) ∧ ((f = .next ∧ subs wd g = true) ∨ (f = .ret (.bool false) ∧ subs wd g = false))) (wd.length + 2)
    (EllJ s g' L' I h₁.objs.size { cls := .type "list", data := .seq (strValues ((tx [], t0) :: (mid ++ [(tx [], t1)]))).toArray } news wd g u) (fun i s₁ E₁ R hR1 hR2 hR3 hi hJ => ?_) (fun s₁ E₁ R hR0 hJ => ?_) ?_ (fun f s' z => ?_)
  · refine hide fun P9 hP9 => ?_
    obtain ⟨⟨hp, tk, rfl⟩, m', oI', p, tp, te, F, N, ho, hpg, hsub, hgot, hst, hen⟩ := hJ
    refine hP9 ?_
    obtain ⟨y, ty, hy, hyy⟩ : ∃ y ty, (strValues ((tx [], t0) :: (mid ++ [(tx [], t1)]))).toArray[i]? = some (.str y ty) ∧ ([tx []] ++ wd.map (fun c => tx [c]) ++ [tx []])[i]? = some y := by
      have hi' : i < ((tx [], t0) :: (mid ++ [(tx [], t1)])).length := by simp [hml]; omega
      refine ⟨(((tx [], t0) :: (mid ++ [(tx [], t1)]))[i]).1, (((tx [], t0) :: (mid ++ [(tx [], t1)]))[i]).2, ?_, ?_⟩
      · simp only [strValues, List.getElem?_toArray, List.getElem?_map, List.getElem?_eq_getElem hi']; rfl
      · rw [← hsp0, List.getElem?_map, List.getElem?_eq_getElem hi']; rfl
    refine next_seq F N (ne_of_lt_all lt₁₀) ho ⟨_, 0, (N _ (.tail _ (.head _))).1, rfl⟩ hy (fun h₁₁ o₁₁ ho₁₁ F₁₁ N₁₁ => ⟨_, rfl, go_name (_root_.PyProof.Rows.assign_Name ?_)⟩)
    repeat walk_at "n"
    rename_i F₁₂ N₁₂
    refine GM.find ?_
    repeat walk_at "n"
    refine call_find4 (show g.length ≤ g.toArray.size by simp) ?_
    obtain ⟨r, hr⟩ : ∃ r : Int, r = match Builtin.Str.occurrences (tx g) y p g.length 1 with | k :: _ => (k : Int) | [] => -1 := ⟨_, rfl⟩
    rw [← hr]
    have step := ell_step hw hg hi hpg hsub hyy r hr
    repeat walk_at "n"
    rename_i F₁₃ N₁₃
    refine _root_.PySem.P.lt_int ?_
    repeat walk_at "n"
    rcases step with ⟨rfl, hf⟩ | ⟨q, rfl, hy1, hq, hs2⟩
    · rw [if_pos (by decide)]
      repeat walk_at "n"
      exact hR3 _ _ ⟨⟨_, _, _, rfl, F₁₃, fun p hp => N₁₃ p (.tail _ (.tail _ hp))⟩, .inr ⟨rfl, hf⟩⟩
    · rw [if_neg (by intro e; have e := of_decide_eq_true e; omega)]
      repeat walk_at "n"
      refine wpAny_AugAssign_Name ?_
      refine wpAny_loadName_local rfl rfl F₁₃.ns (by walk_at "hv") ?_
      repeat walk_at "n"
      refine G'.nameB F₁₃ (by k_is) (by boot_fast) (by decide) ?_
      repeat walk_at "n"
      refine _root_.PySem.P.len_str (by omega) ?_
      refine iadd_int ?_
      repeat walk_at "n"
      rename_i F₁₄ N₁₄
      exact hR1 _ ⟨⟨_, _, rfl⟩, _, o₁₁, q + y.length, _, te, F₁₄, N₁₄, ho₁₁, hq, hs2, by walk_at "hv", by walk_at "hv", by walk_at "hv"⟩
  · refine hide fun P9 hP9 => ?_
    obtain ⟨⟨hp, tk, rfl⟩, m', oI', p, tp, te, F, N, ho, hpg, hsub, hgot, hst, hen⟩ := hJ
    refine hP9 ?_
    refine end_seq G'.calm F N (ne_of_lt_all lt₁₀) ho ⟨_, 0, (N _ (.tail _ (.head _))).1, rfl⟩ (by rw [Array.getElem?_eq_none]; rw [hsz]; omega) (fun h₁₁ F₁₁ N₁₁ => ⟨rfl, hR0 _ ⟨⟨_, _, m', rfl, F₁₁, fun p hp => N₁₁ p (.tail _ hp)⟩, .inl ⟨rfl, ?_⟩⟩⟩)
    rw [← hsub, List.drop_eq_nil_iff.mpr (by omega)]
    rfl
  · exact ⟨⟨_, _, rfl⟩, _, oI, 0, _, _, F₁₀, N₁₀, hoI, Nat.zero_le _, rfl, by walk_at "hv", by walk_at "hv", by walk_at "hv"⟩
  · obtain ⟨⟨hp, tk, m', rfl, F, N⟩, ⟨rfl, hz⟩ | ⟨rfl, hz⟩⟩ := z
    · repeat walk_at "n"
      exact ⟨_, _, news, F, N, fun Fz Nz => hz ▸ h _ _ Fz Nz⟩
    · exact ⟨_, _, news, F, N, fun Fz Nz => hz ▸ h _ _ Fz Nz⟩
end
/- N4 -/
theorem mem_words : ∀ (l : List Nat), (∀ c ∈ l, c = 97 ∨ c = 98) → l ∈ words l.length
  | [], _ => by simp [words]
  | c :: r, h => by
    have ih := mem_words r fun d hd => h d (.tail _ hd)
    show c :: r ∈ (words r.length).flatMap fun r => [97 :: r, 98 :: r]
    rw [List.mem_flatMap]
    refine ⟨r, ih, ?_⟩
    rcases h c (.head _) with rfl | rfl <;> simp
theorem mem_allWords {l : List Nat} (h : ∀ c ∈ l, c = 97 ∨ c = 98) (hl : l.length ≤ 6) : l ∈ allWords :=
  List.mem_flatMap.mpr ⟨l.length, List.mem_range.mpr (by omega), mem_words l h⟩
def leadsOf : Nat → List (List Nat)
  | 0 => [[]]
  | n + 1 => (leadsOf n).flatMap fun r => [32 :: r, 9 :: r]
def allLeads : List (List Nat) := (List.range 6).flatMap leadsOf
theorem mem_leads : ∀ (l : List Nat), (∀ c ∈ l, c = 32 ∨ c = 9) → l ∈ leadsOf l.length
  | [], _ => by simp [leadsOf]
  | c :: r, h => by
    have ih := mem_leads r fun d hd => h d (.tail _ hd)
    show c :: r ∈ (leadsOf r.length).flatMap fun r => [32 :: r, 9 :: r]
    rw [List.mem_flatMap]
    refine ⟨r, ih, ?_⟩
    rcases h c (.head _) with rfl | rfl <;> simp
theorem mem_allLeads {l : List Nat} (h : ∀ c ∈ l, c = 32 ∨ c = 9) (hl : l.length ≤ 5) : l ∈ allLeads :=
  List.mem_flatMap.mpr ⟨l.length, List.mem_range.mpr (by omega), mem_leads l h⟩

/-- some of a list's texts, as a slice picks them -/
def pickS (ys : List Str) (lo hi st : Option Int) : List Str :=
  (sliceRange (sliceBounds lo hi st ys.length).1 (sliceBounds lo hi st ys.length).2.1 (sliceBounds lo hi st ys.length).2.2).filterMap (ys[·]?)
theorem strs_places : ∀ {vs : List Value} {ys : List Str}, StrsAre vs ys → ∀ js : List Nat, StrsAre (js.filterMap (vs.toArray[·]?)) (js.filterMap (ys[·]?))
  | vs, ys, h, [] => .nil
  | vs, ys, h, j :: js => by
    have ih := strs_places h js
    cases hj : ys[j]? with
    | none =>
      have : vs.toArray[j]? = none := by
        rw [List.getElem?_toArray, List.getElem?_eq_none_iff, h.length]
        exact List.getElem?_eq_none_iff.mp hj
      rw [List.filterMap_cons_none this, List.filterMap_cons_none hj]; exact ih
    | some y =>
      obtain ⟨t, ht⟩ := h.get j y hj
      have : vs.toArray[j]? = some (.str y t) := by rw [List.getElem?_toArray]; exact ht
      rw [List.filterMap_cons_some this, List.filterMap_cons_some hj]; exact .cons y t ih
theorem strs_pick {vs : List Value} {ys : List Str} (h : StrsAre vs ys) (lo hi st : Option Int) : StrsAre (slicePick vs.toArray lo hi st).toList (pickS ys lo hi st) := by
  unfold slicePick pickS
  rw [List.size_toArray, h.length]
  exact strs_places h _

def parts (ld : List Nat) : List Str := Txt.split (tx ld) (tx [9])
def partsR (ld : List Nat) : List Str := pickS (pickS (parts ld) none (some (-1)) none) none none (some (-1)) ++ pickS (parts ld) (some (-1)) none none
/-- a lead as it is shown: its runs as they are, or those ahead of tabs turned round -/
def shown (ld : List Nat) (r : Bool) : List Nat := (Txt.join (tx [9]) (if r then partsR ld else parts ld)).cps.toList
theorem shown_eq (ld : List Nat) (r : Bool) : Txt.join (tx [9]) (if r then partsR ld else parts ld) = tx (shown ld r) := by
  unfold shown; rw [tx, Array.toArray_toList]
theorem parts_small {ld : List Nat} (h : ld ∈ allLeads) (r : Bool) : ((if r then partsR ld else parts ld).map (·.length)).sum + (if r then partsR ld else parts ld).length ≤ 100 := by
  have : allLeads.all (fun ld => [true, false].all fun r => decide (((if r then partsR ld else parts ld).map (·.length)).sum + (if r then partsR ld else parts ld).length ≤ 100)) = true := by decide +kernel
  simpa using List.all_eq_true.mp (List.all_eq_true.mp this ld h) r (by cases r <;> simp)
theorem parts_len {ld : List Nat} (h : ld ∈ allLeads) : (parts ld).length ≤ 10 := by
  have : allLeads.all (fun ld => decide ((parts ld).length ≤ 10)) = true := by decide +kernel
  simpa using List.all_eq_true.mp this ld h
theorem tx_append (a b : List Nat) : tx a ++ tx b = tx (a ++ b) := by
  show (⟨a.toArray ++ b.toArray⟩ : Str) = ⟨(a ++ b).toArray⟩
  rw [List.append_toArray]
theorem word_take {wd : List Nat} (h : wd ∈ allWords) {k : Nat} (hk : k ≤ wd.length) : Txt.slice (tx wd) none (some k) = tx (wd.take k) := by
  have : allWords.all (fun wd => (List.range 7).all fun k => decide (k ≤ wd.length) → Txt.slice (tx wd) none (some (k : Int)) == tx (wd.take k)) = true := by decide +kernel
  have hl := mem_word_len h
  have := List.all_eq_true.mp (List.all_eq_true.mp this wd h) k (List.mem_range.mpr (by omega))
  rw [decide_eq_true hk] at this
  exact beq_iff_eq.mp (by simpa using this)
theorem word_drop {wd : List Nat} (h : wd ∈ allWords) {k : Nat} (hk : k ≤ wd.length) : Txt.slice (tx wd) (some k) none = tx (wd.drop k) := by
  have : allWords.all (fun wd => (List.range 7).all fun k => decide (k ≤ wd.length) → Txt.slice (tx wd) (some (k : Int)) none == tx (wd.drop k)) = true := by decide +kernel
  have hl := mem_word_len h
  have := List.all_eq_true.mp (List.all_eq_true.mp this wd h) k (List.mem_range.mpr (by omega))
  rw [decide_eq_true hk] at this
  exact beq_iff_eq.mp (by simpa using this)

def nextLead (ld : List Nat) (n : Nat) : List Nat := ld ++ [if n % 2 = 1 then 9 else 32]
def nextWord (wd : List Nat) (n : Nat) : List Nat := wd.take (n / 8 % (wd.length + 1)) ++ [if n / 4 % 2 = 1 then 98 else 97] ++ wd.drop (n / 8 % (wd.length + 1))
def leadAt (ns : List Nat) : Nat → List Nat
  | 0 => []
  | i + 1 => nextLead (leadAt ns i) (ns.getD i 0)
def wordAt (ns : List Nat) : Nat → List Nat
  | 0 => [98]
  | i + 1 => nextWord (wordAt ns i) (ns.getD i 0)
def shownAt (ns : List Nat) (i : Nat) : List Nat := shown (leadAt ns i) (decide (ns.getD i 0 / 2 % 2 = 1))
theorem leadAt_len (ns : List Nat) : ∀ i, (leadAt ns i).length = i
  | 0 => rfl
  | i + 1 => by simp [leadAt, nextLead, leadAt_len ns i]
theorem leadAt_letters (ns : List Nat) : ∀ i, ∀ c ∈ leadAt ns i, c = 32 ∨ c = 9
  | 0 => by simp [leadAt]
  | i + 1 => by
    intro c hc
    simp only [leadAt, nextLead, List.mem_append, List.mem_singleton] at hc
    rcases hc with hc | rfl
    · exact leadAt_letters ns i c hc
    · split <;> simp
theorem wordAt_len (ns : List Nat) : ∀ i, (wordAt ns i).length = i + 1
  | 0 => rfl
  | i + 1 => by
    have h1 := wordAt_len ns i
    have h2 : ns.getD i 0 / 8 % ((wordAt ns i).length + 1) ≤ (wordAt ns i).length := by
      have := Nat.mod_lt (ns.getD i 0 / 8) (show (wordAt ns i).length + 1 > 0 by omega)
      omega
    simp only [wordAt, nextWord, List.length_append, List.length_take, List.length_drop, List.length_singleton]
    omega
theorem wordAt_letters (ns : List Nat) : ∀ i, ∀ c ∈ wordAt ns i, c = 97 ∨ c = 98
  | 0 => by simp [wordAt]
  | i + 1 => by
    intro c hc
    simp only [wordAt, nextWord, List.mem_append, List.mem_singleton] at hc
    rcases hc with (hc | rfl) | hc
    · exact wordAt_letters ns i c (List.mem_of_mem_take hc)
    · split <;> simp
    · exact wordAt_letters ns i c (List.mem_of_mem_drop hc)
theorem leadAt_mem (ns : List Nat) {i : Nat} (h : i ≤ 5) : leadAt ns i ∈ allLeads := mem_allLeads (leadAt_letters ns i) (by rw [leadAt_len]; exact h)
theorem wordAt_mem (ns : List Nat) {i : Nat} (h : i ≤ 5) : wordAt ns i ∈ allWords := mem_allWords (wordAt_letters ns i) (by rw [wordAt_len]; omega)

/- N5 -/
section
variable {w : World} {A : Around} {E : Value → Shared → Prop} {s : Shared} {x dx L C D l : Addr} {h₀ h : Heap} {m m' : Str → Option Value} {news : List (Addr × Obj)} {items : Array Value} {n : Nat} {oC oD : Obj} {env : Env}
  {v : Value} {Q : Value → Shared → Prop} {R : Result → Shared → Prop} {scope : Scope} {cl : List (Str × Addr)} {y : Str}
theorem slice_list {sl : Addr} {vs : List Value} {o : Obj} {vl vu vst : Value} {lo hi st : Option Int} {value slice : Expr} (F : Fr h₀ L s.heap m) (N : News h₀ L s.heap news) (hl : (l, o) ∈ news) (ho : LstOb vs o) (hs : (sl, slcObj vl vu vst) ∈ news)
    (pl : IsPart vl lo) (pu : IsPart vu hi) (ps : IsPart vst st) (h0 : st ≠ some 0) (hsz : vs.length ≤ sizeLine)
    {ops : List Value} (hsub : subscripted slice false (.ref l) (.ref sl) = operate ops (getItem (.ref l) (.ref sl)))
    (h : ∀ a h' o', LstOb (slicePick vs.toArray lo hi st).toList o' → Fr h₀ L h' m → News h₀ L h' ((a, o') :: news) → (∀ p ∈ news, p.1 < a) → Q (.ref a) { s with heap := h' }) :
    wpAny (MD w) A (subscriptTail value slice (.ref l) (.ref sl)) Q E s := by
  refine _root_.PyProof.Rows.tail_any (ops := ops) (T := "list") (id := "list.__getitem__") (ho.is N hl).typeIs slot_list_getitem.lookup ?_ hsub
  refine wpAny_getItem_list_slice (ho.is N hl) ⟨_, (N _ hs).1, rfl, rfl⟩ pl pu ps h0 ?_ (by simpa using hsz)
  exact h _ _ _ ⟨rfl, 0, by simp⟩ (F.push _) (N.push F _) fun p hp => Heap.lt_size (N p hp).1
theorem assign_three {M : Model} {f g k : Value → Sem Unit} {a b c : Value} {Q : Unit → Shared → Prop} (h : wpAny M A (f a) (fun _ s₁ => wpAny M A (g b) (fun _ s₂ => wpAny M A (k c) Q E s₂) E s₁) E s) : wpAny M A (assignInOrder [f, g, k] [a, b, c]) Q E s := by
  show wpAny M A (do holding [b, c] (f a); holding [c] (g b); holding [] (k c); pure ()) Q E s
  exact wpAny_bind (wpAny_holding (wpAny_mono h (fun _ s₁ h₁ => wpAny_bind (wpAny_holding (wpAny_mono h₁ (fun _ s₂ h₂ => wpAny_bind (wpAny_holding (wpAny_mono h₂ (fun _ _ z => wpAny_pure z) fun _ _ z => z))) fun _ _ z => z))) fun _ _ z => z))

theorem lst_append {vs : List Value} {n : Nat} (F : Fr h₀ L s.heap m) (N : News h₀ L s.heap news) (hx : (D, lstObj vs n) ∈ news) (hsz : vs.length ≤ sizeLine)
    (h : ∀ h' n', Fr h₀ L h' m → News h₀ L h' (put D (lstObj (vs ++ [v]) n') news) → Q .none { s with heap := h' }) : wpAny (MD w) A (call (.builtin "list.append") [.ref D, v]) Q E s := by
  have h1 := (N _ hx).1
  obtain ⟨F', N'⟩ := upd_news (o' := lstObj (vs ++ [v]) (n + 1)) (f := Obj.mapSeq fun xs => xs.push v) F N hx (by
    show ({ cls := .type "list", data := .seq (vs.toArray.push v) _ } : Obj) = _
    rw [Array.size_push, List.push_toArray]
    simp) rfl
  refine wpAny_call_entry slot_list_append ⟨_, h1, rfl⟩ entry_list_append ?_ (args_list_append _ _)
  show wpAny _ _ (updateSeq D (·.push v) >>= fun _ => ret .none) _ _ s
  refine wpAny_bind (wpAny_updateSeq h1 rfl (wpAny_pure ⟨.none, rfl, h _ _ F' N'⟩) (hz := by simpa using hsz) (_hz' := by simp; omega))
theorem lst_method {vs : List Value} {n : Nat} {pl : Sem Bool} {Q : Value × List Value → Shared → Prop} (N : News h₀ L s.heap news) (hx : (D, lstObj vs n) ∈ news) (h : Q (.builtin "list.append", [.ref D]) s) : wpAny (MD w) A (getMethod (.ref D) "append" pl) Q E s :=
  getMethod_builtin ⟨_, (N _ hx).1, rfl⟩ PySem.F.plainAttrs_list PySem.F.slot_list_append PySem.F.type_list_append (fun a e => by cases e; exact ⟨_, (N _ hx).1, rfl⟩) h
theorem pick_len (vs : List Value) (a b c : Option Int) : (slicePick vs.toArray a b c).toList.length ≤ vs.length := by
  have := slicePick_size_le vs.toArray a b c
  rw [Array.length_toList]; simpa using this
theorem fdm (n a b : Nat) : ((n : Int).fdiv a).fmod b = ((n / a % b : Nat) : Int) := by
  rw [Int.fdiv_eq_ediv_of_nonneg _ (by omega), Int.fmod_eq_emod_of_nonneg _ (by omega)]
  rfl
theorem cps_dot_tab : Str.ofString "\t" = tx [9] := by decide +kernel
theorem slice_str {x : Str} {t : Tok} {sl : Addr} {l u : Option (Int × Tok)} {vl vu : Value} {value slice : Expr} (N : News h₀ L s.heap news) (hs : (sl, slcObj vl vu .none) ∈ news) (hvl : vl = partValue l) (hvu : vu = partValue u) (hsz : x.length ≤ sizeLine)
    {ops : List Value} (hsub : subscripted slice false (.str x t) (.ref sl) = operate ops (getItem (.str x t) (.ref sl)))
    (h : ∀ t' k, Q (.str (Txt.slice x (l.map (·.1)) (u.map (·.1))) t') { s with toks := k }) :
    wpAny (MD w) A (subscriptTail value slice (.str x t) (.ref sl)) Q E s := by
  refine _root_.PyProof.Rows.tail_any (ops := ops) (T := "str") (id := "str.__getitem__") (typeIs_str _ _ _) _root_.PySem.F.slot_str_getitem.lookup ?_ hsub
  exact wpAny_getItem_str_slice (l := l) (u := u) (st := none) ⟨_, (N _ hs).1, rfl, by rw [hvl, hvu]; rfl⟩ rfl (post_val_or_str ⟨Nat.le_trans (Txt.slice_le x _ _) hsz, fun t' k => h t' k⟩)
theorem if_sign {b : Bool} {c : Prop} [Decidable c] {p1 p2 : Pos} (hb : b = decide c) (h : Q (.str (tx [if c then 9 else 32]) s.toks) { s with toks := s.toks + 1 }) :
    (if b = true then wpAny (MD w) A (eval (.Constant (.str (Str.ofString "\t")) 0 p1) env) Q E s else wpAny (MD w) A (eval (.Constant (.str (Str.ofString " ")) 0 p2) env) Q E s) := by
  subst hb
  by_cases hc : c
  · rw [if_pos (by simp [hc])]
    refine Calls.Constant_str ?_
    rw [if_pos hc] at h
    rw [show Str.ofString "\t" = tx [9] by decide +kernel]
    exact h
  · rw [if_neg (by simp [hc])]
    refine Calls.Constant_str ?_
    rw [if_neg hc] at h
    rw [show Str.ofString " " = tx [32] by decide +kernel]
    exact h
theorem fm2 (n b : Nat) : (n : Int).fmod b = ((n % b : Nat) : Int) := by
  rw [Int.fmod_eq_emod_of_nonneg _ (by omega)]; rfl
theorem int_eq_one (n : Nat) : (((n : Nat) : Int) == 1) = decide (n = 1) := by
  by_cases h : n = 1
  · subst h; rfl
  · rw [decide_eq_false h]
    exact beq_false_of_ne (by omega)
theorem ab_at (n : Nat) : (seqIndex? (((n % 2 : Nat) : Int)) (Str.ofString "ab").length).bind ((Str.ofString "ab").cps[·]?) = some (if n % 2 = 1 then 98 else 97) := by
  have h : n % 2 = 0 ∨ n % 2 = 1 := by omega
  rcases h with h | h <;> rw [h] <;> decide +kernel
/-- the chips made so far -/
def RowIs (ns : List Nat) (i : Nat) (row : List Pair) : Prop := row.map (fun q => (q.f, q.g)) = (List.range i).map fun k => (tx (shownAt ns k), tx (wordAt ns k))
inductive ChipJ (s : Shared) (g : Heap) (L' I lc : Addr) (base : List (Addr × Obj)) (ns : List Nat) (i : Nat) (ld : Addr) (s' : Shared) : Prop
  | mk (e : ∃ hp tk, s' = { s with heap := hp, toks := tk }) (m' : Str → Option Value) (nw : List (Addr × Obj)) (oI : Obj) (nc : Nat) (row : List Pair) (tl tw : Tok) (F : Fr g L' s'.heap m') (N : News g L' s'.heap ((I, oI) :: nw)) (ne : ∀ p ∈ nw, p.1 ≠ I) (it : LIt ld i oI) (sub : ∀ p ∈ base, p ∈ nw) (ap : ∀ p ∈ base, p.1 ≠ lc)
    (lm : (lc, lstObj (row.map fun q => Value.ref q.a) nc) ∈ nw) (rm : ∀ q ∈ row, (q.a, q.obj) ∈ nw) (R : RowIs ns i row)
    (h1 : m' "chips" = some (.ref lc)) (h2 : m' "lead" = some (.str (tx (leadAt ns i)) tl)) (h3 : m' "word" = some (.str (tx (wordAt ns i)) tw))
inductive ChipMid (s : Shared) (g : Heap) (L' I lc : Addr) (o₉ : Obj) (nw : List (Addr × Obj)) (ns : List Nat) (i k : Nat) (tl tw tn : Tok) (s' : Shared) : Prop
  | mk (e : ∃ hp tk, s' = { s with heap := hp, toks := tk }) (m₂ : Str → Option Value) (rl : Addr) (orl : Obj) (zs : List Value) (F : Fr g L' s'.heap m₂) (N : News g L' s'.heap ((rl, orl) :: (I, o₉) :: nw)) (lt : ∀ p ∈ (I, o₉) :: nw, p.1 < rl) (hz : LstOb zs orl)
    (hzs : StrsAre zs (if decide (k / 2 % 2 = 1) = true then partsR (leadAt ns i) else parts (leadAt ns i)))
    (h1 : m₂ "runs" = some (.ref rl)) (h2 : m₂ "chips" = some (.ref lc)) (h3 : m₂ "lead" = some (.str (tx (leadAt ns i)) tl)) (h4 : m₂ "word" = some (.str (tx (wordAt ns i)) tw)) (h5 : m₂ "number" = some (.int k tn))
theorem chips_ok {ns : List Nat} {vs : List Value} {o : Obj} (G : At w A L h₀) (F : Fr h₀ L s.heap m) (N : News h₀ L s.heap news) (hl : (l, o) ∈ news) (ho : LstOb vs o) (hns : IntsAre vs (ns.map Int.ofNat)) (h14 : ns.length = 14) (hroom : A.depth < recursionLimit)
    (h : ∀ lc h' nw nc tk row, Fr h₀ L h' m → News h₀ L h' nw → (∀ p ∈ news, p ∈ nw) → (lc, lstObj (row.map fun q => Value.ref q.a) nc) ∈ nw → (∀ q ∈ row, (q.a, q.obj) ∈ nw) → RowIs ns 6 row → Q (.ref lc) { s with heap := h', toks := tk }) :
    wpAny (MD w) A (call (.ref 185) [.ref l]) Q E s := by
  refine G.call (binds := [(Str.ofString "drawn", .ref l)]) F N (by k_is) (by k_is) hroom (BindsTo.of_eq rfl) (locs rfl) (by decide) rfl rfl rfl (fun g L' h₁ E' G' F' N' lt => ?_)
  repeat walk_at "n"
  refine Assign_Tuple_swapped (names := ["chips", "lead", "word"]) ?_ (by rfl) (by rfl)
  repeat walk_at "n"
  refine new_list F' N' (fun lc h₂ F₂ N₂ lt₂ => ?_)
  repeat walk_at "n"
  refine new_tuple F₂ N₂ (fun a h₃ F₃ N₃ lt₃ => ?_)
  refine unpack_tup F₃ N₃ ⟨_, (N₃ _ (.head _)).1, rfl, 0, rfl⟩ G'.calm rfl (fun h₄ F₄ N₄ => ?_)
  refine assign_three (f := bindName _ "word") (g := bindName _ "lead") (k := bindName _ "chips") (bindName_ ?_)
  repeat walk_at "n"
  refine bindName_ ?_
  repeat walk_at "n"
  refine bindName_ ?_
  repeat walk_at "n"
  rename_i F₅ N₅
  refine wpAny_For ?_ (fun _ => rfl)
  repeat walk_at "n"
  refine new_slice F₅ N₅ (fun sl h₆ F₆ N₆ lt₆ => ?_)
  refine slice_list F₆ N₆ (.tail _ (.tail _ (.tail _ hl))) ho (.head _) .none (.int _ _) .none (by decide) ?_ (by rfl) (fun ld h₇ o₇ ho₇ F₇ N₇ lt₇ => ?_)
  · have := hns.length; rw [this, sizeLine_eq]; simp; omega
  refine iter_seq F₇ N₇ (ho₇.is N₇ (.head _)) (fun I oI h₈ hoI F₈ N₈ lt₈ => ?_)
  have hvl : vs.length = 14 := by have := hns.length; simpa [h14] using this
  have e6 : slicePick vs.toArray none (some 6) none = (vs.take 6).toArray := slicePick_upto vs.toArray 6 (by simp; omega)
  have hitem : ∀ i, i < 6 → ∃ t, (slicePick vs.toArray none (some 6) none).toList.toArray[i]? = some (.int (ns.getD i 0 : Nat) t) := by
    intro i hi
    rw [e6]
    have hi14 : i < ns.length := by omega
    obtain ⟨t, ht⟩ := hns.get i (ns.getD i 0 : Nat) (by rw [List.getElem?_map, List.getD_eq_getElem?_getD, List.getElem?_eq_getElem hi14]; rfl)
    exact ⟨t, by simpa [List.getElem?_take, hi] using ht⟩
  have hisz : (slicePick vs.toArray none (some 6) none).size = 6 := by
    rw [e6]
    simp; omega
  refine for_then (fun f s' => f = .next ∧ ∃ i2, i2 = 6 ∧ (∃ hp tk, s' = { s with heap := hp, toks := tk }) ∧ ∃ m' nw nc row, Fr g L' s'.heap m' ∧ News g L' s'.heap nw ∧ (∀ p ∈ news, p ∈ nw) ∧ (lc, lstObj (row.map fun q => Value.ref q.a) nc) ∈ nw ∧ (∀ q ∈ row, (q.a, q.obj) ∈ nw) ∧ RowIs ns i2 row ∧ m' "chips" = some (.ref lc)) 6
    (fun i s' => ChipJ s g L' I lc ((ld, o₇) :: news) ns i ld s') (fun i s₁ E₁ R hR1 hR2 hR3 hi hJ => ?_) (fun s₁ E₁ R hR0 hJ => ?_) ?_ (fun f s' z => ?_)
  · refine hide fun P9 hP9 => ?_
    obtain ⟨⟨hp, tk, rfl⟩, m', nw, oI', nc, row, tl, tw, F, N, hne, hoI', hsub, hap, hlc, hrow, hR, hmc, hml, hmw⟩ := hJ
    refine hP9 ?_
    obtain ⟨tn, hit⟩ := hitem i hi
    generalize hk : ns.getD i 0 = k at hit
    refine next_seq F N hne hoI' (ho₇.is N (.tail _ (hsub _ (.head _))) |> fun z => ⟨z.choose, _, z.choose_spec.1, z.choose_spec.2.2.choose_spec⟩) hit (fun h₉ o₉ ho₉ F₉ N₉ => ⟨_, rfl, go_name (_root_.PyProof.Rows.assign_Name (storeX_U F₉ N₉ (fun m₁₀ U₁₀ h₁₀ F₁₀ N₁₀ => ?_) rfl rfl))⟩)
    refine execs_cut 2 (ChipMid s g L' I lc o₉ nw ns i k tl tw tn) ?_ (fun s₂ hmid => ?_)
    · dsimp only [List.take]
      repeat walk_at "n"
      refine GM.split ?_
      repeat walk_at "n"
      refine splitN1 F₁₀ N₁₀ (by decide) (fun sp h₁₁ k₁₁ hsp F₁₁ N₁₁ => ?_) (by rw [sizeLine_eq]; show (leadAt ns i).toArray.size + 2 ≤ _; simp [leadAt_len]; omega)
      rw [cps_dot_tab] at hsp
      have hps : StrsAre (strValues sp) (parts (leadAt ns i)) := by have := strsAre_of_values sp; rw [hsp] at this; exact this
      have hplen := parts_len (leadAt_mem ns (show i ≤ 5 by omega))
      have hspl : (strValues sp).length = (parts (leadAt ns i)).length := hps.length
      repeat walk_at "n"
      rename_i F₁₂ N₁₂
      refine _root_.PyProof.Rows.floordiv_int (by decide) ?_ (.inl (PyProof.noPylong_small (by decide)))
      repeat walk_at "n"
      refine _root_.PyProof.Rows.mod_int (by decide) ?_
      rw [show (k : Int).fdiv 2 = (k : Int).fdiv (2 : Nat) from rfl, show ((k : Int).fdiv (2 : Nat)).fmod 2 = ((k : Int).fdiv (2 : Nat)).fmod (2 : Nat) from rfl, fdm]
      repeat walk_at "n"
      refine eq_int ?_
      repeat walk_at "n"
      have ltr : ∀ p ∈ (I, o₉) :: nw, p.1 < h₁₀.objs.size := fun p hp => Heap.lt_size (N₁₀ p hp).1
      by_cases hr : k / 2 % 2 = 1
      rw [if_pos (show (((k / 2 % 2 : Nat) : Int) == 1) = true from by rw [hr]; rfl)]
      repeat walk_at "n"
      refine UnaryOp_ ?_
      repeat walk_at "n"
      refine _root_.PySem.P.neg_int ?_
      repeat walk_at "n"
      refine new_slice F₁₂ N₁₂ (fun sl1 h₁₃ F₁₃ N₁₃ lt₁₃ => ?_)
      refine slice_list F₁₃ N₁₃ (.tail _ (.head _)) ⟨rfl, 0, rfl⟩ (.head _) .none (.int _ _) .none (by decide) (by rw [sizeLine_eq, hspl]; omega) (by rfl) (fun r1 h₁₄ o₁₄ ho₁₄ F₁₄ N₁₄ lt₁₄ => ?_)
      repeat walk_at "n"
      refine UnaryOp_ ?_
      repeat walk_at "n"
      refine _root_.PySem.P.neg_int ?_
      repeat walk_at "n"
      refine new_slice F₁₄ N₁₄ (fun sl2 h₁₅ F₁₅ N₁₅ lt₁₅ => ?_)
      refine slice_list F₁₅ N₁₅ (.tail _ (.head _)) ho₁₄ (.head _) .none .none (.int _ _) (by decide) ?_ (by rfl) (fun r2 h₁₆ o₁₆ ho₁₆ F₁₆ N₁₆ lt₁₆ => ?_)
      · have e := strs_pick hps none (some (-1)) none
        have := slicePick_size_le (strValues sp).toArray none (some (-1)) none
        rw [sizeLine_eq, Array.length_toList]
        simp at this
        omega
      repeat walk_at "n"
      refine UnaryOp_ ?_
      repeat walk_at "n"
      refine _root_.PySem.P.neg_int ?_
      repeat walk_at "n"
      refine new_slice F₁₆ N₁₆ (fun sl3 h₁₇ F₁₇ N₁₇ lt₁₇ => ?_)
      refine slice_list F₁₇ N₁₇ (.tail _ (.tail _ (.tail _ (.tail _ (.tail _ (.head _)))))) ⟨rfl, 0, rfl⟩ (.head _) (.int _ _) .none .none (by decide) (by rw [sizeLine_eq, hspl]; omega) (by rfl) (fun r3 h₁₈ o₁₈ ho₁₈ F₁₈ N₁₈ lt₁₈ => ?_)
      have hA := strs_pick (vs := (slicePick (strValues sp).toArray none (some (-1)) none).toList) (strs_pick hps none (some (-1)) none) none none (some (-1))
      have hB := strs_pick hps (some (-1)) none none
      refine kmk_add_lit F₁₈ N₁₈ (ho₁₆.is N₁₈ (.tail _ (.tail _ (.head _)))) (ho₁₈.is N₁₈ (.head _)) rfl (fun r4 h₁₉ F₁₉ N₁₉ lt₁₉ => ?_) (by
        have h1 := pick_len (strValues sp) none (some (-1)) none
        have h2 := pick_len (slicePick (strValues sp).toArray none (some (-1)) none).toList none none (some (-1))
        have h3 := pick_len (strValues sp) (some (-1)) none none
        rw [sizeLine_eq]
        simp only [List.toList_toArray] at *
        omega)
      repeat walk_at "n"
      rename_i F₂₀ N₂₀
      refine ⟨rfl, ⟨_, _, rfl⟩, _, r4, _, _, F₂₀, news_sub N₂₀ (fun p hp => by
          rcases List.mem_cons.mp hp with rfl | hp
          · exact .head _
          · exact .tail _ (.tail _ (.tail _ (.tail _ (.tail _ (.tail _ (.tail _ (.tail _ hp)))))))), fun p hp => lt₁₉ p (.tail _ (.tail _ (.tail _ (.tail _ (.tail _ (.tail _ (.tail _ hp))))))), ⟨rfl, 0, rfl⟩, by rw [if_pos (by simp [hr])]; exact hA.append' hB, by walk_at "hv", by walk_at "hv", by walk_at "hv", by walk_at "hv", by walk_at "hv"⟩
      rw [if_neg (show ¬ (((k / 2 % 2 : Nat) : Int) == 1) = true from fun e => hr (by have := beq_iff_eq.mp e; omega))]
      repeat walk_at "n"
      exact ⟨rfl, ⟨_, _, rfl⟩, _, h₁₀.objs.size, _, _, F₁₂, N₁₂, ltr, ⟨rfl, 0, rfl⟩, by rw [if_neg (by simp [hr])]; exact hps, by walk_at "hv", by walk_at "hv", by walk_at "hv", by walk_at "hv", by walk_at "hv"⟩
    · dsimp only [List.drop]
      refine hide fun P9 hP9 => ?_
      obtain ⟨⟨hp, tk, rfl⟩, m₂, rl, orl, zs, F₂₁, N₂₁, lt₂₁, hzl, hzs, hm1, hm2, hm3, hm4, hm5⟩ := hmid
      refine hP9 ?_
      repeat walk_at "n"
      refine lst_method N₂₁ (.tail _ (.tail _ hlc)) ?_
      repeat walk_at "n"
      refine GM.join ?_
      repeat walk_at "n"
      rw [cps_dot_tab]
      refine join_list (ys := if decide (k / 2 % 2 = 1) = true then partsR (leadAt ns i) else parts (leadAt ns i)) (hzl.is N₂₁ (.head _)) hzs ?_ (fun t₂₂ k₂₂ => ?_)
      rotate_left
      rw [shown_eq]
      repeat walk_at "n"
      refine new_tuple F₂₁ N₂₁ (fun ta h₂₃ F₂₃ N₂₃ lt₂₃ => ?_)
      repeat walk_at "n"
      refine lst_append F₂₃ N₂₃ (.tail _ (.tail _ (.tail _ hlc))) ?_ (fun h₂₄ n₂₄ F₂₄ N₂₄ => ?_)
      rotate_left
      repeat walk_at "n"
      refine wpAny_AugAssign_Name ?_
      refine wpAny_loadName_local rfl rfl F₂₄.ns (by walk_at "hv") ?_
      repeat walk_at "n"
      refine IfExp_ ?_
      repeat walk_at "n"
      refine _root_.PyProof.Rows.mod_int (by decide) ?_
      rw [show (k : Int).fmod 2 = (k : Int).fmod (2 : Nat) from rfl, fm2]
      repeat walk_at "n"
      refine eq_int ?_
      repeat walk_at "n"
      refine if_sign (c := k % 2 = 1) (int_eq_one _) ?_
      refine SB.iadd (fun t₂₅ k₂₅ => ?_) (by rw [sizeLine_eq]; show (leadAt ns i).toArray.size + 1 ≤ _; simp [leadAt_len]; omega)
      rw [tx_append]
      repeat walk_at "n"
      rename_i F₂₆ N₂₆
      refine _root_.PyProof.Rows.floordiv_int (by decide) ?_ (.inl (PyProof.noPylong_small (by decide)))
      repeat walk_at "n"
      refine G'.nameB F₂₆ (by k_is) (by boot_fast) (by decide) ?_
      repeat walk_at "n"
      have hwl : ((tx (wordAt ns i)).length : Int) + 1 = ((i + 2 : Nat) : Int) := by
        show (((wordAt ns i).toArray.size : Nat) : Int) + 1 = _
        simp [wordAt_len]; omega
      refine _root_.PySem.P.len_str (by omega) ?_
      repeat walk_at "n"
      rw [hwl]
      refine _root_.PyProof.Rows.mod_int (by omega) ?_
      rw [show (k : Int).fdiv 8 = (k : Int).fdiv (8 : Nat) from rfl, fdm]
      repeat walk_at "n"
      rename_i F₂₇ N₂₇
      refine new_slice F₂₇ N₂₇ (fun s4 h₂₈ F₂₈ N₂₈ lt₂₈ => ?_)
      have hwm := wordAt_mem ns (show i ≤ 5 by omega)
      have hat : k / 8 % (i + 2) ≤ (wordAt ns i).length := by
        rw [wordAt_len]
        have := Nat.mod_lt (k / 8) (show i + 2 > 0 by omega)
        omega
      have hws : (tx (wordAt ns i)).length ≤ sizeLine := by
        rw [sizeLine_eq]; show (wordAt ns i).toArray.size ≤ _
        simp [wordAt_len]; omega
      refine slice_str (l := none) (u := some (((k / 8 % (i + 2) : Nat) : Int), _)) N₂₈ (.head _) rfl rfl hws (by rfl) (fun t₂₉ k₂₉ => ?_)
      show wpAny _ _ _ _ _ _
      rw [show ((none : Option (Int × Tok)).map (·.1)) = none from rfl]
      rw [show Option.map (fun x : Int × Tok => x.1) (some (((k / 8 % (i + 2) : Nat) : Int), _)) = some ((k / 8 % (i + 2) : Nat) : Int) from rfl, word_take hwm hat]
      repeat walk_at "n"
      refine _root_.PyProof.Rows.floordiv_int (by decide) ?_ (.inl (PyProof.noPylong_small (by decide)))
      repeat walk_at "n"
      refine _root_.PyProof.Rows.mod_int (by decide) ?_
      rw [show (k : Int).fdiv 4 = (k : Int).fdiv (4 : Nat) from rfl, show ((k : Int).fdiv (4 : Nat)).fmod 2 = ((k : Int).fdiv (4 : Nat)).fmod (2 : Nat) from rfl, fdm]
      repeat walk_at "n"
      refine _root_.PyProof.Rows.tail_any (ops := [.str "ab" _, .int _ _]) (T := "str") (id := "str.__getitem__") (typeIs_str _ _ _) _root_.PySem.F.slot_str_getitem.lookup (_root_.PySem.P.getItem_str (c := if k / 4 % 2 = 1 then 98 else 97) ?_ (ab_at (k / 4)) ?_) (by rfl)
      · have h2 : k / 4 % 2 < 2 := Nat.mod_lt _ (by decide)
        rw [decide_eq_false (by omega), decide_eq_false (by omega)]; rfl
      refine SB.add (fun t₃₀ k₃₀ => ?_) (by rw [sizeLine_eq]; have h1 := List.length_take_le' (k / 8 % (i + 2)) (wordAt ns i); have h2 := wordAt_len ns i; show ((wordAt ns i).take _).toArray.size + 1 ≤ _; rw [List.size_toArray]; omega)
      rw [show (⟨#[if k / 4 % 2 = 1 then 98 else 97]⟩ : Str) = tx [if k / 4 % 2 = 1 then 98 else 97] from rfl, tx_append]
      repeat walk_at "n"
      rename_i F₃₀ N₃₀
      refine new_slice F₂₈ N₂₈ (fun s5 h₃₁ F₃₁ N₃₁ lt₃₁ => ?_)
      refine slice_str (l := some (((k / 8 % (i + 2) : Nat) : Int), _)) (u := none) N₃₁ (.head _) rfl rfl hws (by rfl) (fun t₃₂ k₃₂ => ?_)
      show wpAny _ _ _ _ _ _
      rw [show ((none : Option (Int × Tok)).map (·.1)) = none from rfl]
      rw [show Option.map (fun x : Int × Tok => x.1) (some (((k / 8 % (i + 2) : Nat) : Int), _)) = some ((k / 8 % (i + 2) : Nat) : Int) from rfl, word_drop hwm hat]
      refine SB.add (fun t₃₃ k₃₃ => ?_) (by rw [sizeLine_eq]; show ((wordAt ns i).take _ ++ _).toArray.size + ((wordAt ns i).drop _).toArray.size ≤ _; simp [wordAt_len]; omega)
      rw [tx_append]
      repeat walk_at "n"
      rename_i F₃₄ N₃₄
      have hlcI : lc ≠ I := hne _ hlc
      have hlcr : lc < rl := lt₂₁ _ (.tail _ hlc)
      have hlct : lc < ta := lt₂₃ _ (.tail _ (.tail _ hlc))
      have hIt : I < ta := lt₂₃ _ (.tail _ (.head _))
      have hL : leadAt ns (i + 1) = leadAt ns i ++ [if k % 2 = 1 then 9 else 32] := by rw [leadAt, nextLead, hk]
      have hW : wordAt ns (i + 1) = (wordAt ns i).take (k / 8 % (i + 2)) ++ [if k / 4 % 2 = 1 then 98 else 97] ++ (wordAt ns i).drop (k / 8 % (i + 2)) := by
        rw [wordAt, nextWord, hk, wordAt_len]
      refine hR1 _ ⟨⟨_, _, rfl⟩, _, (ta, ({ cls := .type "tuple", data := .seq #[.str (tx (shown (leadAt ns i) (decide (k / 2 % 2 = 1)))) t₂₂, .str (tx (wordAt ns i)) tw] } : Obj)) :: put lc (lstObj ((row.map fun q => Value.ref q.a) ++ [.ref ta]) n₂₄) nw, o₉, n₂₄, row ++ [⟨ta, tx (shown (leadAt ns i) (decide (k / 2 % 2 = 1))), t₂₂, tx (wordAt ns i), tw⟩], _, _, F₃₄, fun p hp => N₃₄ p (.tail _ (.tail _ ?_)), ?_, ho₉, fun p hp => .tail _ (put_mem (hsub p hp) (hap p hp)), hap, ?_, ?_, ?_, by walk_at "hv", by rw [hL]; walk_at "hv", by rw [hW]; walk_at "hv"⟩
      · rcases List.mem_cons.mp hp with rfl | hp
        · exact put_mem (.tail _ (.tail _ (.head _))) hlcI.symm
        · rcases List.mem_cons.mp hp with rfl | hp
          · exact put_mem (.head _) (Nat.ne_of_gt hlct)
          · exact (show p ∈ put lc _ (_ :: _ :: _ :: nw) from .tail _ (.tail _ (.tail _ hp)))
      · intro p hp
        rcases List.mem_cons.mp hp with rfl | hp
        · exact Nat.ne_of_gt hIt
        · refine hide fun P9 hP9 => ?_
          obtain ⟨q, hq, e⟩ := put_fst hp
          refine hP9 ?_
          rw [← e]; exact hne q hq
      · rw [List.map_append]
        exact .tail _ (put_here hlc)
      · intro q hq
        rcases List.mem_append.mp hq with hq | hq
        · exact .tail _ (put_mem (hrow q hq) (news_apart N (.tail _ (hrow q hq)) (.tail _ hlc) (by intro e; have e2 := congrArg Obj.cls e; exact absurd e2 (by simp))))
        · rw [List.mem_singleton.mp hq]
          exact .head _
      · unfold RowIs at *
        rw [List.map_append, hR, List.range_succ, List.map_append]
        simp only [List.map_cons, List.map_nil, shownAt, hk]
      · have := parts_small (leadAt_mem ns (show i ≤ 5 by omega)) (decide (k / 2 % 2 = 1))
        show _ + _ * 1 ≤ _
        omega
      · have e := hns.length
        have e2 : row.length = i := by have := congrArg List.length hR; simpa using this
        rw [List.length_map, e2, sizeLine_eq]; omega
  · refine hide fun P9 hP9 => ?_
    obtain ⟨⟨hp, tk, rfl⟩, m', nw, oI', nc, row, tl, tw, F, N, hne, hoI', hsub, hap, hlc, hrow, hR, hmc, hml, hmw⟩ := hJ
    refine hP9 ?_
    refine end_seq (items := (slicePick vs.toArray none (some 6) none).toList.toArray) G'.calm F N hne hoI' (ho₇.is N (.tail _ (hsub _ (.head _))) |> fun z => ⟨z.choose, _, z.choose_spec.1, z.choose_spec.2.2.choose_spec⟩) (by rw [Array.getElem?_eq_none]; simp [hisz]) (fun h₉ F₉ N₉ => ⟨rfl, hR0 _ ⟨rfl, 6, rfl, ⟨_, _, rfl⟩, m', nw, nc, row, F₉, N₉, fun p hp => hsub p (.tail _ hp), hlc, hrow, hR, hmc⟩⟩)
  · exact ⟨⟨_, _, rfl⟩, _, _, oI, 0, [], _, _, F₈, N₈, ne_of_lt_all lt₈, hoI, fun p hp => by
      rcases List.mem_cons.mp hp with rfl | hp
      · exact .head _
      · exact .tail _ (.tail _ (.tail _ (.tail _ hp))), fun p hp => by
      rcases List.mem_cons.mp hp with rfl | hp
      · exact Nat.ne_of_gt (lt₇ _ (.tail _ (.tail _ (.head _))))
      · exact Nat.ne_of_lt (lt₂ p hp), .tail _ (.tail _ (.tail _ (.head _))), (fun q hq => nomatch hq), rfl, by walk_at "hv", by walk_at "hv", by walk_at "hv"⟩
  · refine hide fun P9 hP9 => ?_
    obtain ⟨rfl, i2, rfl, ⟨hp, tk, rfl⟩, m', nw, nc, row, F, N, hsub, hlc, hrow, hR, hmc⟩ := z
    refine hP9 ?_
    repeat walk_at "n"
    exact ⟨_, _, nw, F, N, fun Fz Nz => h _ _ _ _ _ _ Fz Nz hsub hlc hrow hR⟩
end
/- P1 -/
/-- the def's statements and scope, by the object that holds them -/
def stmtsAt (o : Option Obj) : List Stmt := match o with | some ⟨_, _, .func fd, _⟩ => (match fd.body with | .stmts b => b | _ => []) | _ => []
def scopeAt (o : Option Obj) : Scope := match o with | some ⟨_, _, .func fd, _⟩ => fd.scope | _ => { kind := .function, names := [], isGenerator := false, isCoroutine := false }
noncomputable abbrev KL (w : World) : Option Obj := (hd.heap_39 w.params).lookup 195
abbrev lawEnv (sc : Scope) (L a : Addr) (cd : Value) : Env := envX (Str.ofString "law") sc L a cd [(Str.ofString "places", L + 1)]
def LawOk : Prop := ∀ (w : World) (A : Around) (L a : Addr) (cd : Value) (h₀ : Heap) (s : Shared) (l : Addr) (vs : List Value) (ns : List Int) (oc : Obj) (E : Value → Shared → Prop) (Q : Flow → Shared → Prop) (b : List Stmt) (sc : Scope),
  stmtsAt (KL w) = b → scopeAt (KL w) = sc →
  At w A L h₀ → A.depth + 20 < recursionLimit → A.units + 20 < cLine → Fr h₀ L s.heap (fm [(Str.ofString "script", .ref l)]) → News h₀ L s.heap [(L + 1, oc), (136, tabObj #[]), (143, tabObj #[])] → oc.data = .cell none → h₀.IsList l vs.toArray → IntsAre vs ns → ns.length ≤ 63 → s.gens = #[] →
  (∀ s' op op' nw m, Fr h₀ L s'.heap m → News h₀ L s'.heap nw → (136, op) ∈ nw → (143, op') ∈ nw → TabObj op → TabObj op' → AllBare s'.gens → s'.os = s.os → Q (.ret (.bool true)) s') →
  wpAny (MD w) A (execs b (lawEnv sc L a cd)) Q E s
/-- the statements that an object holds, written out -/
theorem seg_start {w : World} {A : Around} {L a : Addr} {cd : Value} {s : Shared} {E : Value → Shared → Prop} {Q : Flow → Shared → Prop} {b : List Stmt} {sc : Scope} {o : Obj} (pick : List Stmt → List Stmt) (hK : (hd.heap_39 w.params).lookup 195 = some o) (hb : pick (stmtsAt (KL w)) = b) (hs : scopeAt (KL w) = sc)
    (h : wpAny (MD w) A (execs (pick (stmtsAt (some o))) (lawEnv (scopeAt (some o)) L a cd)) Q E s) : wpAny (MD w) A (execs b (lawEnv sc L a cd)) Q E s := by
  have hK' : KL w = some o := hK
  rw [← hb, ← hs, hK']; exact h

abbrev tabs2 : List (Addr × Addr) := [(140, 136), (147, 143)]
theorem tabs_at {P : Params} {h : Heap} (X : (hd.heap_39 P).In h) (T : ∀ q ∈ ([136, 143] : List Addr), h.get? q = some (tabObj #[])) : TabsAt tabs2 h := by
  intro q hq
  rcases List.mem_cons.mp hq with rfl | hq
  · exact ⟨codeHd_of_K X (by kernel_rfl), T _ (.head _)⟩
  · rw [List.mem_singleton.mp hq]
    exact ⟨codeHd_of_K X (by kernel_rfl), T _ (.tail _ (.head _))⟩
theorem at_ghost {w : World} {A : Around} {h : Heap} {env : Env} {L : Addr} {loose : List Str} {mean : ExcName → Option Value} {mg mb : Str → Option Value} {bm : Addr} {ob : Obj} (hT : TabsAt tabs2 h) (X : (hd.heap_39 w.params).In h)
    (T : Top hd.view_39 loose mean mg mb h) (M : BMod h mainGlobals mg bm ob) (hA : A.frames = some [env]) (hf : env.frame = some L) (hk : env.scope.kind = .function) (hc : A.handled = none) : At w A L (ghostOf h tabs2) :=
  ⟨hc, ghost_K hT X (by kernel_rfl), loose, mg, mb, bm, ob, callerA, _, [], env, ghost_below hT,
    ⟨ghost_ns hT T.g, ghost_ns hT T.b, (let ⟨mc, a, r⟩ := T.nolimit; ⟨mc, ghost_ns hT a, r⟩), T.builtins, T.free⟩,
    ⟨ghost_ns hT M.ns, M.name, M.ne, ghost_get hT M.obj (fun q => by have := M.cls; rw [q] at this; cases this), M.cls, M.dict, M.data⟩, hA, hf, hk⟩
theorem oldK_end {h₀ h : Heap} {L : Addr} {m : Str → Option Value} {news : List (Addr × Obj)} {op op' : Obj} (hT : TabsAt tabs2 h₀) (F : Fr (ghostOf h₀ tabs2) L h m) (N : News (ghostOf h₀ tabs2) L h news) (h1 : (136, op) ∈ news) (h2 : (143, op') ∈ news)
    (t1 : TabObj op) (t2 : TabObj op') : OldK h₀ h := by
  have gr : ∀ q ∈ tabs2, ∃ ps, h.get? q.2 = some (tabObj ps) := by
    intro q hq
    rcases List.mem_cons.mp hq with rfl | hq
    · obtain ⟨ps, rfl, _⟩ := t1; exact ⟨ps, (N _ h1).1⟩
    · rw [List.mem_singleton.mp hq]
      obtain ⟨ps, rfl, _⟩ := t2; exact ⟨ps, (N _ h2).1⟩
  refine ⟨fun b o e => ?_, fun b o e => ?_⟩
  · by_cases hb : b ∈ tabs2.map (·.2)
    · obtain ⟨q, hq, rfl⟩ := List.mem_map.mp hb
      have e2 := (hT q hq).2
      rw [e] at e2
      obtain ⟨ps, hp⟩ := gr q hq
      cases Option.some.inj e2
      exact .inr (.inl ⟨((hT q hq).1.tab (hT q hq).2).isCodeTable, rfl, #[], ps, rfl, by rw [Array.empty_append]; exact hp⟩)
    · exact .inl (F.keep b o (ghost_ne e hb))
  · by_cases hb : b ∈ tabs2.map (·.2)
    · obtain ⟨q, hq, rfl⟩ := List.mem_map.mp hb
      obtain ⟨ps, hp⟩ := gr q hq
      exact ⟨_, hp⟩
    · exact ⟨o, F.keep b o (ghost_ne e hb)⟩
theorem deep_room {env : Env} : (callerA.deeper env).depth + 20 < recursionLimit ∧ (callerA.deeper env).units + 20 < cLine := by
  rw [depth_deeper, depth_caller, units_deeper, units_caller]; exact ⟨by decide, by decide⟩
theorem enter_conv (H : LawOk) {w : World} {A : Around} {L a : Addr} {cd : Value} {h : Heap} {s : Shared} {l : Addr} {vs : List Value} {ns : List Int} {oc : Obj} {E : Value → Shared → Prop} {Q : Flow → Shared → Prop} {b : List Stmt} {env : Env} {loose : List Str} {mean : ExcName → Option Value} {mg mb : Str → Option Value} {bm : Addr} {ob : Obj} {m : Str → Option Value}
  (hb : stmtsAt (KL w) = b) (hs : scopeAt (KL w) = env.scope) (hv : env = lawEnv env.scope L a cd) (hT : TabsAt tabs2 h) (X : (hd.heap_39 w.params).In h)
    (T : Top hd.view_39 loose mean mg mb h) (M : BMod h mainGlobals mg bm ob) (hk : env.scope.kind = .function) (hA : A = callerA.deeper env)
  (F : Fr h L s.heap m) (N : News h L s.heap [(L + 1, oc)]) (hm : m = fm [(Str.ofString "script", .ref l)]) (hoc : oc.data = .cell none) (hl : h.IsList l vs.toArray) (hi : IntsAre vs ns) (hn : ns.length ≤ 63) (hg : s.gens = #[])
  (hq : ∀ s', OldK h s'.heap → AllBare s'.gens → s'.os = s.os → Q (.ret (.bool true)) s') : wpAny (MD w) A (execs b env) Q E s := by
  subst hm hA
  generalize env.scope = sc at hs hv hk
  subst hv
  have G : At w (callerA.deeper (lawEnv sc L a cd)) L (ghostOf h tabs2) := at_ghost hT X T M rfl rfl hk rfl
  have N' : News (ghostOf h tabs2) L s.heap [(L + 1, oc), (136, tabObj #[]), (143, tabObj #[])] := ghost_news hT F N
  exact H w _ L a cd (ghostOf h tabs2) s l vs ns oc E Q b sc hb hs G deep_room.1 deep_room.2 (ghost_fr hT F) N' hoc (ghost_list hT hl) hi hn hg
    fun s' op op' nw m F' N' h1 h2 t1 t2 g1 g2 => hq s' (oldK_end hT F' N' h1 h2 t1 t2) g1 g2
theorem law_call (H : LawOk) {w : World} {s : Shared} {name : Str} {params : Arguments} {body : List Stmt} {scope : Scope} {pm cd doc : Value} {a l : Addr} {o : Obj} {vs : List Value} {ns : List Int} {R : Result → Shared → Prop}
    {loose : List Str} {mean : ExcName → Option Value} {mg mb : Str → Option Value} {bm : Addr} {ob : Obj}
    (hb : stmtsAt (KL w) = body) (hs : scopeAt (KL w) = scope) (hname : name = Str.ofString "law") (hT : TabsAt tabs2 s.heap) (X : (hd.heap_39 w.params).In s.heap) (T : Top hd.view_39 loose mean mg mb s.heap) (M : BMod s.heap mainGlobals mg bm ob)
    (ho : s.heap.get? a = some o) (hdata : o.data = .func (Calls.docDef name params body scope pm cd doc)) (hcd : s.heap.CodeRec cd name)
    (hbind : bindArgs (Calls.docDef name params body scope pm cd doc) ⟨[.ref l], []⟩ = pure [(Str.ofString "script", .ref l)])
    (hcells : ∀ n, cellsFrom n scope.names [] = [(Str.ofString "places", n)]) (hloc : scope.names.lookup (Str.ofString "script") = some .local)
    (hk : scope.kind = .function) (hco : scope.isCoroutine = false) (hgen : scope.isGenerator = false)
    (hl : s.heap.IsList l vs.toArray) (hi : IntsAre vs ns) (hn : ns.length ≤ 63) (hg : s.gens = #[])
    (hq : ∀ s', OldK s.heap s'.heap → AllBare s'.gens → s'.os = s.os → R (.ok (.ret (.bool true))) s') : codeAny (MD w) callerA (.call (.ref a) ⟨[.ref l], []⟩) R s := by
  refine call_cellsN_ret (binds := [(Str.ofString "script", .ref l)]) (by rw [depth_caller]; decide) ho hdata T.nolimit hcd hbind ?_ ?_ (fun h₁ tk cells F N Y => ?_) hco hgen hk
  · intro x hx
    rw [List.mem_singleton.mp hx]; exact .inl hloc
  · rw [hcells]; simp
  have hen : envOfC name scope s.heap.objs.size a cd = lawEnv scope s.heap.objs.size a cd := by
    unfold envOfC; rw [hcells, hname]
  rw [hcells] at Y
  obtain ⟨oc, rfl, hoc⟩ := CellsAre.one Y
  have hkd : (envOfC name scope s.heap.objs.size a cd).kindOf (Str.ofString "script") = some .local := hloc
  refine enter_conv H hb hs hen hT X T M hk rfl F N ?_ ?_ hl hi hn hg hq
  · funext y
    simp only [bindL, hkd, fm]
    rfl
  · rw [hoc]
    simp only [bindC, hkd]
    rfl
theorem enter_law (H : LawOk) : PySem.Challenge.rw_kl0049_01.Holds := hd (by
  k_fill
  intro w s₀ s₁ mg mb G Y fa o pm cd doc dV kV ho hD hcd hD2 hmg hg args vals as hpre hlay hrd hwl hlo
  have KX := km_in_of Y
  have KT := km_tabs_of Y
  have hT := tabs_at KX KT
  clear Y
  have X := (Ground.X G).1
  have V := (Ground.X G).2
  refine Ground.open G ?_
  intro T B D TE TW
  try (refine guard_noD D (by decide +kernel) ?_; clear D)
  obtain ⟨bm, ob, M⟩ := bmod_of_top T
  wrow_args hpre hlay hrd hwl hlo
  refine enter_call ?_
  rename Heap.IsList _ _ _ => hL
  rename IntsAre _ _ => hI
  have he := Dflts.none hD2 rfl
  subst he
  have he := Dflts.noKw hD2
  subst he
  refine law_call H ?hb ?hs ?hn0 hT KX T M ho (fd_plain hD) hcd ?hbind ?hcells ?hloc ?hk ?hco ?hgen hL hI ?hn hg ?post
  case hb => kernel_rfl
  case hs => kernel_rfl
  case hn0 => rfl
  case hbind => rfl
  case hcells => intro n; rfl
  case hloc => rfl
  case hk => rfl
  case hco => rfl
  case hgen => rfl
  case hn => omega
  case post =>
    intro s' h1 h2 h3
    exact ⟨.inl ⟨.bool true, .bool true, [], rfl, raisesW_false (by wrow_none_raised), .bool true, postW_of (by wrow_shape) (by wtm_val) (by str_meet; first | done | w_fin), unshared_nil⟩, h1, h3, h2⟩)

/- G1 -/
/-- where each of the six chips lies -/
def posAt (pos : List Nat) (k : Nat) : Nat := pos.getD k 9
def hotP (pos : List Nat) (p : Nat) : Bool := (List.range 6).any fun i => (List.range 6).any fun j => decide (i < j) && (posAt pos i == p && posAt pos j == p)
def movedTo (pos : List Nat) (p i j : Nat) : List Nat := (pos.set i (p - 1)).set j (p + 1)
def moves (pos : List Nat) : List (List Nat) := (List.range 7).flatMap fun p => (List.range 6).flatMap fun i => (List.range 6).flatMap fun j =>
  if decide (i < j) && (posAt pos i == p && posAt pos j == p) then [movedTo pos p i j] else []
def okPos (pos : List Nat) : Bool := pos.length == 6 && (List.range 7).any (fun p => hotP pos p) && (List.range 7).all fun p => !hotP pos p || (decide (1 ≤ p) && decide (p ≤ 5))
def dedup : List (List Nat) → List (List Nat) → List (List Nat)
  | [], acc => acc
  | x :: r, acc => if acc.contains x then dedup r acc else dedup r (x :: acc)
def runs : Nat → List (List Nat) → Bool
  | 0, S => S.all fun x => x == [0, 1, 2, 4, 5, 6]
  | n + 1, S => S.all okPos && runs n (dedup (S.flatMap moves) [])
theorem runs_ok : runs 14 [[3, 3, 3, 3, 3, 3]] = true := by decide +kernel
theorem mem_dedup : ∀ (l acc : List (List Nat)) (x : List Nat), x ∈ l ∨ x ∈ acc → x ∈ dedup l acc
  | [], acc, x, h => by
    rcases h with h | h
    · cases h
    · exact h
  | y :: r, acc, x, h => by
    unfold dedup
    split
    · rename_i hc
      refine mem_dedup r acc x ?_
      rcases h with h | h
      · rcases List.mem_cons.mp h with rfl | h
        · exact .inr (by simpa using hc)
        · exact .inl h
      · exact .inr h
    · refine mem_dedup r _ x ?_
      rcases h with h | h
      · rcases List.mem_cons.mp h with rfl | h
        · exact .inr (.head _)
        · exact .inl h
      · exact .inr (.tail _ h)
/-- so many turns are left -/
def Reach (n : Nat) (pos : List Nat) : Prop := ∃ S, pos ∈ S ∧ runs n S = true
theorem reach_start : Reach 14 [3, 3, 3, 3, 3, 3] := ⟨_, .head _, runs_ok⟩
theorem reach_end {pos : List Nat} (h : Reach 0 pos) : pos = [0, 1, 2, 4, 5, 6] := by
  obtain ⟨S, h1, h2⟩ := h
  have := List.all_eq_true.mp h2 pos h1
  simpa using this
theorem reach_ok {n : Nat} {pos : List Nat} (h : Reach (n + 1) pos) : okPos pos = true := by
  obtain ⟨S, h1, h2⟩ := h
  have := (Bool.and_eq_true _ _ ▸ h2 : _ ∧ _).1
  exact List.all_eq_true.mp this pos h1
theorem reach_move {n : Nat} {pos pos' : List Nat} (h : Reach (n + 1) pos) (hm : pos' ∈ moves pos) : Reach n pos' := by
  obtain ⟨S, h1, h2⟩ := h
  have := (Bool.and_eq_true _ _ ▸ h2 : _ ∧ _).2
  exact ⟨_, mem_dedup _ _ _ (.inl (List.mem_flatMap.mpr ⟨pos, h1, hm⟩)), this⟩
theorem mem_moves {pos : List Nat} {p i j : Nat} (hp : p < 7) (hi : i < j) (hj : j < 6) (h1 : posAt pos i = p) (h2 : posAt pos j = p) : movedTo pos p i j ∈ moves pos := by
  unfold moves
  refine List.mem_flatMap.mpr ⟨p, List.mem_range.mpr hp, List.mem_flatMap.mpr ⟨i, List.mem_range.mpr (by omega), List.mem_flatMap.mpr ⟨j, List.mem_range.mpr hj, ?_⟩⟩⟩
  rw [if_pos (by simp [hi, h1, h2])]
  exact .head _
theorem hot_of {pos : List Nat} {p i j : Nat} (hi : i < j) (hj : j < 6) (h1 : posAt pos i = p) (h2 : posAt pos j = p) : hotP pos p = true := by
  unfold hotP
  refine List.any_eq_true.mpr ⟨i, List.mem_range.mpr (by omega), List.any_eq_true.mpr ⟨j, List.mem_range.mpr hj, by simp [hi, h1, h2]⟩⟩
theorem of_hot {pos : List Nat} {p : Nat} (h : hotP pos p = true) : ∃ i j, i < j ∧ j < 6 ∧ posAt pos i = p ∧ posAt pos j = p := by
  obtain ⟨i, _, h⟩ := List.any_eq_true.mp h
  obtain ⟨j, hj, h⟩ := List.any_eq_true.mp h
  simp at h
  exact ⟨i, j, h.1, List.mem_range.mp hj, h.2.1, h.2.2⟩
/-- the chips on each place, as numbers -/
def Cfg (cfg : Nat → List Nat) (pos : List Nat) : Prop := ∀ p, p < 7 → ∀ k, (cfg p).count k = if k < 6 ∧ posAt pos k = p then 1 else 0
theorem Cfg.mem {cfg : Nat → List Nat} {pos : List Nat} (C : Cfg cfg pos) {p k : Nat} (hp : p < 7) (h : k ∈ cfg p) : k < 6 ∧ posAt pos k = p := by
  have h1 := C p hp k
  have h2 := List.count_pos_iff.mpr h
  by_cases hc : k < 6 ∧ posAt pos k = p
  · exact hc
  · rw [if_neg hc] at h1; omega
theorem Cfg.nodup {cfg : Nat → List Nat} {pos : List Nat} (C : Cfg cfg pos) {p : Nat} (hp : p < 7) : (cfg p).Nodup := by
  rw [List.nodup_iff_count]
  intro k
  have h1 := C p hp k
  split at h1 <;> omega
theorem count_one {l : List Nat} {a : Nat} (h : ∀ k, l.count k = if k = a then 1 else 0) : l = [a] := by
  match l, h with
  | [], h => have := h a; simp at this
  | [b], h =>
    have := h b
    by_cases e : b = a
    · rw [e]
    · rw [if_neg e] at this; simp at this
  | b :: c :: r, h =>
    have hb := h b
    have hc := h c
    have hb' : b = a := by
      by_cases e : b = a
      · exact e
      · rw [if_neg e] at hb; simp at hb
    have hc' : c = a := by
      by_cases e : c = a
      · exact e
      · rw [if_neg e] at hc; simp [List.count_cons] at hc
    subst hb'
    rw [hc'] at hb
    simp [List.count_cons] at hb
theorem count_zero {l : List Nat} (h : ∀ k, l.count k = 0) : l = [] := by
  cases l with
  | nil => rfl
  | cons b r => have := h b; simp at this
def ended (p : Nat) : List Nat := if p < 3 then [p] else if p = 3 then [] else [p - 1]
theorem cfg_end {cfg : Nat → List Nat} (C : Cfg cfg [0, 1, 2, 4, 5, 6]) {p : Nat} (hp : p < 7) : cfg p = ended p := by
  have key : ∀ p, p < 7 → ∀ k, k < 6 → (posAt [0, 1, 2, 4, 5, 6] k = p ↔ (p ≠ 3 ∧ k = if p < 3 then p else p - 1)) := by decide
  have h := C p hp
  by_cases h3 : p = 3
  · subst h3
    refine count_zero fun k => ?_
    rw [h k, if_neg]
    rintro ⟨hk, e⟩
    exact ((key 3 hp k hk).mp e).1 rfl
  · have e : ended p = [if p < 3 then p else p - 1] := by
      unfold ended
      by_cases hl : p < 3
      · simp [hl]
      · simp [hl, h3]
    rw [e]
    refine count_one fun k => ?_
    rw [h k]
    by_cases hk : k < 6
    · by_cases e2 : k = if p < 3 then p else p - 1
      · rw [if_pos e2, if_pos ⟨hk, (key p hp k hk).mpr ⟨h3, e2⟩⟩]
      · rw [if_neg e2, if_neg]
        rintro ⟨_, e3⟩
        exact e2 ((key p hp k hk).mp e3).2
    · rw [if_neg (fun z => hk z.1), if_neg]
      intro e2
      apply hk
      split at e2 <;> omega
theorem cfg_hot {cfg : Nat → List Nat} {pos : List Nat} (C : Cfg cfg pos) {p : Nat} (hp : p < 7) : (1 < (cfg p).length) ↔ hotP pos p = true := by
  constructor
  · intro h
    have hn := C.nodup hp
    have m0 := C.mem hp (List.getElem_mem (show 0 < (cfg p).length by omega))
    have m1 := C.mem hp (List.getElem_mem h)
    have hne : (cfg p)[0] ≠ (cfg p)[1] := fun e => by
      have := List.pairwise_iff_getElem.mp hn 0 1 (by omega) h (by decide)
      exact this e
    by_cases hlt : (cfg p)[0] < (cfg p)[1]
    · exact hot_of hlt m1.1 m0.2 m1.2
    · exact hot_of (show (cfg p)[1] < (cfg p)[0] by omega) m0.1 m1.2 m0.2
  · intro h
    obtain ⟨i, j, hij, hj, h1, h2⟩ := of_hot h
    have ci := C p hp i
    have cj := C p hp j
    rw [if_pos ⟨by omega, h1⟩] at ci
    rw [if_pos ⟨hj, h2⟩] at cj
    have mi : i ∈ cfg p := List.count_pos_iff.mp (by omega)
    have mj : j ∈ cfg p := List.count_pos_iff.mp (by omega)
    match hl : cfg p, mi, mj with
    | [], mi, _ => cases mi
    | [x], mi, mj =>
      have a := List.mem_singleton.mp mi
      have b := List.mem_singleton.mp mj
      omega
    | x :: y :: r, _, _ => simp
def updC (cfg : Nat → List Nat) (i : Nat) (r : List Nat) : Nat → List Nat := fun j => if j = i then r else cfg j
theorem count_erase {l : List Nat} {n : Nat} (hn : n < l.length) (k : Nat) : (l.take n ++ l.drop (n + 1)).count k + (if l[n] = k then 1 else 0) = l.count k := by
  have e : l = l.take n ++ l[n] :: l.drop (n + 1) := by rw [List.getElem_cons_drop hn, List.take_append_drop]
  have e2 : l.count k = (l.take n ++ l[n] :: l.drop (n + 1)).count k := congrArg _ e
  rw [e2, List.count_append, List.count_append, List.count_cons]
  have : (if (l[n] == k) = true then 1 else 0) = if l[n] = k then 1 else 0 := by
    by_cases h : l[n] = k <;> simp [h]
  rw [this]; omega
/-- a list holds just these, each once -/
def Spot (l : List Nat) (S : Nat → Prop) : Prop := ∀ k, (S k → l.count k = 1) ∧ (¬ S k → l.count k = 0)
theorem Spot.congr {l : List Nat} {S S' : Nat → Prop} (h : Spot l S) (e : ∀ k, S' k ↔ S k) : Spot l S' := fun k => ⟨fun z => (h k).1 ((e k).mp z), fun z => (h k).2 fun y => z ((e k).mpr y)⟩
theorem Spot.less {l : List Nat} {S : Nat → Prop} (h : Spot l S) {n : Nat} (hn : n < l.length) : S l[n] ∧ Spot (l.take n ++ l.drop (n + 1)) fun k => S k ∧ k ≠ l[n] := by
  have hm := List.count_pos_iff.mpr (List.getElem_mem hn)
  have hS : S l[n] := Classical.byContradiction fun z => by rw [(h _).2 z] at hm; exact absurd hm (Nat.lt_irrefl 0)
  refine ⟨hS, fun k => ?_⟩
  have c := count_erase hn k
  by_cases e : l[n] = k
  · rw [if_pos e] at c
    have h1 := (h k).1 (e ▸ hS)
    exact ⟨fun z => absurd e.symm z.2, fun _ => by omega⟩
  · rw [if_neg e, Nat.add_zero] at c
    rw [c]
    exact ⟨fun z => (h k).1 z.1, fun z => (h k).2 fun y => z ⟨y, fun q => e q.symm⟩⟩
theorem Spot.more {l : List Nat} {S : Nat → Prop} (h : Spot l S) {a : Nat} (ha : ¬ S a) : Spot (l ++ [a]) fun k => S k ∨ k = a := fun k => by
  have e : List.count k [a] = if a = k then 1 else 0 := by
    rw [List.count_singleton]
    by_cases h : a = k <;> simp [h]
  rw [List.count_append, e]
  by_cases q : a = k
  · subst q
    rw [if_pos (Eq.refl a), (h a).2 ha]
    exact ⟨fun _ => rfl, fun z => absurd (.inr rfl) z⟩
  · rw [if_neg q, Nat.add_zero]
    exact ⟨fun z => z.elim (h k).1 fun y => absurd y.symm q, fun z => (h k).2 fun y => z (.inl y)⟩
theorem Cfg.spot {cfg : Nat → List Nat} {pos : List Nat} (C : Cfg cfg pos) {p : Nat} (hp : p < 7) : Spot (cfg p) fun k => k < 6 ∧ posAt pos k = p := fun k => by
  rw [C p hp k]
  exact ⟨fun z => if_pos z, fun z => if_neg z⟩
theorem Spot.cfg {cfg : Nat → List Nat} {pos : List Nat} (h : ∀ p, p < 7 → Spot (cfg p) fun k => k < 6 ∧ posAt pos k = p) : Cfg cfg pos := fun p hp k => by
  by_cases z : k < 6 ∧ posAt pos k = p
  · rw [if_pos z]; exact ((h p hp) k).1 z
  · rw [if_neg z]; exact ((h p hp) k).2 z
theorem pos_moved {pos : List Nat} (hl : pos.length = 6) {p lo hi : Nat} (h1 : lo < 6) (h2 : hi < 6) (k : Nat) : posAt (movedTo pos p lo hi) k = if k = hi then p + 1 else if k = lo then p - 1 else posAt pos k := by
  unfold movedTo posAt
  rw [List.getD_eq_getElem?_getD, List.getElem?_set, List.getElem?_set, List.length_set]
  by_cases e1 : hi = k
  · subst e1
    rw [if_pos (Eq.refl hi), if_pos (by rw [hl]; exact h2), if_pos (Eq.refl hi)]; rfl
  · rw [if_neg e1, if_neg (fun z : k = hi => e1 z.symm)]
    by_cases e2 : lo = k
    · subst e2
      rw [if_pos (Eq.refl lo), if_pos (by rw [hl]; exact h1), if_pos (Eq.refl lo)]; rfl
    · rw [if_neg e2, if_neg (fun z : k = lo => e2 z.symm), List.getD_eq_getElem?_getD]
/-- one place fired -/
theorem cfg_fire {cfg : Nat → List Nat} {pos : List Nat} (C : Cfg cfg pos) (hl : pos.length = 6) {p a b : Nat} (hp1 : 1 ≤ p) (hp : p ≤ 5) (ha : a < (cfg p).length) {r1 r2 : List Nat} (hr1 : r1 = (cfg p).take a ++ (cfg p).drop (a + 1)) (hb : b < r1.length) (hr2 : r2 = r1.take b ++ r1.drop (b + 1)) :
    (cfg p)[a] ≠ r1[b] ∧ (cfg p)[a] < 6 ∧ r1[b] < 6 ∧
    ∀ lo hi, lo < hi → (lo = (cfg p)[a] ∧ hi = r1[b] ∨ lo = r1[b] ∧ hi = (cfg p)[a]) →
      Cfg (updC (updC (updC cfg p r2) (p - 1) (cfg (p - 1) ++ [lo])) (p + 1) (cfg (p + 1) ++ [hi])) (movedTo pos p lo hi) ∧ movedTo pos p lo hi ∈ moves pos := by
  have hp7 : p < 7 := Nat.lt_of_le_of_lt hp (by decide)
  obtain ⟨hi1, s1⟩ := (C.spot hp7).less ha
  rw [← hr1] at s1
  obtain ⟨hj1, s2⟩ := s1.less hb
  rw [← hr2] at s2
  generalize (cfg p)[a] = i at *
  generalize r1[b] = j at *
  clear s1 hr1 hr2 ha hb r1
  refine ⟨fun e => hj1.2 e.symm, hi1.1, hj1.1.1, fun lo hi hlt hor => ?_⟩
  have hlo : lo < 6 ∧ posAt pos lo = p := by
    rcases hor with ⟨rfl, rfl⟩ | ⟨rfl, rfl⟩
    · exact hi1
    · exact hj1.1
  have hhi : hi < 6 ∧ posAt pos hi = p := by
    rcases hor with ⟨rfl, rfl⟩ | ⟨rfl, rfl⟩
    · exact hj1.1
    · exact hi1
  have s3 : Spot r2 fun k => (k < 6 ∧ posAt pos k = p) ∧ k ≠ hi ∧ k ≠ lo := by
    refine s2.congr fun k => ?_
    rcases hor with ⟨rfl, rfl⟩ | ⟨rfl, rfl⟩
    · exact ⟨fun z => ⟨⟨z.1, z.2.2⟩, z.2.1⟩, fun z => ⟨z.1.1, z.2, z.1.2⟩⟩
    · exact ⟨fun z => ⟨⟨z.1, z.2.1⟩, z.2.2⟩, fun z => ⟨z.1.1, z.1.2, z.2⟩⟩
  clear s2 hor hi1 hj1 i j
  refine ⟨Spot.cfg fun q hq => ?_, mem_moves hp7 hlt hhi.1 hlo.2 hhi.2⟩
  have pa := pos_moved hl (p := p) hlo.1 hhi.1
  have ne1 : p ≠ p + 1 := by omega
  have ne2 : p ≠ p - 1 := by omega
  have ne3 : p - 1 ≠ p + 1 := by omega
  have nlh : lo ≠ hi := Nat.ne_of_lt hlt
  unfold updC
  by_cases e1 : q = p + 1
  · rw [if_pos e1, e1]
    refine ((C.spot (e1 ▸ hq)).more (a := hi) (fun z => ne1 (hhi.2.symm.trans z.2))).congr fun k => ?_
    rw [pa]
    by_cases k1 : k = hi
    · rw [if_pos k1]; exact ⟨fun _ => .inr k1, fun _ => ⟨k1 ▸ hhi.1, rfl⟩⟩
    · rw [if_neg k1]
      by_cases k2 : k = lo
      · rw [if_pos k2]; exact ⟨fun z => absurd z.2 ne3, fun z => z.elim (fun y => absurd (hlo.2.symm.trans (k2 ▸ y.2)) ne1) fun y => absurd y k1⟩
      · rw [if_neg k2]; exact ⟨.inl, fun z => z.elim id fun y => absurd y k1⟩
  · rw [if_neg e1]
    by_cases e2 : q = p - 1
    · rw [if_pos e2, e2]
      refine ((C.spot (e2 ▸ hq)).more (a := lo) (fun z => ne2 (hlo.2.symm.trans z.2))).congr fun k => ?_
      rw [pa]
      by_cases k1 : k = hi
      · rw [if_pos k1]; exact ⟨fun z => absurd z.2.symm ne3, fun z => z.elim (fun y => absurd (hhi.2.symm.trans (k1 ▸ y.2)) ne2) fun y => absurd (y.symm.trans k1) nlh⟩
      · rw [if_neg k1]
        by_cases k2 : k = lo
        · rw [if_pos k2]; exact ⟨fun _ => .inr k2, fun _ => ⟨k2 ▸ hlo.1, rfl⟩⟩
        · rw [if_neg k2]; exact ⟨.inl, fun z => z.elim id fun y => absurd y k2⟩
    · rw [if_neg e2]
      by_cases e3 : q = p
      · rw [if_pos e3, e3]
        refine s3.congr fun k => ?_
        rw [pa]
        by_cases k1 : k = hi
        · rw [if_pos k1]; exact ⟨fun z => absurd z.2.symm ne1, fun z => absurd k1 z.2.1⟩
        · rw [if_neg k1]
          by_cases k2 : k = lo
          · rw [if_pos k2]; exact ⟨fun z => absurd z.2.symm ne2, fun z => absurd k2 z.2.2⟩
          · rw [if_neg k2]; exact ⟨fun z => ⟨z, k1, k2⟩, fun z => z.1⟩
      · rw [if_neg e3]
        refine (C.spot hq).congr fun k => ?_
        rw [pa]
        by_cases k1 : k = hi
        · rw [if_pos k1]; exact ⟨fun z => absurd z.2.symm e1, fun z => absurd (z.2.symm.trans (k1 ▸ hhi.2)) e3⟩
        · rw [if_neg k1]
          by_cases k2 : k = lo
          · rw [if_pos k2]; exact ⟨fun z => absurd z.2.symm e2, fun z => absurd (z.2.symm.trans (k2 ▸ hlo.2)) e3⟩
          · rw [if_neg k2]

/- G2 -/
abbrev scan (l : List Nat) : WS := wsScan l ws0
def flips : List Bool := [true, false]
theorem mem_flips (r : Bool) : r ∈ flips := by cases r <;> simp [flips]
theorem over {P : List Nat → Bool → Bool} (h : allLeads.all (fun ld => flips.all fun r => P ld r) = true) {ld : List Nat} (hl : ld ∈ allLeads) (r : Bool) : P ld r = true :=
  List.all_eq_true.mp (List.all_eq_true.mp h ld hl) r (mem_flips r)
theorem g_shown : allLeads.all (fun ld => flips.all fun r => (shown ld r).length == ld.length && (shown ld r).all fun c => c == 32 || c == 9) = true := by decide +kernel
theorem g_scan : allLeads.all (fun ld => flips.all fun r => (scan (shown ld r)).n == ld.length) = true := by decide +kernel
theorem g_less : allLeads.all (fun ld => flips.all fun r => (List.range ld.length).all fun i => flips.all fun r2 => wsLess (scan (shown (ld.take i) r2)) (scan (shown ld r))) = true := by decide +kernel
theorem g_ahead : allLeads.all (fun ld => flips.all fun r => wsLess (scan (shown ld r)) (scan (32 :: shown ld r)) == !(shown ld r).contains 9) = true := by decide +kernel
theorem g_cut : allLeads.all (fun ld => flips.all fun r => wsLess (scan (shown ld r)) (scan ((shown ld r).drop 1 ++ [32, 32])) == (!(shown ld r).contains 9 || (shown ld r).take 2 == [32, 9])) = true := by decide +kernel
theorem g_beyond : allLeads.all (fun ld => flips.all fun r => ld.length == 5 || [0, 1].all fun t => flips.all fun r2 => wsLess (scan (shown (nextLead ld t) r2)) (scan (shown ld r ++ [32, 32, 120])) == (t == 0)) = true := by decide +kernel

/- G3 -/
theorem scan_stop : ∀ (l : List Nat) (a : WS) (c : Nat) (r : List Nat), (∀ x ∈ l, x = 32 ∨ x = 9) → c ≠ 32 → c ≠ 9 → wsScan (l ++ c :: r) a = wsScan l a
  | [], a, c, r, _, h1, h2 => by
    show wsScan (c :: r) a = a
    rw [wsScan, if_neg h1, if_neg h2]
  | d :: l, a, c, r, h, h1, h2 => by
    have ih := fun a => scan_stop l a c r (fun x hx => h x (.tail _ hx)) h1 h2
    show wsScan (d :: (l ++ c :: r)) a = wsScan (d :: l) a
    rw [wsScan, wsScan, ih, ih]
theorem scan_b : ∀ (l : List Nat) (a : WS), (wsScan l a).b ≤ a.b + l.length
  | [], a => Nat.le_refl _
  | d :: l, a => by
    rw [wsScan]
    split
    · have := scan_b l ⟨a.count, a.b + 1, a.n + 1, a.nt⟩
      simp only [List.length_cons] at this ⊢; omega
    · split
      · have := scan_b l ⟨wsTab a.count a.b, 0, a.n + 1, a.nt + 1⟩
        simp only [List.length_cons] at this ⊢; omega
      · simp only [List.length_cons]; omega
theorem scan_len (l : List Nat) : (scan l).count.length ≤ l.length := by
  have := wsScan_len l ws0 0 (Nat.le_refl _) (Nat.le_refl _)
  simpa using this
theorem scan_bb (l : List Nat) : (scan l).b ≤ l.length := by
  have := scan_b l ws0
  rw [show ws0.b = 0 from rfl, Nat.zero_add] at this
  exact this
theorem shown_len {ld : List Nat} (h : ld ∈ allLeads) (r : Bool) : (shown ld r).length = ld.length := by
  have := over g_shown h r
  simp only [Bool.and_eq_true, beq_iff_eq] at this
  exact this.1
theorem shown_letters {ld : List Nat} (h : ld ∈ allLeads) (r : Bool) : ∀ c ∈ shown ld r, c = 32 ∨ c = 9 := by
  have := over g_shown h r
  simp only [Bool.and_eq_true] at this
  intro c hc
  have := List.all_eq_true.mp this.2 c hc
  simpa using this
section
variable {dn : List Nat} {i j k : Nat}
theorem shownAt_len (h : i < 6) : (shownAt dn i).length = i := by
  unfold shownAt
  rw [shown_len (leadAt_mem dn (by omega)), leadAt_len]
theorem shownAt_letters (h : i < 6) : ∀ c ∈ shownAt dn i, c = 32 ∨ c = 9 := shown_letters (leadAt_mem dn (by omega)) _
theorem leadAt_take (dn : List Nat) : ∀ (j i : Nat), i ≤ j → (leadAt dn j).take i = leadAt dn i
  | 0, i, h => by
    have : i = 0 := by omega
    subst this; rfl
  | j + 1, i, h => by
    by_cases e : i = j + 1
    · subst e
      exact List.take_of_length_le (by rw [leadAt_len]; exact Nat.le_refl _)
    · rw [← leadAt_take dn j i (by omega)]
      show (leadAt dn j ++ _).take i = _
      rw [List.take_append_of_le_length (by rw [leadAt_len]; omega)]
theorem less_up (hij : i < j) (hj : j < 6) : wsLess (scan (shownAt dn i)) (scan (shownAt dn j)) = true := by
  have h := over g_less (leadAt_mem dn (show j ≤ 5 by omega)) (decide (dn.getD j 0 / 2 % 2 = 1))
  have h2 := List.all_eq_true.mp (List.all_eq_true.mp h i (List.mem_range.mpr (by rw [leadAt_len]; exact hij))) (decide (dn.getD i 0 / 2 % 2 = 1)) (mem_flips _)
  rw [leadAt_take dn j i (by omega)] at h2
  exact h2
theorem scan_n (hj : j < 6) : (scan (shownAt dn j)).n = j := by
  have h := over g_scan (leadAt_mem dn (show j ≤ 5 by omega)) (decide (dn.getD j 0 / 2 % 2 = 1))
  rw [leadAt_len] at h
  exact beq_iff_eq.mp h
theorem less_down (hij : j ≤ i) (hi : i < 6) : wsLess (scan (shownAt dn i)) (scan (shownAt dn j)) = false := by
  unfold wsLess
  rw [if_pos]
  rw [scan_n hi, scan_n (by omega)]; exact hij
theorem less_ahead (hi : i < 6) : wsLess (scan (shownAt dn i)) (scan (32 :: shownAt dn i)) = !(shownAt dn i).contains 9 :=
  beq_iff_eq.mp (over g_ahead (leadAt_mem dn (show i ≤ 5 by omega)) (decide (dn.getD i 0 / 2 % 2 = 1)))
theorem less_cut (hi : i < 6) : wsLess (scan (shownAt dn i)) (scan ((shownAt dn i).drop 1 ++ [32, 32])) = (!(shownAt dn i).contains 9 || (shownAt dn i).take 2 == [32, 9]) :=
  beq_iff_eq.mp (over g_cut (leadAt_mem dn (show i ≤ 5 by omega)) (decide (dn.getD i 0 / 2 % 2 = 1)))
theorem less_beyond (hi : i < 5) : wsLess (scan (shownAt dn (i + 1))) (scan (shownAt dn i ++ [32, 32, 120])) = decide (dn.getD i 0 % 2 = 0) := by
  have h := over g_beyond (leadAt_mem dn (show i ≤ 5 by omega)) (decide (dn.getD i 0 / 2 % 2 = 1))
  rw [leadAt_len] at h
  have h5 : (i == 5) = false := by simp; omega
  rw [h5, Bool.false_or] at h
  have hm : dn.getD i 0 % 2 = 0 ∨ dn.getD i 0 % 2 = 1 := by omega
  have hz : dn.getD i 0 % 2 ∈ [0, 1] := by
    generalize dn.getD i 0 % 2 = z at hm
    rcases hm with rfl | rfl <;> simp
  have h2 := List.all_eq_true.mp (List.all_eq_true.mp h (dn.getD i 0 % 2) hz) (decide (dn.getD (i + 1) 0 / 2 % 2 = 1)) (mem_flips _)
  have e : nextLead (leadAt dn i) (dn.getD i 0 % 2) = leadAt dn (i + 1) := by
    show _ = nextLead (leadAt dn i) (dn.getD i 0)
    unfold nextLead
    rw [Nat.mod_mod]
  rw [e] at h2
  rw [show wsLess (scan (shownAt dn (i + 1))) (scan (shownAt dn i ++ [32, 32, 120])) = (dn.getD i 0 % 2 == 0) from beq_iff_eq.mp h2]
  generalize dn.getD i 0 % 2 = z at hm
  rcases hm with rfl | rfl <;> rfl
theorem sub_drop : ∀ (g : List Nat) (c : Nat) (r : List Nat) (j : Nat), (c :: r).Sublist g → g.findIdx? (· == c) = some j → r.Sublist (g.drop (j + 1))
  | [], c, r, j, h, _ => by cases h
  | d :: g, c, r, j, h, hf => by
    rw [List.findIdx?_cons] at hf
    by_cases e : d = c
    · subst e
      simp at hf
      subst hf
      show r.Sublist g
      cases h with
      | cons _ h' => exact (List.sublist_cons_self _ _).trans h'
      | cons_cons _ h' => exact h'
    · rw [if_neg (by simpa using e)] at hf
      cases hg : g.findIdx? (· == c) with
      | none => rw [hg] at hf; cases hf
      | some k =>
        rw [hg] at hf
        have ej : k + 1 = j := by simpa using hf
        subst ej
        show r.Sublist (g.drop (k + 1))
        cases h with
        | cons _ h' => exact sub_drop g c r k h' hg
        | cons_cons _ h' => exact absurd rfl e
/-- one word's letters, in order, in another -/
theorem subs_of_sub : ∀ (w g : List Nat), w.Sublist g → subs w g = true
  | [], g, _ => rfl
  | c :: r, g, h => by
    have hc : c ∈ g := h.mem (.head _)
    unfold subs
    cases hf : g.findIdx? (· == c) with
    | none =>
      rw [List.findIdx?_eq_none_iff] at hf
      exact absurd (hf c hc) (by simp)
    | some j =>
      show subs r (g.drop (j + 1)) = true
      refine subs_of_sub r _ ?_
      exact sub_drop g c r j h hf
theorem subs_len : ∀ (w g : List Nat), subs w g = true → w.length ≤ g.length
  | [], g, _ => Nat.zero_le _
  | c :: r, g, h => by
    unfold subs at h
    cases hf : g.findIdx? (· == c) with
    | none => rw [hf] at h; cases h
    | some j =>
      rw [hf] at h
      have ih := subs_len r _ h
      have hj := findIdx_lt hf
      rw [List.length_drop] at ih
      simp only [List.length_cons]; omega
theorem word_sub (dn : List Nat) : ∀ (j i : Nat), i ≤ j → (wordAt dn i).Sublist (wordAt dn j)
  | 0, i, h => by
    have : i = 0 := by omega
    subst this; exact List.Sublist.refl _
  | j + 1, i, h => by
    by_cases e : i = j + 1
    · subst e; exact List.Sublist.refl _
    · refine (word_sub dn j i (by omega)).trans ?_
      show (wordAt dn j).Sublist (nextWord (wordAt dn j) (dn.getD j 0))
      unfold nextWord
      generalize dn.getD j 0 / 8 % ((wordAt dn j).length + 1) = n
      conv => lhs; rw [← List.take_append_drop n (wordAt dn j)]
      exact List.Sublist.append (List.sublist_append_left _ _) (List.Sublist.refl _)
theorem subs_up (hij : i < j) : subs (wordAt dn i) (wordAt dn j) = true := subs_of_sub _ _ (word_sub dn j i (by omega))
theorem subs_down (hij : j < i) : subs (wordAt dn i) (wordAt dn j) = false := by
  cases h : subs (wordAt dn i) (wordAt dn j) with
  | false => rfl
  | true =>
    have := subs_len _ _ h
    rw [wordAt_len, wordAt_len] at this
    omega
/-- a row's text -/
def catL (ys : List Str) : List Nat := ys.flatMap fun y => y.cps.toList
def cat (ys : List Str) : Str := tx (catL ys)
theorem fold_cat : ∀ (ys : List Str) (acc : Array Nat), ys.foldl (fun acc p => acc ++ (("" : Str).cps) ++ p.cps) acc = acc ++ (catL ys).toArray
  | [], acc => by simp [catL]
  | y :: ys, acc => by
    have e : (("" : Str).cps) = #[] := by decide +kernel
    rw [List.foldl_cons, fold_cat ys, e]
    apply Array.toList_inj.mp
    simp [catL]
theorem join_cat (ys : List Str) : Txt.join "" ys = cat ys := by
  show Builtin.Str.glued "" ys = _
  cases ys with
  | nil => decide +kernel
  | cons y r =>
    show (⟨r.foldl (fun acc p => acc ++ (("" : Str).cps) ++ p.cps) y.cps⟩ : Str) = _
    rw [fold_cat]
    congr 1
    apply Array.toList_inj.mp
    simp [catL]
theorem cat_two (f g : Str) : cat [f, g] = f ++ g := by
  show (⟨(catL [f, g]).toArray⟩ : Str) = ⟨f.cps ++ g.cps⟩
  congr 1
  apply Array.toList_inj.mp
  simp [catL]
abbrev rowT (row : List Pair) : Str := cat (row.map fun q => q.f ++ q.g)
theorem rowT_join (row : List Pair) : Txt.join "" (row.map fun q => Txt.join "" [q.f, q.g]) = rowT row := by
  have e : row.map (fun q => Txt.join "" [q.f, q.g]) = row.map fun q => q.f ++ q.g := List.map_congr_left fun q _ => by rw [join_cat, cat_two]
  rw [e, join_cat]
theorem rowT_append (a b : List Pair) : rowT (a ++ b) = rowT a ++ rowT b := by
  show tx (catL _) = tx (catL _) ++ tx (catL _)
  rw [tx_append]
  simp [catL, List.map_append, List.flatMap_append]
theorem cat_len : ∀ (ys : List Str), (cat ys).length = (ys.map (·.length)).sum
  | [] => rfl
  | y :: r => by
    have ih := cat_len r
    show (catL (y :: r)).toArray.size = _
    have ih' : (catL r).toArray.size = (r.map (·.length)).sum := ih
    simp only [List.size_toArray] at ih' ⊢
    simp only [catL, List.flatMap_cons, List.length_append, List.map_cons, List.sum_cons] at ih' ⊢
    rw [ih']
    simp [Str.length]
theorem str_app_len (f g : Str) : (f ++ g).length = f.length + g.length := by
  show (f.cps ++ g.cps).size = _
  rw [Array.size_append]; rfl
theorem rowLen_eq : ∀ (row : List Pair), rowLen row = ((rowT row).length : Nat)
  | [] => rfl
  | q :: r => by
    have ih := rowLen_eq r
    have e1 : rowLen (q :: r) = ((q.f.length : Int) + q.g.length) + rowLen r := by simp [rowLen]
    have e2 : (rowT (q :: r)).length = (q.f.length + q.g.length) + (rowT r).length := by
      rw [cat_len, cat_len, List.map_cons, List.map_cons, List.sum_cons, str_app_len]
    rw [e1, ih, e2]; omega
/-- a row holds these chips, in this order -/
def RowC (dn : List Nat) (row : List Pair) (ks : List Nat) : Prop := row.map (fun q => (q.f, q.g)) = ks.map fun k => (tx (shownAt dn k), tx (wordAt dn k))
variable {row row' : List Pair} {ks ks' : List Nat}
theorem RowC.len (h : RowC dn row ks) : row.length = ks.length := by
  have := congrArg List.length h
  simpa using this
theorem RowC.append (h : RowC dn row ks) (h' : RowC dn row' ks') : RowC dn (row ++ row') (ks ++ ks') := by
  unfold RowC at *
  rw [List.map_append, List.map_append, h, h']
theorem RowC.take (h : RowC dn row ks) (n : Nat) : RowC dn (row.take n) (ks.take n) := by
  unfold RowC at *
  rw [List.map_take, List.map_take, h]
theorem RowC.drop (h : RowC dn row ks) (n : Nat) : RowC dn (row.drop n) (ks.drop n) := by
  unfold RowC at *
  rw [List.map_drop, List.map_drop, h]
theorem RowC.get (h : RowC dn row ks) {n : Nat} (h1 : n < row.length) (h2 : n < ks.length) : row[n].f = tx (shownAt dn ks[n]) ∧ row[n].g = tx (wordAt dn ks[n]) := by
  have e := congrArg (fun l => l[n]?) h
  simp only [List.getElem?_map, List.getElem?_eq_getElem h1, List.getElem?_eq_getElem h2, Option.map_some] at e
  have := Option.some.inj e
  exact ⟨congrArg Prod.fst this, congrArg Prod.snd this⟩
theorem RowC.mem (h : RowC dn row ks) {q : Pair} (hq : q ∈ row) : ∃ k ∈ ks, q.f = tx (shownAt dn k) ∧ q.g = tx (wordAt dn k) := by
  have : (q.f, q.g) ∈ row.map fun q => (q.f, q.g) := List.mem_map.mpr ⟨q, hq, rfl⟩
  rw [h] at this
  obtain ⟨k, hk, e⟩ := List.mem_map.mp this
  have := Prod.mk.inj e
  exact ⟨k, hk, this.1.symm, this.2.symm⟩
theorem tx_len (l : List Nat) : (tx l).length = l.length := by
  show l.toArray.size = _
  rw [List.size_toArray]
theorem RowC.small (h : RowC dn row ks) (hk : ∀ k ∈ ks, k < 6) {q : Pair} (hq : q ∈ row) : q.f.length + q.g.length ≤ 11 := by
  obtain ⟨k, h1, h2, h3⟩ := h.mem hq
  have := hk k h1
  rw [h2, h3, tx_len, tx_len, shownAt_len this, wordAt_len]; omega
theorem RowC.sum (h : RowC dn row ks) (hk : ∀ k ∈ ks, k < 6) : ((row.map fun q => q.f ++ q.g).map (·.length)).sum ≤ 11 * row.length := by
  rw [List.map_map]
  have : ∀ (l : List Pair), (∀ q ∈ l, q.f.length + q.g.length ≤ 11) → (l.map ((·.length) ∘ fun q : Pair => q.f ++ q.g)).sum ≤ 11 * l.length := by
    intro l
    induction l with
    | nil => intro _; simp
    | cons q r ih =>
      intro hh
      have h1 := hh q (.head _)
      have h2 := ih fun z hz => hh z (.tail _ hz)
      rw [List.map_cons, List.sum_cons, List.length_cons]
      have h3 : ((·.length) ∘ fun q : Pair => q.f ++ q.g) q = q.f.length + q.g.length := str_app_len _ _
      omega
  exact this row fun q hq => h.small hk hq

end
/- L0 -/
section
variable {w : World} {A : Around} {E : Value → Shared → Prop} {s : Shared} {L a l : Addr} {cd : Value} {h h₀ : Heap} {news nw : List (Addr × Obj)} {b : List Stmt} {sc : Scope} {env : Env} {P : Params} {xs dxs : Nat → Addr} {rows : Nat → List Pair}
theorem news_ne {u v : Addr × Obj} (N : News h₀ L h nw) (hp : u ∈ nw) (hq : v ∈ nw) (h : u.2 ≠ v.2) : u.1 ≠ v.1 := fun e => h (by
  have a := (N u hp).1; have b := (N v hq).1
  rw [e, b] at a; exact (Option.some.inj a).symm)
structure Board (P : Params) (nw : List (Addr × Obj)) (xs dxs : Nat → Addr) (rows : Nat → List Pair) : Prop where
  inj : ∀ i j, i < 7 → j < 7 → xs i = xs j → i = j
  acc : ∀ i, i < 7 → ∃ n, (xs i, accObj (dxs i) (rowArr (rows i)) n) ∈ nw
  ini : ∀ i, i < 7 → ∃ t tk, (dxs i, iniObj P t (i : Int) tk) ∈ nw
  prs : ∀ i, i < 7 → ∀ q ∈ rows i, (q.a, q.obj) ∈ nw
def updRow (rows : Nat → List Pair) (i : Nat) (r : List Pair) : Nat → List Pair := fun j => if j = i then r else rows j
theorem Board.sub (B : Board P nw xs dxs rows) (h : ∀ p ∈ nw, p ∈ news) : Board P news xs dxs rows :=
  ⟨B.inj, fun i hi => let ⟨n, z⟩ := B.acc i hi; ⟨n, h _ z⟩, fun i hi => let ⟨t, tk, z⟩ := B.ini i hi; ⟨t, tk, h _ z⟩, fun i hi q hq => h _ (B.prs i hi q hq)⟩
theorem Board.put {i n' : Nat} {r : List Pair} (N : News h₀ L h nw) (B : Board P nw xs dxs rows) (hi : i < 7) (hr : ∀ q ∈ r, (q.a, q.obj) ∈ nw) : Board P (put (xs i) (accObj (dxs i) (rowArr r) n') nw) xs dxs (updRow rows i r) := by
  obtain ⟨n, hx⟩ := B.acc i hi
  have ap : ∀ q : Pair, (q.a, q.obj) ∈ nw → q.a ≠ xs i := fun q hq => news_ne N hq hx (by intro e; have e2 := congrArg Obj.cls e; exact absurd e2 (by simp))
  refine ⟨B.inj, fun j hj => ?_, fun j hj => ?_, fun j hj q hq => ?_⟩
  · by_cases e : j = i
    · subst e
      refine ⟨n', ?_⟩
      simp only [updRow, if_true]
      exact put_here hx
    · obtain ⟨m, hm⟩ := B.acc j hj
      refine ⟨m, ?_⟩
      simp only [updRow, if_neg e]
      exact put_mem hm (fun z => e (B.inj j i hj hi z))
  · obtain ⟨t, tk, hm⟩ := B.ini j hj
    exact ⟨t, tk, put_mem hm (news_ne N hm hx (by intro e; have e2 := congrArg Obj.cls e; exact absurd e2 (by simp)))⟩
  · by_cases e : j = i
    · subst e
      simp only [updRow, if_true] at hq
      exact put_mem (hr q hq) (ap q (hr q hq))
    · simp only [updRow, if_neg e] at hq
      exact put_mem (B.prs j hj q hq) (ap q (B.prs j hj q hq))
theorem Board.tab {d : Addr} {op op' : Obj} (N : News h₀ L h nw) (B : Board P nw xs dxs rows) (hd : (d, op) ∈ nw) (ht : TabObj op) : Board P (Mine.put d op' nw) xs dxs rows := by
  obtain ⟨ps, rfl, _⟩ := ht
  refine ⟨B.inj, fun j hj => ?_, fun j hj => ?_, fun j hj q hq => ?_⟩
  · obtain ⟨m, hm⟩ := B.acc j hj
    exact ⟨m, put_mem hm (news_ne N hm hd (by intro e; have e2 := congrArg Obj.cls e; exact absurd e2 (by simp)))⟩
  · obtain ⟨t, tk, hm⟩ := B.ini j hj
    exact ⟨t, tk, put_mem hm (news_ne N hm hd (by intro e; have e2 := congrArg Obj.cls e; exact absurd e2 (by simp)))⟩
  · exact put_mem (B.prs j hj q hq) (news_ne N (B.prs j hj q hq) hd (by intro e; have e2 := congrArg Obj.cls e; exact absurd e2 (by simp)))
end
/- L2 -/
theorem warmL2 : PySem.Challenge.rw_kl0049_01.row.prog = PySem.Challenge.rw_kl0049_01.row.prog ∧ hd.heap_39 = hd.heap_39 := by
  k_fill
  exact ⟨rfl, rfl⟩
/-- a loop's own object: an iterator, or a short list -/
def Loose (o : Obj) : Prop := (∃ T vs, o.cls = .type T ∧ o.data = .fields vs) ∨ (∃ vs, LstOb vs o ∧ vs.length ≤ 2)
/-- neither an accumulator nor a table -/
def Calm (o : Obj) : Prop := (∀ dx it n, o ≠ accObj dx it n) ∧ (∀ ps, o ≠ tabObj ps)
theorem Calm.of_cls {o : Obj} {T : String} (h : o.cls = .type T) : Calm o := ⟨fun dx it n e => (by rw [e] at h; cases h), fun ps e => (by rw [e] at h; cases h)⟩
theorem lst_firm {o : Obj} {vs : List Value} (h : LstOb vs o) (hl : 2 < vs.length) : ¬ Loose o := by
  rintro (⟨T, ws, _, h2⟩ | ⟨ws, ⟨_, n, h2⟩, h3⟩)
  · refine hide fun P9 hP9 => ?_
    obtain ⟨_, n, hd⟩ := h
    refine hP9 ?_
    rw [hd] at h2; cases h2
  · refine hide fun P9 hP9 => ?_
    obtain ⟨_, m, hd⟩ := h
    refine hP9 ?_
    rw [hd] at h2
    injection h2 with e1 e2
    have := congrArg Array.size e1
    simp at this
    omega
theorem dict_firm {o : Obj} {es : Array DictEntry} {n : Nat} (h : o.data = .dict es n) : ¬ Loose o := by
  rintro (⟨T, ws, _, h2⟩ | ⟨ws, ⟨_, n, h2⟩, h3⟩) <;> · rw [h] at h2; cases h2
theorem plain_firm {o : Obj} (h : o.data = .plain) : ¬ Loose o := by
  rintro (⟨T, ws, _, h2⟩ | ⟨ws, ⟨_, n, h2⟩, h3⟩) <;> · rw [h] at h2; cases h2
theorem cell_firm {o : Obj} {v : Option Value} (h : o.data = .cell v) : ¬ Loose o := by
  rintro (⟨T, ws, _, h2⟩ | ⟨ws, ⟨_, n, h2⟩, h3⟩) <;> · rw [h] at h2; cases h2
theorem tup_firm {o : Obj} {xs : Array Value} {n : Nat} (h : o.data = .seq xs n) (hc : o.cls = .type "tuple") : ¬ Loose o := by
  rintro (⟨T, ws, _, h2⟩ | ⟨ws, ⟨h1, n, h2⟩, h3⟩)
  · rw [h] at h2; cases h2
  · rw [hc] at h1; injection h1 with h1; exact absurd h1 (by decide)
theorem acc_firm {dx : Addr} {items : Array Value} {n : Nat} : ¬ Loose (accObj dx items n) := by
  rintro (⟨T, ws, h1, h2⟩ | ⟨ws, ⟨h1, n, h2⟩, h3⟩)
  · cases h1
  · cases h1
theorem tab_firm {ps : Array Value} : ¬ Loose (tabObj ps) := by
  rintro (⟨T, ws, h1, h2⟩ | ⟨ws, ⟨h1, n, h2⟩, h3⟩)
  · cases h1
  · cases h1
theorem cell_calm {o : Obj} {v : Option Value} (h : o.data = .cell v) : Calm o := ⟨fun dx it n e => (by rw [e] at h; cases h), fun ps e => (by rw [e] at h; cases h)⟩
theorem inst_calm {dx : Addr} : Calm (instObj 83 dx) := ⟨fun d it n e => by have := congrArg Obj.cls e; simp at this, fun ps e => by have := congrArg Obj.cls e; simp at this⟩
/-- an object that neither a loop nor a call on the board turns -/
def Still (o : Obj) : Prop := ¬ Loose o ∧ Calm o
theorem lst_still {o : Obj} {vs : List Value} (h : LstOb vs o) (hl : 2 < vs.length) : Still o := ⟨lst_firm h hl, .of_cls h.1⟩
theorem ws_still {news nw : List (Addr × Obj)} {x : Addr} {a : WS} (W : WsObj news x a) (h : ∀ p ∈ news, Still p.2 → p ∈ nw) : WsObj nw x a := by
  refine hide fun P9 hP9 => ?_
  obtain ⟨dx, es, n, tt, tc, tb, vs, tn, tnt, h1, h2, h3, h4, h5, h6, h7, h8, h9, h10, h11, h12⟩ := W
  refine hP9 ?_
  exact ⟨dx, es, n, tt, tc, tb, vs, tn, tnt, h _ h1 ⟨plain_firm rfl, inst_calm⟩, h _ h2 ⟨dict_firm rfl, .of_cls rfl⟩, h _ h3 ⟨tup_firm rfl rfl, .of_cls rfl⟩, h _ h4 ⟨tup_firm rfl rfl, .of_cls rfl⟩, h5, h6, h7, h8, h9, h10, h11, h12⟩

/-- where the law's own things lie -/
structure Pl where
  pl : Addr
  ld : Addr
  lc : Addr
  dl : Addr
  xs : Nat → Addr
  dxs : Nat → Addr
  wx : Nat → Addr
  ch : List Pair
  k : Nat
/-- the leads so far, each with its Whitespace -/
def leadKvs (dn : List Nat) (k : Nat) (wx : Nat → Addr) : List (Str × Value) := (List.range k).map fun j => (tx (shownAt dn j), Value.ref (wx j))
/-- what never turns once it is made -/
structure Fix (w : World) (L : Addr) (dn : List Nat) (p : Pl) (nw : List (Addr × Obj)) : Prop where
  cell : ∃ oc, (L + 1, oc) ∈ nw ∧ oc.data = .cell (some (.ref p.pl))
  plc : ∃ o, (p.pl, o) ∈ nw ∧ LstOb ((List.range 7).map fun i => Value.ref (p.xs i)) o
  drw : ∃ vs o, (p.ld, o) ∈ nw ∧ LstOb vs o ∧ IntsAre vs (dn.map Int.ofNat)
  chp : ∃ n, (p.lc, lstObj (p.ch.map fun q => Value.ref q.a) n) ∈ nw
  chs : ∀ q ∈ p.ch, (q.a, q.obj) ∈ nw
  row : RowIs dn 6 p.ch
  dct : ∃ o, (p.dl, o) ∈ nw ∧ o.IsDictOf (PySem.strKind PySem.Challenge.rw_kl0049_01.row.prog w) (leadKvs dn p.k p.wx)
  wss : ∀ i, i < p.k → WsObj nw (p.wx i) (wsScan (shownAt dn i) ws0)
  k6 : p.k ≤ 6
  dlen : dn.length = 14
section
variable {w : World} {A : Around} {E : Value → Shared → Prop} {s : Shared} {L a l : Addr} {cd : Value} {h h₀ : Heap} {news nw nw' : List (Addr × Obj)} {dn : List Nat} {p : Pl} {rows : Nat → List Pair}
theorem Fix.len (X : Fix w L dn p nw) : p.ch.length = 6 := by
  have := congrArg List.length X.row
  simpa using this
theorem Fix.up (X : Fix w L dn p nw) (h : ∀ q ∈ nw, Still q.2 → q ∈ nw') : Fix w L dn p nw' where
  cell := by
    refine hide fun P9 hP9 => ?_
    obtain ⟨oc, h1, h2⟩ := X.cell
    refine hP9 ?_
    exact ⟨oc, h _ h1 ⟨cell_firm h2, cell_calm h2⟩, h2⟩
  plc := by
    refine hide fun P9 hP9 => ?_
    obtain ⟨o, h1, h2⟩ := X.plc
    refine hP9 ?_
    exact ⟨o, h _ h1 (lst_still h2 (by simp)), h2⟩
  drw := by
    refine hide fun P9 hP9 => ?_
    obtain ⟨vs, o, h1, h2, h3⟩ := X.drw
    refine hP9 ?_
    exact ⟨vs, o, h _ h1 (lst_still h2 (by rw [h3.length, List.length_map, X.dlen]; decide)), h2, h3⟩
  chp := by
    obtain ⟨n, h1⟩ := X.chp
    exact ⟨n, h _ h1 (lst_still ⟨rfl, n, rfl⟩ (by rw [List.length_map, X.len]; decide))⟩
  chs := fun q hq => h _ (X.chs q hq) ⟨tup_firm rfl rfl, .of_cls rfl⟩
  row := X.row
  dct := by
    refine hide fun P9 hP9 => ?_
    obtain ⟨o, h1, h2⟩ := X.dct
    refine hP9 ?_
    refine hide fun P9 hP9 => ?_
    obtain ⟨es, ep, hx, hd, _⟩ := id h2
    refine hP9 ?_
    exact ⟨o, h _ h1 ⟨dict_firm hd, .of_cls hx.1⟩, h2⟩
  wss := fun i hi => ws_still (X.wss i hi) h
  k6 := X.k6
  dlen := X.dlen
/-- all that stands while the game goes on -/
structure All (w : World) (L : Addr) (dn : List Nat) (p : Pl) (rows : Nat → List Pair) (nw : List (Addr × Obj)) : Prop where
  fix : Fix w L dn p nw
  brd : Board w.params nw p.xs p.dxs rows
  t1 : ∃ op, (136, op) ∈ nw ∧ TabObj op
  t2 : ∃ op, (143, op) ∈ nw ∧ TabObj op
theorem All.up (X : All w L dn p rows nw) (h : ∀ q ∈ nw, ¬ Loose q.2 → q ∈ nw') : All w L dn p rows nw' where
  fix := X.fix.up fun q hq hs => h q hq hs.1
  brd := ⟨X.brd.inj, fun i hi => let ⟨n, z⟩ := X.brd.acc i hi; ⟨n, h _ z acc_firm⟩, fun i hi => let ⟨t, tk, z⟩ := X.brd.ini i hi; ⟨t, tk, h _ z (dict_firm rfl)⟩, fun i hi q hq => h _ (X.brd.prs i hi q hq) (tup_firm rfl rfl)⟩
  t1 := let ⟨op, h1, h2⟩ := X.t1; ⟨op, h _ h1 (by obtain ⟨ps, rfl, _⟩ := h2; exact tab_firm), h2⟩
  t2 := let ⟨op, h1, h2⟩ := X.t2; ⟨op, h _ h1 (by obtain ⟨ps, rfl, _⟩ := h2; exact tab_firm), h2⟩
theorem All.sub (X : All w L dn p rows nw) (h : ∀ q ∈ nw, q ∈ nw') : All w L dn p rows nw' := X.up fun q hq _ => h q hq
theorem All.loose {d : Addr} {od o' : Obj} (N : News h₀ L h nw) (X : All w L dn p rows nw) (hd : (d, od) ∈ nw) (ho : Loose od) : All w L dn p rows (put d o' nw) :=
  X.up fun q hq hf => put_mem hq (news_ne N hq hd (fun e => hf (by rw [e]; exact ho)))
def drp (d : Addr) (nw : List (Addr × Obj)) : List (Addr × Obj) := nw.filter fun q => q.1 != d
theorem drp_mem {d : Addr} {q : Addr × Obj} (h : q ∈ nw) (hn : q.1 ≠ d) : q ∈ drp d nw := List.mem_filter.mpr ⟨h, by simpa using hn⟩
theorem drp_of {d : Addr} {q : Addr × Obj} (h : q ∈ drp d nw) : q ∈ nw ∧ q.1 ≠ d := let ⟨a, b⟩ := List.mem_filter.mp h; ⟨a, by simpa using b⟩
theorem All.drop {d : Addr} {od : Obj} (N : News h₀ L h nw) (X : All w L dn p rows nw) (hd : (d, od) ∈ nw) (ho : Loose od) : All w L dn p rows (drp d nw) :=
  X.up fun q hq hf => drp_mem hq (news_ne N hq hd (fun e => hf (by rw [e]; exact ho)))
/-- what a call on the board leaves as it was -/
def Keep (nw nw' : List (Addr × Obj)) : Prop := ∀ q ∈ nw, Calm q.2 → q ∈ nw'
theorem Keep.rfl : Keep nw nw := fun _ h _ => h
theorem Keep.trans {n1 n2 n3 : List (Addr × Obj)} (x : Keep n1 n2) (y : Keep n2 n3) : Keep n1 n3 := fun q h c => y q (x q h c) c
theorem keep_acc {x dx : Addr} {items : Array Value} {n : Nat} {o' : Obj} (N : News h₀ L h nw) (hx : (x, accObj dx items n) ∈ nw) : Keep nw (put x o' nw) := fun q hq hc =>
  put_mem hq (news_ne N hq hx fun e => hc.1 _ _ _ e)
theorem keep_tab {d : Addr} {op o' : Obj} (N : News h₀ L h nw) (hx : (d, op) ∈ nw) (ht : TabObj op) : Keep nw (put d o' nw) := fun q hq hc =>
  put_mem hq (news_ne N hq hx fun e => by obtain ⟨ps, rfl, _⟩ := ht; exact hc.2 _ e)
theorem Keep.cons {q : Addr × Obj} (x : Keep nw nw') : Keep nw (q :: nw') := fun z h c => .tail _ (x z h c)
theorem acc_ne_tab {x dx d : Addr} {items : Array Value} {n : Nat} {op : Obj} (N : News h₀ L h nw) (hx : (x, accObj dx items n) ∈ nw) (hd : (d, op) ∈ nw) (ht : TabObj op) : d ≠ x :=
  news_ne N hd hx fun e => by
    refine hide fun P9 hP9 => ?_
    obtain ⟨ps, rfl, _⟩ := ht
    refine hP9 ?_
    have := congrArg Obj.cls e
    simp at this
theorem All.acc {i n' : Nat} {r : List Pair} (N : News h₀ L h nw) (X : All w L dn p rows nw) (hi : i < 7) (hr : ∀ q ∈ r, (q.a, q.obj) ∈ nw) : All w L dn p (updRow rows i r) (put (p.xs i) (accObj (p.dxs i) (rowArr r) n') nw) := by
  obtain ⟨n, hx⟩ := X.brd.acc i hi
  refine ⟨X.fix.up fun q hq hs => keep_acc N hx q hq hs.2, X.brd.put N hi hr, ?_, ?_⟩
  · refine hide fun P9 hP9 => ?_
    obtain ⟨op, h1, h2⟩ := X.t1
    refine hP9 ?_
    exact ⟨op, put_mem h1 (acc_ne_tab N hx h1 h2), h2⟩
  · refine hide fun P9 hP9 => ?_
    obtain ⟨op, h1, h2⟩ := X.t2
    refine hP9 ?_
    exact ⟨op, put_mem h1 (acc_ne_tab N hx h1 h2), h2⟩
theorem All.acc' {i : Nat} {r : List Pair} (N : News h₀ L h nw) (X : All w L dn p rows nw) (hi : i < 7) (h1 : ∃ n', (p.xs i, accObj (p.dxs i) (rowArr r) n') ∈ nw') (h2 : ∀ z ∈ nw, z.1 ≠ p.xs i → z ∈ nw') (h3 : ∀ q ∈ r, (q.a, q.obj) ∈ nw') : All w L dn p (updRow rows i r) nw' := by
  obtain ⟨n, hx⟩ := X.brd.acc i hi
  have k : ∀ z ∈ nw, Calm z.2 → z ∈ nw' := fun z hz hc => h2 z hz (news_ne N hz hx fun e => hc.1 _ _ _ e)
  refine ⟨X.fix.up fun q hq hs => k q hq hs.2, ⟨X.brd.inj, fun j hj => ?_, fun j hj => ?_, fun j hj q hq => ?_⟩, ?_, ?_⟩
  · by_cases e : j = i
    · subst e
      obtain ⟨n', h1⟩ := h1
      exact ⟨n', by simpa only [updRow, if_true] using h1⟩
    · obtain ⟨m, hm⟩ := X.brd.acc j hj
      refine ⟨m, ?_⟩
      simp only [updRow, if_neg e]
      exact h2 _ hm (fun z => e (X.brd.inj j i hj hi z))
  · refine hide fun P9 hP9 => ?_
    obtain ⟨t, tk, hm⟩ := X.brd.ini j hj
    refine hP9 ?_
    exact ⟨t, tk, k _ hm (.of_cls rfl)⟩
  · by_cases e : j = i
    · subst e
      simp only [updRow, if_true] at hq
      exact h3 q hq
    · simp only [updRow, if_neg e] at hq
      exact k _ (X.brd.prs j hj q hq) (.of_cls rfl)
  · refine hide fun P9 hP9 => ?_
    obtain ⟨op, h1, h2'⟩ := X.t1
    refine hP9 ?_
    exact ⟨op, h2 _ h1 (acc_ne_tab N hx h1 h2'), h2'⟩
  · refine hide fun P9 hP9 => ?_
    obtain ⟨op, h1, h2'⟩ := X.t2
    refine hP9 ?_
    exact ⟨op, h2 _ h1 (acc_ne_tab N hx h1 h2'), h2'⟩
theorem All.tab1 {op op' : Obj} (N : News h₀ L h nw) (X : All w L dn p rows nw) (hd : (136, op) ∈ nw) (ht : TabObj op) (ht' : TabObj op') : All w L dn p rows (put 136 op' nw) := by
  refine ⟨X.fix.up fun q hq hs => keep_tab N hd ht q hq hs.2, X.brd.tab N hd ht, ⟨op', put_here hd, ht'⟩, ?_⟩
  refine hide fun P9 hP9 => ?_
  obtain ⟨o2, h1, h2⟩ := X.t2
  refine hP9 ?_
  exact ⟨o2, put_mem h1 (fun e => by cases e), h2⟩
theorem All.tab2 {op op' : Obj} (N : News h₀ L h nw) (X : All w L dn p rows nw) (hd : (143, op) ∈ nw) (ht : TabObj op) (ht' : TabObj op') : All w L dn p rows (put 143 op' nw) := by
  refine ⟨X.fix.up fun q hq hs => keep_tab N hd ht q hq hs.2, X.brd.tab N hd ht, ?_, ⟨op', put_here hd, ht'⟩⟩
  refine hide fun P9 hP9 => ?_
  obtain ⟨o2, h1, h2⟩ := X.t1
  refine hP9 ?_
  exact ⟨o2, put_mem h1 (fun e => by cases e), h2⟩
end
/- L3 -/
section
variable {w : World} {A : Around} {E : Value → Shared → Prop} {s : Shared} {L a l x : Addr} {cd : Value} {h h₀ : Heap} {news nw nw' : List (Addr × Obj)} {dn : List Nat} {p : Pl} {rows : Nat → List Pair} {m : Str → Option Value} {i : Nat} {sc : Scope}
  {Q : Value → Shared → Prop}
/-- an item of a list, whatever it is -/
theorem list_item {value slice : Expr} {vs : List Value} {o : Obj} {k : Int} {j : Nat} {t : Tok} {v : Value} (N : News h₀ L s.heap nw) (hl : (l, o) ∈ nw) (ho : LstOb vs o) (hk : k = j) (hj : j < 2 ^ 62) (hx : vs[j]? = some v) (h : Q v s)
    (hs : subscripted slice false (.ref l) (.int k t) = operate [.ref l, .int k t] (getItem (.ref l) (.int k t)) := by with_unfolding_all rfl) :
    wpAny (MD w) A (subscriptTail value slice (.ref l) (.int k t)) Q E s := by
  subst hk
  exact _root_.PyProof.Rows.tail_any (ho.is N hl).typeIs slot_list_getitem.lookup (wpAny_getItem_list (ho.is N hl) (Int.natCast_nonneg _) (by omega) (by simpa using hx) h) hs
theorem tup_item {value slice : Expr} {vs : List Value} {n : Nat} {k : Int} {j : Nat} {t : Tok} {v : Value} (N : News h₀ L s.heap nw) (hl : (l, ({ cls := .type "tuple", data := .seq vs.toArray n } : Obj)) ∈ nw) (hk : k = j) (hj : j < 2 ^ 62) (hx : vs[j]? = some v) (h : Q v s)
    (hs : subscripted slice false (.ref l) (.int k t) = operate [.ref l, .int k t] (getItem (.ref l) (.int k t)) := by with_unfolding_all rfl) :
    wpAny (MD w) A (subscriptTail value slice (.ref l) (.int k t)) Q E s := by
  subst hk
  have T : IsTup s.heap l vs.toArray := ⟨_, (N _ hl).1, rfl, n, rfl⟩
  have hlt : j < vs.length := by
    rcases Nat.lt_or_ge j vs.length with z | z
    · exact z
    · rw [List.getElem?_eq_none z] at hx; cases hx
  refine item_tupleT (j := j) T (by omega) (by omega) ?_ hx h hs
  unfold seqIndex?
  have h0 : ¬ ((j : Int) < 0) := by omega
  simp [hlt, h0]
theorem place_at (N : News h₀ L s.heap nw) (B : All w L dn p rows nw) {value slice : Expr} {k : Int} {t : Tok} (hi : i < 7) (hk : k = i) (h : Q (.ref (p.xs i)) s)
    (hs : subscripted slice false (.ref p.pl) (.int k t) = operate [.ref p.pl, .int k t] (getItem (.ref p.pl) (.int k t)) := by with_unfolding_all rfl) :
    wpAny (MD w) A (subscriptTail value slice (.ref p.pl) (.int k t)) Q E s := by
  obtain ⟨o, h1, h2⟩ := B.fix.plc
  exact list_item N h1 h2 hk (by omega) (by simp [hi]) h hs
/-- the name `places`, kept in a cell -/
theorem at_places {pos : Pos} (N : News h₀ L s.heap nw) (B : All w L dn p rows nw) (h : Q (.ref p.pl) s)
    (hk : sc.kind = .function := by rfl) (hx : (lawEnv sc L a cd).kindOf "places" = some .cell := by rfl) :
    wpAny (MD w) A (eval (.Name "places" pos) (lawEnv sc L a cd)) Q E s := by
  obtain ⟨oc, h1, h2⟩ := B.fix.cell
  exact nameX_C N (by rfl) h1 h2 h hk hx
theorem k_count (G : At w A L h₀) (F : Fr h₀ L s.heap m) (N : News h₀ L s.heap nw) (B : All w L dn p rows nw) (hi : i < 7) (hroom : A.depth < recursionLimit)
    (h : ∀ h' t tk, Fr h₀ L h' m → News h₀ L h' nw → Q (.int (rows i).length t) { s with heap := h', toks := tk }) :
    wpAny (MD w) A (call (.ref 171) [.ref (p.xs i)]) Q E s := by
  obtain ⟨n, hx⟩ := B.brd.acc i hi
  obtain ⟨t, tk, hd⟩ := B.brd.ini i hi
  refine part_count_ok G F N hx hd hroom fun h' t tk F' N' => ?_
  have := h h' t tk F' N'
  simpa using this
theorem k_method {name : Str} {f : Addr} {pl : Sem Bool} {Q : Value × List Value → Shared → Prop} (G : At w A L h₀) (F : Fr h₀ L s.heap m) (N : News h₀ L s.heap nw) (B : All w L dn p rows nw) (hi : i < 7)
    (ho : ∀ k t tk, lookIn name (iniObj w.params t k tk) = some none) (hf : findIn (hd.heap_39 w.params) (.ref 174) name = some (some (.ref f))) (ht : typeIn (hd.heap_39 w.params) (.ref f) = some (.type "function"))
    (h : Q (.ref f, [.ref (p.xs i)]) s) : wpAny (MD w) A (getMethod (.ref (p.xs i)) name pl) Q E s := by
  obtain ⟨n, hx⟩ := B.brd.acc i hi
  obtain ⟨t, tk, hd⟩ := B.brd.ini i hi
  exact acc_method G.kin F N hx hd (ho _ _ _) hf ht h
theorem k_push {f g : Str} {tf tg : Tok} (G : At w A L h₀) (F : Fr h₀ L s.heap m) (N : News h₀ L s.heap nw) (B : All w L dn p rows nw) (hi : i < 7) (hroom : A.depth < recursionLimit) (hlen : (rows i).length ≤ 100)
    (h : ∀ a h' nw' tk, Fr h₀ L h' m → News h₀ L h' nw' → All w L dn p (updRow rows i (rows i ++ [⟨a, f, tf, g, tg⟩])) nw' → Keep nw nw' → Q .none { s with heap := h', toks := tk }) :
    wpAny (MD w) A (call (.ref 118) [.ref (p.xs i), .str f tf, .str g tg]) Q E s := by
  obtain ⟨n, hx⟩ := B.brd.acc i hi
  obtain ⟨t, tk, hd⟩ := B.brd.ini i hi
  refine push_ok G F N hx hd (by rfl) hroom (by rw [sizeLine_eq]; simp; omega) fun q h' tk F' N' lt => ?_
  have hq : q ≠ p.xs i := Ne.symm (Nat.ne_of_lt (lt _ hx))
  refine h q h' _ tk F' N' (B.acc' N hi ⟨n + 1, ?_⟩ (fun z hz hn => .tail _ (put_mem hz hn)) fun z hz => ?_) (Keep.cons (keep_acc N hx))
  · have e : rowArr (rows i ++ [⟨q, f, tf, g, tg⟩]) = (rowArr (rows i)).push (.ref q) := by simp [rowArr]
    rw [e]
    exact .tail _ (put_here hx)
  · rcases List.mem_append.mp hz with hz | hz
    · exact .tail _ (put_mem (B.brd.prs i hi z hz) (news_ne N (B.brd.prs i hi z hz) hx fun e => by have := congrArg Obj.cls e; simp at this))
    · rw [List.mem_singleton.mp hz]; exact .head _
theorem k_pop_from {k : Nat} {tk : Tok} (G : At w A L h₀) (F : Fr h₀ L s.heap m) (N : News h₀ L s.heap nw) (B : All w L dn p rows nw) (hi : i < 7) (hroom : A.depth < recursionLimit) (hlen : (rows i).length ≤ 100) (hk : k ≤ (rows i).length)
    (h : ∀ b n' h' nw' tk, Fr h₀ L h' m → News h₀ L h' nw' → All w L dn p (updRow rows i ((rows i).take k)) nw' → Keep nw nw' → (∀ q ∈ nw, q.1 < b) → (b, lstObj (((rows i).drop k).map fun q => Value.ref q.a) n') ∈ nw' → (∀ q ∈ rows i, (q.a, q.obj) ∈ nw') → Q (.ref b) { s with heap := h', toks := tk }) :
    wpAny (MD w) A (call (.ref 126) [.ref (p.xs i), .int k tk]) Q E s := by
  obtain ⟨n, hx⟩ := B.brd.acc i hi
  refine pop_from_ok G F N hx hroom (by simpa using hk) (by rw [sizeLine_eq]; simp; omega) fun b n' h' tk F' N' lt => ?_
  have e1 : (rowArr (rows i)).toList.drop k = ((rows i).drop k).map fun q => Value.ref q.a := by simp [rowArr, List.map_drop]
  have e2 : (rowArr (rows i)).extract 0 k = rowArr ((rows i).take k) := by simp [rowArr, List.map_take]
  rw [e1, e2] at N'
  have B1 := B.acc (n' := n') N hi (r := (rows i).take k) fun q hq => B.brd.prs i hi q (List.mem_of_mem_take hq)
  refine h b 0 h' _ tk F' N' (B1.sub fun z hz => .tail _ hz) (Keep.cons (keep_acc N hx)) lt (.head _) fun q hq => ?_
  exact Keep.cons (keep_acc N hx) _ (B.brd.prs i hi q hq) (.of_cls rfl)
theorem k_str (G : At w A L h₀) (F : Fr h₀ L s.heap m) (N : News h₀ L s.heap nw) (B : All w L dn p rows nw) (hi : i < 7) (hg : AllBare s.gens) (hroom : A.depth + 1 < recursionLimit) (hu : A.units + 2 < cLine) (hlen : (rows i).length ≤ 100) (hw : ∀ q ∈ rows i, q.f.length + q.g.length ≤ 1000) (hok : JoinOk "" ((rows i).map fun q => Txt.join "" [q.f, q.g]) = true)
    (h : ∀ h' g' d' k' nw' t, Fr h₀ L h' m → News h₀ L h' nw' → All w L dn p rows nw' → Keep nw nw' → AllBare g' → Q (.str (Txt.join "" ((rows i).map fun q => Txt.join "" [q.f, q.g])) t) ⟨h', g', d', k', s.os⟩) :
    wpAny (MD w) A (call (.type "str") [.ref (p.xs i)]) Q E s := by
  obtain ⟨n, hx⟩ := B.brd.acc i hi
  obtain ⟨t, tk, hd⟩ := B.brd.ini i hi
  obtain ⟨op, h1, h2⟩ := B.t2
  exact str_ok G F N hx hd (B.brd.prs i hi) hg h1 h2 hroom hu (by rw [sizeLine_eq]; omega) hw hok fun s' op' t ht' F' N' hg' hos => (by
    obtain ⟨h', g', d', k', o'⟩ := s'
    have e : o' = s.os := hos
    subst e
    exact h h' g' d' k' _ t F' N' (B.tab2 N h1 h2 ht') (keep_tab N h1 h2) hg')
theorem k_len (G : At w A L h₀) (F : Fr h₀ L s.heap m) (N : News h₀ L s.heap nw) (B : All w L dn p rows nw) (hi : i < 7) (hg : AllBare s.gens) (hroom : A.depth + 1 < recursionLimit) (hw : ∀ q ∈ rows i, q.f.length + q.g.length ≤ 1000) (hb : 0 ≤ (i : Int) + rowLen (rows i) ∧ (i : Int) + rowLen (rows i) < 2 ^ 63)
    (h : ∀ h' g' d' k' nw' t, Fr h₀ L h' m → News h₀ L h' nw' → All w L dn p rows nw' → Keep nw nw' → AllBare g' → Q (.int (i + rowLen (rows i)) t) ⟨h', g', d', k', s.os⟩) :
    wpAny (MD w) A (call (.builtin "len") [.ref (p.xs i)]) Q E s := by
  obtain ⟨n, hx⟩ := B.brd.acc i hi
  obtain ⟨t, tk, hd⟩ := B.brd.ini i hi
  obtain ⟨op, h1, h2⟩ := B.t1
  exact len_ok G F N hx hd (B.brd.prs i hi) hg h1 h2 hroom hw hb fun s' op' t ht' F' N' hg' hos => (by
    obtain ⟨h', g', d', k', o'⟩ := s'
    have e : o' = s.os := hos
    subst e
    exact h h' g' d' k' _ t F' N' (B.tab1 N h1 h2 ht') (keep_tab N h1 h2) hg')
theorem k_pop {q : Pair} (G : At w A L h₀) (F : Fr h₀ L s.heap m) (N : News h₀ L s.heap nw) (B : All w L dn p rows nw) (hi : i < 7) (hroom : A.depth + 1 < recursionLimit) (hr : rows i = [q])
    (h : ∀ h' nw' tk, Fr h₀ L h' m → News h₀ L h' nw' → All w L dn p (updRow rows i []) nw' → Keep nw nw' → Q (.ref q.a) { s with heap := h', toks := tk }) :
    wpAny (MD w) A (call (.ref 134) [.ref (p.xs i)]) Q E s := by
  obtain ⟨n, hx⟩ := B.brd.acc i hi
  obtain ⟨t, tk, hd⟩ := B.brd.ini i hi
  rw [hr] at hx
  refine pop_ok G F N hx hd (by rfl) hroom fun h' n' tk F' N' => ?_
  exact h h' _ tk F' N' (B.acc N hi (r := []) fun _ hq => nomatch hq) (keep_acc N hx)
theorem pop_none {x dx : Addr} {n : Nat} {oD : Obj} (G : At w A L h₀) (F : Fr h₀ L s.heap m) (N : News h₀ L s.heap news) (hx : (x, accObj dx #[] n) ∈ news) (hD : (dx, oD) ∈ news) (ho : lookIn (Str.ofString "part_count") oD = some none)
    (hroom : A.depth + 1 < recursionLimit)
    (h : ∀ b t1 t2 h' tk, Fr h₀ L h' m → News h₀ L h' ((b, ({ cls := .type "tuple", data := .seq #[.str "" t1, .str "" t2] } : Obj)) :: news) → Q (.ref b) { s with heap := h', toks := tk }) :
    wpAny (MD w) A (call (.ref 134) [.ref x]) Q E s := by
  refine G.callS (binds := [(Str.ofString "self", .ref x)]) F N (by k_is) (by k_is) (Nat.lt_of_succ_lt hroom) (BindsTo.of_eq rfl) (locs rfl) (by decide) rfl rfl rfl (fun g L' h₁ E' G' F' N' lt => ?_)
  repeat walk_at "sa"
  refine wpAt_of_wpAny ?_
  repeat walk_at "n"
  refine acc_method (f := 171) G'.kin F' N' hx hD ho (by k_is) (by k_is) ?_
  refine callWith_K0 (G'.kin.keeps F'.keep) (by k_is) ?_
  refine part_count_ok G' F' N' hx hD hroom (fun h₂ t₂ tk₂ F₂ N₂ => ?_)
  repeat walk_at "n"
  refine eq_int ?_
  repeat walk_at "n"
  rw [if_pos (show ((((#[] : Array Value).size : Nat) : Int) == 0) = true from rfl)]
  refine wpAt_of_wpAny ?_
  repeat walk_at "n"
  refine new_tuple F₂ N₂ (fun b h₃ F₃ N₃ lt₃ => ?_)
  repeat walk_at "n"
  exact ⟨_, _, _, F₃, N₃, fun Fz Nz => h b _ _ h₃ _ Fz Nz⟩
theorem k_pop0 (G : At w A L h₀) (F : Fr h₀ L s.heap m) (N : News h₀ L s.heap nw) (B : All w L dn p rows nw) (hi : i < 7) (hroom : A.depth + 1 < recursionLimit) (hr : rows i = [])
    (h : ∀ b t1 t2 h' tk, Fr h₀ L h' m → News h₀ L h' ((b, ({ cls := .type "tuple", data := .seq #[.str "" t1, .str "" t2] } : Obj)) :: nw) → Q (.ref b) { s with heap := h', toks := tk }) :
    wpAny (MD w) A (call (.ref 134) [.ref (p.xs i)]) Q E s := by
  obtain ⟨n, hx⟩ := B.brd.acc i hi
  obtain ⟨t, tk, hd⟩ := B.brd.ini i hi
  rw [hr] at hx
  exact pop_none G F N hx hd (by rfl) hroom h
end
/- L4 -/
section
variable {w : World} {A : Around} {E : Value → Shared → Prop} {s : Shared} {L a l I : Addr} {cd : Value} {h h' h₀ : Heap} {news nw nw' : List (Addr × Obj)} {b : List Stmt} {sc : Scope} {m : Str → Option Value} {o o' ol : Obj} {env : Env}
theorem ext_drp (F : Fr h₀ L h m) (N : News h₀ L h nw) (hI : (I, o) ∈ nw) (hs : Heap.ExtBut I h h') : Fr h₀ L h' m ∧ News h₀ L h' (drp I nw) := by
  have NI := N _ hI
  obtain ⟨oL, es, ep, hL, r⟩ := F.ns
  exact ⟨⟨⟨oL, es, ep, hs _ _ (Ne.symm NI.2.1) hL, r⟩, fun b x e => hs b x (fun z => by have := NI.2.2; rw [← z, e] at this; cases this) (F.keep b x e), F.above⟩,
    fun p hp => ⟨hs _ _ (drp_of hp).2 (N p (drp_of hp).1).1, (N p (drp_of hp).1).2⟩⟩
theorem next_rangeP {y left step : Int} {Q : Option Value → Shared → Prop} (F : Fr h₀ L s.heap m) (N : News h₀ L s.heap nw) (hI : (I, rIt y left step) ∈ nw) (hl : 0 < left)
    (h : ∀ h' u, Fr h₀ L h' m → News h₀ L h' (put I (rIt (y + step) (left - 1) step) nw) → Q (some (.int y u)) { s with heap := h', toks := s.toks + 1 }) : wpAny (MD w) A (pyNext (.ref I)) Q E s := by
  refine wpAny_pyNext_range_item (N _ hI).1 hl fun h' hit hs => ?_
  obtain ⟨F', N'⟩ := same_put F N hI hs hit
  exact h h' _ F' N'
theorem end_rangeP {y left step : Int} {Q : Option Value → Shared → Prop} (hh : A.handled = none) (F : Fr h₀ L s.heap m) (N : News h₀ L s.heap nw) (hI : (I, rIt y left step) ∈ nw) (hl : left ≤ 0)
    (h : ∀ h', Fr h₀ L h' m → News h₀ L h' (drp I nw) → Q none { s with heap := h' }) : wpAny (MD w) A (pyNext (.ref I)) Q E s := by
  refine wpAny_pyNext_range_end hh (N _ hI).1 hl fun h' hs => ?_
  obtain ⟨F', N'⟩ := ext_drp F N hI hs
  exact h h' F' N'
theorem next_seqP {i : Nat} {vs : List Value} {y : Value} {Q : Option Value → Shared → Prop} (F : Fr h₀ L s.heap m) (N : News h₀ L s.heap nw) (hI : (I, o) ∈ nw) (ho : LIt l i o) (hl : (l, ol) ∈ nw) (hol : LstOb vs ol) (hx : vs[i]? = some y)
    (h : ∀ h' o', LIt l (i + 1) o' → Fr h₀ L h' m → News h₀ L h' (put I o' nw) → Q (some y) { s with heap := h' }) : wpAny (MD w) A (pyNext (.ref I)) Q E s := by
  obtain ⟨nl, hd⟩ := hol.2
  refine seq_item (items := vs.toArray) ⟨o, (N _ hI).1, ho.1, ho.2⟩ ⟨ol, nl, (N _ hl).1, hd⟩ (by simpa using hx) fun h' hit hs => ?_
  obtain ⟨o', h1, h2, h3⟩ := hit
  obtain ⟨F', N'⟩ := same_put F N hI hs h1
  exact h h' o' ⟨h2, h3⟩ F' N'
theorem end_seqP {i : Nat} {vs : List Value} {Q : Option Value → Shared → Prop} (hh : A.handled = none) (F : Fr h₀ L s.heap m) (N : News h₀ L s.heap nw) (hI : (I, o) ∈ nw) (ho : LIt l i o) (hl : (l, ol) ∈ nw) (hol : LstOb vs ol) (hx : vs.length ≤ i)
    (h : ∀ h', Fr h₀ L h' m → News h₀ L h' (drp I nw) → Q none { s with heap := h' }) : wpAny (MD w) A (pyNext (.ref I)) Q E s := by
  obtain ⟨nl, hd⟩ := hol.2
  refine seq_end (items := vs.toArray) hh ⟨o, (N _ hI).1, ho.1, ho.2⟩ ⟨ol, nl, (N _ hl).1, hd⟩ (by simpa using hx) fun h' hs => ?_
  obtain ⟨F', N'⟩ := ext_drp F N hI hs
  exact h h' F' N'
theorem rit_loose {y left step : Int} : Loose (rIt y left step) := .inl ⟨_, _, rfl, rfl⟩
theorem lit_loose {i : Nat} (h : LIt l i o) : Loose o := .inl ⟨_, _, h.1, h.2⟩
theorem rit_calm {y left step : Int} : Calm (rIt y left step) := .of_cls rfl
/-- a for loop over range(n), its iterator somewhere in the ledger -/
theorem for_range {y : Str} {py : Pos} {body : List Stmt} {Q : Flow → Shared → Prop} {n : Nat} (J : Nat → Shared → (Str → Option Value) → List (Addr × Obj) → Prop) (hh : A.handled = none)
    (step : ∀ i t m' nw' h' tk o', i < n → J i t m' nw' → News h₀ L t.heap nw' → (I, rIt (i : Nat) ((n - i : Nat) : Int) 1) ∈ nw' → J i { t with heap := h', toks := tk } m' (put I o' nw'))
    (turn : ∀ i t m' nw' u E' (R : Flow → Shared → Prop), (∀ s₃ m'' nw'', J (i + 1) s₃ m'' nw'' → Fr h₀ L s₃.heap m'' → News h₀ L s₃.heap nw'' → (I, rIt ((i + 1 : Nat) : Int) ((n - (i + 1) : Nat) : Int) 1) ∈ nw'' → R .next s₃) →
      i < n → J i t m' nw' → Fr h₀ L t.heap m' → News h₀ L t.heap nw' → (I, rIt ((i + 1 : Nat) : Int) ((n - (i + 1) : Nat) : Int) 1) ∈ nw' →
      wpAny (MD w) A (assign (.Name y py) env (.int (i : Nat) u)) (fun _ s₂ => wpAny (MD w) A (execs body env) R E' s₂) E' t)
    (F : Fr h₀ L s.heap m) (N : News h₀ L s.heap nw) (hI : (I, rIt 0 (n : Nat) 1) ∈ nw) (h0 : J 0 s m nw)
    (after : ∀ t m' nw' h', J n t m' nw' → News h₀ L t.heap nw' → (I, rIt (n : Nat) ((n - n : Nat) : Int) 1) ∈ nw' → Fr h₀ L h' m' → News h₀ L h' (drp I nw') → Q .next { t with heap := h' }) :
    codeAny (MD w) A (.forLoop (.Name y py) (.ref I) body [] env) (fun r s' => match r with | .ok f => Q f s' | .error e => cameBackBy (MD w) A env E e s') s := by
  refine for_then (fun f s' => Q f s') n (fun i t => ∃ m' nw', J i t m' nw' ∧ Fr h₀ L t.heap m' ∧ News h₀ L t.heap nw' ∧ (I, rIt (i : Nat) ((n - i : Nat) : Int) 1) ∈ nw') (fun i t E' R hR1 hR2 hR3 hi hJ => ?_) (fun t E' R hR0 hJ => ?_) ⟨m, nw, h0, F, N, by simpa using hI⟩ (fun f s' z => z)
  · obtain ⟨m', nw', hJ, F', N', hI'⟩ := hJ
    refine next_rangeP F' N' hI' (by omega) fun h₁ u F₁ N₁ => ⟨_, rfl, go_name ?_⟩
    have e1 : ((i : Nat) : Int) + 1 = ((i + 1 : Nat) : Int) := by omega
    have e2 : ((n - i : Nat) : Int) - 1 = ((n - (i + 1) : Nat) : Int) := by omega
    rw [e1, e2] at N₁
    exact turn i { t with heap := h₁, toks := t.toks + 1 } m' _ u E' R (fun s₃ m'' nw'' j1 j2 j3 j4 => hR1 s₃ ⟨m'', nw'', j1, j2, j3, j4⟩) hi (step i t m' nw' h₁ _ _ hi hJ N' hI') F₁ N₁ (put_here hI')
  · obtain ⟨m', nw', hJ, F', N', hI'⟩ := hJ
    exact end_rangeP hh F' N' hI' (by omega) fun h₁ F₁ N₁ => ⟨rfl, hR0 _ (after t m' nw' h₁ hJ N' hI' F₁ N₁)⟩
/-- a for loop over a list of the call's own -/
theorem for_list {target : Expr} {body : List Stmt} {Q : Flow → Shared → Prop} {vs : List Value} (J : Nat → Shared → (Str → Option Value) → List (Addr × Obj) → Prop) (hh : A.handled = none) (hol : LstOb vs ol)
    (step : ∀ i t m' nw' h' tk o o', i < vs.length → J i t m' nw' → News h₀ L t.heap nw' → (I, o) ∈ nw' → LIt l i o → J i { t with heap := h', toks := tk } m' (put I o' nw'))
    (turn : ∀ i t m' nw' v o E' (R : Flow → Shared → Prop), (∀ s₃ m'' nw'', J (i + 1) s₃ m'' nw'' → Fr h₀ L s₃.heap m'' → News h₀ L s₃.heap nw'' → (I, o) ∈ nw'' → (l, ol) ∈ nw'' → R .next s₃) →
      vs[i]? = some v → J i t m' nw' → Fr h₀ L t.heap m' → News h₀ L t.heap nw' → (I, o) ∈ nw' → LIt l (i + 1) o → (l, ol) ∈ nw' →
      wpAny (MD w) A (assign target env v) (fun _ s₂ => wpAny (MD w) A (execs body env) R E' s₂) E' t)
    (F : Fr h₀ L s.heap m) (N : News h₀ L s.heap nw) (hI : (I, o) ∈ nw) (hI0 : LIt l 0 o) (hl : (l, ol) ∈ nw) (h0 : J 0 s m nw)
    (after : ∀ t m' nw' h' o, J vs.length t m' nw' → News h₀ L t.heap nw' → (I, o) ∈ nw' → LIt l vs.length o → Fr h₀ L h' m' → News h₀ L h' (drp I nw') → Q .next { t with heap := h' }) :
    codeAny (MD w) A (.forLoop target (.ref I) body [] env) (fun r s' => match r with | .ok f => Q f s' | .error e => cameBackBy (MD w) A env E e s') s := by
  refine for_then (fun f s' => Q f s') vs.length (fun i t => ∃ m' nw' o, J i t m' nw' ∧ Fr h₀ L t.heap m' ∧ News h₀ L t.heap nw' ∧ (I, o) ∈ nw' ∧ LIt l i o ∧ (l, ol) ∈ nw') (fun i t E' R hR1 hR2 hR3 hi hJ => ?_) (fun t E' R hR0 hJ => ?_) ⟨m, nw, o, h0, F, N, hI, hI0, hl⟩ (fun f s' z => z)
  · obtain ⟨m', nw', o, hJ, F', N', hI', hit, hl'⟩ := hJ
    have hne : l ≠ I := news_ne N' hl' hI' (fun e => by
      have e' : ol = o := e
      have := hit.1
      rw [← e', hol.1] at this
      injection this with this
      exact absurd this (by decide))
    refine next_seqP F' N' hI' hit hl' hol (List.getElem?_eq_getElem hi) fun h₁ o₁ ho₁ F₁ N₁ => ⟨_, rfl, letgo_list (N₁ _ (put_here hI')).1 ho₁ ?_⟩
    exact turn i { t with heap := h₁ } m' _ _ o₁ E' R (fun s₃ m'' nw'' j1 j2 j3 j4 j5 => hR1 s₃ ⟨m'', nw'', o₁, j1, j2, j3, j4, ho₁, j5⟩) (List.getElem?_eq_getElem hi) (step i t m' nw' h₁ _ o o₁ hi hJ N' hI' hit) F₁ N₁ (put_here hI') ho₁ (put_mem hl' hne)
  · obtain ⟨m', nw', o, hJ, F', N', hI', hit, hl'⟩ := hJ
    exact end_seqP hh F' N' hI' hit hl' hol (Nat.le_refl _) fun h₁ F₁ N₁ => ⟨rfl, hR0 _ (after t m' nw' h₁ o hJ N' hI' hit F₁ N₁)⟩
end
/- L5 -/
section
variable {w : World} {A : Around} {E : Value → Shared → Prop} {s : Shared} {L a l : Addr} {cd : Value} {h₀ : Heap} {news : List (Addr × Obj)} {b : List Stmt} {sc : Scope} {m : Str → Option Value}
inductive DrawJ (s : Shared) (ld : Addr) (news : List (Addr × Obj)) (l : Addr) (i0 : Nat) (t : Shared) (m' : Str → Option Value) (nw : List (Addr × Obj)) : Prop
  | mk (e : ∃ hp tk, t = { s with heap := hp, toks := tk }) (hb : ∀ q ∈ news, q ∈ nw) (h1 : m' "drawn" = some (.ref ld)) (h2 : m' "script" = some (.ref l)) (o : Obj) (dvs : List Value) (dn : List Nat) (hl : (ld, o) ∈ nw) (ho : LstOb dvs o) (hd : IntsAre dvs (dn.map Int.ofNat)) (h14 : dn.length = 14)
theorem law_draw {vs : List Value} {ns : List Int} {Q : Flow → Shared → Prop} (hb : (stmtsAt (KL w)).take 2 = b) (hs : scopeAt (KL w) = sc)
    (G : At w A L h₀) (F : Fr h₀ L s.heap (fm [(Str.ofString "script", .ref l)])) (N : News h₀ L s.heap news) (hl : h₀.IsList l vs.toArray) (hi : IntsAre vs ns) (hn : ns.length ≤ 63)
    (h : ∀ (ld : Addr) (o : Obj) (dvs : List Value) (dn : List Nat) m' nw h' tk, Fr h₀ L h' m' → News h₀ L h' nw → (∀ q ∈ news, q ∈ nw) → (ld, o) ∈ nw → LstOb dvs o → IntsAre dvs (dn.map Int.ofNat) → dn.length = 14 → m' "drawn" = some (.ref ld) → Q .next { s with heap := h', toks := tk }) :
    wpAny (MD w) A (execs b (lawEnv sc L a cd)) Q E s := by
  refine seg_start (fun l => l.take 2) (by k_is) hb hs ?_
  dsimp only [List.take, stmtsAt, scopeAt]
  repeat walk_at "n"
  refine new_list F N (fun ld h₁ F₁ N₁ lt₁ => ?_)
  repeat walk_at "n"
  rename_i h₂ F₂ N₂
  refine wpAny_For ?_ (fun _ => rfl)
  repeat walk_at "n"
  refine G.nameB F₂ (by k_is) (by boot_fast) (by decide) ?_
  refine Pv.callWith_type1 ?_
  repeat walk_at "n"
  refine G.nameB F₂ (by k_is) (by boot_fast) (by decide) ?_
  repeat walk_at "n"
  have hvl : vs.length = ns.length := hi.length
  have hl₂ : h₂.IsList l vs.toArray := hl.at fun o e => F₂.keep _ _ e
  refine call_len_list hl₂ (by simp; omega) ?_
  repeat walk_at "n"
  refine _root_.PySem.call_range_1 ?_
  refine iter_range (IsRange.new _ _ _ _ _ _ _) ?_ (F₂.push _) (fun p hp => N₂.push F₂ _ rfl p (.tail _ hp)) (fun I h₃ F₃ N₃ lt₃ => ?_)
  · simpa using range_small 0 vs.length (by omega) (by omega)
  have hrs : Builtin.Range.rangeSize (0 : Int) (vs.toArray.size : Int) 1 = ((vs.length : Nat) : Int) := by
    simpa using range_size 0 vs.length
  rw [hrs] at N₃
  have hIld : ld ≠ I := Nat.ne_of_lt (lt₃ _ (.head _))
  have hldn : ∀ q ∈ news, q.1 ≠ ld := fun q hq => Nat.ne_of_lt (lt₁ q hq)
  have hIn : ∀ q ∈ news, q.1 ≠ I := fun q hq => Nat.ne_of_lt (lt₃ q (.tail _ hq))
  refine for_range (n := vs.length) (DrawJ s ld news l) G.calm (fun i t m' nw' h' tk o' hi' hJ N' hI => ?_) (fun i t m' nw' u E' R hR1 hi' hJ F' N' hI => ?_) F₃ N₃ (.head _) ?_ (fun t m' nw' h' hJ N' hI F' Nd => ?_)
  · refine hide fun P9 hP9 => ?_
    obtain ⟨⟨hp, tk', rfl⟩, hsub, h1, h2, o, dvs, dn, h3, h4, h5, h6⟩ := hJ
    refine hP9 ?_
    exact ⟨⟨_, _, rfl⟩, fun q hq => put_mem (hsub q hq) (hIn q hq), h1, h2, o, dvs, dn, put_mem h3 hIld, h4, h5, h6⟩
  · refine hide fun P9 hP9 => ?_
    obtain ⟨⟨hp, tk', rfl⟩, hsub, h1, h2, o, dvs, dn, h3, h4, h5, h6⟩ := hJ
    refine hP9 ?_
    refine _root_.PyProof.Rows.assign_Name ?_
    repeat walk_at "n"
    rename_i h₄ F₄ N₄
    refine wpAny_AugAssign_Subscript_any ?_
    repeat walk_at "n"
    refine _root_.PyProof.Rows.mod_int (by decide) ?_
    rw [show ((i : Nat) : Int).fmod 14 = ((i : Nat) : Int).fmod (14 : Nat) from rfl, fm2]
    have h14 : i % 14 < 14 := Nat.mod_lt _ (by decide)
    refine getItem_intsK (h4.is N₄ h3) h5 (by omega) (by simp; omega) (by omega) (fun t₁ => ?_)
    repeat walk_at "n"
    refine item_anyK (hl.at fun o e => F₄.keep _ _ e) hi (by omega) (by omega) (by omega) (fun t₂ => ?_)
    repeat walk_at "n"
    refine pow_int_small (by decide) (by decide) (by decide) ?_
    repeat walk_at "n"
    refine _root_.PyProof.Rows.mod_int (by decide) ?_
    repeat walk_at "n"
    refine _root_.PyProof.Rows.iadd_int ?_
    refine set_item F₄ N₄ h3 h4 (by rw [h5.length, List.length_map]; omega) (by omega) (fun h₅ o₅ ho₅ F₅ N₅ => ?_)
    repeat walk_at "n"
    have hIld' : I ≠ ld := fun e => hIld e.symm
    obtain ⟨d, hd⟩ : ∃ d : Nat, (List.map Int.ofNat dn).getD ((i % 14 : Nat) : Int).toNat 0 + (ns.getD ((i : Nat) : Int).toNat 0).fmod (10 ^ Int.toNat 6) = Int.ofNat d := by
      have e1 : 0 ≤ (List.map Int.ofNat dn).getD ((i % 14 : Nat) : Int).toNat 0 := by
        rw [List.getD_eq_getElem?_getD, List.getElem?_map]
        cases dn[((i % 14 : Nat) : Int).toNat]? with
        | none => exact Int.le_refl _
        | some x => exact Int.natCast_nonneg _
      have e2 : 0 ≤ (ns.getD ((i : Nat) : Int).toNat 0).fmod (10 ^ Int.toNat 6) := Int.fmod_nonneg_of_pos _ (by decide)
      exact ⟨_, (Int.toNat_of_nonneg (Int.add_nonneg e1 e2)).symm⟩
    rw [hd] at ho₅
    refine hR1 _ _ _ ⟨⟨_, _, rfl⟩, fun q hq => put_mem (hsub q hq) (hldn q hq), by walk_at "hv", by walk_at "hv", o₅, _, dn.set (i % 14) d, put_here h3, ho₅, ?_, by simpa using h6⟩ F₅ N₅ (put_mem hI hIld')
    rw [List.map_set]
    exact ints_set _ _ _ h5
  · exact ⟨⟨_, _, rfl⟩, fun q hq => .tail _ (.tail _ hq), by walk_at "hv", by walk_at "hv", _, _, [25, 14, 58, 33, 7, 92, 43, 19, 73, 50, 7, 64, 85, 28], .tail _ (.head _), ⟨rfl, 0, rfl⟩, by repeat constructor, rfl⟩
  · refine hide fun P9 hP9 => ?_
    obtain ⟨⟨hp, tk', rfl⟩, hsub, h1, h2, o, dvs, dn, h3, h4, h5, h6⟩ := hJ
    refine hP9 ?_
    repeat walk_at "n"
    exact h ld o dvs dn m' _ h' _ F' Nd (fun q hq => drp_mem (hsub q hq) (hIn q hq)) (drp_mem h3 hIld) h4 h5 h6 h1
end
/- L6 -/
section
variable {w : World} {A : Around} {E : Value → Shared → Prop} {s : Shared} {L a l : Addr} {cd : Value} {h₀ : Heap} {news : List (Addr × Obj)} {b : List Stmt} {sc : Scope} {m : Str → Option Value}
theorem law_made {ld : Addr} {o : Obj} {dvs : List Value} {dn : List Nat} {Q : Flow → Shared → Prop} (hb : ((stmtsAt (KL w)).drop 2).take 2 = b) (hs : scopeAt (KL w) = sc)
    (G : At w A L h₀) (hroom : A.depth < recursionLimit) (F : Fr h₀ L s.heap m) (N : News h₀ L s.heap news) (hm : m "drawn" = some (.ref ld)) (hld : (ld, o) ∈ news) (ho : LstOb dvs o) (hi : IntsAre dvs (dn.map Int.ofNat)) (h14 : dn.length = 14)
    (h : ∀ (lc dl : Addr) nc (row : List Pair) m' nw h' tk, Fr h₀ L h' m' → News h₀ L h' nw → (∀ q ∈ news, q ∈ nw) → (lc, lstObj (row.map fun q => Value.ref q.a) nc) ∈ nw → (∀ q ∈ row, (q.a, q.obj) ∈ nw) → RowIs dn 6 row → (dl, emptyDict) ∈ nw →
      (∀ q ∈ news, q.1 ≠ dl) → (∀ q ∈ row, q.a ≠ dl) → lc ≠ dl → m' "drawn" = some (.ref ld) → m' "chips" = some (.ref lc) → m' "leads" = some (.ref dl) → Q .next { s with heap := h', toks := tk }) :
    wpAny (MD w) A (execs b (lawEnv sc L a cd)) Q E s := by
  refine seg_start (fun l => (l.drop 2).take 2) (by k_is) hb hs ?_
  dsimp only [List.take, List.drop, stmtsAt, scopeAt]
  repeat walk_at "n"
  refine G.nameK F (by k_is) ?_
  refine callWith_K G.kin (by k_is) ?_
  repeat walk_at "n"
  refine ⟨G.kin.keeps F.keep, ?_⟩
  refine chips_ok G F N hld ho hi h14 hroom (fun lc h₁ nw nc tk row F₁ N₁ hsub hlc hrow hR => ?_)
  repeat walk_at "n"
  rename_i h₂ F₂ N₂
  refine wpAny_Dict_empty ?_
  have F₃ := F₂.push (h := h₂) emptyDict
  have N₃ := N₂.push F₂ emptyDict rfl
  have lt₃ : ∀ q ∈ nw, q.1 < h₂.objs.size := fun q hq => Heap.lt_size (N₂ q hq).1
  repeat walk_at "n"
  rename_i h₄ F₄ N₄
  exact h lc h₂.objs.size nc row _ _ _ _ F₄ N₄ (fun q hq => .tail _ (hsub q hq)) (.tail _ hlc) (fun q hq => .tail _ (hrow q hq)) hR (.head _) (fun q hq => Nat.ne_of_lt (lt₃ q (hsub q hq))) (fun q hq => Nat.ne_of_lt (lt₃ _ (hrow q hq))) (Nat.ne_of_lt (lt₃ _ hlc)) (by walk_at "hv") (by walk_at "hv") (by walk_at "hv")
end
/- L7 -/
open PyProof.Rows.LCg (NsObj)
section
variable {w : World} {A : Around} {E : Value → Shared → Prop} {s : Shared} {L a l C D I : Addr} {cd : Value} {h₀ : Heap} {news nw : List (Addr × Obj)} {b : List Stmt} {sc scope : Scope} {m m' : Str → Option Value} {env : Env} {cl : List (Str × Addr)} {v : Value} {y : Str} {o oC : Obj}
theorem assign_comp {elt target iter : Expr} {ifs : List Expr} {py pos spos : Pos} {Q : Flow → Shared → Prop}
    (hsw : swapsWith (.ListComp elt [⟨target, iter, ifs, 0⟩] scope pos) (some (.Name y py)) spos.line env = pure true)
    (hclos : closureFor scope env = pure cl) (hkind : scope.kind = .function) (hnames : ∀ z ∈ scope.names, z.2 = .local → scope.names.lookup z.1 = some .local)
    (h : wpAny (MD w) A (eval iter env) (fun x s₁ => wpAny (MD w) A (pyIter x) (fun it s₂ => wpAny (MD w) A (newList []) (fun acc s₃ =>
      wpAny (MD w) A (newFunctionEnv scope env.globals cl [] env.qual none .none (some env)) (fun cenv s₄ =>
        codeAny (MD w) A (.compStart (.ListComp elt [⟨target, iter, ifs, 0⟩] scope pos) 0 it acc { cenv with scope := relabel scope env }) (compPost (MD w) A E (some (assign (.Name y py) env)) (fun _ s' => Q .next s') acc cenv.locals) s₄) E s₃) E s₂) E s₁) E s)
    (hs : ∀ x, foldedSetIterable iter env x = pure x := by intro _; rfl) :
    wpAny (MD w) A (exec (.Assign [.Name y py] (.ListComp elt [⟨target, iter, ifs, 0⟩] scope pos) spos) env) Q E s := by
  rw [exec_Assign_Name_used _ _ _ _ hsw]
  refine wpAny_bind (wpAny_standAt (wpAny_bind ?_))
  show wpAny _ A (do let _ ← comprehension (.ListComp elt [⟨target, iter, ifs, 0⟩] scope pos) scope env _ (newList []) false (eval iter env) (some (assign (.Name y py) env))) _ _ s
  exact wpAny_bind (wpAny_mono (wpAny_comprehension_free (use := some (assign (.Name y py) env)) (Q := fun _ s' => Q .next s') rfl hs hclos hkind hnames h) (fun _ s' hq => wpAny_pure (wpAny_pure hq)) fun _ _ e => e)
theorem store_compP {Q : Unit → Shared → Prop} (F : Fr h₀ L s.heap m) (N : News h₀ L s.heap nw) (hC : (C, oC) ∈ nw) (hN : NsObj oC m') (hx : (compEnvC scope cl C env).kindOf y = some .local) (hkind : scope.kind = .function)
    (h : ∀ h' oC', NsObj oC' (fun z => if z = y then some v else m' z) → Fr h₀ L h' m → News h₀ L h' (put C oC' nw) → Q () { s with heap := h', toks := s.toks + 1 }) :
    wpAny (MD w) A (storeName (compEnvC scope cl C env) y v) Q E s := by
  refine wpAny_storeName_local hx (hN.ns (N _ hC).1) (fun h' hn' hs' => ?_) (by simp [compEnvC, relabel, hkind])
  refine hide fun P9 hP9 => ?_
  obtain ⟨o', ho', hN'⟩ := PyProof.Rows.LCg.ns_obj hn'
  refine hP9 ?_
  obtain ⟨F', N'⟩ := same_put F N hC hs' ho'
  exact h h' o' hN' F' N'
theorem compLP {M : Model} {pos : Pos} {Q : Value → Shared → Prop} (N : News h₀ L s.heap nw) (hC : (C, oC) ∈ nw) (hN : NsObj oC m') (hv : m' y = some v) (hk : scope.kind = .function) (hx : (compEnvC scope cl C env).kindOf y = some .local) (h : Q v s) (hd : (y == ("__debug__" : Str)) = false := by decide) :
    wpAny M A (eval (.Name y pos) (compEnvC scope cl C env)) Q E s := wpAny_Name (wpAny_loadName_local hk hx (hN.ns (N _ hC).1) hv h) hd
theorem At.compK {pos : Pos} {M : Model} {Q : Value → Shared → Prop} (G : At w A L h₀) (hg : env.globals = mainGlobals) (F : Fr h₀ L s.heap m) (e : nsIn (hd.heap_39 w.params) mainGlobals y = some (some v)) (h : Q v s)
    (hk : (compEnvC scope cl C env).scope.kind = .function) (hx : (compEnvC scope cl C env).kindOf y = some .globalImplicit) (hd : (y == ("__debug__" : Str)) = false := by decide) :
    wpAny M A (eval (.Name y pos) (compEnvC scope cl C env)) Q E s := by
  refine hide fun P9 hP9 => ?_
  obtain ⟨calm, X₀, loose, mg, mb, bm, ob, A₀, base, outer, env', B, T, r⟩ := G
  refine hP9 ?_
  exact Name_function_global hk hx (loadGlobal_global (env := compEnvC scope cl C env) (by show s.heap.Ns (compEnvC scope cl C env).globals mg; rw [show (compEnvC scope cl C env).globals = mainGlobals from hg]; exact T.g.keeps F.keep) (mg_of X₀ T.g e) h) hd
theorem store_cellP {c : Addr} {v₀ : Option Value} {Q : Unit → Shared → Prop} (F : Fr h₀ L s.heap m) (N : News h₀ L s.heap nw) (hc : env.cells.lookup y = some c) (hm : (c, o) ∈ nw) (hd : o.data = .cell v₀)
    (hk : env.scope.kind = .function) (hx : env.kindOf y = some .cell)
    (h : ∀ h' o', Fr h₀ L h' m → News h₀ L h' (put c o' nw) → o'.data = .cell (some v) → Q () { s with heap := h' }) : wpAny (MD w) A (storeName env y v) Q E s := by
  refine wpAny_storeName_cell hk hx hc ⟨o, (N _ hm).1, hd⟩ fun h' hv hs => ?_
  refine hide fun P9 hP9 => ?_
  obtain ⟨o', ho', hd'⟩ := hv
  refine hP9 ?_
  obtain ⟨F', N'⟩ := same_put F N hm hs ho'
  exact h h' o' F' N' hd'
theorem comp_post_noneP (F : Fr h₀ L s.heap m) (N : News h₀ L s.heap nw) (hC : (C, oC) ∈ nw) (hN : NsObj oC m') {Q : Value → Shared → Prop}
    (h : ∀ h', Fr h₀ L h' m → News h₀ L h' (drp C nw) → Q (.ref D) { s with heap := h' }) : compPost (MD w) A E none Q (.ref D) C (.ok .next) s :=
  ⟨m', hN.ns (N _ hC).1, fun h' hs => by
    obtain ⟨F', N'⟩ := ext_drp F N hC hs.extBut
    exact h h' F' N'⟩
theorem drp_comp {Q : Value → Shared → Prop} (F : Fr h₀ L s.heap m) (N : News h₀ L s.heap nw) (hC : (C, oC) ∈ nw) (hN : NsObj oC m') (h : ∀ h', Fr h₀ L h' m → News h₀ L h' (drp C nw) → Q .none { s with heap := h' }) :
    ∃ m, s.heap.Ns C m ∧ ∀ h', Heap.SameBut C s.heap h' → Q .none { s with heap := h' } :=
  ⟨m', hN.ns (N _ hC).1, fun h' hs => by
    obtain ⟨F', N'⟩ := ext_drp F N hC hs.extBut
    exact h h' F' N'⟩
inductive MadeJ (w : World) (s : Shared) (h₀ : Heap) (L I : Addr) (m : Str → Option Value) (news : List (Addr × Obj)) (i : Nat) (D C : Addr) (t : Shared) : Prop
  | mk (e : ∃ hp tk, t = { s with heap := hp, toks := tk }) (nw : List (Addr × Obj)) (oC : Obj) (m' : Str → Option Value) (n : Nat) (xs dxs : Nat → Addr) (F : Fr h₀ L t.heap m) (N : News h₀ L t.heap nw) (hC : (C, oC) ∈ nw) (hN : NsObj oC m') (hD : (D, lstObj ((List.range i).map fun j => Value.ref (xs j)) n) ∈ nw) (hI : (I, rIt (i : Nat) ((7 - i : Nat) : Int) 1) ∈ nw)
    (h1 : C ≠ D) (h2 : C ≠ I) (h3 : D ≠ I) (hb : ∀ q ∈ news, q ∈ nw ∧ q.1 ≠ C ∧ q.1 ≠ D ∧ q.1 ≠ I)
    (hx : ∀ j, j < i → (∃ n, (xs j, accObj (dxs j) #[] n) ∈ nw) ∧ (∃ t tk, (dxs j, iniObj w.params t (j : Nat) tk) ∈ nw) ∧ xs j ≠ C ∧ xs j ≠ D ∧ xs j ≠ I ∧ dxs j ≠ C ∧ dxs j ≠ D ∧ dxs j ≠ I) (hi : ∀ j k, j < i → k < i → xs j = xs k → j = k)
inductive MadeF (w : World) (s : Shared) (h₀ : Heap) (L : Addr) (m : Str → Option Value) (news : List (Addr × Obj)) (D C : Addr) (t : Shared) : Prop
  | mk (e : ∃ hp tk, t = { s with heap := hp, toks := tk }) (nw : List (Addr × Obj)) (oC : Obj) (m' : Str → Option Value) (n : Nat) (xs dxs : Nat → Addr) (F : Fr h₀ L t.heap m) (N : News h₀ L t.heap nw) (hC : (C, oC) ∈ nw) (hN : NsObj oC m') (hD : (D, lstObj ((List.range 7).map fun j => Value.ref (xs j)) n) ∈ nw) (h1 : C ≠ D)
    (hb : ∀ q ∈ news, q ∈ nw ∧ q.1 ≠ C ∧ q.1 ≠ D) (hx : ∀ j, j < 7 → (∃ n, (xs j, accObj (dxs j) #[] n) ∈ nw) ∧ (∃ t tk, (dxs j, iniObj w.params t (j : Nat) tk) ∈ nw) ∧ xs j ≠ C ∧ dxs j ≠ C) (hi : ∀ j k, j < 7 → k < 7 → xs j = xs k → j = k)
theorem law_places {oc : Obj} {Q : Flow → Shared → Prop} (hb : ((stmtsAt (KL w)).drop 4).take 1 = b) (hs : scopeAt (KL w) = sc)
    (G : At w A L h₀) (hroom : A.depth + 1 < recursionLimit) (F : Fr h₀ L s.heap m) (N : News h₀ L s.heap news) (hcl : (L + 1, oc) ∈ news) (hoc : oc.data = .cell none)
    (h : ∀ (pl : Addr) o oc' (xs dxs : Nat → Addr) nw h' tk, Fr h₀ L h' m → News h₀ L h' nw → (∀ q ∈ news, q.1 ≠ L + 1 → q ∈ nw) → (L + 1, oc') ∈ nw → oc'.data = .cell (some (.ref pl)) → (pl, o) ∈ nw → LstOb ((List.range 7).map fun j => Value.ref (xs j)) o →
      (∀ j, j < 7 → (∃ n, (xs j, accObj (dxs j) #[] n) ∈ nw) ∧ (∃ t tk, (dxs j, iniObj w.params t (j : Nat) tk) ∈ nw)) → (∀ j k, j < 7 → k < 7 → xs j = xs k → j = k) → Q .next { s with heap := h', toks := tk }) :
    wpAny (MD w) A (execs b (lawEnv sc L a cd)) Q E s := by
  refine seg_start (fun l => (l.drop 4).take 1) (by k_is) hb hs ?_
  dsimp only [List.take, List.drop, stmtsAt, scopeAt]
  repeat walk_at "n"
  rw [eval_ListComp]
  refine wpAny_comprehension_free (use := none) rfl (fun _ => rfl) (cl := []) rfl rfl (by decide) ?_
  show wpAny _ _ (eval _ _) _ _ _
  repeat walk_at "n"
  refine G.nameB F (by k_is) (by boot_fast) (by decide) ?_
  refine Pv.callWith_type1 ?_
  repeat walk_at "n"
  refine _root_.PySem.call_range_1 ?_
  refine iter_range (IsRange.new _ _ _ _ _ _ _) (range_small 0 7 (by omega) (by omega)) (F.push _) (fun p hp => N.push F _ rfl p (.tail _ hp)) (fun I h₃ F₃ N₃ lt₃ => ?_)
  rw [show Builtin.Range.rangeSize (0 : Int) 7 1 = ((7 : Nat) : Int) from range_size 0 7] at N₃
  refine comp_go (n := 7) (J := MadeJ w s h₀ L I m news) (Fin := MadeF w s h₀ L m news)
    (by decide) rfl F₃ N₃ (fun D C oC h₄ hNs F₄ N₄ lt₄ ltC => ?_) (fun D C s₁ E₁ Q₁ hJ hq => ?_) (fun D C i s₁ E₁ hi hJ => ?_) (fun D C s₁ E₁ hJ => ?_) (fun D C s₁ hJ => ?_)
  · have hID : I < D := lt₄ _ (.head _)
    refine ⟨⟨_, _, rfl⟩, _, oC, _, 0, fun _ => 0, fun _ => 0, F₄, N₄, .head _, hNs, .tail _ (.head _), .tail _ (.tail _ (.head _)), Nat.ne_of_gt ltC, Nat.ne_of_gt (Nat.lt_trans hID ltC), Nat.ne_of_gt hID, fun q hq => ⟨.tail _ (.tail _ (.tail _ hq)), ?_⟩, fun j hj => absurd hj (Nat.not_lt_zero _), fun j k hj => absurd hj (Nat.not_lt_zero _)⟩
    have h1 := lt₃ q hq
    have h2 : q.1 < D := lt₄ _ (.tail _ hq)
    exact ⟨Nat.ne_of_lt (Nat.lt_trans h2 ltC), Nat.ne_of_lt h2, Nat.ne_of_lt h1⟩
  · refine hide fun P9 hP9 => ?_
    obtain ⟨⟨hp, tk, rfl⟩, nw, oC, m', n, xs, dxs, F', N', hC, hNs, hD, hI, _⟩ := hJ
    refine hP9 ?_
    exact wpAny_pyIter_rangeiter (N' _ hI).1 hq
  · refine hide fun P9 hP9 => ?_
    obtain ⟨⟨hp, tk, rfl⟩, nw, oC, m', n, xs, dxs, F', N', hC, hNs, hD, hI, hCD, hCI, hDI, hsub, hxs, hinj⟩ := hJ
    refine hP9 ?_
    refine next_rangeP F' N' hI (by omega) (fun h₅ u F₅ N₅ => ⟨_, rfl, go_name (_root_.PyProof.Rows.assign_Name ?_)⟩)
    refine store_compP F₅ N₅ (put_mem hC hCI) hNs (by rfl) rfl (fun h₆ oC₆ hN₆ F₆ N₆ => ?_)
    refine wpAny_tests_nil ?_
    rw [if_pos rfl]
    refine Call_ (he := by rfl) ?_
    refine G.compK rfl F₆ (by k_is) ?_ rfl (by rfl)
    refine callWith_K G.kin (by k_is) ?_
    repeat walk_at "n"
    refine compLP N₆ (put_here (put_mem hC hCI)) hN₆ (by walk_at "hv") rfl (by rfl) ?_
    repeat walk_at "n"
    refine ⟨G.kin.keeps F₆.keep, ?_⟩
    have hI₆ := put_mem (d := C) (o := oC₆) (put_here (o' := rIt ((i : Nat) + 1) (((7 - i : Nat) : Int) - 1) 1) hI) (fun e => hCI e.symm)
    have hC₆ := put_here (o' := oC₆) (put_mem (d := I) (o := rIt ((i : Nat) + 1) (((7 - i : Nat) : Int) - 1) 1) hC hCI)
    have hD₆ := put_mem (d := C) (o := oC₆) (put_mem (d := I) (o := rIt ((i : Nat) + 1) (((7 - i : Nat) : Int) - 1) 1) hD hDI) (fun e => hCD e.symm)
    have far : ∀ q ∈ nw, q.1 ≠ C → q.1 ≠ I → q ∈ put C oC₆ (put I (rIt ((i : Nat) + 1) (((7 - i : Nat) : Int) - 1) 1) nw) := fun q hq h1 h2 => put_mem (put_mem hq h2) h1
    generalize put C oC₆ (put I (rIt ((i : Nat) + 1) (((7 - i : Nat) : Int) - 1) 1) nw) = nw₆ at *
    refine new_acc G F₆ N₆ hroom (fun x dx h₇ t₇ n₇ tk₇ F₇ N₇ lt₇ ltx => ?_)
    refine lst_append F₇ N₇ (.tail _ (.tail _ hD₆)) ?_ (fun h₈ n₈ F₈ N₈ => ?_)
    · simp; rw [sizeLine_eq]; omega
    have hxC : C < x := Nat.lt_trans (lt₇ _ hC₆) ltx
    have hxD : D < x := Nat.lt_trans (lt₇ _ hD₆) ltx
    have hxI : I < x := Nat.lt_trans (lt₇ _ hI₆) ltx
    have hdC : C < dx := lt₇ _ hC₆
    have hdD : D < dx := lt₇ _ hD₆
    have hdI : I < dx := lt₇ _ hI₆
    have old : ∀ q ∈ nw₆, q.1 ≠ D → q ∈ put D (lstObj (((List.range i).map fun j => Value.ref (xs j)) ++ [.ref x]) n₈) ((x, accObj dx #[] n₇) :: (dx, iniObj w.params t₇ (i : Nat) u) :: nw₆) := fun q hq h1 => put_mem (.tail _ (.tail _ hq)) h1
    have e1 : ((i : Nat) : Int) + 1 = ((i + 1 : Nat) : Int) := by omega
    have e2 : ((7 - i : Nat) : Int) - 1 = ((7 - (i + 1) : Nat) : Int) := by omega
    rw [e1, e2] at hI₆
    have xlt : ∀ j, j < i → xs j < x := fun j hj => by
      refine hide fun P9 hP9 => ?_
      obtain ⟨⟨nj, hj1⟩, _, a1, a2, a3, _⟩ := hxs j hj
      refine hP9 ?_
      exact Nat.lt_trans (lt₇ _ (far _ hj1 a1 a3)) ltx
    refine ⟨⟨_, _, rfl⟩, _, oC₆, _, n₈, (fun j => if j = i then x else xs j), (fun j => if j = i then dx else dxs j), F₈, N₈, old _ hC₆ hCD, hN₆, ?_, old _ hI₆ (fun e => hDI e.symm), hCD, hCI, hDI, fun q hq => ?_, fun j hj => ?_, fun j k hj hk e => ?_⟩
    · have e : (List.range (i + 1)).map (fun j => Value.ref (if j = i then x else xs j)) = ((List.range i).map fun j => Value.ref (xs j)) ++ [.ref x] := by
        rw [List.range_succ, List.map_append]
        congr 1
        · refine List.map_congr_left fun j hj => ?_
          rw [if_neg (Nat.ne_of_lt (List.mem_range.mp hj))]
        · simp
      rw [e]
      exact put_here (.tail _ (.tail _ hD₆))
    · refine hide fun P9 hP9 => ?_
      obtain ⟨h1, h2, h3, h4⟩ := hsub q hq
      refine hP9 ?_
      exact ⟨old _ (far _ h1 h2 h4) h3, h2, h3, h4⟩
    · by_cases hji : j = i
      · subst hji
        simp only [if_true]
        exact ⟨⟨n₇, put_mem (.head _) (Nat.ne_of_gt hxD)⟩, ⟨_, _, put_mem (.tail _ (.head _)) (Nat.ne_of_gt hdD)⟩, Nat.ne_of_gt hxC, Nat.ne_of_gt hxD, Nat.ne_of_gt hxI, Nat.ne_of_gt hdC, Nat.ne_of_gt hdD, Nat.ne_of_gt hdI⟩
      · simp only [if_neg hji]
        refine hide fun P9 hP9 => ?_
        obtain ⟨⟨nj, hj1⟩, ⟨tj, tkj, hj2⟩, a1, a2, a3, a4, a5, a6⟩ := hxs j (by omega)
        refine hP9 ?_
        exact ⟨⟨nj, old _ (far _ hj1 a1 a3) a2⟩, ⟨tj, tkj, old _ (far _ hj2 a4 a6) a5⟩, a1, a2, a3, a4, a5, a6⟩
    · by_cases hji : j = i
      · by_cases hki : k = i
        · rw [hji, hki]
        · simp only [if_pos hji, if_neg hki] at e
          exact absurd e (Nat.ne_of_gt (xlt k (by omega)))
      · by_cases hki : k = i
        · simp only [if_pos hki, if_neg hji] at e
          exact absurd e (Nat.ne_of_lt (xlt j (by omega)))
        · simp only [if_neg hki, if_neg hji] at e
          exact hinj j k (by omega) (by omega) e
  · refine hide fun P9 hP9 => ?_
    obtain ⟨⟨hp, tk, rfl⟩, nw, oC, m', n, xs, dxs, F', N', hC, hNs, hD, hI, hCD, hCI, hDI, hsub, hxs, hinj⟩ := hJ
    refine hP9 ?_
    refine end_rangeP G.calm F' N' hI (by omega) (fun h₅ F₅ N₅ => ⟨rfl, ⟨_, _, rfl⟩, _, oC, _, n, xs, dxs, F₅, N₅, drp_mem hC hCI, hNs, drp_mem hD hDI, hCD, fun q hq => ?_, fun j hj => ?_, hinj⟩)
    · refine hide fun P9 hP9 => ?_
      obtain ⟨h1, h2, h3, h4⟩ := hsub q hq
      refine hP9 ?_
      exact ⟨drp_mem h1 h4, h2, h3⟩
    · refine hide fun P9 hP9 => ?_
      obtain ⟨⟨nj, hj1⟩, ⟨tj, tkj, hj2⟩, a1, a2, a3, a4, a5, a6⟩ := hxs j hj
      refine hP9 ?_
      exact ⟨⟨nj, drp_mem hj1 a3⟩, ⟨tj, tkj, drp_mem hj2 a6⟩, a1, a4⟩
  · refine hide fun P9 hP9 => ?_
    obtain ⟨⟨hp, tk, rfl⟩, nw, oC, m', n, xs, dxs, F', N', hC, hNs, hD, hCD, hsub, hxs, hinj⟩ := hJ
    refine hP9 ?_
    refine comp_post_noneP F' N' hC hNs (fun h₅ F₅ N₅ => ?_)
    refine hide fun P9 hP9 => ?_
    obtain ⟨hc1, hc2, hc3⟩ := hsub _ hcl
    refine hP9 ?_
    refine store_cellP F₅ N₅ (c := L + 1) (by rfl) (drp_mem hc1 hc2) hoc rfl (by rfl) (fun h₆ o₆ F₆ N₆ ho₆ => ?_)
    have hDL : D ≠ L + 1 := fun e => hc3 e.symm
    refine wpAny_execs_nil ?_
    refine h D _ o₆ xs dxs _ h₆ _ F₆ N₆ (fun q hq hne => ?_) (put_here (drp_mem hc1 hc2)) ho₆ (put_mem (drp_mem hD (fun e => hCD e.symm)) hDL) ⟨rfl, _, rfl⟩ (fun j hj => ?_) hinj
    · refine hide fun P9 hP9 => ?_
      obtain ⟨h1, h2, h3⟩ := hsub q hq
      refine hP9 ?_
      exact put_mem (drp_mem h1 h2) hne
    · refine hide fun P9 hP9 => ?_
      obtain ⟨⟨nj, hj1⟩, ⟨tj, tkj, hj2⟩, a1, a4⟩ := hxs j hj
      refine hP9 ?_
      have N₀ := N'
      have c1 : ∀ d o', (d, o') ∈ nw → o'.data ≠ .cell none → d ≠ L + 1 := fun d o' hd ho e => ho (by
        have z := news_ne N' hd hc1
        by_cases hoo : o' = oc
        · rw [hoo]; exact hoc
        · exact absurd e (z hoo))
      exact ⟨⟨nj, put_mem (drp_mem hj1 a1) (c1 _ _ hj1 (fun e => by cases e))⟩, ⟨tj, tkj, put_mem (drp_mem hj2 a4) (c1 _ _ hj2 (fun e => by cases e))⟩⟩
end
/- L8 -/
abbrev skn (w : World) := PySem.strKind PySem.Challenge.rw_kl0049_01.row.prog w
theorem pairs_mem {w : World} : ∀ {es : List DictEntry} {kvs : List (Str × Value)}, Pairs (skn w) es kvs → ∀ e ∈ es, ∃ kv ∈ kvs, (skn w).is kv.1 e.key = true
  | _, _, .nil, e, he => by cases he
  | _, _, .cons h1 _ r, e, he => by
    rcases List.mem_cons.mp he with rfl | he
    · exact ⟨_, .head _, h1⟩
    · refine hide fun P9 hP9 => ?_
      obtain ⟨kv, h2, h3⟩ := pairs_mem r e he
      refine hP9 ?_
      exact ⟨kv, .tail _ h2, h3⟩
theorem dict_apart {w : World} {o : Obj} {kvs : List (Str × Value)} {es : List DictEntry} {n : Nat} {name : Str} {v : Value} (h : o.IsDictOf (skn w) kvs) (hk : ∀ kv ∈ kvs, kv.1 ≠ name) (hg : getL name es = some (some v)) : dictOf es n ≠ o := by
  intro e
  subst e
  refine hide fun P9 hP9 => ?_
  obtain ⟨es', ep, _, hd, _, hp, _⟩ := h
  refine hP9 ?_
  injection hd with e1 _
  unfold getL at hg
  cases hf : es.find? (·.key.isStr name) with
  | none =>
    rw [hf] at hg
    simp at hg
  | some en =>
    have h1 := List.find?_some hf
    have h2 := List.mem_of_find?_eq_some hf
    rw [← e1] at hp
    refine hide fun P9 hP9 => ?_
    obtain ⟨kv, h3, h4⟩ := pairs_mem hp en (by simpa using h2)
    refine hP9 ?_
    refine hk kv h3 ?_
    obtain ⟨t, ht⟩ := Value.isStrOf_shape h4
    rw [ht] at h1
    exact beq_iff_eq.mp h1
theorem g_names : allLeads.all (fun ld => flips.all fun r => (tx (shown ld r) != Str.ofString "n") && (tx (shown ld r) != Str.ofString "_initial_size")) = true := by decide +kernel
section
variable {w : World} {A : Around} {E : Value → Shared → Prop} {s : Shared} {L a l : Addr} {cd : Value} {h h₀ : Heap} {news nw nw' : List (Addr × Obj)} {b : List Stmt} {sc : Scope} {m : Str → Option Value} {dn : List Nat} {p : Pl} {rows : Nat → List Pair} {wx : Nat → Addr}
theorem lead_names {k : Nat} (hk : k ≤ 6) : ∀ kv ∈ leadKvs dn k wx, kv.1 ≠ Str.ofString "n" ∧ kv.1 ≠ Str.ofString "_initial_size" := by
  intro kv h
  refine hide fun P9 hP9 => ?_
  obtain ⟨j, hj, rfl⟩ := List.mem_map.mp h
  refine hP9 ?_
  have hj := List.mem_range.mp hj
  have := over g_names (leadAt_mem dn (show j ≤ 5 by omega)) (decide (dn.getD j 0 / 2 % 2 = 1))
  simpa [shownAt] using this
theorem shown_inj {i j : Nat} (hi : i < 6) (hj : j < 6) (h : tx (shownAt dn i) = tx (shownAt dn j)) : i = j := by
  have := congrArg Str.length h
  rwa [tx_len, tx_len, shownAt_len hi, shownAt_len hj] at this
theorem lead_at {k i : Nat} (hk : k ≤ 6) (hi : i < k) : valueAt (leadKvs dn k wx) (tx (shownAt dn i)) = some (.ref (wx i)) := by
  unfold valueAt
  have : (leadKvs dn k wx).find? (fun kv => kv.1 = tx (shownAt dn i)) = some (tx (shownAt dn i), .ref (wx i)) := by
    rw [List.find?_eq_some_iff_getElem]
    refine ⟨by simp, i, by simp [leadKvs, hi], by simp [leadKvs], fun j hj => ?_⟩
    simp only [leadKvs, List.getElem_map, List.getElem_range]
    simp only [decide_eq_false_iff_not, Bool.not_eq_true', Bool.not_eq_eq_eq_not, Bool.not_true]
    intro e
    have := shown_inj (dn := dn) (i := j) (j := i) (by omega) (by omega) e
    omega
  rw [this]; rfl
theorem lead_new {k : Nat} (hk : k < 6) : valueAt (leadKvs dn k wx) (tx (shownAt dn k)) = none := by
  unfold valueAt
  have : (leadKvs dn k wx).find? (fun kv => kv.1 = tx (shownAt dn k)) = none := by
    rw [List.find?_eq_none]
    intro kv h
    refine hide fun P9 hP9 => ?_
    obtain ⟨j, hj, rfl⟩ := List.mem_map.mp h
    refine hP9 ?_
    have hj := List.mem_range.mp hj
    simp only [decide_eq_true_eq]
    intro e
    have := shown_inj (dn := dn) (i := j) (j := k) (by omega) hk e
    omega
  rw [this]; rfl
theorem lead_snoc {k : Nat} {x : Addr} : leadKvs dn k wx ++ [(tx (shownAt dn k), .ref x)] = leadKvs dn (k + 1) fun j => if j = k then x else wx j := by
  unfold leadKvs
  rw [List.range_succ, List.map_append]
  congr 1
  · refine List.map_congr_left fun j hj => ?_
    show (tx (shownAt dn j), Value.ref (wx j)) = (tx (shownAt dn j), Value.ref (if j = k then x else wx j))
    rw [if_neg (Nat.ne_of_lt (List.mem_range.mp hj))]
  · simp
theorem kda_setP {d : Addr} {o : Obj} {kvs : List (Str × Value)} {k : Str} {key v : Value} {Q : Unit → Shared → Prop} (F : Fr h₀ L s.heap m) (N : News h₀ L s.heap nw) (hd : (d, o) ∈ nw) (ho : o.IsDictOf (skn w) kvs) (hkey : (skn w).is k key = true) (hsz : kvs.length ≤ sizeLine)
    (h : ∀ h' o', Fr h₀ L h' m → News h₀ L h' (put d o' nw) → o'.IsDictOf (skn w) (stored kvs k v) → Q () { s with heap := h', toks := s.toks + 1 }) : wpAny (MD w) A (setItem (.ref d) key v) Q E s := by
  refine wpAny_setItem_pairs (hsz := hsz) hkey (Heap.dictOf_iff.mpr ⟨o, (N _ hd).1, ho⟩) fun h' hmm hs => ?_
  refine hide fun P9 hP9 => ?_
  obtain ⟨o', ho', hd'⟩ := Heap.dictOf_iff.mp hmm
  refine hP9 ?_
  obtain ⟨F', N'⟩ := same_put F N hd hs ho'
  exact h h' o' F' N' hd'
/-- one more lead is known -/
theorem All.lead {x : Addr} {o o' : Obj} (N : News h₀ L h nw) (B : All w L dn p rows nw) (hk : p.k < 6) (ho : (p.dl, o) ∈ nw) (hod : o.IsDictOf (skn w) (leadKvs dn p.k p.wx)) (ho' : o'.IsDictOf (skn w) (stored (leadKvs dn p.k p.wx) (tx (shownAt dn p.k)) (.ref x))) (W : WsObj nw x (scan (shownAt dn p.k))) :
    All w L dn { p with k := p.k + 1, wx := fun j => if j = p.k then x else p.wx j } rows (put p.dl o' nw) := by
  have nm := lead_names (dn := dn) (wx := p.wx) (Nat.le_of_lt hk)
  have far : ∀ z ∈ nw, z.2 ≠ o → z ∈ put p.dl o' nw := fun z hz hne => put_mem hz (news_ne N hz ho hne)
  refine hide fun P9 hP9 => ?_
  obtain ⟨es, ep, hx, hd, _⟩ := id hod
  refine hP9 ?_
  have nd : ∀ z ∈ nw, (∀ es n, z.2.data ≠ .dict es n) → z ∈ put p.dl o' nw := fun z hz hne => far z hz fun e => hne es ep (by rw [e]; exact hd)
  have wsf : ∀ {y : Addr} {c : WS}, WsObj nw y c → WsObj (put p.dl o' nw) y c := fun {y c} W => by
    refine hide fun P9 hP9 => ?_
    obtain ⟨dx, es, n, tt, tc, tb, vs, tn, tnt, h1, h2, h3, h4, h5, h6, h7, h8, h9, h10, h11, h12⟩ := W
    refine hP9 ?_
    exact ⟨dx, es, n, tt, tc, tb, vs, tn, tnt, nd _ h1 (by intro _ _ e; cases e), far _ h2 (dict_apart hod (fun kv hkv => (nm kv hkv).1) h6), nd _ h3 (by intro _ _ e; cases e), nd _ h4 (by intro _ _ e; cases e), h5, h6, h7, h8, h9, h10, h11, h12⟩
  have X := B.fix
  refine ⟨⟨?_, ?_, ?_, ?_, ?_, X.row, ⟨o', put_here ho, ?_⟩, fun i hi => ?_, hk, X.dlen⟩, ⟨B.brd.inj, fun i hi => ?_, fun i hi => ?_, fun i hi q hq => ?_⟩, ?_, ?_⟩
  · refine hide fun P9 hP9 => ?_
    obtain ⟨oc, h1, h2⟩ := X.cell
    refine hP9 ?_
    exact ⟨oc, nd _ h1 (by intro _ _ e; rw [h2] at e; cases e), h2⟩
  · refine hide fun P9 hP9 => ?_
    obtain ⟨oc, h1, h2⟩ := X.plc
    refine hP9 ?_
    exact ⟨oc, nd _ h1 (by intro _ _ e; obtain ⟨_, n, h3⟩ := h2; rw [h3] at e; cases e), h2⟩
  · refine hide fun P9 hP9 => ?_
    obtain ⟨vs, oc, h1, h2, h4⟩ := X.drw
    refine hP9 ?_
    exact ⟨vs, oc, nd _ h1 (by intro _ _ e; obtain ⟨_, n, h3⟩ := h2; rw [h3] at e; cases e), h2, h4⟩
  · obtain ⟨n, h1⟩ := X.chp
    exact ⟨n, nd _ h1 (by intro _ _ e; cases e)⟩
  · exact fun q hq => nd _ (X.chs q hq) (by intro _ _ e; cases e)
  · rw [stored_absent (lead_new hk), lead_snoc] at ho'
    exact ho'
  · show WsObj _ (if i = p.k then x else p.wx i) _
    have hi' : i < p.k + 1 := hi
    by_cases e : i = p.k
    · rw [if_pos e, e]; exact wsf W
    · rw [if_neg e]; exact wsf (X.wss i (by omega))
  · obtain ⟨n, h1⟩ := B.brd.acc i hi
    exact ⟨n, nd _ h1 (by intro _ _ e; cases e)⟩
  · refine hide fun P9 hP9 => ?_
    obtain ⟨t, tk, h1⟩ := B.brd.ini i hi
    refine hP9 ?_
    exact ⟨t, tk, far _ h1 (dict_apart hod (fun kv hkv => (nm kv hkv).2) (by rfl))⟩
  · exact nd _ (B.brd.prs i hi q hq) (by intro _ _ e; cases e)
  · refine hide fun P9 hP9 => ?_
    obtain ⟨op, h1, h2⟩ := B.t1
    refine hP9 ?_
    exact ⟨op, nd _ h1 (by obtain ⟨ps, rfl, _⟩ := h2; intro _ _ e; cases e), h2⟩
  · refine hide fun P9 hP9 => ?_
    obtain ⟨op, h1, h2⟩ := B.t2
    refine hP9 ?_
    exact ⟨op, nd _ h1 (by obtain ⟨ps, rfl, _⟩ := h2; intro _ _ e; cases e), h2⟩
end
/- L9 -/
section
variable {w : World} {A : Around} {E : Value → Shared → Prop} {s : Shared} {L a l : Addr} {cd : Value} {h h₀ : Heap} {news nw nw' : List (Addr × Obj)} {b : List Stmt} {sc : Scope} {m : Str → Option Value} {dn : List Nat} {p : Pl} {rows : Nat → List Pair} {wx : Nat → Addr}
/-- what the frame holds all along -/
structure Loc (p : Pl) (m : Str → Option Value) : Prop where
  drawn : m "drawn" = some (.ref p.ld)
  chips : m "chips" = some (.ref p.lc)
  leads : m "leads" = some (.ref p.dl)
inductive LeadJ (w : World) (L : Addr) (s : Shared) (dn : List Nat) (p : Pl) (i : Nat) (t : Shared) (m' : Str → Option Value) (nw : List (Addr × Obj)) : Prop
  | mk (e : ∃ hp tk, t = { s with heap := hp, toks := tk }) (wx : Nat → Addr) (rows : Nat → List Pair) (B : All w L dn { p with k := i, wx := wx } rows nw) (h1 : RowC dn (rows 3) (List.range i)) (h2 : ∀ j, j ≠ 3 → rows j = []) (M : Loc p m')
theorem law_leads {Q : Flow → Shared → Prop} (hb : ((stmtsAt (KL w)).drop 5).take 1 = b) (hs : scopeAt (KL w) = sc)
    (G : At w A L h₀) (hroom : A.depth + 1 < recursionLimit) (F : Fr h₀ L s.heap m) (N : News h₀ L s.heap nw) (B : All w L dn p (fun _ => []) nw) (hk : p.k = 0) (M : Loc p m)
    (h : ∀ wx rows m' nw h' tk, Fr h₀ L h' m' → News h₀ L h' nw → All w L dn { p with k := 6, wx := wx } rows nw → RowC dn (rows 3) (List.range 6) → (∀ j, j ≠ 3 → rows j = []) → Loc p m' → Q .next { s with heap := h', toks := tk }) :
    wpAny (MD w) A (execs b (lawEnv sc L a cd)) Q E s := by
  refine seg_start (fun l => (l.drop 5).take 1) (by k_is) hb hs ?_
  dsimp only [List.take, List.drop, stmtsAt, scopeAt]
  repeat walk_at "n"
  refine wpAny_For ?_ (fun _ => rfl)
  have hmc := M.chips
  repeat walk_at "n"
  obtain ⟨nc, hlc⟩ := B.fix.chp
  refine iter_seq F N (LstOb.is N hlc ⟨rfl, nc, rfl⟩) (fun I oI h₁ hoI F₁ N₁ lt₁ => ?_)
  have hc6 : p.ch.length = 6 := B.fix.len
  refine for_list (LeadJ w L s dn p) G.calm ⟨rfl, nc, rfl⟩ (fun i t m' nw' h' tk o o' hi hJ N' hI hit => ?_) (fun i t m' nw' v o E' R hR1 hv hJ F' N' hI hit hl => ?_) F₁ N₁ (.head _) hoI (.tail _ hlc) ?_ (fun t m' nw' h' o hJ N' hI hit F' Nd => ?_)
  · refine hide fun P9 hP9 => ?_
    obtain ⟨⟨hp, tk', rfl⟩, wx, rows, B', h1, h2, h3⟩ := hJ
    refine hP9 ?_
    exact ⟨⟨_, _, rfl⟩, wx, rows, B'.loose N' hI (lit_loose hit), h1, h2, h3⟩
  · refine hide fun P9 hP9 => ?_
    obtain ⟨⟨hp, tk', rfl⟩, wx, rows, B', h1, h2, M'⟩ := hJ
    refine hP9 ?_
    have hi : i < 6 := by
      rcases Nat.lt_or_ge i 6 with z | z
      · exact z
      · rw [List.getElem?_eq_none (by simp [hc6]; exact z)] at hv; cases hv
    have hic : i < p.ch.length := by omega
    have hq : v = .ref p.ch[i].a := by
      rw [List.getElem?_map, List.getElem?_eq_getElem hic] at hv
      exact (Option.some.inj hv).symm
    subst hq
    have hR : RowC dn p.ch (List.range 6) := B'.fix.row
    obtain ⟨ef, eg⟩ := hR.get hic (by simpa using hi)
    simp only [List.getElem_range] at ef eg
    have hqm := B'.fix.chs p.ch[i] (List.getElem_mem hic)
    generalize p.ch[i] = q at *
    refine assign_pair F' N' G.calm hqm rfl rfl rfl (fun h₂ F₂ N₂ => ?_)
    have hml := M'.leads
    have hmd := M'.drawn
    have hmc' := M'.chips
    refine _root_.PyProof.Rows.assign_Name ?_
    repeat walk_at "n"
    refine _root_.PyProof.Rows.assign_Name ?_
    repeat walk_at "n"
    rename_i h₃ F₃ N₃
    refine G.nameK F₃ (by k_is) ?_
    refine callWith_K G.kin (by k_is) ?_
    repeat walk_at "n"
    refine SB.add (fun t₄ k₄ => ?_) (by rw [sizeLine_eq, ef, eg, tx_len, tx_len, shownAt_len hi, wordAt_len]; omega)
    repeat walk_at "n"
    refine ⟨G.kin.keeps F₃.keep, ?_⟩
    rw [ef, eg, tx_append]
    have hl1 : ∀ c ∈ shownAt dn i, c < 128 := fun c hc => by rcases shownAt_letters hi c hc with rfl | rfl <;> decide
    have hl2 : ∀ c ∈ wordAt dn i, c < 128 := fun c hc => by rcases wordAt_letters dn i c hc with rfl | rfl <;> decide
    refine new_ws G F₃ N₃ hroom (by simp; exact ⟨hl1, hl2⟩) (by simp [shownAt_len hi, wordAt_len]; omega) (fun x h₅ nw₅ tk₅ F₅ N₅ hsub W => ?_)
    have hsc : wsScan (tx (shownAt dn i ++ wordAt dn i)).cps.toList ws0 = scan (shownAt dn i) := by
      have hwl := wordAt_len dn i
      have hwc := wordAt_letters dn i
      cases hw : wordAt dn i with
      | nil => rw [hw] at hwl; cases hwl
      | cons c r =>
        have hc := hwc c (by rw [hw]; exact .head _)
        show wsScan (shownAt dn i ++ c :: r).toArray.toList ws0 = _
        rw [List.toList_toArray]
        exact scan_stop _ _ _ _ (shownAt_letters hi) (by rcases hc with rfl | rfl <;> decide) (by rcases hc with rfl | rfl <;> decide)
    rw [hsc] at W
    repeat walk_at "n"
    refine hide fun P9 hP9 => ?_
    obtain ⟨od, hdl, hod⟩ := B'.fix.dct
    refine hP9 ?_
    have B5 : All w L dn { p with k := i, wx := wx } rows nw₅ := B'.sub hsub
    refine kda_setP (w := w) (k := tx (shownAt dn i)) F₅ N₅ (hsub _ hdl) hod (by rw [ef]; exact strKind_is _ _ _ _) (by rw [sizeLine_eq]; simp [leadKvs]; omega) (fun h₆ o₆ F₆ N₆ hod₆ => ?_)
    have B6 := B5.lead N₅ hi (hsub _ hdl) hod hod₆ W
    repeat walk_at "n"
    refine at_places N₆ B6 ?_
    repeat walk_at "n"
    refine place_at (i := 3) N₆ B6 (by decide) rfl ?_
    refine k_method (i := 3) (f := 118) G F₆ N₆ B6 (by decide) (fun _ _ _ => by rfl) (by k_is) (by k_is) ?_
    refine callWith_K G.kin (by k_is) ?_
    repeat walk_at "n"
    refine ⟨G.kin.keeps F₆.keep, ?_⟩
    refine k_push (p := { p with k := i + 1, wx := fun j => if j = i then x else wx j }) (i := 3) G F₆ N₆ B6 (by decide) (Nat.lt_of_succ_lt hroom) (by rw [h1.len, List.length_range]; omega) (fun a h₇ nw₇ tk₇ F₇ N₇ B7 K7 => ?_)
    repeat walk_at "n"
    have hI5 := hsub _ hI
    have hl5 := hsub _ hl
    have hod2 : ∃ es n, od.data = .dict es n := let ⟨es, n, _, e, _⟩ := hod; ⟨es, n, e⟩
    refine hide fun P9 hP9 => ?_
    obtain ⟨esd, epd, hdd⟩ := hod2
    refine hP9 ?_
    have hI6 : (I, o) ∈ put p.dl o₆ nw₅ := put_mem hI5 (news_ne N₅ hI5 (hsub _ hdl) (fun e => by
      have := hit.2; rw [show o = od from e, hdd] at this; cases this))
    have hl6 : (p.lc, lstObj (List.map (fun q => Value.ref q.a) p.ch) nc) ∈ put p.dl o₆ nw₅ := put_mem hl5 (news_ne N₅ hl5 (hsub _ hdl) (fun e => by
      rw [← show lstObj (List.map (fun q => Value.ref q.a) p.ch) nc = od from e] at hdd; cases hdd))
    refine hR1 _ _ _ ⟨⟨_, _, rfl⟩, _, _, B7, ?_, fun j hj => ?_, ⟨by walk_at "hv", by walk_at "hv", by walk_at "hv"⟩⟩ F₇ N₇ (K7 _ hI6 (.of_cls hit.1)) (K7 _ hl6 (.of_cls rfl))
    · show RowC dn (updRow rows 3 _ 3) _
      rw [List.range_succ]
      simp only [updRow, if_true]
      refine h1.append ?_
      unfold RowC
      simp only [List.map_cons, List.map_nil, ef, eg]
    · simp only [updRow, if_neg hj]
      exact h2 j hj
  · exact ⟨⟨_, _, rfl⟩, p.wx, fun _ => [], by
      have : All w L dn { p with k := 0, wx := p.wx } (fun _ => []) nw := by rw [← hk]; exact B
      exact this.sub fun z hz => .tail _ hz, rfl, fun _ _ => rfl, M⟩
  · refine hide fun P9 hP9 => ?_
    obtain ⟨⟨hp, tk', rfl⟩, wx, rows, B', h1, h2, M'⟩ := hJ
    refine hP9 ?_
    have e6 : (p.ch.map fun q => Value.ref q.a).length = 6 := by simp [hc6]
    rw [e6] at B' h1
    repeat walk_at "n"
    exact h wx rows m' _ h' _ F' Nd (B'.drop N' hI (lit_loose hit)) h1 h2 M'
end
/- M1 -/
section
variable {w : World} {A : Around} {E : Value → Shared → Prop} {s : Shared} {L a l : Addr} {cd : Value} {h h₀ : Heap} {news nw nw' : List (Addr × Obj)} {b : List Stmt} {sc : Scope} {m : Str → Option Value} {dn : List Nat} {p : Pl} {rows : Nat → List Pair} {i : Nat} {ks : List Nat}
/-- str() of a place, as its row's text -/
theorem k_strT {Q : Value → Shared → Prop} (G : At w A L h₀) (F : Fr h₀ L s.heap m) (N : News h₀ L s.heap nw) (B : All w L dn p rows nw) (hi : i < 7) (hg : AllBare s.gens) (hroom : A.depth + 1 < recursionLimit) (hu : A.units + 2 < cLine) (hR : RowC dn (rows i) ks) (hk : ∀ k ∈ ks, k < 6) (hl : ks.length ≤ 6)
    (h : ∀ h' g' d' k' nw' t, Fr h₀ L h' m → News h₀ L h' nw' → All w L dn p rows nw' → Keep nw nw' → AllBare g' → Q (.str (rowT (rows i)) t) ⟨h', g', d', k', s.os⟩) :
    wpAny (MD w) A (call (.type "str") [.ref (p.xs i)]) Q E s := by
  have hlen := hR.len
  have hsum := hR.sum hk
  refine k_str G F N B hi hg hroom hu (by omega) (fun q hq => by have := hR.small hk hq; omega) ?_ (fun h' g' d' k' nw' t F' N' B' K' hg' => ?_)
  · have e : (rows i).map (fun q => Txt.join "" [q.f, q.g]) = (rows i).map fun q => q.f ++ q.g := List.map_congr_left fun q _ => by rw [join_cat, cat_two]
    rw [e]
    refine joinOk_of ?_
    have e0 : ("" : Str).length = 0 := by decide +kernel
    rw [e0]
    omega
  · rw [rowT_join]
    exact h h' g' d' k' nw' t F' N' B' K' hg'
/-- the law's own text of a list of pieces -/
theorem k_text {Q : Value → Shared → Prop} {row : List Pair} {ol : Obj} (G : At w A L h₀) (F : Fr h₀ L s.heap m) (N : News h₀ L s.heap nw) (hl : (l, ol) ∈ nw) (hol : LstOb (row.map fun q => Value.ref q.a) ol) (hrow : ∀ q ∈ row, (q.a, q.obj) ∈ nw) (hroom : A.depth < recursionLimit) (hR : RowC dn row ks) (hk : ∀ k ∈ ks, k < 6) (hlen : ks.length ≤ 6)
    (h : ∀ h' t tk, Fr h₀ L h' m → News h₀ L h' nw → Q (.str (rowT row) t) { s with heap := h', toks := tk }) :
    wpAny (MD w) A (call (.ref 190) [.ref l]) Q E s := by
  have hln := hR.len
  have hsum := hR.sum hk
  refine text_ok G F N hl hol (fun q hq => ⟨0, hrow q hq⟩) hroom (by omega) (fun q hq => by have := hR.small hk hq; omega) (by omega) (fun h' t tk F' N' => ?_)
  rw [join_cat]
  exact h h' t tk F' N'
theorem ne_same {x y : Str} {t u : Tok} {Q : Value → Shared → Prop} (e : x = y) (h : Q (.bool false) s) : wpAny (MD w) A (compareOp .NotEq (.str x t) (.str y u)) Q E s := by
  subst e
  refine _root_.PySem.P.ne_str ?_
  rw [show (x.cps.toList != x.cps.toList) = false from bne_self_eq_false _]
  exact h
theorem ne_same_int {x y : Int} {t u : Tok} {Q : Value → Shared → Prop} (e : x = y) (h : Q (.bool false) s) : wpAny (MD w) A (compareOp .NotEq (.int x t) (.int y u)) Q E s := by
  subst e
  refine _root_.PyProof.Rows.ne_int ?_
  rw [show (x != x) = false from bne_self_eq_false _]
  exact h
theorem RowC.text {row row' : List Pair} (h : RowC dn row ks) (h' : RowC dn row' ks) : rowT row = rowT row' := by
  have e : ∀ r : List Pair, r.map (fun q => q.f ++ q.g) = (r.map fun q => (q.f, q.g)).map fun z => z.1 ++ z.2 := fun r => by rw [List.map_map]; rfl
  show cat _ = cat _
  rw [e, e, show row.map (fun q => (q.f, q.g)) = row'.map (fun q => (q.f, q.g)) from h.trans h'.symm]
theorem law_check {Q : Flow → Shared → Prop} (hb : ((stmtsAt (KL w)).drop 6).take 1 = b) (hs : scopeAt (KL w) = sc)
    (G : At w A L h₀) (hroom : A.depth + 1 < recursionLimit) (hu : A.units + 2 < cLine) (F : Fr h₀ L s.heap m) (N : News h₀ L s.heap nw) (B : All w L dn p rows nw) (hR : RowC dn (rows 3) (List.range 6)) (M : Loc p m) (hg : AllBare s.gens)
    (h : ∀ nw' h' g' d' k', Fr h₀ L h' m → News h₀ L h' nw' → All w L dn p rows nw' → AllBare g' → Q .next ⟨h', g', d', k', s.os⟩) :
    wpAny (MD w) A (execs b (lawEnv sc L a cd)) Q E s := by
  refine seg_start (fun l => (l.drop 6).take 1) (by k_is) hb hs ?_
  dsimp only [List.take, List.drop, stmtsAt, scopeAt]
  have hmc := M.chips
  refine hide fun P9 hP9 => ?_
  obtain ⟨hp, gs, dr, tk, os⟩ := s
  refine hP9 ?_
  dsimp only at F N hg h
  have h6 : ∀ k ∈ List.range 6, k < 6 := fun k hk => List.mem_range.mp hk
  repeat walk_at "n"
  refine G.nameB F (by k_is) (by boot_fast) (by decide) ?_
  refine Pv.callWith_type1 ?_
  repeat walk_at "n"
  refine at_places N B ?_
  repeat walk_at "n"
  refine place_at (i := 3) N B (by decide) rfl ?_
  repeat walk_at "n"
  refine k_strT (i := 3) G F N B (by decide) hg hroom hu hR h6 (by simp) (fun h₁ gs₁ dr₁ tk₁ nw₁ t₁ F₁ N₁ B₁ K₁ g₁ => ?_)
  repeat walk_at "n"
  refine G.nameK F₁ (by k_is) ?_
  refine callWith_K G.kin (by k_is) ?_
  repeat walk_at "n"
  refine ⟨G.kin.keeps F₁.keep, ?_⟩
  obtain ⟨nc, hlc⟩ := B₁.fix.chp
  refine k_text G F₁ N₁ hlc ⟨rfl, nc, rfl⟩ B₁.fix.chs (Nat.lt_of_succ_lt hroom) B.fix.row h6 (by simp) (fun h₂ t₂ tk₂ F₂ N₂ => ?_)
  repeat walk_at "n"
  refine ne_same (hR.text B.fix.row) ?_
  repeat walk_at "n"
  rw [if_neg Bool.false_ne_true]
  repeat walk_at "n"
  refine at_places N₂ B₁ ?_
  repeat walk_at "n"
  refine place_at (i := 3) N₂ B₁ (by decide) rfl ?_
  refine k_method (i := 3) (f := 171) G F₂ N₂ B₁ (by decide) (fun _ _ _ => by rfl) (by k_is) (by k_is) ?_
  refine callWith_K0 (G.kin.keeps F₂.keep) (by k_is) ?_
  refine k_count (i := 3) G F₂ N₂ B₁ (by decide) (Nat.lt_of_succ_lt hroom) (fun h₃ t₃ tk₃ F₃ N₃ => ?_)
  repeat walk_at "n"
  refine ne_same_int (by rw [hR.len, List.length_range]; rfl) ?_
  repeat walk_at "n"
  rw [if_neg Bool.false_ne_true]
  repeat walk_at "t"
  rw [if_neg Bool.false_ne_true]
  repeat walk_at "n"
  exact h _ _ _ _ _ F₃ N₃ B₁ g₁
end
/- M2 -/
open PyProof.Rows.LCg (NsObj)
/-- a turn's own statements -/
def turnOf (l : List Stmt) : List Stmt := match l.drop 7 with | .For _ _ body _ _ :: _ => body | _ => []
def hots (rows : Nat → List Pair) (i : Nat) : List Nat := (List.range i).filter fun q => decide (1 < (rows q).length)
section
variable {w : World} {A : Around} {E : Value → Shared → Prop} {s : Shared} {L a l : Addr} {cd : Value} {h h₀ : Heap} {news nw nw' : List (Addr × Obj)} {b : List Stmt} {sc : Scope} {m : Str → Option Value} {dn : List Nat} {p : Pl} {rows : Nat → List Pair} {i : Nat} {ks : List Nat}
theorem lst_appendP {D : Addr} {vs : List Value} {n : Nat} {v : Value} {Q : Value → Shared → Prop} (F : Fr h₀ L s.heap m) (N : News h₀ L s.heap nw) (hx : (D, lstObj vs n) ∈ nw) (hsz : vs.length ≤ 100)
    (h : ∀ h' n', Fr h₀ L h' m → News h₀ L h' (put D (lstObj (vs ++ [v]) n') nw) → Q .none { s with heap := h' }) : wpAny (MD w) A (call (.builtin "list.append") [.ref D, v]) Q E s :=
  lst_append F N hx (by rw [sizeLine_eq]; omega) h
theorem ints_snoc : ∀ {vs : List Value} {ys : List Int} (z : Int) (t : Tok), IntsAre vs ys → IntsAre (vs ++ [.int z t]) (ys ++ [z])
  | _, _, z, t, .nil => .cons z t .nil
  | _, _, z, t, .cons y u r => .cons y u (ints_snoc z t r)
theorem drp_compP {C : Addr} {oC : Obj} {m' : Str → Option Value} {P : Heap → Prop} (F : Fr h₀ L h m) (N : News h₀ L h nw) (hC : (C, oC) ∈ nw) (hN : NsObj oC m') (k : ∀ h', Fr h₀ L h' m → News h₀ L h' (drp C nw) → P h') :
    ∃ m, h.Ns C m ∧ ∀ h', Heap.SameBut C h h' → P h' :=
  ⟨m', hN.ns (N _ hC).1, fun h' hs => by
    obtain ⟨F', N'⟩ := ext_drp F N hC hs.extBut
    exact k h' F' N'⟩
theorem getD_nat (dn : List Nat) (t : Nat) : (List.map Int.ofNat dn).getD ((t : Nat) : Int).toNat 0 = ((dn.getD t 0 : Nat) : Int) := by
  rw [Int.toNat_natCast, List.getD_eq_getElem?_getD, List.getD_eq_getElem?_getD, List.getElem?_map]
  cases dn[t]? <;> rfl
inductive HotJ (s : Shared) (h₀ : Heap) (L I : Addr) (m : Str → Option Value) (rows : Nat → List Pair) (base : List (Addr × Obj)) (i : Nat) (D C : Addr) (t : Shared) : Prop
  | mk (e : ∃ hp tk, t = { s with heap := hp, toks := tk }) (nw : List (Addr × Obj)) (oC : Obj) (m' : Str → Option Value) (n : Nat) (vs : List Value) (F : Fr h₀ L t.heap m) (N : News h₀ L t.heap nw) (hC : (C, oC) ∈ nw) (hN : NsObj oC m') (hD : (D, lstObj vs n) ∈ nw) (hv : IntsAre vs ((hots rows i).map Int.ofNat)) (hI : (I, rIt (i : Nat) ((7 - i : Nat) : Int) 1) ∈ nw)
    (h1 : C ≠ D) (h2 : C ≠ I) (h3 : D ≠ I) (hb : ∀ q ∈ base, q ∈ nw ∧ q.1 ≠ C ∧ q.1 ≠ D ∧ q.1 ≠ I)
inductive HotF (s : Shared) (h₀ : Heap) (L : Addr) (m : Str → Option Value) (rows : Nat → List Pair) (base : List (Addr × Obj)) (D C : Addr) (t : Shared) : Prop
  | mk (e : ∃ hp tk, t = { s with heap := hp, toks := tk }) (nw' : List (Addr × Obj)) (oC : Obj) (m' : Str → Option Value) (n : Nat) (vs : List Value) (F : Fr h₀ L t.heap m) (N : News h₀ L t.heap nw') (hC : (C, oC) ∈ nw') (hN : NsObj oC m') (hD : (D, lstObj vs n) ∈ nw') (hv : IntsAre vs ((hots rows 7).map Int.ofNat)) (h1 : C ≠ D)
    (hb : ∀ q ∈ base, q ∈ nw' ∧ q.1 ≠ C ∧ q.1 ≠ D)
theorem hots_len (rows : Nat → List Pair) (i : Nat) : (hots rows i).length ≤ i := by
  have := List.length_filter_le (fun q => decide (1 < (rows q).length)) (List.range i)
  simpa [hots] using this
theorem hots_succ (rows : Nat → List Pair) (i : Nat) : hots rows (i + 1) = if 1 < (rows i).length then hots rows i ++ [i] else hots rows i := by
  unfold hots
  rw [List.range_succ, List.filter_append]
  by_cases h : 1 < (rows i).length
  · rw [if_pos h]; simp [h]
  · rw [if_neg h]; simp [h]
theorem law_hot {t : Nat} {tt : Tok} {Q : Flow → Shared → Prop} (hb : (turnOf (stmtsAt (KL w))).take 2 = b) (hs : scopeAt (KL w) = sc)
    (G : At w A L h₀) (hroom : A.depth < recursionLimit) (F : Fr h₀ L s.heap m) (N : News h₀ L s.heap nw) (B : All w L dn p rows nw) (M : Loc p m) (hmt : m "turn" = some (.int (t : Nat) tt)) (ht : t < 14) (hex : ∃ q, q < 7 ∧ 1 < (rows q).length)
    (h : ∀ q tq m' nw' h' tk, q < 7 → 1 < (rows q).length → Fr h₀ L h' m' → News h₀ L h' nw' → All w L dn p rows nw' → Loc p m' → m' "turn" = some (.int (t : Nat) tt) → m' "place" = some (.int (q : Nat) tq) → (∀ z ∈ nw, z ∈ nw') → Q .next { s with heap := h', toks := tk }) :
    wpAny (MD w) A (execs b (lawEnv sc L a cd)) Q E s := by
  refine seg_start (fun l => (turnOf l).take 2) (by k_is) hb hs ?_
  dsimp only [turnOf, List.take, List.drop, stmtsAt, scopeAt]
  refine hide fun P9 hP9 => ?_
  obtain ⟨hp, gs, dr, tk, os⟩ := s
  refine hP9 ?_
  dsimp only at F N h
  refine wpAny_execs_cons ?_
  refine assign_comp (cl := [(Str.ofString "places", L + 1)]) (by rfl) (by rfl) rfl (by decide) ?_
  repeat walk_at "n"
  refine G.nameB F (by k_is) (by boot_fast) (by decide) ?_
  refine Pv.callWith_type1 ?_
  repeat walk_at "n"
  refine _root_.PySem.call_range_1 ?_
  refine iter_range (IsRange.new _ _ _ _ _ _ _) (range_small 0 7 (by omega) (by omega)) (F.push _) (fun p hp => N.push F _ rfl p (.tail _ hp)) (fun I h₃ F₃ N₃ lt₃ => ?_)
  rw [show Builtin.Range.rangeSize (0 : Int) 7 1 = ((7 : Nat) : Int) from range_size 0 7] at N₃
  refine comp_go (n := 7) (J := HotJ ⟨hp, gs, dr, tk, os⟩ h₀ L I m rows nw) (Fin := HotF ⟨hp, gs, dr, tk, os⟩ h₀ L m rows nw)
    (by decide) rfl F₃ N₃ (fun D C oC h₄ hNs F₄ N₄ lt₄ ltC => ?_) (fun D C s₁ E₁ Q₁ hJ hq => ?_) (fun D C i s₁ E₁ hi hJ => ?_) (fun D C s₁ E₁ hJ => ?_) (fun D C s₁ hJ => ?_)
  · have hID : I < D := lt₄ _ (.head _)
    refine ⟨⟨_, _, rfl⟩, _, oC, _, 0, [], F₄, N₄, .head _, hNs, .tail _ (.head _), .nil, .tail _ (.tail _ (.head _)), Nat.ne_of_gt ltC, Nat.ne_of_gt (Nat.lt_trans hID ltC), Nat.ne_of_gt hID, fun q hq => ⟨.tail _ (.tail _ (.tail _ hq)), ?_⟩⟩
    have h1 := lt₃ q hq
    have h2 : q.1 < D := lt₄ _ (.tail _ hq)
    exact ⟨Nat.ne_of_lt (Nat.lt_trans h2 ltC), Nat.ne_of_lt h2, Nat.ne_of_lt h1⟩
  · refine hide fun P9 hP9 => ?_
    obtain ⟨⟨hp', tk', rfl⟩, nw', oC, m', n, vs, F', N', hC, hNs, hD, hv, hI, _⟩ := hJ
    refine hP9 ?_
    exact wpAny_pyIter_rangeiter (N' _ hI).1 hq
  · refine hide fun P9 hP9 => ?_
    obtain ⟨⟨hp', tk', rfl⟩, nw', oC, m', n, vs, F', N', hC, hNs, hD, hv, hI, hCD, hCI, hDI, hsub⟩ := hJ
    refine hP9 ?_
    refine next_rangeP F' N' hI (by omega) (fun h₅ u F₅ N₅ => ⟨_, rfl, go_name (_root_.PyProof.Rows.assign_Name ?_)⟩)
    refine store_compP F₅ N₅ (put_mem hC hCI) hNs (by rfl) rfl (fun h₆ oC₆ hN₆ F₆ N₆ => ?_)
    have hI₆ := put_mem (d := C) (o := oC₆) (put_here (o' := rIt ((i : Nat) + 1) (((7 - i : Nat) : Int) - 1) 1) hI) (fun e => hCI e.symm)
    have hC₆ := put_here (o' := oC₆) (put_mem (d := I) (o := rIt ((i : Nat) + 1) (((7 - i : Nat) : Int) - 1) 1) hC hCI)
    have hD₆ := put_mem (d := C) (o := oC₆) (put_mem (d := I) (o := rIt ((i : Nat) + 1) (((7 - i : Nat) : Int) - 1) 1) hD hDI) (fun e => hCD e.symm)
    have far : ∀ q ∈ nw, q ∈ put C oC₆ (put I (rIt ((i : Nat) + 1) (((7 - i : Nat) : Int) - 1) 1) nw') := fun q hq => let ⟨h1, h2, h3, h4⟩ := hsub q hq; put_mem (put_mem h1 h4) h2
    generalize put C oC₆ (put I (rIt ((i : Nat) + 1) (((7 - i : Nat) : Int) - 1) 1) nw') = nw₆ at *
    have B₆ : All w L dn p rows nw₆ := B.sub far
    have e1 : ((i : Nat) : Int) + 1 = ((i + 1 : Nat) : Int) := by omega
    have e2 : ((7 - i : Nat) : Int) - 1 = ((7 - (i + 1) : Nat) : Int) := by omega
    rw [e1, e2] at hI₆
    refine wpAny_tests_one ?_
    refine hide fun P9 hP9 => ?_
    obtain ⟨oc, hcl, hoc⟩ := B₆.fix.cell
    refine hP9 ?_
    repeat walk_at "n"
    refine lcf_cell N₆ (by rfl) hcl hoc ?_ rfl (by rfl)
    refine compLP N₆ hC₆ hN₆ (by walk_at "hv") rfl (by rfl) ?_
    refine place_at (i := i) N₆ B₆ hi rfl ?_
    refine k_method (i := i) (f := 171) G F₆ N₆ B₆ hi (fun _ _ _ => by rfl) (by k_is) (by k_is) ?_
    refine callWith_K0 (G.kin.keeps F₆.keep) (by k_is) ?_
    refine k_count (i := i) G F₆ N₆ B₆ hi hroom (fun h₇ t₇ tk₇ F₇ N₇ => ?_)
    repeat walk_at "n"
    refine _root_.PySem.P.gt_int ?_
    repeat walk_at "n"
    by_cases hc : 1 < (rows i).length
    · rw [if_pos (by simp; omega)]
      refine compLP N₇ hC₆ hN₆ (by walk_at "hv") rfl (by rfl) ?_
      have hvl := hv.length
      have hhl := hots_len rows i
      refine lst_appendP F₇ N₇ hD₆ (by rw [hvl, List.length_map]; omega) (fun h₈ n₈ F₈ N₈ => ?_)
      refine ⟨⟨_, _, rfl⟩, _, oC₆, _, n₈, _, F₈, N₈, put_mem hC₆ hCD, hN₆, put_here hD₆, ?_, put_mem hI₆ (fun e => hDI e.symm), hCD, hCI, hDI, fun q hq => ⟨put_mem (far q hq) (hsub q hq).2.2.1, (hsub q hq).2⟩⟩
      rw [hots_succ, if_pos hc, List.map_append]
      exact ints_snoc _ _ hv
    · rw [if_neg (by simp; omega)]
      refine ⟨⟨_, _, rfl⟩, _, oC₆, _, n, _, F₇, N₇, hC₆, hN₆, hD₆, ?_, hI₆, hCD, hCI, hDI, fun q hq => ⟨far q hq, (hsub q hq).2⟩⟩
      rw [hots_succ, if_neg hc]
      exact hv
  · refine hide fun P9 hP9 => ?_
    obtain ⟨⟨hp', tk', rfl⟩, nw', oC, m', n, vs, F', N', hC, hNs, hD, hv, hI, hCD, hCI, hDI, hsub⟩ := hJ
    refine hP9 ?_
    exact end_rangeP G.calm F' N' hI (by omega) (fun h₅ F₅ N₅ => ⟨rfl, ⟨_, _, rfl⟩, _, oC, _, n, vs, F₅, N₅, drp_mem hC hCI, hNs, drp_mem hD hDI, hv, hCD, fun q hq => ⟨drp_mem (hsub q hq).1 (hsub q hq).2.2.2, (hsub q hq).2.1, (hsub q hq).2.2.1⟩⟩)
  · refine hide fun P9 hP9 => ?_
    obtain ⟨⟨hp', tk', rfl⟩, nw', oC, m', n, vs, F', N', hC, hNs, hD, hv, hCD, hsub⟩ := hJ
    refine hP9 ?_
    show wpAny _ _ (assign _ _ _) _ _ _
    refine _root_.PyProof.Rows.assign_Name ?_
    repeat walk_at "n"
    rename_i h₈ F₈ N₈
    refine drp_compP F₈ N₈ hC hNs (fun h₉ F₉ N₉ => ?_)
    have far : ∀ q ∈ nw, q ∈ drp C nw' := fun q hq => drp_mem (hsub q hq).1 (hsub q hq).2.1
    have hD₉ : (D, lstObj vs n) ∈ drp C nw' := drp_mem hD (fun e => hCD e.symm)
    have B₉ : All w L dn p rows (drp C nw') := B.sub far
    generalize drp C nw' = nw₉ at *
    have hmd := M.drawn
    have hml := M.leads
    have hmc := M.chips
    repeat walk_at "n"
    refine hide fun P9 hP9 => ?_
    obtain ⟨dvs, od, hld, hod, hdi⟩ := B₉.fix.drw
    refine hP9 ?_
    have hdl := B₉.fix.dlen
    refine item_anyK (hod.is N₉ hld) hdi (by omega) (by rw [List.length_map]; omega) (by omega) (fun t₁ => ?_)
    rw [getD_nat]
    repeat walk_at "n"
    refine G.nameB F₉ (by k_is) (by boot_fast) (by decide) ?_
    repeat walk_at "n"
    have hvl : vs.length = (hots rows 7).length := by rw [hv.length, List.length_map]
    have hhl := hots_len rows 7
    have hpos : 0 < (hots rows 7).length := by
      refine hide fun P9 hP9 => ?_
      obtain ⟨q, hq7, hq1⟩ := hex
      refine hP9 ?_
      exact List.length_pos_of_mem (List.mem_filter.mpr ⟨List.mem_range.mpr hq7, by simpa using hq1⟩)
    refine call_len_list (LstOb.is N₉ hD₉ ⟨rfl, n, rfl⟩) (by simp; omega) ?_
    refine _root_.PyProof.Rows.mod_int (by rw [List.size_toArray, hvl]; omega) ?_
    rw [show ((vs.toArray.size : Nat) : Int) = (((hots rows 7).length : Nat) : Int) from by rw [List.size_toArray, hvl], fm2]
    have hlt : dn.getD t 0 % (hots rows 7).length < (hots rows 7).length := Nat.mod_lt _ hpos
    refine item_anyK (LstOb.is N₉ hD₉ ⟨rfl, n, rfl⟩) hv (by omega) (by rw [List.length_map]; omega) (by omega) (fun t₂ => ?_)
    rw [getD_nat]
    obtain ⟨q, hq⟩ : ∃ q, (hots rows 7).getD (dn.getD t 0 % (hots rows 7).length) 0 = q := ⟨_, rfl⟩
    have hqm : q ∈ hots rows 7 := by
      rw [← hq, List.getD_eq_getElem?_getD, List.getElem?_eq_getElem hlt]
      exact List.getElem_mem hlt
    obtain ⟨hq7, hq1⟩ := List.mem_filter.mp hqm
    rw [hq]
    repeat walk_at "n"
    rename_i h₁₀ F₁₀ N₁₀
    exact h q _ _ _ h₁₀ _ (List.mem_range.mp hq7) (by simpa using hq1) F₁₀ N₁₀ B₉ ⟨by walk_at "hv", by walk_at "hv", by walk_at "hv"⟩ (by walk_at "hv") (by walk_at "hv") far
end
/- M3 -/
/-- the statements under «for cut» -/
def cutOf (l : List Stmt) : List Stmt := match (turnOf l).drop 3 with | .For _ _ body _ _ :: _ => body | _ => []
/-- what the frame holds in a turn -/
structure Tur (p : Pl) (t : Nat) (tt : Tok) (q : Nat) (tq : Tok) (pr : Addr) (m : Str → Option Value) : Prop where
  loc : Loc p m
  turn : m "turn" = some (.int (t : Nat) tt)
  place : m "place" = some (.int (q : Nat) tq)
  pair : m "pair" = some (.ref pr)
theorem updRow_same (rows : Nat → List Pair) (q : Nat) (r r' : List Pair) : updRow (updRow rows q r) q r' = updRow rows q r' := by
  funext j
  unfold updRow
  split <;> rfl
theorem updRow_at (rows : Nat → List Pair) (q : Nat) (r : List Pair) : updRow rows q r q = r := by simp [updRow]
section
variable {w : World} {A : Around} {E : Value → Shared → Prop} {s : Shared} {L a l : Addr} {cd : Value} {h h₀ : Heap} {news nw nw' : List (Addr × Obj)} {b : List Stmt} {sc : Scope} {m : Str → Option Value} {dn : List Nat} {p : Pl} {rows : Nat → List Pair} {i : Nat} {ks : List Nat}
inductive PushJ (w : World) (L : Addr) (g : Array GenState) (d : Drawn) (os : OsState) (dn : List Nat) (p : Pl) (rows : Nat → List Pair) (ks : List Nat) (t : Nat) (tt : Tok) (q : Nat) (tq : Tok) (pr : Addr) (x : Nat) (base : List (Addr × Obj)) (i : Nat) (t' : Shared) (m' : Str → Option Value) (nw' : List (Addr × Obj)) : Prop
  | mk (e : ∃ hp tk, t' = ⟨hp, g, d, tk, os⟩) (r' : List Pair) (B : All w L dn p (updRow rows q r') nw') (R : RowC dn r' (ks.take x ++ (ks.drop (x + 1)).take i)) (M : Tur p t tt q tq pr m') (K : ∀ z ∈ base, Calm z.2 → z ∈ nw')
theorem law_cut {t q c : Nat} {tt tq tc : Tok} {pr : Addr} {pvs : List Value} {np : Nat} {Q : Flow → Shared → Prop} (hb : cutOf (stmtsAt (KL w)) = b) (hs : scopeAt (KL w) = sc)
    (G : At w A L h₀) (hroom : A.depth + 1 < recursionLimit) (hu : A.units + 2 < cLine) (F : Fr h₀ L s.heap m) (N : News h₀ L s.heap nw) (B : All w L dn p rows nw) (hg : AllBare s.gens) (M : Tur p t tt q tq pr m) (hmc : m "cut" = some (.int (c : Nat) tc)) (hc : c = 3 ∨ c = 18) (ht : t < 14) (hq : q < 7)
    (hR : RowC dn (rows q) ks) (hk : ∀ k ∈ ks, k < 6) (hk6 : ks.length ≤ 6) (hk0 : 0 < ks.length) (hpr : (pr, lstObj pvs np) ∈ nw) (hpl : pvs.length ≤ 1)
    (h : ∀ (x : Nat) (hx : x < (rows q).length) r' n' m' nw' h' g' d' k', Fr h₀ L h' m' → News h₀ L h' nw' → All w L dn p (updRow rows q r') nw' → AllBare g' → RowC dn r' (ks.take x ++ ks.drop (x + 1)) → Tur p t tt q tq pr m' → (pr, lstObj (pvs ++ [.ref (rows q)[x].a]) n') ∈ nw' → ((rows q)[x].a, (rows q)[x].obj) ∈ nw' →
      (∀ z ∈ nw, Calm z.2 → z.1 ≠ pr → z ∈ nw') → Q .next ⟨h', g', d', k', s.os⟩) :
    wpAny (MD w) A (execs b (lawEnv sc L a cd)) Q E s := by
  refine seg_start cutOf (by k_is) hb hs ?_
  dsimp only [cutOf, turnOf, List.take, List.drop, stmtsAt, scopeAt]
  refine hide fun P9 hP9 => ?_
  obtain ⟨hp, gs, dr, tk, os⟩ := s
  refine hP9 ?_
  dsimp only at F N h hg
  refine hide fun P9 hP9 => ?_
  obtain ⟨M0, hmt, hmp, hmpr⟩ := id M
  refine hP9 ?_
  refine hide fun P9 hP9 => ?_
  obtain ⟨hmd, hmch, hml⟩ := id M0
  refine hP9 ?_
  have hln := hR.len
  repeat walk_at "n"
  refine Assign_Tuple_swapped (names := ["at", "before"]) ?_ (by rfl) (by rfl)
  repeat walk_at "n"
  refine hide fun P9 hP9 => ?_
  obtain ⟨dvs, od, hld, hod, hdi⟩ := B.fix.drw
  refine hP9 ?_
  have hdl := B.fix.dlen
  refine item_anyK (hod.is N hld) hdi (by omega) (by rw [List.length_map]; omega) (by omega) (fun t₁ => ?_)
  rw [getD_nat]
  repeat walk_at "n"
  refine _root_.PyProof.Rows.floordiv_int (by omega) ?_ (.inl (PyProof.noPylong_small (by omega)))
  repeat walk_at "n"
  refine at_places N B ?_
  repeat walk_at "n"
  refine place_at (i := q) N B hq rfl ?_
  refine k_method (i := q) (f := 171) G F N B hq (fun _ _ _ => by rfl) (by k_is) (by k_is) ?_
  refine callWith_K0 (G.kin.keeps F.keep) (by k_is) ?_
  refine k_count (i := q) G F N B hq (Nat.lt_of_succ_lt hroom) (fun h₂ t₂ tk₂ F₂ N₂ => ?_)
  refine _root_.PyProof.Rows.mod_int (by omega) ?_
  rw [fdm]
  have hxlt : dn.getD t 0 / c % (rows q).length < (rows q).length := Nat.mod_lt _ (by omega)
  generalize dn.getD t 0 / c % (rows q).length = x at *
  repeat walk_at "n"
  refine G.nameB F₂ (by k_is) (by boot_fast) (by decide) ?_
  refine Pv.callWith_type1 ?_
  repeat walk_at "n"
  refine at_places N₂ B ?_
  repeat walk_at "n"
  refine place_at (i := q) N₂ B hq rfl ?_
  repeat walk_at "n"
  refine k_strT (i := q) G F₂ N₂ B hq hg hroom hu hR hk hk6 (fun h₃ g₃ d₃ k₃ nw₃ t₃ F₃ N₃ B₃ K₃ hg₃ => ?_)
  repeat walk_at "n"
  refine new_tuple F₃ N₃ (fun a h₄ F₄ N₄ lt₄ => ?_)
  refine unpack_tup F₄ N₄ ⟨_, (N₄ _ (.head _)).1, rfl, 0, rfl⟩ G.calm rfl (fun h₅ F₅ N₅ => ?_)
  refine assign_two (f := bindName _ "before") (g := bindName _ "at") (bindName_ ?_)
  repeat walk_at "n"
  refine bindName_ ?_
  repeat walk_at "n"
  rename_i h₆ F₆ N₆
  have N₆ := news_sub (l' := nw₃) N₆ fun z hz => .tail _ hz
  refine at_places N₆ B₃ ?_
  repeat walk_at "n"
  refine place_at (i := q) N₆ B₃ hq rfl ?_
  refine k_method (i := q) (f := 126) G F₆ N₆ B₃ hq (fun _ _ _ => by rfl) (by k_is) (by k_is) ?_
  refine callWith_K G.kin (by k_is) ?_
  repeat walk_at "n"
  refine ⟨G.kin.keeps F₆.keep, ?_⟩
  refine k_pop_from (i := q) (k := x) G F₆ N₆ B₃ hq (Nat.lt_of_succ_lt hroom) (by omega) (by omega) (fun tl n₇ h₇ nw₇ tk₇ F₇ N₇ B₇ K₇ lt₇ htl hrow₇ => ?_)
  repeat walk_at "n"
  rename_i h₈ F₈ N₈
  refine at_places N₈ B₇ ?_
  repeat walk_at "n"
  refine place_at (i := q) N₈ B₇ hq rfl ?_
  refine k_method (i := q) (f := 171) G F₈ N₈ B₇ hq (fun _ _ _ => by rfl) (by k_is) (by k_is) ?_
  refine callWith_K0 (G.kin.keeps F₈.keep) (by k_is) ?_
  refine k_count (i := q) G F₈ N₈ B₇ hq (Nat.lt_of_succ_lt hroom) (fun h₉ t₉ tk₉ F₉ N₉ => ?_)
  repeat walk_at "n"
  refine ne_same_int (by rw [updRow_at, List.length_take]; omega) ?_
  repeat walk_at "n"
  rw [if_neg Bool.false_ne_true]
  repeat walk_at "n"
  refine G.nameB F₉ (by k_is) (by boot_fast) (by decide) ?_
  refine Pv.callWith_type1 ?_
  repeat walk_at "n"
  refine at_places N₉ B₇ ?_
  repeat walk_at "n"
  refine place_at (i := q) N₉ B₇ hq rfl ?_
  repeat walk_at "n"
  have hRx : RowC dn (updRow rows q ((rows q).take x) q) (ks.take x) := by rw [updRow_at]; exact hR.take x
  have hRd : RowC dn ((rows q).drop x) (ks.drop x) := hR.drop x
  refine k_strT (i := q) G F₉ N₉ B₇ hq hg₃ hroom hu hRx (fun k hk' => hk k (List.mem_of_mem_take hk')) (by rw [List.length_take]; omega) (fun hA gA dA kA nwA tA FA NA BA KA hgA => ?_)
  repeat walk_at "n"
  refine G.nameK FA (by k_is) ?_
  refine callWith_K G.kin (by k_is) ?_
  repeat walk_at "n"
  refine ⟨G.kin.keeps FA.keep, ?_⟩
  have htlA := KA _ htl (.of_cls rfl)
  have hrowA : ∀ z ∈ rows q, (z.a, z.obj) ∈ nwA := fun z hz => KA _ (hrow₇ z hz) (.of_cls rfl)
  refine k_text G FA NA htlA ⟨rfl, n₇, rfl⟩ (fun z hz => hrowA z (List.mem_of_mem_drop hz)) (Nat.lt_of_succ_lt hroom) hRd (fun k hk' => hk k (List.mem_of_mem_drop hk')) (by rw [List.length_drop]; omega) (fun hB tB kB FB NB => ?_)
  refine SB.add (fun tC kC => ?_) (by
    have h1 := hRx.sum (fun k hk' => hk k (List.mem_of_mem_take hk'))
    have h2 := hRd.sum (fun k hk' => hk k (List.mem_of_mem_drop hk'))
    have h3 := hRx.len
    have h4 := hRd.len
    simp only [List.length_drop, List.length_take] at h1 h2 h3 h4
    rw [sizeLine_eq, cat_len, cat_len]
    omega)
  repeat walk_at "n"
  refine ne_same (by rw [updRow_at, ← rowT_append, List.take_append_drop]) ?_
  repeat walk_at "n"
  rw [if_neg Bool.false_ne_true]
  repeat walk_at "t"
  rw [if_neg Bool.false_ne_true]
  repeat walk_at "n"
  have hprA : (pr, lstObj pvs np) ∈ nwA := KA _ (K₇ _ (K₃ _ hpr (.of_cls rfl)) (.of_cls rfl)) (.of_cls rfl)
  refine lst_method NB hprA ?_
  repeat walk_at "n"
  refine list_item (j := 0) (v := .ref (rows q)[x].a) NB htlA ⟨rfl, n₇, rfl⟩ rfl (by decide) (by simp [List.getElem?_drop, hxlt]) ?_
  repeat walk_at "n"
  refine lst_appendP FB NB hprA (by omega) (fun hC nC FC NC => ?_)
  repeat walk_at "n"
  have hprL : Loose (lstObj pvs np) := .inr ⟨pvs, ⟨rfl, np, rfl⟩, by omega⟩
  have htlp : tl ≠ pr := by
    have h1 : pr < tl := lt₇ _ (K₃ _ hpr (.of_cls rfl))
    exact Nat.ne_of_gt h1
  have htlC : (tl, lstObj (((rows q).drop x).map fun z => Value.ref z.a) n₇) ∈ put pr (lstObj (pvs ++ [.ref (rows q)[x].a]) nC) nwA := put_mem htlA htlp
  have hprC : (pr, lstObj (pvs ++ [.ref (rows q)[x].a]) nC) ∈ put pr (lstObj (pvs ++ [.ref (rows q)[x].a]) nC) nwA := put_here hprA
  have BC : All w L dn p (updRow rows q ((rows q).take x)) (put pr (lstObj (pvs ++ [.ref (rows q)[x].a]) nC) nwA) := BA.loose NA hprA hprL
  have hrowC : ∀ z ∈ rows q, (z.a, z.obj) ∈ put pr (lstObj (pvs ++ [.ref (rows q)[x].a]) nC) nwA := fun z hz => put_mem (hrowA z hz) (news_ne NA (hrowA z hz) hprA (fun e => by have := congrArg Obj.cls e; simp at this))
  have KC : ∀ z ∈ nw, Calm z.2 → z.1 ≠ pr → z ∈ put pr (lstObj (pvs ++ [.ref (rows q)[x].a]) nC) nwA := fun z hz hcz hne => put_mem (KA _ (K₇ _ (K₃ _ hz hcz) hcz) hcz) hne
  generalize put pr (lstObj (pvs ++ [.ref (rows q)[x].a]) nC) nwA = nwC at *
  refine wpAny_For ?_ (fun _ => rfl)
  repeat walk_at "n"
  refine new_slice FC NC (fun sl hD FD ND ltD => ?_)
  refine slice_list FD ND (.tail _ htlC) ⟨rfl, n₇, rfl⟩ (.head _) (.int _ _) .none .none (by decide) (by rw [sizeLine_eq, List.length_map, List.length_drop]; omega) (by rfl) (fun ld hE oE hoE FE NE ltE => ?_)
  have ND' : News h₀ L hE ((ld, oE) :: nwC) := news_sub NE (by
    intro z hz
    rcases List.mem_cons.mp hz with rfl | hz
    · exact .head _
    · exact .tail _ (.tail _ hz))
  have ltE' : ∀ z ∈ nwC, z.1 < ld := fun z hz => ltE z (.tail _ hz)
  have e1 : slicePick (((rows q).drop x).map fun z => Value.ref z.a).toArray (some 1) none none = (((rows q).drop (x + 1)).map fun z => Value.ref z.a).toArray := by
    have := slicePick_from' (((rows q).drop x).map fun z => Value.ref z.a).toArray 1
    rw [show (some (1 : Int)) = some (((1 : Nat) : Int)) from rfl, this, List.toList_toArray, ← List.map_drop, List.drop_drop]
  rw [e1, List.toList_toArray] at hoE
  refine iter_seq FE ND' (hoE.is ND' (.head _)) (fun I oI hF hoI FF NF ltF => ?_)
  have hIb : ∀ z ∈ nwC, z.1 ≠ I := fun z hz => Nat.ne_of_lt (ltF z (.tail _ hz))
  have hRd1 : RowC dn ((rows q).drop (x + 1)) (ks.drop (x + 1)) := hR.drop (x + 1)
  have hlen1 := hRd1.len
  refine for_list (vs := ((rows q).drop (x + 1)).map fun z => Value.ref z.a) (PushJ w L gA dA os dn p rows ks t tt q tq pr x nwC) G.calm hoE
    (fun i t' m' nw' h' tk o o' hi hJ N' hI hit => ?_) (fun i t' m' nw' v o E' R hR1 hv hJ F' N' hI hit hl => ?_) FF NF (.head _) hoI (.tail _ (.head _)) ?_ (fun t' m' nw' h' o hJ N' hI hit F' Nd => ?_)
  · refine hide fun P9 hP9 => ?_
    obtain ⟨⟨hp, tk', rfl⟩, r', B', hR', M', K'⟩ := hJ
    refine hP9 ?_
    exact ⟨⟨_, _, rfl⟩, r', B'.loose N' hI (lit_loose hit), hR', M', fun z hz hcz => put_mem (K' z hz hcz) (hIb z hz)⟩
  · refine hide fun P9 hP9 => ?_
    obtain ⟨⟨hp, tk', rfl⟩, r', B', hR', ⟨⟨hmd', hmch', hml'⟩, hmt', hmp', hmpr'⟩, K'⟩ := hJ
    refine hP9 ?_
    have hi1 : i < ((rows q).drop (x + 1)).length := by
      rcases Nat.lt_or_ge i ((rows q).drop (x + 1)).length with z | z
      · exact z
      · rw [List.getElem?_eq_none (by rw [List.length_map]; exact z)] at hv; cases hv
    obtain ⟨z, hz⟩ : ∃ z, ((rows q).drop (x + 1))[i] = z := ⟨_, rfl⟩
    have hzm : z ∈ rows q := List.mem_of_mem_drop (hz ▸ List.getElem_mem hi1)
    have hq : v = .ref z.a := by
      rw [List.getElem?_map, List.getElem?_eq_getElem hi1, hz] at hv
      exact (Option.some.inj hv).symm
    subst hq
    obtain ⟨ef, eg⟩ := hRd1.get hi1 (by omega)
    rw [hz] at ef eg
    refine assign_pair F' N' G.calm (K' _ (hrowC z hzm) (.of_cls rfl)) rfl rfl rfl (fun h₂ F₂ N₂ => ?_)
    refine _root_.PyProof.Rows.assign_Name ?_
    repeat walk_at "n"
    refine _root_.PyProof.Rows.assign_Name ?_
    repeat walk_at "n"
    rename_i h₃ F₃ N₃
    refine at_places N₃ B' ?_
    repeat walk_at "n"
    refine place_at (i := q) N₃ B' hq rfl ?_
    refine k_method (i := q) (f := 118) G F₃ N₃ B' hq (fun _ _ _ => by rfl) (by k_is) (by k_is) ?_
    refine callWith_K G.kin (by k_is) ?_
    repeat walk_at "n"
    refine ⟨G.kin.keeps F₃.keep, ?_⟩
    refine k_push (i := q) G F₃ N₃ B' hq (Nat.lt_of_succ_lt hroom) (by rw [updRow_at, hR'.len, List.length_append, List.length_take, List.length_take, List.length_drop]; omega) (fun b h₄ nw₄ tk₄ F₄ N₄ B₄ K₄ => ?_)
    repeat walk_at "n"
    rw [updRow_same, updRow_at] at B₄
    refine hR1 _ _ _ ⟨⟨_, _, rfl⟩, _, B₄, ?_, ⟨⟨by walk_at "hv", by walk_at "hv", by walk_at "hv"⟩, by walk_at "hv", by walk_at "hv", by walk_at "hv"⟩, fun z hz hcz => K₄ _ (K' z hz hcz) hcz⟩ F₄ N₄ (K₄ _ hI (.of_cls hit.1)) (K₄ _ hl (.of_cls hoE.1))
    have e : (ks.drop (x + 1)).take (i + 1) = (ks.drop (x + 1)).take i ++ [(ks.drop (x + 1))[i]] := by rw [List.take_add_one]; simp [show i < (ks.drop (x + 1)).length from by omega]
    rw [e, ← List.append_assoc]
    refine hR'.append ?_
    unfold RowC
    simp only [List.map_cons, List.map_nil, ef, eg]
  · refine ⟨⟨_, _, rfl⟩, _, BC.sub fun z hz => .tail _ (.tail _ hz), ?_, ⟨⟨by walk_at "hv", by walk_at "hv", by walk_at "hv"⟩, by walk_at "hv", by walk_at "hv", by walk_at "hv"⟩, fun z hz _ => .tail _ (.tail _ hz)⟩
    rw [List.take_zero, List.append_nil]
    exact hR.take x
  · refine hide fun P9 hP9 => ?_
    obtain ⟨⟨hp, tk', rfl⟩, r', B', hR', M', K'⟩ := hJ
    refine hP9 ?_
    repeat walk_at "n"
    rw [List.length_map, hlen1, List.take_of_length_le (Nat.le_refl _)] at hR'
    have far : ∀ z ∈ nwC, Calm z.2 → z ∈ drp I nw' := fun z hz hcz => drp_mem (K' z hz hcz) (hIb z hz)
    exact h x hxlt r' nC m' _ h' _ _ _ F' Nd (B'.drop N' hI (lit_loose hit)) hgA hR' M' (far _ hprC (.of_cls rfl)) (far _ (hrowC _ (List.getElem_mem hxlt)) (.of_cls rfl)) (fun z hz hcz hne => far z (KC z hz hcz hne) hcz)
end
/- M4 -/
/-- a chip, as a pair in the ledger -/
def ChipIs (dn : List Nat) (nw : List (Addr × Obj)) (P : Pair) (k : Nat) : Prop := (P.a, P.obj) ∈ nw ∧ P.f = tx (shownAt dn k) ∧ P.g = tx (wordAt dn k)
def less1 (ks : List Nat) (x : Nat) : List Nat := ks.take x ++ ks.drop (x + 1)
/-- what the cuts have taken -/
def Got (dn : List Nat) (nw : List (Addr × Obj)) (ks : List Nat) : Nat → List Value → List Nat → Prop
  | 0, pvs, ksr => pvs = [] ∧ ksr = ks
  | 1, pvs, ksr => ∃ (x : Nat) (hx : x < ks.length) (P : Pair), pvs = [.ref P.a] ∧ ChipIs dn nw P ks[x] ∧ ksr = less1 ks x
  | _ + 2, pvs, ksr => ∃ (x : Nat) (hx : x < ks.length) (y : Nat) (hy : y < (less1 ks x).length) (P P' : Pair), pvs = [.ref P.a, .ref P'.a] ∧ ChipIs dn nw P ks[x] ∧ ChipIs dn nw P' (less1 ks x)[y] ∧ ksr = less1 (less1 ks x) y
theorem ChipIs.up {dn : List Nat} {nw nw' : List (Addr × Obj)} {P : Pair} {k : Nat} (h : ChipIs dn nw P k) (hs : (P.a, P.obj) ∈ nw → (P.a, P.obj) ∈ nw') : ChipIs dn nw' P k := ⟨hs h.1, h.2⟩
theorem Got.up {dn : List Nat} {nw nw' : List (Addr × Obj)} {ks : List Nat} {pvs : List Value} {ksr : List Nat} (hs : ∀ P : Pair, (P.a, P.obj) ∈ nw → (P.a, P.obj) ∈ nw') {i : Nat} (h : Got dn nw ks i pvs ksr) : Got dn nw' ks i pvs ksr := by
  rcases i with _ | _ | i
  · exact h
  · refine hide fun P9 hP9 => ?_
    obtain ⟨x, hx, P, h1, h2, h3⟩ := h
    refine hP9 ?_
    exact ⟨x, hx, P, h1, h2.up (hs P), h3⟩
  · refine hide fun P9 hP9 => ?_
    obtain ⟨x, hx, y, hy, P, P', h1, h2, h3, h4⟩ := h
    refine hP9 ?_
    exact ⟨x, hx, y, hy, P, P', h1, h2.up (hs P), h3.up (hs P'), h4⟩
theorem Got.step {dn : List Nat} {nw nw' : List (Addr × Obj)} {ks : List Nat} {pvs : List Value} {ksr : List Nat} {i x : Nat} {P : Pair} (hs : ∀ P : Pair, (P.a, P.obj) ∈ nw → (P.a, P.obj) ∈ nw') (hi : i < 2) (h : Got dn nw ks i pvs ksr) (hx : x < ksr.length) (c : ChipIs dn nw' P ksr[x]) :
    Got dn nw' ks (i + 1) (pvs ++ [.ref P.a]) (less1 ksr x) := by
  rcases i with _ | _ | i
  · obtain ⟨e1, e2⟩ := h
    subst e1 e2
    exact ⟨x, hx, P, rfl, c, rfl⟩
  · refine hide fun P9 hP9 => ?_
    obtain ⟨x0, hx0, P0, e1, c0, e2⟩ := h
    refine hP9 ?_
    subst e1 e2
    exact ⟨x0, hx0, x, hx, P0, P, rfl, c0.up (hs P0), c, rfl⟩
  · exact absurd hi (by omega)
theorem updRow_self (rows : Nat → List Pair) (q : Nat) : updRow rows q (rows q) = rows := by
  funext j
  unfold updRow
  split
  · rename_i h; rw [h]
  · rfl
theorem less1_len {ks : List Nat} {x : Nat} (hx : x < ks.length) : (less1 ks x).length = ks.length - 1 := by
  unfold less1
  rw [List.length_append, List.length_take, List.length_drop]; omega
theorem less1_mem {ks : List Nat} {x k : Nat} (h : k ∈ less1 ks x) : k ∈ ks := by
  rcases List.mem_append.mp h with h | h
  · exact List.mem_of_mem_take h
  · exact List.mem_of_mem_drop h
def TIt (t : Addr) (i : Nat) (o : Obj) : Prop := o.cls = .type "tuple_iterator" ∧ o.data = .fields #[.ref t, .int i 0]
section
variable {w : World} {A : Around} {E : Value → Shared → Prop} {s : Shared} {L a l : Addr} {cd : Value} {h h₀ : Heap} {news nw nw' : List (Addr × Obj)} {b : List Stmt} {sc : Scope} {m : Str → Option Value} {dn : List Nat} {p : Pl} {rows : Nat → List Pair} {i : Nat} {ks : List Nat}
theorem iter_tup {T : Addr} {v : List Value} {Q : Value → Shared → Prop} (F : Fr h₀ L s.heap m) (N : News h₀ L s.heap nw) (hT : (T, ({ cls := .type "tuple", data := .seq v.toArray } : Obj)) ∈ nw)
    (h : ∀ I o h', TIt T 0 o → Fr h₀ L h' m → News h₀ L h' ((I, o) :: nw) → (∀ z ∈ nw, z.1 < I) → Q (.ref I) { s with heap := h' }) : wpAny (MD w) A (pyIter (.ref T)) Q E s :=
  wpAny_pyIter_tuple ⟨_, (N _ hT).1, rfl, 0, rfl⟩ (h _ _ _ ⟨rfl, rfl⟩ (F.push _) (N.push F _) fun p hp => Heap.lt_size (N p hp).1)
theorem next_tupP {T I : Addr} {o : Obj} {v : List Value} {y : Value} {Q : Option Value → Shared → Prop} (F : Fr h₀ L s.heap m) (N : News h₀ L s.heap nw) (hI : (I, o) ∈ nw) (ho : TIt T i o) (hT : (T, ({ cls := .type "tuple", data := .seq v.toArray } : Obj)) ∈ nw) (hx : v[i]? = some y)
    (h : ∀ h' o', TIt T (i + 1) o' → Fr h₀ L h' m → News h₀ L h' (put I o' nw) → Q (some y) { s with heap := h' }) : wpAny (MD w) A (pyNext (.ref I)) Q E s := by
  refine wpAny_pyNext_tuple_item (i := i) (items := v.toArray) ⟨o, (N _ hI).1, ho.1, ho.2⟩ ⟨_, (N _ hT).1, rfl, 0, rfl⟩ (by simpa using hx) fun h' hit hs => ?_
  refine hide fun P9 hP9 => ?_
  obtain ⟨o', h1, h2, h3⟩ := hit
  refine hP9 ?_
  obtain ⟨F', N'⟩ := same_put F N hI hs h1
  exact h h' o' ⟨h2, h3⟩ F' N'
theorem end_tupP {T I : Addr} {o : Obj} {v : List Value} {Q : Option Value → Shared → Prop} (hh : A.handled = none) (F : Fr h₀ L s.heap m) (N : News h₀ L s.heap nw) (hI : (I, o) ∈ nw) (ho : TIt T i o) (hT : (T, ({ cls := .type "tuple", data := .seq v.toArray } : Obj)) ∈ nw) (hx : v.length ≤ i)
    (h : ∀ h', Fr h₀ L h' m → News h₀ L h' (drp I nw) → Q none { s with heap := h' }) : wpAny (MD w) A (pyNext (.ref I)) Q E s := by
  refine wpAny_pyNext_tuple_end (i := i) (items := v.toArray) hh ⟨o, (N _ hI).1, ho.1, ho.2⟩ ⟨_, (N _ hT).1, rfl, 0, rfl⟩ (by simpa using hx) fun h' hs => ?_
  obtain ⟨F', N'⟩ := ext_drp F N hI hs
  exact h h' F' N'
theorem tit_loose {T : Addr} {o : Obj} (h : TIt T i o) : Loose o := .inl ⟨_, _, h.1, h.2⟩
def cutN : Nat → Nat | 0 => 3 | _ => 18
theorem cutN_or (i : Nat) : cutN i = 3 ∨ cutN i = 18 := by
  rcases i with _ | i
  · exact .inl rfl
  · exact .inr rfl
theorem cut_val (t1 t2 : Tok) (i : Nat) (hi : i < 2) : ([.int 3 t1, .int 18 t2] : List Value)[i]? = some (.int (cutN i : Nat) (if i = 0 then t1 else t2)) := by
  rcases i with _ | _ | i
  · rfl
  · rfl
  · exact absurd hi (by omega)
inductive CutJ (w : World) (L : Addr) (os : OsState) (dn : List Nat) (p : Pl) (rows : Nat → List Pair) (ks : List Nat) (t : Nat) (tt : Tok) (q : Nat) (tq : Tok) (pr T I : Addr) (h₀ : Heap) (base : List (Addr × Obj)) (i : Nat) (s' : Shared) : Prop
  | mk (e : ∃ hp g d tk, s' = ⟨hp, g, d, tk, os⟩ ∧ AllBare g) (m' : Str → Option Value) (nw : List (Addr × Obj)) (o : Obj) (pvs : List Value) (np : Nat) (r' : List Pair) (ksr : List Nat) (F : Fr h₀ L s'.heap m') (N : News h₀ L s'.heap nw) (hI : (I, o) ∈ nw) (it : TIt T i o) (hT : ∃ t1 t2, (T, ({ cls := .type "tuple", data := .seq #[.int 3 t1, .int 18 t2] } : Obj)) ∈ nw)
    (B : All w L dn p (updRow rows q r') nw) (R : RowC dn r' ksr) (M : Tur p t tt q tq pr m') (hpr : (pr, lstObj pvs np) ∈ nw) (hl : pvs.length = i) (G : Got dn nw ks i pvs ksr) (hk : ksr.length + i = ks.length) (km : ∀ k ∈ ksr, k ∈ ks) (K : ∀ z ∈ base, Calm z.2 → z ∈ nw)
theorem law_pair {t q : Nat} {tt tq : Tok} {Q : Flow → Shared → Prop} (hb : ((turnOf (stmtsAt (KL w))).drop 2).take 2 = b) (hs : scopeAt (KL w) = sc)
    (G : At w A L h₀) (hroom : A.depth + 1 < recursionLimit) (hu : A.units + 2 < cLine) (F : Fr h₀ L s.heap m) (N : News h₀ L s.heap nw) (B : All w L dn p rows nw) (hg : AllBare s.gens) (M : Loc p m) (hmt : m "turn" = some (.int (t : Nat) tt)) (hmp : m "place" = some (.int (q : Nat) tq)) (ht : t < 14) (hq : q < 7)
    (hR : RowC dn (rows q) ks) (hk : ∀ k ∈ ks, k < 6) (hk6 : ks.length ≤ 6) (hk0 : 2 ≤ ks.length)
    (h : ∀ pr pvs np r' ksr m' nw' h' g' d' k', Fr h₀ L h' m' → News h₀ L h' nw' → All w L dn p (updRow rows q r') nw' → AllBare g' → RowC dn r' ksr → Tur p t tt q tq pr m' → (pr, lstObj pvs np) ∈ nw' → Got dn nw' ks 2 pvs ksr →
      (∀ z ∈ nw, Calm z.2 → z ∈ nw') → Q .next ⟨h', g', d', k', s.os⟩) :
    wpAny (MD w) A (execs b (lawEnv sc L a cd)) Q E s := by
  refine seg_start (fun l => ((turnOf l).drop 2).take 2) (by k_is) hb hs ?_
  dsimp only [cutOf, turnOf, List.take, List.drop, stmtsAt, scopeAt]
  refine hide fun P9 hP9 => ?_
  obtain ⟨hp, gs, dr, tk, os⟩ := s
  refine hP9 ?_
  dsimp only at F N h hg
  refine hide fun P9 hP9 => ?_
  obtain ⟨hmd, hmch, hml⟩ := id M
  refine hP9 ?_
  repeat walk_at "n"
  refine new_list F N (fun pr h₁ F₁ N₁ lt₁ => ?_)
  repeat walk_at "n"
  rename_i h₂ F₂ N₂
  refine wpAny_For ?_ (fun _ => rfl)
  repeat walk_at "n"
  refine new_tuple F₂ N₂ (fun T h₃ F₃ N₃ lt₃ => ?_)
  refine iter_tup (v := [.int 3 _, .int 18 _]) F₃ N₃ (.head _) (fun I oI h₄ hoI F₄ N₄ lt₄ => ?_)
  dsimp only
  have hbase : ∀ z ∈ nw, z.1 ≠ pr ∧ z.1 ≠ I := fun z hz => ⟨Nat.ne_of_lt (lt₁ z hz), Nat.ne_of_lt (lt₄ z (.tail _ (.tail _ hz)))⟩
  have hIT : T ≠ I := Nat.ne_of_lt (lt₄ _ (.head _))
  have hIpr : pr ≠ I := Nat.ne_of_lt (lt₄ _ (.tail _ (.head _)))
  have hTpr : T ≠ pr := Nat.ne_of_gt (lt₃ _ (.head _))
  refine for_then (fun f s' => f = .next ∧ (∃ hp g d tk, s' = ⟨hp, g, d, tk, os⟩ ∧ AllBare g) ∧ ∃ m' nw' pvs np r' ksr, Fr h₀ L s'.heap m' ∧ News h₀ L s'.heap nw' ∧ All w L dn p (updRow rows q r') nw' ∧ RowC dn r' ksr ∧ Tur p t tt q tq pr m' ∧ (pr, lstObj pvs np) ∈ nw' ∧ Got dn nw' ks 2 pvs ksr ∧ (∀ z ∈ nw, Calm z.2 → z ∈ nw')) 2
    (fun i s' => CutJ w L os dn p rows ks t tt q tq pr T I h₀ nw i s') (fun i s₁ E₁ R hR1 hR2 hR3 hi hJ => ?_) (fun s₁ E₁ R hR0 hJ => ?_) ?_ (fun f s' z => ?_)
  · refine hide fun P9 hP9 => ?_
    obtain ⟨⟨hp, g, d, tk', rfl, hg'⟩, m', nw', o, pvs, np, r', ksr, F', N', hI, hit, ⟨t1, t2, hTm⟩, B', hR', M', hpr, hpl, hgot, hkl, hkm, hK⟩ := hJ
    refine hP9 ?_
    refine next_tupP (v := [.int 3 t1, .int 18 t2]) F' N' hI hit hTm (cut_val t1 t2 i hi) (fun h₅ o₅ ho₅ F₅ N₅ => ⟨_, rfl, go_name (_root_.PyProof.Rows.assign_Name ?_)⟩)
    have B₅ := B'.loose (o' := o₅) N' hI (tit_loose hit)
    have hne : pr ≠ I := hIpr
    refine hide fun P9 hP9 => ?_
    obtain ⟨⟨hmd', hmch', hml'⟩, hmt', hmp', hmpr'⟩ := M'
    refine hP9 ?_
    refine storeX_U F₅ N₅ (fun m₆ U₆ h₆ F₆ N₆ => ?_) rfl rfl
    have hpr₆ := put_mem (o := o₅) hpr hIpr
    have hT₆ := put_mem (o := o₅) hTm hIT
    have hI₆ := put_here (o' := o₅) hI
    have hK₆ : ∀ z ∈ nw, Calm z.2 → z ∈ put I o₅ nw' := fun z hz hcz => put_mem (hK z hz hcz) (hbase z hz).2
    have hgot₆ : Got dn (put I o₅ nw') ks i pvs ksr := hgot.up fun P hP => put_mem hP (news_ne N' hP hI (fun e => by have := hit.2; rw [← show P.obj = o from e] at this; cases this))
    generalize put I o₅ nw' = nw₆ at *
    refine law_cut (s := ⟨h₆, g, d, _, os⟩) (rows := updRow rows q r') (ks := ksr) (q := q) (c := cutN i) (pr := pr) (pvs := pvs) ?hb ?hs G hroom hu F₆ N₆ B₅ hg' ⟨⟨by walk_at "hv", by walk_at "hv", by walk_at "hv"⟩, by walk_at "hv", by walk_at "hv", by walk_at "hv"⟩ (by walk_at "hv") (cutN_or i) ht hq (by rw [updRow_at]; exact hR') (fun k hk' => hk k (hkm k hk')) (by omega) (by omega) hpr₆ (by omega) (fun x hx r'' n'' m'' nw'' h'' g'' d'' k'' F'' N'' B'' hg'' hR'' M'' hpr'' hP'' hK'' => ?_)
    case hb => kernel_rfl
    case hs => kernel_rfl
    rw [updRow_same] at B''
    have hR2 : RowC dn (updRow rows q r' q) ksr := by rw [updRow_at]; exact hR'
    have hxk : x < ksr.length := by rw [← hR2.len]; exact hx
    obtain ⟨ef, eg⟩ := hR2.get hx hxk
    obtain ⟨P, hPe⟩ : ∃ P, (updRow rows q r' q)[x] = P := ⟨_, rfl⟩
    rw [hPe] at hpr'' hP'' ef eg
    have hI'' : (I, o₅) ∈ nw'' := hK'' _ hI₆ (.of_cls ho₅.1) (fun e => hIpr e.symm)
    have hT'' := hK'' _ hT₆ (.of_cls rfl) hTpr
    have far : ∀ P : Pair, (P.a, P.obj) ∈ nw₆ → (P.a, P.obj) ∈ nw'' := fun P hP => hK'' _ hP (.of_cls rfl) (news_ne N₆ hP hpr₆ (fun e => by have := congrArg Obj.cls e; simp at this))
    exact hR1 _ ⟨⟨_, _, _, _, rfl, hg''⟩, m'', nw'', o₅, _, n'', r'', less1 ksr x, F'', N'', hI'', ho₅, ⟨_, _, hT''⟩, B'', hR'', M'', hpr'', by simp [hpl], hgot₆.step far hi hxk ⟨hP'', ef, eg⟩, by rw [less1_len hxk]; omega, fun k hk' => hkm k (less1_mem hk'), fun z hz hcz => hK'' _ (hK₆ z hz hcz) hcz (hbase z hz).1⟩
  · refine hide fun P9 hP9 => ?_
    obtain ⟨⟨hp, g, d, tk', rfl, hg'⟩, m', nw', o, pvs, np, r', ksr, F', N', hI, hit, ⟨t1, t2, hTm⟩, B', hR', M', hpr, hpl, hgot, hkl, hkm, hK⟩ := hJ
    refine hP9 ?_
    refine end_tupP (v := [.int 3 t1, .int 18 t2]) G.calm F' N' hI hit hTm (by simp) (fun h₅ F₅ N₅ => ⟨rfl, hR0 _ ⟨rfl, ⟨_, _, _, _, rfl, hg'⟩, m', _, pvs, np, r', ksr, F₅, N₅, B'.drop N' hI (tit_loose hit), hR', M', drp_mem hpr hIpr, ?_, fun z hz hcz => drp_mem (hK z hz hcz) (hbase z hz).2⟩⟩)
    exact hgot.up fun P hP => drp_mem hP (news_ne N' hP hI (fun e => by have := hit.2; rw [← show P.obj = o from e] at this; cases this))
  · refine ⟨⟨_, _, _, _, rfl, hg⟩, _, _, oI, [], 0, rows q, ks, F₄, N₄, .head _, hoI, ⟨_, _, .tail _ (.head _)⟩, ?_, hR, ⟨⟨by walk_at "hv", by walk_at "hv", by walk_at "hv"⟩, by walk_at "hv", by walk_at "hv", by walk_at "hv"⟩, .tail _ (.tail _ (.head _)), rfl, ⟨rfl, rfl⟩, rfl, fun k hk => hk, fun z hz _ => .tail _ (.tail _ (.tail _ hz))⟩
    rw [updRow_self]
    exact B.sub fun z hz => .tail _ (.tail _ (.tail _ hz))
  · refine hide fun P9 hP9 => ?_
    obtain ⟨rfl, ⟨hp, g, d, tk', rfl, hg'⟩, m', nw', pvs, np, r', ksr, F', N', B', hR', M', hpr, hgot, hK⟩ := z
    refine hP9 ?_
    repeat walk_at "n"
    exact h pr pvs np r' ksr m' nw' _ g d _ F' N' B' hg' hR' M' hpr hgot hK
end
/- M5 -/
theorem g_ell : allWords.all (fun wd => tx dots ++ Txt.join (tx dots) (signs (tx wd)) ++ tx dots == tx (ell' wd) || wd.length == 0) = true := by decide +kernel
theorem cps_dots : Str.ofString "..." = tx dots := by decide +kernel
theorem ell_is {wd : List Nat} (h : wd ∈ allWords) (h0 : wd.length ≠ 0) : tx dots ++ Txt.join (tx dots) (signs (tx wd)) ++ tx dots = tx (ell' wd) := by
  have := List.all_eq_true.mp g_ell wd h
  have hl : (wd.length == 0) = false := by simpa using h0
  rw [hl, Bool.or_false] at this
  exact beq_iff_eq.mp this
theorem g_small : allWords.all (fun wd => decide ((Txt.join (tx dots) (signs (tx wd))).length ≤ 100)) = true := by decide +kernel
theorem ell_small {wd : List Nat} (h : wd ∈ allWords) : (Txt.join (tx dots) (signs (tx wd))).length ≤ 100 := by simpa using List.all_eq_true.mp g_small wd h
theorem rev_two (x y : Value) : (slicePick ([x, y] : List Value).toArray none none (some (-1))).toList = [y, x] := by
  have e : sliceRange (sliceBounds none none (some (-1)) 2).1 (sliceBounds none none (some (-1)) 2).2.1 (sliceBounds none none (some (-1)) 2).2.2 = [1, 0] := by decide +kernel
  unfold slicePick
  rw [show ([x, y] : List Value).toArray.size = 2 from rfl, e]
  rfl
section
variable {w : World} {A : Around} {E : Value → Shared → Prop} {s : Shared} {L a l : Addr} {cd : Value} {h h₀ : Heap} {news nw nw' : List (Addr × Obj)} {b : List Stmt} {sc : Scope} {m : Str → Option Value} {dn : List Nat} {p : Pl} {rows : Nat → List Pair} {i j : Nat} {ks : List Nat}
/-- leads[..] at a lead that is known -/
theorem lead_item {value slice : Expr} {f : Str} {tf : Tok} {Q : Value → Shared → Prop} (N : News h₀ L s.heap nw) (B : All w L dn p rows nw) (hk : p.k = 6) (hi : i < 6) (hf : f = tx (shownAt dn i)) (h : Q (.ref (p.wx i)) { s with toks := s.toks + 1 })
    (hs : subscripted slice false (.ref p.dl) (.str f tf) = operate [.ref p.dl, .str f tf] (getItem (.ref p.dl) (.str f tf)) := by with_unfolding_all rfl) (hg : ∀ r, letTemporaryGo value (.ref p.dl) r = pure () := by intro _; with_unfolding_all rfl) :
    wpAny (MD w) A (subscriptTail value slice (.ref p.dl) (.str f tf)) Q E s := by
  subst hf
  refine hide fun P9 hP9 => ?_
  obtain ⟨o, h1, h2⟩ := B.fix.dct
  refine hP9 ?_
  exact kda_item (knd := skn w) (k := tx (shownAt dn i)) N h1 h2 (strKind_is _ _ _ _) (lead_at B.fix.k6 (by omega)) h hs hg
theorem k_lessm {pl : Sem Bool} {Q : Value × List Value → Shared → Prop} (G : At w A L h₀) (F : Fr h₀ L s.heap m) (N : News h₀ L s.heap nw) {x : Addr} {c : WS} (W : WsObj nw x c) (h : Q (.ref 73, [.ref x]) s) :
    wpAny (MD w) A (getMethod (.ref x) (Str.ofString "less") pl) Q E s := by
  refine hide fun P9 hP9 => ?_
  obtain ⟨dx, es, n, tt, tc, tb, vs, tn, tnt, h1, h2, h3, h4, h5, h6, h7, h8, h9, h10, h11, h12⟩ := W
  refine hP9 ?_
  exact ws_method (f := 73) G.kin F N h1 h2 h12 (by k_is) (by k_is) h
theorem k_less {x y : Addr} {c d : List Nat} {Q : Value → Shared → Prop} (G : At w A L h₀) (F : Fr h₀ L s.heap m) (N : News h₀ L s.heap nw) (W : WsObj nw x (scan c)) (W' : WsObj nw y (scan d)) (hroom : A.depth + 1 < recursionLimit) (hc : c.length ≤ 100) (hd : d.length ≤ 100)
    (h : ∀ h' tk, Fr h₀ L h' m → News h₀ L h' nw → Q (.bool (wsLess (scan c) (scan d))) { s with heap := h', toks := tk }) :
    wpAny (MD w) A (call (.ref 73) [.ref x, .ref y]) Q E s := by
  have h1 := scan_len c
  have h2 := scan_len d
  have h3 := scan_bb c
  have h4 := scan_bb d
  exact less_ok G F N W W' hroom (by omega) (by omega) (by omega) (by omega) h
theorem law_lesser {t q : Nat} {tt tq : Tok} {pr : Addr} {np : Nat} {P P' : Pair} {Q : Flow → Shared → Prop} (hb : ((turnOf (stmtsAt (KL w))).drop 4).take 1 = b) (hs : scopeAt (KL w) = sc)
    (G : At w A L h₀) (hroom : A.depth + 1 < recursionLimit) (F : Fr h₀ L s.heap m) (N : News h₀ L s.heap nw) (B : All w L dn p rows nw) (hk : p.k = 6) (M : Tur p t tt q tq pr m) (hpr : (pr, lstObj [.ref P.a, .ref P'.a] np) ∈ nw)
    (c : ChipIs dn nw P i) (c' : ChipIs dn nw P' j) (hi : i < 6) (hj : j < 6) (hne : i ≠ j)
    (h : ∀ m' h' tk, Fr h₀ L h' m' → News h₀ L h' nw → Tur p t tt q tq pr m' → m' "lesser" = some (.bool (decide (i < j))) → Q .next { s with heap := h', toks := tk }) :
    wpAny (MD w) A (execs b (lawEnv sc L a cd)) Q E s := by
  refine seg_start (fun l => ((turnOf l).drop 4).take 1) (by k_is) hb hs ?_
  dsimp only [turnOf, List.take, List.drop, stmtsAt, scopeAt]
  refine hide fun P9 hP9 => ?_
  obtain ⟨hp, gs, dr, tk, os⟩ := s
  refine hP9 ?_
  dsimp only at F N h
  refine hide fun P9 hP9 => ?_
  obtain ⟨⟨hmd, hmch, hml⟩, hmt, hmp, hmpr⟩ := id M
  refine hP9 ?_
  have e0 : ((t : Nat) : Int).fmod 2 = ((t : Nat) : Int).fmod (2 : Nat) := rfl
  repeat walk_at "n"
  refine _root_.PyProof.Rows.mod_int (by decide) ?_
  rw [e0, fm2]
  repeat walk_at "n"
  refine eq_int ?_
  repeat walk_at "n"
  by_cases hev : t % 2 = 0
  · rw [if_pos (by simp [hev])]
    repeat walk_at "n"
    refine list_item (j := 0) N hpr ⟨rfl, np, rfl⟩ rfl (by decide) rfl ?_
    repeat walk_at "n"
    refine tup_item (j := 0) (vs := [.str P.f P.tf, .str P.g P.tg]) N c.1 rfl (by decide) rfl ?_
    refine lead_item N B hk hi c.2.1 ?_
    refine k_lessm G F N (B.fix.wss i (by omega)) ?_
    refine callWith_K G.kin (by k_is) ?_
    repeat walk_at "n"
    refine list_item (j := 1) N hpr ⟨rfl, np, rfl⟩ rfl (by decide) rfl ?_
    repeat walk_at "n"
    refine tup_item (j := 0) (vs := [.str P'.f P'.tf, .str P'.g P'.tg]) N c'.1 rfl (by decide) rfl ?_
    refine lead_item N B hk hj c'.2.1 ?_
    repeat walk_at "n"
    refine ⟨G.kin.keeps F.keep, ?_⟩
    refine k_less G F N (B.fix.wss i (by omega)) (B.fix.wss j (by omega)) hroom (by rw [shownAt_len hi]; omega) (by rw [shownAt_len hj]; omega) (fun h₁ tk₁ F₁ N₁ => ?_)
    have ew : wsLess (scan (shownAt dn i)) (scan (shownAt dn j)) = decide (i < j) := by
      by_cases hlt : i < j
      · rw [less_up hlt hj, decide_eq_true hlt]
      · rw [less_down (by omega) hi, decide_eq_false hlt]
    rw [ew]
    repeat walk_at "n"
    rename_i h₂ F₂ N₂
    exact h _ h₂ _ F₂ N₂ ⟨⟨by walk_at "hv", by walk_at "hv", by walk_at "hv"⟩, by walk_at "hv", by walk_at "hv", by walk_at "hv"⟩ (by walk_at "hv")
  · rw [if_neg (by simp; omega)]
    repeat walk_at "n"
    refine G.nameK F (by k_is) ?_
    refine callWith_K G.kin (by k_is) ?_
    repeat walk_at "n"
    refine GM.join ?_
    repeat walk_at "n"
    refine list_item (j := 0) N hpr ⟨rfl, np, rfl⟩ rfl (by decide) rfl ?_
    repeat walk_at "n"
    refine tup_item (j := 1) (vs := [.str P.f P.tf, .str P.g P.tg]) N c.1 rfl (by decide) rfl ?_
    repeat walk_at "n"
    rw [c.2.2, cps_dots]
    refine join_strF G.calm F N (joinOk_signsN (N := 100) (S := 10) (by rw [tx_len, wordAt_len]; omega) (by rw [tx_len]; decide) (by decide)) (fun h₁ k₁ t₁ F₁ N₁ => ?_)
    have hwl := wordAt_len dn i
    have hsm := ell_small (wordAt_mem dn (show i ≤ 5 by omega))
    have hdl : (tx dots).length = 3 := by decide +kernel
    refine SB.add (fun t₂ k₂ => ?_) (by rw [sizeLine_eq, hdl]; omega)
    repeat walk_at "n"
    refine SB.add (fun t₃ k₃ => ?_) (by rw [sizeLine_eq, str_app_len, hdl]; omega)
    rw [ell_is (wordAt_mem dn (by omega)) (by omega)]
    repeat walk_at "n"
    refine list_item (j := 1) N₁ hpr ⟨rfl, np, rfl⟩ rfl (by decide) rfl ?_
    repeat walk_at "n"
    refine tup_item (j := 1) (vs := [.str P'.f P'.tf, .str P'.g P'.tg]) N₁ c'.1 rfl (by decide) rfl ?_
    repeat walk_at "n"
    refine ⟨G.kin.keeps F₁.keep, ?_⟩
    rw [c'.2.2]
    refine ell_ok G F₁ N₁ (wordAt_mem dn (by omega)) (fun e => by rw [e] at hwl; cases hwl) (wordAt_mem dn (by omega)) (Nat.lt_of_succ_lt hroom) (fun h₂ tk₂ F₂ N₂ => ?_)
    have ew : subs (wordAt dn i) (wordAt dn j) = decide (i < j) := by
      by_cases hlt : i < j
      · rw [subs_up hlt, decide_eq_true hlt]
      · rw [subs_down (by omega), decide_eq_false hlt]
    rw [ew]
    repeat walk_at "n"
    rename_i h₃ F₃ N₃
    exact h _ h₃ _ F₃ N₃ ⟨⟨by walk_at "hv", by walk_at "hv", by walk_at "hv"⟩, by walk_at "hv", by walk_at "hv", by walk_at "hv"⟩ (by walk_at "hv")
theorem law_swap {t q : Nat} {tt tq : Tok} {pr : Addr} {np : Nat} {P P' : Pair} {Q : Flow → Shared → Prop} (hb : ((turnOf (stmtsAt (KL w))).drop 5).take 1 = b) (hs : scopeAt (KL w) = sc)
    (F : Fr h₀ L s.heap m) (N : News h₀ L s.heap nw) (M : Tur p t tt q tq pr m) (hpr : (pr, lstObj [.ref P.a, .ref P'.a] np) ∈ nw) (hle : m "lesser" = some (.bool (decide (i < j))))
    (h : ∀ pr' o' m' nw' h' tk, Fr h₀ L h' m' → News h₀ L h' nw' → (∀ z ∈ nw, z ∈ nw') → Tur p t tt q tq pr' m' → (pr', o') ∈ nw' → LstOb (if i < j then [.ref P.a, .ref P'.a] else [.ref P'.a, .ref P.a]) o' → Q .next { s with heap := h', toks := tk }) :
    wpAny (MD w) A (execs b (lawEnv sc L a cd)) Q E s := by
  refine seg_start (fun l => ((turnOf l).drop 5).take 1) (by k_is) hb hs ?_
  dsimp only [turnOf, List.take, List.drop, stmtsAt, scopeAt]
  refine hide fun P9 hP9 => ?_
  obtain ⟨hp, gs, dr, tk, os⟩ := s
  refine hP9 ?_
  dsimp only at F N h
  refine hide fun P9 hP9 => ?_
  obtain ⟨⟨hmd, hmch, hml⟩, hmt, hmp, hmpr⟩ := id M
  refine hP9 ?_
  repeat walk_at "n"
  refine wpAny_is_plain (by rfl) ?_
  repeat walk_at "n"
  by_cases hlt : i < j
  · rw [if_neg (by simp [hlt])]
    repeat walk_at "n"
    refine wpAny_isNot_plain (by rfl) ?_
    repeat walk_at "n"
    rw [if_neg (by simp [hlt])]
    repeat walk_at "n"
    rw [if_pos hlt] at h
    exact h pr _ m nw hp _ F N (fun z hz => hz) M hpr ⟨rfl, np, rfl⟩
  · rw [if_pos (by simp; omega)]
    repeat walk_at "n"
    refine UnaryOp_ ?_
    repeat walk_at "n"
    refine _root_.PySem.P.neg_int ?_
    repeat walk_at "n"
    refine new_slice F N (fun sl h₁ F₁ N₁ lt₁ => ?_)
    refine slice_list F₁ N₁ (.tail _ hpr) ⟨rfl, np, rfl⟩ (.head _) .none .none (.int _ _) (by decide) (by rw [sizeLine_eq]; simp) (by rfl) (fun pr' h₂ o₂ ho₂ F₂ N₂ lt₂ => ?_)
    repeat walk_at "n"
    rename_i h₃ F₃ N₃
    rw [rev_two] at ho₂
    rw [if_neg hlt] at h
    exact h pr' o₂ _ _ h₃ _ F₃ N₃ (fun z hz => .tail _ (.tail _ hz)) ⟨⟨by walk_at "hv", by walk_at "hv", by walk_at "hv"⟩, by walk_at "hv", by walk_at "hv", by walk_at "hv"⟩ (.head _) ho₂
end
/- M6 -/
section
variable {w : World} {A : Around} {E : Value → Shared → Prop} {s : Shared} {L a l : Addr} {cd : Value} {h h₀ : Heap} {news nw nw' : List (Addr × Obj)} {b : List Stmt} {sc : Scope} {m : Str → Option Value} {dn : List Nat} {p : Pl} {rows : Nat → List Pair} {i j : Nat} {ks : List Nat}
theorem law_moved {t q : Nat} {tt tq : Tok} {pr : Addr} {o' : Obj} {P P' : Pair} {Q : Flow → Shared → Prop} (hb : (turnOf (stmtsAt (KL w))).drop 6 = b) (hs : scopeAt (KL w) = sc)
    (G : At w A L h₀) (hroom : A.depth < recursionLimit) (F : Fr h₀ L s.heap m) (N : News h₀ L s.heap nw) (B : All w L dn p rows nw) (M : Tur p t tt q tq pr m) (hpr : (pr, o') ∈ nw) (ho' : LstOb [.ref P.a, .ref P'.a] o')
    (c : (P.a, P.obj) ∈ nw) (c' : (P'.a, P'.obj) ∈ nw) (hq1 : 1 ≤ q) (hq5 : q ≤ 5) (hl1 : (rows (q - 1)).length ≤ 50) (hl2 : (rows (q + 1)).length ≤ 50)
    (h : ∀ a1 a2 nw' h' tk, Fr h₀ L h' m → News h₀ L h' nw' → Keep nw nw' →
      All w L dn p (updRow (updRow rows (q - 1) (rows (q - 1) ++ [⟨a1, P.f, P.tf, P.g, P.tg⟩])) (q + 1) (rows (q + 1) ++ [⟨a2, P'.f, P'.tf, P'.g, P'.tg⟩])) nw' → Q .next { s with heap := h', toks := tk }) :
    wpAny (MD w) A (execs b (lawEnv sc L a cd)) Q E s := by
  refine seg_start (fun l => (turnOf l).drop 6) (by k_is) hb hs ?_
  dsimp only [turnOf, List.take, List.drop, stmtsAt, scopeAt]
  refine hide fun P9 hP9 => ?_
  obtain ⟨hp, gs, dr, tk, os⟩ := s
  refine hP9 ?_
  dsimp only at F N h
  refine hide fun P9 hP9 => ?_
  obtain ⟨⟨hmd, hmch, hml⟩, hmt, hmp, hmpr⟩ := id M
  refine hP9 ?_
  repeat walk_at "n"
  refine at_places N B ?_
  repeat walk_at "n"
  refine _root_.PyProof.Rows.sub_int ?_
  refine place_at (i := q - 1) N B (by omega) (by omega) ?_
  refine k_method (i := q - 1) (f := 118) G F N B (by omega) (fun _ _ _ => by rfl) (by k_is) (by k_is) ?_
  refine callWith_K G.kin (by k_is) ?_
  repeat walk_at "n"
  refine list_item (j := 0) N hpr ho' rfl (by decide) rfl ?_
  repeat walk_at "n"
  refine tup_item (j := 0) (vs := [.str P.f P.tf, .str P.g P.tg]) N c rfl (by decide) rfl ?_
  repeat walk_at "n"
  refine list_item (j := 0) N hpr ho' rfl (by decide) rfl ?_
  repeat walk_at "n"
  refine tup_item (j := 1) (vs := [.str P.f P.tf, .str P.g P.tg]) N c rfl (by decide) rfl ?_
  repeat walk_at "n"
  refine ⟨G.kin.keeps F.keep, ?_⟩
  refine k_push (i := q - 1) G F N B (by omega) hroom (by omega) (fun a1 h₁ nw₁ tk₁ F₁ N₁ B₁ K₁ => ?_)
  repeat walk_at "n"
  refine at_places N₁ B₁ ?_
  repeat walk_at "n"
  refine place_at (i := q + 1) N₁ B₁ (by omega) (by omega) ?_
  refine k_method (i := q + 1) (f := 118) G F₁ N₁ B₁ (by omega) (fun _ _ _ => by rfl) (by k_is) (by k_is) ?_
  refine callWith_K G.kin (by k_is) ?_
  have hpr₁ := K₁ _ hpr (.of_cls ho'.1)
  have c₁ := K₁ _ c' (.of_cls rfl)
  repeat walk_at "n"
  refine list_item (j := 1) N₁ hpr₁ ho' rfl (by decide) rfl ?_
  repeat walk_at "n"
  refine tup_item (j := 0) (vs := [.str P'.f P'.tf, .str P'.g P'.tg]) N₁ c₁ rfl (by decide) rfl ?_
  repeat walk_at "n"
  refine list_item (j := 1) N₁ hpr₁ ho' rfl (by decide) rfl ?_
  repeat walk_at "n"
  refine tup_item (j := 1) (vs := [.str P'.f P'.tf, .str P'.g P'.tg]) N₁ c₁ rfl (by decide) rfl ?_
  repeat walk_at "n"
  refine ⟨G.kin.keeps F₁.keep, ?_⟩
  have er : updRow rows (q - 1) (rows (q - 1) ++ [⟨a1, P.f, P.tf, P.g, P.tg⟩]) (q + 1) = rows (q + 1) := by
    unfold updRow
    rw [if_neg (by omega)]
  refine k_push (i := q + 1) G F₁ N₁ B₁ (by omega) hroom (by rw [er]; omega) (fun a2 h₂ nw₂ tk₂ F₂ N₂ B₂ K₂ => ?_)
  repeat walk_at "n"
  rw [er] at B₂
  exact h a1 a2 nw₂ h₂ _ F₂ N₂ (K₁.trans K₂) B₂
end
/- M7 -/
theorem nodup_le : ∀ (n : Nat) (l : List Nat), l.Nodup → (∀ x ∈ l, x < n) → l.length ≤ n
  | 0, l, _, h => by
    cases l with
    | nil => exact Nat.le_refl _
    | cons a r => exact absurd (h a (.head _)) (Nat.not_lt_zero _)
  | n + 1, l, hn, h => by
    by_cases hm : n ∈ l
    · have ih := nodup_le n (l.erase n) (hn.erase n) (fun x hx => by
        have := (hn.mem_erase_iff).mp hx
        have h2 := h x this.2
        omega)
      rw [List.length_erase_of_mem hm] at ih
      omega
    · have ih := nodup_le n l hn (fun x hx => by
        have h2 := h x hx
        have : x ≠ n := fun e => hm (e ▸ hx)
        omega)
      omega
theorem Cfg.len {cfg : Nat → List Nat} {pos : List Nat} (C : Cfg cfg pos) {q : Nat} (hq : q < 7) : (cfg q).length ≤ 6 := nodup_le 6 _ (C.nodup hq) fun _ hx => (C.mem hq hx).1
def RowsC (dn : List Nat) (rows : Nat → List Pair) (cfg : Nat → List Nat) : Prop := ∀ i, i < 7 → RowC dn (rows i) (cfg i)
theorem RowsC.upd {dn : List Nat} {rows : Nat → List Pair} {cfg : Nat → List Nat} (H : RowsC dn rows cfg) {q : Nat} {r : List Pair} {ks : List Nat} (h : RowC dn r ks) : RowsC dn (updRow rows q r) (updC cfg q ks) := by
  intro i hi
  unfold updRow updC
  split
  · exact h
  · exact H i hi
theorem updRow_ne {rows : Nat → List Pair} {q i : Nat} {r : List Pair} (h : i ≠ q) : updRow rows q r i = rows i := by
  unfold updRow; rw [if_neg h]
theorem RowC.snoc {dn : List Nat} {row : List Pair} {ks : List Nat} {k : Nat} {P : Pair} (h : RowC dn row ks) (hf : P.f = tx (shownAt dn k)) (hg : P.g = tx (wordAt dn k)) : RowC dn (row ++ [P]) (ks ++ [k]) := by
  refine h.append ?_
  unfold RowC
  simp only [List.map_cons, List.map_nil, hf, hg]
section
variable {w : World} {A : Around} {E : Value → Shared → Prop} {s : Shared} {L a l : Addr} {cd : Value} {h h₀ : Heap} {news nw nw' : List (Addr × Obj)} {b : List Stmt} {sc : Scope} {m : Str → Option Value} {dn : List Nat} {p : Pl} {rows : Nat → List Pair} {i j : Nat} {ks : List Nat} {cfg : Nat → List Nat} {pos : List Nat}
theorem law_turn {t n : Nat} {tt : Tok} {Q : Flow → Shared → Prop} (hb : turnOf (stmtsAt (KL w)) = b) (hs : scopeAt (KL w) = sc)
    (G : At w A L h₀) (hroom : A.depth + 1 < recursionLimit) (hu : A.units + 2 < cLine) (F : Fr h₀ L s.heap m) (N : News h₀ L s.heap nw) (B : All w L dn p rows nw) (hk : p.k = 6) (hg : AllBare s.gens) (M : Loc p m) (hmt : m "turn" = some (.int (t : Nat) tt)) (ht : t < 14)
    (C : Cfg cfg pos) (HR : RowsC dn rows cfg) (hr : Reach (n + 1) pos)
    (h : ∀ rows' cfg' pos' m' nw' h' g' d' k', Fr h₀ L h' m' → News h₀ L h' nw' → All w L dn p rows' nw' → AllBare g' → Loc p m' → Cfg cfg' pos' → RowsC dn rows' cfg' → Reach n pos' → Keep nw nw' → Q .next ⟨h', g', d', k', s.os⟩) :
    wpAny (MD w) A (execs b (lawEnv sc L a cd)) Q E s := by
  refine hide fun P9 hP9 => ?_
  obtain ⟨hp, gs, dr, tk, os⟩ := s
  refine hP9 ?_
  dsimp only at F N h hg
  have hok := reach_ok hr
  unfold okPos at hok
  simp only [Bool.and_eq_true, beq_iff_eq] at hok
  refine hide fun P9 hP9 => ?_
  obtain ⟨⟨hl6, hany⟩, hall⟩ := hok
  refine hP9 ?_
  have hexc : ∃ q, q < 7 ∧ 1 < (rows q).length := by
    refine hide fun P9 hP9 => ?_
    obtain ⟨q, hq, hh⟩ := List.any_eq_true.mp hany
    refine hP9 ?_
    have hq := List.mem_range.mp hq
    exact ⟨q, hq, by rw [(HR q hq).len]; exact (cfg_hot C hq).mpr hh⟩
  refine execs_split 2 (law_hot (t := t) (by rw [hb]) hs G (Nat.lt_of_succ_lt hroom) F N B M hmt ht hexc (fun q tq m₁ nw₁ h₁ tk₁ hq hq1 F₁ N₁ B₁ M₁ hmt₁ hmp₁ sub₁ => ?_))
  dsimp only
  have hRq := HR q hq
  rw [hRq.len] at hq1
  have hhot : hotP pos q = true := (cfg_hot C hq).mp hq1
  have hq15 : 1 ≤ q ∧ q ≤ 5 := by
    have := List.all_eq_true.mp hall q (List.mem_range.mpr hq)
    rw [hhot] at this
    simpa using this
  refine execs_split 2 (law_pair (t := t) (q := q) (ks := cfg q) (by rw [hb]) hs G hroom hu F₁ N₁ B₁ hg M₁ hmt₁ hmp₁ ht hq hRq (fun k hk' => (C.mem hq hk').1) (C.len hq) hq1 (fun pr pvs np r' ksr m₂ nw₂ h₂ g₂ d₂ k₂ F₂ N₂ B₂ hg₂ hR₂ M₂ hpr₂ hgot K₂ => ?_))
  dsimp only
  refine hide fun P9 hP9 => ?_
  obtain ⟨x, hx, y, hy, P, P', e1, c, c', e2⟩ := hgot
  refine hP9 ?_
  subst e1 e2
  refine hide fun P9 hP9 => ?_
  obtain ⟨hne, hi6, hj6, fire⟩ := cfg_fire C hl6 hq15.1 hq15.2 hx (r1 := less1 (cfg q) x) rfl hy rfl
  refine hP9 ?_
  refine execs_split 1 (law_lesser (by rw [List.drop_drop, hb]) hs G hroom F₂ N₂ B₂ hk M₂ hpr₂ c c' hi6 hj6 hne (fun m₃ h₃ tk₃ F₃ N₃ M₃ hle => ?_))
  dsimp only
  refine execs_split 1 (law_swap (i := (cfg q)[x]) (j := (less1 (cfg q) x)[y]) (P := P) (P' := P') (by rw [List.drop_drop, List.drop_drop, hb]) hs F₃ N₃ M₃ hpr₂ hle (fun pr' o' m₄ nw₄ h₄ tk₄ F₄ N₄ sub₄ M₄ hpr₄ ho₄ => ?_))
  dsimp only
  have B₄ := B₂.sub sub₄
  have er1 : updRow rows q r' (q - 1) = rows (q - 1) := updRow_ne (by omega)
  have er2 : updRow rows q r' (q + 1) = rows (q + 1) := updRow_ne (by omega)
  have hl1 := C.len (show q - 1 < 7 by omega)
  have hl2 := C.len (show q + 1 < 7 by omega)
  have hn1 := (HR (q - 1) (by omega)).len
  have hn2 := (HR (q + 1) (by omega)).len
  by_cases hlt : (cfg q)[x] < (less1 (cfg q) x)[y]
  · rw [if_pos hlt] at ho₄
    refine law_moved (t := t) (q := q) (P := P) (P' := P') (by rw [List.drop_drop, List.drop_drop, List.drop_drop, hb]) hs G (Nat.lt_of_succ_lt hroom) F₄ N₄ B₄ M₄ hpr₄ ho₄ (sub₄ _ c.1) (sub₄ _ c'.1) hq15.1 hq15.2 (by rw [er1]; omega) (by rw [er2]; omega) (fun a1 a2 nw₅ h₅ tk₅ F₅ N₅ K₅ B₅ => ?_)
    rw [er1, er2] at B₅
    obtain ⟨C', hmv⟩ := fire _ _ hlt (.inl ⟨rfl, rfl⟩)
    exact h _ _ _ m₄ nw₅ h₅ g₂ d₂ _ F₅ N₅ B₅ hg₂ M₄.loc C' (((HR.upd hR₂).upd (RowC.snoc (P := ⟨a1, P.f, P.tf, P.g, P.tg⟩) (HR (q - 1) (by omega)) c.2.1 c.2.2)).upd (RowC.snoc (P := ⟨a2, P'.f, P'.tf, P'.g, P'.tg⟩) (HR (q + 1) (by omega)) c'.2.1 c'.2.2)) (reach_move hr hmv) (fun z hz hcz => K₅ _ (sub₄ _ (K₂ _ (sub₁ _ hz) hcz)) hcz)
  · rw [if_neg hlt] at ho₄
    refine law_moved (t := t) (q := q) (P := P') (P' := P) (by rw [List.drop_drop, List.drop_drop, List.drop_drop, hb]) hs G (Nat.lt_of_succ_lt hroom) F₄ N₄ B₄ M₄ hpr₄ ho₄ (sub₄ _ c'.1) (sub₄ _ c.1) hq15.1 hq15.2 (by rw [er1]; omega) (by rw [er2]; omega) (fun a1 a2 nw₅ h₅ tk₅ F₅ N₅ K₅ B₅ => ?_)
    rw [er1, er2] at B₅
    obtain ⟨C', hmv⟩ := fire _ _ (show (less1 (cfg q) x)[y] < (cfg q)[x] by omega) (.inr ⟨rfl, rfl⟩)
    exact h _ _ _ m₄ nw₅ h₅ g₂ d₂ _ F₅ N₅ B₅ hg₂ M₄.loc C' (((HR.upd hR₂).upd (RowC.snoc (P := ⟨a1, P'.f, P'.tf, P'.g, P'.tg⟩) (HR (q - 1) (by omega)) c'.2.1 c'.2.2)).upd (RowC.snoc (P := ⟨a2, P.f, P.tf, P.g, P.tg⟩) (HR (q + 1) (by omega)) c.2.1 c.2.2)) (reach_move hr hmv) (fun z hz hcz => K₅ _ (sub₄ _ (K₂ _ (sub₁ _ hz) hcz)) hcz)
end
/- M8 -/
def cfg0 (i : Nat) : List Nat := if i = 3 then List.range 6 else []
theorem cfg_start : Cfg cfg0 [3, 3, 3, 3, 3, 3] := by
  intro p hp k
  unfold cfg0
  by_cases h3 : p = 3
  · subst h3
    rw [if_pos rfl]
    by_cases hk : k < 6
    · have : ∀ k, k < 6 → (List.range 6).count k = 1 ∧ posAt [3, 3, 3, 3, 3, 3] k = 3 := by decide
      obtain ⟨h1, h2⟩ := this k hk
      rw [h1, if_pos ⟨hk, h2⟩]
    · rw [if_neg (fun z => hk z.1), List.count_eq_zero.mpr (fun z => hk (List.mem_range.mp z))]
  · rw [if_neg h3, if_neg]
    · rfl
    · rintro ⟨hk, e⟩
      have : ∀ k, k < 6 → posAt [3, 3, 3, 3, 3, 3] k = 3 := by decide
      rw [this k hk] at e
      exact h3 e.symm
section
variable {w : World} {A : Around} {E : Value → Shared → Prop} {s : Shared} {L a l : Addr} {cd : Value} {h h₀ : Heap} {news nw nw' : List (Addr × Obj)} {b : List Stmt} {sc : Scope} {m : Str → Option Value} {dn : List Nat} {p : Pl} {rows : Nat → List Pair} {i j : Nat} {ks : List Nat} {cfg : Nat → List Nat} {pos : List Nat}
theorem law_turns {Q : Flow → Shared → Prop} (hb : ((stmtsAt (KL w)).drop 7).take 1 = b) (hs : scopeAt (KL w) = sc)
    (G : At w A L h₀) (hroom : A.depth + 1 < recursionLimit) (hu : A.units + 2 < cLine) (F : Fr h₀ L s.heap m) (N : News h₀ L s.heap nw) (B : All w L dn p rows nw) (hk : p.k = 6) (hg : AllBare s.gens) (M : Loc p m) (h3 : RowC dn (rows 3) (List.range 6)) (h0 : ∀ j, j ≠ 3 → rows j = [])
    (h : ∀ rows' m' nw' h' g' d' k', Fr h₀ L h' m' → News h₀ L h' nw' → All w L dn p rows' nw' → AllBare g' → Loc p m' → RowsC dn rows' ended → Q .next ⟨h', g', d', k', s.os⟩) :
    wpAny (MD w) A (execs b (lawEnv sc L a cd)) Q E s := by
  refine seg_start (fun l => (l.drop 7).take 1) (by k_is) hb hs ?_
  dsimp only [List.take, List.drop, stmtsAt, scopeAt]
  refine hide fun P9 hP9 => ?_
  obtain ⟨hp, gs, dr, tk, os⟩ := s
  refine hP9 ?_
  dsimp only at F N h hg
  refine hide fun P9 hP9 => ?_
  obtain ⟨hmd, hmch, hml⟩ := id M
  refine hP9 ?_
  repeat walk_at "n"
  refine wpAny_For ?_ (fun _ => rfl)
  repeat walk_at "n"
  refine G.nameB F (by k_is) (by boot_fast) (by decide) ?_
  refine Pv.callWith_type1 ?_
  repeat walk_at "n"
  refine _root_.PySem.call_range_1 ?_
  refine iter_range (IsRange.new _ _ _ _ _ _ _) (range_small 0 14 (by omega) (by omega)) (F.push _) (fun p hp => N.push F _ rfl p (.tail _ hp)) (fun I h₃ F₃ N₃ lt₃ => ?_)
  rw [show Builtin.Range.rangeSize (0 : Int) 14 1 = ((14 : Nat) : Int) from range_size 0 14] at N₃
  dsimp only
  refine for_range (n := 14) (fun i t m' nw' => (∃ hp g d tk, t = ⟨hp, g, d, tk, os⟩ ∧ AllBare g) ∧ ∃ rows' cfg pos, All w L dn p rows' nw' ∧ Loc p m' ∧ Cfg cfg pos ∧ RowsC dn rows' cfg ∧ Reach (14 - i) pos) G.calm
    (fun i t m' nw' h' tk o' hi hJ N' hI => ?_) (fun i t m' nw' u E' R hR1 hi hJ F' N' hI => ?_) F₃ N₃ (.head _) ?_ (fun t m' nw' h' hJ N' hI F' Nd => ?_)
  · refine hide fun P9 hP9 => ?_
    obtain ⟨⟨hp, g, d, tk', rfl, hg'⟩, rows', cfg, pos, B', r⟩ := hJ
    refine hP9 ?_
    exact ⟨⟨_, _, _, _, rfl, hg'⟩, rows', cfg, pos, B'.loose N' hI rit_loose, r⟩
  · refine hide fun P9 hP9 => ?_
    obtain ⟨⟨hp, g, d, tk', rfl, hg'⟩, rows', cfg, pos, B', M', C, HR, hr⟩ := hJ
    refine hP9 ?_
    refine hide fun P9 hP9 => ?_
    obtain ⟨hmd', hmch', hml'⟩ := M'
    refine hP9 ?_
    refine _root_.PyProof.Rows.assign_Name ?_
    refine storeX_U F' N' (fun m₄ U₄ h₄ F₄ N₄ => ?_) rfl rfl
    have e : 14 - i = (14 - (i + 1)) + 1 := by omega
    rw [e] at hr
    refine law_turn (s := ⟨h₄, g, d, _, os⟩) (t := i) (tt := u) (n := 14 - (i + 1)) ?hb ?hs G hroom hu F₄ N₄ B' hk hg' ⟨by walk_at "hv", by walk_at "hv", by walk_at "hv"⟩ (by walk_at "hv") hi C HR hr (fun rows'' cfg'' pos'' m'' nw'' h'' g'' d'' k'' F'' N'' B'' hg'' M'' C'' HR'' hr'' K'' => ?_)
    case hb => kernel_rfl
    case hs => kernel_rfl
    exact hR1 _ _ _ ⟨⟨_, _, _, _, rfl, hg''⟩, rows'', cfg'', pos'', B'', M'', C'', HR'', hr''⟩ F'' N'' (K'' _ hI rit_calm)
  · refine ⟨⟨_, _, _, _, rfl, hg⟩, rows, cfg0, [3, 3, 3, 3, 3, 3], B.sub fun z hz => .tail _ hz, M, cfg_start, fun i hi => ?_, reach_start⟩
    unfold cfg0
    by_cases e : i = 3
    · rw [if_pos e, e]; exact h3
    · rw [if_neg e, h0 i e]; rfl
  · refine hide fun P9 hP9 => ?_
    obtain ⟨⟨hp, g, d, tk', rfl, hg'⟩, rows', cfg, pos, B', M', C, HR, hr⟩ := hJ
    refine hP9 ?_
    have := reach_end hr
    subst this
    repeat walk_at "n"
    exact h rows' m' _ h' g d _ F' Nd (B'.drop N' hI rit_loose) hg' M' (fun i hi => by rw [← cfg_end C hi]; exact HR i hi)
theorem law_due {Q : Flow → Shared → Prop} (hb : ((stmtsAt (KL w)).drop 8).take 1 = b) (hs : scopeAt (KL w) = sc)
    (G : At w A L h₀) (F : Fr h₀ L s.heap m) (N : News h₀ L s.heap nw) (B : All w L dn p rows nw) (M : Loc p m)
    (h : ∀ du e o' m' nw' h' tk t1 t2, Fr h₀ L h' m' → News h₀ L h' nw' → (∀ z ∈ nw, z ∈ nw') → Loc p m' → m' "due" = some (.ref du) → (du, o') ∈ nw' → LstOb (((p.ch.take 3).map fun q => Value.ref q.a) ++ [.ref e] ++ (p.ch.drop 3).map fun q => Value.ref q.a) o' →
      (e, ({ cls := .type "tuple", data := .seq #[.str "" t1, .str "" t2] } : Obj)) ∈ nw' → Q .next { s with heap := h', toks := tk }) :
    wpAny (MD w) A (execs b (lawEnv sc L a cd)) Q E s := by
  refine seg_start (fun l => (l.drop 8).take 1) (by k_is) hb hs ?_
  dsimp only [List.take, List.drop, stmtsAt, scopeAt]
  refine hide fun P9 hP9 => ?_
  obtain ⟨hp, gs, dr, tk, os⟩ := s
  refine hP9 ?_
  dsimp only at F N h
  refine hide fun P9 hP9 => ?_
  obtain ⟨hmd, hmch, hml⟩ := id M
  refine hP9 ?_
  obtain ⟨nc, hlc⟩ := B.fix.chp
  have hc6 := B.fix.len
  repeat walk_at "n"
  refine new_slice F N (fun s1 h₁ F₁ N₁ lt₁ => ?_)
  refine slice_list F₁ N₁ (.tail _ hlc) ⟨rfl, nc, rfl⟩ (.head _) .none (.int _ _) .none (by decide) (by rw [sizeLine_eq]; simp [hc6]) (by rfl) (fun r1 h₂ o₂ ho₂ F₂ N₂ lt₂ => ?_)
  repeat walk_at "n"
  refine new_tuple F₂ N₂ (fun e h₃ F₃ N₃ lt₃ => ?_)
  repeat walk_at "n"
  refine new_list F₃ N₃ (fun r2 h₄ F₄ N₄ lt₄ => ?_)
  refine kmk_add_lit F₄ N₄ (ho₂.is N₄ (.tail _ (.tail _ (.head _)))) (LstOb.is N₄ (.head _) ⟨rfl, 0, rfl⟩) rfl (fun r3 h₅ F₅ N₅ lt₅ => ?_) (by
    have h1 := pick_len (p.ch.map fun q => Value.ref q.a) none (some 3) none
    rw [sizeLine_eq]
    simp only [List.length_map, hc6, List.toList_toArray, List.length_cons, List.length_nil] at *
    omega)
  repeat walk_at "n"
  refine new_slice F₅ N₅ (fun s2 h₆ F₆ N₆ lt₆ => ?_)
  refine slice_list F₆ N₆ (.tail _ (.tail _ (.tail _ (.tail _ (.tail _ (.tail _ hlc)))))) ⟨rfl, nc, rfl⟩ (.head _) (.int _ _) .none .none (by decide) (by rw [sizeLine_eq]; simp [hc6]) (by rfl) (fun r4 h₇ o₇ ho₇ F₇ N₇ lt₇ => ?_)
  have e1 : (slicePick (p.ch.map fun q => Value.ref q.a).toArray none (some 3) none).toList = (p.ch.take 3).map fun q => Value.ref q.a := by
    rw [show (some (3 : Int)) = some (((3 : Nat) : Int)) from rfl, slicePick_upto', List.toList_toArray, List.toList_toArray, List.map_take]
  have e2 : (slicePick (p.ch.map fun q => Value.ref q.a).toArray (some 3) none none).toList = (p.ch.drop 3).map fun q => Value.ref q.a := by
    rw [show (some (3 : Int)) = some (((3 : Nat) : Int)) from rfl, slicePick_from', List.toList_toArray, List.toList_toArray, List.map_drop]
  rw [e1] at N₅ N₆ N₇
  rw [e2] at ho₇
  refine kmk_add_lit F₇ N₇ (LstOb.is N₇ (.tail _ (.tail _ (.head _))) ⟨rfl, 0, rfl⟩) (ho₇.is N₇ (.head _)) rfl (fun du h₈ F₈ N₈ lt₈ => ?_) (by rw [sizeLine_eq]; simp [hc6])
  repeat walk_at "n"
  rename_i h₉ F₉ N₉
  exact h du e _ _ _ h₉ _ _ _ F₉ N₉ (fun z hz => .tail _ (.tail _ (.tail _ (.tail _ (.tail _ (.tail _ (.tail _ (.tail _ hz)))))))) ⟨by walk_at "hv", by walk_at "hv", by walk_at "hv"⟩ (by walk_at "hv") (.head _) ⟨rfl, 0, rfl⟩ (.tail _ (.tail _ (.tail _ (.tail _ (.tail _ (.head _))))))
end
/- M9 -/
/-- what is due at each place -/
def dueP (ch : List Pair) (e : Pair) (i : Nat) : Pair := if i < 3 then ch.getD i e else if i = 3 then e else ch.getD (i - 1) e
theorem due_at {ch : List Pair} {e : Pair} (h : ch.length = 6) {i : Nat} (hi : i < 7) : (((ch.take 3).map fun q => Value.ref q.a) ++ [.ref e.a] ++ (ch.drop 3).map fun q => Value.ref q.a)[i]? = some (.ref (dueP ch e i).a) := by
  match ch, h with
  | [c0, c1, c2, c3, c4, c5], _ =>
    match i, hi with
    | 0, _ | 1, _ | 2, _ | 3, _ | 4, _ | 5, _ | 6, _ => rfl
theorem due_mem {ch : List Pair} {e : Pair} (h : ch.length = 6) {i : Nat} (hi : i < 7) : dueP ch e i ∈ e :: ch := by
  match ch, h with
  | [c0, c1, c2, c3, c4, c5], _ =>
    match i, hi with
    | 0, _ | 1, _ | 2, _ | 3, _ | 4, _ | 5, _ | 6, _ => simp [dueP]
theorem due_row {dn : List Nat} {ch : List Pair} {e : Pair} (H : RowC dn ch (List.range 6)) {i : Nat} (hi : i < 7) (h3 : i ≠ 3) : ended i = [if i < 3 then i else i - 1] ∧ RowC dn [dueP ch e i] (ended i) := by
  have hl : ch.length = 6 := by have := H.len; simpa using this
  have he : ended i = [if i < 3 then i else i - 1] := by
    unfold ended
    by_cases h : i < 3
    · simp [h]
    · simp [h, h3]
  refine ⟨he, ?_⟩
  rw [he]
  have hk : (if i < 3 then i else i - 1) < 6 := by split <;> omega
  have hd : dueP ch e i = ch[if i < 3 then i else i - 1]'(by rw [hl]; exact hk) := by
    unfold dueP
    by_cases h : i < 3
    · simp only [h, if_true]
      rw [List.getD_eq_getElem?_getD, List.getElem?_eq_getElem (by omega)]; rfl
    · simp only [h, h3, if_false]
      rw [List.getD_eq_getElem?_getD, List.getElem?_eq_getElem (by omega)]; rfl
  obtain ⟨ef, eg⟩ := H.get (n := if i < 3 then i else i - 1) (by rw [hl]; exact hk) (by simpa using hk)
  rw [List.getElem_range] at ef eg
  unfold RowC
  rw [hd]
  simp only [List.map_cons, List.map_nil]
  rw [ef, eg]
section
variable {w : World} {A : Around} {E : Value → Shared → Prop} {s : Shared} {L a l : Addr} {cd : Value} {h h₀ : Heap} {news nw nw' : List (Addr × Obj)} {b : List Stmt} {sc : Scope} {m : Str → Option Value} {dn : List Nat} {p : Pl} {rows : Nat → List Pair} {i j : Nat} {ks : List Nat} {cfg : Nat → List Nat} {pos : List Nat}
theorem ne_pairs {P P' : Pair} {Q : Value → Shared → Prop} (hu : A.units < cLine) (N : News h₀ L s.heap nw) (c : (P.a, P.obj) ∈ nw) (c' : (P'.a, P'.obj) ∈ nw) (ef : P.f = P'.f) (eg : P.g = P'.g) (h : Q (.bool false) s) :
    wpAny (MD w) A (compareOp .NotEq (.ref P.a) (.ref P'.a)) Q E s := by
  refine _root_.PySem.EqBoolInt.of_rcne (_root_.PySem.SeqAt.RcNeAt.tuples (e := fun _ => true) (items := #[.str P.f P.tf, .str P.g P.tg]) (items2 := #[.str P'.f P'.tf, .str P'.g P'.tg]) ⟨_, (N _ c).1, rfl, 0, rfl⟩ ⟨_, (N _ c').1, rfl, 0, rfl⟩ hu (fun j h1 h2 => ?_)) ?_
  · match j, h1 with
    | 0, _ =>
      have := _root_.PySem.SeqAt.EqAt.str_str (A := A.in1) (s := s) P.f P.tf P'.f P'.tf
      rw [ef] at this ⊢
      simpa using this
    | 1, _ =>
      have := _root_.PySem.SeqAt.EqAt.str_str (A := A.in1) (s := s) P.g P.tg P'.g P'.tg
      rw [eg] at this ⊢
      simpa using this
  · exact h
theorem k_text1 {Q : Value → Shared → Prop} {q : Pair} {ol : Obj} (G : At w A L h₀) (F : Fr h₀ L s.heap m) (N : News h₀ L s.heap nw) (hl : (l, ol) ∈ nw) (hol : LstOb [Value.ref q.a] ol) (hq : (q.a, q.obj) ∈ nw) (hroom : A.depth < recursionLimit) (hw : q.f.length + q.g.length ≤ 11)
    (h : ∀ h' t tk, Fr h₀ L h' m → News h₀ L h' nw → Q (.str (rowT [q]) t) { s with heap := h', toks := tk }) :
    wpAny (MD w) A (call (.ref 190) [.ref l]) Q E s := by
  refine text_ok (row := [q]) G F N hl hol (fun z hz => ⟨0, by rw [List.mem_singleton.mp hz]; exact hq⟩) hroom (by simp) (fun z hz => by rw [List.mem_singleton.mp hz]; omega) ?_ (fun h' t tk F' N' => ?_)
  · simp only [List.map_cons, List.map_nil, List.sum_cons, List.sum_nil, str_app_len]; omega
  · rw [join_cat]
    exact h h' t tk F' N'
theorem law_ends {du : Addr} {e : Pair} {o' : Obj} {Q : Flow → Shared → Prop} (hb : ((stmtsAt (KL w)).drop 9).take 1 = b) (hs : scopeAt (KL w) = sc)
    (G : At w A L h₀) (hroom : A.depth + 1 < recursionLimit) (hu : A.units + 2 < cLine) (F : Fr h₀ L s.heap m) (N : News h₀ L s.heap nw) (B : All w L dn p rows nw) (hg : AllBare s.gens) (M : Loc p m) (HR : RowsC dn rows ended)
    (hdu : m "due" = some (.ref du)) (hdm : (du, o') ∈ nw) (hdo : LstOb (((p.ch.take 3).map fun q => Value.ref q.a) ++ [.ref e.a] ++ (p.ch.drop 3).map fun q => Value.ref q.a) o') (he : (e.a, e.obj) ∈ nw) (hef : e.f = "") (heg : e.g = "")
    (h : ∀ rows' m' nw' h' g' d' k', Fr h₀ L h' m' → News h₀ L h' nw' → All w L dn p rows' nw' → AllBare g' → Loc p m' → Q .next ⟨h', g', d', k', s.os⟩) :
    wpAny (MD w) A (execs b (lawEnv sc L a cd)) Q E s := by
  refine seg_start (fun l => (l.drop 9).take 1) (by k_is) hb hs ?_
  dsimp only [List.take, List.drop, stmtsAt, scopeAt]
  refine hide fun P9 hP9 => ?_
  obtain ⟨hp, gs, dr, tk, os⟩ := s
  refine hP9 ?_
  dsimp only at F N h hg
  refine hide fun P9 hP9 => ?_
  obtain ⟨hmd, hmch, hml⟩ := id M
  refine hP9 ?_
  have hc6 := B.fix.len
  have hch := B.fix.chs
  have hcr := B.fix.row
  repeat walk_at "n"
  refine wpAny_For ?_ (fun _ => rfl)
  repeat walk_at "n"
  refine G.nameB F (by k_is) (by boot_fast) (by decide) ?_
  refine Pv.callWith_type1 ?_
  repeat walk_at "n"
  refine _root_.PySem.call_range_1 ?_
  refine iter_range (IsRange.new _ _ _ _ _ _ _) (range_small 0 7 (by omega) (by omega)) (F.push _) (fun p hp => N.push F _ rfl p (.tail _ hp)) (fun I h₃ F₃ N₃ lt₃ => ?_)
  rw [show Builtin.Range.rangeSize (0 : Int) 7 1 = ((7 : Nat) : Int) from range_size 0 7] at N₃
  dsimp only
  have hbI : ∀ z ∈ nw, z.1 ≠ I := fun z hz => Nat.ne_of_lt (lt₃ z hz)
  refine for_range (n := 7) (fun i t m' nw' => (∃ hp g d tk, t = ⟨hp, g, d, tk, os⟩ ∧ AllBare g) ∧ ∃ rows', All w L dn p rows' nw' ∧ Loc p m' ∧ m' "due" = some (.ref du) ∧ (∀ j, i ≤ j → j < 7 → rows' j = rows j ∧ True) ∧ (∀ z ∈ nw, Calm z.2 → z ∈ nw')) G.calm
    (fun i t m' nw' h' tk o' hi hJ N' hI => ?_) (fun i t m' nw' u E' R hR1 hi hJ F' N' hI => ?_) F₃ N₃ (.head _) ?_ (fun t m' nw' h' hJ N' hI F' Nd => ?_)
  · refine hide fun P9 hP9 => ?_
    obtain ⟨⟨hp, g, d, tk', rfl, hg'⟩, rows', B', M', h1, h2, K'⟩ := hJ
    refine hP9 ?_
    exact ⟨⟨_, _, _, _, rfl, hg'⟩, rows', B'.loose N' hI rit_loose, M', h1, h2, fun z hz hcz => put_mem (K' z hz hcz) (hbI z hz)⟩
  · refine hide fun P9 hP9 => ?_
    obtain ⟨⟨hp, g, d, tk', rfl, hg'⟩, rows', B', ⟨hmd', hmch', hml'⟩, hdu', hrw, K'⟩ := hJ
    refine hP9 ?_
    have hR : RowC dn (rows' i) (ended i) := by rw [(hrw i (Nat.le_refl _) hi).1]; exact HR i hi
    have hk6 : ∀ k ∈ ended i, k < 6 := by
      intro k hk
      unfold ended at hk
      split at hk
      · have := List.mem_singleton.mp hk; omega
      · split at hk
        · cases hk
        · have := List.mem_singleton.mp hk; omega
    have hel : (ended i).length ≤ 1 := by
      unfold ended
      split
      · simp
      · split <;> simp
    obtain ⟨D, hD⟩ : ∃ D, dueP p.ch e i = D := ⟨_, rfl⟩
    have hDm : (D.a, D.obj) ∈ nw := by
      have := due_mem (e := e) hc6 hi
      rw [hD] at this
      rcases List.mem_cons.mp this with z | z
      · rw [z]; exact he
      · exact hch D z
    have hDi := due_at (e := e) hc6 hi
    rw [hD] at hDi
    have hDt : rowT (rows' i) = rowT [D] := by
      by_cases h3 : i = 3
      · subst h3
        have e1 : rows' 3 = [] := List.length_eq_zero_iff.mp hR.len
        have e2 : D = e := hD.symm
        rw [e1, e2]
        show cat [] = cat [e.f ++ e.g]
        rw [hef, heg]
        decide +kernel
      · have := (due_row (e := e) hcr hi h3).2
        rw [hD] at this
        exact hR.text this
    have hDl : D.f.length + D.g.length ≤ 11 := by
      by_cases h3 : i = 3
      · subst h3
        have e2 : D = e := hD.symm
        rw [e2, hef, heg]
        decide +kernel
      · have := (due_row (e := e) hcr hi h3).2
        rw [hD] at this
        exact this.small hk6 (.head _)
    refine _root_.PyProof.Rows.assign_Name ?_
    repeat walk_at "n"
    rename_i h₄ F₄ N₄
    refine G.nameB F₄ (by k_is) (by boot_fast) (by decide) ?_
    refine Pv.callWith_type1 ?_
    repeat walk_at "n"
    refine at_places N₄ B' ?_
    repeat walk_at "n"
    refine place_at (i := i) N₄ B' hi rfl ?_
    repeat walk_at "n"
    refine k_strT (i := i) G F₄ N₄ B' hi hg' hroom hu hR hk6 (by omega) (fun h₅ g₅ d₅ k₅ nw₅ t₅ F₅ N₅ B₅ K₅ hg₅ => ?_)
    repeat walk_at "n"
    refine G.nameK F₅ (by k_is) ?_
    refine callWith_K G.kin (by k_is) ?_
    repeat walk_at "n"
    have hdm₅ := K₅ _ (K' _ hdm (.of_cls hdo.1)) (.of_cls hdo.1)
    have hDm₅ := K₅ _ (K' _ hDm (.of_cls rfl)) (.of_cls rfl)
    refine list_item (j := i) N₅ hdm₅ hdo rfl (by omega) hDi ?_
    repeat walk_at "n"
    refine new_list F₅ N₅ (fun l1 h₆ F₆ N₆ lt₆ => ?_)
    repeat walk_at "n"
    refine ⟨G.kin.keeps F₆.keep, ?_⟩
    refine k_text1 (q := D) G F₆ N₆ (.head _) ⟨rfl, 0, rfl⟩ (.tail _ hDm₅) (Nat.lt_of_succ_lt hroom) hDl (fun h₇ t₇ tk₇ F₇ N₇ => ?_)
    have N₇ := news_sub (l' := nw₅) N₇ fun z hz => .tail _ hz
    refine ne_same hDt ?_
    repeat walk_at "n"
    rw [if_neg Bool.false_ne_true]
    repeat walk_at "n"
    refine G.nameB F₇ (by k_is) (by boot_fast) (by decide) ?_
    repeat walk_at "n"
    refine at_places N₇ B₅ ?_
    repeat walk_at "n"
    refine place_at (i := i) N₇ B₅ hi rfl ?_
    repeat walk_at "n"
    have hrl := rowLen_eq (rows' i)
    have hsum := hR.sum hk6
    have hln := hR.len
    have hcl : (rowT (rows' i)).length ≤ 11 := by rw [cat_len]; omega
    refine k_len (i := i) G F₇ N₇ B₅ hi hg₅ hroom (fun q hq => by have := hR.small hk6 hq; omega) (by rw [hrl]; omega) (fun h₈ g₈ d₈ k₈ nw₈ t₈ F₈ N₈ B₈ K₈ hg₈ => ?_)
    repeat walk_at "n"
    refine G.nameB F₈ (by k_is) (by boot_fast) (by decide) ?_
    repeat walk_at "n"
    refine G.nameK F₈ (by k_is) ?_
    refine callWith_K G.kin (by k_is) ?_
    repeat walk_at "n"
    have hdm₈ := K₈ _ hdm₅ (.of_cls hdo.1)
    have hDm₈ := K₈ _ hDm₅ (.of_cls rfl)
    refine list_item (j := i) N₈ hdm₈ hdo rfl (by omega) hDi ?_
    repeat walk_at "n"
    refine new_list F₈ N₈ (fun l2 h₉ F₉ N₉ lt₉ => ?_)
    repeat walk_at "n"
    refine ⟨G.kin.keeps F₉.keep, ?_⟩
    refine k_text1 (q := D) G F₉ N₉ (.head _) ⟨rfl, 0, rfl⟩ (.tail _ hDm₈) (Nat.lt_of_succ_lt hroom) hDl (fun hA tA tkA FA NA => ?_)
    have NA := news_sub (l' := nw₈) NA fun z hz => .tail _ hz
    rw [← hDt]
    repeat walk_at "n"
    refine _root_.PySem.P.len_str (by omega) ?_
    repeat walk_at "n"
    refine ne_same_int (by rw [hrl]) ?_
    repeat walk_at "n"
    rw [if_neg Bool.false_ne_true]
    repeat walk_at "t"
    rw [if_neg Bool.false_ne_true]
    repeat walk_at "n"
    refine at_places NA B₈ ?_
    repeat walk_at "n"
    refine place_at (i := i) NA B₈ hi rfl ?_
    refine k_method (i := i) (f := 134) G FA NA B₈ hi (fun _ _ _ => by rfl) (by k_is) (by k_is) ?_
    refine callWith_K0 (G.kin.keeps FA.keep) (by k_is) ?_
    have hI₈ := K₈ _ (K₅ _ hI rit_calm) rit_calm
    have K₀ : ∀ z ∈ nw, Calm z.2 → z ∈ nw₈ := fun z hz hcz => K₈ _ (K₅ _ (K' z hz hcz) hcz) hcz
    by_cases h3 : i = 3
    · have e1 : rows' i = [] := List.length_eq_zero_iff.mp (by rw [hln, h3]; rfl)
      have e2 : D = e := by rw [← hD, h3]; rfl
      refine k_pop0 (i := i) G FA NA B₈ hi hroom e1 (fun b t1 t2 hB tkB FB NB => ?_)
      repeat walk_at "n"
      refine list_item (j := i) NB (.tail _ hdm₈) hdo rfl (by omega) hDi ?_
      refine ne_pairs (P := ⟨b, "", t1, "", t2⟩) (P' := D) (by omega) NB (.head _) (.tail _ hDm₈) (by rw [e2, hef]) (by rw [e2, heg]) ?_
      repeat walk_at "n"
      rw [if_neg Bool.false_ne_true]
      repeat walk_at "n"
      have BB : All w L dn p rows' _ := B₈.sub (fun z hz => List.Mem.tail (b, ({ cls := .type "tuple", data := .seq #[.str "" t1, .str "" t2] } : Obj)) hz)
      refine at_places NB BB ?_
      repeat walk_at "n"
      refine place_at (i := i) NB BB hi rfl ?_
      refine k_method (i := i) (f := 171) G FB NB BB hi (fun _ _ _ => by rfl) (by k_is) (by k_is) ?_
      refine callWith_K0 (G.kin.keeps FB.keep) (by k_is) ?_
      refine k_count (i := i) G FB NB BB hi (Nat.lt_of_succ_lt hroom) (fun hC tC tkC FC NC => ?_)
      repeat walk_at "n"
      refine ne_same_int (by rw [e1]; rfl) ?_
      repeat walk_at "n"
      rw [if_neg Bool.false_ne_true]
      repeat walk_at "t"
      rw [if_neg Bool.false_ne_true]
      repeat walk_at "n"
      exact hR1 _ _ _ ⟨⟨_, _, _, _, rfl, hg₈⟩, rows', BB, ⟨by walk_at "hv", by walk_at "hv", by walk_at "hv"⟩, by walk_at "hv", fun j h1 h2 => hrw j (by omega) h2, fun z hz hcz => .tail _ (K₀ z hz hcz)⟩ FC NC (.tail _ hI₈)
    · obtain ⟨e1, hRD⟩ := due_row (e := e) hcr hi h3
      rw [hD] at hRD
      rw [e1] at hRD hln
      obtain ⟨q, hq⟩ := List.length_eq_one_iff.mp (show (rows' i).length = 1 from hln)
      have hRq : RowC dn [q] [if i < 3 then i else i - 1] := by rw [← hq, ← e1]; exact hR
      have eq2 := hRq.trans hRD.symm
      simp only [List.map_cons, List.map_nil, List.cons.injEq, Prod.mk.injEq, and_true] at eq2
      have hqm := B₈.brd.prs i hi q (by rw [hq]; exact .head _)
      refine k_pop (i := i) (q := q) G FA NA B₈ hi hroom hq (fun hB nwB tkB FB NB BB KB => ?_)
      repeat walk_at "n"
      have hdmB := KB _ hdm₈ (.of_cls hdo.1)
      have hDmB := KB _ hDm₈ (.of_cls rfl)
      have hqmB := KB _ hqm (.of_cls rfl)
      refine list_item (j := i) NB hdmB hdo rfl (by omega) hDi ?_
      refine ne_pairs (P := q) (P' := D) (by omega) NB hqmB hDmB eq2.1 eq2.2 ?_
      repeat walk_at "n"
      rw [if_neg Bool.false_ne_true]
      repeat walk_at "n"
      refine at_places NB BB ?_
      repeat walk_at "n"
      refine place_at (i := i) NB BB hi rfl ?_
      refine k_method (i := i) (f := 171) G FB NB BB hi (fun _ _ _ => by rfl) (by k_is) (by k_is) ?_
      refine callWith_K0 (G.kin.keeps FB.keep) (by k_is) ?_
      refine k_count (i := i) G FB NB BB hi (Nat.lt_of_succ_lt hroom) (fun hC tC tkC FC NC => ?_)
      repeat walk_at "n"
      refine ne_same_int (by rw [updRow_at]; rfl) ?_
      repeat walk_at "n"
      rw [if_neg Bool.false_ne_true]
      repeat walk_at "t"
      rw [if_neg Bool.false_ne_true]
      repeat walk_at "n"
      refine hR1 _ _ _ ⟨⟨_, _, _, _, rfl, hg₈⟩, _, BB, ⟨by walk_at "hv", by walk_at "hv", by walk_at "hv"⟩, by walk_at "hv", fun j h1 h2 => ?_, fun z hz hcz => KB _ (K₀ z hz hcz) hcz⟩ FC NC (KB _ hI₈ rit_calm)
      rw [updRow_ne (by omega)]
      exact hrw j (by omega) h2
  · exact ⟨⟨_, _, _, _, rfl, hg⟩, rows, B.sub fun z hz => .tail _ hz, M, hdu, fun _ _ _ => ⟨rfl, trivial⟩, fun z hz _ => .tail _ hz⟩
  · refine hide fun P9 hP9 => ?_
    obtain ⟨⟨hp, g, d, tk', rfl, hg'⟩, rows', B', M', h1, h2, K'⟩ := hJ
    refine hP9 ?_
    repeat walk_at "n"
    exact h rows' m' _ h' g d _ F' Nd (B'.drop N' hI rit_loose) hg' M'
end
/- MA1 -/
theorem g_tab : allLeads.all (fun ld => flips.all fun r => (Builtin.Str.occurrences (tx (shown ld r)) (tx [9]) 0 (tx (shown ld r)).length 1).isEmpty == !(shown ld r).contains 9) = true := by decide +kernel
theorem g_cuts : allLeads.all (fun ld => flips.all fun r => (Txt.slice (tx (shown ld r)) none (some 2) == tx ((shown ld r).take 2)) && (Txt.slice (tx (shown ld r)) (some 1) none == tx ((shown ld r).drop 1))) = true := by decide +kernel
theorem cps_sp1 : Str.ofString " " = tx [32] := by decide +kernel
theorem cps_sp2 : Str.ofString "  " = tx [32, 32] := by decide +kernel
theorem cps_spx : Str.ofString "  x" = tx [32, 32, 120] := by decide +kernel
theorem cps_st : Str.ofString " \t" = tx [32, 9] := by decide +kernel
section
variable {w : World} {A : Around} {E : Value → Shared → Prop} {s : Shared} {L a l : Addr} {cd : Value} {h h₀ : Heap} {news nw nw' : List (Addr × Obj)} {b : List Stmt} {sc : Scope} {m : Str → Option Value} {dn : List Nat} {p : Pl} {rows : Nat → List Pair} {i j : Nat} {ks : List Nat} {cfg : Nat → List Nat} {pos : List Nat}
theorem tab_in (hi : i < 6) : (Builtin.Str.occurrences (tx (shownAt dn i)) (tx [9]) 0 (tx (shownAt dn i)).length 1).isEmpty = !(shownAt dn i).contains 9 :=
  beq_iff_eq.mp (over g_tab (leadAt_mem dn (show i ≤ 5 by omega)) (decide (dn.getD i 0 / 2 % 2 = 1)))
theorem cut_at (hi : i < 6) : Txt.slice (tx (shownAt dn i)) none (some 2) = tx ((shownAt dn i).take 2) ∧ Txt.slice (tx (shownAt dn i)) (some 1) none = tx ((shownAt dn i).drop 1) := by
  have := over g_cuts (leadAt_mem dn (show i ≤ 5 by omega)) (decide (dn.getD i 0 / 2 % 2 = 1))
  simp only [Bool.and_eq_true, beq_iff_eq] at this
  exact this
theorem k_newws {l : List Nat} {t : Tok} {Q : Value → Shared → Prop} (G : At w A L h₀) (F : Fr h₀ L s.heap m) (N : News h₀ L s.heap nw) (hroom : A.depth + 1 < recursionLimit) (hl : ∀ c ∈ l, c < 128) (hz : l.length ≤ 1000)
    (h : ∀ x h' nw' tk, Fr h₀ L h' m → News h₀ L h' nw' → (∀ z ∈ nw, z ∈ nw') → WsObj nw' x (scan l) → Q (.ref x) { s with heap := h', toks := tk }) :
    wpAny (MD w) A (call (.ref 83) [.str (tx l) t]) Q E s :=
  new_ws G F N hroom (by simpa using hl) (by simpa using hz) fun x h' nw' tk F' N' hs W => h x h' nw' tk F' N' hs W
theorem isnot_same {x y : Bool} {Q : Value → Shared → Prop} (e : x = y) (h : Q (.bool false) s) : wpAny (MD w) A (compareOp .IsNot (.bool x) (.bool y)) Q E s := by
  subst e
  exact wpAny_isNot_self (by rfl) h
/-- the statements of the last loop -/
def markOf (l : List Stmt) : List Stmt := match l.drop 10 with | .For _ _ body _ _ :: _ => body | _ => []
theorem law_mark_tail {tl tk' : Tok} {nc : Nat} {Q : Flow → Shared → Prop} (hb : (markOf (stmtsAt (KL w))).drop 4 = b) (hs : scopeAt (KL w) = sc)
    (G : At w A L h₀) (hroom : A.depth + 1 < recursionLimit) (F : Fr h₀ L s.heap m) (N : News h₀ L s.heap nw) (B : All w L dn p rows nw) (hk : p.k = 6) (M : Loc p m) (hi : i < 6)
    (hml2 : m "lead" = some (.str (tx (shownAt dn i)) tl)) (hmk : m "k" = some (.int (i : Nat) tk')) (hlc : (p.lc, lstObj (p.ch.map fun q => Value.ref q.a) nc) ∈ nw)
    (hqn : ∀ (hi5 : i < 5), ∃ q : Pair, (p.ch.map fun q => Value.ref q.a)[i + 1]? = some (.ref q.a) ∧ (q.a, q.obj) ∈ nw ∧ q.f = tx (shownAt dn (i + 1)))
    (h : ∀ m' nw' h' tk, Fr h₀ L h' m' → News h₀ L h' nw' → (∀ z ∈ nw, z ∈ nw') → All w L dn p rows nw' → Loc p m' → Q .next { s with heap := h', toks := tk }) :
    wpAny (MD w) A (execs b (lawEnv sc L a cd)) Q E s := by
  refine seg_start (fun l => (markOf l).drop 4) (by k_is) hb hs ?_
  dsimp only [markOf, List.take, List.drop, stmtsAt, scopeAt]
  refine hide fun P9 hP9 => ?_
  obtain ⟨hp, gs, dr, tk, os⟩ := s
  refine hP9 ?_
  dsimp only at F N h
  refine hide fun P9 hP9 => ?_
  obtain ⟨hmd, hmch, hml⟩ := id M
  refine hP9 ?_
  have hsl := shownAt_len (dn := dn) hi
  have hs8 : ∀ c ∈ shownAt dn i, c < 128 := fun c hc => by rcases shownAt_letters hi c hc with rfl | rfl <;> decide
  repeat walk_at "n"
  refine G.nameK F (by k_is) ?_
  refine callWith_K G.kin (by k_is) ?_
  repeat walk_at "n"
  rw [cps_spx]
  refine SB.add (fun t₁ k₁ => ?_) (by rw [sizeLine_eq, tx_len, tx_len, hsl]; simp; omega)
  rw [tx_append]
  repeat walk_at "n"
  refine ⟨G.kin.keeps F.keep, ?_⟩
  refine k_newws (l := shownAt dn i ++ [32, 32, 120]) G F N hroom (fun c hc => by
    rcases List.mem_append.mp hc with hc | hc
    · exact hs8 c hc
    · simp at hc; rcases hc with rfl | rfl <;> decide) (by simp; omega) (fun x₂ h₂ nw₂ tk₂ F₂ N₂ sub₂ W₂ => ?_)
  have B₂ := B.sub sub₂
  repeat walk_at "n"
  rename_i h₃ F₃ N₃
  refine _root_.PySem.P.lt_int ?_
  repeat walk_at "n"
  have fin : All w L dn p rows nw₂ ∧ True := ⟨B₂, trivial⟩
  by_cases hi5 : i < 5
  · rw [if_pos (by simp; omega)]
    refine hide fun P9 hP9 => ?_
    obtain ⟨q, hq1, hq2, hq3⟩ := hqn hi5
    refine hP9 ?_
    repeat walk_at "n"
    refine list_item (j := i + 1) N₃ (sub₂ _ hlc) ⟨rfl, nc, rfl⟩ (by omega) (by omega) hq1 ?_
    repeat walk_at "n"
    refine tup_item (j := 0) (vs := [.str q.f q.tf, .str q.g q.tg]) N₃ (sub₂ _ hq2) rfl (by decide) rfl ?_
    refine lead_item (i := i + 1) N₃ B₂ hk (by omega) hq3 ?_
    refine k_lessm G F₃ N₃ (B₂.fix.wss (i + 1) (by omega)) ?_
    refine callWith_K G.kin (by k_is) ?_
    repeat walk_at "n"
    refine ⟨G.kin.keeps F₃.keep, ?_⟩
    refine k_less G F₃ N₃ (B₂.fix.wss (i + 1) (by omega)) W₂ hroom (by rw [shownAt_len (by omega)]; omega) (by simp; omega) (fun h₄ tk₄ F₄ N₄ => ?_)
    repeat walk_at "n"
    refine hide fun P9 hP9 => ?_
    obtain ⟨dvs, od, hld, hod, hdi⟩ := B₂.fix.drw
    refine hP9 ?_
    have hdl := B₂.fix.dlen
    refine item_anyK (hod.is N₄ hld) hdi (by omega) (by rw [List.length_map]; omega) (by omega) (fun t₅ => ?_)
    rw [getD_nat]
    repeat walk_at "n"
    refine _root_.PyProof.Rows.mod_int (by decide) ?_
    rw [show ((dn.getD i 0 : Nat) : Int).fmod 2 = ((dn.getD i 0 : Nat) : Int).fmod (2 : Nat) from rfl, fm2]
    repeat walk_at "n"
    refine eq_int ?_
    refine isnot_same ?_ ?_
    · rw [less_beyond hi5]
      generalize dn.getD i 0 % 2 = z
      by_cases hz : z = 0
      · rw [hz]; rfl
      · rw [decide_eq_false hz]
        symm
        simpa using hz
    repeat walk_at "n"
    rw [if_neg Bool.false_ne_true]
    repeat walk_at "t"
    rw [if_neg Bool.false_ne_true]
    repeat walk_at "n"
    exact h _ nw₂ h₄ _ F₄ N₄ sub₂ B₂ ⟨by walk_at "hv", by walk_at "hv", by walk_at "hv"⟩
  · rw [if_neg (by simp; omega), if_neg Bool.false_ne_true]
    repeat walk_at "n"
    exact h _ nw₂ h₃ _ F₃ N₃ sub₂ B₂ ⟨by walk_at "hv", by walk_at "hv", by walk_at "hv"⟩
theorem law_marks {Q : Flow → Shared → Prop} (hb : (stmtsAt (KL w)).drop 10 = b) (hs : scopeAt (KL w) = sc)
    (G : At w A L h₀) (hroom : A.depth + 1 < recursionLimit) (F : Fr h₀ L s.heap m) (N : News h₀ L s.heap nw) (B : All w L dn p rows nw) (hk : p.k = 6) (hg : AllBare s.gens) (M : Loc p m)
    (h : ∀ m' nw' h' g' d' k', Fr h₀ L h' m' → News h₀ L h' nw' → All w L dn p rows nw' → AllBare g' → Q (.ret (.bool true)) ⟨h', g', d', k', s.os⟩) :
    wpAny (MD w) A (execs b (lawEnv sc L a cd)) Q E s := by
  refine seg_start (fun l => l.drop 10) (by k_is) hb hs ?_
  dsimp only [List.take, List.drop, stmtsAt, scopeAt]
  refine hide fun P9 hP9 => ?_
  obtain ⟨hp, gs, dr, tk, os⟩ := s
  refine hP9 ?_
  dsimp only at F N h hg
  refine hide fun P9 hP9 => ?_
  obtain ⟨hmd, hmch, hml⟩ := id M
  refine hP9 ?_
  have hc6 := B.fix.len
  have hcr := B.fix.row
  obtain ⟨nc, hlc⟩ := B.fix.chp
  repeat walk_at "n"
  refine wpAny_For ?_ (fun _ => rfl)
  repeat walk_at "n"
  refine G.nameB F (by k_is) (by boot_fast) (by decide) ?_
  refine Pv.callWith_type1 ?_
  repeat walk_at "n"
  refine _root_.PySem.call_range_1 ?_
  refine iter_range (IsRange.new _ _ _ _ _ _ _) (range_small 0 6 (by omega) (by omega)) (F.push _) (fun p hp => N.push F _ rfl p (.tail _ hp)) (fun I h₃ F₃ N₃ lt₃ => ?_)
  rw [show Builtin.Range.rangeSize (0 : Int) 6 1 = ((6 : Nat) : Int) from range_size 0 6] at N₃
  dsimp only
  have hbI : ∀ z ∈ nw, z.1 ≠ I := fun z hz => Nat.ne_of_lt (lt₃ z hz)
  refine for_range (n := 6) (fun i t m' nw' => (∃ hp g d tk, t = ⟨hp, g, d, tk, os⟩ ∧ AllBare g) ∧ All w L dn p rows nw' ∧ Loc p m' ∧ (∀ z ∈ nw, z ∈ nw')) G.calm
    (fun i t m' nw' h' tk o' hi hJ N' hI => ?_) (fun i t m' nw' u E' R hR1 hi hJ F' N' hI => ?_) F₃ N₃ (.head _) ?_ (fun t m' nw' h' hJ N' hI F' Nd => ?_)
  · refine hide fun P9 hP9 => ?_
    obtain ⟨⟨hp, g, d, tk', rfl, hg'⟩, B', M', K'⟩ := hJ
    refine hP9 ?_
    exact ⟨⟨_, _, _, _, rfl, hg'⟩, B'.loose N' hI rit_loose, M', fun z hz => put_mem (K' z hz) (hbI z hz)⟩
  · refine hide fun P9 hP9 => ?_
    obtain ⟨⟨hp, g, d, tk', rfl, hg'⟩, B', ⟨hmd', hmch', hml'⟩, K'⟩ := hJ
    refine hP9 ?_
    have hic : i < p.ch.length := by omega
    obtain ⟨ef, eg⟩ := RowC.get hcr hic (by simpa using hi)
    rw [List.getElem_range] at ef eg
    have hqm := B'.fix.chs p.ch[i] (List.getElem_mem hic)
    have hqv : (p.ch.map fun q => Value.ref q.a)[i]? = some (.ref p.ch[i].a) := by rw [List.getElem?_map, List.getElem?_eq_getElem hic]; rfl
    have hqn : ∀ (hi5 : i < 5), ∃ q : Pair, (p.ch.map fun q => Value.ref q.a)[i + 1]? = some (.ref q.a) ∧ (q.a, q.obj) ∈ nw ∧ q.f = tx (shownAt dn (i + 1)) := fun hi5 => by
      have hic' : i + 1 < p.ch.length := by omega
      obtain ⟨ef', eg'⟩ := RowC.get hcr hic' (by simp; omega)
      rw [List.getElem_range] at ef'
      exact ⟨p.ch[i + 1], by rw [List.getElem?_map, List.getElem?_eq_getElem hic']; rfl, B.fix.chs _ (List.getElem_mem hic'), ef'⟩
    generalize p.ch[i] = q at *
    have hsl := shownAt_len (dn := dn) hi
    have hs8 : ∀ c ∈ shownAt dn i, c < 128 := fun c hc => by rcases shownAt_letters hi c hc with rfl | rfl <;> decide
    refine _root_.PyProof.Rows.assign_Name ?_
    repeat walk_at "n"
    rename_i h₄ F₄ N₄
    refine list_item (j := i) N₄ (K' _ hlc) ⟨rfl, nc, rfl⟩ rfl (by omega) hqv ?_
    repeat walk_at "n"
    refine tup_item (j := 0) (vs := [.str q.f q.tf, .str q.g q.tg]) N₄ hqm rfl (by decide) rfl ?_
    rw [ef]
    repeat walk_at "n"
    rename_i h₅ F₅ N₅
    refine lead_item N₅ B' hk hi rfl ?_
    refine k_lessm G F₅ N₅ (B'.fix.wss i (by omega)) ?_
    refine callWith_K G.kin (by k_is) ?_
    repeat walk_at "n"
    refine lead_item N₅ B' hk hi rfl ?_
    repeat walk_at "n"
    refine ⟨G.kin.keeps F₅.keep, ?_⟩
    refine k_less G F₅ N₅ (B'.fix.wss i (by omega)) (B'.fix.wss i (by omega)) hroom (by omega) (by omega) (fun h₆ tk₆ F₆ N₆ => ?_)
    repeat walk_at "n"
    refine isnot_same (less_down (Nat.le_refl _) hi) ?_
    repeat walk_at "n"
    rw [if_neg Bool.false_ne_true]
    repeat walk_at "n"
    refine lead_item N₆ B' hk hi rfl ?_
    refine k_lessm G F₆ N₆ (B'.fix.wss i (by omega)) ?_
    refine callWith_K G.kin (by k_is) ?_
    repeat walk_at "n"
    refine G.nameK F₆ (by k_is) ?_
    refine callWith_K G.kin (by k_is) ?_
    repeat walk_at "n"
    rw [cps_sp1]
    refine SB.add (fun t₇ k₇ => ?_) (by rw [sizeLine_eq, tx_len, tx_len, hsl]; simp; omega)
    rw [tx_append]
    repeat walk_at "n"
    refine ⟨G.kin.keeps F₆.keep, ?_⟩
    refine k_newws (l := 32 :: shownAt dn i) G F₆ N₆ hroom (fun c hc => by
      rcases List.mem_cons.mp hc with rfl | hc
      · decide
      · exact hs8 c hc) (by simp; omega) (fun x₈ h₈ nw₈ tk₈ F₈ N₈ sub₈ W₈ => ?_)
    have B₈ := B'.sub sub₈
    repeat walk_at "n"
    refine ⟨G.kin.keeps F₈.keep, ?_⟩
    refine k_less G F₈ N₈ (B₈.fix.wss i (by omega)) W₈ hroom (by omega) (by simp; omega) (fun h₉ tk₉ F₉ N₉ => ?_)
    repeat walk_at "n"
    refine _root_.PySem.P.notIn_str ?_
    rw [cps_dot_tab, tab_in hi]
    refine isnot_same (by rw [less_ahead hi]; simp) ?_
    repeat walk_at "n"
    rw [if_neg Bool.false_ne_true]
    repeat walk_at "n"
    refine lead_item N₉ B₈ hk hi rfl ?_
    refine k_lessm G F₉ N₉ (B₈.fix.wss i (by omega)) ?_
    refine callWith_K G.kin (by k_is) ?_
    repeat walk_at "n"
    refine G.nameK F₉ (by k_is) ?_
    refine callWith_K G.kin (by k_is) ?_
    repeat walk_at "n"
    refine new_slice F₉ N₉ (fun sA hA FA NA ltA => ?_)
    refine slice_str (l := some (1, _)) (u := none) NA (.head _) rfl rfl (by rw [sizeLine_eq, tx_len, hsl]; omega) (by rfl) (fun tB kB => ?_)
    rw [show Txt.slice (tx (shownAt dn i)) (Option.map (fun x : Int × Tok => x.1) (some (1, _))) (Option.map (fun x : Int × Tok => x.1) none) = tx ((shownAt dn i).drop 1) from (cut_at hi).2]
    repeat walk_at "n"
    rw [cps_sp2]
    refine SB.add (fun tC kC => ?_) (by rw [sizeLine_eq, tx_len, tx_len, List.length_drop, hsl]; simp; omega)
    rw [tx_append]
    repeat walk_at "n"
    refine ⟨G.kin.keeps FA.keep, ?_⟩
    refine k_newws (l := (shownAt dn i).drop 1 ++ [32, 32]) G FA NA hroom (fun c hc => by
      rcases List.mem_append.mp hc with hc | hc
      · exact hs8 c (List.mem_of_mem_drop hc)
      · simp at hc; subst hc; decide) (by simp; omega) (fun xD hD nwD tkD FD ND subD WD => ?_)
    have BD := (B₈.sub (fun z hz => List.Mem.tail (sA, slcObj (.int 1 _) .none .none) hz)).sub subD
    repeat walk_at "n"
    refine ⟨G.kin.keeps FD.keep, ?_⟩
    refine k_less G FD ND (BD.fix.wss i (by omega)) WD hroom (by omega) (by simp; omega) (fun hE tkE FE NE => ?_)
    repeat walk_at "n"
    refine BoolOp_or ?_
    repeat walk_at "n"
    refine _root_.PySem.P.notIn_str ?_
    rw [tab_in hi]
    repeat walk_at "n"
    have key : ∀ {Q' : Value → Shared → Prop} {E'' : Value → Shared → Prop} {s' : Shared} {c : Bool}, c = wsLess (scan (shownAt dn i)) (scan ((shownAt dn i).drop 1 ++ [32, 32])) → Q' (.bool false) s' →
        wpAny (MD w) A (compareOp .IsNot (.bool (wsLess (scan (shownAt dn i)) (scan ((shownAt dn i).drop 1 ++ [32, 32])))) (.bool c)) Q' E'' s' := fun e hq => isnot_same e.symm hq
    by_cases hc : (shownAt dn i).contains 9 = true
    · rw [if_neg (by rw [hc]; decide)]
      refine BoolOp_one ?_
      repeat walk_at "n"
      refine new_slice FE NE (fun sF hF FF NF ltF => ?_)
      refine slice_str (l := none) (u := some (2, _)) NF (.head _) rfl rfl (by rw [sizeLine_eq, tx_len, hsl]; omega) (by rfl) (fun tG kG => ?_)
      rw [show Txt.slice (tx (shownAt dn i)) (Option.map (fun x : Int × Tok => x.1) none) (Option.map (fun x : Int × Tok => x.1) (some (2, _))) = tx ((shownAt dn i).take 2) from (cut_at hi).1]
      repeat walk_at "n"
      refine _root_.PySem.P.eq_str ?_
      refine key (by rw [less_cut hi, hc, cps_st]; rfl) ?_
      refine wpAny_truthy_bool ?_
      rw [if_neg Bool.false_ne_true]
      refine wpAny_execs_nil ?_
      dsimp only
      refine law_mark_tail (s := ⟨hF, g, d, _, os⟩) (tl := _) (tk' := u) (nc := nc) ?hb ?hs G hroom FF NF (BD.sub fun z hz => .tail _ hz) hk ⟨by walk_at "hv", by walk_at "hv", by walk_at "hv"⟩ hi (by walk_at "hv") (by walk_at "hv") (.tail _ (subD _ (.tail _ (sub₈ _ (K' _ hlc))))) (fun hi5 => let ⟨q, a, b, c⟩ := hqn hi5; ⟨q, a, .tail _ (subD _ (.tail _ (sub₈ _ (K' _ b)))), c⟩) (fun m'' nw'' h'' tk'' F'' N'' sub'' B'' M'' => ?_)
      case hb => kernel_rfl
      case hs => kernel_rfl
      exact hR1 _ _ _ ⟨⟨_, _, _, _, rfl, hg'⟩, B'', M'', fun z hz => sub'' _ (.tail _ (subD _ (.tail _ (sub₈ _ (K' z hz)))))⟩ F'' N'' (sub'' _ (.tail _ (subD _ (.tail _ (sub₈ _ hI)))))
    · have hc' : (shownAt dn i).contains 9 = false := by simpa using hc
      rw [if_pos (by rw [hc']; decide)]
      refine key (by rw [less_cut hi, hc']; rfl) ?_
      refine wpAny_truthy_bool ?_
      rw [if_neg Bool.false_ne_true]
      refine wpAny_execs_nil ?_
      dsimp only
      refine law_mark_tail (s := ⟨hE, g, d, _, os⟩) (tl := _) (tk' := u) (nc := nc) ?hb ?hs G hroom FE NE BD hk ⟨by walk_at "hv", by walk_at "hv", by walk_at "hv"⟩ hi (by walk_at "hv") (by walk_at "hv") (subD _ (.tail _ (sub₈ _ (K' _ hlc)))) (fun hi5 => let ⟨q, a, b, c⟩ := hqn hi5; ⟨q, a, subD _ (.tail _ (sub₈ _ (K' _ b))), c⟩) (fun m'' nw'' h'' tk'' F'' N'' sub'' B'' M'' => ?_)
      case hb => kernel_rfl
      case hs => kernel_rfl
      exact hR1 _ _ _ ⟨⟨_, _, _, _, rfl, hg'⟩, B'', M'', fun z hz => sub'' _ (subD _ (.tail _ (sub₈ _ (K' z hz))))⟩ F'' N'' (sub'' _ (subD _ (.tail _ (sub₈ _ hI))))
  · exact ⟨⟨_, _, _, _, rfl, hg⟩, B.sub fun z hz => .tail _ hz, M, fun z hz => .tail _ hz⟩
  · refine hide fun P9 hP9 => ?_
    obtain ⟨⟨hp, g, d, tk', rfl, hg'⟩, B', M', K'⟩ := hJ
    refine hP9 ?_
    repeat walk_at "n"
    exact h m' _ h' g d _ F' Nd (B'.drop N' hI rit_loose) hg'
end
/- MA2 -/
theorem law_ok : LawOk := by
  intro w A L a cd h₀ s l vs ns oc E Q b sc hb hs G hd hu F N hoc hl hi hn hg h
  have hroom : A.depth + 1 < recursionLimit := by omega
  have hroom0 : A.depth < recursionLimit := by omega
  have hu2 : A.units + 2 < cLine := by omega
  have hgb : AllBare s.gens := .of_eq hg
  refine execs_split 2 (law_draw (by rw [hb]) hs G F N hl hi hn (fun ld o dvs dn m₁ nw₁ h₁ tk₁ F₁ N₁ sub₁ hld hol hid h14 hmd => ?_))
  dsimp only
  refine execs_split 2 (law_made (by rw [hb]) hs G hroom0 F₁ N₁ hmd hld hol hid h14 (fun lc dl nc row m₂ nw₂ h₂ tk₂ F₂ N₂ sub₂ hlc hrow hR hdl ne1 ne2 ne3 hmd₂ hmc₂ hml₂ => ?_))
  dsimp only
  have hcell₂ : (L + 1, oc) ∈ nw₂ := sub₂ _ (sub₁ _ (.head _))
  refine execs_split 1 (law_places (by rw [List.drop_drop, hb]) hs G hroom F₂ N₂ hcell₂ hoc (fun pl op oc' xs dxs nw₃ h₃ tk₃ F₃ N₃ sub₃ hcell₃ hoc₃ hpl hpo hacc hinj => ?_))
  dsimp only
  have up : ∀ z ∈ nw₂, z.2.data ≠ .cell none → z ∈ nw₃ := fun z hz hne => sub₃ z hz (news_ne N₂ hz hcell₂ (fun e => hne (by rw [e]; exact hoc)))
  have hld₃ : (ld, o) ∈ nw₃ := up _ (sub₂ _ hld) (by obtain ⟨_, n, hd⟩ := hol; intro e; rw [hd] at e; cases e)
  have B₃ : All w L dn ⟨pl, ld, lc, dl, xs, dxs, fun _ => 0, row, 0⟩ (fun _ => []) nw₃ := by
    refine ⟨⟨⟨oc', hcell₃, hoc₃⟩, ⟨op, hpl, hpo⟩, ⟨dvs, o, hld₃, hol, hid⟩, ⟨nc, up _ hlc (by intro e; cases e)⟩, fun q hq => up _ (hrow q hq) (by intro e; cases e), hR, ⟨emptyDict, up _ hdl (by intro e; cases e), ?_⟩, fun i hi => absurd hi (Nat.not_lt_zero _), Nat.zero_le _, h14⟩,
      ⟨fun i j hi hj => hinj i j hi hj, fun i hi => (hacc i hi).1, fun i hi => (hacc i hi).2, fun i hi q hq => nomatch hq⟩, ⟨tabObj #[], up _ (sub₂ _ (sub₁ _ (.tail _ (.head _)))) (by intro e; cases e), #[], rfl, ?_⟩, ⟨tabObj #[], up _ (sub₂ _ (sub₁ _ (.tail _ (.tail _ (.head _))))) (by intro e; cases e), #[], rfl, ?_⟩⟩
    · exact ⟨#[], _, ⟨rfl, rfl, rfl⟩, rfl, by intro e he; simp at he, .nil, List.Pairwise.nil⟩
    · trivial
    · trivial
  have M₃ : Loc ⟨pl, ld, lc, dl, xs, dxs, fun _ => 0, row, 0⟩ m₂ := ⟨hmd₂, hmc₂, hml₂⟩
  refine execs_split 1 (law_leads (by rw [List.drop_drop, List.drop_drop, hb]) hs G hroom F₃ N₃ B₃ rfl M₃ (fun wx rows m₄ nw₄ h₄ tk₄ F₄ N₄ B₄ hR₄ h0₄ M₄ => ?_))
  dsimp only
  have M₄' : Loc { (⟨pl, ld, lc, dl, xs, dxs, fun _ => 0, row, 0⟩ : Pl) with k := 6, wx := wx } m₄ := ⟨M₄.drawn, M₄.chips, M₄.leads⟩
  refine execs_split 1 (law_check (by rw [List.drop_drop, List.drop_drop, List.drop_drop, hb]) hs G hroom hu2 F₄ N₄ B₄ hR₄ M₄' hgb (fun nw₅ h₅ g₅ d₅ k₅ F₅ N₅ B₅ hg₅ => ?_))
  dsimp only
  refine execs_split 1 (law_turns (s := ⟨h₅, g₅, d₅, k₅, s.os⟩) (by rw [List.drop_drop, List.drop_drop, List.drop_drop, List.drop_drop, hb]) hs G hroom hu2 F₅ N₅ B₅ rfl hg₅ M₄' hR₄ h0₄ (fun rows' m₆ nw₆ h₆ g₆ d₆ k₆ F₆ N₆ B₆ hg₆ M₆ HR => ?_))
  dsimp only
  refine execs_split 1 (law_due (s := ⟨h₆, g₆, d₆, k₆, s.os⟩) (by rw [List.drop_drop, List.drop_drop, List.drop_drop, List.drop_drop, List.drop_drop, hb]) hs G F₆ N₆ B₆ M₆ (fun du e o' m₇ nw₇ h₇ tk₇ t1 t2 F₇ N₇ sub₇ M₇ hdu hdm hdo he => ?_))
  dsimp only
  refine execs_split 1 (law_ends (s := ⟨h₇, g₆, d₆, tk₇, s.os⟩) (e := ⟨e, "", t1, "", t2⟩) (by rw [List.drop_drop, List.drop_drop, List.drop_drop, List.drop_drop, List.drop_drop, List.drop_drop, hb]) hs G hroom hu2 F₇ N₇ (B₆.sub sub₇) hg₆ M₇ HR hdu hdm hdo he rfl rfl (fun rows'' m₈ nw₈ h₈ g₈ d₈ k₈ F₈ N₈ B₈ hg₈ M₈ => ?_))
  dsimp only
  refine law_marks (s := ⟨h₈, g₈, d₈, k₈, s.os⟩) (by rw [List.drop_drop, List.drop_drop, List.drop_drop, List.drop_drop, List.drop_drop, List.drop_drop, List.drop_drop, hb]) hs G hroom F₈ N₈ B₈ rfl hg₈ M₈ (fun m₉ nw₉ h₉ g₉ d₉ k₉ F₉ N₉ B₉ hg₉ => ?_)
  obtain ⟨o1, a1, b1⟩ := B₉.t1
  obtain ⟨o2, a2, b2⟩ := B₉.t2
  exact h ⟨h₉, g₉, d₉, k₉, s.os⟩ o1 o2 nw₉ m₉ F₉ N₉ a1 a2 b1 b2 hg₉ rfl

end Mine
theorem PySem.Challenge.cw_kl0049_01_holds : PySem.Challenge.rw_kl0049_01.Holds := by
  exact Mine.enter_law Mine.law_ok
