import PyProof.Rows.All
import Wide.All
import OpenK.AllK
import Wide.FinOn
import PySem.Challenge.RW_pd0077_01

/-! The law of the tree of numbers: each function that it reaches is walked once (its contract: a plain function), the plain laws of
paths follow (P2 to P8), and the law's own walk joins them. -/
set_option Elab.async false
set_option compiler.extract_closed false
section Hd
open PySem PySem.W PyProof.Rows
set_option Elab.async false
set_option maxRecDepth 100000
set_option maxHeartbeats 8000000
namespace Mine
section
/- the part of the heap that the law comes to is written out by the head's first half; its second half is not asked for here -/
local macro_rules | `(tactic| o_head $_) => `(tactic| exact False.elim (by assumption))
theorem hd : False → PySem.Challenge.rw_pd0077_01.Holds := by
  intro no
  refine holds_law no.elim fun _ => ?_
  k_head
end
/-- a statement of the top that the head's view keeps -/
noncomputable def keptStmt : Stmt → Bool
  | .FunctionDef .. => true
  | .ClassDef .. => true
  | _ => false
noncomputable def hd.view : Program := { PySem.Challenge.pw_pd0077_01 with main := { PySem.Challenge.pw_pd0077_01.main with body := PySem.Challenge.pw_pd0077_01.main.body.filter keptStmt } }
end Mine

end Hd
/-! ## S1 -/
section S1
open PySem PySem.W PyProof.Rows PySem.Calls
set_option Elab.async false
set_option pp.deepTerms false
set_option pp.maxSteps 400
set_option maxRecDepth 100000
set_option maxHeartbeats 8000000
namespace Mine

section
variable {prog : Program} {w : World} {A : Around} {E : Value → Shared → Prop} {s : Shared}

theorem issub_nested_str {k : Value} {dep : Int} {tk : Tok} {Q : Fin → Shared → Prop} (hk : k = .int dep tk) (hq : Q (.done (.ret (.bool true))) s) :
    wpAny (model prog w) A (Builtin.«issubclass.nested» ⟨[.type "str", .type "str", k], []⟩) Q E s := by
  subst hk
  have hself : isSubtype (.type "str") (.type "str") = pure true := by kernel_rfl
  have hm : typeOf (.type "str") = pure (.type "type") := by kernel_rfl
  repeat (any_goals (first | assumption | (rw [hm]) | (rw [hself]) | wp_step))

theorem issub_nested_tup {D : Addr} {Q : Fin → Shared → Prop} (hD : s.heap.get? D = some { cls := .type "tuple", data := .seq #[.type "str", .type "bytes"] })
   (hq : Q (.done (.ret (.bool true))) s) :
    wpAny (model prog w) A (Builtin.«issubclass.nested» ⟨[.type "str", .ref D, rawInt 0], []⟩) Q E s := by
  have hT : s.TypeIs (.ref D) "tuple" := ⟨_, hD, rfl⟩
  have hs : isSubtype (.type "tuple") (.type "tuple") = pure true := by kernel_rfl
  unfold Builtin.«issubclass.nested»
  repeat (any_goals (first | assumption  | wp_step))
  refine (codeAny_call_builtin (id := "issubclass.nested") (by decide +kernel) F.entry_issubclass_nested ?_)
  have hsig : Manifest.signature? "issubclass.nested" = none := by kernel_rfl
  have hkind : builtinKind "issubclass.nested" = none := by decide +kernel
  simp only [checkBuiltinCall, hkind, hsig]
  refine wpAny_pure ?_
  refine issub_nested_str rfl ?_
  repeat (any_goals (first | assumption  | wp_step))

theorem issub_str_tup {D : Addr} {Q : Value → Shared → Prop} (hD : s.heap.get? D = some { cls := .type "tuple", data := .seq #[.type "str", .type "bytes"] })
   (hq : Q (.bool true) s) : wpAny (model prog w) A (call (.builtin "issubclass") [.type "str", .ref D]) Q E s :=
  call_issubclass (S := fun _ R s => s.heap.get? D = some { cls := .type "tuple", data := .seq #[.type "str", .type "bytes"] } ∧ R (.ok (.ret (.bool true))) s)
    (fun _ _ _ _ _ hs => issubclass_outer (issub_nested_tup hs.1 hs.2)) ⟨hD, hq⟩
end
end Mine
open Mine
end S1
open PySem PySem.W PyProof.Rows PySem.Calls Mine
local macro_rules | `(tactic| walk_at "call builtin:issubclass") => `(tactic| (k_here; k_dflt (refine' Mine.issub_str_tup ?k1 ?_; (case k1 => exact News.get (by assumption) (by k_mem)); k_whole)))
/-! ## Base -/
section Base
open PySem PySem.W PyProof.Rows PySem.Calls
set_option Elab.async false
set_option maxRecDepth 100000
set_option maxHeartbeats 8000000
namespace Mine

theorem fill : Mine.hd.heap_1 = Mine.hd.heap_1 ∧ PySem.Challenge.rw_pd0077_01 = PySem.Challenge.rw_pd0077_01 := by
  k_fill
  exact ⟨rfl, rfl⟩

abbrev Keeps (h h' : Heap) : Prop := ∀ b o, h.get? b = some o → h'.get? b = some o
theorem news_keeps {h₀ h h' : Heap} {L : Addr} {news : List (Addr × Obj)} (N : News h₀ L h news) (k : Keeps h h') : News h₀ L h' news :=
  fun p hp => ⟨k _ _ (N p hp).1, (N p hp).2.1, (N p hp).2.2⟩

theorem code_pure {prog : Program} {w : World} {A₀ A : Around} {s : Shared} {K : Frag} {L : Addr} {h₀ base : Heap} {m mg mb : Str → Option Value} {news : List (Addr × Obj)} {p : Program} {loose : List Str} {mean : ExcName → Option Value}
    {env : Env} {outer : List Env} {R : Result → Shared → Prop} {name qual : Str} {params : Arguments} {body : List Stmt} {scope : Scope} {dV kV doc pm cdv ct oc : Value} {an od : Option Addr} {osl : Array (Option Value)} {f : Addr} {args : Args} {binds : List (Str × Value)}
    (B : Below A₀ base outer h₀) (F : Fr h₀ L s.heap m) (X₀ : K.In h₀) (N : News h₀ L s.heap news) (T : Top p loose mean mg mb h₀) (hA : A.frames = some (env :: outer)) (hf : env.frame = some L) (hke : env.scope.kind = .function)
    (ho : K.lookup f = some ⟨oc, od, .func (fnOf name qual params body scope dV kV doc pm an cdv ct), osl⟩) (hcd : codeIn K cdv qual = true) (hroom : A.depth < recursionLimit)
    (hbind : BindsTo s (fnOf name qual params body scope dV kV doc pm an cdv ct) args binds) (hloc : ∀ y ∈ binds, scope.names.lookup y.1 = some .local)
    (h : ∀ g L' h₁, (∀ b o, s.heap.get? b = some o → b ∉ news.map (·.1) → g.get? b = some o) → Fr h₀ L g m → Fr g L' h₁ (fun y => binds.reverse.lookup y) → News g L' h₁ news → Below A base (env :: outer) g → K.In g → Top p loose mean mg mb g →
      wpAny (model prog w) (A.deeper (envOf qual scope L' f cdv)) (execs body (envOf qual scope L' f cdv))
        (fun fl s' => LeaveK h₀ L m g R (match fl with | .ret v => v | _ => .none) s')
        (fun e s' => wpAny (model prog w) (A.deeper (envOf qual scope L' f cdv)) (leaving (envOf qual scope L' f cdv) e) (fun _ s'' => R (.error e) s'') (fun e' s'' => R (.error e') s'') s')
        { s with heap := h₁, toks := s.toks + binds.length })
    (hco : scope.isCoroutine = false) (hgen : scope.isGenerator = false) (hk : scope.kind = .function)
    (hcell : ∀ x ∈ scope.names, x.2 ≠ .cell) : codeAny (model prog w) A (.call (.ref f) args) R s := by
  obtain ⟨FG, BG, st, lv⟩ := groundX (R := R) B F N hA hf hke
  refine codeAny_call_def (fd := fnOf name qual params body scope dV kV doc pm an cdv ct) (body := body) (binds := binds) hroom ((X₀.keeps F.keep) _ _ ho) rfl (T.nolimit.keeps F.keep) (codeRec_of (X₀.keeps F.keep) hcd) rfl hbind hcell hloc (fun h₁ hns hk₁ => ?_) hco hgen hk
  exact wpAny_mono (h _ s.heap.objs.size h₁ (fun b o e n => hideAll_get _ e n) FG ⟨hns, fun b o e => hk₁ b o (of_hideAll _ e), Nat.le_of_eq (hideAll_size _ _)⟩
    (fun p hp => ⟨hk₁ _ _ (N p hp).1, Nat.ne_of_lt (Heap.lt_size (N p hp).1), hideAll_none _ (List.mem_map_of_mem hp)⟩) BG (X₀.keeps st) (T.keeps st)) (fun fl s' hl => lv _ _ hl) fun _ _ y => y

theorem keeps_of {h g h' : Heap} (k : ∀ b o, h.get? b = some o → b ∉ ([] : List (Addr × Obj)).map (·.1) → g.get? b = some o) (F : Keeps g h') : Keeps h h' :=
  fun b o e => F b o (k b o e (by simp))

abbrev Ret (h₀ : Heap) (L : Addr) (m : Str → Option Value) (s : Shared) (Q : Value → Shared → Prop) (R : Tok → Value) : Prop :=
  ∀ (t : Tok) (h' : Heap) (tk' : Nat), Fr h₀ L h' m → Keeps s.heap h' → Q (R t) { s with heap := h', toks := tk' }

abbrev Claim (f : Addr) (dd : Nat) (pre : Prop) (vs : List Value) (R : Tok → Value) : Prop :=
  ∀ (w : World) (mean : ExcName → Option Value) (mg mb : Str → Option Value) (dp un : Nat) (gd : Option (List Code)) (cn : Str) (cs : Scope) (a : Addr) (ccd : Value) (cl : List (Str × Addr)) (outer : List Env) (A₀ : Around) (base h₀ : Heap) (L : Addr) (m : Str → Option Value) (s : Shared) (Q E : Value → Shared → Prop),
    Below A₀ base outer h₀ → Fr h₀ L s.heap m → (Mine.hd.heap_1 w.params).In h₀ → Top Mine.hd.view (looseW Mine.hd.view []) mean mg mb h₀ → cs.kind = .function →
    pre → dp + dd < recursionLimit → un + 8 * dd < cLine → Ret h₀ L m s Q R →
      wpAny (model PySem.Challenge.rw_pd0077_01.row.prog w) (ktrTop dp un gd cn cs L a ccd cl outer) (call (.ref f) vs) Q E s
end Mine
open Mine
namespace Mine
theorem use_claim {f : Addr} {dd : Nat} {pre : Prop} {vs : List Value} {R : Tok → Value} (C : Claim f dd pre vs R)
    {w : World} {mean : ExcName → Option Value} {mg mb : Str → Option Value} {dp un : Nat} {gd : Option (List Code)} {cn : Str} {cs : Scope} {a : Addr} {ccd : Value} {cl : List (Str × Addr)} {outer : List Env} {A₀ : Around} {base h₀ : Heap} {L : Addr} {m : Str → Option Value} {s : Shared} {Q E : Value → Shared → Prop} {news : List (Addr × Obj)}
    (B : Below A₀ base outer h₀) (F : Fr h₀ L s.heap m) (X : (Mine.hd.heap_1 w.params).In h₀) (N : News h₀ L s.heap news) (T : Top Mine.hd.view (looseW Mine.hd.view []) mean mg mb h₀) (hk : cs.kind = .function)
    (hp : pre) (hd : dp + dd < recursionLimit) (hu : un + 8 * dd < cLine) (ret : ∀ (t : Tok) (h' : Heap) (tk' : Nat), Fr h₀ L h' m → News h₀ L h' news → Q (R t) { s with heap := h', toks := tk' }) :
    wpAny (model PySem.Challenge.rw_pd0077_01.row.prog w) (ktrTop dp un gd cn cs L a ccd cl outer) (call (.ref f) vs) Q E s :=
  C w mean mg mb dp un gd cn cs a ccd cl outer A₀ base h₀ L m s Q E B F X T hk hp hd hu (fun t h' tk' F' k => ret t h' tk' F' (news_keeps N k))
end Mine
namespace Mine
abbrev RetO (h₀ : Heap) (L : Addr) (m : Str → Option Value) (s : Shared) (Q : Value → Shared → Prop) (P : Obj → Prop) : Prop :=
  ∀ (D : Addr) (o : Obj) (h' : Heap) (tk' : Nat), P o → Fr h₀ L h' m → Keeps s.heap h' → h'.get? D = some o → s.heap.get? D = none → Q (.ref D) { s with heap := h', toks := tk' }

abbrev ClaimO (f : Addr) (dd : Nat) (pre : Prop) (vs : List Value) (P : Obj → Prop) : Prop :=
  ∀ (w : World) (mean : ExcName → Option Value) (mg mb : Str → Option Value) (dp un : Nat) (gd : Option (List Code)) (cn : Str) (cs : Scope) (a : Addr) (ccd : Value) (cl : List (Str × Addr)) (outer : List Env) (A₀ : Around) (base h₀ : Heap) (L : Addr) (m : Str → Option Value) (s : Shared) (Q E : Value → Shared → Prop),
    Below A₀ base outer h₀ → Fr h₀ L s.heap m → (Mine.hd.heap_1 w.params).In h₀ → Top Mine.hd.view (looseW Mine.hd.view []) mean mg mb h₀ → cs.kind = .function →
    pre → dp + dd < recursionLimit → un + 8 * dd < cLine → RetO h₀ L m s Q P →
      wpAny (model PySem.Challenge.rw_pd0077_01.row.prog w) (ktrTop dp un gd cn cs L a ccd cl outer) (call (.ref f) vs) Q E s

theorem news_add {h₀ h h' : Heap} {L D : Addr} {m : Str → Option Value} {o : Obj} {news : List (Addr × Obj)} (F : Fr h₀ L h m) (N : News h₀ L h news) (k : Keeps h h') (hD : h'.get? D = some o) (hn : h.get? D = none) : News h₀ L h' ((D, o) :: news) := by
  intro p hp
  rcases List.mem_cons.mp hp with rfl | hp
  · refine ⟨hD, fun e => ?_, ?_⟩
    · obtain ⟨oL, _, _, hL, _⟩ := F.ns
      dsimp only at e
      rw [e, hL] at hn
      cases hn
    · cases q : h₀.get? D with
      | none => rfl
      | some o' => rw [F.keep _ _ q] at hn; cases hn
  · exact news_keeps N k p hp

theorem use_claimO {f : Addr} {dd : Nat} {pre : Prop} {vs : List Value} {P : Obj → Prop} (C : ClaimO f dd pre vs P)
    {w : World} {mean : ExcName → Option Value} {mg mb : Str → Option Value} {dp un : Nat} {gd : Option (List Code)} {cn : Str} {cs : Scope} {a : Addr} {ccd : Value} {cl : List (Str × Addr)} {outer : List Env} {A₀ : Around} {base h₀ : Heap} {L : Addr} {m : Str → Option Value} {s : Shared} {Q E : Value → Shared → Prop} {news : List (Addr × Obj)}
    (B : Below A₀ base outer h₀) (F : Fr h₀ L s.heap m) (X : (Mine.hd.heap_1 w.params).In h₀) (N : News h₀ L s.heap news) (T : Top Mine.hd.view (looseW Mine.hd.view []) mean mg mb h₀) (hk : cs.kind = .function)
    (hp : pre) (hd : dp + dd < recursionLimit) (hu : un + 8 * dd < cLine) (ret : ∀ (D : Addr) (o : Obj) (h' : Heap) (tk' : Nat), P o → Fr h₀ L h' m → News h₀ L h' ((D, o) :: news) → (∀ p ∈ news, p.1 ≠ D) → Q (.ref D) { s with heap := h', toks := tk' }) :
    wpAny (model PySem.Challenge.rw_pd0077_01.row.prog w) (ktrTop dp un gd cn cs L a ccd cl outer) (call (.ref f) vs) Q E s :=
  C w mean mg mb dp un gd cn cs a ccd cl outer A₀ base h₀ L m s Q E B F X T hk hp hd hu (fun D o h' tk' ho F' k hD hn => ret D o h' tk' ho F' (news_add F N k hD hn) (fun p hp e => by rw [← e, (N p hp).1] at hn; cases hn))

theorem fresh_of {h g h' : Heap} {L D : Addr} {o : Obj} {news : List (Addr × Obj)} (k : ∀ b o, h.get? b = some o → b ∉ ([] : List (Addr × Obj)).map (·.1) → g.get? b = some o) (N : News g L h' ((D, o) :: news)) : h.get? D = none := by
  cases q : h.get? D with
  | none => rfl
  | some o' =>
    have := k _ _ q (by simp)
    rw [(N _ (.head _)).2.2] at this
    cases this

theorem ret_obj {h₀ g : Heap} {L L' D : Addr} {m m' : Str → Option Value} {s : Shared} {Q : Value → Shared → Prop} {P : Obj → Prop} {o : Obj} {h' : Heap} {tk' : Nat} {news : List (Addr × Obj)}
    (hret : RetO h₀ L m s Q P) (k : ∀ b o, s.heap.get? b = some o → b ∉ ([] : List (Addr × Obj)).map (·.1) → g.get? b = some o) (F : Fr h₀ L h' m) (F' : Fr g L' h' m') (N : News g L' h' ((D, o) :: news)) (hP : P o) :
    Q (.ref D) { s with heap := h', toks := tk' } :=
  hret D o h' tk' hP F (keeps_of k F'.keep) (N _ (.head _)).1 (fresh_of k N)

def tupObj (l : List Value) : Obj := { cls := .type "tuple", data := .seq l.toArray }
end Mine
namespace Mine
def AllNe (d : Nat) : List (Addr × Obj) → Prop
  | [] => True
  | p :: r => ¬ @Eq Nat p.1 d ∧ AllNe d r
theorem allNe_of {d : Addr} : ∀ {l : List (Addr × Obj)}, (∀ p ∈ l, p.1 ≠ d) → AllNe d l
  | [], _ => trivial
  | p :: _, h => ⟨h p (.head _), allNe_of fun q hq => h q (.tail _ hq)⟩
end Mine
namespace Mine
theorem cb_val {h₀ : Heap} {L : Addr} {m : Str → Option Value} {s : Shared} {Q : Value → Shared → Prop} {b c : Bool} (hret : Ret h₀ L m s Q (fun _ => .bool b)) {h' : Heap} {tk' : Nat} (e : b = c) (F : Fr h₀ L h' m) (k : Keeps s.heap h') : Q (.bool c) { s with heap := h', toks := tk' } := by
  subst e
  exact hret 0 h' tk' F k
end Mine
namespace Mine
theorem ret_str {h₀ : Heap} {L : Addr} {m : Str → Option Value} {s : Shared} {Q : Value → Shared → Prop} {b c : Str} {t : Tok} (hret : Ret h₀ L m s Q (fun t => .str b t)) {h' : Heap} {tk' : Nat} (F : Fr h₀ L h' m) (k : Keeps s.heap h') (e : b = c) : Q (.str c t) { s with heap := h', toks := tk' } := by
  subst e
  exact hret t h' tk' F k
theorem ret_int {h₀ : Heap} {L : Addr} {m : Str → Option Value} {s : Shared} {Q : Value → Shared → Prop} {b c : Int} {t : Tok} (hret : Ret h₀ L m s Q (fun t => .int b t)) {h' : Heap} {tk' : Nat} (F : Fr h₀ L h' m) (k : Keeps s.heap h') (e : b = c) : Q (.int c t) { s with heap := h', toks := tk' } := by
  subst e
  exact hret t h' tk' F k
end Mine
end Base
open PySem PySem.W PyProof.Rows PySem.Calls Mine
local macro_rules | `(tactic| walk_at "mine leave") => `(tactic| (refine hret _ _ _ ?e1 ?e2; (case e1 => assumption); (case e2 => exact Mine.keeps_of (by assumption) (Fr.keep (by assumption)))))
local macro_rules | `(tactic| k_ne) => `(tactic| (refine neN ?_; (try dsimp only); first | (with_reducible assumption) | ((repeat ((with_reducible rename _ ∧ _ => hh); first | (simp only [ne_eq, hh, not_false_eq_true]; done) | clear hh)); done)))
set_option hygiene false in
local macro_rules | `(tactic| walk_at "mine sides") => `(tactic| ((case k1 => k_asm); (case k2 => k_asm); (case k3 => k_asm); (case k4 => k_asm); (case k5 => k_asm); (case k6 => first | exact rfl | assumption); (case k7 => first | with_reducible trivial | with_reducible assumption | omega | (refine ⟨?_, ?_⟩ <;> omega) | trivial | assumption | l_fact); (case k8 => ktr_room); (case k9 => ktr_units); k_whole))
set_option hygiene false in
local macro_rules | `(tactic| walk_at "call ref") => `(tactic| (k_here; k_dflt (refine' Mine.use_claim ?c9 ?k1 ?k2 ?k3 ?k4 ?k5 ?k6 ?k7 ?k8 ?k9 ?_; (case c9 => walk_at "mine claim"); walk_at "mine sides"; intro t9q h9q tk9q F9q N9q; (try dsimp only); (try k_fold))))
set_option hygiene false in
local macro_rules | `(tactic| walk_at "call ref") => `(tactic| (k_here; k_dflt (refine' Mine.use_claimO ?c9 ?k1 ?k2 ?k3 ?k4 ?k5 ?k6 ?k7 ?k8 ?k9 ?_; (case c9 => walk_at "mine claimO"); walk_at "mine sides"; intro D9q o9q h9q tk9q P9q F9q N9q L9q; (first | (obtain ⟨_, _, _, e9q⟩ := P9q; subst e9q) | (obtain ⟨_, _, e9q⟩ := P9q; subst e9q)); (replace L9q := Mine.allNe_of L9q); (dsimp only [Mine.AllNe] at L9q); (try dsimp only); (try k_fold))))
/-! ## Loop -/
section Loop
open PySem PySem.W PyProof.Rows PySem.Calls
set_option Elab.async false
set_option maxRecDepth 100000
set_option maxHeartbeats 8000000
namespace Mine

def LPost (h₀ : Heap) (L I : Addr) (oI : Obj) (fix : List (Addr × Obj)) (Jn : (Str → Option Value) → List (Addr × Obj) → Prop) (s₁ : Shared) (Q : Flow → Shared → Prop) (f : Flow) (s₂ : Shared) : Prop :=
  match f with
  | .ret v => Q (.ret v) s₂
  | .brk => Q .next s₂
  | _ => ∃ h' tk m' news', s₂ = { s₁ with heap := h', toks := tk } ∧ Fr h₀ L h' m' ∧ News h₀ L h' ((I, oI) :: news') ∧ (∀ p ∈ news', p.1 ≠ I) ∧ (∀ p ∈ fix, p ∈ news') ∧ Jn m' news'

theorem for_loop {prog : Program} {w : World} {A : Around} {s : Shared} {env : Env} {h₀ : Heap} {R : Result → Shared → Prop} {target : Expr} {body : List Stmt} {I : Addr} {fp : List Addr} {n : Nat} {P : Nat → Value → Prop} {St : Nat → Heap → Prop} {m : Str → Option Value}
    {news fix : List (Addr × Obj)} (J : Nat → (Str → Option Value) → List (Addr × Obj) → Prop) (W : Walks prog w A I fp [I] n P St)
    (hLf : env.locals ∉ fp) (hI0 : h₀.get? I = none) (hfp : ∀ b ∈ fp, b = I ∨ (∃ o, (b, o) ∈ fix) ∨ ∃ o, h₀.get? b = some o) (hIf : I ∈ fp)
    (hIs : ∀ i h, St i h → ∃ o, h.get? I = some o)
    (hst : St 0 s.heap) (F : Fr h₀ env.locals s.heap m) (N : News h₀ env.locals s.heap news) (hnI : ∀ p ∈ news, p.1 ≠ I) (hfix : ∀ p ∈ fix, p ∈ news) (hJ : J 0 m news)
    (hgo : ∀ i (s' : Shared) v (Q' : Unit → Shared → Prop) (E' : Value → Shared → Prop), St i s'.heap → Q' () s' → wpAny (model prog w) A (letOwnedTupleGo target (.ref I) v) Q' E' s')
    (turn : ∀ i v m₁ news₁ h tk oI, i < n → P i v → J i m₁ news₁ → Fr h₀ env.locals h m₁ → News h₀ env.locals h ((I, oI) :: news₁) → (∀ p ∈ news₁, p.1 ≠ I) → (∀ p ∈ fix, p ∈ news₁) →
      wpAny (model prog w) A (assign target env v) (fun _ s₂ => wpAny (model prog w) A (execs body env)
        (LPost h₀ env.locals I oI fix (J (i + 1)) s (fun f s' => R (.ok f) s')) (fun _ _ => False) s₂) (fun _ _ => False) { s with heap := h, toks := tk })
    (done : ∀ m₁ news₁ h tk, J n m₁ news₁ → Fr h₀ env.locals h m₁ → News h₀ env.locals h news₁ → R (.ok .next) { s with heap := h, toks := tk }) :
    codeAny (model prog w) A (.forLoop target (.ref I) body [] env) R s := by
  have hLI : env.locals ≠ I := fun e => hLf (e ▸ hIf)
  refine codeAny_forLoop_any
    (fun k s' => ∃ h' tk m' news' i, s' = { s with heap := h', toks := tk } ∧ St i h' ∧ Fr h₀ env.locals h' m' ∧ News h₀ env.locals h' news' ∧ (∀ p ∈ news', p.1 ≠ I) ∧ (∀ p ∈ fix, p ∈ news') ∧ J i m' news' ∧ i ≤ n ∧ k = n + 1 - i) ?_ (n + 1)
    ⟨s.heap, s.toks, m, news, 0, rfl, hst, F, N, hnI, hfix, hJ, Nat.zero_le _, rfl⟩
  rintro k s' ⟨h', tk, m', news', i, rfl, hst', F', N', hn', hf', hJ', hi, rfl⟩
  have next : ∀ h₁ : Heap, (∀ b o, b ∉ [I] → h'.get? b = some o → h₁.get? b = some o) → Fr h₀ env.locals h₁ m' ∧ News h₀ env.locals h₁ news' := fun h₁ hk₁ =>
    ⟨⟨F'.ns.at' fun o e => hk₁ _ o (by simpa using hLI) e, fun b o e => hk₁ b o (fun hb => by
        have e' := List.mem_singleton.mp hb
        subst e'
        rw [hI0] at e; cases e) (F'.keep b o e), F'.above⟩,
      fun p hp => ⟨hk₁ _ _ (by simpa using hn' p hp) (N' p hp).1, (N' p hp).2⟩⟩
  by_cases hlt : i < n
  · refine W.item i _ _ _ hlt hst' fun v h₁ tk₁ hP hst₁ hk₁ => ?_
    obtain ⟨F₁, N₁⟩ := next h₁ hk₁
    obtain ⟨oI, hoI⟩ := hIs _ _ hst₁
    have N₂ : News h₀ env.locals h₁ ((I, oI) :: news') := by
      intro p hp
      rcases List.mem_cons.mp hp with rfl | hp
      · exact ⟨hoI, Ne.symm hLI, hI0⟩
      · exact N₁ p hp
    refine hgo (i + 1) _ v _ _ hst₁ ?_
    refine wpAny_mono (turn i v m' news' h₁ tk₁ oI hlt hP hJ' F₁ N₂ hn' hf') (fun _ s₂ h₂ => wpAny_mono h₂ (fun f s₃ h₃ => ?_) fun _ _ e => e.elim) fun _ _ e => e.elim
    have fin : (∃ h' tk m' news', s₃ = { s with heap := h', toks := tk } ∧ Fr h₀ env.locals h' m' ∧ News h₀ env.locals h' ((I, oI) :: news') ∧ (∀ p ∈ news', p.1 ≠ I) ∧ (∀ p ∈ fix, p ∈ news') ∧ J (i + 1) m' news') →
        ∃ m, m < n + 1 - i ∧ ∃ h' tk m' news' i, s₃ = { s with heap := h', toks := tk } ∧ St i h' ∧ Fr h₀ env.locals h' m' ∧ News h₀ env.locals h' news' ∧ (∀ p ∈ news', p.1 ≠ I) ∧ (∀ p ∈ fix, p ∈ news') ∧ J i m' news' ∧ i ≤ n ∧ m = n + 1 - i := by
      rintro ⟨h₃', tk₃, m₂, news₂, rfl, F₃, N₃, hn₃, hf₃, hJ₃⟩
      refine ⟨n + 1 - (i + 1), by omega, h₃', tk₃, m₂, news₂, i + 1, rfl, ?_, F₃, fun p hp => N₃ p (.tail _ hp), hn₃, hf₃, hJ₃, hlt, rfl⟩
      refine W.frame _ _ _ hst₁ fun b hb o e => ?_
      rcases hfp b hb with rfl | ⟨o', ho'⟩ | ⟨o', ho'⟩
      · rw [hoI] at e; cases e; exact (N₃ _ (.head _)).1
      · have q := (N₁ _ (hf' _ ho')).1
        rw [e] at q
        cases q
        exact (N₃ _ (.tail _ (hf₃ _ ho'))).1
      · have q := F₁.keep _ _ ho'
        rw [e] at q
        cases q
        exact F₃.keep _ _ ho'
    cases f with
    | ret v => exact h₃
    | brk => exact h₃
    | cont => exact fin h₃
    | next => exact fin h₃
  · have hin : i = n := by omega
    subst hin
    refine W.done _ _ _ hst' fun h₁ tk₁ hk₁ => wpAny_execs_nil ?_
    obtain ⟨F₁, N₁⟩ := next h₁ hk₁
    exact done _ _ h₁ tk₁ hJ' F₁ N₁

theorem go_name {prog : Program} {w : World} {A : Around} {x : Str} {p : Pos} {I : Addr} (s' : Shared) (v : Value) (Q' : Unit → Shared → Prop) (E' : Value → Shared → Prop) (h : Q' () s') : wpAny (model prog w) A (letOwnedTupleGo (.Name x p) (.ref I) v) Q' E' s' := wpAny_pure h

section
variable {prog : Program} {w : World} {A : Around} {s : Shared} {env : Env} {h₀ : Heap} {E : Value → Shared → Prop} {Q : Flow → Shared → Prop} {target iter : Expr} {body : List Stmt} {pos : Pos} {m : Str → Option Value} {news : List (Addr × Obj)}

/-- what a loop must show once its iterable `x` is known -/
def ForAt (prog : Program) (w : World) (A : Around) (env : Env) (target : Expr) (body : List Stmt) (Q : Flow → Shared → Prop) (E : Value → Shared → Prop) (x : Value) (s₁ : Shared) : Prop :=
  wpAny (model prog w) A (pyIter x) (fun it s₂ => codeAny (model prog w) A (.forLoop target it body [] env) (fun r s' => match r with | .ok f => Q f s' | .error e => cameBackBy (model prog w) A env E e s') s₂) E s₁

theorem for_start (h : wpAny (model prog w) A (eval iter env) (ForAt prog w A env target body Q E) E s) (hs : ∀ x, foldedSetIterable iter env x = pure x := by intro _; rfl) :
    wpAny (model prog w) A (exec (.For target iter body [] pos) env) Q E s := wpAny_For h hs

theorem iter_new {F : Fr h₀ env.locals s.heap m} : h₀.get? s.heap.objs.size = none := next_is_new F

theorem for_list {l : Addr} {vs : List Value} {o : Obj} {ep : Nat} (J : Nat → (Str → Option Value) → List (Addr × Obj) → Prop) (hh : A.handled = none)
    (F : Fr h₀ env.locals s.heap m) (N : News h₀ env.locals s.heap news) (hl : (l, o) ∈ news) (ho : o = ⟨.type "list", none, .seq vs.toArray ep, #[]⟩) (hJ : J 0 m news)
    (hgo : ∀ I (s' : Shared) v (Q' : Unit → Shared → Prop) (E' : Value → Shared → Prop) i, s'.heap.IsListIter I l i → Q' () s' → wpAny (model prog w) A (letOwnedTupleGo target (.ref I) v) Q' E' s')
    (turn : ∀ I i v m₁ news₁ h tk oI, i < vs.length → vs[i]? = some v → J i m₁ news₁ → Fr h₀ env.locals h m₁ → News h₀ env.locals h ((I, oI) :: news₁) → (∀ p ∈ news₁, p.1 ≠ I) → (l, o) ∈ news₁ →
      wpAny (model prog w) A (assign target env v) (fun _ s₂ => wpAny (model prog w) A (execs body env)
        (LPost h₀ env.locals I oI [(l, o)] (J (i + 1)) s Q) (fun _ _ => False) s₂) (fun _ _ => False) { s with heap := h, toks := tk })
    (done : ∀ m₁ news₁ h tk, J vs.length m₁ news₁ → Fr h₀ env.locals h m₁ → News h₀ env.locals h news₁ → Q .next { s with heap := h, toks := tk }) :
    ForAt prog w A env target body Q E (.ref l) s := by
  have hls : s.heap.IsList l vs.toArray := ⟨_, (N _ hl).1, by rw [ho], by rw [ho]; exact ⟨_, rfl⟩⟩
  have hlt : l < s.heap.objs.size := Heap.lt_size (N _ hl).1
  have hne : l ≠ s.heap.objs.size := Nat.ne_of_lt hlt
  refine wpAny_pyIter_list hls ?_
  have hlen : vs.toArray.size = vs.length := by simp
  have W := Walks.list (prog := prog) (w := w) hh s.heap.objs.size l hne vs.toArray
  rw [hlen] at W
  refine for_loop (fix := [(l, o)]) J W ?_ (next_is_new F) ?_ (by simp) ?_ ⟨⟨_, Heap.get?_push_size _ rfl, rfl, rfl⟩, hls.at fun o e => Heap.get?_push_of_some _ e⟩ (F.push _) (fun p hp => ⟨Heap.get?_push_of_some _ (N p hp).1, (N p hp).2⟩) ?_ ?_ hJ ?_ ?_ done
  · intro hm
    rcases List.mem_cons.mp hm with e | hm
    · exact absurd F.ns.lt (e ▸ Nat.lt_irrefl _)
    · exact (N _ hl).2.1 (List.mem_singleton.mp hm).symm
  · intro b hb
    rcases List.mem_cons.mp hb with e | hb
    · exact .inl e
    · exact .inr (.inl ⟨o, by rw [List.mem_singleton.mp hb]; exact .head _⟩)
  · rintro i h ⟨⟨o, ho, _⟩, _⟩; exact ⟨o, ho⟩
  · intro p hp; exact Nat.ne_of_lt (Heap.lt_size (N p hp).1)
  · intro p hp; rw [List.mem_singleton.mp hp]; exact hl
  · intro i s' v Q' E' hs hq; exact hgo _ s' v Q' E' i hs.1 hq
  · intro i v m₁ news₁ h tk oI hi hP hJ₁ F₁ N₁ hn₁ hf₁
    exact turn _ i v m₁ news₁ h tk oI hi (by simpa using hP) hJ₁ F₁ N₁ hn₁ (hf₁ _ (.head _))

theorem for_tuple {l : Addr} {vs : List Value} {o : Obj} {ep : Nat} (J : Nat → (Str → Option Value) → List (Addr × Obj) → Prop) (hh : A.handled = none)
    (F : Fr h₀ env.locals s.heap m) (N : News h₀ env.locals s.heap news) (hl : (l, o) ∈ news) (ho : o = ⟨.type "tuple", none, .seq vs.toArray ep, #[]⟩) (hJ : J 0 m news)
    (hgo : ∀ I (s' : Shared) v (Q' : Unit → Shared → Prop) (E' : Value → Shared → Prop), Q' () s' → wpAny (model prog w) A (letOwnedTupleGo target (.ref I) v) Q' E' s')
    (turn : ∀ I i v m₁ news₁ h tk oI, i < vs.length → vs[i]? = some v → J i m₁ news₁ → Fr h₀ env.locals h m₁ → News h₀ env.locals h ((I, oI) :: news₁) → (∀ p ∈ news₁, p.1 ≠ I) → (l, o) ∈ news₁ →
      wpAny (model prog w) A (assign target env v) (fun _ s₂ => wpAny (model prog w) A (execs body env)
        (LPost h₀ env.locals I oI [(l, o)] (J (i + 1)) s Q) (fun _ _ => False) s₂) (fun _ _ => False) { s with heap := h, toks := tk })
    (done : ∀ m₁ news₁ h tk, J vs.length m₁ news₁ → Fr h₀ env.locals h m₁ → News h₀ env.locals h news₁ → Q .next { s with heap := h, toks := tk }) :
    ForAt prog w A env target body Q E (.ref l) s := by
  have hls : s.heap.IsTuple l vs.toArray := ⟨_, (N _ hl).1, by rw [ho], by rw [ho]; exact ⟨_, rfl⟩⟩
  have hlt : l < s.heap.objs.size := Heap.lt_size (N _ hl).1
  have hne : l ≠ s.heap.objs.size := Nat.ne_of_lt hlt
  refine wpAny_pyIter_tuple hls ?_
  have hlen : vs.toArray.size = vs.length := by simp
  have W := Walks.tuple (prog := prog) (w := w) hh s.heap.objs.size l hne vs.toArray
  rw [hlen] at W
  refine for_loop (fix := [(l, o)]) J W ?_ (next_is_new F) ?_ (by simp) ?_ ⟨⟨_, Heap.get?_push_size _ rfl, rfl, rfl⟩, hls.at fun o e => Heap.get?_push_of_some _ e⟩ (F.push _) (fun p hp => ⟨Heap.get?_push_of_some _ (N p hp).1, (N p hp).2⟩) ?_ ?_ hJ ?_ ?_ done
  · intro hm
    rcases List.mem_cons.mp hm with e | hm
    · exact absurd F.ns.lt (e ▸ Nat.lt_irrefl _)
    · exact (N _ hl).2.1 (List.mem_singleton.mp hm).symm
  · intro b hb
    rcases List.mem_cons.mp hb with e | hb
    · exact .inl e
    · exact .inr (.inl ⟨o, by rw [List.mem_singleton.mp hb]; exact .head _⟩)
  · rintro i h ⟨⟨o, ho, _⟩, _⟩; exact ⟨o, ho⟩
  · intro p hp; exact Nat.ne_of_lt (Heap.lt_size (N p hp).1)
  · intro p hp; rw [List.mem_singleton.mp hp]; exact hl
  · intro i s' v Q' E' _ hq; exact hgo _ s' v Q' E' hq
  · intro i v m₁ news₁ h tk oI hi hP hJ₁ F₁ N₁ hn₁ hf₁
    exact turn _ i v m₁ news₁ h tk oI hi (by simpa using hP) hJ₁ F₁ N₁ hn₁ (hf₁ _ (.head _))

theorem for_range {r : Addr} {a₀ b₀ c₀ : Int} {t₀ u₀ v₀ : Tok} {n : Nat} (J : Nat → (Str → Option Value) → List (Addr × Obj) → Prop) (hh : A.handled = none)
    (hr : IsRange s.heap r a₀ b₀ c₀ t₀ u₀ v₀) (hsmall : Builtin.Range.small a₀ b₀ c₀ = true) (hn : Builtin.Range.rangeSize a₀ b₀ c₀ = (n : Int))
    (F : Fr h₀ env.locals s.heap m) (N : News h₀ env.locals s.heap news) (hJ : J 0 m news)
    (hgo : ∀ I (s' : Shared) v (Q' : Unit → Shared → Prop) (E' : Value → Shared → Prop), Q' () s' → wpAny (model prog w) A (letOwnedTupleGo target (.ref I) v) Q' E' s')
    (turn : ∀ I i t m₁ news₁ h tk oI, i < n → J i m₁ news₁ → Fr h₀ env.locals h m₁ → News h₀ env.locals h ((I, oI) :: news₁) → (∀ p ∈ news₁, p.1 ≠ I) →
      wpAny (model prog w) A (assign target env (.int (a₀ + i * c₀) t)) (fun _ s₂ => wpAny (model prog w) A (execs body env)
        (LPost h₀ env.locals I oI [] (J (i + 1)) s Q) (fun _ _ => False) s₂) (fun _ _ => False) { s with heap := h, toks := tk })
    (done : ∀ m₁ news₁ h tk, J n m₁ news₁ → Fr h₀ env.locals h m₁ → News h₀ env.locals h news₁ → Q .next { s with heap := h, toks := tk }) :
    ForAt prog w A env target body Q E (.ref r) s := by
  refine wpAny_pyIter_range hr hsmall ?_
  have W := Walks.range (prog := prog) (w := w) hh s.heap.objs.size a₀ c₀ n
  refine for_loop (fix := []) J W ?_ (next_is_new F) ?_ (by simp) ?_ (by show IsRangeIter _ _ _ _ _; rw [hn]; simpa using Heap.get?_push_size _ rfl) (F.push _) (fun p hp => ⟨Heap.get?_push_of_some _ (N p hp).1, (N p hp).2⟩) ?_ ?_ hJ ?_ ?_ done
  · intro hm
    exact absurd F.ns.lt ((List.mem_singleton.mp hm) ▸ Nat.lt_irrefl _)
  · intro b hb; exact .inl (List.mem_singleton.mp hb)
  · intro i h hs; exact ⟨_, hs⟩
  · intro p hp; exact Nat.ne_of_lt (Heap.lt_size (N p hp).1)
  · intro p hp; cases hp
  · intro i s' v Q' E' _ hq; exact hgo _ s' v Q' E' hq
  · rintro i v m₁ news₁ h tk oI hi ⟨t, rfl⟩ hJ₁ F₁ N₁ hn₁ hf₁
    exact turn _ i t m₁ news₁ h tk oI hi hJ₁ F₁ N₁ hn₁
end

def Stop (P : Prop) : Prop := P
theorem stop_here {P : Prop} (h : Stop P) : P := h
theorem Stop.go {P : Prop} (h : P) : Stop P := h
def updMap : List Str → List (Option Value) → (Str → Option Value) → Str → Option Value
  | x :: xs, u :: us, m => fun z => if z = x then u else updMap xs us m z
  | _, _, m => m
theorem updMap_at {m m₂ : Str → Option Value} {z : Str} (e : m z = m₂ z) : ∀ (xs : List Str) (us : List (Option Value)), updMap xs us m z = updMap xs us m₂ z
  | [], _ => e
  | _ :: _, [] => e
  | x :: xs, u :: us => by
    simp only [updMap]
    by_cases e' : z = x
    · simp [e']
    · simp only [if_neg e']; exact updMap_at e xs us
theorem updMap_self : ∀ (xs : List Str) {m m' : Str → Option Value}, (∀ z, z ∉ xs → m' z = m z) → m' = updMap xs (xs.map m') m
  | [], _, _, h => funext fun z => h z (by simp)
  | x :: xs, m, m', h => by
    funext z
    simp only [List.map_cons, updMap]
    by_cases e : z = x
    · simp [e]
    · rw [if_neg e]
      have q := updMap_self xs (m := fun y => if y = x then m' x else m y) (m' := m') (fun y hy => by
        by_cases e' : y = x
        · simp [e']
        · simp only [if_neg e']; exact h y (by simp [e', hy]))
      exact (congrFun q z).trans (updMap_at (by simp [e]) xs _)

theorem LPost.next {h₀ : Heap} {L I : Addr} {oI : Obj} {fix : List (Addr × Obj)} {Jn : (Str → Option Value) → List (Addr × Obj) → Prop} {s₁ : Shared} {Q : Flow → Shared → Prop} {h' : Heap} {tk : Nat} {m' : Str → Option Value} {news₀ : List (Addr × Obj)} (news' : List (Addr × Obj))
    (F : Fr h₀ L h' m') (N : News h₀ L h' news₀) (hs : ∀ p ∈ (I, oI) :: news', p ∈ news₀) (hn : ∀ p ∈ news', p.1 ≠ I) (hf : ∀ p ∈ fix, p ∈ news') (hJ : Jn m' news') : LPost h₀ L I oI fix Jn s₁ Q .next { s₁ with heap := h', toks := tk } :=
  ⟨h', tk, m', news', rfl, F, fun p hp => N p (hs p hp), hn, hf, hJ⟩
theorem LPost.cont {h₀ : Heap} {L I : Addr} {oI : Obj} {fix : List (Addr × Obj)} {Jn : (Str → Option Value) → List (Addr × Obj) → Prop} {s₁ : Shared} {Q : Flow → Shared → Prop} {h' : Heap} {tk : Nat} {m' : Str → Option Value} {news₀ : List (Addr × Obj)} (news' : List (Addr × Obj))
    (F : Fr h₀ L h' m') (N : News h₀ L h' news₀) (hs : ∀ p ∈ (I, oI) :: news', p ∈ news₀) (hn : ∀ p ∈ news', p.1 ≠ I) (hf : ∀ p ∈ fix, p ∈ news') (hJ : Jn m' news') : LPost h₀ L I oI fix Jn s₁ Q .cont { s₁ with heap := h', toks := tk } :=
  ⟨h', tk, m', news', rfl, F, fun p hp => N p (hs p hp), hn, hf, hJ⟩
theorem LPost.next0 {h₀ : Heap} {L I : Addr} {oI : Obj} {fix : List (Addr × Obj)} {Jn : (Str → Option Value) → List (Addr × Obj) → Prop} {s₁ : Shared} {Q : Flow → Shared → Prop} {h' : Heap} {tk : Nat} {m' : Str → Option Value} {news' : List (Addr × Obj)}
    (F : Fr h₀ L h' m') (N : News h₀ L h' ((I, oI) :: news')) (hn : ∀ p ∈ news', p.1 ≠ I) (hf : ∀ p ∈ fix, p ∈ news') (hJ : Jn m' news') : LPost h₀ L I oI fix Jn s₁ Q .next { s₁ with heap := h', toks := tk } :=
  ⟨h', tk, m', news', rfl, F, N, hn, hf, hJ⟩
theorem LPost.cont0 {h₀ : Heap} {L I : Addr} {oI : Obj} {fix : List (Addr × Obj)} {Jn : (Str → Option Value) → List (Addr × Obj) → Prop} {s₁ : Shared} {Q : Flow → Shared → Prop} {h' : Heap} {tk : Nat} {m' : Str → Option Value} {news' : List (Addr × Obj)}
    (F : Fr h₀ L h' m') (N : News h₀ L h' ((I, oI) :: news')) (hn : ∀ p ∈ news', p.1 ≠ I) (hf : ∀ p ∈ fix, p ∈ news') (hJ : Jn m' news') : LPost h₀ L I oI fix Jn s₁ Q .cont { s₁ with heap := h', toks := tk } :=
  ⟨h', tk, m', news', rfl, F, N, hn, hf, hJ⟩
theorem LPost.brk {h₀ : Heap} {L I : Addr} {oI : Obj} {fix : List (Addr × Obj)} {Jn : (Str → Option Value) → List (Addr × Obj) → Prop} {s₁ s₂ : Shared} {Q : Flow → Shared → Prop} (h : Q .next s₂) : LPost h₀ L I oI fix Jn s₁ Q .brk s₂ := h
theorem LPost.ret {h₀ : Heap} {L I : Addr} {oI : Obj} {fix : List (Addr × Obj)} {Jn : (Str → Option Value) → List (Addr × Obj) → Prop} {s₁ s₂ : Shared} {Q : Flow → Shared → Prop} {v : Value} (h : Q (.ret v) s₂) : LPost h₀ L I oI fix Jn s₁ Q (.ret v) s₂ := h

section
variable {prog : Program} {w : World} {A : Around} {s : Shared} {env : Env} {h₀ : Heap} {E : Value → Shared → Prop} {Q : Flow → Shared → Prop} {target iter : Expr} {body : List Stmt} {pos : Pos} {m : Str → Option Value} {news : List (Addr × Obj)}

abbrev JX (xs : List Str) (m : Str → Option Value) (J : List (Option Value) → List (Addr × Obj) → Prop) : (Str → Option Value) → List (Addr × Obj) → Prop :=
  fun m' news' => (∀ z, z ∉ xs → m' z = m z) ∧ J (xs.map m') news'

theorem for_rangeX {r : Addr} {a₀ b₀ c₀ : Int} {t₀ u₀ v₀ : Tok} {n : Nat} (xs : List Str) (J : Nat → List (Option Value) → List (Addr × Obj) → Prop) (hh : A.handled = none)
    (hr : IsRange s.heap r a₀ b₀ c₀ t₀ u₀ v₀) (hsmall : Builtin.Range.small a₀ b₀ c₀ = true) (hn : Builtin.Range.rangeSize a₀ b₀ c₀ = (n : Int))
    (F : Fr h₀ env.locals s.heap m) (N : News h₀ env.locals s.heap news) (hJ : J 0 (xs.map m) news)
    (hgo : ∀ I (s' : Shared) v (Q' : Unit → Shared → Prop) (E' : Value → Shared → Prop), Q' () s' → wpAny (model prog w) A (letOwnedTupleGo target (.ref I) v) Q' E' s')
    (turn : ∀ I i t us news₁ h tk oI, i < n → J i us news₁ → Fr h₀ env.locals h (updMap xs us m) → News h₀ env.locals h ((I, oI) :: news₁) → (∀ p ∈ news₁, p.1 ≠ I) →
      wpAny (model prog w) A (assign target env (.int (a₀ + i * c₀) t)) (fun _ s₂ => wpAny (model prog w) A (execs body env)
        (LPost h₀ env.locals I oI [] (JX xs m (J (i + 1))) s Q) (fun _ _ => False) s₂) (fun _ _ => False) { s with heap := h, toks := tk })
    (done : ∀ us news₁ h tk, J n us news₁ → Fr h₀ env.locals h (updMap xs us m) → News h₀ env.locals h news₁ → Q .next { s with heap := h, toks := tk }) :
    ForAt prog w A env target body Q E (.ref r) s :=
  for_range (fun i => JX xs m (J i)) hh hr hsmall hn F N ⟨fun _ _ => rfl, hJ⟩ hgo
    (fun I i t m₁ news₁ h tk oI hi hJ₁ F₁ N₁ hn₁ => turn I i t (xs.map m₁) news₁ h tk oI hi hJ₁.2 (updMap_self xs hJ₁.1 ▸ F₁) N₁ hn₁)
    (fun m₁ news₁ h tk hJ₁ F₁ N₁ => done (xs.map m₁) news₁ h tk hJ₁.2 (updMap_self xs hJ₁.1 ▸ F₁) N₁)

theorem for_listX {l : Addr} {vs : List Value} {o : Obj} {ep : Nat} (xs : List Str) (J : Addr → Obj → Nat → List (Option Value) → List (Addr × Obj) → Prop) (hh : A.handled = none)
    (F : Fr h₀ env.locals s.heap m) (N : News h₀ env.locals s.heap news) (hl : (l, o) ∈ news) (ho : o = ⟨.type "list", none, .seq vs.toArray ep, #[]⟩) (hJ : J l o 0 (xs.map m) news)
    (hgo : ∀ I (s' : Shared) v (Q' : Unit → Shared → Prop) (E' : Value → Shared → Prop) i, s'.heap.IsListIter I l i → Q' () s' → wpAny (model prog w) A (letOwnedTupleGo target (.ref I) v) Q' E' s')
    (turn : ∀ I i v us news₁ h tk oI, i < vs.length → vs[i]? = some v → J l o i us news₁ → Fr h₀ env.locals h (updMap xs us m) → News h₀ env.locals h ((I, oI) :: news₁) → (∀ p ∈ news₁, p.1 ≠ I) → (l, o) ∈ news₁ →
      wpAny (model prog w) A (assign target env v) (fun _ s₂ => wpAny (model prog w) A (execs body env)
        (LPost h₀ env.locals I oI [(l, o)] (JX xs m (J l o (i + 1))) s Q) (fun _ _ => False) s₂) (fun _ _ => False) { s with heap := h, toks := tk })
    (done : ∀ us news₁ h tk, J l o vs.length us news₁ → Fr h₀ env.locals h (updMap xs us m) → News h₀ env.locals h news₁ → Q .next { s with heap := h, toks := tk }) :
    ForAt prog w A env target body Q E (.ref l) s :=
  for_list (fun i => JX xs m (J l o i)) hh F N hl ho ⟨fun _ _ => rfl, hJ⟩ hgo
    (fun I i v m₁ news₁ h tk oI hi hv hJ₁ F₁ N₁ hn₁ hl₁ => turn I i v (xs.map m₁) news₁ h tk oI hi hv hJ₁.2 (updMap_self xs hJ₁.1 ▸ F₁) N₁ hn₁ hl₁)
    (fun m₁ news₁ h tk hJ₁ F₁ N₁ => done (xs.map m₁) news₁ h tk hJ₁.2 (updMap_self xs hJ₁.1 ▸ F₁) N₁)

theorem for_tupleX {l : Addr} {vs : List Value} {o : Obj} {ep : Nat} (xs : List Str) (J : Addr → Obj → Nat → List (Option Value) → List (Addr × Obj) → Prop) (hh : A.handled = none)
    (F : Fr h₀ env.locals s.heap m) (N : News h₀ env.locals s.heap news) (hl : (l, o) ∈ news) (ho : o = ⟨.type "tuple", none, .seq vs.toArray ep, #[]⟩) (hJ : J l o 0 (xs.map m) news)
    (hgo : ∀ I (s' : Shared) v (Q' : Unit → Shared → Prop) (E' : Value → Shared → Prop), Q' () s' → wpAny (model prog w) A (letOwnedTupleGo target (.ref I) v) Q' E' s')
    (turn : ∀ I i v us news₁ h tk oI, i < vs.length → vs[i]? = some v → J l o i us news₁ → Fr h₀ env.locals h (updMap xs us m) → News h₀ env.locals h ((I, oI) :: news₁) → (∀ p ∈ news₁, p.1 ≠ I) → (l, o) ∈ news₁ →
      wpAny (model prog w) A (assign target env v) (fun _ s₂ => wpAny (model prog w) A (execs body env)
        (LPost h₀ env.locals I oI [(l, o)] (JX xs m (J l o (i + 1))) s Q) (fun _ _ => False) s₂) (fun _ _ => False) { s with heap := h, toks := tk })
    (done : ∀ us news₁ h tk, J l o vs.length us news₁ → Fr h₀ env.locals h (updMap xs us m) → News h₀ env.locals h news₁ → Q .next { s with heap := h, toks := tk }) :
    ForAt prog w A env target body Q E (.ref l) s :=
  for_tuple (fun i => JX xs m (J l o i)) hh F N hl ho ⟨fun _ _ => rfl, hJ⟩ hgo
    (fun I i v m₁ news₁ h tk oI hi hv hJ₁ F₁ N₁ hn₁ hl₁ => turn I i v (xs.map m₁) news₁ h tk oI hi hv hJ₁.2 (updMap_self xs hJ₁.1 ▸ F₁) N₁ hn₁ hl₁)
    (fun m₁ news₁ h tk hJ₁ F₁ N₁ => done (xs.map m₁) news₁ h tk hJ₁.2 (updMap_self xs hJ₁.1 ▸ F₁) N₁)
end
end Mine
end Loop
/-! ## C1 -/
section C1
theorem Mine.calm_C1 : True := by
  w_top off
  trivial
open PySem PySem.W PyProof.Rows
set_option Elab.async false
set_option pp.deepTerms false
set_option pp.maxSteps 400
set_option maxRecDepth 100000
set_option maxHeartbeats 8000000
namespace Mine
theorem fill1 : Mine.hd.heap_1 = Mine.hd.heap_1 ∧ PySem.Challenge.rw_pd0077_01 = PySem.Challenge.rw_pd0077_01 := by
  k_fill
  exact ⟨rfl, rfl⟩
theorem t_fspath (x : Str) (t : Tok) : Claim 108 1 True [.str x t] (fun _ => .str x t) := by
  intro w mean mg mb dp un gd cn cs a ccd cl outer A₀ base h₀ L m s Q E B F KX T hk hpre hd hu hret
  (refine wpAny_call ?_; k_dflt (refine' Mine.code_pure (news := []) ?k1 ?k2 ?k3 News.nil ?k5 ?kA ?kF ?kK ?k6 ?k7 ?k8 ?k9 ?kB ?_ ?c2 ?c3 ?c4 ?c5; (case kA => exact rfl); (case kF => exact rfl); (case kK => assumption); (case k1 => k_asm); (case k2 => k_asm); (case k3 => k_asm); (case k5 => k_asm); (case k6 => k_is); (case k7 => k_is); (case k8 => ktr_room); (case k9 => exact BindsTo.of_eq rfl); (case c5 => decide); (case kB => exact locs rfl); (case c2 => exact rfl); (case c3 => exact rfl); (case c4 => exact rfl); k_whole; intro g' L' h' KG' FG' F' N' B' X' T'; (try dsimp only); (try k_lift B'); (try k_fold)))
  k_steps
  refine hret 0 _ _ ?e1 ?e2
  case e1 => assumption
  case e2 => exact Mine.keeps_of (by assumption) (Fr.keep (by assumption))
end Mine
local macro_rules | `(tactic| walk_at "mine claim") => `(tactic| with_reducible exact Mine.t_fspath _ _)
end C1
open PySem PySem.W PyProof.Rows PySem.Calls Mine
local macro_rules | `(tactic| walk_at "mine claim") => `(tactic| with_reducible exact Mine.t_fspath _ _)
/-! ## C2 -/
section C2
theorem Mine.calm_C2 : True := by
  w_top off
  trivial
open PySem PySem.W PyProof.Rows
set_option Elab.async false
set_option pp.deepTerms false
set_option pp.maxSteps 400
set_option maxRecDepth 100000
set_option maxHeartbeats 8000000
namespace Mine
theorem fill2 : Mine.hd.heap_1 = Mine.hd.heap_1 ∧ PySem.Challenge.rw_pd0077_01 = PySem.Challenge.rw_pd0077_01 := by
  k_fill
  exact ⟨rfl, rfl⟩


theorem t_get_sep (x : Str) (t : Tok) : Claim 122 1 True [.str x t] (fun t => .str (Str.ofString "/") t) := by
  intro w mean mg mb dp un gd cn cs a ccd cl outer A₀ base h₀ L m s Q E B F KX T hk hpre hd hu hret
  (refine wpAny_call ?_; k_dflt (refine' Mine.code_pure (news := []) ?k1 ?k2 ?k3 News.nil ?k5 ?kA ?kF ?kK ?k6 ?k7 ?k8 ?k9 ?kB ?_ ?c2 ?c3 ?c4 ?c5; (case kA => exact rfl); (case kF => exact rfl); (case kK => assumption); (case k1 => k_asm); (case k2 => k_asm); (case k3 => k_asm); (case k5 => k_asm); (case k6 => k_is); (case k7 => k_is); (case k8 => ktr_room); (case k9 => exact BindsTo.of_eq rfl); (case c5 => decide); (case kB => exact locs rfl); (case c2 => exact rfl); (case c3 => exact rfl); (case c4 => exact rfl); k_whole; intro g' L' h' KG' FG' F' N' B' X' T'; (try dsimp only); (try k_lift B'); (try k_fold)))
  k_steps
  all_goals (
  refine hret _ _ _ ?e1 ?e2
  case e1 => assumption
  case e2 => exact Mine.keeps_of (by assumption) (Fr.keep (by assumption)))



local macro_rules | `(tactic| walk_at "mine claim") => `(tactic| with_reducible exact Mine.t_get_sep _ _)
theorem ex3 {r : Str × Str × Str} {a b c : Str} {t1 t2 t3 : Tok} (e : r = (a, b, c)) : ∃ u1 u2 u3, ({ cls := .type "tuple", data := .seq #[.str a t1, .str b t2, .str c t3] } : Obj) = { cls := .type "tuple", data := .seq #[.str r.1 u1, .str r.2.1 u2, .str r.2.2 u3] } := by
  subst e
  exact ⟨_, _, _, rfl⟩
theorem ex2 {r : Str × Str} {a b : Str} {t1 t2 : Tok} (e : r = (a, b)) : ∃ u1 u2, ({ cls := .type "tuple", data := .seq #[.str a t1, .str b t2] } : Obj) = { cls := .type "tuple", data := .seq #[.str r.1 u1, .str r.2 u2] } := by
  subst e
  exact ⟨_, _, rfl⟩

def splitrootF (x : Str) : Str × Str × Str :=
  if (Txt.slice x none (some 1) != Str.ofString "/") = true then (Str.ofString "", Str.ofString "", x)
  else if (Txt.slice x (some 1) (some 2) != Str.ofString "/") = true then (Str.ofString "", Str.ofString "/", Txt.slice x (some 1) none)
  else if (Txt.slice x (some 2) (some 3) == Str.ofString "/") = true then (Str.ofString "", Str.ofString "/", Txt.slice x (some 1) none)
  else (Str.ofString "", Txt.slice x none (some 2), Txt.slice x (some 2) none)

theorem t_splitroot (x : Str) (t : Tok) : ClaimO 143 2 (x.length ≤ 1000) [.str x t] (fun o => ∃ t1 t2 t3, o = { cls := .type "tuple", data := .seq #[.str (splitrootF x).1 t1, .str (splitrootF x).2.1 t2, .str (splitrootF x).2.2 t3] }) := by
  intro w mean mg mb dp un gd cn cs a ccd cl outer A₀ base h₀ L m s Q E B F KX T hk hpre hd hu hret
  (refine wpAny_call ?_; k_dflt (refine' Mine.code_pure (news := []) ?k1 ?k2 ?k3 News.nil ?k5 ?kA ?kF ?kK ?k6 ?k7 ?k8 ?k9 ?kB ?_ ?c2 ?c3 ?c4 ?c5; (case kA => exact rfl); (case kF => exact rfl); (case kK => assumption); (case k1 => k_asm); (case k2 => k_asm); (case k3 => k_asm); (case k5 => k_asm); (case k6 => k_is); (case k7 => k_is); (case k8 => ktr_room); (case k9 => exact BindsTo.of_eq rfl); (case c5 => decide); (case kB => exact locs rfl); (case c2 => exact rfl); (case c3 => exact rfl); (case c4 => exact rfl); k_whole; intro g' L' h' KG' FG' F' N' B' X' T'; (try dsimp only); (try k_lift B'); (try k_fold)))
  k_steps
  all_goals refine ret_obj hret (by assumption) (by assumption) (by assumption) (by assumption) ?_
  all_goals (refine ex3 ?_; simp only [splitrootF, *, if_true, if_false, Bool.false_eq_true])

def splitF (x : Str) : Str × Str :=
  let i := Txt.rfind x (Str.ofString "/") + 1
  let head := Txt.slice x none (some i)
  let tail := Txt.slice x (some i) none
  if (head.length : Int) ≠ 0 ∧ (head != Txt.mul (Str.ofString "/") head.length) = true then (Txt.rstripChars head (Str.ofString "/"), tail) else (head, tail)

theorem t_split (x : Str) (t : Tok) : ClaimO 136 2 (x.length ≤ 1000) [.str x t] (fun o => ∃ t1 t2, o = { cls := .type "tuple", data := .seq #[.str (splitF x).1 t1, .str (splitF x).2 t2] }) := by
  intro w mean mg mb dp un gd cn cs a ccd cl outer A₀ base h₀ L m s Q E B F KX T hk hpre hd hu hret
  (refine wpAny_call ?_; k_dflt (refine' Mine.code_pure (news := []) ?k1 ?k2 ?k3 News.nil ?k5 ?kA ?kF ?kK ?k6 ?k7 ?k8 ?k9 ?kB ?_ ?c2 ?c3 ?c4 ?c5; (case kA => exact rfl); (case kF => exact rfl); (case kK => assumption); (case k1 => k_asm); (case k2 => k_asm); (case k3 => k_asm); (case k5 => k_asm); (case k6 => k_is); (case k7 => k_is); (case k8 => ktr_room); (case k9 => exact BindsTo.of_eq rfl); (case c5 => decide); (case kB => exact locs rfl); (case c2 => exact rfl); (case c3 => exact rfl); (case c4 => exact rfl); k_whole; intro g' L' h' KG' FG' F' N' B' X' T'; (try dsimp only); (try k_lift B'); (try k_fold)))
  k_steps
  all_goals refine ret_obj hret (by assumption) (by assumption) (by assumption) (by assumption) ?_
  all_goals (refine ex2 ?_; simp only [splitF, *, if_true, if_false, Bool.false_eq_true, ne_eq, not_false_eq_true, and_true, and_false, true_and, false_and, not_true_eq_false])
end Mine
local macro_rules | `(tactic| walk_at "mine claimO") => `(tactic| with_reducible exact Mine.t_splitroot _ _)
local macro_rules | `(tactic| walk_at "mine claimO") => `(tactic| with_reducible exact Mine.t_split _ _)
end C2
open PySem PySem.W PyProof.Rows PySem.Calls Mine
local macro_rules | `(tactic| walk_at "mine claim") => `(tactic| with_reducible exact Mine.t_get_sep _ _)
local macro_rules | `(tactic| walk_at "mine claimO") => `(tactic| with_reducible exact Mine.t_splitroot _ _)
local macro_rules | `(tactic| walk_at "mine claimO") => `(tactic| with_reducible exact Mine.t_split _ _)
/-! ## C3 -/
section C3
theorem Mine.calm_C3 : True := by
  w_top off
  trivial
open PySem PySem.W PyProof.Rows PySem.Calls
set_option Elab.async false
set_option pp.deepTerms false
set_option pp.maxSteps 400
set_option maxRecDepth 100000
set_option maxHeartbeats 8000000
namespace Mine
theorem fill_C3 : Mine.hd.heap_1 = Mine.hd.heap_1 ∧ PySem.Challenge.rw_pd0077_01 = PySem.Challenge.rw_pd0077_01 := by
  k_fill
  exact ⟨rfl, rfl⟩
def singleF (n : Int) : Bool := if n = 0 then false else Builtin.bitAnd n (n - 1) == 0
theorem t_single (n : Int) (t : Tok) : Claim 28 1 (0 ≤ n ∧ n ≤ 1000000) [.int n t] (fun _ => .bool (singleF n)) := by
  intro w mean mg mb dp un gd cn cs a ccd cl outer A₀ base h₀ L m s Q E B F KX T hk hpre hd hu hret
  (refine wpAny_call ?_; k_dflt (refine' Mine.code_pure (news := []) ?k1 ?k2 ?k3 News.nil ?k5 ?kA ?kF ?kK ?k6 ?k7 ?k8 ?k9 ?kB ?_ ?c2 ?c3 ?c4 ?c5; (case kA => exact rfl); (case kF => exact rfl); (case kK => assumption); (case k1 => k_asm); (case k2 => k_asm); (case k3 => k_asm); (case k5 => k_asm); (case k6 => k_is); (case k7 => k_is); (case k8 => ktr_room); (case k9 => exact BindsTo.of_eq rfl); (case c5 => decide); (case kB => exact locs rfl); (case c2 => exact rfl); (case c3 => exact rfl); (case c4 => exact rfl); k_whole; intro g' L' h' KG' FG' F' N' B' X' T'; (try dsimp only); (try k_lift B'); (try k_fold)))
  k_steps
  all_goals (refine cb_val hret ?_ (by assumption) (keeps_of (by assumption) (Fr.keep (by assumption))))
  all_goals (simp only [singleF, *, if_true, if_false])
local macro_rules | `(tactic| walk_at "mine claim") => `(tactic| with_reducible exact Mine.t_single _ _)

def highF (n : Int) : Int := (Builtin.Int.intBits n : Int) - 1
theorem t_high (n : Int) (t : Tok) : Claim 35 1 (0 ≤ n ∧ n ≤ 1000000) [.int n t] (fun t => .int (highF n) t) := by
  intro w mean mg mb dp un gd cn cs a ccd cl outer A₀ base h₀ L m s Q E B F KX T hk hpre hd hu hret
  (refine wpAny_call ?_; k_dflt (refine' Mine.code_pure (news := []) ?k1 ?k2 ?k3 News.nil ?k5 ?kA ?kF ?kK ?k6 ?k7 ?k8 ?k9 ?kB ?_ ?c2 ?c3 ?c4 ?c5; (case kA => exact rfl); (case kF => exact rfl); (case kK => assumption); (case k1 => k_asm); (case k2 => k_asm); (case k3 => k_asm); (case k5 => k_asm); (case k6 => k_is); (case k7 => k_is); (case k8 => ktr_room); (case k9 => exact BindsTo.of_eq rfl); (case c5 => decide); (case kB => exact locs rfl); (case c2 => exact rfl); (case c3 => exact rfl); (case c4 => exact rfl); k_whole; intro g' L' h' KG' FG' F' N' B' X' T'; (try dsimp only); (try k_lift B'); (try k_fold)))
  k_steps
  exact hret _ _ _ (by assumption) (keeps_of (by assumption) (Fr.keep (by assumption)))
local macro_rules | `(tactic| walk_at "mine claim") => `(tactic| with_reducible exact Mine.t_high _ _)

end Mine
end C3
open PySem PySem.W PyProof.Rows PySem.Calls Mine
local macro_rules | `(tactic| walk_at "mine claim") => `(tactic| with_reducible exact Mine.t_single _ _)
local macro_rules | `(tactic| walk_at "mine claim") => `(tactic| with_reducible exact Mine.t_high _ _)
/-! ## C4 -/
section C4
theorem Mine.calm_C4 : True := by
  w_top off
  trivial
open PySem PySem.W PyProof.Rows PySem.Calls
set_option Elab.async false
set_option pp.deepTerms false
set_option pp.maxSteps 400
set_option maxRecDepth 100000
set_option maxHeartbeats 8000000
namespace Mine
local macro_rules | `(tactic| walk_at "exec For Name Call cons nil") => `(tactic| (refine Mine.stop_here ?_))
local macro_rules | `(tactic| walk_at "exec For Name Name cons nil") => `(tactic| (refine Mine.stop_here ?_))
local macro_rules | `(tactic| walk_at "call builtin:str.join") => `(tactic| (k_here; (with_reducible show wpAny _ _ (call (Value.builtin _) [Value.str _ _, Value.ref _]) _ _ _); k_dflt (refine' join_listW ?j1 ?j2 ?j3 ?j4 ?_; (case j1 => is_list); (case j2 => assumption); (case j3 => decide +kernel); (case j4 => assumption); k_whole); intro _ _))
theorem pow_of_lt {x : Nat} {k : Nat} (h : x < 2 ^ k) : x.log2 < k ∨ x = 0 := by
  rcases Nat.eq_zero_or_pos x with h0 | h0
  · exact .inr h0
  · exact .inl ((Nat.log2_lt (by omega)).mpr h)
theorem high_bounds {n : Int} (h1 : 1 ≤ n) (h2 : n ≤ 20000) : 0 ≤ highF n ∧ highF n ≤ 14 := by
  obtain ⟨k, rfl⟩ : ∃ k : Nat, n = k := ⟨n.toNat, by omega⟩
  unfold highF Builtin.Int.intBits
  have hk : k ≠ 0 := by omega
  have h3 : k.log2 < 15 := (Nat.log2_lt hk).mpr (by omega)
  have h4 : ((k : Int) == 0) = false := by simpa using hk
  rw [h4]
  simp only [Int.natAbs_natCast, Bool.false_eq_true, if_false]
  omega
def bitT (n : Int) (k : Nat) : Str := Str.ofString (toString ((n.fdiv (2 ^ k)).fmod 2))
def digs (n : Int) (i : Nat) : List Str := (List.range i).map fun (j : Nat) => bitT n (highF n - 1 + (j : Int) * -1).toNat
def placeF (n : Int) : Str := Str.ofString "/" ++ Txt.join (Str.ofString "/") (digs n (highF n).toNat)
theorem bitT_len (n : Int) (k : Nat) : (bitT n k).length = 1 := by
  unfold bitT
  have h1 := Int.fmod_nonneg_of_pos (n.fdiv (2 ^ k)) (show (0:Int) < 2 by decide)
  have h2 := Int.fmod_lt_of_pos (n.fdiv (2 ^ k)) (show (0:Int) < 2 by decide)
  have : (n.fdiv (2 ^ k)).fmod 2 = 0 ∨ (n.fdiv (2 ^ k)).fmod 2 = 1 := by omega
  rcases this with e | e <;> rw [e] <;> decide +kernel
theorem digs_len (n : Int) (i : Nat) : (digs n i).length = i := by simp [digs]
theorem digs_weight {n : Int} {i : Nat} (h : i ≤ 14) : ((digs n i).map (·.length)).sum + (digs n i).length ≤ 1048576 := by
  have : (digs n i).map (·.length) = List.replicate i 1 := by
    unfold digs
    rw [List.map_map, List.eq_replicate_iff]
    refine ⟨by simp, fun b hb => ?_⟩
    obtain ⟨j, _, rfl⟩ := List.mem_map.mp hb
    exact bitT_len _ _
  rw [this, digs_len]
  simp only [List.sum_replicate_nat]
  omega
theorem digs_join_len {n : Int} {i : Nat} (h : i ≤ 14) : (Txt.join (Str.ofString "/") (digs n i)).length ≤ 28 := by
  have h1 : (Txt.join (Str.ofString "/") (digs n i)).length = (Str.join (Str.ofString "/") (digs n i)).length := by
    rw [show Txt.join (Str.ofString "/") (digs n i) = Builtin.Str.glued (Str.ofString "/") (digs n i) from rfl, StrLaws.glued_eq_join]
  have h2 := StrLaws.join_length_le (Str.ofString "/") (digs n i)
  have h3 : ((digs n i).map (·.length)).sum = i := by
    have : (digs n i).map (·.length) = List.replicate i 1 := by
      unfold digs
      rw [List.map_map, List.eq_replicate_iff]
      refine ⟨by simp, fun b hb => ?_⟩
      obtain ⟨j, _, rfl⟩ := List.mem_map.mp hb
      exact bitT_len _ _
    rw [this]
    simp
  have h4 : (Str.ofString "/").length = 1 := by decide +kernel
  rw [h3, h4, digs_len] at h2
  omega
theorem digs_succ (n : Int) (i : Nat) : digs n (i + 1) = digs n i ++ [bitT n (highF n - 1 + (i : Int) * -1).toNat] := by
  simp [digs, List.range_succ]
theorem t_place (n : Int) (t : Tok) : Claim 169 3 (1 ≤ n ∧ n ≤ 20000) [.int n t] (fun t => .str (placeF n) t) := by
  intro w mean mg mb dp un gd cn cs a ccd cl outer A₀ base h₀ L m s Q E B F KX T hk hpre hd hu hret
  have hb := high_bounds hpre.1 hpre.2
  (refine wpAny_call ?_; k_dflt (refine' Mine.code_pure (news := []) ?k1 ?k2 ?k3 News.nil ?k5 ?kA ?kF ?kK ?k6 ?k7 ?k8 ?k9 ?kB ?_ ?c2 ?c3 ?c4 ?c5; (case kA => exact rfl); (case kF => exact rfl); (case kK => assumption); (case k1 => k_asm); (case k2 => k_asm); (case k3 => k_asm); (case k5 => k_asm); (case k6 => k_is); (case k7 => k_is); (case k8 => ktr_room); (case k9 => exact BindsTo.of_eq rfl); (case c5 => decide); (case kB => exact locs rfl); (case c2 => exact rfl); (case c3 => exact rfl); (case c4 => exact rfl); k_whole; intro g' L' h' KG' FG' F' N' B' X' T'; (try dsimp only); (try k_lift B'); (try k_fold)))
  k_steps
  refine Mine.Stop.go (Mine.for_start ?_)
  k_steps
  refine' Mine.for_rangeX (n := (highF n).toNat) [Str.ofString "k", Str.ofString "names"] (fun i us news => ∃ u l vs c, us = [u, some (.ref l)] ∧ news = [(l, W.listOf vs.toArray c)] ∧ StrsAre vs (digs n i)) rfl (by assumption) ?small ?size (by assumption) (by assumption) ?J0 (fun _ s' v Q' E' h => go_name s' v Q' E' h) ?turn ?done
  case J0 => exact ⟨_, _, [], 0, rfl, rfl, .nil⟩
  case small =>
    obtain ⟨h1, h2⟩ := hb
    generalize highF n = z at *
    obtain ⟨k, rfl⟩ := Int.eq_ofNat_of_zero_le h1
    have hs : ∀ k : Nat, k < 15 → Builtin.Range.small ((k : Int) - 1) (-1) (-1) = true := by decide +kernel
    exact hs k (by omega)
  case size =>
    obtain ⟨h1, h2⟩ := hb
    generalize highF n = z at *
    obtain ⟨k, rfl⟩ := Int.eq_ofNat_of_zero_le h1
    have hs : ∀ k : Nat, k < 15 → Builtin.Range.rangeSize ((k : Int) - 1) (-1) (-1) = (((k : Int).toNat : Nat) : Int) := by decide +kernel
    exact hs k (by omega)
  case turn =>
    rintro I i t us news₁ h tk oI hi ⟨u, l, vs, c, rfl, rfl, hvs⟩ F1 N1 hn1
    have hn1' := Mine.allNe_of hn1
    dsimp only [Mine.AllNe] at hn1'
    have hlen : vs.length = i := by rw [hvs.len_eq, digs_len]
    have hsz : vs.toArray.size ≤ sizeLine := by rw [sizeLine_eq, List.size_toArray]; omega
    k_steps
    refine' LPost.next [(l, ?ob)] ?F ?N ?sub ?ne (fun p hp => nomatch hp) ⟨?off, ?J⟩
    case F => assumption
    case N => assumption
    case sub => exact List.forall_mem_cons.mpr ⟨by k_mem, List.forall_mem_cons.mpr ⟨by k_mem, List.forall_mem_nil _⟩⟩
    case ne => intro p hp; rw [List.mem_singleton.mp hp]; exact hn1'.1
    case off =>
      intro z hz
      simp only [List.mem_cons, List.not_mem_nil, or_false, not_or] at hz
      simp only [updMap, if_neg hz.1, if_neg hz.2]
    case J =>
      refine ⟨_, l, vs ++ [_], _, rfl, by rw [← List.push_toArray], ?_⟩
      rw [digs_succ]
      exact hvs.append' (.cons _ _ .nil)
  case done =>
    rintro us news₁ h tk ⟨u, l, vs, c, rfl, rfl, hvs⟩ F1 N1
    have hw := digs_weight (n := n) (i := (highF n).toNat) (by omega)
    have hj := digs_join_len (n := n) (i := (highF n).toNat) (by omega)
    k_steps
    all_goals exact hret _ _ _ (by assumption) (keeps_of (by assumption) (Fr.keep (by assumption)))
local macro_rules | `(tactic| walk_at "mine claim") => `(tactic| with_reducible exact Mine.t_place _ _)

end Mine
end C4
open PySem PySem.W PyProof.Rows PySem.Calls Mine
local macro_rules | `(tactic| walk_at "mine claim") => `(tactic| with_reducible exact Mine.t_place _ _)
/-! ## P0 -/
section P0
open PySem PyProof.Rows
namespace Mine
theorem nat_xor_and (x : Nat) : ∀ y : Nat, (x ^^^ y) + 2 * (x &&& y) = x + y := by
  induction x using Nat.strongRecOn with
  | _ x ih =>
    intro y
    rcases Nat.eq_zero_or_pos x with h | h
    · subst h; simp
    · have h1 := ih (x / 2) (by omega) (y / 2)
      have e1 : (x ^^^ y) / 2 = (x / 2) ^^^ (y / 2) := Nat.xor_div_two
      have e2 : (x &&& y) / 2 = (x / 2) &&& (y / 2) := Nat.and_div_two
      have e3 : (x ^^^ y) % 2 = (x % 2) ^^^ (y % 2) := Nat.xor_mod_two_pow (n := 1)
      have e4 : (x &&& y) % 2 = (x % 2) &&& (y % 2) := Nat.and_mod_two_pow (n := 1)
      have e5 : ((x % 2) ^^^ (y % 2)) + 2 * ((x % 2) &&& (y % 2)) = x % 2 + y % 2 := by
        rcases Nat.mod_two_eq_zero_or_one x with a | a <;> rcases Nat.mod_two_eq_zero_or_one y with b | b <;> rw [a, b] <;> decide
      rw [← e1, ← e2] at h1
      rw [← e3, ← e4] at e5
      generalize x ^^^ y = p at *
      generalize x &&& y = q at *
      omega
theorem bitXor_nat (a b : Nat) : Builtin.bitXor (a : Int) (b : Int) = ((a ^^^ b : Nat) : Int) := by
  rw [bitXor_and]
  have h := nat_xor_and a b
  have e : Builtin.bitAnd (a : Int) (b : Int) = ((a &&& b : Nat) : Int) := by
    rw [bitAnd_pp (by omega) (by omega)]; simp
  rw [e]; omega
theorem bitAnd_nat (a b : Nat) : Builtin.bitAnd (a : Int) (b : Int) = ((a &&& b : Nat) : Int) := by
    rw [bitAnd_pp (by omega) (by omega)]; simp
theorem xor_lt_128 {a b : Int} (ha : 0 ≤ a ∧ a ≤ 127) (hb : 0 ≤ b ∧ b ≤ 127) : 0 ≤ Builtin.bitXor a b ∧ Builtin.bitXor a b ≤ 127 := by
  obtain ⟨x, rfl⟩ : ∃ x : Nat, a = x := ⟨a.toNat, by omega⟩
  obtain ⟨y, rfl⟩ : ∃ y : Nat, b = y := ⟨b.toNat, by omega⟩
  rw [bitXor_nat]
  have h : x ^^^ y < 2 ^ 7 := Nat.xor_lt_two_pow (by omega) (by omega)
  omega
theorem fdiv_pow_bounds {n : Int} (k : Nat) (h : 0 ≤ n ∧ n ≤ 127) : 0 ≤ n.fdiv (2 ^ k) ∧ n.fdiv (2 ^ k) ≤ 127 := by
  obtain ⟨x, rfl⟩ : ∃ x : Nat, n = x := ⟨n.toNat, by omega⟩
  have e : ((x : Int)).fdiv (2 ^ k) = ((x / 2 ^ k : Nat) : Int) := by
    rw [Int.fdiv_eq_ediv_of_nonneg _ (Int.le_of_lt (Int.pow_pos (by decide)))]
    simp
  rw [e]
  have := Nat.div_le_self x (2 ^ k)
  generalize x / 2 ^ k = z at *
  omega
end Mine
end P0
/-! ## C5 -/
section C5
theorem Mine.calm_C5 : True := by
  w_top off
  trivial
open PySem PySem.W PyProof.Rows PySem.Calls
set_option Elab.async false
set_option pp.deepTerms false
set_option pp.maxSteps 400
set_option maxRecDepth 100000
set_option maxHeartbeats 8000000
namespace Mine
theorem high_bounds0 {n : Int} (h1 : 0 ≤ n) (h2 : n ≤ 127) : -1 ≤ highF n ∧ highF n ≤ 14 := by
  by_cases h : n = 0
  · subst h; decide +kernel
  · have := high_bounds (n := n) (by omega) (by omega); omega
def forkD (n k : Int) : Int := if highF k < highF n then highF k else highF n
def forkA (n k : Int) : Int := n.fdiv (2 ^ (highF n - if highF k < highF n then highF k else highF n).toNat)
def forkB (n k : Int) : Int := k.fdiv (2 ^ (highF k - if highF k < highF n then highF k else highF n).toNat)
def forkF (n k : Int) : Int := (forkA n k).fdiv (2 ^ (highF (Builtin.bitXor (forkA n k) (forkB n k)) + 1).toNat)
theorem t_fork (n : Int) (t : Tok) (k : Int) (t' : Tok) : Claim 183 3 ((1 ≤ n ∧ n ≤ 127) ∧ 1 ≤ k ∧ k ≤ 127) [.int n t, .int k t'] (fun t => .int (forkF n k) t) := by
  intro w mean mg mb dp un gd cn cs a ccd cl outer A₀ base h₀ L m s Q E B F KX T hk hpre hd hu hret
  have hb1 := high_bounds (n := n) (by omega) (by omega)
  have hb2 := high_bounds (n := k) (by omega) (by omega)
  have hx : 0 ≤ Builtin.bitXor (n.fdiv (2 ^ (highF n - if highF k < highF n then highF k else highF n).toNat)) (k.fdiv (2 ^ (highF k - if highF k < highF n then highF k else highF n).toNat)) ∧ Builtin.bitXor (n.fdiv (2 ^ (highF n - if highF k < highF n then highF k else highF n).toNat)) (k.fdiv (2 ^ (highF k - if highF k < highF n then highF k else highF n).toNat)) ≤ 127 :=
    xor_lt_128 (fdiv_pow_bounds _ (by omega)) (fdiv_pow_bounds _ (by omega))
  have hb3 := high_bounds0 hx.1 hx.2
  (refine wpAny_call ?_; k_dflt (refine' Mine.code_pure (news := []) ?k1 ?k2 ?k3 News.nil ?k5 ?kA ?kF ?kK ?k6 ?k7 ?k8 ?k9 ?kB ?_ ?c2 ?c3 ?c4 ?c5; (case kA => exact rfl); (case kF => exact rfl); (case kK => assumption); (case k1 => k_asm); (case k2 => k_asm); (case k3 => k_asm); (case k5 => k_asm); (case k6 => k_is); (case k7 => k_is); (case k8 => ktr_room); (case k9 => exact BindsTo.of_eq rfl); (case c5 => decide); (case kB => exact locs rfl); (case c2 => exact rfl); (case c3 => exact rfl); (case c4 => exact rfl); k_whole; intro g' L' h' KG' FG' F' N' B' X' T'; (try dsimp only); (try k_lift B'); (try k_fold)))
  k_steps
  all_goals exact hret _ _ _ (by assumption) (keeps_of (by assumption) (Fr.keep (by assumption)))
local macro_rules | `(tactic| walk_at "mine claim") => `(tactic| with_reducible exact Mine.t_fork _ _ _ _)

end Mine
end C5
open PySem PySem.W PyProof.Rows PySem.Calls Mine
local macro_rules | `(tactic| walk_at "mine claim") => `(tactic| with_reducible exact Mine.t_fork _ _ _ _)
/-! ## C6 -/
section C6
theorem Mine.calm_C6 : True := by
  w_top off
  trivial
open PySem PySem.W PyProof.Rows PySem.Calls
set_option Elab.async false
set_option pp.deepTerms false
set_option pp.maxSteps 400
set_option maxRecDepth 100000
set_option maxHeartbeats 8000000
namespace Mine
theorem split_K {prog : Program} {w : World} {A : Around} {E : Value → Shared → Prop} {s : Shared} {h₀ : Heap} {L : Addr} {m : Str → Option Value} {news : List (Addr × Obj)} {x y : Str} {t u : Tok} {Q : Value → Shared → Prop}
    (hF : Fr h₀ L s.heap m) (hN : News h₀ L s.heap news) (hy : (y.length == 0) = false) (hsz : x.length + 2 ≤ sizeLine)
    (h : ∀ D vs h' k, StrsAre vs (Txt.split x y) → Fr h₀ L h' m → News h₀ L h' ((D, W.listOf vs.toArray 0) :: news) → (∀ p ∈ news, p.1 < D) → Q (.ref D) { s with heap := h', toks := k }) :
    wpAny (model prog w) A (call (.builtin "str.split") [.str x t, .str y u]) Q E s :=
  splitN1A hF hN hy (fun l h' k e S _ _ F N => h _ (strValues l) h' k (e ▸ S) F N (fun p hp => Heap.lt_size (hN p hp).1)) hsz
section
variable {prog : Program} {w : World} {A : Around} {E : Value → Shared → Prop} {s : Shared} {h₀ : Heap} {L : Addr} {m : Str → Option Value} {news news' : List (Addr × Obj)} {value slice : Expr} {a : Addr} {l : List Value} {n : Nat} {u : Tok} {y : Value}
theorem truthy_snoc {Q : Bool → Shared → Prop} (N : News h₀ L s.heap news) (hm : (a, W.listOf (l ++ [y]).toArray n) ∈ news) (hfit : l.length < 2 ^ 61)
    (h : Q true { s with toks := s.toks + 1 + 1 }) : wpAny (model prog w) A (truthy (.ref a)) Q E s :=
  kgr_truthy N hm rfl rfl (by simp; omega) (by rw [show (!(l ++ [y]).isEmpty) = true from by cases l <;> rfl]; exact h)
theorem item_last {Q : Value → Shared → Prop} (N : News h₀ L s.heap news) (hm : (a, W.listOf (l ++ [y]).toArray n) ∈ news) (h : Q y s)
    (hs : subscripted slice false (.ref a) (.int (-1) u) = operate [.ref a, .int (-1) u] (getItem (.ref a) (.int (-1) u)) := by with_unfolding_all rfl) (hg : ∀ r, letTemporaryGo value (.ref a) r = pure () := by intro _; with_unfolding_all rfl) :
    wpAny (model prog w) A (subscriptTail value slice (.ref a) (.int (-1) u)) Q E s := by
  refine kim_back (l := l ++ [y]) N hm rfl rfl (by decide) (by simp; omega) (by decide) ?_ h hs hg
  have : ((-1 : Int) + ((l ++ [y]).length : Int)).toNat = l.length := by simp; omega
  rw [this]; simp
theorem pop_last {Q : Value → Shared → Prop} {D : Addr} (F : Fr h₀ L s.heap m) (N : News h₀ L s.heap news) (U : Upd D (W.listOf (l ++ [y]).toArray n) (W.listOf l.toArray (n + 1)) news news')
    (hz : l.length + 1 ≤ sizeLine) (h : ∀ h', Fr h₀ L h' m → News h₀ L h' news' → Q y { s with heap := h' }) : wpAny (model prog w) A (call (.builtin "list.pop") [.ref D]) Q E s :=
  kl_pop F N (by simpa using kpa_last y l) U (by simpa using hz) h
end
local macro_rules | `(tactic| walk_at "call builtin:str.split") => `(tactic| (k_here; (with_reducible show wpAny _ _ (call (Value.builtin _) [Value.str _ _, Value.str _ _]) _ _ _); k_dflt (refine' Mine.split_K ?k1 ?k2 ?k3 ?k4 ?_; (case k1 => k_asm); (case k2 => k_asm); (case k3 => decide +kernel); (case k4 => (rw [PySem.sizeLine_eq]; omega)); k_whole); intro D9 vs9 h9 tk9 S9 F9 N9 L9; (replace L9 := PySem.W.allLt_of L9); (dsimp only [PySem.W.AllLt] at L9)))
local macro_rules | `(tactic| walk_at "truthy ref") => `(tactic| (k_here; (with_reducible show wpAny _ _ (truthy (Value.ref _)) _ _ _); k_dflt (refine' Mine.truthy_snoc ?k1 ?k2 ?k3 ?_; (case k1 => k_asm); (case k2 => k_mem); (case k3 => omega); k_whole)))
local macro_rules | `(tactic| walk_at "subscriptTail Name UnaryOp ref int") => `(tactic| (k_here; k_dflt (refine' Mine.item_last ?k1 ?k2 ?_; (case k1 => k_asm); (case k2 => k_mem); k_whole)))
local macro_rules | `(tactic| walk_at "call builtin:list.pop") => `(tactic| (k_here; (with_reducible show wpAny _ _ (call (Value.builtin _) [Value.ref _]) _ _ _); k_dflt (refine' Mine.pop_last ?F ?N ?U ?z ?_; (case F => k_asm); (case N => k_asm); (case U => k_upd); (case z => (rw [PySem.sizeLine_eq]; omega)); k_whole); (intro h' F' N')))
theorem slice_len (x : Str) (i j : Option Int) : (Txt.slice x i j).length ≤ x.length := by
  exact PyProof.Txt.length_slice_le x i j
theorem splitroot_len (x : Str) : (splitrootF x).2.2.length ≤ x.length := by
  unfold splitrootF
  split
  · exact Nat.le_refl _
  · split
    · exact slice_len _ _ _
    · split
      · exact slice_len _ _ _
      · exact slice_len _ _ _
def normStep (acc : List Str) (c : Str) : List Str :=
  if c.length = 0 ∨ c = Str.ofString "." then acc else if c = Str.ofString ".." then acc.dropLast else acc ++ [c]
def normComps (cs : List Str) : List Str := cs.foldl normStep []
def normF (x : Str) : Str := (splitrootF x).2.1 ++ Txt.join (Str.ofString "/") (normComps (Txt.split (splitrootF x).2.2 (Str.ofString "/")))
theorem normComps_take {cs : List Str} {i : Nat} {y : Str} (h : cs[i]? = some y) : normComps (cs.take (i + 1)) = normStep (normComps (cs.take i)) y := by
  unfold normComps
  rw [List.take_add_one, h]
  simp
theorem normStep_ok {acc : List Str} {c : Str} (h : ∀ z ∈ acc, z ≠ Str.ofString "..") : ∀ z ∈ normStep acc c, z ≠ Str.ofString ".." := by
  unfold normStep
  intro z hz
  split at hz
  · exact h z hz
  · split at hz
    · exact h z (List.dropLast_subset _ hz)
    · rename_i h2
      rcases List.mem_append.mp hz with hz | hz
      · exact h z hz
      · rw [List.mem_singleton.mp hz]; exact h2
theorem normStep_len (acc : List Str) (c : Str) : (normStep acc c).length ≤ acc.length + 1 := by
  unfold normStep
  split
  · omega
  · split
    · simp; omega
    · simp
def wt (l : List Str) : Nat := (l.map (·.length)).sum + l.length
theorem wt_append (a b : List Str) : wt (a ++ b) = wt a + wt b := by simp [wt]; omega
theorem wt_dropLast (a : List Str) : wt a.dropLast ≤ wt a := by
  rcases List.eq_nil_or_concat a with h | ⟨l, b, h⟩
  · subst h; simp
  · subst h; simp [wt_append]
theorem normStep_wt (acc : List Str) (c : Str) : wt (normStep acc c) ≤ wt acc + c.length + 1 := by
  unfold normStep
  split
  · omega
  · split
    · have := wt_dropLast acc; omega
    · rw [wt_append]; simp [wt]; omega
theorem normComps_wt (cs : List Str) : wt (normComps cs) ≤ wt cs := by
  have : ∀ (cs acc : List Str), wt (cs.foldl normStep acc) ≤ wt acc + wt cs := by
    intro cs
    induction cs with
    | nil => intro acc; simp [wt]
    | cons c cs ih =>
      intro acc
      have h1 := ih (normStep acc c)
      have h2 := normStep_wt acc c
      have h3 : wt (c :: cs) = c.length + 1 + wt cs := by simp [wt]; omega
      simp only [List.foldl_cons]
      omega
  have h := this cs []
  have h0 : wt [] = 0 := rfl
  unfold normComps
  omega
theorem step_len0 {acc : List Str} {y : Str} (h : (y.length : Int) = 0) : normStep acc y = acc := by
  unfold normStep; rw [if_pos (.inl (by omega))]
theorem step_dot {acc : List Str} {y : Str} (h : (y == Str.ofString ".") = true) : normStep acc y = acc := by
  unfold normStep; rw [if_pos (.inr (eq_of_beq h))]
theorem step_app {acc : List Str} {y : Str} (h1 : (y.length : Int) ≠ 0) (h2 : (y == Str.ofString ".") = false) (h3 : (y != Str.ofString "..") = true) : normStep acc y = acc ++ [y] := by
  unfold normStep
  rw [if_neg (by rintro (h | h); exact h1 (by omega); simp [h] at h2), if_neg (by intro h; simp [h] at h3)]
theorem step_pop {acc : List Str} {y : Str} (h1 : (y.length : Int) ≠ 0) (h2 : (y == Str.ofString ".") = false) (h3 : (y != Str.ofString "..") = false) : normStep acc y = acc.dropLast := by
  unfold normStep
  rw [if_neg (by rintro (h | h); exact h1 (by omega); simp [h] at h2), if_pos (by simpa using h3)]
theorem join_len_wt (l : List Str) : (Txt.join (Str.ofString "/") l).length ≤ wt l := by
  have h1 : Txt.join (Str.ofString "/") l = Str.join (Str.ofString "/") l := StrLaws.glued_eq_join _ _
  have h2 := StrLaws.join_length_le (Str.ofString "/") l
  have h4 : (Str.ofString "/").length = 1 := by decide +kernel
  rw [h1]
  rw [h4] at h2
  unfold wt
  omega
theorem wt_take (l : List Str) (i : Nat) : wt (l.take i) ≤ wt l := by
  have h : wt l = wt (l.take i) + wt (l.drop i) := by rw [← wt_append, List.take_append_drop]
  omega
theorem len_le_wt (l : List Str) : l.length ≤ wt l := by unfold wt; omega
theorem strs_snoc_split {vs : List Value} {ys : List Str} (h : StrsAre vs ys) : (vs = [] ∧ ys = []) ∨ ∃ p z q t, vs = p ++ [.str z t] ∧ ys = q ++ [z] ∧ StrsAre p q := by
  induction h with
  | nil => exact .inl ⟨rfl, rfl⟩
  | cons x t r ih =>
    rename_i vs' ys'
    rcases ih with ⟨rfl, rfl⟩ | ⟨p, z, q, t', rfl, rfl, hp⟩
    · exact .inr ⟨[], x, [], t, rfl, rfl, .nil⟩
    · exact .inr ⟨.str x t :: p, z, x :: q, t', rfl, rfl, .cons _ _ hp⟩
local macro_rules | `(tactic| walk_at "call builtin:str.join") => `(tactic| (k_here; (with_reducible show wpAny _ _ (call (Value.builtin _) [Value.str _ _, Value.ref _]) _ _ _); k_dflt (refine' join_listW ?j1 ?j2 ?j3 ?j4 ?_; (case j1 => is_list); (case j2 => assumption); (case j3 => decide +kernel); (case j4 => assumption); k_whole); intro _ _))
local macro_rules | `(tactic| walk_at "exec For Name Name cons nil") => `(tactic| (refine Mine.stop_here ?_))
theorem t_normpath (x : Str) (t : Tok) : Claim 150 3 (x.length ≤ 1000 ∧ (splitrootF x).2.1.length ≠ 0 ∧ (splitrootF x).2.1.length ≤ 2 ∧ x.length ≠ 0) [.str x t] (fun t => .str (normF x) t) := by
  intro w mean mg mb dp un gd cn cs a ccd cl outer A₀ base h₀ L m s Q E B F KX T hk hpre hd hu hret
  have hsr := splitroot_len x
  obtain ⟨hp1, hp2, hp3, hp4⟩ := hpre
  (refine wpAny_call ?_; k_dflt (refine' Mine.code_pure (news := []) ?k1 ?k2 ?k3 News.nil ?k5 ?kA ?kF ?kK ?k6 ?k7 ?k8 ?k9 ?kB ?_ ?c2 ?c3 ?c4 ?c5; (case kA => exact rfl); (case kF => exact rfl); (case kK => assumption); (case k1 => k_asm); (case k2 => k_asm); (case k3 => k_asm); (case k5 => k_asm); (case k6 => k_is); (case k7 => k_is); (case k8 => ktr_room); (case k9 => exact BindsTo.of_eq rfl); (case c5 => decide); (case kB => exact locs rfl); (case c2 => exact rfl); (case c3 => exact rfl); (case c4 => exact rfl); k_whole; intro g' L' h' KG' FG' F' N' B' X' T'; (try dsimp only); (try k_lift B'); (try k_fold)))
  k_steps
  · refine Mine.Stop.go (Mine.for_start ?_)
    k_steps
    refine' Mine.for_listX [Str.ofString "comp", Str.ofString "new_comps"] (fun lc o i us news => ∃ u ln vs c D o', us = [u, some (.ref ln)] ∧ news = [(ln, W.listOf vs.toArray c), (lc, o), (D, o')] ∧ ¬ @Eq Nat ln lc ∧ ¬ @Eq Nat ln D ∧ StrsAre vs (normComps ((Txt.split (splitrootF x).2.2 (Str.ofString "/")).take i)) ∧ (∀ z ∈ normComps ((Txt.split (splitrootF x).2.2 (Str.ofString "/")).take i), z ≠ Str.ofString "..")) rfl (by assumption) (by assumption) ?mem rfl ?J0 (fun _ s' v Q' E' _ _ h => go_name s' v Q' E' h) ?turn ?done
    case mem => k_mem
    case J0 => exact ⟨_, _, [], 0, _, _, rfl, rfl, by omega, by omega, .nil, fun z hz => nomatch hz⟩
    case turn =>
      rintro I i v us news₁ h tk oI hi hv ⟨u, ln, vs, c, D, o', rfl, rfl, hne, hne2, hys, hdd⟩ F1 N1 hn1 hl1
      have hn1' := Mine.allNe_of hn1
      dsimp only [Mine.AllNe] at hn1'
      obtain ⟨y, t, rfl, hy⟩ := StrsAre.item (by assumption) i v hv
      have hyl : y.length ≤ 1000 := Nat.le_trans (part_short (List.mem_of_getElem? hy)) (by omega)
      have hw1 := normComps_wt ((Txt.split (splitrootF x).2.2 (Str.ofString "/")).take i)
      have hw2 := wt_take (Txt.split (splitrootF x).2.2 (Str.ofString "/")) i
      have hw3 := split_weight (splitrootF x).2.2 (Str.ofString "/") (by decide +kernel)
      have hlen : vs.length ≤ 1001 := by
        rw [hys.len_eq]
        have h9 := len_le_wt (normComps ((Txt.split (splitrootF x).2.2 (Str.ofString "/")).take i))
        have h8 : wt (Txt.split (splitrootF x).2.2 (Str.ofString "/")) ≤ (splitrootF x).2.2.length + 1 := hw3
        omega
      have hstep := normStep_ok (c := y) hdd
      rw [normComps_take hy]
      generalize normComps ((Txt.split (splitrootF x).2.2 (Str.ofString "/")).take i) = acc at *
      clear hw1 hw2 hw3
      rcases strs_snoc_split hys with ⟨rfl, rfl⟩ | ⟨p, z, q, t', rfl, rfl, hpq⟩
      · have hsz : (([] : List Value).toArray).size ≤ sizeLine := by decide
        k_steps
        all_goals first
          | (refine LPost.cont0 (by assumption) (by assumption) ?_ ?_ ⟨?_, ?_⟩)
          | (refine LPost.next0 (by assumption) (by assumption) ?_ ?_ ⟨?_, ?_⟩)
          | skip
        all_goals first
          | (with_reducible exact List.forall_mem_cons.mpr ⟨hn1'.1, List.forall_mem_cons.mpr ⟨hn1'.2.1, List.forall_mem_cons.mpr ⟨hn1'.2.2.1, List.forall_mem_nil _⟩⟩⟩)
          | (with_reducible exact List.forall_mem_cons.mpr ⟨List.Mem.tail _ (List.Mem.head _), List.forall_mem_nil _⟩)
          | (intro z hz; simp only [List.mem_cons, List.not_mem_nil, or_false, not_or] at hz; simp only [updMap, if_neg hz.1, if_neg hz.2]; done)
          | skip
        all_goals first
          | (refine ⟨_, _, [], _, _, _, rfl, rfl, hne, hne2, ?_, hstep⟩; rw [step_len0 (by assumption)]; exact hys)
          | (refine ⟨_, _, [], _, _, _, rfl, rfl, hne, hne2, ?_, hstep⟩; rw [step_dot (by assumption)]; exact hys)
          | (refine ⟨_, _, [], _, _, _, rfl, rfl, hne, hne2, ?_, hstep⟩; rw [step_pop (by assumption) (by assumption) (by assumption)]; exact hys)
          | (refine ⟨_, _, [_], _, _, _, rfl, rfl, hne, hne2, ?_, hstep⟩; rw [step_app (by assumption) (by assumption) (by assumption)]; exact StrsAre.cons _ _ .nil)
          | (exfalso; omega)
      · have hsz : ((p ++ [Value.str z t']).toArray).size ≤ sizeLine := by rw [sizeLine_eq, List.size_toArray]; omega
        have hpl : p.length + 1 ≤ 1001 := by simpa using hlen
        k_steps
        all_goals first
          | (refine LPost.cont0 (by assumption) (by assumption) ?_ ?_ ⟨?_, ?_⟩)
          | (refine LPost.next0 (by assumption) (by assumption) ?_ ?_ ⟨?_, ?_⟩)
          | skip
        all_goals first
          | (with_reducible exact List.forall_mem_cons.mpr ⟨hn1'.1, List.forall_mem_cons.mpr ⟨hn1'.2.1, List.forall_mem_cons.mpr ⟨hn1'.2.2.1, List.forall_mem_nil _⟩⟩⟩)
          | (with_reducible exact List.forall_mem_cons.mpr ⟨List.Mem.tail _ (List.Mem.head _), List.forall_mem_nil _⟩)
          | (intro z hz; simp only [List.mem_cons, List.not_mem_nil, or_false, not_or] at hz; simp only [updMap, if_neg hz.1, if_neg hz.2]; done)
          | skip
        all_goals first
          | (refine ⟨_, _, p ++ [Value.str z t'], _, _, _, rfl, rfl, hne, hne2, ?_, hstep⟩; rw [step_len0 (by assumption)]; exact hys)
          | (refine ⟨_, _, p ++ [Value.str z t'], _, _, _, rfl, rfl, hne, hne2, ?_, hstep⟩; rw [step_dot (by assumption)]; exact hys)
          | (refine ⟨_, _, p, _, _, _, rfl, rfl, hne, hne2, ?_, hstep⟩; rw [step_pop (by assumption) (by assumption) (by assumption), List.dropLast_concat]; exact hpq)
          | (refine ⟨_, ln, (p ++ [Value.str z t']) ++ [Value.str y t], c + 1, D, o', rfl, by rw [List.push_toArray], hne, hne2, ?_, hstep⟩; rw [step_app (by assumption) (by assumption) (by assumption)]; exact hys.append' (.cons _ _ .nil))
          | exact absurd (eq_of_beq (show (z == Str.ofString "..") = true by assumption)) (hdd z (by simp))
          | (exfalso; omega)
    case done =>
      rintro us news₁ h tk ⟨u, ln, vs, c, D, o', rfl, rfl, hne, hne2, hys, hdd⟩ F1 N1
      have hlen := StrsAre.len_eq (ys := Txt.split (splitrootF x).2.2 (Str.ofString "/")) (by assumption)
      rw [hlen, List.take_length] at hys
      have hw1 := normComps_wt (Txt.split (splitrootF x).2.2 (Str.ofString "/"))
      have hw3 := split_weight (splitrootF x).2.2 (Str.ofString "/") (by decide +kernel)
      have hw : ((normComps (Txt.split (splitrootF x).2.2 (Str.ofString "/"))).map (·.length)).sum + (normComps (Txt.split (splitrootF x).2.2 (Str.ofString "/"))).length ≤ 1048576 := by
        have h8 : wt (Txt.split (splitrootF x).2.2 (Str.ofString "/")) ≤ (splitrootF x).2.2.length + 1 := hw3
        have h9 : wt (normComps (Txt.split (splitrootF x).2.2 (Str.ofString "/"))) ≤ 1048576 := by omega
        exact h9
      have hj : (Txt.join (Str.ofString "/") (normComps (Txt.split (splitrootF x).2.2 (Str.ofString "/")))).length ≤ 1002 := by
        have h1 := join_len_wt (normComps (Txt.split (splitrootF x).2.2 (Str.ofString "/")))
        have h8 : wt (Txt.split (splitrootF x).2.2 (Str.ofString "/")) ≤ (splitrootF x).2.2.length + 1 := hw3
        omega
      clear hw1 hw3 hdd
      have hap := Str.length_append (splitrootF x).2.1 (Txt.join (Str.ofString "/") (normComps (Txt.split (splitrootF x).2.2 (Str.ofString "/"))))
      k_steps
      all_goals first
        | (exfalso; omega)
        | exact ret_str hret (by assumption) (keeps_of (by assumption) (Fr.keep (by assumption))) rfl
  all_goals (exfalso; omega)
local macro_rules | `(tactic| walk_at "mine claim") => `(tactic| with_reducible exact Mine.t_normpath _ _)

end Mine
end C6
open PySem PySem.W PyProof.Rows PySem.Calls Mine
local macro_rules | `(tactic| walk_at "mine claim") => `(tactic| with_reducible exact Mine.t_normpath _ _)
/-! ## Rest -/
section Rest
open PySem PySem.W PyProof.Rows PySem.Calls
set_option Elab.async false
set_option maxRecDepth 100000
set_option maxHeartbeats 8000000
namespace Mine
theorem peek1_keeps {α : Type} {K : Frag} {M : Model} {A : Around} {E : Value → Shared → Prop} {Q : α → Shared → Prop} {s : Shared} {o : Obj} {r : Addr → α}
    (X : K.In s.heap) (q : Q (r s.heap.objs.size) { s with heap := s.heap.push o }) :
    ∀ (t : Sem α) (g : Addr → Option α), peek1 K ⟨M.prog, M.w.params⟩ t = some (o, g) → (∀ D, g D = some (r D)) → wpAny M A t Q E s := by
  intro t
  induction t with
  | rule _ k ih => intro g e hg Γ p hΓ; exact ih () g e hg Γ p hΓ
  | point _ k ih => intro g e hg Γ p hΓ; exact ih () g e hg Γ p hΓ
  | ask k ih => intro g e hg Γ p hΓ; exact ih _ g e hg Γ p hΓ
  | load a _ k ih =>
    intro g e hg Γ p hΓ
    simp only [peek1] at e
    split at e
    · rename_i ob ho; exact ⟨ob, X _ _ ho, ih ob g e hg Γ p hΓ⟩
    · cases e
  | alloc ob k _ =>
    intro g e hg
    have e : some (ob, fun D => peek K ⟨M.prog, M.w.params⟩ (k D)) = some (o, g) := e
    obtain ⟨e1, e2⟩ := Prod.mk.inj (Option.some.inj e)
    subst e1
    subst e2
    have X' : K.In (s.heap.push ob) := X.keeps fun b x hb => Heap.get?_push_of_some _ hb
    show wpAny M A (alloc ob >>= k) Q E s
    refine wpAny_bind (wpAny_alloc ?_)
    exact (Looks.of_peek (M := M) (h := s.heap.push ob) X' (hg s.heap.objs.size)).here (s := { s with heap := s.heap.push ob }) q
  | _ => intro g e; cases e

theorem code_rest {prog : Program} {w : World} {A₀ A : Around} {s : Shared} {K : Frag} {L : Addr} {h₀ base : Heap} {m mg mb : Str → Option Value} {p : Program} {loose : List Str} {mean : ExcName → Option Value}
    {env : Env} {outer : List Env} {R : Result → Shared → Prop} {name qual : Str} {params : Arguments} {body : List Stmt} {scope : Scope} {dV kV doc pm cdv ct oc : Value} {an od : Option Addr} {osl : Array (Option Value)} {f : Addr} {args : Args} {vs : List Value} {g₁ : Addr → Option (List (Str × Value))} {binds : Addr → List (Str × Value)}
    (B : Below A₀ base outer h₀) (F : Fr h₀ L s.heap m) (X₀ : K.In h₀) (T : Top p loose mean mg mb h₀) (hA : A.frames = some (env :: outer)) (hf : env.frame = some L) (hke : env.scope.kind = .function)
    (ho : K.lookup f = some ⟨oc, od, .func (fnOf name qual params body scope dV kV doc pm an cdv ct), osl⟩) (hcd : codeIn K cdv qual = true) (hroom : A.depth < recursionLimit)
    (hp : peek1 K ⟨prog, w.params⟩ (bindArgs (fnOf name qual params body scope dV kV doc pm an cdv ct) args) = some (({ cls := .type "tuple", data := .seq vs.toArray } : Obj), g₁))
    (hg : ∀ D, g₁ D = some (binds D)) (hloc : ∀ D, ∀ y ∈ binds D, scope.names.lookup y.1 = some .local)
    (h : ∀ D g L' h₁, (∀ b o, s.heap.get? b = some o → b ∉ ([] : List (Addr × Obj)).map (·.1) → g.get? b = some o) → Fr h₀ L g m → Fr g L' h₁ (fun y => (binds D).reverse.lookup y) → News g L' h₁ [(D, ({ cls := .type "tuple", data := .seq vs.toArray } : Obj))] → Below A base (env :: outer) g → K.In g → Top p loose mean mg mb g →
      wpAny (model prog w) (A.deeper (envOf qual scope L' f cdv)) (execs body (envOf qual scope L' f cdv))
        (fun fl s' => LeaveK h₀ L m g R (match fl with | .ret v => v | _ => .none) s')
        (fun e s' => wpAny (model prog w) (A.deeper (envOf qual scope L' f cdv)) (leaving (envOf qual scope L' f cdv) e) (fun _ s'' => R (.error e) s'') (fun e' s'' => R (.error e') s'') s')
        { s with heap := h₁, toks := s.toks + (binds D).length })
    (hco : scope.isCoroutine = false) (hgen : scope.isGenerator = false) (hk : scope.kind = .function)
    (hcell : ∀ x ∈ scope.names, x.2 ≠ .cell) : codeAny (model prog w) A (.call (.ref f) args) R s := by
  refine codeAny_call_function (fd := fnOf name qual params body scope dV kV doc pm an cdv ct) (body := body) hroom ((X₀.keeps F.keep) _ _ ho) rfl hco hgen rfl (codeRec_of (X₀.keeps F.keep) hcd) ?_
  refine peek1_keeps (o := ({ cls := .type "tuple", data := .seq vs.toArray } : Obj)) (X₀.keeps F.keep) (r := binds) ?_ _ g₁ hp hg
  have F₁ := F.push ({ cls := .type "tuple", data := .seq vs.toArray } : Obj)
  have N₁ := News.push F (News.nil (h₀ := h₀) (h := s.heap) (L := L)) ({ cls := .type "tuple", data := .seq vs.toArray } : Obj) rfl
  obtain ⟨FG, BG, st, lv⟩ := groundX (R := R) (s := { s with heap := s.heap.push _ }) B F₁ N₁ hA hf hke
  refine wpAny_newFunctionEnv hcell (hloc _) (fun h₁ hns hsb => ⟨(T.nolimit.keeps F₁.keep).fresh _ hsb, codeAny_func ?_⟩) hk
  have hk₁ : ∀ b o, (s.heap.push ({ cls := .type "tuple", data := .seq vs.toArray } : Obj)).get? b = some o → h₁.get? b = some o := fun b o e => hsb.extBut b o (Nat.ne_of_lt (Heap.lt_size e)) (Heap.get?_push_of_some _ e)
  exact wpAny_mono (h _ _ _ h₁ (fun b o e _ => hideAll_get _ (Heap.get?_push_of_some _ e) (by simpa using Nat.ne_of_lt (Heap.lt_size e))) FG ⟨hns, fun b o e => hk₁ b o (of_hideAll _ e), Nat.le_of_eq (hideAll_size _ _)⟩
    (fun p hp => ⟨hk₁ _ _ (N₁ p hp).1, Nat.ne_of_lt (Heap.lt_size (N₁ p hp).1), hideAll_none _ (List.mem_map_of_mem hp)⟩) BG (X₀.keeps st) (T.keeps st)) (fun fl s' hl => lv _ _ hl) fun _ _ y => y
end Mine
open Mine
end Rest
/-! ## C7 -/
section C7
theorem Mine.calm_C7 : True := by
  w_top off
  trivial
open PySem PySem.W PyProof.Rows PySem.Calls
set_option Elab.async false
set_option pp.deepTerms false
set_option pp.maxSteps 400
set_option maxRecDepth 100000
set_option maxHeartbeats 8000000
namespace Mine
local macro_rules | `(tactic| walk_at "exec For Name Name cons nil") => `(tactic| (refine Mine.stop_here ?_))
theorem bind_rest {K : Frag} {S : Setting} {name qual : Str} {pa pp : Pos} {body : List Stmt} {scope : Scope} {doc pm cdv ct : Value} {an : Option Addr} {v : Value} {vs : List Value} (h : vs.length ≤ 12) :
    peek1 K S (bindArgs (fnOf name qual { posonlyargs := [], args := [{ arg := Str.ofString "a", annotation := none, pos := pa }], vararg := some { arg := Str.ofString "p", annotation := none, pos := pp }, kwonlyargs := [], kw_defaults := [], kwarg := none, defaults := [] } body scope .none .none doc pm an cdv ct) { pos := v :: vs, kw := [] }) =
      some (({ cls := .type "tuple", data := .seq vs.toArray } : Obj), fun D => some [(Str.ofString "a", v), (Str.ofString "p", .ref D)]) := by
  iterate 13 (rcases vs with _ | ⟨_, vs⟩; · exact rfl)
  simp only [List.length_cons] at h
  omega
def joinStep (p b : Str) : Str :=
  if Txt.startswith b (Str.ofString "/") = true ∨ p.length = 0 then b else if Txt.endswith p (Str.ofString "/") = true then p ++ b else p ++ (Str.ofString "/" ++ b)
def joinF (x : Str) (ys : List Str) : Str := ys.foldl joinStep x
theorem joinStep_len (p b : Str) : (joinStep p b).length ≤ p.length + b.length + 1 := by
  unfold joinStep
  have h4 : (Str.ofString "/").length = 1 := by decide +kernel
  split
  · omega
  · split
    · rw [Str.length_append]; omega
    · rw [Str.length_append, Str.length_append]; omega
theorem joinF_len : ∀ (ys : List Str) (x : Str), (joinF x ys).length ≤ x.length + wt ys
  | [], x => by simp [joinF, wt]
  | y :: ys, x => by
    have h1 := joinF_len ys (joinStep x y)
    have h2 := joinStep_len x y
    have h3 : wt (y :: ys) = y.length + 1 + wt ys := by simp [wt]; omega
    have h4 : joinF x (y :: ys) = joinF (joinStep x y) ys := rfl
    rw [h4]; omega
theorem joinF_take {x : Str} {ys : List Str} {i : Nat} {y : Str} (h : ys[i]? = some y) : joinF x (ys.take (i + 1)) = joinStep (joinF x (ys.take i)) y := by
  unfold joinF
  rw [List.take_add_one, h]
  simp
theorem js_abs {p b : Str} (h : Txt.startswith b (Str.ofString "/") = true) : joinStep p b = b := by unfold joinStep; rw [if_pos (.inl h)]
theorem js_nil {p b : Str} (h : (p.length : Int) = 0) : joinStep p b = b := by unfold joinStep; rw [if_pos (.inr (by omega))]
theorem js_end {p b : Str} (h1 : Txt.startswith b (Str.ofString "/") = false) (h2 : (p.length : Int) ≠ 0) (h3 : Txt.endswith p (Str.ofString "/") = true) : joinStep p b = p ++ b := by
  unfold joinStep; rw [if_neg (by rintro (h | h); simp [h] at h1; omega), if_pos h3]
theorem js_mid {p b : Str} (h1 : Txt.startswith b (Str.ofString "/") = false) (h2 : (p.length : Int) ≠ 0) (h3 : Txt.endswith p (Str.ofString "/") = false) : joinStep p b = p ++ (Str.ofString "/" ++ b) := by
  unfold joinStep; rw [if_neg (by rintro (h | h); simp [h] at h1; omega), if_neg (by simp [h3])]
theorem wt_mem {ys : List Str} {y : Str} (h : y ∈ ys) : y.length ≤ wt ys := by
  induction ys with
  | nil => cases h
  | cons z zs ih =>
    have h3 : wt (z :: zs) = z.length + 1 + wt zs := by simp [wt]; omega
    rcases List.mem_cons.mp h with rfl | h
    · omega
    · have := ih h; omega
theorem t_join (x : Str) (t : Tok) (vs : List Value) (ys : List Str) (hvs : StrsAre vs ys) (hlen : vs.length ≤ 12) : Claim 129 3 (x.length ≤ 100 ∧ wt ys ≤ 500) (.str x t :: vs) (fun t => .str (joinF x ys) t) := by
  intro w mean mg mb dp un gd cn cs a ccd cl outer A₀ base h₀ L m s Q E B F KX T hk hpre hd hu hret
  refine wpAny_call ?_
  k_dflt (refine' Mine.code_rest ?k1 ?k2 ?k3 ?k5 ?kA ?kF ?kK ?k6 ?k7 ?k8 ?kP ?kG ?kB ?_ ?c2 ?c3 ?c4 ?c5; (case kA => exact rfl); (case kF => exact rfl); (case kK => assumption); (case k1 => k_asm); (case k2 => k_asm); (case k3 => k_asm); (case k5 => k_asm); (case k6 => k_is); (case k7 => k_is); (case k8 => ktr_room); (case kP => exact bind_rest hlen); (case kG => exact fun _ => rfl); (case c5 => decide); (case kB => exact fun _ => locs rfl); (case c2 => exact rfl); (case c3 => exact rfl); (case c4 => exact rfl); k_whole; intro D' g' L' h' KG' FG' F' N' B' X' T'; (try dsimp only); (try k_lift B'); (try k_fold))
  k_steps
  refine Mine.Stop.go (Mine.for_start ?_)
  k_steps
  refine' Mine.for_tupleX [Str.ofString "b", Str.ofString "path"] (fun l o i us news => ∃ u tp, us = [u, some (.str (joinF x (ys.take i)) tp)] ∧ news = [(l, o)]) rfl (by assumption) (by assumption) ?mem rfl ?J0 (fun _ s' v Q' E' h => go_name s' v Q' E' h) ?turn ?done
  case mem => k_mem
  case J0 => exact ⟨_, _, rfl, rfl⟩
  case turn =>
    rintro I i v us news₁ h tk oI hi hv ⟨u, tp, rfl, rfl⟩ F1 N1 hn1 hl1
    obtain ⟨y, t, rfl, hy⟩ := StrsAre.item hvs i v hv
    have hyl : y.length ≤ 500 := Nat.le_trans (wt_mem (List.mem_of_getElem? hy)) hpre.2
    have hpl : (joinF x (ys.take i)).length ≤ 600 := by
      have h1 := joinF_len (ys.take i) x
      have h2 := wt_take ys i
      omega
    rw [joinF_take hy]
    generalize joinF x (ys.take i) = p at *
    k_steps
    all_goals refine LPost.next0 (by assumption) (by assumption) hn1 (fun p hp => hp) ⟨?_, ?_⟩
    all_goals first
      | (intro z hz; simp only [List.mem_cons, List.not_mem_nil, or_false, not_or] at hz; simp only [updMap, if_neg hz.1, if_neg hz.2]; done)
      | (rw [js_abs (by assumption)]; exact ⟨_, _, rfl, rfl⟩)
      | (rw [js_nil (by assumption)]; exact ⟨_, _, rfl, rfl⟩)
      | (rw [js_end (by assumption) (by assumption) (by assumption)]; exact ⟨_, _, rfl, rfl⟩)
      | (rw [js_mid (by assumption) (by assumption) (by assumption)]; exact ⟨_, _, rfl, rfl⟩)
      | skip
  case done =>
    rintro us news₁ h tk ⟨u, tp, rfl, rfl⟩ F1 N1
    rw [hvs.len_eq, List.take_length] at F1
    k_steps
    all_goals exact ret_str hret (by assumption) (keeps_of (by assumption) (Fr.keep (by assumption))) rfl

end Mine
end C7
/-! ## While -/
section While
open PySem PySem.W PyProof.Rows PySem.Calls
set_option Elab.async false
set_option maxRecDepth 100000
set_option maxHeartbeats 8000000
namespace Mine
def WPost (h₀ : Heap) (L : Addr) (n : Nat) (xs : List Str) (m : Str → Option Value) (J : Nat → List (Option Value) → List (Addr × Obj) → Prop) (s₁ : Shared) (Q : Flow → Shared → Prop) (f : Flow) (s₂ : Shared) : Prop :=
  match f with
  | .ret v => Q (.ret v) s₂
  | .brk => Q .next s₂
  | _ => ∃ k, k < n ∧ ∃ h' tk m' news', s₂ = { s₁ with heap := h', toks := tk } ∧ Fr h₀ L h' m' ∧ News h₀ L h' news' ∧ JX xs m (J k) m' news'
theorem WPost.next0 {h₀ : Heap} {L : Addr} {n : Nat} {xs : List Str} {m : Str → Option Value} {J : Nat → List (Option Value) → List (Addr × Obj) → Prop} {s₁ : Shared} {Q : Flow → Shared → Prop} {h' : Heap} {tk : Nat} {m' : Str → Option Value} {news₀ : List (Addr × Obj)} (news' : List (Addr × Obj)) (k : Nat) (hk : k < n)
    (F : Fr h₀ L h' m') (N : News h₀ L h' news₀) (hs : ∀ p ∈ news', p ∈ news₀) (hJ : JX xs m (J k) m' news') : WPost h₀ L n xs m J s₁ Q .next { s₁ with heap := h', toks := tk } :=
  ⟨k, hk, h', tk, m', news', rfl, F, fun p hp => N p (hs p hp), hJ⟩

theorem while_X {prog : Program} {w : World} {A : Around} {s : Shared} {env : Env} {h₀ : Heap} {E : Value → Shared → Prop} {Q : Flow → Shared → Prop} {test : Expr} {body : List Stmt} {pos : Pos} {m : Str → Option Value} {news : List (Addr × Obj)}
    (xs : List Str) (J : Nat → List (Option Value) → List (Addr × Obj) → Prop) (n₀ : Nat) (F : Fr h₀ env.locals s.heap m) (N : News h₀ env.locals s.heap news) (hJ : J n₀ (xs.map m) news)
    (turn : ∀ n us news₁ h tk, J n us news₁ → Fr h₀ env.locals h (updMap xs us m) → News h₀ env.locals h news₁ →
      wpAny (model prog w) A (isTrue test env (eval test env)) (fun b s₂ => if b then wpAny (model prog w) A (execs body env) (WPost h₀ env.locals n xs m J s Q) (fun _ _ => False) s₂ else Q .next s₂) (fun _ _ => False) { s with heap := h, toks := tk }) :
    wpAny (model prog w) A (exec (.While test body [] pos) env) Q E s := by
  refine wpAny_While (codeAny_whileLoop (fun k s' => ∃ h' tk m' news', s' = { s with heap := h', toks := tk } ∧ Fr h₀ env.locals h' m' ∧ News h₀ env.locals h' news' ∧ JX xs m (J k) m' news') ?_ n₀ ⟨s.heap, s.toks, m, news, rfl, F, N, fun _ _ => rfl, hJ⟩)
  rintro n s' ⟨h', tk, m', news', rfl, F', N', hJ'⟩
  refine wpAny_mono (turn n (xs.map m') news' h' tk hJ'.2 (updMap_self xs hJ'.1 ▸ F') N') (fun b s₂ h₂ => ?_) fun _ _ e => e.elim
  cases b with
  | true =>
    simp only [if_true] at h₂ ⊢
    refine wpAny_mono h₂ (fun f s₃ h₃ => ?_) fun _ _ e => e.elim
    cases f with
    | ret v => exact h₃
    | brk => exact h₃
    | cont => exact h₃
    | next => exact h₃
  | false =>
    simp only [Bool.false_eq_true, if_false] at h₂ ⊢
    exact wpAny_execs_nil h₂
end Mine
end While
/-! ## C8 -/
section C8
theorem Mine.calm_C8 : True := by
  w_top off
  trivial
local macro_rules | `(tactic| walk_at "calm C8 0") => `(tactic| fail)
open PySem PySem.W PyProof.Rows PySem.Calls
set_option Elab.async false
set_option pp.deepTerms false
set_option pp.maxSteps 400
set_option maxRecDepth 100000
set_option maxHeartbeats 8000000
namespace Mine
local macro_rules | `(tactic| walk_at "exec While Compare cons nil") => `(tactic| (refine Mine.stop_here ?_))
theorem splitF_len (x : Str) : (splitF x).1.length ≤ x.length ∧ (splitF x).2.length ≤ x.length := by
  unfold splitF
  dsimp only
  split
  · exact ⟨Nat.le_trans (len_rstripChars _ _) (slice_len _ _ _), slice_len _ _ _⟩
  · exact ⟨slice_len _ _ _, slice_len _ _ _⟩
def numRun : Nat → Int → Int → Str → Str → Option Int
  | 0, _, _, _, _ => none
  | n + 1, a, g, h, t => if (t != Str.ofString "") = true then numRun n (if (t == Str.ofString "1") = true then a + g else a) (2 * g) (splitF h).1 (splitF h).2 else some (a + g)
theorem pow16 {n : Nat} (h : n ≤ 16) : (1 : Int) * 2 ^ n ≤ 65536 := by
  have h1 : 2 ^ n ≤ 2 ^ 16 := Nat.pow_le_pow_right (by decide) h
  have h2 : ((2 ^ n : Nat) : Int) ≤ ((2 ^ 16 : Nat) : Int) := Int.ofNat_le.mpr h1
  rw [Int.one_mul]
  simpa using h2
theorem pow_half {g : Int} {n : Nat} (h : g * 2 ^ (n + 1) ≤ 65536) : 2 * g * 2 ^ n ≤ 65536 := by
  rw [Int.pow_succ] at h
  have : g * (2 ^ n * 2) = 2 * g * 2 ^ n := by rw [Int.mul_comm (2 ^ n) 2, ← Int.mul_assoc, Int.mul_comm g 2]
  omega
theorem pow_le {g : Int} {n : Nat} (hg : 0 ≤ g) (h : g * 2 ^ n ≤ 65536) : g ≤ 65536 := by
  have h1 : (1 : Int) ≤ 2 ^ n := by
    have : 1 ≤ 2 ^ n := Nat.one_le_two_pow
    exact_mod_cast this
  have h2 : g * 1 ≤ g * 2 ^ n := Int.mul_le_mul_of_nonneg_left h1 hg
  omega
theorem t_number (x : Str) (t : Tok) (n : Nat) (r : Int) (hn : n ≤ 16) (hr : numRun n 0 1 (splitF x).1 (splitF x).2 = some r) : Claim 176 3 (x.length ≤ 1000) [.str x t] (fun t => .int r t) := by
  intro w mean mg mb dp un gd cn cs a ccd cl outer A₀ base h₀ L m s Q E B F KX T hk hpre hd hu hret
  have hsl := splitF_len x
  (refine wpAny_call ?_; k_dflt (refine' Mine.code_pure (news := []) ?k1 ?k2 ?k3 News.nil ?k5 ?kA ?kF ?kK ?k6 ?k7 ?k8 ?k9 ?kB ?_ ?c2 ?c3 ?c4 ?c5; (case kA => exact rfl); (case kF => exact rfl); (case kK => assumption); (case k1 => k_asm); (case k2 => k_asm); (case k3 => k_asm); (case k5 => k_asm); (case k6 => k_is); (case k7 => k_is); (case k8 => ktr_room); (case k9 => exact BindsTo.of_eq rfl); (case c5 => decide); (case kB => exact locs rfl); (case c2 => exact rfl); (case c3 => exact rfl); (case c4 => exact rfl); k_whole; intro g' L' h' KG' FG' F' N' B' X' T'; (try dsimp only); (try k_lift B'); (try k_fold)))
  k_steps
  refine Mine.Stop.go ?_
  refine' while_X [Str.ofString "number", Str.ofString "weight", Str.ofString "head", Str.ofString "tail"] (fun n us news => ∃ a ta g tg h th t tt D o, us = [some (.int a ta), some (.int g tg), some (.str h th), some (.str t tt)] ∧ news = [(D, o)] ∧ numRun n a g h t = some r ∧ 0 ≤ a ∧ a ≤ g ∧ 1 ≤ g ∧ n ≤ 16 ∧ g * 2 ^ n ≤ 65536 ∧ h.length ≤ 1000 ∧ t.length ≤ 1000) n (by assumption) (by assumption) ?J0 ?turn
  case J0 => exact ⟨_, _, _, _, _, _, _, _, _, _, rfl, rfl, hr, by decide, by decide, by decide, hn, pow16 hn, by omega, by omega⟩
  case turn =>
    rintro n us news₁ h tk ⟨a, ta, g, tg, hh, th, t, tt, D, o, rfl, rfl, hrun, h1, h2, h3, h4, h5, h6, h7⟩ F1 N1
    have hsl2 := splitF_len hh
    have h8 := pow_le (by omega) h5
    obtain _ | n := n
    · simp [numRun] at hrun
    have h9 := pow_half h5
    k_steps
    · refine WPost.next0 [(D, o)] n (Nat.lt_succ_self _) (by assumption) (by assumption) (List.forall_mem_cons.mpr ⟨by k_mem, List.forall_mem_nil _⟩) ⟨?_, ?_⟩
      · intro z hz
        simp only [List.mem_cons, List.not_mem_nil, or_false, not_or] at hz
        simp only [updMap, if_neg hz.1, if_neg hz.2.1, if_neg hz.2.2.1, if_neg hz.2.2.2]
      · refine ⟨a + g, _, 2 * g, _, _, _, _, _, _, _, rfl, rfl, ?_, by omega, by omega, by omega, by omega, h9, by omega, by omega⟩
        dsimp only [numRun] at hrun
        simpa only [*, if_true] using hrun
    · refine WPost.next0 [(D, o)] n (Nat.lt_succ_self _) (by assumption) (by assumption) (List.forall_mem_cons.mpr ⟨by k_mem, List.forall_mem_nil _⟩) ⟨?_, ?_⟩
      · intro z hz
        simp only [List.mem_cons, List.not_mem_nil, or_false, not_or] at hz
        simp only [updMap, if_neg hz.1, if_neg hz.2.1, if_neg hz.2.2.1, if_neg hz.2.2.2]
      · refine ⟨a, _, 2 * g, _, _, _, _, _, _, _, rfl, rfl, ?_, by omega, by omega, by omega, by omega, h9, by omega, by omega⟩
        dsimp only [numRun] at hrun
        simpa only [*, if_true, if_false, Bool.false_eq_true] using hrun
    · refine ret_int hret (by assumption) (keeps_of (by assumption) (Fr.keep (by assumption))) ?_
      dsimp only [numRun] at hrun
      simp only [*, Bool.false_eq_true, if_false] at hrun
      exact (Option.some.inj hrun).symm

end Mine
end C8
/-! ## Cells -/
section Cells
open PySem PySem.W PyProof.Rows PySem.Calls
set_option Elab.async false
set_option maxRecDepth 100000
set_option maxHeartbeats 8000000
namespace Mine
theorem code_pureC {prog : Program} {w : World} {A₀ A : Around} {s : Shared} {K : Frag} {L : Addr} {h₀ base : Heap} {m mg mb : Str → Option Value} {news : List (Addr × Obj)} {p : Program} {loose : List Str} {mean : ExcName → Option Value}
    {env : Env} {outer : List Env} {R : Result → Shared → Prop} {name qual : Str} {params : Arguments} {body : List Stmt} {scope : Scope} {dV kV doc pm cdv ct oc : Value} {an od : Option Addr} {osl : Array (Option Value)} {f : Addr} {args : Args} {binds : List (Str × Value)}
    (B : Below A₀ base outer h₀) (F : Fr h₀ L s.heap m) (X₀ : K.In h₀) (N : News h₀ L s.heap news) (T : Top p loose mean mg mb h₀) (hA : A.frames = some (env :: outer)) (hf : env.frame = some L) (hke : env.scope.kind = .function)
    (ho : K.lookup f = some ⟨oc, od, .func (fnOf name qual params body scope dV kV doc pm an cdv ct), osl⟩) (hcd : codeIn K cdv qual = true) (hroom : A.depth < recursionLimit)
    (hbind : BindsTo s (fnOf name qual params body scope dV kV doc pm an cdv ct) args binds) (hkind : (binds.all fun y => scope.names.lookup y.1 == some .local || scope.names.lookup y.1 == some .cell) = true)
    (hnd : ((cellsFrom 0 scope.names []).map (·.1)).Nodup)
    (h : ∀ g L' h₁ tk cells, (∀ b o, s.heap.get? b = some o → b ∉ news.map (·.1) → g.get? b = some o) → Fr h₀ L g m → Fr g L' h₁ (bindL (envOfC qual scope L' f cdv).kindOf binds fun _ => none) → News g L' h₁ (cells ++ news) →
      CellsAre (bindC (envOfC qual scope L' f cdv).kindOf binds fun _ => none) (cellsFrom (L' + 1) scope.names []) cells → Below A base (env :: outer) g → K.In g → Top p loose mean mg mb g → (∀ p ∈ news, p.1 < L') →
      wpAny (model prog w) (A.deeper (envOfC qual scope L' f cdv)) (execs body (envOfC qual scope L' f cdv))
        (fun fl s' => LeaveK h₀ L m g R (match fl with | .ret v => v | _ => .none) s')
        (fun e s' => wpAny (model prog w) (A.deeper (envOfC qual scope L' f cdv)) (leaving (envOfC qual scope L' f cdv) e) (fun _ s'' => R (.error e) s'') (fun e' s'' => R (.error e') s'') s')
        { s with heap := h₁, toks := tk })
    (hco : scope.isCoroutine = false) (hgen : scope.isGenerator = false) (hk : scope.kind = .function) : codeAny (model prog w) A (.call (.ref f) args) R s := by
  obtain ⟨FG, BG, st, lv⟩ := groundX (R := R) B F N hA hf hke
  refine codeAny_call_function (fd := fnOf name qual params body scope dV kV doc pm an cdv ct) (body := body) hroom ((X₀.keeps F.keep) _ _ ho) rfl hco hgen rfl (codeRec_of (X₀.keeps F.keep) hcd) (hbind _ _ _ _ ?_)
  refine wpAny_newFunctionEnv_cells hk (kindsX hkind _) fun env' he s' x => ?_
  subst he
  refine ⟨(T.nolimit.keeps F.keep).keeps x.toInCall.keep, codeAny_func ?_⟩
  obtain ⟨h₁, tk, rfl, _⟩ := x.done
  have hk₁ := x.toInCall.keep
  obtain ⟨cells, NC, Y⟩ := Cl.news (h₀ := s.heap) (Nat.le_refl _) fun n c hm => ⟨x.cell n c (lookup_of_mem_nodup (cellsFrom_names scope.names 0 (s.heap.objs.size + 1) [] [] rfl ▸ hnd) hm), x.above n c hm⟩
  refine wpAny_mono (h _ s.heap.objs.size h₁ tk cells (fun b o e n => hideAll_get _ e n) FG ⟨x.toInCall.ns, fun b o e => hk₁ b o (of_hideAll _ e), Nat.le_of_eq (hideAll_size _ _)⟩ (fun p hp => ?_) Y BG (X₀.keeps st) (T.keeps st) (fun p hp => Heap.lt_size (N p hp).1)) (fun fl s' hl => lv _ _ hl) fun _ _ y => y
  rcases List.mem_append.mp hp with hp | hp
  · refine ⟨(NC p hp).1, (NC p hp).2.1, ?_⟩
    cases q : (hideAll s.heap (news.map (·.1))).get? p.1 with
    | none => rfl
    | some o => have := of_hideAll _ q; rw [(NC p hp).2.2] at this; cases this
  · exact ⟨hk₁ _ _ (N p hp).1, Nat.ne_of_lt (Heap.lt_size (N p hp).1), hideAll_none _ (List.mem_map_of_mem hp)⟩

/-- keeping, where the callee was handed the one object `l` -/
theorem keeps_of1 {h g h' : Heap} {h₀ h₁ : Heap} {L L' l : Addr} {o : Obj} {news : List (Addr × Obj)} (k : ∀ b o', h.get? b = some o' → b ∉ [(l, o)].map (·.1) → g.get? b = some o') (N : News h₀ L h [(l, o)]) (F : Keeps g h') (N' : News h₁ L' h' news) (hm : (l, o) ∈ news) : Keeps h h' := by
  intro b o' e
  by_cases hb : b = l
  · subst hb
    have := (N _ (.head _)).1
    dsimp only at this
    rw [e] at this
    cases this
    exact (N' _ hm).1
  · exact F b o' (k b o' e (by simpa using hb))

abbrev ClaimL (f : Addr) (dd : Nat) (pre : Prop) (o : Obj) (R : Tok → Value) : Prop :=
  ∀ (w : World) (mean : ExcName → Option Value) (mg mb : Str → Option Value) (dp un : Nat) (gd : Option (List Code)) (cn : Str) (cs : Scope) (a : Addr) (ccd : Value) (cl : List (Str × Addr)) (outer : List Env) (A₀ : Around) (base h₀ : Heap) (L l : Addr) (m : Str → Option Value) (s : Shared) (Q E : Value → Shared → Prop),
    Below A₀ base outer h₀ → Fr h₀ L s.heap m → (Mine.hd.heap_1 w.params).In h₀ → News h₀ L s.heap [(l, o)] → Top Mine.hd.view (looseW Mine.hd.view []) mean mg mb h₀ → cs.kind = .function →
    pre → dp + dd < recursionLimit → un + 8 * dd < cLine → Ret h₀ L m s Q R →
      wpAny (model PySem.Challenge.rw_pd0077_01.row.prog w) (ktrTop dp un gd cn cs L a ccd cl outer) (call (.ref f) [.ref l]) Q E s
end Mine
open Mine
end Cells
/-! ## SetR -/
section SetR
open PySem PySem.W PyProof.Rows PySem.Calls
set_option Elab.async false
set_option maxRecDepth 100000
set_option maxHeartbeats 8000000
namespace Mine
theorem slot_bool_hash : Slot "bool" "__hash__" "int.__hash__" :=
  .of (owner := "int") (n := "__hash__") (by rw [typeLookup_type, builtinLookup_eq_fast]; kernel_rfl) (by decide +kernel) (by decide +kernel) (by decide +kernel)
    (by first | exact .inl (by decide +kernel) | exact .inr (by decide +kernel)) (by rw [isSubtype_type]; kernel_rfl)
theorem slot_setit_next : Slot "set_iterator" "__next__" "set_iterator.__next__" :=
  .of (owner := "set_iterator") (n := "__next__") (by rw [typeLookup_type, builtinLookup_eq_fast]; kernel_rfl) (by decide +kernel) (by decide +kernel) (by decide +kernel)
    (by first | exact .inl (by decide +kernel) | exact .inr (by decide +kernel)) (by rw [isSubtype_type]; kernel_rfl)
theorem entry_setit_next : entryFor table "set_iterator.__next__" = some Builtin.«set_iterator.__next__» := entryFor_of_tree (by kernel_rfl)
theorem entry_set_iter : entryFor table "set.__iter__" = some Builtin.«frozenset.__iter__» :=
  entryFor_alias (id' := "frozenset.__iter__") (by kernel_rfl) (by first | rfl | decide +kernel | (unfold String.splitOn; simp +decide [String.splitOnAux])) (by decide +kernel) (by kernel_rfl)
theorem args_setit_next_1 (a : Value) : argsOk "set_iterator.__next__" ⟨[a], []⟩ := by unfold argsOk; kernel_rfl

abbrev setO (es : Array (Int × Value)) (ep : Nat) (t : SetTable) : Obj := { cls := .type "set", dict := none, data := .set es ep t }
def tab1 (led : Bool) : SetTable := (layNew (.fresh 0 0 led) #[] 1 (.bool true)).2.1
abbrev set0 (led : Bool) : Obj := setO #[] 0 (.fresh 0 0 led)
abbrev set1 (led : Bool) : Obj := setO #[(1, .bool true)] 1 (tab1 led)
theorem lay1 (led : Bool) : layNew (.fresh 0 0 led) #[] 1 (.bool true) = (#[(1, .bool true)], tab1 led, false, false) := by cases led <;> decide +kernel
theorem tab1_fits (led : Bool) : (tab1 led).fits 1 = true := by cases led <;> decide +kernel
theorem tab1_full (led : Bool) : (tab1 led).tooFull = false := by cases led <;> decide +kernel
theorem tab1_plain (led : Bool) : (tab1 led).plain = true := by cases led <;> decide +kernel
theorem tab1_led (led : Bool) : (tab1 led).led = led := by cases led <;> decide +kernel
theorem fresh_fits (led : Bool) : (SetTable.fresh 0 0 led).fits 0 = true := by cases led <;> decide +kernel

section
variable {prog : Program} {w : World} {A : Around} {E : Value → Shared → Prop} {s : Shared} {a : Addr}
theorem pyHash_true {Q : Int → Shared → Prop} (h : Q 1 { s with toks := s.toks + 1 }) : wpAny (model prog w) A (pyHash (.bool true)) Q E s := by
  have hT : s.TypeIs (.bool true) "bool" := rfl
  unfold pyHash
  have hv : [Value.bool true].any Value.onHeap = false := rfl
  refine wpAny_bind ?_
  rw [cRoomFor, if_neg (by rw [hv]; exact Bool.false_ne_true)]; refine wpAny_pure ?_
  refine wpAny_bind (wpAny_specialOf hT slot_bool_hash.lookup ?_)
  show wpAny _ _ (if (some (Value.builtin "int.__hash__") == some Value.none) = true then _ else _) Q E s
  rw [if_neg (by rw [beq_builtin_none]; exact Bool.false_ne_true)]
  refine wpAny_bind (wpAny_specialOf hT slot_bool_hash.lookup ?_)
  show wpAny _ _ (callSpecialIfBoundUnlessNone? (.bool true) "__hash__" _ >>= _) Q E s
  refine wpAny_bind (wpAny_callSpecialIfBoundUnlessNone?_slot hT slot_bool_hash
    (wpAny_call_entry slot_bool_hash hT entry_int_hash
      (show wpAny _ _ (do ret (← mkInt 1)) _ _ s from wpAny_ret_mkInt ?_) (args_int_hash _)))
  exact wpAny_pure h

theorem add_true0 {led : Bool} {Q : Value → Shared → Prop} (ho : s.heap.get? a = some (set0 led))
    (h : ∀ h', Heap.SameBut a s.heap h' → h'.get? a = some (set1 led) → Q .none { s with heap := h', toks := s.toks + 1 }) :
    wpAny (model prog w) A (call (.builtin "set.add") [.ref a, .bool true]) Q E s := by
  have hT : s.TypeIs (.ref a) "set" := ⟨_, ho, rfl⟩
  refine wpAny_call_entry F.slot_set_add hT F.entry_set_add ?_ (F.args_set_add_2 _ _)
  unfold Builtin.«set.add» Builtin.Frozenset.oneOther
  simp only [List.isEmpty_nil, bind_assoc]
  unfold Builtin.Frozenset.addrOf setAdd
  refine wpAny_bind (wpAny_pure ?_)
  try dsimp only
  refine wpAny_bind (wpAny_pure ?_)
  try dsimp only
  refine wpAny_bind ?_
  refine wpAny_holding ?_
  refine wpAny_bind (pyHash_true ?_)
  unfold setAddHashed setAddHashedIn
  refine wpAny_holding (wpAny_bind (wpAny_setState_of ho rfl (fresh_fits led) ?_))
  dsimp only
  rw [show byScan (.bool true) (#[] : Array (Int × Value)) = true from by decide +kernel]
  simp only [↓reduceIte]
  unfold setAddByScan
  refine wpAny_bind ?_
  refine wpAny_bind (wpAny_rule ?_)
  refine wpAny_bind (wpAny_pure ?_)
  dsimp only
  refine wpAny_bind (wpAny_pure ?_)
  rw [lay1]
  dsimp only
  refine wpAny_bind (wpAny_pure ?_)
  simp only [↓reduceIte]
  refine wpAny_bind (wpAny_storeSet_of ho rfl ?_ (by rw [sizeLine_eq]; decide))
  rw [tab1_full]
  simp only [Bool.and_false, Bool.false_eq_true, ↓reduceIte]
  refine wpAny_pure (wpAny_pure (wpAny_pure ⟨_, rfl, ?_⟩))
  refine h _ (Heap.SameBut.update ..) ?_
  have := Heap.get?_update_self (Obj.putSet #[(1, Value.bool true)] (tab1 led)) ho (by rw [putSet_of _ _ rfl]; rfl)
  rw [putSet_of _ _ rfl] at this
  exact this

theorem add_true1 {led : Bool} {Q : Value → Shared → Prop} (ho : s.heap.get? a = some (set1 led))
    (h : Q .none { s with toks := s.toks + 1 }) :
    wpAny (model prog w) A (call (.builtin "set.add") [.ref a, .bool true]) Q E s := by
  have hT : s.TypeIs (.ref a) "set" := ⟨_, ho, rfl⟩
  refine wpAny_call_entry F.slot_set_add hT F.entry_set_add ?_ (F.args_set_add_2 _ _)
  unfold Builtin.«set.add» Builtin.Frozenset.oneOther
  simp only [List.isEmpty_nil, bind_assoc]
  unfold Builtin.Frozenset.addrOf setAdd
  refine wpAny_bind (wpAny_pure ?_)
  try dsimp only
  refine wpAny_bind (wpAny_pure ?_)
  try dsimp only
  refine wpAny_bind ?_
  refine wpAny_holding ?_
  refine wpAny_bind (pyHash_true ?_)
  unfold setAddHashed setAddHashedIn
  refine wpAny_holding (wpAny_bind (wpAny_setState_of ho rfl (tab1_fits led) ?_))
  dsimp only
  rw [show byScan (.bool true) (#[(1, Value.bool true)] : Array (Int × Value)) = true from by decide +kernel]
  simp only [↓reduceIte]
  unfold setAddByScan
  refine wpAny_bind ?_
  refine wpAny_bind (wpAny_rule ?_)
  show wpAny _ _ (setScanFrom a (.bool true) 1 true [(1, .bool true)] 0 >>= _) _ _ _
  unfold setScanFrom
  simp only [beq_self_eq_true, if_true]
  refine wpAny_bind (wpAny_bind (wpAny_setEpoch_of (s := { s with toks := s.toks + 1 }) ho rfl (tab1_fits led) ?_))
  refine wpAny_bind (m := eqBool (.bool true) (.bool true)) ?_
  unfold eqBool
  simp only [beq_self_eq_true, if_true]
  refine wpAny_holding (wpAny_bind (wpAny_rule (wpAny_pure ?_)))
  simp only [Bool.and_self, if_true]
  exact wpAny_pure (wpAny_pure (wpAny_pure (wpAny_pure ⟨_, rfl, h⟩)))
end
end Mine
end SetR
/-! ## SetI -/
section SetI
open PySem PySem.W PyProof.Rows PySem.Calls
set_option Elab.async false
set_option maxRecDepth 100000
set_option maxHeartbeats 8000000
namespace Mine
def ledOf (w : World) : Bool := !(w.params.followText "set-order")
abbrev sit (first : Nat) (i : Nat) (D : Addr) : Obj := { cls := .type "set_iterator", dict := none, data := .fields #[rawInt first, rawInt i, .ref D, rawInt 1, rawInt 1], slots := #[] }
theorem below0 : ∀ led, SetTable.below (tab1 led).place 0 = 0 := by intro led; cases led <;> decide +kernel
theorem below2 : ∀ led, SetTable.below (tab1 led).place 2 = 1 := by intro led; cases led <;> decide +kernel
theorem place0 : ∀ led, (tab1 led).place[0]? = some 1 := by intro led; cases led <;> decide +kernel
theorem pick1 (f : Nat → Nat) (x : Int × Value) : pickOrder f #[x] = #[x] := by
  show pickOrder.go f 1 0 [x] #[] = #[x]
  unfold pickOrder.go
  simp only [List.length_singleton, Nat.mod_one, List.getElem?_cons_zero]
  unfold pickOrder.go
  rfl
section
variable {prog : Program} {w : World} {A : Around} {E : Value → Shared → Prop} {s : Shared} {D I : Addr}
theorem newSet_led {Q : Value → Shared → Prop} (h : Q (.ref s.heap.objs.size) { s with heap := s.heap.push (set0 (ledOf w)) }) :
    wpAny (model prog w) A (newSet (.type "set")) Q E s := by
  unfold newSet setsByText
  refine wpAny_bind (wpAny_bind (wpAny_askSetting (wpAny_pure ?_)))
  dsimp only
  simp only [newObj]
  exact wpAny_bind (wpAny_alloc (wpAny_pure h))
theorem setNext_0 {Q : Option (Value × Nat) → Shared → Prop} (ho : s.heap.get? D = some (set1 (ledOf w))) (h : Q (some (.bool true, if ledOf w then 2 else 0)) s) :
    wpAny (model prog w) A (setNext D 0 0 1) Q E s := by
  unfold setNext
  refine wpAny_bind (wpAny_setState_of ho rfl (tab1_fits _) ?_)
  dsimp only
  unfold setsByText
  refine wpAny_bind (wpAny_bind (wpAny_askSetting (wpAny_pure ?_)))
  show wpAny _ _ (if w.params.followText "set-order" = true then _ else _) _ _ _
  cases hb : w.params.followText "set-order" with
  | true =>
    have hl : ledOf w = false := by unfold ledOf; rw [hb]; rfl
    rw [hl] at ho h
    simp only [if_true, bne_self_eq_false, Bool.false_eq_true, if_false]
    unfold setWalk
    refine wpAny_bind (wpAny_bind (wpAny_setState_of ho rfl (tab1_fits _) ?_))
    dsimp only
    unfold setsByText
    refine wpAny_bind (wpAny_bind (wpAny_askSetting (wpAny_pure ?_)))
    show wpAny _ _ (if w.params.followText "set-order" = true then _ else _) _ _ _
    rw [hb]
    simp only [if_true]
    refine wpAny_bind (wpAny_askSetting (wpAny_pure ?_))
    rw [pick1]
    exact wpAny_pure h
  | false =>
    have hl : ledOf w = true := by unfold ledOf; rw [hb]; rfl
    rw [hl] at ho h
    rw [hl]
    simp only [Bool.false_eq_true, if_false]
    split
    · rename_i hc
      exact absurd hc (by decide +kernel)
    · refine wpAny_bind (wpAny_of_eq (a := ()) (by kernel_rfl) ?_)
      rw [below0, place0]
      exact wpAny_pure h
theorem setNext_1 {Q : Option (Value × Nat) → Shared → Prop} (ho : s.heap.get? D = some (set1 (ledOf w))) (h : Q none s) :
    wpAny (model prog w) A (setNext D (if ledOf w then 2 else 0) 1 1) Q E s := by
  unfold setNext
  refine wpAny_bind (wpAny_setState_of ho rfl (tab1_fits _) ?_)
  dsimp only
  unfold setsByText
  refine wpAny_bind (wpAny_bind (wpAny_askSetting (wpAny_pure ?_)))
  show wpAny _ _ (if w.params.followText "set-order" = true then _ else _) _ _ _
  cases hb : w.params.followText "set-order" with
  | true =>
    have hl : ledOf w = false := by unfold ledOf; rw [hb]; rfl
    rw [hl] at ho
    simp only [if_true, bne_self_eq_false, Bool.false_eq_true, if_false]
    unfold setWalk
    refine wpAny_bind (wpAny_bind (wpAny_setState_of ho rfl (tab1_fits _) ?_))
    dsimp only
    unfold setsByText
    refine wpAny_bind (wpAny_bind (wpAny_askSetting (wpAny_pure ?_)))
    show wpAny _ _ (if w.params.followText "set-order" = true then _ else _) _ _ _
    rw [hb]
    simp only [if_true]
    refine wpAny_bind (wpAny_askSetting (wpAny_pure ?_))
    rw [pick1]
    exact wpAny_pure h
  | false =>
    have hl : ledOf w = true := by unfold ledOf; rw [hb]; rfl
    rw [hl] at ho
    rw [hl]
    simp only [Bool.false_eq_true, if_false, if_true]
    split
    · rename_i hc
      exact absurd hc (by decide +kernel)
    · refine wpAny_bind (wpAny_of_eq (a := ()) (by kernel_rfl) ?_)
      rw [below2]
      exact wpAny_pure h
theorem pyIter_set1 {Q : Value → Shared → Prop} (ho : s.heap.get? D = some (set1 (ledOf w)))
    (hQ : Q (.ref s.heap.objs.size) { s with heap := s.heap.push (sit 0 0 D) }) : wpAny (model prog w) A (pyIter (.ref D)) Q E s := by
  have hT : s.TypeIs (.ref D) "set" := ⟨_, ho, rfl⟩
  refine wpAny_pyIter_slot hT F.slot_set_iter (wpAny_call_entry F.slot_set_iter hT entry_set_iter ?_ (F.args_set_iter_1 _))
  unfold Builtin.«frozenset.__iter__» Builtin.Frozenset.slot0
  refine wpAny_bind (wpAny_bind (wpAny_pure ?_))
  refine wpAny_pure ?_
  unfold Builtin.Frozenset.sizeOf
  refine wpAny_bind (wpAny_bind (wpAny_setEntries_of ho rfl (tab1_fits _) (wpAny_pure ?_)))
  unfold setDrawn
  refine wpAny_bind (wpAny_bind (wpAny_setState_of ho rfl (tab1_fits _) ?_))
  dsimp only
  unfold setsByText
  refine wpAny_bind (wpAny_bind (wpAny_askSetting (wpAny_pure ?_)))
  refine wpAny_pure ?_
  split
  · rename_i hc
    rw [Bool.and_eq_true] at hc
    exact absurd hc.2 (by cases ledOf w <;> decide +kernel)
  · refine wpAny_bind (wpAny_pure ?_)
    refine wpAny_bind (wpAny_setEpoch_of ho rfl (tab1_fits _) ?_)
    exact wpAny_bind (wpAny_newObj_type (wpAny_pure ⟨_, rfl, "set_iterator", _, ⟨_, Heap.get?_push_size _ rfl, rfl⟩, slot_setit_next.lookup, hQ⟩))
theorem next_set_item {Q : Option Value → Shared → Prop} (ho : s.heap.get? D = some (set1 (ledOf w))) (hI : s.heap.get? I = some (sit 0 0 D))
    (hQ : ∀ h', Heap.SameBut I s.heap h' → h'.get? I = some (sit (if ledOf w then 2 else 0) 1 D) → Q (some (.bool true)) { s with heap := h' }) : wpAny (model prog w) A (pyNext (.ref I)) Q E s := by
  have hT : s.TypeIs (.ref I) "set_iterator" := ⟨_, hI, rfl⟩
  unfold pyNext
  refine wpAny_bind (wpAny_attempt (wpAny_callSpecial?_slot (name := Str.ofString "__next__") hT slot_setit_next
    (wpAny_call_entry slot_setit_next hT entry_setit_next ?_ (args_setit_next_1 _))))
  unfold Builtin.«set_iterator.__next__»
  refine wpAny_bind (wpAny_pure ?_)
  refine wpAny_bind (wpAny_fieldsOf hI rfl ?_)
  simp only [rawInt]
  refine wpAny_bind (wpAny_setEntries_of ho rfl (tab1_fits _) ?_)
  rw [if_neg (by decide)]
  refine wpAny_bind (setNext_0 ho ?_)
  dsimp only
  refine wpAny_bind (wpAny_setField_rec hI (by simp) fun h₁ hI₁ hs₁ => ?_)
  refine wpAny_bind (wpAny_setField_rec (s := { s with heap := h₁ }) hI₁ (by simp) fun h₂ hI₂ hs₂ => ?_)
  refine wpAny_pure ⟨_, rfl, wpAny_pure (hQ h₂ (hs₁.trans hs₂) hI₂)⟩
theorem next_set_end {Q : Option Value → Shared → Prop} (hh : A.handled = none) (ho : s.heap.get? D = some (set1 (ledOf w))) (hI : s.heap.get? I = some (sit (if ledOf w then 2 else 0) 1 D))
    (hQ : ∀ h', Heap.ExtBut I s.heap h' → Q none { s with heap := h' }) : wpAny (model prog w) A (pyNext (.ref I)) Q E s := by
  have hT : s.TypeIs (.ref I) "set_iterator" := ⟨_, hI, rfl⟩
  unfold pyNext
  refine wpAny_bind (wpAny_attempt (wpAny_callSpecial?_slot (name := Str.ofString "__next__") hT slot_setit_next
    (wpAny_call_entry slot_setit_next hT entry_setit_next ?_ (args_setit_next_1 _))))
  unfold Builtin.«set_iterator.__next__»
  refine wpAny_bind (wpAny_pure ?_)
  refine wpAny_bind (wpAny_fieldsOf hI rfl ?_)
  simp only [rawInt]
  refine wpAny_bind (wpAny_setEntries_of ho rfl (tab1_fits _) ?_)
  rw [if_neg (by decide)]
  refine wpAny_bind (setNext_1 ho ?_)
  dsimp only
  refine wpAny_bind (wpAny_setField_rec hI (by simp) fun h₁ hI₁ hs₁ => ?_)
  show wpAny _ _ (newExc (.type "StopIteration") [] >>= _) _ _ _
  refine wpAny_bind ?_
  simp only [newExc, newTuple]
  refine wpAny_bind (wpAny_newObj_type ?_ (by size_fits))
  refine wpAny_bind (m := firstArgMember _ _) (wpAny_of_eq (a := Value.none) (by first | rfl | (simp only [firstArgMember]; rfl)) ?_)
  refine wpAny_newObj_type ?_ (by size_fits)
  simp only [raiseNew]
  refine wpAny_bind (wpAny_handled ?_)
  first | rw [show A.in1.handled = none from hh] | rw [hh]
  refine wpAny_bind (wpAny_pure (wpAny_throw ?_))
  refine wpAny_bind (wpAny_isInstance (T := "StopIteration") (b := true) ⟨_, Heap.get?_push_size _ rfl, rfl⟩ isSubtype_stop ?_)
  exact wpAny_pure (hQ _ ((hs₁.extBut.push _).push _))
theorem unpack_set1 {Q : List Value → Shared → Prop} (hh : A.handled = none) (ho : s.heap.get? D = some (set1 (ledOf w)))
    (hQ : ∀ h', Heap.ExtBut s.heap.objs.size s.heap h' → Q [.bool true] { s with heap := h' }) : wpAny (model prog w) A (unpackItems (.ref D) 1 none) Q E s := by
  have hT : s.TypeIs (.ref D) "set" := ⟨_, ho, rfl⟩
  have hlt : D ≠ s.heap.objs.size := Nat.ne_of_lt (Heap.lt_size ho)
  unfold unpackItems
  refine wpAny_bind ?_
  unfold notIterableAtAll
  refine wpAny_bind (wpAny_specialOf hT F.slot_set_iter.lookup ?_)
  refine wpAny_pure ?_
  simp only [Bool.false_eq_true, if_false]
  refine wpAny_bind (wpAny_holding (pyIter_set1 ho ?_))
  refine wpAny_bind (wpAny_holding ?_)
  show wpAny _ _ (pyNext (.ref s.heap.objs.size) >>= _) _ _ _
  refine wpAny_bind (next_set_item (s := { s with heap := _ }) (Heap.get?_push_of_some _ ho) (Heap.get?_push_size _ rfl) fun h₁ hs₁ hI₁ => ?_)
  refine wpAny_bind (wpAny_holding (wpAny_pure (wpAny_pure ?_)))
  rw [if_neg (by decide)]
  refine wpAny_bind (wpAny_holding (next_set_end (s := { s with heap := h₁ }) hh (hs₁.extBut _ _ hlt (Heap.get?_push_of_some _ ho)) hI₁ fun h₂ he₂ => ?_))
  simp only [Option.isSome_none, Bool.false_eq_true, if_false]
  exact wpAny_pure (hQ h₂ fun b o hb e => he₂ b o hb (hs₁.extBut b o hb (Heap.get?_push_of_some _ e)))
theorem assign_set1 {env : Env} {e : Expr} {x1} {pos : Pos} {Q : Unit → Shared → Prop} (hh : A.handled = none) (ho : s.heap.get? D = some (set1 (ledOf w)))
    (hn : (assignEach [e] env).length = 1) (hstar : (assignEach [e] env).findIdx? (·.1) = none)
    (h : ∀ h', Heap.ExtBut s.heap.objs.size s.heap h' → wpAny (model prog w) A (assignInOrder ((assignEach [e] env).map (·.2)) [.bool true]) Q E { s with heap := h' }) :
    wpAny (model prog w) A (assign (.Tuple [e] x1 pos) env (.ref D)) Q E s := by
  rw [assign_Tuple]
  refine wpAny_bind (wpAny_standAt ?_)
  unfold unpack
  rw [hn, hstar]
  exact wpAny_bind (wpAny_holding (unpack_set1 hh ho h))
end
end Mine
end SetI
/-! ## Comp -/
section Comp
open PySem PySem.W PyProof.Rows PySem.Calls PyProof.Rows.LCg
set_option Elab.async false
set_option maxRecDepth 100000
set_option maxHeartbeats 8000000
namespace Mine
def TupAt (ax : Addr) (its : Array Value) (news : List (Addr × Obj)) : Prop := False ∨ ∃ o, (ax, o) ∈ news ∧ o.cls = .type "tuple" ∧ ∃ n, o.data = .seq its n
theorem TupAt.tup {h₀ h : Heap} {L ax : Addr} {its : Array Value} {news : List (Addr × Obj)} (x : TupAt ax its news) (N : News h₀ L h news) : h.IsTuple ax its := by
  rcases x with h | ⟨o, hm, r⟩
  · exact h.elim
  · exact ⟨o, (N _ hm).1, r⟩
section
variable {prog : Program} {w : World} {A : Around} {E : Value → Shared → Prop} {R : Result → Shared → Prop} {s : Shared} {h₀ : Heap} {L : Addr} {m : Str → Option Value} {env : Env}
theorem tup_st {ax I : Addr} {its : Array Value} : ∀ i (h h' : Heap) (o : Obj) (nw : List (Addr × Obj)), (h.IsTupleIter I ax i ∧ h.IsTuple ax its) → h.get? I = some o → h'.get? I = some o → (∀ b o, h₀.get? b = some o → h'.get? b = some o) → News h₀ L h' nw → TupAt ax its nw → (h'.IsTupleIter I ax i ∧ h'.IsTuple ax its) :=
  fun i h h' o nw st e e' k N S => ⟨by obtain ⟨o', q, r⟩ := st.1; rw [e] at q; cases q; exact ⟨o, e', r⟩, S.tup N⟩

def SrcTup (prog : Program) (w : World) (A : Around) (h₀ : Heap) (L : Addr) (m : Str → Option Value) (env : Env) (elt : Expr) (x : Str) (scope : Scope) (cl : List (Str × Addr)) (Fin : Shared → List Value → List (Addr × Obj) → Prop) (xv : Value) (s₁ : Shared) : Prop :=
  ∃ ax its news, xv = .ref ax ∧ A.handled = none ∧ Fr h₀ L s₁.heap m ∧ News h₀ L s₁.heap news ∧ TupAt ax its news ∧ its.size ≤ sizeLine ∧
    ∀ s₂ : Shared, (∃ h, s₂ = { s₁ with heap := h }) → CompRest prog w A h₀ L m env elt x scope cl s₂ (TupAt ax its) (fun i v => its[i]? = some v) (Fin s₂) its.size 0 [] news
theorem SrcTup.ledger {elt : Expr} {x : Str} {scope : Scope} {cl : List (Str × Addr)} {Fin : Shared → List Value → List (Addr × Obj) → Prop} {ax : Addr} {its : Array Value} {k : Nat} {news : List (Addr × Obj)} {s₁ : Shared}
    (hh : A.handled = none) (F : Fr h₀ L s₁.heap m) (N : News h₀ L s₁.heap news) (hm : (ax, ({ cls := .type "tuple", data := .seq its k } : Obj)) ∈ news) (hsz : its.size ≤ sizeLine)
    (h : ∀ g, CompRest prog w A h₀ L m env elt x scope cl { s₁ with heap := g } (TupAt ax its) (fun i v => its[i]? = some v) (Fin { s₁ with heap := g }) its.size 0 [] news) :
    SrcTup prog w A h₀ L m env elt x scope cl Fin (.ref ax) s₁ := ⟨ax, its, news, rfl, hh, F, N, .inr ⟨_, hm, rfl, _, rfl⟩, hsz, fun _ ⟨g, e⟩ => e ▸ h g⟩

theorem Assign_ListComp_tup {elt iter : Expr} {x y : Str} {px py : Pos} {scope : Scope} {cl : List (Str × Addr)} {pos spos : Pos} {Q : Flow → Shared → Prop} (_F₀ : Fr h₀ L s.heap m) (hLe : env.locals = L)
    (hsw : swapsWith (.ListComp elt [⟨.Name x px, iter, [], 0⟩] scope pos) (some (.Name y py)) spos.line env = pure true)
    (hclos : closureFor scope env = pure cl) (hcell : ∀ z ∈ scope.names, z.2 ≠ .cell) (hkind : scope.kind = .function)
    (hnames : ∀ z ∈ scope.names, z.2 = .local → scope.names.lookup z.1 = some .local) (hx : scope.names.lookup x = some .local)
    (hy : env.kindOf y = some .local) (hp : (env.scope.kind == .class || (env.scope.kind == .module && env.locals != env.globals)) = false)
    (h : wpAny (model prog w) A (eval iter env) (SrcTup prog w A h₀ L m env elt x scope cl (fun s₂ => FinA h₀ L m s₂ y Q)) E s)
    (hs : ∀ x, foldedSetIterable iter env x = pure x := by intro _; rfl) :
    wpAny (model prog w) A (exec (.Assign [.Name y py] (.ListComp elt [⟨.Name x px, iter, [], 0⟩] scope pos) spos) env) Q E s := by
  subst hLe
  rw [exec_Assign_Name_used _ _ _ _ hsw]
  refine wpAny_bind (wpAny_standAt (wpAny_bind ?_))
  show wpAny _ A (do let _ ← comprehension (.ListComp elt [⟨.Name x px, iter, [], 0⟩] scope pos) scope env _ (newList []) false (eval iter env) (some (assign (.Name y py) env))) _ _ s
  refine wpAny_bind (wpAny_mono (wpAny_comprehension_free (use := some (assign (.Name y py) env)) (Q := fun _ s' => Q .next s') rfl hs hclos hkind hnames
    (wpAny_mono h (fun xv s₁ h₁ => ?_) fun _ _ e => e)) (fun _ s' hq => wpAny_pure (wpAny_pure hq)) fun _ _ e => e)
  obtain ⟨ax, its, news, rfl, hh, F, N, S, hsz, R⟩ := h₁
  have hl := S.tup N
  have hlt : ax < s₁.heap.objs.size := by obtain ⟨_, e, _⟩ := hl; exact Heap.lt_size e
  refine wpAny_pyIter_tuple hl ?_
  have up : ∀ b o, s₁.heap.get? b = some o → (s₁.heap.push { cls := .type "tuple_iterator", data := .fields #[.ref ax, .int 0 0] }).get? b = some o := fun b o e => Heap.get?_push_of_some _ e
  refine block_U (Walks.tuple hh s₁.heap.objs.size ax (Nat.ne_of_lt hlt) its) hsz (fun i h st => by obtain ⟨o, e, _⟩ := st.1; exact ⟨o, e⟩) tup_st hcell hkind hx ⟨⟨_, Heap.get?_push_size _ rfl, rfl, rfl⟩, hl.push _⟩ (fun b hb => ?_)
    (F.keeps up) (N.grown up) (Nat.ne_of_lt F.ns.lt) (next_is_new F) (fun p hp => Nat.ne_of_lt (Heap.lt_size (N p hp).1)) S (R _ ⟨_, rfl⟩) ?_
  · show b < (s₁.heap.push _).objs.size
    rw [Heap.size_push]
    rcases List.mem_cons.mp hb with rfl | hb
    · exact Nat.lt_succ_self _
    · rw [List.mem_singleton.mp hb]; exact Nat.lt_succ_of_lt hlt
  · intro D C h' tk m' ys news' F' N' o1 hn hC₀ hD₀ hCL hDL hCD offC fin
    show wpAny _ A (assign (.Name y py) env (.ref D)) _ _ _
    refine wpAny_assign_Name (wpAny_storeName_local hy F'.ns (fun h₂ hn₂ hs₂ => ?_) hp)
    have hL₀ : h₀.get? env.locals = none := Heap.get?_none_of_le F'.above
    have F₂ : Fr h₀ env.locals h₂ (fun z => if z = y then some (.ref D) else m z) := ⟨hn₂, fun b o e => hs₂.extBut b o (fun q => by rw [q, hL₀] at e; cases e) (F'.keep b o e), F'.above⟩
    refine ⟨m', hn.sameBut hs₂ hCL, fun h'' hs'' => fin D h'' _ (F₂.change hs'' hCL hC₀) (fun p hp => ?_) o1⟩
    have z : h₂.get? p.1 = some p.2 := hs₂.extBut _ _ (N' p hp).2.1 (N' p hp).1
    refine ⟨hs''.extBut _ _ ?_ z, (N' p hp).2⟩
    rcases List.mem_cons.mp hp with rfl | hp
    · exact Ne.symm hCD
    · exact offC p hp

theorem compTurn_set (elt target iter : Expr) (scope : Scope) (pos : Pos) (it acc : Value) (env : Env) :
    compTurn (.SetComp elt [⟨target, iter, [], 0⟩] scope pos) 0 it acc env = (do
      standAt iter.pos
      match ← pyNext it with
      | none => pure (.done .next)
      | some v =>
        letOwnedTupleGo target it v
        assign target env v
        (do let v ← eval elt env; standAt elt.pos; let _ ← call (.builtin "set.add") [acc, v])
        again (.compLoop (.SetComp elt [⟨target, iter, [], 0⟩] scope pos) 0 it acc env)) := by rfl

theorem codeAny_compLoop_set {elt target iter : Expr} {scope : Scope} {pos : Pos} {it acc : Value} {env : Env} (I : Nat → Shared → Prop)
    (turn : ∀ n s, I n s → wpAny (model prog w) A (pyNext it) (fun r s₁ => match r with
      | none => R (.ok .next) s₁
      | some v => wpAny (model prog w) A (assign target env v) (fun _ s₂ =>
            wpAny (model prog w) A (eval elt env) (fun x s₄ =>
              wpAny (model prog w) A (call (.builtin "set.add") [acc, x]) (fun _ s₅ => ∃ m, m < n ∧ I m s₅) (notedBy (model prog w) A env fun e s' => R (.error e) s') s₄) (notedBy (model prog w) A env fun e s' => R (.error e) s') s₂) (notedBy (model prog w) A env fun e s' => R (.error e) s') s₁) (notedBy (model prog w) A env fun e s' => R (.error e) s') s)
    (n : Nat) (h : I n s) (ht : ∀ v, letOwnedTupleGo target it v = pure () := by intro _; rfl) :
    codeAny (model prog w) A (.compLoop (.SetComp elt [⟨target, iter, [], 0⟩] scope pos) 0 it acc env) R s := by
  refine codeAny_loop rfl I (fun n s hI => ?_) n h
  show wpAny _ A ((compTurn (.SetComp elt [⟨target, iter, [], 0⟩] scope pos) 0 it acc env).onRaise (fun x => do noteFrame x env; theTreesLotGoes x)) _ _ s
  refine wpAny_noted ?_
  rw [compTurn_set]
  refine wpAny_bind (wpAny_standAt (wpAny_bind (wpAny_mono (turn n s hI) (fun r s₁ h₁ => ?_) fun _ _ h' => h')))
  cases r with
  | none => exact wpAny_pure h₁
  | some v =>
    refine wpAny_bind (wpAny_of_eq (ht v) ?_)
    exact wpAny_bind (wpAny_mono h₁ (fun _ s₂ h₂ => wpAny_bind (wpAny_bind (wpAny_mono h₂ (fun x s₄ h₄ => wpAny_bind (wpAny_standAt (wpAny_bind (wpAny_mono h₄ (fun _ s₅ h₅ => wpAny_pure (wpAny_pure ⟨rfl, h₅⟩)) fun _ _ h' => h')))) fun _ _ h' => h'))) fun _ _ h' => h')

theorem codeAny_compStart_set {elt target iter ifs rest scope pos it acc env}
    (h0 : codeAny (model prog w) A (.compLoop (.SetComp elt (⟨target, iter, ifs, 0⟩ :: rest) scope pos) 0 it acc env) R s)
    (h : wpAny (model prog w) A (pyIter it) (fun it' s' => codeAny (model prog w) A (.compLoop (.SetComp elt (⟨target, iter, ifs, 0⟩ :: rest) scope pos) 0 it' acc env) R s')
      (notedBy (model prog w) A env fun x s' => R (.error x) s') s) :
    codeAny (model prog w) A (.compStart (.SetComp elt (⟨target, iter, ifs, 0⟩ :: rest) scope pos) 0 it acc env) R s := by
  refine codeAny_of_tree ?_
  show wpAny _ _ ((compStart (.SetComp elt (⟨target, iter, ifs, 0⟩ :: rest) scope pos) 0 it acc env).onRaise (fun x => do noteFrame x env; standAt theWindowsPlace)) _ _ s
  refine wpAny_notedAt ?_
  unfold compStart
  show wpAny _ _ (ask >>= _) _ _ s
  refine wpAny_bind (wpAny_askSetting (wpAny_ite ?_))
  split
  · first
      | exact wpAny_bind (wpAny_pure (wpAny_pure (And.intro rfl h0)))
      | exact wpAny_pure (And.intro rfl h0)
  · first
      | exact wpAny_bind (wpAny_rule (wpAny_bind (wpAny_standAt (wpAny_bind (wpAny_mono h (fun it' s' h' => wpAny_pure (And.intro rfl h')) fun _ _ x => x)))))
      | (refine wpAny_bind (wpAny_rule ?_); show wpAny _ _ (standAt iter.pos >>= _) _ _ s; exact wpAny_bind (wpAny_standAt (wpAny_bind (wpAny_mono h (fun it' s' h' => wpAny_pure (And.intro rfl h')) fun _ _ x => x))))
end
end Mine
end Comp
/-! ## CompS -/
section CompS
open PySem PySem.W PyProof.Rows PySem.Calls PyProof.Rows.LCg
set_option Elab.async false
set_option maxRecDepth 100000
set_option maxHeartbeats 8000000
namespace Mine
def CompRestS (prog : Program) (w : World) (A : Around) (h₀ : Heap) (L : Addr) (m : Str → Option Value) (env : Env) (elt : Expr) (x : Str) (scope : Scope) (cl : List (Str × Addr)) (s : Shared) (S : List (Addr × Obj) → Prop) (P : Nat → Value → Prop)
    (Fin : List (Addr × Obj) → Prop) : Nat → Nat → List (Addr × Obj) → Prop
  | 0, _, news => Fin news
  | k + 1, i, news => ∀ v I oI C oC D oD m₂ h tk (E' : Value → Shared → Prop), P i v → NsObj oC m₂ → m₂ x = some v → Fr h₀ L h m → News h₀ L h ((I, oI) :: (C, oC) :: (D, oD) :: news) → Off3 I C D news → ((@Ne Nat I C) ∧ (@Ne Nat I D) ∧ (@Ne Nat C D)) →
      wpAny (model prog w) A (eval elt (compEnvC scope cl C env)) (CompEnd h₀ L m { s with heap := h, toks := tk } I oI C oC D oD S (fun y news' => y = .bool true ∧ CompRestS prog w A h₀ L m env elt x scope cl s S P Fin k (i + 1) news')) E' { s with heap := h, toks := tk }
section
variable {prog : Program} {w : World} {A : Around} {E : Value → Shared → Prop} {R : Result → Shared → Prop} {s : Shared} {h₀ : Heap} {L : Addr} {m : Str → Option Value} {env : Env}
abbrev setAt (w : World) (i : Nat) : Obj := if i = 0 then set0 (ledOf w) else set1 (ledOf w)
theorem add_trueI {i : Nat} {a : Addr} {Q : Value → Shared → Prop} (ho : s.heap.get? a = some (setAt w i))
    (h : ∀ h', Heap.SameBut a s.heap h' → h'.get? a = some (setAt w (i + 1)) → Q .none { s with heap := h', toks := s.toks + 1 }) :
    wpAny (model prog w) A (call (.builtin "set.add") [.ref a, .bool true]) Q E s := by
  unfold setAt at *
  rw [if_neg (Nat.succ_ne_zero i)] at h
  by_cases hi : i = 0
  · rw [if_pos hi] at ho
    exact add_true0 ho h
  · rw [if_neg hi] at ho
    exact add_true1 ho (h s.heap (Heap.SameBut.refl _ _) ho)

theorem block_S {elt iter : Expr} {x : Str} {px : Pos} {scope : Scope} {cl : List (Str × Addr)} {pos : Pos} {s₂ : Shared} {I : Addr} {fp : List Addr} {n : Nat} {P : Nat → Value → Prop} {St : Nat → Heap → Prop} {S : List (Addr × Obj) → Prop} {news : List (Addr × Obj)}
    {Fin : List (Addr × Obj) → Prop} {RR : Value → Addr → Result → Shared → Prop}
    (W : Walks prog w A I fp [I] n P St) (hIo : ∀ i h, St i h → ∃ o, h.get? I = some o)
    (hSt : ∀ i h h' o nw, St i h → h.get? I = some o → h'.get? I = some o → (∀ b o, h₀.get? b = some o → h'.get? b = some o) → News h₀ L h' nw → S nw → St i h')
    (hcell : ∀ y ∈ scope.names, y.2 ≠ .cell) (hkind : scope.kind = .function) (hx : scope.names.lookup x = some .local) (hst : St 0 s₂.heap) (hfp : ∀ b ∈ fp, b < s₂.heap.objs.size)
    (F : Fr h₀ L s₂.heap m) (N : News h₀ L s₂.heap news) (hIL : L ≠ I) (hI₀ : h₀.get? I = none) (off : ∀ p ∈ news, p.1 ≠ I) (hS : S news)
    (R : CompRestS prog w A h₀ L m env elt x scope cl s₂ S P Fin n 0 news)
    (hRR : ∀ D C h tk m' news', Fr h₀ L h m → News h₀ L h ((D, setAt w n) :: news') → Off1 D news' → h.Ns C m' → h₀.get? C = none → h₀.get? D = none → C ≠ L → D ≠ L → C ≠ D → (∀ p ∈ news', p.1 ≠ C) → Fin news' → RR (.ref D) C (.ok .next) { s₂ with heap := h, toks := tk }) :
    wpAny (model prog w) A (newSet (.type "set")) (fun acc s₃ => wpAny (model prog w) A (newFunctionEnv scope env.globals cl [] env.qual none .none (some env)) (fun cenv s₄ =>
      codeAny (model prog w) A (.compStart (.SetComp elt [⟨.Name x px, iter, [], 0⟩] scope pos) 0 (.ref I) acc { cenv with scope := relabel scope env }) (RR acc cenv.locals) s₄) E s₃) E s₂ := by
  refine newSet_led (wpAny_newFunctionEnv hcell (by intro y hy; simp at hy) (fun h₁ hns₁ hsb₁ => ?_) hkind)
  dsimp only at hns₁ hsb₁ ⊢
  generalize hH2 : s₂.heap.push (set0 (ledOf w)) = H2 at hns₁ hsb₁ ⊢
  have hC : H2.objs.size = s₂.heap.objs.size + 1 := by rw [← hH2, Heap.size_push]
  have hDC : s₂.heap.objs.size ≠ H2.objs.size := by rw [hC]; exact Nat.ne_of_lt (Nat.lt_succ_self _)
  have below : ∀ b, b < s₂.heap.objs.size → b ≠ H2.objs.size ∧ b ≠ s₂.heap.objs.size := fun b hb => ⟨by rw [hC]; exact Nat.ne_of_lt (Nat.lt_succ_of_lt hb), Nat.ne_of_lt hb⟩
  have hDf : s₂.heap.objs.size ∉ fp := fun hm => Nat.lt_irrefl _ (hfp _ hm)
  have hCf : H2.objs.size ∉ fp := fun hm => by have := hfp _ hm; rw [hC] at this; exact Nat.lt_irrefl _ (Nat.lt_of_succ_lt this)
  have hIf : I ∈ fp := W.sub I (List.mem_singleton.mpr rfl)
  have hIlt : I < s₂.heap.objs.size := hfp I hIf
  have old : ∀ b o, s₂.heap.get? b = some o → h₁.get? b = some o := fun b o e => hsb₁.extBut b o (below b (Heap.lt_size e)).1 (Heap.get?_push_of_some _ (hH2 ▸ Heap.get?_push_of_some _ e))
  have hacc : h₁.get? s₂.heap.objs.size = some (set0 (ledOf w)) := hsb₁.extBut _ _ hDC (Heap.get?_push_of_some _ (hH2 ▸ Heap.get?_push_size _ rfl))
  have hst₁ : St 0 h₁ := W.frame _ _ _ hst fun b _ o e => old b o e
  have fresh : ∀ a, s₂.heap.objs.size ≤ a → s₂.heap.get? a = none := fun a ha => by
    cases e : s₂.heap.get? a with
    | none => rfl
    | some o' => exact absurd (Heap.lt_size e) (Nat.not_lt.mpr ha)
  have fresh₀ : ∀ a, s₂.heap.objs.size ≤ a → h₀.get? a = none := fun a ha => by
    cases e : h₀.get? a with
    | none => rfl
    | some o' => have := F.keep a o' e; rw [fresh a ha] at this; cases this
  have hD₀ : h₀.get? s₂.heap.objs.size = none := fresh₀ _ (Nat.le_refl _)
  have hC₀ : h₀.get? H2.objs.size = none := fresh₀ _ (by rw [hC]; exact Nat.le_succ _)
  have hLlt : L < s₂.heap.objs.size := F.ns.lt
  have hDL : s₂.heap.objs.size ≠ L := Ne.symm (below L hLlt).2
  have hCL : H2.objs.size ≠ L := Ne.symm (below L hLlt).1
  have hCI : I ≠ H2.objs.size := (below I hIlt).1
  have hDI : I ≠ s₂.heap.objs.size := (below I hIlt).2
  have off₀ : Off3 I H2.objs.size s₂.heap.objs.size news := Off3.of fun p hp => ⟨off p hp, (below _ (Heap.lt_size (N p hp).1)).1, (below _ (Heap.lt_size (N p hp).1)).2⟩
  have loop : ∀ s₃ : Shared, s₃ = { s₂ with heap := h₁, toks := s₂.toks + ([] : List (Str × Value)).length } →
      codeAny (model prog w) A (.compLoop (.SetComp elt [⟨.Name x px, iter, [], 0⟩] scope pos) 0 (.ref I) (.ref s₂.heap.objs.size) (compEnvC scope cl H2.objs.size env))
        (RR (.ref s₂.heap.objs.size) H2.objs.size) s₃ := by
    rintro s₃ rfl
    refine codeAny_compLoop_set
      (fun k s' => ∃ h' tk i m' news', s' = { s₂ with heap := h', toks := tk } ∧ i ≤ n ∧ k = n + 1 - i ∧ St i h' ∧ Fr h₀ L h' m ∧ h'.Ns H2.objs.size m' ∧ News h₀ L h' ((s₂.heap.objs.size, setAt w i) :: news') ∧
        Off3 I H2.objs.size s₂.heap.objs.size news' ∧ S news' ∧ CompRestS prog w A h₀ L m env elt x scope cl s₂ S P Fin (n - i) i news') ?_ (n + 1)
      ⟨h₁, _, 0, _, news, rfl, Nat.zero_le _, rfl, hst₁, F.keeps old, hns₁, fun p hp => ?_, off₀, hS, R⟩
    · rintro k s' ⟨h', tk, i, m', news', rfl, hi, rfl, hst', F', hn', N', off', hS', R'⟩
      by_cases hlt : i < n
      · obtain ⟨j, hj⟩ : ∃ j, n - i = j + 1 := ⟨n - i - 1, by omega⟩
        rw [hj] at R'
        refine W.item i _ _ _ hlt hst' fun v h₂ tk₂ hPv hst₂ hk₂ => ?_
        refine wpAny_assign_Name (wpAny_storeName_local (lookup_relabel_local hx) (hn'.at' fun o e => hk₂ _ o (by simpa using Ne.symm hCI) e) (fun h₃ hn₃ hs₃ => ?_) (by simp [compEnvC, relabel, hkind]))
        have hst₃ : St (i + 1) h₃ := W.frame _ _ _ hst₂ fun b hb o e => hs₃.extBut b o (fun q => hCf (by have q' : b = H2.objs.size := q; rw [← q']; exact hb)) e
        obtain ⟨oI, heI⟩ := hIo _ _ hst₃
        obtain ⟨oC, heC, hoC⟩ := ns_obj hn₃
        have F₃ : Fr h₀ L h₃ m := (fr_but F' hk₂ hIL hI₀).change hs₃ hCL hC₀
        have off3 := off'.mem
        have N₂ : News h₀ L h₂ ((s₂.heap.objs.size, setAt w i) :: news') := news_but N' hk₂ fun p hp => by
          rcases List.mem_cons.mp hp with rfl | hp
          · exact Ne.symm hDI
          · exact (off3 p hp).1
        have N₃ : News h₀ L h₃ ((I, oI) :: (H2.objs.size, oC) :: (s₂.heap.objs.size, setAt w i) :: news') := fun p hp => by
          rcases List.mem_cons.mp hp with rfl | hp
          · exact ⟨heI, Ne.symm hIL, hI₀⟩
          · rcases List.mem_cons.mp hp with rfl | hp
            · exact ⟨heC, hCL, hC₀⟩
            · have z := N₂ p hp
              refine ⟨hs₃.extBut _ _ ?_ z.1, z.2⟩
              rcases List.mem_cons.mp hp with rfl | hp
              · exact hDC
              · exact (off3 p hp).2.1
        refine wpAny_mono (R' v I oI H2.objs.size oC s₂.heap.objs.size _ _ h₃ _ _ hPv hoC (by simp) F₃ N₃ off' ⟨hCI, hDI, Ne.symm hDC⟩) (fun y s₄ h₄ => ?_) fun _ _ e => e
        obtain ⟨h₄, tk₄, news₄, rfl, F₄, N₄, off₄, hS₄, rfl, R₄⟩ := h₄
        have zI := (N₄ (I, oI) List.mem_cons_self).1
        have zC := (N₄ (H2.objs.size, oC) (List.mem_cons_of_mem _ List.mem_cons_self)).1
        have zD := (N₄ (s₂.heap.objs.size, setAt w i) (List.mem_cons_of_mem _ (List.mem_cons_of_mem _ List.mem_cons_self))).1
        have N₄' : News h₀ L h₄ news₄ := fun p hp => N₄ p (List.mem_cons_of_mem _ (List.mem_cons_of_mem _ (List.mem_cons_of_mem _ hp)))
        have hst₄ : St (i + 1) h₄ := hSt _ _ _ _ _ hst₃ heI zI F₄.keep N₄' hS₄
        refine add_trueI zD fun h₅ hs₅ hD₅ => ?_
        have off4 := off₄.mem
        refine ⟨n + 1 - (i + 1), by omega, h₅, _, i + 1, _, news₄, rfl, hlt, rfl, W.frame _ _ _ hst₄ fun b hb o e => hs₅.extBut b o (fun q => hDf (q ▸ hb)) e, F₄.change hs₅ hDL hD₀,
          (hoC.ns zC).sameBut hs₅ (Ne.symm hDC), fun p hp => ?_, off₄, hS₄, ?_⟩
        · rcases List.mem_cons.mp hp with rfl | hp
          · exact ⟨hD₅, hDL, hD₀⟩
          · exact ⟨hs₅.extBut _ _ (off4 p hp).2.2 (N₄' p hp).1, (N₄' p hp).2⟩
        · rw [show n - (i + 1) = j by omega]
          exact R₄
      · obtain rfl : i = n := Nat.le_antisymm hi (Nat.not_lt.mp hlt)
        rw [Nat.sub_self] at R'
        refine W.done _ _ _ hst' fun h₂ tk₂ hk₂ => ?_
        have off3 := off'.mem
        exact hRR _ _ h₂ tk₂ _ news' (fr_but F' hk₂ hIL hI₀) (news_but N' hk₂ fun p hp => by
          rcases List.mem_cons.mp hp with rfl | hp
          · exact Ne.symm hDI
          · exact (off3 p hp).1) off'.one (hn'.at' fun o e => hk₂ _ o (by simpa using Ne.symm hCI) e) hC₀ hD₀ hCL hDL (Ne.symm hDC) (fun p hp => (off3 p hp).2.1) R'
    · rcases List.mem_cons.mp hp with rfl | hp
      · exact ⟨hacc, hDL, hD₀⟩
      · exact ⟨old _ _ (N p hp).1, (N p hp).2⟩
  exact codeAny_compStart_set (loop _ rfl) (W.self 0 _ _ _ hst₁ (loop _ rfl))

def FinS (w : World) (n : Nat) (h₀ : Heap) (L : Addr) (m : Str → Option Value) (s : Shared) (Q : Value → Shared → Prop) (news : List (Addr × Obj)) : Prop :=
  ∀ D h tk, Fr h₀ L h m → News h₀ L h ((D, setAt w n) :: news) → Off1 D news → Q (.ref D) { s with heap := h, toks := tk }
def SrcTupS (prog : Program) (w : World) (A : Around) (h₀ : Heap) (L : Addr) (m : Str → Option Value) (env : Env) (elt : Expr) (x : Str) (scope : Scope) (cl : List (Str × Addr)) (Q : Value → Shared → Prop) (xv : Value) (s₁ : Shared) : Prop :=
  ∃ ax its news, xv = .ref ax ∧ A.handled = none ∧ Fr h₀ L s₁.heap m ∧ News h₀ L s₁.heap news ∧ TupAt ax its news ∧
    ∀ s₂ : Shared, (∃ h, s₂ = { s₁ with heap := h }) → CompRestS prog w A h₀ L m env elt x scope cl s₂ (TupAt ax its) (fun i v => its[i]? = some v) (FinS w its.size h₀ L m s₂ Q) its.size 0 news
theorem SrcTupS.ledger {elt : Expr} {x : Str} {scope : Scope} {cl : List (Str × Addr)} {Q : Value → Shared → Prop} {ax : Addr} {its : Array Value} {k : Nat} {news : List (Addr × Obj)} {s₁ : Shared}
    (hh : A.handled = none) (F : Fr h₀ L s₁.heap m) (N : News h₀ L s₁.heap news) (hm : (ax, ({ cls := .type "tuple", data := .seq its k } : Obj)) ∈ news)
    (h : ∀ g, CompRestS prog w A h₀ L m env elt x scope cl { s₁ with heap := g } (TupAt ax its) (fun i v => its[i]? = some v) (FinS w its.size h₀ L m { s₁ with heap := g } Q) its.size 0 news) :
    SrcTupS prog w A h₀ L m env elt x scope cl Q (.ref ax) s₁ := ⟨ax, its, news, rfl, hh, F, N, .inr ⟨_, hm, rfl, _, rfl⟩, fun _ ⟨g, e⟩ => e ▸ h g⟩

theorem SetComp_tup {elt iter : Expr} {x : Str} {px : Pos} {scope : Scope} {cl : List (Str × Addr)} {pos : Pos} {Q : Value → Shared → Prop} (_F₀ : Fr h₀ L s.heap m)
    (hclos : closureFor scope env = pure cl) (hcell : ∀ z ∈ scope.names, z.2 ≠ .cell) (hkind : scope.kind = .function)
    (hnames : ∀ z ∈ scope.names, z.2 = .local → scope.names.lookup z.1 = some .local) (hx : scope.names.lookup x = some .local)
    (h : wpAny (model prog w) A (eval iter env) (SrcTupS prog w A h₀ L m env elt x scope cl Q) E s)
    (hs : ∀ x, foldedSetIterable iter env x = pure x := by intro _; rfl) :
    wpAny (model prog w) A (eval (.SetComp elt [⟨.Name x px, iter, [], 0⟩] scope pos) env) Q E s := by
  rw [show eval (.SetComp elt [⟨.Name x px, iter, [], 0⟩] scope pos) env = comprehension (.SetComp elt [⟨.Name x px, iter, [], 0⟩] scope pos) scope env (firstIterPos [⟨.Name x px, iter, [], 0⟩] pos) (newSet (.type "set")) false (eval iter env) from rfl]
  refine wpAny_comprehension_free (use := none) rfl hs hclos hkind hnames (wpAny_mono h (fun xv s₁ h₁ => ?_) fun _ _ e => e)
  obtain ⟨ax, its, news, rfl, hh, F, N, S, R⟩ := h₁
  have hl := S.tup N
  have hlt : ax < s₁.heap.objs.size := by obtain ⟨_, e, _⟩ := hl; exact Heap.lt_size e
  refine wpAny_pyIter_tuple hl ?_
  have up : ∀ b o, s₁.heap.get? b = some o → (s₁.heap.push { cls := .type "tuple_iterator", data := .fields #[.ref ax, .int 0 0] }).get? b = some o := fun b o e => Heap.get?_push_of_some _ e
  refine block_S (Walks.tuple hh s₁.heap.objs.size ax (Nat.ne_of_lt hlt) its) (fun i h st => by obtain ⟨o, e, _⟩ := st.1; exact ⟨o, e⟩) tup_st hcell hkind hx ⟨⟨_, Heap.get?_push_size _ rfl, rfl, rfl⟩, hl.push _⟩ (fun b hb => ?_)
    (F.keeps up) (N.grown up) (Nat.ne_of_lt F.ns.lt) (next_is_new F) (fun p hp => Nat.ne_of_lt (Heap.lt_size (N p hp).1)) S (R _ ⟨_, rfl⟩) ?_
  · show b < (s₁.heap.push _).objs.size
    rw [Heap.size_push]
    rcases List.mem_cons.mp hb with rfl | hb
    · exact Nat.lt_succ_self _
    · rw [List.mem_singleton.mp hb]; exact Nat.lt_succ_of_lt hlt
  · intro D C h tk m' news' F' N' o1 hn hC₀ hD₀ hCL hDL hCD offC fin
    refine ⟨m', hn, fun h'' hs'' => fin D h'' tk (F'.change hs'' hCL hC₀) (fun p hp => ?_) o1⟩
    refine ⟨hs''.extBut _ _ ?_ (N' p hp).1, (N' p hp).2⟩
    rcases List.mem_cons.mp hp with rfl | hp
    · exact Ne.symm hCD
    · exact offC p hp

/-- the assignment of the one element of such a set to a one-name tuple -/
theorem assign_setK {D : Addr} {x : Str} {px pos : Pos} {x1 : Nat} {news : List (Addr × Obj)} {Q : Unit → Shared → Prop} (hh : A.handled = none) (F : Fr h₀ L s.heap m) (N : News h₀ L s.heap news) (hm : (D, set1 (ledOf w)) ∈ news)
    (h : ∀ h', Fr h₀ L h' m → News h₀ L h' news → wpAny (model prog w) A (assign (.Name x px) env (.bool true)) Q E { s with heap := h' }) :
    wpAny (model prog w) A (assign (.Tuple [.Name x px] x1 pos) env (.ref D)) Q E s := by
  refine assign_set1 hh (N _ hm).1 rfl rfl fun h' he => ?_
  have k : ∀ b o, s.heap.get? b = some o → h'.get? b = some o := fun b o e => he b o (Nat.ne_of_lt (Heap.lt_size e)) e
  show wpAny _ _ (assignInOrder [assign (.Name x px) env] [.bool true]) _ _ _
  refine wpAny_bind (wpAny_holding (wpAny_mono (h h' (F.keeps k) (N.grown k)) (fun _ _ q => wpAny_pure q) fun _ _ e => e))
end
end Mine
namespace Mine
section
variable {prog : Program} {w : World} {A : Around} {s : Shared} {h₀ : Heap} {L : Addr} {m : Str → Option Value} {env : Env}
theorem compRestS_succ {elt : Expr} {x : Str} {scope : Scope} {cl : List (Str × Addr)} {S : List (Addr × Obj) → Prop} {P : Nat → Value → Prop} {Fin : List (Addr × Obj) → Prop} {k i : Nat} {news : List (Addr × Obj)}
    (h : ∀ v I oI C oC D oD m₂ h tk (E' : Value → Shared → Prop), P i v → NsObj oC m₂ → m₂ x = some v → Fr h₀ L h m → News h₀ L h ((I, oI) :: (C, oC) :: (D, oD) :: news) → Off3 I C D news → ((@Ne Nat I C) ∧ (@Ne Nat I D) ∧ (@Ne Nat C D)) →
      wpAny (model prog w) A (eval elt (compEnvC scope cl C env)) (CompEnd h₀ L m { s with heap := h, toks := tk } I oI C oC D oD S (fun y news' => y = .bool true ∧ CompRestS prog w A h₀ L m env elt x scope cl s S P Fin k (i + 1) news')) E' { s with heap := h, toks := tk }) :
    CompRestS prog w A h₀ L m env elt x scope cl s S P Fin (k + 1) i news := h
theorem compRestS_zero {elt : Expr} {x : Str} {scope : Scope} {cl : List (Str × Addr)} {S : List (Addr × Obj) → Prop} {P : Nat → Value → Prop} {Fin : List (Addr × Obj) → Prop} {i : Nat} {news : List (Addr × Obj)}
    (h : Fin news) : CompRestS prog w A h₀ L m env elt x scope cl s S P Fin 0 i news := h
end
end Mine
namespace Mine
theorem set_two {w : World} {h₀ h : Heap} {L D : Addr} {news : List (Addr × Obj)} {n : Nat} (N : News h₀ L h ((D, setAt w (n + 1)) :: news)) : News h₀ L h ((D, set1 (ledOf w)) :: news) := N
end Mine
end CompS
/-! ## LCmp -/
section LCmp
open PySem PySem.W PyProof.Rows PySem.Calls PySem.MeetsSeq
open PySem.AutoSeq1 (wpAny_loadPart')
set_option Elab.async false
set_option maxRecDepth 100000
set_option maxHeartbeats 8000000
namespace Mine
def szLt (g : Bool) (m n : Nat) : Bool := if g then decide (n < m) else decide (m < n)
def strLt (g : Bool) (x y : Str) : Bool := if g then decide (y.cps.toList < x.cps.toList) else decide (x.cps.toList < y.cps.toList)
/-- the order of two lists of texts; g: greater -/
def lexC (g : Bool) (m n : Nat) : List Str → List Str → Bool
  | x :: xs, y :: ys => if (x == y) = true then lexC g m n xs ys else strLt g x y
  | _, _ => szLt g m n
theorem cmp_loop (g : Bool) (l b : Addr) (xs ys : List Value) (us vs : List Str) (n n2 : Nat) (hx : StrsAre xs us) (hy : StrsAre ys vs) (k : Nat) :
    ∀ i : Nat, min xs.length ys.length - i = k → Meets (Builtin.«list.__eq__.loop» ⟨[.ref l, .ref b, rawInt i, rawInt (if g then 4 else 0)], []⟩)
      (fun _ R s => s.heap.get? l = some { cls := .type "list", dict := none, data := .seq xs.toArray n, slots := #[] } ∧ s.heap.get? b = some { cls := .type "list", dict := none, data := .seq ys.toArray n2, slots := #[] } ∧
        R (.ok (.ret (.bool (lexC g xs.length ys.length (us.drop i) (vs.drop i))))) s) := by
  have hlx := hx.len_eq
  have hly := hy.len_eq
  induction k with
  | zero =>
    intro i hk prog w A R s h
    obtain ⟨hp, gg, d, tk, os⟩ := s; obtain ⟨hl, hb, h⟩ := h
    have hd : lexC g xs.length ys.length (us.drop i) (vs.drop i) = szLt g xs.length ys.length := by
      rcases Nat.lt_or_ge i us.length with h1 | h1
      · rw [List.drop_eq_nil_of_le (show vs.length ≤ i by omega)]
        cases us.drop i <;> rfl
      · rw [List.drop_eq_nil_of_le h1]
        rfl
    rw [hd] at h
    have hi : ∀ (A₁ A₂ : Prop), (xs.toArray[((i : Nat) : Int).toNat]? = none → A₁) → (ys.toArray[((i : Nat) : Int).toNat]? = none → A₁) → A₁ := by
      intro A₁ _ h1 h2
      rcases Nat.lt_or_ge i xs.length with h3 | h3
      · exact h2 (by simp; omega)
      · exact h1 (by simp; omega)
    have e1 : xs.toArray.size = xs.length := by simp
    have e2 : ys.toArray.size = ys.length := by simp
    cases g with
    | true =>
      simp only [if_true]
      wp_walk using wpAny_loadPart' hl, wpAny_loadPart' hb
      have hn : ∀ (α : Type) (f : Value → Value → α) (z : α), (match (xs.toArray[((i : Nat) : Int).toNat]?, ys.toArray[((i : Nat) : Int).toNat]?) with | (some x, some y) => f x y | _ => z) = z := by
        intro α f z
        refine hi _ True (fun h1 => ?_) (fun h1 => ?_)
        · rw [h1]
        · rw [h1]; split <;> rename_i h2 <;> first | (cases h2; done) | rfl | (injection h2 with h3 h4; cases h4)
      refine hi _ True (fun h1 => ?_) (fun h1 => ?_)
      · rw [h1]
        wp_walk using wpAny_loadPart' hl, wpAny_loadPart' hb
        show R (.ok (.ret (.bool (decide (xs.toArray.size > ys.toArray.size))))) _
        rw [e1, e2]
        exact h
      · rw [h1]
        cases xs.toArray[((i : Nat) : Int).toNat]? <;> (
        wp_walk using wpAny_loadPart' hl, wpAny_loadPart' hb
        show R (.ok (.ret (.bool (decide (xs.toArray.size > ys.toArray.size))))) _
        rw [e1, e2]
        exact h)
    | false =>
      simp only [Bool.false_eq_true, if_false]
      wp_walk using wpAny_loadPart' hl, wpAny_loadPart' hb
      refine hi _ True (fun h1 => ?_) (fun h1 => ?_)
      · rw [h1]
        wp_walk using wpAny_loadPart' hl, wpAny_loadPart' hb
        show R (.ok (.ret (.bool (decide (xs.toArray.size < ys.toArray.size))))) _
        rw [e1, e2]
        exact h
      · rw [h1]
        cases xs.toArray[((i : Nat) : Int).toNat]? <;> (
        wp_walk using wpAny_loadPart' hl, wpAny_loadPart' hb
        show R (.ok (.ret (.bool (decide (xs.toArray.size < ys.toArray.size))))) _
        rw [e1, e2]
        exact h)
  | succ k ih =>
    intro i hk prog w A R s h
    have hlt : i < xs.length := by omega
    have hlt2 : i < ys.length := by omega
    obtain ⟨x, t, hx1, hx2⟩ := StrsAre.item hx i xs[i] (by simp [hlt])
    obtain ⟨y, u, hy1, hy2⟩ := StrsAre.item hy i ys[i] (by simp [hlt2])
    have hi1 : xs.toArray[((i : Nat) : Int).toNat]? = some (.str x t) := by simp [hlt, hx1]
    have hi2 : ys.toArray[((i : Nat) : Int).toNat]? = some (.str y u) := by simp [hlt2, hy1]
    have hd1 : us.drop i = x :: us.drop (i + 1) := by
      obtain ⟨h3, h4⟩ := List.getElem?_eq_some_iff.mp hx2
      rw [List.drop_eq_getElem_cons h3, h4]
    have hd2 : vs.drop i = y :: vs.drop (i + 1) := by
      obtain ⟨h3, h4⟩ := List.getElem?_eq_some_iff.mp hy2
      rw [List.drop_eq_getElem_cons h3, h4]
    have hc : ((i : Int) + 1) = ((i + 1 : Nat) : Int) := by push_cast; rfl
    obtain ⟨hp, gg, d, tk, os⟩ := s; obtain ⟨hl, hb, h⟩ := h
    rw [hd1, hd2] at h
    simp only [lexC] at h
    have ih' := ih (i + 1) (by omega)
    cases g with
    | true =>
      simp only [if_true] at ih' ⊢
      wp_walk using wpAny_loadPart' hl, wpAny_loadPart' hb
      rw [hi1, hi2]
      refine wpAny_bind (eqGives_str x y t u prog w _ _ _ _ ?_)
      cases hb' : x == y with
      | true =>
        rw [hb'] at h
        wp_walk
        rw [hc]
        exact ⟨plainId_quiet MeetsSeq3.plain_eq_loop _, codeAny_builtin MeetsSeq3.entry_eq_loop (by
          rw [Around.under_plainId MeetsSeq3.plain_eq_loop _]
          exact ih' prog w A R _ ⟨hl, hb, by simpa using h⟩)⟩
      | false =>
        rw [hb'] at h
        wp_walk using wpAny_loadPart' hl, wpAny_loadPart' hb
        rw [hi1, hi2]
        refine wpAny_bind (P.gt_str ?_)
        refine wpAny_pure ?_
        simp only [Bool.false_eq_true, if_false, strLt, if_true] at h
        exact h
    | false =>
      simp only [Bool.false_eq_true, if_false] at ih' ⊢
      wp_walk using wpAny_loadPart' hl, wpAny_loadPart' hb
      rw [hi1, hi2]
      refine wpAny_bind (eqGives_str x y t u prog w _ _ _ _ ?_)
      cases hb' : x == y with
      | true =>
        rw [hb'] at h
        wp_walk
        rw [hc]
        exact ⟨plainId_quiet MeetsSeq3.plain_eq_loop _, codeAny_builtin MeetsSeq3.entry_eq_loop (by
          rw [Around.under_plainId MeetsSeq3.plain_eq_loop _]
          exact ih' prog w A R _ ⟨hl, hb, by simpa using h⟩)⟩
      | false =>
        rw [hb'] at h
        wp_walk using wpAny_loadPart' hl, wpAny_loadPart' hb
        rw [hi1, hi2]
        refine wpAny_bind (lt_str ?_)
        refine wpAny_pure ?_
        simp only [Bool.false_eq_true, if_false, strLt] at h
        exact h
theorem list_lt_meets (l b : Addr) (xs ys : List Value) (us vs : List Str) (n n2 : Nat) (hx : StrsAre xs us) (hy : StrsAre ys vs) :
    Meets (Builtin.«list.__lt__» ⟨[.ref l, .ref b], []⟩)
      (fun _ R s => s.heap.get? l = some { cls := .type "list", dict := none, data := .seq xs.toArray n, slots := #[] } ∧ s.heap.get? b = some { cls := .type "list", dict := none, data := .seq ys.toArray n2, slots := #[] } ∧
        R (.ok (.ret (.bool (lexC false xs.length ys.length us vs)))) s) := by
  intro prog w A R s h
  obtain ⟨hp, g, d, tk, os⟩ := s; obtain ⟨hl, hb, h⟩ := h
  have f3 := AutoSeq1.sub_list_list
  wp_walk using wpAny_loadPart' hl, wpAny_loadPart' hb
  exact ⟨plainId_quiet MeetsSeq3.plain_eq_loop _, codeAny_builtin MeetsSeq3.entry_eq_loop (by
    rw [Around.under_plainId MeetsSeq3.plain_eq_loop _]
    exact cmp_loop false l b xs ys us vs n n2 hx hy _ 0 rfl prog w A R _ ⟨hl, hb, by simpa using h⟩)⟩
theorem list_gt_meets (l b : Addr) (xs ys : List Value) (us vs : List Str) (n n2 : Nat) (hx : StrsAre xs us) (hy : StrsAre ys vs) :
    Meets (Builtin.«list.__gt__» ⟨[.ref l, .ref b], []⟩)
      (fun _ R s => s.heap.get? l = some { cls := .type "list", dict := none, data := .seq xs.toArray n, slots := #[] } ∧ s.heap.get? b = some { cls := .type "list", dict := none, data := .seq ys.toArray n2, slots := #[] } ∧
        R (.ok (.ret (.bool (lexC true xs.length ys.length us vs)))) s) := by
  intro prog w A R s h
  obtain ⟨hp, g, d, tk, os⟩ := s; obtain ⟨hl, hb, h⟩ := h
  have f3 := AutoSeq1.sub_list_list
  wp_walk using wpAny_loadPart' hl, wpAny_loadPart' hb
  exact ⟨plainId_quiet MeetsSeq3.plain_eq_loop _, codeAny_builtin MeetsSeq3.entry_eq_loop (by
    rw [Around.under_plainId MeetsSeq3.plain_eq_loop _]
    exact cmp_loop true l b xs ys us vs n n2 hx hy _ 0 rfl prog w A R _ ⟨hl, hb, by simpa using h⟩)⟩
end Mine
end LCmp
/-! ## MinMax -/
section MinMax
open PySem PySem.W PyProof.Rows PySem.Calls
set_option Elab.async false
set_option maxRecDepth 100000
set_option maxHeartbeats 8000000
namespace Mine
/-- which of the two lists was taken -/
def Picked (g : Bool) (us vs u1 : List Str) : Prop := (lexC g vs.length us.length vs us = true ∧ u1 = vs) ∨ (lexC g vs.length us.length vs us = false ∧ u1 = us)
def comPre : List Str → List Str → List Str
  | x :: xs, y :: ys => if x = y then x :: comPre xs ys else []
  | _, _ => []
theorem comPre_symm : ∀ xs ys : List Str, comPre xs ys = comPre ys xs
  | [], [] => rfl
  | [], _ :: _ => rfl
  | _ :: _, [] => rfl
  | x :: xs, y :: ys => by
    simp only [comPre]
    by_cases h : x = y
    · subst h; rw [if_pos rfl, if_pos rfl, comPre_symm xs ys]
    · rw [if_neg h, if_neg (Ne.symm h)]
theorem comPre_self : ∀ xs : List Str, comPre xs xs = xs
  | [] => rfl
  | x :: xs => by simp [comPre, comPre_self xs]
/-- the second list does not end inside the first -/
def Le (us vs : List Str) : Prop := ∀ i, i < us.length → us.take i = vs.take i → i < vs.length
theorem le_self (us : List Str) : Le us us := fun _ h _ => h
theorem str_lt_or (x y : Str) (h : (x == y) = false) : (strLt false x y = true ∧ strLt true x y = false) ∨ (strLt false x y = false ∧ strLt true x y = true) := by
  have hne : x.cps.toList ≠ y.cps.toList := by
    intro e
    have : x = y := by cases x; cases y; simpa using e
    subst this
    simp at h
  unfold strLt
  simp only [if_true, Bool.false_eq_true, if_false, decide_eq_true_eq, decide_eq_false_iff_not]
  rcases Decidable.em (x.cps.toList < y.cps.toList) with h1 | h1
  · exact .inl ⟨h1, fun h2 => List.lt_irrefl _ (List.lt_trans h1 h2)⟩
  · rcases Decidable.em (y.cps.toList < x.cps.toList) with h2 | h2
    · exact .inr ⟨h1, h2⟩
    · exact absurd (List.le_antisymm (List.not_lt.mp h2) (List.not_lt.mp h1)) hne
theorem lexC_swap : ∀ (xs ys : List Str) (m n : Nat), lexC true m n xs ys = lexC false n m ys xs
  | [], [], m, n => by simp [lexC, szLt]
  | [], _ :: _, m, n => by simp [lexC, szLt]
  | _ :: _, [], m, n => by simp [lexC, szLt]
  | x :: xs, y :: ys, m, n => by
    simp only [lexC]
    rw [lexC_swap xs ys, show (y == x) = (x == y) from Bool.beq_comm ..]
    split
    · rfl
    · simp [strLt]
theorem le_of_lt : ∀ (xs ys : List Str) (k : Nat), lexC false (k + xs.length) (k + ys.length) xs ys = true → Le xs ys
  | [], _, _, _ => fun i hi _ => absurd hi (Nat.not_lt_zero i)
  | x :: xs, [], k, h => by
    simp [lexC, szLt] at h
    omega
  | x :: xs, y :: ys, k, h => by
    simp only [lexC] at h
    intro i hi ht
    cases i with
    | zero => simp
    | succ i =>
      simp only [List.take_succ_cons, List.cons.injEq] at ht
      obtain ⟨rfl, ht⟩ := ht
      rw [if_pos (by simp)] at h
      have := le_of_lt xs ys (k + 1) (by simpa [Nat.add_assoc, Nat.add_comm 1] using h) i (by simpa using hi) ht
      simpa using this
theorem lex_both : ∀ (xs ys : List Str) (k : Nat), lexC false (k + xs.length) (k + ys.length) xs ys = false → lexC true (k + xs.length) (k + ys.length) xs ys = false → xs = ys
  | [], [], _, _, _ => rfl
  | [], _ :: _, _, h, _ => by simp [lexC, szLt] at h
  | _ :: _, [], _, _, h => by simp [lexC, szLt] at h
  | x :: xs, y :: ys, k, h1, h2 => by
    simp only [lexC] at h1 h2
    cases hb : x == y with
    | true =>
      rw [hb] at h1 h2
      simp only [if_true] at h1 h2
      rw [eq_of_beq hb, lex_both xs ys (k + 1) (by simpa [Nat.add_assoc, Nat.add_comm 1] using h1) (by simpa [Nat.add_assoc, Nat.add_comm 1] using h2)]
    | false =>
      rw [hb] at h1 h2
      simp only [Bool.false_eq_true, if_false] at h1 h2
      rcases str_lt_or x y hb with ⟨h3, _⟩ | ⟨_, h3⟩
      · rw [h3] at h1; cases h1
      · rw [h3] at h2; cases h2
theorem lex_not_both : ∀ (xs ys : List Str) (m n : Nat), lexC false m n xs ys = true → lexC true m n xs ys = true → False
  | [], [], m, n, h1, h2 => by simp [lexC, szLt] at h1 h2; omega
  | [], _ :: _, m, n, h1, h2 => by simp [lexC, szLt] at h1 h2; omega
  | _ :: _, [], m, n, h1, h2 => by simp [lexC, szLt] at h1 h2; omega
  | x :: xs, y :: ys, m, n, h1, h2 => by
    simp only [lexC] at h1 h2
    cases hb : x == y with
    | true =>
      rw [hb] at h1 h2
      simp only [if_true] at h1 h2
      exact lex_not_both xs ys m n h1 h2
    | false =>
      rw [hb] at h1 h2
      simp only [Bool.false_eq_true, if_false] at h1 h2
      rcases str_lt_or x y hb with ⟨_, h3⟩ | ⟨h3, _⟩
      · rw [h3] at h2; cases h2
      · rw [h3] at h1; cases h1
theorem order_facts {us vs u1 u2 : List Str} (h1 : Picked false us vs u1) (h2 : Picked true us vs u2) : Le u1 u2 ∧ comPre u1 u2 = comPre us vs := by
  rcases h1 with ⟨h1, rfl⟩ | ⟨h1, rfl⟩ <;> rcases h2 with ⟨h2, rfl⟩ | ⟨h2, rfl⟩
  · exact (lex_not_both _ _ _ _ h1 h2).elim
  · exact ⟨le_of_lt _ _ 0 (by simpa using h1), comPre_symm _ _⟩
  · rw [lexC_swap] at h2
    exact ⟨le_of_lt _ _ 0 (by simpa using h2), rfl⟩
  · have e := lex_both _ _ 0 (by simpa using h1) (by simpa using h2)
    subst e
    exact ⟨le_self _, rfl⟩
theorem comPre_of_diff : ∀ {us vs : List Str} {i : Nat} {x y : Str}, us[i]? = some x → vs[i]? = some y → x ≠ y → us.take i = vs.take i → comPre us vs = us.take i
  | [], _, _, _, _, h, _, _, _ => by simp at h
  | _ :: _, [], _, _, _, _, h, _, _ => by simp at h
  | u :: us, v :: vs, 0, x, y, h1, h2, h3, _ => by
    simp only [List.getElem?_cons_zero, Option.some.injEq] at h1 h2
    subst h1 h2
    simp [comPre, h3]
  | u :: us, v :: vs, i + 1, x, y, h1, h2, h3, h4 => by
    simp only [List.getElem?_cons_succ] at h1 h2
    simp only [List.take_succ_cons, List.cons.injEq] at h4
    obtain ⟨rfl, h4⟩ := h4
    simp [comPre, comPre_of_diff h1 h2 h3 h4]
theorem comPre_of_prefix : ∀ {us vs : List Str}, us = vs.take us.length → comPre us vs = us
  | [], _, _ => by simp [comPre]
  | _ :: _, [], h => by simp at h
  | u :: us, v :: vs, h => by
    simp only [List.length_cons, List.take_succ_cons, List.cons.injEq] at h
    obtain ⟨rfl, h⟩ := h
    simp [comPre, comPre_of_prefix h]
section
variable {prog : Program} {w : World} {A : Around} {E : Value → Shared → Prop} {s : Shared} {a b : Addr} {xs ys : List Value} {us vs : List Str} {n n2 : Nat}

theorem rich_lt {Q : Value → Shared → Prop} (ha : s.heap.get? a = some { cls := .type "list", dict := none, data := .seq xs.toArray n, slots := #[] }) (hb : s.heap.get? b = some { cls := .type "list", dict := none, data := .seq ys.toArray n2, slots := #[] }) (hx : StrsAre xs us) (hy : StrsAre ys vs) (hu : A.units < cLine)
    (h : Q (.bool (lexC false xs.length ys.length us vs)) s) : wpAny (model prog w) A (richCompare .Lt (.ref a) (.ref b)) Q E s :=
  richCompare_meets_room (op := .Lt) ⟨_, ha, rfl⟩ ⟨_, hb, rfl⟩ F.slot_list_lt F.entry_list_lt (F.args_list_lt_2 _ _) (list_lt_meets a b xs ys us vs n n2 hx hy)
    ⟨ha, hb, show Value.bool (lexC false xs.length ys.length us vs) ≠ Value.notImplemented ∧ Q (.bool (lexC false xs.length ys.length us vs)) s from ⟨(fun x => nomatch x), h⟩⟩ hu
theorem args_min_1 (a : Value) : argsOk "min" ⟨[a], []⟩ := by unfold argsOk; kernel_rfl
theorem two_min {l : Addr} {Q : Value → Shared → Prop} {k : Nat} (hh : A.handled = none) (hl : s.heap.get? l = some { cls := .type "list", dict := none, data := .seq #[.ref a, .ref b] k, slots := #[] })
    (ha : s.heap.get? a = some { cls := .type "list", dict := none, data := .seq xs.toArray n, slots := #[] }) (hb : s.heap.get? b = some { cls := .type "list", dict := none, data := .seq ys.toArray n2, slots := #[] })
    (hx : StrsAre xs us) (hy : StrsAre ys vs) (hu : A.units + 8 < cLine)
    (hQ : ∀ h' tk', (∀ c o, s.heap.get? c = some o → h'.get? c = some o) → Q (if lexC false ys.length xs.length vs us then .ref b else .ref a) { s with heap := h', toks := tk' }) :
    wpAny (model prog w) A (call (.builtin "min") [.ref l]) Q E s := by
  have hname : (toString "min" ++ toString ".loop" : String) = "min.loop" := by decide
  have hls : s.heap.IsList l #[.ref a, .ref b] := ⟨_, hl, rfl, _, rfl⟩
  have hll : l < s.heap.objs.size := Heap.lt_size hl
  refine kmb_tree PySem.F.kind_min PySem.F.plain_min PySem.F.entry_min (args_min_1 _) ?_
  show wpAny _ A.in1 (Builtin.Builtins.bindParams "min" ["key", "default"] 0 ⟨[], []⟩ >>= _) _ _ s
  refine wpAny_bind (wpAny_of_eq (show Builtin.Builtins.bindParams "min" ["key", "default"] 0 ⟨[], []⟩ = pure [none, none] from rfl) ?_)
  refine wpAny_bind (wpAny_pure ?_)
  refine wpAny_bind (wpAny_pyIter_list hls ?_)
  refine wpAny_bind (wpAny_newList ?_ (Nat.zero_le _))
  rw [hname]
  have hS : (s.heap.push { cls := .type "list_iterator", data := .fields #[.ref l, .int 0 0] }).objs.size = s.heap.objs.size + 1 := size_push' ..
  generalize hSS : (s.heap.push { cls := .type "list_iterator", data := .fields #[.ref l, .int 0 0] }).objs.size = S at *
  generalize hII : s.heap.objs.size = I at *
  have hlI : l ≠ I := Nat.ne_of_lt hll
  have hSI : S ≠ I := by rw [hS]; exact Nat.succ_ne_self _
  have old : ∀ c o, s.heap.get? c = some o → c ≠ I ∧ c ≠ S := fun c o e => by
    have hc := Heap.lt_size e
    rw [hII] at hc
    exact ⟨Nat.ne_of_lt hc, by rw [hS]; exact Nat.ne_of_lt (Nat.lt_succ_of_lt hc)⟩
  have gI : ((s.heap.push { cls := .type "list_iterator", data := .fields #[.ref l, .int 0 0] }).push (seqObj "list" #[] 0)).get? I = some { cls := .type "list_iterator", data := .fields #[.ref l, .int 0 0] } := by
    rw [← hII]; exact Heap.get?_push_of_some _ (Heap.get?_push_size _ rfl)
  have gS : ((s.heap.push { cls := .type "list_iterator", data := .fields #[.ref l, .int 0 0] }).push (seqObj "list" #[] 0)).get? S = some (seqObj "list" #[] 0) := by
    rw [← hSS]; exact Heap.get?_push_size _ rfl
  have k0 : ∀ c o, s.heap.get? c = some o → ((s.heap.push { cls := .type "list_iterator", data := .fields #[.ref l, .int 0 0] }).push (seqObj "list" #[] 0)).get? c = some o := fun c o e => Heap.get?_push_of_some _ (Heap.get?_push_of_some _ e)
  generalize ((s.heap.push { cls := .type "list_iterator", data := .fields #[.ref l, .int 0 0] }).push (seqObj "list" #[] 0)) = H at *
  have W := Walks.list (prog := prog) (w := w) (A := A.in1) hh I l hlI #[.ref a, .ref b]
  refine wpAny_pure ⟨plainId_quiet PySem.F.plain_min_loop _, ?_⟩
  -- the first item
  refine codeAny_builtin PySem.F.entry_min_loop ?_
  rw [Around.under_plainId PySem.F.plain_min_loop _]
  show wpAny _ A.in1 (seqItems? (.ref S) >>= _) _ _ _
  refine wpAny_bind (wpAny_seqItems gS rfl ?_)
  show wpAny _ A.in1 (tryCatch (pyNext (.ref I)) _ >>= _) _ _ _
  refine wpAny_bind (wpAny_tryCatch (W.item 0 _ _ _ (Nat.zero_lt_succ 1) ⟨⟨_, gI, rfl, rfl⟩, ⟨_, k0 _ _ hl, rfl, _, rfl⟩⟩ fun v h1 tk1 hP st1 hk1 => ?_))
  obtain rfl : v = .ref a := (Option.some.inj hP).symm
  have gS1 := hk1 S _ (by simpa using hSI) gS
  have k1 : ∀ c o, s.heap.get? c = some o → h1.get? c = some o := fun c o e => hk1 c o (by simpa using (old c o e).1) (k0 c o e)
  show wpAny _ A.in1 (updateSeq S (fun _ => #[.ref a, .ref a]) >>= _) _ _ _
  refine wpAny_bind (wpAny_updateSeq gS1 rfl ?_)
  obtain ⟨c2, gS2⟩ : ∃ c2, (h1.update S (Obj.mapSeq fun _ => #[.ref a, .ref a])).get? S = some (seqObj "list" #[.ref a, .ref a] c2) := ⟨_, get?_update_seq gS1 fun _ => #[.ref a, .ref a]⟩
  have sb2 := Heap.SameBut.update h1 S (Obj.mapSeq fun _ => (#[.ref a, .ref a] : Array Value))
  have k2 : ∀ c o, s.heap.get? c = some o → (h1.update S (Obj.mapSeq fun _ => #[.ref a, .ref a])).get? c = some o := fun c o e => (sb2.2 c (old c o e).2).trans (k1 c o e)
  have it2 : (h1.update S (Obj.mapSeq fun _ => #[.ref a, .ref a])).IsListIter I l (0 + 1) := st1.1.extBut sb2.extBut hSI.symm
  generalize (h1.update S (Obj.mapSeq fun _ => #[.ref a, .ref a])) = H2 at *
  rw [hname]
  refine wpAny_pure ⟨plainId_quiet PySem.F.plain_min_loop _, ?_⟩
  -- the second item
  refine codeAny_builtin PySem.F.entry_min_loop ?_
  rw [Around.under_plainId PySem.F.plain_min_loop _]
  show wpAny _ A.in1 (seqItems? (.ref S) >>= _) _ _ _
  refine wpAny_bind (wpAny_seqItems gS2 rfl ?_)
  show wpAny _ A.in1 (tryCatch (pyNext (.ref I)) _ >>= _) _ _ _
  refine wpAny_bind (wpAny_tryCatch (W.item 1 _ _ _ (Nat.lt_succ_self 1) ⟨it2, ⟨_, k2 _ _ hl, rfl, _, rfl⟩⟩ fun v h3 tk3 hP st3 hk3 => ?_))
  obtain rfl : v = .ref b := (Option.some.inj hP).symm
  have gS3 := hk3 S _ (by simpa using hSI) gS2
  have k3 : ∀ c o, s.heap.get? c = some o → h3.get? c = some o := fun c o e => hk3 c o (by simpa using (old c o e).1) (k2 c o e)
  show wpAny _ A.in1 (tryCatch (holding [.ref b, .ref b] (richCompare .Lt (.ref b) (.ref a) >>= _)) _ >>= _) _ _ _
  refine wpAny_bind (wpAny_tryCatch (wpAny_holding (wpAny_bind (rich_lt (k3 _ _ hb) (k3 _ _ ha) hy hx (by show A.units + 1 < cLine; omega) ?_))))
  refine wpAny_bind (wpAny_holding (wpAny_truthy_bool ?_))
  refine wpAny_bind (wpAny_letGo (wpAny_pure ?_))
  have fin : ∀ (v : Value) (H : Heap) (tk : Nat) (c : Nat), H.get? S = some (seqObj "list" #[v, v] c) → H.IsListIter I l (1 + 1) → (∀ c o, s.heap.get? c = some o → H.get? c = some o) → (∀ h' tk', (∀ c o, s.heap.get? c = some o → h'.get? c = some o) → Q v { s with heap := h', toks := tk' }) →
      codeAny (model prog w) A (.builtin "min.loop" ⟨[.ref I, .none, .ref S], []⟩) (fun r s' => match r with | .ok (.ret v) => Q v s' | .ok _ => False | .error e => E e s') { s with heap := H, toks := tk } := by
    intro v H tk c gS it k hq
    refine codeAny_builtin PySem.F.entry_min_loop ?_
    rw [Around.under_plainId PySem.F.plain_min_loop _]
    show wpAny _ A.in1 (seqItems? (.ref S) >>= _) _ _ _
    refine wpAny_bind (wpAny_seqItems gS rfl ?_)
    show wpAny _ A.in1 (tryCatch (pyNext (.ref I)) _ >>= _) _ _ _
    refine wpAny_bind (wpAny_tryCatch (W.done _ _ _ ⟨it, ⟨_, k _ _ hl, rfl, _, rfl⟩⟩ fun h' tk' hk' => ?_))
    have gS' := hk' S _ (by simpa using hSI) gS
    have sb := Heap.SameBut.update h' S (Obj.mapSeq fun _ => (#[] : Array Value))
    show wpAny _ A.in1 (updateSeq S (fun _ => #[]) >>= _) _ _ _
    refine wpAny_bind (wpAny_updateSeq gS' rfl (wpAny_bind (wpAny_letGo (wpAny_pure ?_))))
    exact hq _ _ fun c o e => (sb.2 c (old c o e).2).trans (hk' c o (by simpa using (old c o e).1) (k c o e))
  cases hb' : lexC false ys.length xs.length vs us with
  | true =>
    rw [hb'] at hQ
    simp only [if_true] at hQ ⊢
    have sb4 := Heap.SameBut.update h3 S (Obj.mapSeq fun _ => (#[.ref b, .ref b] : Array Value))
    obtain ⟨c4, gS4⟩ : ∃ c4, (h3.update S (Obj.mapSeq fun _ => #[.ref b, .ref b])).get? S = some (seqObj "list" #[.ref b, .ref b] c4) := ⟨_, get?_update_seq gS3 fun _ => #[.ref b, .ref b]⟩
    refine wpAny_bind ?_
    refine wpAny_updateSeq gS3 rfl (wpAny_bind (wpAny_letGo ?_))
    rw [hname]
    exact wpAny_pure ⟨plainId_quiet PySem.F.plain_min_loop _, fin _ _ _ c4 gS4 (st3.1.extBut sb4.extBut hSI.symm) (fun c o e => (sb4.2 c (old c o e).2).trans (k3 c o e)) hQ⟩
  | false =>
    rw [hb'] at hQ
    simp only [Bool.false_eq_true, if_false] at hQ ⊢
    refine wpAny_bind (wpAny_letGo ?_)
    rw [hname]
    exact wpAny_pure ⟨plainId_quiet PySem.F.plain_min_loop _, fin _ _ _ c2 gS3 st3.1 k3 hQ⟩
theorem minK {l : Addr} {h₀ : Heap} {L : Addr} {m : Str → Option Value} {news : List (Addr × Obj)} {Q : Value → Shared → Prop} (hh : A.handled = none) (F : Fr h₀ L s.heap m) (N : News h₀ L s.heap news) (hl : (l, LCg.lst [.ref a, .ref b]) ∈ news)
    (ha : (a, LCg.lst xs) ∈ news) (hb : (b, LCg.lst ys) ∈ news) (hx : StrsAre xs us) (hy : StrsAre ys vs) (hu : A.units + 8 < cLine)
    (h : ∀ r v1 u1 h' tk', StrsAre v1 u1 → Picked false us vs u1 → Fr h₀ L h' m → News h₀ L h' ((r, LCg.lst v1) :: news) → Q (.ref r) { s with heap := h', toks := tk' }) :
    wpAny (model prog w) A (call (.builtin "min") [.ref l]) Q E s := by
  refine two_min hh (N _ hl).1 (N _ ha).1 (N _ hb).1 hx hy hu fun h' tk' k' => ?_
  have N' := N.grown k'
  cases hc : lexC false ys.length xs.length vs us with
  | true =>
    simp only [if_true]
    exact h b ys vs h' tk' hy (.inl ⟨by rw [hy.len_eq, hx.len_eq] at hc; exact hc, rfl⟩) (F.keeps k') fun p hp => by
      rcases List.mem_cons.mp hp with rfl | hp
      · exact N' _ hb
      · exact N' p hp
  | false =>
    simp only [Bool.false_eq_true, if_false]
    exact h a xs us h' tk' hx (.inr ⟨by rw [hy.len_eq, hx.len_eq] at hc; exact hc, rfl⟩) (F.keeps k') fun p hp => by
      rcases List.mem_cons.mp hp with rfl | hp
      · exact N' _ ha
      · exact N' p hp

theorem rich_gt {Q : Value → Shared → Prop} (ha : s.heap.get? a = some { cls := .type "list", dict := none, data := .seq xs.toArray n, slots := #[] }) (hb : s.heap.get? b = some { cls := .type "list", dict := none, data := .seq ys.toArray n2, slots := #[] }) (hx : StrsAre xs us) (hy : StrsAre ys vs) (hu : A.units < cLine)
    (h : Q (.bool (lexC true xs.length ys.length us vs)) s) : wpAny (model prog w) A (richCompare .Gt (.ref a) (.ref b)) Q E s :=
  richCompare_meets_room (op := .Gt) ⟨_, ha, rfl⟩ ⟨_, hb, rfl⟩ F.slot_list_gt F.entry_list_gt (F.args_list_gt_2 _ _) (list_gt_meets a b xs ys us vs n n2 hx hy)
    ⟨ha, hb, show Value.bool (lexC true xs.length ys.length us vs) ≠ Value.notImplemented ∧ Q (.bool (lexC true xs.length ys.length us vs)) s from ⟨(fun x => nomatch x), h⟩⟩ hu
theorem args_max_1 (a : Value) : argsOk "max" ⟨[a], []⟩ := by unfold argsOk; kernel_rfl
theorem two_max {l : Addr} {Q : Value → Shared → Prop} {k : Nat} (hh : A.handled = none) (hl : s.heap.get? l = some { cls := .type "list", dict := none, data := .seq #[.ref a, .ref b] k, slots := #[] })
    (ha : s.heap.get? a = some { cls := .type "list", dict := none, data := .seq xs.toArray n, slots := #[] }) (hb : s.heap.get? b = some { cls := .type "list", dict := none, data := .seq ys.toArray n2, slots := #[] })
    (hx : StrsAre xs us) (hy : StrsAre ys vs) (hu : A.units + 8 < cLine)
    (hQ : ∀ h' tk', (∀ c o, s.heap.get? c = some o → h'.get? c = some o) → Q (if lexC true ys.length xs.length vs us then .ref b else .ref a) { s with heap := h', toks := tk' }) :
    wpAny (model prog w) A (call (.builtin "max") [.ref l]) Q E s := by
  have hname : (toString "max" ++ toString ".loop" : String) = "max.loop" := by decide
  have hls : s.heap.IsList l #[.ref a, .ref b] := ⟨_, hl, rfl, _, rfl⟩
  have hll : l < s.heap.objs.size := Heap.lt_size hl
  refine kmb_tree PySem.F.kind_max PySem.F.plain_max PySem.F.entry_max (args_max_1 _) ?_
  show wpAny _ A.in1 (Builtin.Builtins.bindParams "max" ["key", "default"] 0 ⟨[], []⟩ >>= _) _ _ s
  refine wpAny_bind (wpAny_of_eq (show Builtin.Builtins.bindParams "max" ["key", "default"] 0 ⟨[], []⟩ = pure [none, none] from rfl) ?_)
  refine wpAny_bind (wpAny_pure ?_)
  refine wpAny_bind (wpAny_pyIter_list hls ?_)
  refine wpAny_bind (wpAny_newList ?_ (Nat.zero_le _))
  rw [hname]
  have hS : (s.heap.push { cls := .type "list_iterator", data := .fields #[.ref l, .int 0 0] }).objs.size = s.heap.objs.size + 1 := size_push' ..
  generalize hSS : (s.heap.push { cls := .type "list_iterator", data := .fields #[.ref l, .int 0 0] }).objs.size = S at *
  generalize hII : s.heap.objs.size = I at *
  have hlI : l ≠ I := Nat.ne_of_lt hll
  have hSI : S ≠ I := by rw [hS]; exact Nat.succ_ne_self _
  have old : ∀ c o, s.heap.get? c = some o → c ≠ I ∧ c ≠ S := fun c o e => by
    have hc := Heap.lt_size e
    rw [hII] at hc
    exact ⟨Nat.ne_of_lt hc, by rw [hS]; exact Nat.ne_of_lt (Nat.lt_succ_of_lt hc)⟩
  have gI : ((s.heap.push { cls := .type "list_iterator", data := .fields #[.ref l, .int 0 0] }).push (seqObj "list" #[] 0)).get? I = some { cls := .type "list_iterator", data := .fields #[.ref l, .int 0 0] } := by
    rw [← hII]; exact Heap.get?_push_of_some _ (Heap.get?_push_size _ rfl)
  have gS : ((s.heap.push { cls := .type "list_iterator", data := .fields #[.ref l, .int 0 0] }).push (seqObj "list" #[] 0)).get? S = some (seqObj "list" #[] 0) := by
    rw [← hSS]; exact Heap.get?_push_size _ rfl
  have k0 : ∀ c o, s.heap.get? c = some o → ((s.heap.push { cls := .type "list_iterator", data := .fields #[.ref l, .int 0 0] }).push (seqObj "list" #[] 0)).get? c = some o := fun c o e => Heap.get?_push_of_some _ (Heap.get?_push_of_some _ e)
  generalize ((s.heap.push { cls := .type "list_iterator", data := .fields #[.ref l, .int 0 0] }).push (seqObj "list" #[] 0)) = H at *
  have W := Walks.list (prog := prog) (w := w) (A := A.in1) hh I l hlI #[.ref a, .ref b]
  refine wpAny_pure ⟨plainId_quiet PySem.F.plain_max_loop _, ?_⟩
  -- the first item
  refine codeAny_builtin PySem.F.entry_max_loop ?_
  rw [Around.under_plainId PySem.F.plain_max_loop _]
  show wpAny _ A.in1 (seqItems? (.ref S) >>= _) _ _ _
  refine wpAny_bind (wpAny_seqItems gS rfl ?_)
  show wpAny _ A.in1 (tryCatch (pyNext (.ref I)) _ >>= _) _ _ _
  refine wpAny_bind (wpAny_tryCatch (W.item 0 _ _ _ (Nat.zero_lt_succ 1) ⟨⟨_, gI, rfl, rfl⟩, ⟨_, k0 _ _ hl, rfl, _, rfl⟩⟩ fun v h1 tk1 hP st1 hk1 => ?_))
  obtain rfl : v = .ref a := (Option.some.inj hP).symm
  have gS1 := hk1 S _ (by simpa using hSI) gS
  have k1 : ∀ c o, s.heap.get? c = some o → h1.get? c = some o := fun c o e => hk1 c o (by simpa using (old c o e).1) (k0 c o e)
  show wpAny _ A.in1 (updateSeq S (fun _ => #[.ref a, .ref a]) >>= _) _ _ _
  refine wpAny_bind (wpAny_updateSeq gS1 rfl ?_)
  obtain ⟨c2, gS2⟩ : ∃ c2, (h1.update S (Obj.mapSeq fun _ => #[.ref a, .ref a])).get? S = some (seqObj "list" #[.ref a, .ref a] c2) := ⟨_, get?_update_seq gS1 fun _ => #[.ref a, .ref a]⟩
  have sb2 := Heap.SameBut.update h1 S (Obj.mapSeq fun _ => (#[.ref a, .ref a] : Array Value))
  have k2 : ∀ c o, s.heap.get? c = some o → (h1.update S (Obj.mapSeq fun _ => #[.ref a, .ref a])).get? c = some o := fun c o e => (sb2.2 c (old c o e).2).trans (k1 c o e)
  have it2 : (h1.update S (Obj.mapSeq fun _ => #[.ref a, .ref a])).IsListIter I l (0 + 1) := st1.1.extBut sb2.extBut hSI.symm
  generalize (h1.update S (Obj.mapSeq fun _ => #[.ref a, .ref a])) = H2 at *
  rw [hname]
  refine wpAny_pure ⟨plainId_quiet PySem.F.plain_max_loop _, ?_⟩
  -- the second item
  refine codeAny_builtin PySem.F.entry_max_loop ?_
  rw [Around.under_plainId PySem.F.plain_max_loop _]
  show wpAny _ A.in1 (seqItems? (.ref S) >>= _) _ _ _
  refine wpAny_bind (wpAny_seqItems gS2 rfl ?_)
  show wpAny _ A.in1 (tryCatch (pyNext (.ref I)) _ >>= _) _ _ _
  refine wpAny_bind (wpAny_tryCatch (W.item 1 _ _ _ (Nat.lt_succ_self 1) ⟨it2, ⟨_, k2 _ _ hl, rfl, _, rfl⟩⟩ fun v h3 tk3 hP st3 hk3 => ?_))
  obtain rfl : v = .ref b := (Option.some.inj hP).symm
  have gS3 := hk3 S _ (by simpa using hSI) gS2
  have k3 : ∀ c o, s.heap.get? c = some o → h3.get? c = some o := fun c o e => hk3 c o (by simpa using (old c o e).1) (k2 c o e)
  show wpAny _ A.in1 (tryCatch (holding [.ref b, .ref b] (richCompare .Gt (.ref b) (.ref a) >>= _)) _ >>= _) _ _ _
  refine wpAny_bind (wpAny_tryCatch (wpAny_holding (wpAny_bind (rich_gt (k3 _ _ hb) (k3 _ _ ha) hy hx (by show A.units + 1 < cLine; omega) ?_))))
  refine wpAny_bind (wpAny_holding (wpAny_truthy_bool ?_))
  refine wpAny_bind (wpAny_letGo (wpAny_pure ?_))
  have fin : ∀ (v : Value) (H : Heap) (tk : Nat) (c : Nat), H.get? S = some (seqObj "list" #[v, v] c) → H.IsListIter I l (1 + 1) → (∀ c o, s.heap.get? c = some o → H.get? c = some o) → (∀ h' tk', (∀ c o, s.heap.get? c = some o → h'.get? c = some o) → Q v { s with heap := h', toks := tk' }) →
      codeAny (model prog w) A (.builtin "max.loop" ⟨[.ref I, .none, .ref S], []⟩) (fun r s' => match r with | .ok (.ret v) => Q v s' | .ok _ => False | .error e => E e s') { s with heap := H, toks := tk } := by
    intro v H tk c gS it k hq
    refine codeAny_builtin PySem.F.entry_max_loop ?_
    rw [Around.under_plainId PySem.F.plain_max_loop _]
    show wpAny _ A.in1 (seqItems? (.ref S) >>= _) _ _ _
    refine wpAny_bind (wpAny_seqItems gS rfl ?_)
    show wpAny _ A.in1 (tryCatch (pyNext (.ref I)) _ >>= _) _ _ _
    refine wpAny_bind (wpAny_tryCatch (W.done _ _ _ ⟨it, ⟨_, k _ _ hl, rfl, _, rfl⟩⟩ fun h' tk' hk' => ?_))
    have gS' := hk' S _ (by simpa using hSI) gS
    have sb := Heap.SameBut.update h' S (Obj.mapSeq fun _ => (#[] : Array Value))
    show wpAny _ A.in1 (updateSeq S (fun _ => #[]) >>= _) _ _ _
    refine wpAny_bind (wpAny_updateSeq gS' rfl (wpAny_bind (wpAny_letGo (wpAny_pure ?_))))
    exact hq _ _ fun c o e => (sb.2 c (old c o e).2).trans (hk' c o (by simpa using (old c o e).1) (k c o e))
  cases hb' : lexC true ys.length xs.length vs us with
  | true =>
    rw [hb'] at hQ
    simp only [if_true] at hQ ⊢
    have sb4 := Heap.SameBut.update h3 S (Obj.mapSeq fun _ => (#[.ref b, .ref b] : Array Value))
    obtain ⟨c4, gS4⟩ : ∃ c4, (h3.update S (Obj.mapSeq fun _ => #[.ref b, .ref b])).get? S = some (seqObj "list" #[.ref b, .ref b] c4) := ⟨_, get?_update_seq gS3 fun _ => #[.ref b, .ref b]⟩
    refine wpAny_bind ?_
    refine wpAny_updateSeq gS3 rfl (wpAny_bind (wpAny_letGo ?_))
    rw [hname]
    exact wpAny_pure ⟨plainId_quiet PySem.F.plain_max_loop _, fin _ _ _ c4 gS4 (st3.1.extBut sb4.extBut hSI.symm) (fun c o e => (sb4.2 c (old c o e).2).trans (k3 c o e)) hQ⟩
  | false =>
    rw [hb'] at hQ
    simp only [Bool.false_eq_true, if_false] at hQ ⊢
    refine wpAny_bind (wpAny_letGo ?_)
    rw [hname]
    exact wpAny_pure ⟨plainId_quiet PySem.F.plain_max_loop _, fin _ _ _ c2 gS3 st3.1 k3 hQ⟩
theorem maxK {l : Addr} {h₀ : Heap} {L : Addr} {m : Str → Option Value} {news : List (Addr × Obj)} {Q : Value → Shared → Prop} (hh : A.handled = none) (F : Fr h₀ L s.heap m) (N : News h₀ L s.heap news) (hl : (l, LCg.lst [.ref a, .ref b]) ∈ news)
    (ha : (a, LCg.lst xs) ∈ news) (hb : (b, LCg.lst ys) ∈ news) (hx : StrsAre xs us) (hy : StrsAre ys vs) (hu : A.units + 8 < cLine)
    (h : ∀ r v1 u1 h' tk', StrsAre v1 u1 → Picked true us vs u1 → Fr h₀ L h' m → News h₀ L h' ((r, LCg.lst v1) :: news) → Q (.ref r) { s with heap := h', toks := tk' }) :
    wpAny (model prog w) A (call (.builtin "max") [.ref l]) Q E s := by
  refine two_max hh (N _ hl).1 (N _ ha).1 (N _ hb).1 hx hy hu fun h' tk' k' => ?_
  have N' := N.grown k'
  cases hc : lexC true ys.length xs.length vs us with
  | true =>
    simp only [if_true]
    exact h b ys vs h' tk' hy (.inl ⟨by rw [hy.len_eq, hx.len_eq] at hc; exact hc, rfl⟩) (F.keeps k') fun p hp => by
      rcases List.mem_cons.mp hp with rfl | hp
      · exact N' _ hb
      · exact N' p hp
  | false =>
    simp only [Bool.false_eq_true, if_false]
    exact h a xs us h' tk' hx (.inr ⟨by rw [hy.len_eq, hx.len_eq] at hc; exact hc, rfl⟩) (F.keeps k') fun p hp => by
      rcases List.mem_cons.mp hp with rfl | hp
      · exact N' _ ha
      · exact N' p hp
end
def keepF (c : Str) : Bool := c.length != 0 && c != Str.ofString "."
def namesF (x : Str) : List Str := (Txt.split x (Str.ofString "/")).filter keepF
/-- what commonpath answers -/
def comF (e p : Str) : Str := Str.ofString "/" ++ Txt.join (Str.ofString "/") (comPre (namesF e) (namesF p))
end Mine
end MinMax
/-! ## CompI -/
section CompI
open PySem PySem.W PyProof.Rows PySem.Calls PyProof.Rows.LCg PyProof.Rows.LCt
set_option Elab.async false
set_option maxRecDepth 100000
set_option maxHeartbeats 8000000
namespace Mine
def EndF (f : Str → Bool) (z : Str) (news : List (Addr × Obj)) (b : Bool) (y : Value) (news' : List (Addr × Obj)) : Prop := news' = news ∧ f z = b ∧ (b = true → ∃ t, y = .str z t)
section
variable {prog : Program} {w : World} {A : Around} {E : Value → Shared → Prop} {s : Shared} {h₀ : Heap} {L : Addr} {m : Str → Option Value} {env : Env}
theorem compEnd_imp {I C D : Addr} {s₁ s₂ : Shared} {oI oC oD : Obj} {S : List (Addr × Obj) → Prop} {rest rest' : Value → List (Addr × Obj) → Prop} {y : Value} (h : CompEnd h₀ L m s₁ I oI C oC D oD S rest y s₂) (k : ∀ n, rest y n → rest' y n) : CompEnd h₀ L m s₁ I oI C oC D oD S rest' y s₂ := by
  obtain ⟨h', tk, n, e, F, N, o, hS, r⟩ := h
  exact ⟨h', tk, n, e, F, N, o, hS, k n r⟩

theorem rest_filter {ct elt : Expr} {x : Str} {scope : Scope} {cl : List (Str × Addr)} {S : List (Addr × Obj) → Prop} {Fin : List Value → List (Addr × Obj) → Prop} {news : List (Addr × Obj)} {vs : List Value} {zs : List Str} {f : Str → Bool} (hvs : StrsAre vs zs)
    (turn : ∀ z t I oI C oC D m₂ h tk ys (E' : Value → Shared → Prop), z ∈ zs → NsObj oC m₂ → m₂ x = some (.str z t) → Fr h₀ L h m → News h₀ L h ((I, oI) :: (C, oC) :: (D, lst ys) :: news) → Off3 I C D news → ((@Ne Nat I C) ∧ (@Ne Nat I D) ∧ (@Ne Nat C D)) →
      wpAny (model prog w) A (isTrue ct (compEnvC scope cl C env) (eval ct (compEnvC scope cl C env))) (fun ok s' => if ok = true then
        wpAny (model prog w) A (eval elt (compEnvC scope cl C env)) (CompEnd h₀ L m { s with heap := h, toks := tk } I oI C oC D (lst ys) S (EndF f z news true)) E' s'
        else CompEnd h₀ L m { s with heap := h, toks := tk } I oI C oC D (lst ys) S (EndF f z news false) Value.none s') E' { s with heap := h, toks := tk })
    (fin : ∀ ys, StrsAre ys (zs.filter f) → Fin ys news) :
    ∀ k i ys, i + k = vs.length → StrsAre ys ((zs.take i).filter f) → CompRestT prog w A h₀ L m env ct elt x scope cl s S (fun i v => vs.toArray[i]? = some v) Fin k i ys news
  | 0, i, ys, hi, hys => by
    refine fin ys ?_
    have : zs.take i = zs := List.take_of_length_le (by rw [← hvs.len_eq]; omega)
    rwa [this] at hys
  | k + 1, i, ys, hi, hys => by
    intro v I oI C oC D m₂ h tk E' hv hC hx F N off ne
    obtain ⟨z, t, rfl, hz⟩ := StrsAre.item hvs i v (by simpa using hv)
    have hzs : z ∈ zs := List.mem_of_getElem? hz
    have htake : zs.take (i + 1) = zs.take i ++ [z] := by rw [List.take_add_one, hz]; rfl
    refine wpAny_mono (turn z t I oI C oC D m₂ h tk ys E' hzs hC hx F N off ne) (fun ok s' h' => ?_) fun _ _ e => e
    cases ok with
    | true =>
      simp only [if_true] at h' ⊢
      refine wpAny_mono h' (fun y s'' h'' => compEnd_imp h'' fun n r => ?_) fun _ _ e => e
      obtain ⟨rfl, hf, hy⟩ := r
      obtain ⟨t', rfl⟩ := hy rfl
      refine rest_filter hvs turn fin k (i + 1) _ (by omega) ?_
      rw [htake, List.filter_append, List.filter_cons, hf]
      exact hys.append' (.cons _ _ .nil)
    | false =>
      simp only [Bool.false_eq_true, if_false] at h' ⊢
      refine compEnd_imp h' fun n r => ?_
      obtain ⟨rfl, hf, _⟩ := r
      refine rest_filter hvs turn fin k (i + 1) _ (by omega) ?_
      rw [htake, List.filter_append, List.filter_cons, hf]
      simpa using hys

theorem src_filter {ct elt : Expr} {x : Str} {scope : Scope} {cl : List (Str × Addr)} {Fin : Shared → List Value → List (Addr × Obj) → Prop} {ax : Addr} {k : Nat} {news : List (Addr × Obj)} {s₁ : Shared} {vs : List Value} {zs : List Str} (f : Str → Bool)
    (hh : A.handled = none) (F : Fr h₀ L s₁.heap m) (N : News h₀ L s₁.heap news) (hm : (ax, W.listOf vs.toArray k) ∈ news) (hvs : StrsAre vs zs) (hsz : vs.length ≤ sizeLine) {b : Nat} (hzs : ∀ z ∈ zs, z.length ≤ b)
    (turn : ∀ z t I oI C oC D m₂ h tk ys (E' : Value → Shared → Prop), z.length ≤ b → NsObj oC m₂ → m₂ x = some (.str z t) → Fr h₀ L h m → News h₀ L h ((I, oI) :: (C, oC) :: (D, lst ys) :: news) → Off3 I C D news → ((@Ne Nat I C) ∧ (@Ne Nat I D) ∧ (@Ne Nat C D)) →
      wpAny (model prog w) A (isTrue ct (compEnvC scope cl C env) (eval ct (compEnvC scope cl C env))) (fun ok s' => if ok = true then
        wpAny (model prog w) A (eval elt (compEnvC scope cl C env)) (CompEnd h₀ L m { s₁ with heap := h, toks := tk } I oI C oC D (lst ys) (SrcAt h₀ ax vs.toArray) (EndF f z news true)) E' s'
        else CompEnd h₀ L m { s₁ with heap := h, toks := tk } I oI C oC D (lst ys) (SrcAt h₀ ax vs.toArray) (EndF f z news false) Value.none s') E' { s₁ with heap := h, toks := tk })
    (fin : ∀ g ys, StrsAre ys (zs.filter f) → Fin { s₁ with heap := g } ys news) :
    CompSrcT prog w A h₀ L m env ct elt x scope cl Fin (.ref ax) s₁ := by
  refine CompSrcT.ledger hh F N (its := vs.toArray) (k := k) hm (by simpa using hsz) fun g => ?_
  refine rest_filter (s := { s₁ with heap := g }) hvs (fun z t I oI C oC D m₂ h tk ys E' hz => turn z t I oI C oC D m₂ h tk ys E' (hzs z hz)) (fin g) vs.toArray.size 0 [] (by simp) ?_
  rw [List.take_zero, List.filter_nil]; exact StrsAre.nil
end
end Mine
namespace Mine
theorem split_fits {x : Str} {vs : List Value} (h : StrsAre vs (Txt.split x (Str.ofString "/"))) (hx : x.length ≤ 1000) : vs.length ≤ sizeLine := by
  rw [h.len_eq, sizeLine_eq]
  have h8 := split_weight x (Str.ofString "/") (by decide +kernel)
  omega
theorem split_small {x : Str} (hx : x.length ≤ 1000) : ∀ z ∈ Txt.split x (Str.ofString "/"), z.length ≤ 1000 := fun _ hz => Nat.le_trans (part_short hz) hx
end Mine
namespace Mine
theorem news_del (k : Nat) {h₀ h : Heap} {L : Addr} {l : List (Addr × Obj)} (N : News h₀ L h l) : News h₀ L h (l.eraseIdx k) := fun p hp => N p (List.mem_of_mem_eraseIdx hp)
end Mine
namespace Mine
/-- a fact that a sweep leaves -/
structure Keep (p : Prop) : Prop where
  get : p
end Mine
namespace Mine
section
variable {h₀ : Heap} {L : Addr} {m : Str → Option Value}
theorem compEnd_off1 {I C D a : Addr} {s₁ : Shared} {oI oC oD o : Obj} {S : List (Addr × Obj) → Prop} {rest : Value → List (Addr × Obj) → Prop} {y : Value} {h' : Heap} {tk : Nat} {r : List (Addr × Obj)}
    (F : Fr h₀ L h' m) (N : News h₀ L h' ((a, o) :: (I, oI) :: (C, oC) :: (D, oD) :: r)) (hx : Off1 a ((I, oI) :: (C, oC) :: (D, oD) :: r)) (off : Off3 I C D r) (hS : S ((a, o) :: r)) (h : rest y ((a, o) :: r)) :
    CompEnd h₀ L m s₁ I oI C oC D oD S rest y { s₁ with heap := h', toks := tk } := by
  refine CompEnd.intro F N ((a, o) :: r) (fun p hp => ?_) ⟨⟨Ne.symm hx.1, Ne.symm hx.2.1, Ne.symm hx.2.2.1⟩, off⟩ hS h
  simp only [List.mem_cons] at hp ⊢
  rcases hp with h | h | h | h | h <;> simp [h]
theorem compEnd_lt {I C D a : Addr} {s₁ : Shared} {oI oC oD o : Obj} {S : List (Addr × Obj) → Prop} {rest : Value → List (Addr × Obj) → Prop} {y : Value} {h' : Heap} {tk : Nat} {r : List (Addr × Obj)}
    (F : Fr h₀ L h' m) (N : News h₀ L h' ((a, o) :: (I, oI) :: (C, oC) :: (D, oD) :: r)) (hx : AllLt a ((I, oI) :: (C, oC) :: (D, oD) :: r)) (off : Off3 I C D r) (hS : S ((a, o) :: r)) (h : rest y ((a, o) :: r)) :
    CompEnd h₀ L m s₁ I oI C oC D oD S rest y { s₁ with heap := h', toks := tk } := by
  refine CompEnd.intro F N ((a, o) :: r) (fun p hp => ?_) ⟨⟨Nat.ne_of_gt hx.1, Nat.ne_of_gt hx.2.1, Nat.ne_of_gt hx.2.2.1⟩, off⟩ hS h
  simp only [List.mem_cons] at hp ⊢
  rcases hp with h | h | h | h | h <;> simp [h]
end
end Mine
namespace Mine
theorem endF_keep {z : Str} {t : Tok} {news : List (Addr × Obj)} (h1 : (z.length : Int) ≠ 0) (h2 : (z != Str.ofString ".") = true) : EndF keepF z news true (.str z t) news :=
  ⟨rfl, by simp only [keepF, h2, Bool.and_true, bne_iff_ne]; omega, fun _ => ⟨_, rfl⟩⟩
theorem endF_len {z : Str} {y : Value} {news : List (Addr × Obj)} (h1 : (z.length : Int) = 0) : EndF keepF z news false y news :=
  ⟨rfl, by simp [keepF, show z.length = 0 by omega], fun h => nomatch h⟩
theorem endF_dot {z : Str} {y : Value} {news : List (Addr × Obj)} (h2 : (z != Str.ofString ".") = false) : EndF keepF z news false y news :=
  ⟨rfl, by simp only [keepF, h2, Bool.and_false], fun h => nomatch h⟩
end Mine
namespace Mine
theorem wt_filter (f : Str → Bool) : ∀ l : List Str, (((l.filter f).map (·.length)).sum + (l.filter f).length) ≤ (l.map (·.length)).sum + l.length
  | [] => Nat.le_refl _
  | x :: l => by
    have ih := wt_filter f l
    rw [List.filter_cons]
    split
    · simp only [List.map_cons, List.sum_cons, List.length_cons]; omega
    · simp only [List.map_cons, List.sum_cons, List.length_cons]; omega
theorem namesF_wt (x : Str) : ((namesF x).map (·.length)).sum + (namesF x).length ≤ x.length + 1 :=
  Nat.le_trans (wt_filter _ _) (split_weight x (Str.ofString "/") (by decide +kernel))
theorem picked_wt {g : Bool} {e p : Str} {u : List Str} (h : Picked g (namesF e) (namesF p) u) (he : e.length ≤ 1000) (hp : p.length ≤ 1000) : (u.map (·.length)).sum + u.length ≤ 1001 := by
  have h1 := namesF_wt e
  have h2 := namesF_wt p
  rcases h with ⟨_, rfl⟩ | ⟨_, rfl⟩ <;> omega
theorem item_strs {prog : Program} {w : World} {A : Around} {E : Value → Shared → Prop} {s : Shared} {h₀ : Heap} {L a : Addr} {news : List (Addr × Obj)} {value slice : PySem.Expr} {vs : List Value} {i : Nat} {u : Tok} {v : Value} {Q : Value → Shared → Prop}
    (N : News h₀ L s.heap news) (hm : (a, LCg.lst vs) ∈ news) (hx : vs[i]? = some v) (hsm : vs.length ≤ 2000) (h : Q v s)
    (hs : subscripted slice false (.ref a) (.int i u) = operate [.ref a, .int i u] (getItem (.ref a) (.int i u)) := by with_unfolding_all rfl) (hg : ∀ r, letTemporaryGo value (.ref a) r = pure () := by intro _; with_unfolding_all rfl) :
    wpAny (model prog w) A (subscriptTail value slice (.ref a) (.int i u)) Q E s := by
  have hl : s.heap.IsList a vs.toArray := ⟨_, (N _ hm).1, rfl, _, rfl⟩
  have hi : i < vs.length := (List.getElem?_eq_some_iff.mp hx).1
  exact tail_any hl.typeIs slot_list_getitem.lookup (wpAny_getItem_list hl (by omega) (by omega) (by simpa using hx) h) hs
end Mine
namespace Mine
theorem strs_take : ∀ {vs : List Value} {ys : List Str} (n : Nat), StrsAre vs ys → StrsAre (vs.take n) (ys.take n)
  | _, _, 0, _ => by simpa using StrsAre.nil
  | _, _, _ + 1, .nil => by simpa using StrsAre.nil
  | _, _, n + 1, .cons x t r => by simpa using StrsAre.cons x t (strs_take n r)
theorem strs_upto {vs : List Value} {ys : List Str} (i : Nat) (h : StrsAre vs ys) : StrsAre (slicePick vs.toArray none (some (i : Int)) none).toList (ys.take i) := by
  have e : sliceBounds none (some (i : Int)) none vs.toArray.size = (((0 : Nat) : Int), ((min i vs.toArray.size : Nat) : Int), 1) := by
    simp only [sliceBounds, Option.getD_none, show (1 : Int) > 0 by decide, if_true, if_neg (show ¬ ((i : Int) < 0) by omega)]
    congr 1
    congr 1
    omega
  rw [kmk_pick_nat _ e]
  show StrsAre ((vs.drop 0).take (min i vs.toArray.size - 0)) _
  rw [List.drop_zero, Nat.sub_zero, List.size_toArray, kmk_take_min]
  exact strs_take i h
theorem wt_take' (l : List Str) (i : Nat) : ((l.take i).map (·.length)).sum + (l.take i).length ≤ (l.map (·.length)).sum + l.length := by
  induction l generalizing i with
  | nil => simp
  | cons x l ih =>
    cases i with
    | zero => simp
    | succ i =>
      have := ih i
      simp only [List.take_succ_cons, List.map_cons, List.sum_cons, List.length_cons]
      omega
theorem join_le (l : List Str) {b : Nat} (h : (l.map (·.length)).sum + l.length ≤ b) : (Txt.join (Str.ofString "/") l).length ≤ b := by
  have h1 : Txt.join (Str.ofString "/") l = Str.join (Str.ofString "/") l := StrLaws.glued_eq_join _ _
  have h2 := StrLaws.join_length_le (Str.ofString "/") l
  have h4 : (Str.ofString "/").length = 1 := by decide +kernel
  rw [h1]
  rw [h4] at h2
  omega
end Mine
end CompI
/-! ## MapW -/
section MapW
open PySem PySem.W PyProof.Rows PySem.Calls
set_option Elab.async false
set_option maxRecDepth 100000
set_option maxHeartbeats 8000000
namespace Mine
theorem slot_map_init : Slot "map" "__init__" "object.__init__" :=
  .of (owner := "object") (n := "__init__") (by rw [typeLookup_type, builtinLookup_eq_fast]; kernel_rfl) (by decide +kernel) (by decide +kernel) (by decide +kernel)
    (by first | exact .inl (by decide +kernel) | exact .inr (by decide +kernel)) (by rw [isSubtype_type]; kernel_rfl)
theorem slot_map_next : Slot "map" "__next__" "map.__next__" :=
  .of (owner := "map") (n := "__next__") (by rw [typeLookup_type, builtinLookup_eq_fast]; kernel_rfl) (by decide +kernel) (by decide +kernel) (by decide +kernel)
    (by first | exact .inl (by decide +kernel) | exact .inr (by decide +kernel)) (by rw [isSubtype_type]; kernel_rfl)
theorem slot_map_iter : Slot "map" "__iter__" "map.__iter__" :=
  .of (owner := "map") (n := "__iter__") (by rw [typeLookup_type, builtinLookup_eq_fast]; kernel_rfl) (by decide +kernel) (by decide +kernel) (by decide +kernel)
    (by first | exact .inl (by decide +kernel) | exact .inr (by decide +kernel)) (by rw [isSubtype_type]; kernel_rfl)
theorem entry_map_next : entryFor table "map.__next__" = some Builtin.«map.__next__» := entryFor_of_tree (by kernel_rfl)
theorem entry_map_new : entryFor table "map.__new__" = some Builtin.«map.__new__» := entryFor_of_tree (by kernel_rfl)
theorem entry_map_iter : entryFor table "map.__iter__" = some Builtin.«dict_keyiterator.__iter__» :=
  entryFor_alias (id' := "dict_keyiterator.__iter__") (by kernel_rfl) (by first | rfl | decide +kernel | (unfold String.splitOn; simp +decide [String.splitOnAux])) (by decide +kernel) (by kernel_rfl)
theorem args_map_next_1 (a : Value) : argsOk "map.__next__" ⟨[a], []⟩ := by unfold argsOk; kernel_rfl
theorem args_map_iter_1 (a : Value) : argsOk "map.__iter__" ⟨[a], []⟩ := by unfold argsOk; kernel_rfl
theorem mro_map : mroOf (.type "map") = pure [.type "map", .type "object"] := by rw [mroOf_type]; kernel_rfl
theorem lookup_map_new : typeLookup (.type "map") "__new__" = pure (some (.builtin "map.__new__")) := by rw [typeLookup_type, builtinLookup_eq_fast]; kernel_rfl
theorem called_map : TypeCalled "map" "map.__new__" "object.__init__" :=
  ⟨by decide +kernel, by decide +kernel, ⟨_, _, mro_map⟩, madeBy_type mro_map lookup_map_new (by decide +kernel), by decide +kernel, by rw [isSubtype_type]; kernel_rfl, slot_map_init⟩
theorem typeCall_map_2 (a b : Value) : checkTypeCall "map" ⟨[a, b], []⟩ = pure () := by kernel_rfl
theorem newCall_map_2 (a b : Value) : checkBuiltinCall "map.__new__" ⟨[.type "map", a, b], []⟩ = pure () := by kernel_rfl
theorem sub_map : isSubtype (.type "map") (.type "map") = pure true := by rw [isSubtype_type]; kernel_rfl
theorem map_no_len : typeLookup (.type "map") "__len__" = pure none := by rw [typeLookup_type, builtinLookup_eq_fast]; kernel_rfl
theorem map_no_hint : typeLookup (.type "map") "__length_hint__" = pure none := by rw [typeLookup_type, builtinLookup_eq_fast]; kernel_rfl

abbrev IsMap (h : Heap) (z T : Addr) (f : Value) : Prop := h.get? z = some { cls := .type "map", dict := none, data := .fields #[.ref T, f], slots := #[] }
abbrev IsOne (h : Heap) (T : Addr) (a : Value) : Prop := h.get? T = some { cls := .type "tuple", data := .seq #[a] }

section
variable {prog : Program} {w : World} {A : Around} {E : Value → Shared → Prop} {s : Shared}
theorem map_next_item {z T it l : Addr} {i : Nat} {items : Array Value} {x f : Value} {Q : Value → Shared → Prop} (hz : IsMap s.heap z T f) (hT : IsOne s.heap T (.ref it)) (hzi : z ≠ it)
    (h1 : s.heap.IsListIter it l i) (hl : s.heap.IsList l items) (hx : items[i]? = some x)
    (hcall : ∀ h₂, h₂.IsListIter it l (i + 1) → Heap.SameBut it s.heap h₂ → wpAny (model prog w) A (call f [x]) Q E { s with heap := h₂ }) :
    wpAny (model prog w) A (Builtin.«map.__next__» ⟨[.ref z], []⟩) (fun fin s' => ∃ v, fin = .done (.ret v) ∧ Q v s') E s := by
  show wpAny _ _ (field (.ref z) 0 >>= _) _ _ _
  refine wpAny_bind (wpAny_field hz rfl (x := .ref T) rfl ?_)
  refine wpAny_bind (wpAny_seqItems hT rfl ?_)
  refine wpAny_bind ?_
  simp only [List.forIn_toArray, List.forIn_cons, List.forIn_nil]
  refine wpAny_bind (wpAny_bind (wpAny_holding ?_))
  refine wpAny_nextOf_list_item h1 hl hx fun h₂ h1₂ hs₂ => ?_
  refine wpAny_pure ?_
  refine wpAny_pure ?_
  have hz₂ : IsMap h₂ z T f := hs₂.extBut _ _ hzi hz
  refine wpAny_bind (wpAny_field hz₂ rfl (x := f) rfl ?_)
  refine wpAny_bind (wpAny_holding ?_)
  refine wpAny_mono (hcall h₂ h1₂ hs₂) (fun v s' hv => ?_) fun _ _ e => e
  refine wpAny_bind (wpAny_letGo ?_)
  exact wpAny_pure ⟨_, rfl, hv⟩
theorem map_next_end {z T it l : Addr} {i : Nat} {items : Array Value} {f : Value} {Q : Fin → Shared → Prop} (hh : A.handled = none) (hz : IsMap s.heap z T f) (hT : IsOne s.heap T (.ref it))
    (h1 : s.heap.IsListIter it l i) (hl : s.heap.IsList l items) (hx : items[i]? = none)
    (hE : ∀ h' e, Heap.ExtBut it s.heap h' → (∃ o, h'.get? e = some o ∧ o.cls = .type "StopIteration") → E (.ref e) { s with heap := h' }) :
    wpAny (model prog w) A (Builtin.«map.__next__» ⟨[.ref z], []⟩) Q E s := by
  show wpAny _ _ (field (.ref z) 0 >>= _) _ _ _
  refine wpAny_bind (wpAny_field hz rfl (x := .ref T) rfl ?_)
  refine wpAny_bind (wpAny_seqItems hT rfl ?_)
  refine wpAny_bind ?_
  simp only [List.forIn_toArray, List.forIn_cons, List.forIn_nil]
  refine wpAny_bind (wpAny_bind (wpAny_holding ?_))
  exact wpAny_nextOf_list_end hh h1 hl hx hE
theorem pyNext_map_item {z T it l : Addr} {i : Nat} {items : Array Value} {x f : Value} {Q : Option Value → Shared → Prop} (hz : IsMap s.heap z T f) (hT : IsOne s.heap T (.ref it)) (hzi : z ≠ it)
    (h1 : s.heap.IsListIter it l i) (hl : s.heap.IsList l items) (hx : items[i]? = some x)
    (hcall : ∀ E' h₂, h₂.IsListIter it l (i + 1) → Heap.SameBut it s.heap h₂ → wpAny (model prog w) A.in1 (call f [x]) (fun v s' => Q (some v) s') E' { s with heap := h₂ }) :
    wpAny (model prog w) A (pyNext (.ref z)) Q E s := by
  have hT' : s.TypeIs (.ref z) "map" := ⟨_, hz, rfl⟩
  unfold pyNext
  refine wpAny_bind (wpAny_attempt (wpAny_callSpecial?_slot (name := Str.ofString "__next__") hT' slot_map_next
    (wpAny_call_entry slot_map_next hT' entry_map_next (map_next_item hz hT hzi h1 hl hx fun h₂ h1₂ hs₂ => wpAny_mono (hcall _ h₂ h1₂ hs₂) (fun v s' hv => wpAny_pure hv) fun _ _ e => e) (args_map_next_1 _))))
theorem pyNext_map_end {z T it l : Addr} {i : Nat} {items : Array Value} {f : Value} {Q : Option Value → Shared → Prop} (hh : A.handled = none) (hz : IsMap s.heap z T f) (hT : IsOne s.heap T (.ref it))
    (h1 : s.heap.IsListIter it l i) (hl : s.heap.IsList l items) (hx : items[i]? = none)
    (hQ : ∀ h', Heap.ExtBut it s.heap h' → Q none { s with heap := h' }) :
    wpAny (model prog w) A (pyNext (.ref z)) Q E s := by
  have hT' : s.TypeIs (.ref z) "map" := ⟨_, hz, rfl⟩
  unfold pyNext
  refine wpAny_bind (wpAny_attempt (wpAny_callSpecial?_slot (name := Str.ofString "__next__") hT' slot_map_next
    (wpAny_call_entry slot_map_next hT' entry_map_next (map_next_end hh hz hT h1 hl hx fun h' e hk he => ?_) (args_map_next_1 _))))
  obtain ⟨o, ho, hc⟩ := he
  refine wpAny_bind (wpAny_isInstance (T := "StopIteration") (b := true) ⟨o, ho, hc⟩ isSubtype_stop ?_)
  exact wpAny_pure (hQ _ hk)
theorem pyIter_map {z T : Addr} {f : Value} {Q : Value → Shared → Prop} (hz : IsMap s.heap z T f) (h : Q (.ref z) s) : wpAny (model prog w) A (pyIter (.ref z)) Q E s := by
  have hT : s.TypeIs (.ref z) "map" := ⟨_, hz, rfl⟩
  refine wpAny_pyIter_slot hT slot_map_iter (wpAny_call_entry slot_map_iter hT entry_map_iter ?_ (args_map_iter_1 _))
  exact wpAny_pure ⟨_, rfl, "map", _, hT, slot_map_next.lookup, h⟩
end
theorem meets_map_new (l : Addr) (f : Value) (items : Array Value) :
    Meets (Builtin.«map.__new__» ⟨[.type "map", f, .ref l], []⟩) (fun _ R s => s.heap.IsList l items ∧
      R (.ok (.ret (.ref ((s.heap.push { cls := .type "list_iterator", data := .fields #[.ref l, .int 0 0] }).push { cls := .type "tuple", data := .seq #[.ref s.heap.objs.size] }).objs.size)))
        { s with heap := ((s.heap.push { cls := .type "list_iterator", data := .fields #[.ref l, .int 0 0] }).push { cls := .type "tuple", data := .seq #[.ref s.heap.objs.size] }).push { cls := .type "map", data := .fields #[.ref (s.heap.push { cls := .type "list_iterator", data := .fields #[.ref l, .int 0 0] }).objs.size, f] } }) :=
  .of_wp fun prog w A R s h => by
    obtain ⟨hl, h⟩ := h
    have hsub := sub_map
    unfold Builtin.«map.__new__»
    wp_walk using wpAny_pyIter_list hl
    exact ⟨_, rfl, h⟩
section
variable {prog : Program} {w : World} {A : Around} {E : Value → Shared → Prop} {s : Shared}
theorem call_map {l : Addr} {f : Value} {items : Array Value} {Q : Value → Shared → Prop} (hl : s.heap.IsList l items)
    (h : ∀ h', IsMap h' (s.heap.objs.size + 2) (s.heap.objs.size + 1) f → IsOne h' (s.heap.objs.size + 1) (.ref s.heap.objs.size) → h'.IsListIter s.heap.objs.size l 0 → h'.objs.size = s.heap.objs.size + 3 →
      (∀ c o, s.heap.get? c = some o → h'.get? c = some o) → Q (.ref (s.heap.objs.size + 2)) { s with heap := h' }) :
    wpAny (model prog w) A (call (.type "map") [f, .ref l]) Q E s := by
  refine callType_new called_map (by decide) (typeCall_map_2 _ _) (newCall_map_2 _ _) (fun obj => F.args_object_init_3 obj _ _) entry_map_new (meets_map_new l f items) ⟨hl, ?_⟩
  have z1 : (s.heap.push { cls := .type "list_iterator", data := .fields #[.ref l, .int 0 0] }).objs.size = s.heap.objs.size + 1 := Heap.size_push ..
  have z2 : ((s.heap.push { cls := .type "list_iterator", data := .fields #[.ref l, .int 0 0] }).push { cls := .type "tuple", data := .seq #[.ref s.heap.objs.size] }).objs.size = s.heap.objs.size + 2 := by rw [Heap.size_push, z1]
  have g3 := Heap.get?_push_size ((s.heap.push { cls := .type "list_iterator", data := .fields #[.ref l, .int 0 0] }).push { cls := .type "tuple", data := .seq #[.ref s.heap.objs.size] }) (o := { cls := .type "map", data := .fields #[.ref (s.heap.push { cls := .type "list_iterator", data := .fields #[.ref l, .int 0 0] }).objs.size, f] }) rfl
  have g2 := Heap.get?_push_of_some { cls := .type "map", data := .fields #[.ref (s.heap.push { cls := .type "list_iterator", data := .fields #[.ref l, .int 0 0] }).objs.size, f] } (Heap.get?_push_size (s.heap.push { cls := .type "list_iterator", data := .fields #[.ref l, .int 0 0] }) (o := { cls := .type "tuple", data := .seq #[.ref s.heap.objs.size] }) rfl)
  have g1 := Heap.get?_push_of_some { cls := .type "map", data := .fields #[.ref (s.heap.push { cls := .type "list_iterator", data := .fields #[.ref l, .int 0 0] }).objs.size, f] } (Heap.get?_push_of_some { cls := .type "tuple", data := .seq #[.ref s.heap.objs.size] } (Heap.get?_push_size s.heap (o := { cls := .type "list_iterator", data := .fields #[.ref l, .int 0 0] }) rfl))
  show _ ∧ _
  rw [z2] at g3
  rw [z1] at g2 g3 g1
  rw [z2, z1]
  exact ⟨⟨_, g3, rfl⟩, h _ g3 g2 ⟨_, g1, rfl, rfl⟩ (by rw [Heap.size_push, z2]) fun c o x => Heap.get?_push_of_some _ (Heap.get?_push_of_some _ (Heap.get?_push_of_some _ x))⟩
end
section
variable {prog : Program} {w : World} {A : Around} {E : Value → Shared → Prop} {s : Shared} {I : Addr} {fp wr : List Addr} {G : Array GenState → Array GenState → Prop} {n : Nat} {P : Nat → Value → Prop} {St : Nat → Shared → Prop}
theorem collect_map {Q : List Value → Shared → Prop} (W : WalksS prog w A.in1 I fp wr G n P St) (hT : ∀ i s, St i s → s.TypeIs (.ref I) "map") (hst : St 0 s) (hfp : ∀ b ∈ fp, b < s.heap.objs.size) (hI : I ∈ fp)
    (hQ : ∀ s' acc, Moved wr G s s' → ItemsOf P acc n → Q acc.toList s') (hn : n ≤ sizeLine := by size_fits) : wpAny (model prog w) A (collect (.ref I)) Q E s := by
  have hSf : s.heap.objs.size ∉ fp := fun hm => Nat.lt_irrefl _ (hfp _ hm)
  have hSI : s.heap.objs.size ≠ I := fun e => hSf (e ▸ hI)
  unfold collect
  refine wpAny_bind (wpAny_runValue (codeAny_builtin F.entry_proto_collect ?_))
  rw [Around.under_plainId F.plain_proto_collect _]
  show wpAny _ A.in1 (newList [] >>= fun l => again (.builtin "list.__iadd__" ⟨[l, .ref I], []⟩)) _ _ s
  refine wpAny_bind (wpAny_newObj_type ?_)
  refine wpAny_pure ⟨plainId_quiet F.plain_list_iadd _, codeAny_builtin F.entry_list_iadd ?_⟩
  rw [Around.under_plainId F.plain_list_iadd _]
  have hst₁ := W.frame 0 s (s.heap.push { cls := .type "list", data := .seq ([] : List Value).toArray }) s.toks hst (Nat.le_refl _) fun b _ o e => Heap.get?_push_of_some _ e
  show wpAny _ A.in1 (Builtin.List.listExtendWith (.ref s.heap.objs.size) (.ref I) (.ref s.heap.objs.size)) _ _ _
  unfold Builtin.List.listExtendWith
  refine wpAny_bind (wpAny_typeOf (hT 0 _ hst₁) ?_)
  have h1 : Builtin.List.listSameRef (.ref s.heap.objs.size) (.ref I) = false := by simp [Builtin.List.listSameRef, hSI]
  have h2 : (Value.type "map" == Value.type "list") = false := by decide
  have h3 : (Value.type "map" == Value.type "tuple") = false := by decide
  simp only [h1, h2, h3, Bool.or_false, Bool.false_eq_true, if_false]
  refine wpAny_bind (W.self 0 _ _ _ hst₁ ?_)
  refine wpAny_bind (wpAny_holding ?_)
  unfold Builtin.List.listLengthHint
  refine wpAny_bind (wpAny_specialOf (hT 0 _ hst₁) map_no_len ?_)
  show wpAny _ A.in1 (specialOf (Value.ref I) (Str.ofString "__length_hint__") >>= _) _ _ _
  refine wpAny_bind (wpAny_specialOf (hT 0 _ hst₁) map_no_hint ?_)
  refine wpAny_pure ?_
  show wpAny _ A.in1 (rule "list.extend.makes-room" >>= fun _ => Builtin.List.listTouch (.ref s.heap.objs.size) >>= fun _ =>
    again (.builtin "list.extend.loop" ⟨[.ref s.heap.objs.size, .ref I, .ref s.heap.objs.size], []⟩)) _ _ _
  refine wpAny_bind (wpAny_rule ?_)
  have hS₁ : (s.heap.push { cls := .type "list", data := .seq ([] : List Value).toArray }).get? s.heap.objs.size = some { cls := .type "list", data := .seq ([] : List Value).toArray } := Heap.get?_push_size _ rfl
  refine wpAny_bind ?_
  show wpAny _ A.in1 (updateSeq s.heap.objs.size (·.push .none) >>= fun _ => updateSeq s.heap.objs.size (·.pop)) _ _ _
  refine wpAny_bind (wpAny_updateSeq hS₁ rfl ?_)
  have hS₂ := Heap.get?_update_self (Obj.mapSeq (·.push Value.none)) hS₁ rfl
  refine wpAny_updateSeq hS₂ rfl ?_
  have hS₃ := Heap.get?_update_self (Obj.mapSeq (·.pop)) hS₂ rfl
  have oth : ∀ b o, b ≠ s.heap.objs.size → (s.heap.push { cls := .type "list", data := .seq ([] : List Value).toArray }).get? b = some o →
      (((s.heap.push { cls := .type "list", data := .seq ([] : List Value).toArray }).update s.heap.objs.size (Obj.mapSeq (·.push Value.none))).update s.heap.objs.size (Obj.mapSeq (·.pop))).get? b = some o :=
    fun b o hb e => (Heap.get?_update_other _ _ (Ne.symm hb)).trans ((Heap.get?_update_other _ _ (Ne.symm hb)).trans e)
  refine wpAny_pure ⟨plainId_quiet F.plain_extend_loop _, codeAny_extend_loopS W hn _ hSf _ n 0 _ _ _ rfl (Nat.zero_le _)
    (W.frame 0 ({ s with heap := s.heap.push { cls := .type "list", data := .seq ([] : List Value).toArray } } : Shared) _ s.toks hst₁ (Nat.le_refl _) fun b hb o e => oth b o (fun h => hSf (h ▸ hb)) e) hS₃ (ItemsOf.nil P) fun s' acc' c' hm hS' hacc => ?_⟩
  show wpAny _ A (load s.heap.objs.size >>= _) _ _ s'
  refine wpAny_bind (wpAny_load hS' ?_)
  refine wpAny_pure (hQ s' acc' (Moved.drop_new (o := { cls := .type "list", data := .seq ([] : List Value).toArray }) (tk := s.toks) (Moved.trans W.gtrans ((Moved.refl W.grefl).then_heap (by first | exact Nat.le_refl _ | exact Nat.le_succ _ | omega) fun b o hb e => ?_) hm) (Nat.le_refl _)) hacc)
  exact oth b o (fun h => hb (by rw [h]; exact List.mem_cons_self)) e
theorem code_tuple_new_map {Q₁ : Value → Shared → Prop} (W : WalksS prog w A.in1.in1 I fp wr G n P St) (hT : ∀ i s, St i s → s.TypeIs (.ref I) "map") (hst : St 0 s) (hfp : ∀ b ∈ fp, b < s.heap.objs.size) (hI : I ∈ fp)
    (h : ∀ s' acc, Moved wr G s s' → ItemsOf P acc n → Q₁ (.ref s'.heap.objs.size) { s' with heap := s'.heap.push { cls := .type "tuple", data := .seq acc } }) (hsz : n ≤ sizeLine := by size_fits) :
    codeAny (model prog w) A (.call (.builtin "tuple.__new__") ⟨[.type "tuple", .ref I], []⟩) (wants Q₁ E) s := by
  refine codeAny_of_tree ?_
  show wpAny _ A.in1 (do checkBuiltinCall "tuple.__new__" ⟨[.type "tuple", .ref I], []⟩; again (.builtin "tuple.__new__" ⟨[.type "tuple", .ref I], []⟩)) _ _ s
  refine wpAny_bind (wpAny_of_eq (F.newCall_tuple_1 _) (wpAny_pure ⟨plainId_quiet F.plain_tuple_new _, codeAny_builtin F.entry_tuple_new ?_⟩))
  rw [Around.under_plainId F.plain_tuple_new _]
  have hsub := sub_tuple_self
  have hinit := init_tuple_lookup
  have hmh := madeHere_tuple
  have hTI := hT 0 s hst
  wp_walk using wpAny_typeOf hTI, collect_map (hn := hsz) W hT hst hfp hI
  intro s' acc hm hacc
  show wpAny _ _ (Builtin.Tuple.tupleExact acc.toList.toArray >>= fun v => ret v) _ _ _
  unfold Builtin.Tuple.tupleExact
  refine wpAny_bind (wpAny_newObj_type ?_ (by show acc.toList.toArray.size ≤ sizeLine; simp only [Array.toArray_toList]; rw [hacc.1]; exact hsz))
  refine wpAny_pure ?_
  have e : acc.toList.toArray = acc := by simp
  rw [e]
  exact h s' acc hm hacc
theorem call_tuple_map {Q : Value → Shared → Prop} (W : WalksS prog w A.in1.in1.in1 I fp wr G n P St) (hT : ∀ i s, St i s → s.TypeIs (.ref I) "map") (hst : St 0 s) (hfp : ∀ b ∈ fp, b < s.heap.objs.size) (hI : I ∈ fp)
    (hQ : ∀ s' acc, Moved wr G s s' → ItemsOf P acc n → Q (.ref s'.heap.objs.size) { s' with heap := s'.heap.push { cls := .type "tuple", data := .seq acc } }) (hsz : n ≤ sizeLine := by size_fits) :
    wpAny (model prog w) A (call (.type "tuple") [.ref I]) Q E s := by
  refine callType_codes (Q₁ := fun obj s₁ => s₁.TypeIs obj "tuple" ∧ Q obj s₁) F.called_tuple (F.typeCall_tuple_1 _) F.entry_object_init
    (code_tuple_new_map (hsz := hsz) W hT hst hfp hI fun s' acc hm hacc => ⟨⟨_, Heap.get?_push_size _ rfl, rfl⟩, hQ s' acc hm hacc⟩) fun obj s₁ h₁ => ?_
  exact ⟨h₁.1, F.args_object_init_2 obj _, object_init_meets F.called_tuple.init.lookup F.called_tuple.made (by decide) prog w A.in1 _ s₁ ⟨h₁.1, rfl, h₁.2⟩⟩
end
end Mine
end MapW
/-! ## MapR -/
section MapR
open PySem PySem.W PyProof.Rows PySem.Calls
set_option Elab.async false
set_option maxRecDepth 100000
set_option maxHeartbeats 8000000
namespace Mine
def IsIt (l : Addr) (i : Nat) (o : Obj) : Prop := o.cls = .type "list_iterator" ∧ o.data = .fields #[.ref l, .int i 0]
abbrev mapObj (T : Addr) (f : Value) : Obj := { cls := .type "map", dict := none, data := .fields #[.ref T, f], slots := #[] }
abbrev oneObj (I : Addr) : Obj := { cls := .type "tuple", data := .seq #[.ref I] }
theorem map_K {prog : Program} {w : World} {A : Around} {E : Value → Shared → Prop} {s : Shared} {h₀ : Heap} {L l : Addr} {m : Str → Option Value} {news : List (Addr × Obj)} {vs : List Value} {c : Nat} {f : Value} {Q : Value → Shared → Prop}
    (F : Fr h₀ L s.heap m) (N : News h₀ L s.heap news) (hl : (l, W.listOf vs.toArray c) ∈ news)
    (h : ∀ z T I oI h', Fr h₀ L h' m → News h₀ L h' ((z, mapObj T f) :: (T, oneObj I) :: (I, oI) :: news) → (∀ p ∈ news, p.1 < I) → @LT.lt Nat _ I T → @LT.lt Nat _ T z → IsIt l 0 oI → Q (.ref z) { s with heap := h' }) :
    wpAny (model prog w) A (call (.type "map") [f, .ref l]) Q E s := by
  refine call_map (items := vs.toArray) ⟨_, (N _ hl).1, rfl, _, rfl⟩ fun h' hz hT hI hsz hk => ?_
  have new : ∀ a, s.heap.objs.size ≤ a → h₀.get? a = none := fun a ha => by
    cases e : h₀.get? a with
    | none => rfl
    | some o => exact absurd (Heap.lt_size (F.keep _ _ e)) (Nat.not_lt.mpr ha)
  have neL : ∀ a, s.heap.objs.size ≤ a → a ≠ L := fun a ha e => absurd F.ns.lt (by rw [← e]; exact Nat.not_lt.mpr ha)
  obtain ⟨oI, hI', hI''⟩ := hI
  refine h _ _ s.heap.objs.size oI h' (F.keeps hk) (fun p hp => ?_) (fun p hp => Heap.lt_size (N p hp).1) (Nat.lt_succ_self _) (Nat.lt_succ_self _) hI''
  rcases List.mem_cons.mp hp with rfl | hp
  · exact ⟨hz, neL _ (Nat.le_add_right _ _), new _ (Nat.le_add_right _ _)⟩
  rcases List.mem_cons.mp hp with rfl | hp
  · exact ⟨hT, neL _ (Nat.le_succ _), new _ (Nat.le_succ _)⟩
  rcases List.mem_cons.mp hp with rfl | hp
  · exact ⟨hI', neL _ (Nat.le_refl _), new _ (Nat.le_refl _)⟩
  · exact ⟨hk _ _ (N p hp).1, (N p hp).2⟩

theorem items_eq {vs : List Value} {acc : Array Value} (h : ItemsOf (fun i v => vs[i]? = some v) acc vs.length) : acc = vs.toArray := by
  apply Array.ext'
  apply List.ext_getElem?
  intro i
  show acc.toList[i]? = vs[i]?
  rw [Array.getElem?_toList]
  by_cases hi : i < acc.size
  · have := h.2 i acc[i] (by simp [hi])
    dsimp only at this
    rw [this]
    simp [hi]
  · have h2 : ¬ i < vs.length := by rw [← h.1]; exact hi
    simp only [Nat.not_lt] at hi h2
    rw [List.getElem?_eq_none h2, Array.getElem?_eq_none hi]

theorem tuple_map_K {w : World} {mean : ExcName → Option Value} {mg mb : Str → Option Value} {dp un : Nat} {gd : Option (List Code)} {cn : Str} {cs : Scope} {a : Addr} {ccd : Value} {cl : List (Str × Addr)} {outer : List Env} {A₀ : Around} {base h₀ : Heap} {L : Addr} {m : Str → Option Value} {s : Shared} {Q E : Value → Shared → Prop} {rest : List (Addr × Obj)}
    {z T I l : Addr} {oI : Obj} {vs : List Value} {c : Nat}
    (B : Below A₀ base outer h₀) (F : Fr h₀ L s.heap m) (X : (Mine.hd.heap_1 w.params).In h₀) (N : News h₀ L s.heap ((z, mapObj T (.ref 108)) :: (T, oneObj I) :: (I, oI) :: rest)) (hT : Top Mine.hd.view (looseW Mine.hd.view []) mean mg mb h₀) (hk : cs.kind = .function)
    (hd : dp + 1 < recursionLimit) (hu : un + 12 < cLine)
    (hm : (l, W.listOf vs.toArray c) ∈ rest) (hvs : ∀ v ∈ vs, ∃ x t, v = .str x t) (hIt : IsIt l 0 oI) (hlt : ∀ p ∈ rest, p.1 < I) (hIT : @LT.lt Nat _ I T) (hTz : @LT.lt Nat _ T z) (hsz : vs.length ≤ sizeLine)
    (h : ∀ D h' tk, Fr h₀ L h' m → News h₀ L h' ((D, { cls := .type "tuple", data := .seq vs.toArray }) :: rest) → (∀ p ∈ rest, p.1 < D) → Q (.ref D) { s with heap := h', toks := tk }) :
    wpAny (model PySem.Challenge.rw_pd0077_01.row.prog w) (ktrTop dp un gd cn cs L a ccd cl outer) (call (.type "tuple") [.ref z]) Q E s := by
  have gz := (N _ (.head _)).1
  have gT := (N _ (.tail _ (.head _))).1
  have gI := (N _ (.tail _ (.tail _ (.head _)))).1
  have gl := (N _ (.tail _ (.tail _ (.tail _ hm)))).1
  have hI0 := (N _ (.tail _ (.tail _ (.head _)))).2.2
  have hIL : L ≠ I := Ne.symm (N _ (.tail _ (.tail _ (.head _)))).2.1
  have hlI : l ≠ I := Nat.ne_of_lt (hlt _ hm)
  have hzI : z ≠ I := (Nat.ne_of_lt (Nat.lt_trans hIT hTz)).symm
  have hTI : T ≠ I := (Nat.ne_of_lt hIT).symm
  have Wk : WalksS PySem.Challenge.rw_pd0077_01.row.prog w (ktrTop dp un gd cn cs L a ccd cl outer).in1.in1.in1 z (List.range s.heap.objs.size) [I] (fun a b => b = a) vs.length (fun i v => vs[i]? = some v)
      (fun i s' => (∀ b o, b ≠ I → s.heap.get? b = some o → s'.heap.get? b = some o) ∧ s'.heap.IsListIter I l i) := {
    sub := fun b hb => by
      rw [List.mem_singleton.mp hb]
      exact List.mem_range.mpr (Heap.lt_size gI)
    grefl := fun _ => rfl
    gtrans := fun _ _ _ h1 h2 => h2.trans h1
    frame := by
      rintro i s' h' tk ⟨h1, o, h2, h3⟩ _ hk'
      refine ⟨fun b o hb e => hk' b (List.mem_range.mpr (Heap.lt_size e)) o (h1 b o hb e), o, hk' I (List.mem_range.mpr (Heap.lt_size gI)) o h2, h3⟩
    item := by
      rintro i s' Q' E' hi ⟨h1, h2⟩ hQ
      refine wpAny_with_toks (Nat.le_refl s'.toks) ?_
      have hvi : vs[i]? = some vs[i] := by simp [hi]
      refine pyNext_map_item (i := i) (items := vs.toArray) (x := vs[i]) (h1 z _ hzI gz) (h1 T _ hTI gT) hzI h2 ⟨_, h1 l _ hlI gl, rfl, _, rfl⟩ (by simpa using hvi) fun E'' h₂ h₃ h₄ => ?_
      obtain ⟨x, t, hx⟩ := hvs vs[i] (List.getElem_mem hi)
      rw [hx] at hvi ⊢
      have F₂ : Fr h₀ L h₂ m := ⟨F.ns.at' fun o e => h₄.extBut L o hIL (h1 L o hIL e), fun b o e => h₄.extBut b o (fun q => by rw [q, hI0] at e; cases e) (h1 b o (fun q => by rw [q, hI0] at e; cases e) (F.keep b o e)), F.above⟩
      refine t_fspath x t w mean mg mb dp (un + 4) gd cn cs a ccd cl outer A₀ base h₀ L m { s' with heap := h₂ } _ _ B F₂ X hT hk trivial hd (by omega) ?_
      intro t' h' tk' F' K' ht
      refine hQ _ _ hvi ⟨fun b o hb e => K' b o (h₄.extBut b o hb (h1 b o hb e)), ?_⟩ ⟨fun b o hb e => K' b o (h₄.extBut b o (by simpa using hb) e), rfl, rfl, rfl, ht⟩
      obtain ⟨o, e, r⟩ := h₃
      exact ⟨o, K' _ _ e, r⟩
    done := by
      rintro s' Q' E' ⟨h1, h2⟩ hQ
      refine pyNext_map_end (i := vs.length) (items := vs.toArray) rfl (h1 z _ hzI gz) (h1 T _ hTI gT) h2 ⟨_, h1 l _ hlI gl, rfl, _, rfl⟩ (by simp) fun h' hx => ?_
      exact hQ _ ⟨fun b o hb e => hx b o (by simpa using hb) e, rfl, rfl, rfl, Nat.le_refl _⟩
    self := by
      rintro i s' Q' E' ⟨h1, h2⟩ hQ
      exact pyIter_map (h1 z _ hzI gz) hQ }
  refine call_tuple_map (hsz := hsz) Wk (fun i s' hst => ⟨_, hst.1 z _ hzI gz, rfl⟩) ⟨fun _ _ _ e => e, oI, gI, hIt⟩ (fun b hb => List.mem_range.mp hb) (List.mem_range.mpr (Heap.lt_size gz)) fun s' acc hmv hacc => ?_
  rw [items_eq hacc]
  have F' : Fr h₀ L s'.heap m := ⟨F.ns.at' fun o e => hmv.heap L o (by simpa using hIL) e, fun b o e => hmv.heap b o (fun q => by rw [List.mem_singleton.mp q, hI0] at e; cases e) (F.keep b o e), F.above⟩
  have N' : News h₀ L s'.heap rest := fun p hp => ⟨hmv.heap _ _ (by simpa using Nat.ne_of_lt (hlt p hp)) (N _ (.tail _ (.tail _ (.tail _ hp)))).1, (N _ (.tail _ (.tail _ (.tail _ hp)))).2⟩
  obtain ⟨h1, h2, h3, h4, h5⟩ := hmv
  cases s'
  dsimp only at *
  subst h2 h3 h4
  exact h _ _ _ (F'.push _) (N'.push F' _) (fun p hp => Heap.lt_size (N' p hp).1)
end Mine
namespace Mine
theorem allLt_back {d : Addr} : ∀ {l : List (Addr × Obj)}, AllLt d l → ∀ p ∈ l, p.1 < d
  | [], _, _, h => nomatch h
  | p :: r, x, q, h => by
    rcases List.mem_cons.mp h with rfl | h
    · exact x.1
    · exact allLt_back x.2 q h
end Mine
end MapR
/-! ## Enum -/
section Enum
open PySem PySem.W PyProof.Rows PySem.Calls
set_option Elab.async false
set_option maxRecDepth 100000
set_option maxHeartbeats 8000000
namespace Mine
structure Mark (n : Nat) : Prop
section
variable {prog : Program} {w : World} {A : Around} {s : Shared} {env : Env} {h₀ : Heap} {E : Value → Shared → Prop} {Q : Flow → Shared → Prop} {body : List Stmt} {m : Str → Option Value} {news : List (Addr × Obj)} {elts : List Expr} {k : Nat} {pos : Pos}
theorem unrPost_mono {L : Addr} {s₁ : Shared} {its : List (Addr × Obj)} {rest rest' : (Str → Option Value) → List (Addr × Obj) → Prop} {f : Flow} {s₂ : Shared} (h : UnrPostW h₀ L s₁ its rest Q f s₂) (hr : ∀ m n, rest m n → rest' m n) : UnrPostW h₀ L s₁ its rest' Q f s₂ := by
  cases f with
  | ret v => exact h
  | brk => exact h
  | cont => obtain ⟨h', tk, m', n', e, F, N, o, r⟩ := h; exact ⟨h', tk, m', n', e, F, N, o, hr _ _ r⟩
  | next => obtain ⟨h', tk, m', n', e, F, N, o, r⟩ := h; exact ⟨h', tk, m', n', e, F, N, o, hr _ _ r⟩

theorem items_inv {ws : List (Addr × String)} {keep : List (Addr × Obj)} {vs : List Value} (xs : List Str) (J : Nat → List (Option Value) → List (Addr × Obj) → Prop)
    (turn : ∀ i v T t us news₁ h tk, i < vs.length → vs[i]? = some v → J i us news₁ → SubL keep news₁ → IsTup h T #[.int (i : Int) t, v] → Fr h₀ env.locals h (updMap xs us m) → AllObj ws (fun its => News h₀ env.locals h (its ++ news₁) →
      wpAny (model prog w) A (assign (.Tuple elts k pos) env (.ref T)) (fun _ s₂ => wpAny (model prog w) A (execs body env)
        (UnrPostW h₀ env.locals { s with heap := h, toks := tk } its (fun m' n' => SubL keep n' ∧ JX xs m (J (i + 1)) m' n') Q) E s₂) E { s with heap := h, toks := tk }))
    (done : ∀ us news₁ h tk, J vs.length us news₁ → Fr h₀ env.locals h (updMap xs us m) → News h₀ env.locals h news₁ → Q .next { s with heap := h, toks := tk }) :
    ∀ (j i : Nat) (m₁ : Str → Option Value) (news₁ : List (Addr × Obj)), i + j = vs.length → SubL keep news₁ → JX xs m (J i) m₁ news₁ →
      ItemsRest prog w A E h₀ env (.Tuple elts k pos) body Q s ws keep (enumItems i (vs.drop i)) m₁ news₁
  | 0, i, m₁, news₁, hi, hk, hJ => by
    have hi' : i = vs.length := by omega
    subst hi'
    rw [List.drop_length]
    refine ItemsRest.zero fun h tk F N => ?_
    exact done (xs.map m₁) news₁ h tk hJ.2 (updMap_self xs hJ.1 ▸ F) N
  | j + 1, i, m₁, news₁, hi, hk, hJ => by
    have hlt : i < vs.length := by omega
    rw [List.drop_eq_getElem_cons hlt]
    refine ItemsRest.pair fun T t h tk hT F => ?_
    have q := turn i vs[i] T t (xs.map m₁) news₁ h tk hlt (by simp [hlt]) hJ.2 hk hT (updMap_self xs hJ.1 ▸ F)
    have all : ∀ (ws : List (Addr × String)) (P R : List (Addr × Obj) → Prop), (∀ its, P its → R its) → AllObj ws P → AllObj ws R := by
      intro ws
      induction ws with
      | nil => intro P R h hP; exact h _ hP
      | cons w r ih => intro P R h hP o ho; exact ih _ _ (fun its => h _) (hP o ho)
    refine all _ _ _ (fun its hq N => ?_) q
    refine wpAny_mono (hq N) (fun _ s₂ h₂ => wpAny_mono h₂ (fun f s₃ h₃ => unrPost_mono h₃ fun m' n' r => ⟨r.1, ?_⟩) fun _ _ e => e) fun _ _ e => e
    exact items_inv xs J turn done j (i + 1) m' n' (by omega) r.1 r.2

theorem for_enumX {l : Addr} {lo : Obj} {vs : List Value} {n : Nat} (xs : List Str) (J : List (Addr × Obj) → Nat → List (Option Value) → List (Addr × Obj) → Prop) (hh : A.handled = none)
    (F : Fr h₀ env.locals s.heap m) (N : News h₀ env.locals s.heap news) (hm : (l, lo) ∈ news) (hlo : lo = W.listOf vs.toArray n) (hJ : J news 0 (xs.map m) news)
    (turn : ∀ I i v T t us news₁ h tk oE oI, (∀ p ∈ news, p.1 < I) → i < vs.length → vs[i]? = some v → J news i us news₁ → (l, lo) ∈ news₁ → IsTup h T #[.int (i : Int) t, v] → Fr h₀ env.locals h (updMap xs us m) → oE.cls = .type "enumerate" → oI.cls = .type "list_iterator" →
      News h₀ env.locals h ((I + 1, oE) :: (I, oI) :: news₁) →
      wpAny (model prog w) A (assign (.Tuple elts k pos) env (.ref T)) (fun _ s₂ => wpAny (model prog w) A (execs body env)
        (UnrPostW h₀ env.locals { s with heap := h, toks := tk } [(I + 1, oE), (I, oI)] (fun m' n' => SubL [(l, lo)] n' ∧ JX xs m (J news (i + 1)) m' n') Q) E s₂) E { s with heap := h, toks := tk })
    (done : ∀ us news₁ h tk, J news vs.length us news₁ → Fr h₀ env.locals h (updMap xs us m) → News h₀ env.locals h news₁ → Q .next { s with heap := h, toks := tk }) :
    wpAny (model prog w) A (call (.type "enumerate") [.ref l]) (fun xv s₁ => wpAny (model prog w) A (pyIter xv) (fun it s₂ => TurnsAt prog w A h₀ env (.Tuple elts k pos) body Q E it s₂) E s₁) E s := by
  refine ktu_enum (lo := lo) (vs := vs) (n := n) hh F N hm (by rw [hlo]) (by rw [hlo]) rfl fun I hI₀ => ?_
  refine items_inv xs (J news) (fun i v T t us news₁ h tk hi hv hJ₁ hk hT F₁ => ?_) done vs.length 0 m news (by omega) ⟨hm, trivial⟩ ⟨fun _ _ => rfl, hJ⟩
  refine AllObj.cons fun oE hE => AllObj.cons fun oI hI => AllObj.nil fun N₁ => ?_
  exact turn I i v T t us news₁ h tk oE oI hI₀ hi hv hJ₁ hk.1 hT F₁ hE hI N₁
theorem unrEnd_same {L : Addr} {its news' : List (Addr × Obj)} {rest : (Str → Option Value) → List (Addr × Obj) → Prop} {s₁ : Shared} {h' : Heap} {tk : Nat} {m' : Str → Option Value} (F : Fr h₀ L h' m') (N : News h₀ L h' (its ++ news')) (off : ∀ p ∈ news', ∀ q ∈ its, p.1 ≠ q.1) (r : rest m' news') :
    UnrEndW h₀ L s₁ its rest { s₁ with heap := h', toks := tk } := ⟨h', tk, m', news', rfl, F, N, off, r⟩
theorem off_two {I : Addr} {oE oI : Obj} {l : List (Addr × Obj)} (h : ∀ p ∈ l, p.1 < I) : ∀ p ∈ l, ∀ q ∈ [(I + 1, oE), (I, oI)], p.1 ≠ q.1 := by
  intro p hp q hq e
  have := h p hp
  rw [e] at this
  rcases List.mem_cons.mp hq with rfl | hq
  · exact Nat.lt_irrefl _ (Nat.lt_of_succ_lt this)
  · rw [List.mem_singleton.mp hq] at this; exact Nat.lt_irrefl _ this
end
end Mine
end Enum
/-! ## C9m -/
section C9m
theorem Mine.calm_C9m : True := by
  w_top off
  trivial
open PySem PySem.W PyProof.Rows PySem.Calls
set_option Elab.async false
set_option pp.deepTerms false
set_option pp.maxSteps 400
set_option maxRecDepth 100000
set_option maxHeartbeats 8000000
namespace Mine
local macro_rules | `(tactic| walk_at "call type:map") => `(tactic| ((have q9 : Mine.Mark 1 := by assumption); clear q9; k_here; (with_reducible show wpAny _ _ (call (Value.type _) [_, Value.ref _]) _ _ _); k_dflt (refine' Mine.map_K ?k1 ?k2 ?k3 ?_; (case k1 => k_asm); (case k2 => k_asm); (case k3 => k_mem); k_whole); intro z9 T9 I9 oI9 h9 F9 N9 L9 l19 l29 it9; (replace L9 := PySem.W.allLt_of L9); (dsimp only [PySem.W.AllLt] at L9)))
local macro_rules | `(tactic| walk_at "call type:tuple") => `(tactic| ((have q9 : Mine.Mark 1 := by assumption); clear q9; k_here; (with_reducible show wpAny _ _ (call (Value.type _) [Value.ref _]) _ _ _); k_dflt (refine' Mine.tuple_map_K ?k1 ?k2 ?k3 ?k4 ?k5 ?k6 ?k7 ?k8 ?k9 ?ka ?kb ?kc ?kd ?ke ?kf ?_; (case k1 => k_asm); (case k2 => k_asm); (case k3 => k_asm); (case k4 => assumption); (case k5 => k_asm); (case k6 => first | exact rfl | assumption); (case k7 => ktr_room); (case k8 => ktr_units); (case k9 => k_mem); (case ka => (intro v hv; simp only [List.mem_cons, List.not_mem_nil, or_false] at hv; rcases hv with rfl | rfl <;> exact ⟨_, _, rfl⟩)); (case kb => assumption); (case kc => exact Mine.allLt_back (by assumption)); (case kd => assumption); (case ke => assumption); (case kf => exact Nat.le_of_ble_eq_true rfl); k_whole); intro D9 h9 tk9 F9 N9 L9; (replace L9 := PySem.W.allLt_of L9); (dsimp only [PySem.W.AllLt] at L9)))
local macro_rules | `(tactic| walk_at "exec Try") => `(tactic| ((with_reducible show wpAny _ _ (exec (Stmt.Try _ (_ :: _) _ [] _) (envOfC _ _ _ _ _)) _ _ _); refine wpAny_Try_except ?_))
local macro_rules | `(tactic| walk_at "exec Assign cons ListComp") => `(tactic| ((have q9 : Mine.Mark 1 := by assumption); clear q9; k_here; k_dflt (refine Mine.Assign_ListComp_tup (_F₀ := by k_asm) (by rfl) (by with_unfolding_all rfl) (by with_unfolding_all rfl) (by decide) (by rfl) (by decide) (by rfl) (by rfl) (by rfl) ?_); (first | walk1 | (dsimp only; walk1)); k_dflt (refine Mine.SrcTup.ledger (by rfl) (by k_asm) (by k_asm) (by k_mem) (by first | size_fits | exact Nat.le_of_ble_eq_true rfl) ?_; intro g'; lcg_lit)))
local macro_rules | `(tactic| walk_at "call builtin:str.split") => `(tactic| (k_here; (with_reducible show wpAny _ _ (call (Value.builtin _) [Value.str _ _, Value.str _ _]) _ _ _); k_dflt (refine' Mine.split_K ?k1 ?k2 ?k3 ?k4 ?_; (case k1 => k_asm); (case k2 => k_asm); (case k3 => decide +kernel); (case k4 => (rw [PySem.sizeLine_eq]; omega)); k_whole); intro D9 vs9 h9 tk9 S9 F9 N9 L9; (replace L9 := PySem.W.allLt_of L9); (dsimp only [PySem.W.AllLt] at L9)))
local macro_rules | `(tactic| walk_at "eval SetComp") => `(tactic| ((have q9 : Mine.Mark 1 := by assumption); clear q9; k_here; k_dflt (refine Mine.SetComp_tup (_F₀ := by k_asm) (by with_unfolding_all rfl) (by decide) (by rfl) (by decide) (by rfl) ?_); (first | walk1 | (dsimp only; walk1)); k_dflt (refine Mine.SrcTupS.ledger (by rfl) (by k_asm) (by k_asm) (by k_mem) ?_; intro g'; refine Mine.compRestS_succ (k := 1) ?_; intro v' I' oI' C' oC' D' oD' m' h' tk' E' hv' hC' hx' F' N' off' ne'; (first | lcg_open hv' | (obtain ⟨t9', hv9'⟩ := hv'; subst hv9')); (try simp only [LCg.Off3, and_true] at off'))))
local macro_rules | `(tactic| walk_at "CompRestS") => `(tactic| (with_unfolding_all first
  | (refine Mine.compRestS_succ ?_; intro v' I' oI' C' oC' D' oD' m' h' tk' E' hv' hC' hx' F' N' off' ne'; (first | lcg_open hv' | (obtain ⟨t9', hv9'⟩ := hv'; subst hv9')); (try simp only [LCg.Off3, and_true] at off'))
  | refine Mine.compRestS_zero ?_))
local macro_rules | `(tactic| walk_at "FinS") => `(tactic| ((unfold Mine.FinS); intro D' h' tk' F' N' o1'; (replace N' := Mine.set_two N'); (try simp only [LCg.Off1, and_true] at o1'); (try dsimp only)))
local macro_rules | `(tactic| walk_at "assign Tuple") => `(tactic| ((have q9 : Mine.Mark 1 := by assumption); clear q9; k_here; (with_reducible show wpAny _ _ (assign (Expr.Tuple _ _ _) _ (Value.ref _)) _ _ _); k_dflt (refine' Mine.assign_setK ?k1 ?k2 ?k3 ?k4 ?_; (case k1 => exact rfl); (case k2 => k_asm); (case k3 => k_asm); (case k4 => k_mem); k_whole); intro h' F' N'))
local macro_rules | `(tactic| walk_at "exec Assign cons ListComp") => `(tactic| ((have q9 : Mine.Mark 1 := by assumption); clear q9; (with_reducible show wpAny _ _ (exec (Stmt.Assign _ (Expr.ListComp (Expr.ListComp _ _ _ _) _ _ _) _) _) _ _ _); refine Mine.stop_here ?_))
local macro_rules | `(tactic| walk_at "eval ListComp") => `(tactic| ((have q9 : Mine.Mark 2 := by assumption); clear q9; k_here; k_dflt (refine LCt.ListComp_T (F₀ := by k_asm) (by with_unfolding_all rfl) (by decide) (by rfl) (by decide) (by rfl) ?_); (first | walk1 | (dsimp only; walk1)); k_dflt (refine Mine.src_filter Mine.keepF (b := 1000) (by rfl) (by k_asm) (by k_asm) (by k_mem) (by assumption) (Mine.split_fits (by assumption) (by omega)) (Mine.split_small (by omega)) ?_ ?_); (case' refine_1 => (intro z' t' I' oI' C' oC' D' m' h' tk' ys' E' hz' hC' hx' F' N' off' ne')); (case' refine_2 => (intro g' ys' hys'))))
local macro_rules | `(tactic| walk_at "CompRest") => `(tactic| ((have q9 : Mine.Mark 2 := by assumption); clear q9; (with_unfolding_all first
  | (refine LCg.CompRest.succ ?_; intro v' I' oI' C' oC' D' m' h' tk' E' hv' hC' hx' F' N' off' ne'; lcg_open hv')
  | refine LCg.CompRest.zero ?_)))
local macro_rules | `(tactic| walk_at "FinE") => `(tactic| ((unfold LCg.FinE); intro D' h' tk' F' N' o1'; (try simp only [List.nil_append, List.cons_append] at N'); (try dsimp only)))
local macro_rules | `(tactic| walk_at "CompEnd") => `(tactic| (first
  | ((with_reducible show LCg.CompEnd _ _ _ _ _ _ _ _ _ _ _ (Mine.EndF _ _ _ _) _ _); k_dflt (refine LCg.CompEnd.intro (rest := Mine.EndF _ _ _ _) (by k_asm) (by k_asm) _ (fun p hp => hp) (by assumption) (by lcg_src) ?_))
  | (rename News _ _ _ _ => N7; rename Fr _ _ _ _ => F7; rename LCg.Off1 _ _ => o7; rename LCg.Off3 _ _ _ _ => p7; (with_reducible refine Mine.compEnd_off1 F7 N7 ?_ ?_ ?_ ?_); (exact o7); (exact p7); lcg_src)))
local macro_rules | `(tactic| walk_at "EndF") => `(tactic| first | exact Mine.endF_keep (by assumption) (by assumption) | exact Mine.endF_len (by assumption) | exact Mine.endF_dot (by assumption))
set_option hygiene false in
local macro_rules | `(tactic| walk_at "call builtin:min") => `(tactic| (k_here; (with_reducible show wpAny _ _ (call (Value.builtin _) [Value.ref _]) _ _ _); k_dflt (refine' Mine.minK ?k1 ?k2 ?k3 ?k4 ?k5 ?k6 ?k7 ?k8 ?k9 ?_; (case k1 => exact rfl); (case k2 => k_asm); (case k3 => k_asm); (case k4 => k_mem); (case k5 => k_mem); (case k6 => k_mem); (case k7 => assumption); (case k8 => assumption); (case k9 => ktr_units); k_whole); intro r1 v1 u1 h9 tk9 S1 P1 F9 N9))
set_option hygiene false in
local macro_rules | `(tactic| walk_at "call builtin:max") => `(tactic| (k_here; (with_reducible show wpAny _ _ (call (Value.builtin _) [Value.ref _]) _ _ _); k_dflt (refine' Mine.maxK ?k1 ?k2 ?k3 ?k4 ?k5 ?k6 ?k7 ?k8 ?k9 ?_; (case k1 => exact rfl); (case k2 => k_asm); (case k3 => k_asm); (case k4 => k_mem); (case k5 => k_mem); (case k6 => k_mem); (case k7 => assumption); (case k8 => assumption); (case k9 => ktr_units); k_whole); intro r2 v2 u2 h9 tk9 S2 P2 F9 N9))
local macro_rules | `(tactic| walk_at "exec For Tuple Call cons nil") => `(tactic| (refine Mine.stop_here ?_))
local macro_rules | `(tactic| walk_at "call type:enumerate") => `(tactic| (refine Mine.stop_here ?_))
local macro_rules | `(tactic| walk_at "subscriptTail Name Name ref int") => `(tactic| (k_here; k_dflt (refine' Mine.item_strs ?k1 ?k2 ?k3 ?k4 ?_; (case k1 => k_asm); (case k2 => k_mem); (case k3 => assumption); (case k4 => omega); k_whole)))
local macro_rules | `(tactic| walk_at "call builtin:str.join") => `(tactic| (k_here; (with_reducible show wpAny _ _ (call (Value.builtin _) [Value.str _ _, Value.ref _]) _ _ _); k_dflt (refine' join_listW ?j1 ?j2 ?j3 ?j4 ?_; (case j1 => is_list); (case j2 => assumption); (case j3 => decide +kernel); (case j4 => assumption); k_whole); intro _ _))
local macro_rules | `(tactic| walk_at "subscriptTail Name Slice ref ref") => `(tactic| (k_here; (with_reducible show wpAny _ _ (subscriptTail _ (PySem.Expr.Slice _ _ none _) (Value.ref _) (Value.ref _)) _ _ _); k_dflt (refine' PySem.W.kmk_slice ?F ?N ?l ?p ?q ?_ ?s ?t ?z; (case F => k_asm); (case N => k_asm); (case l => exact ⟨_, (News.get (by k_asm) (by k_mem)), rfl, _, rfl⟩); (case p => kmk_part); (case q => kmk_part); (case s => with_unfolding_all rfl); (case t => (intro _; with_unfolding_all rfl)); (case z => (rw [PySem.sizeLine_eq, List.size_toArray]; omega)); k_whole); intro D9 h9 F9 N9 L9; (replace L9 := PySem.W.allLt_of L9); (dsimp only [PySem.W.AllLt] at L9)))
theorem t_common (e p : Str) (te tp : Tok) (c : Nat) : ClaimL 155 3 ((e.length ≤ 1000 ∧ p.length ≤ 1000) ∧ Txt.startswith e (Str.ofString "/") = true ∧ Txt.startswith p (Str.ofString "/") = true) (W.listOf #[.str e te, .str p tp] c) (fun t => .str (comF e p) t) := by
  intro w mean mg mb dp un gd cn cs a ccd cl outer A₀ base h₀ L l m s Q E B F KX N T hk hpre hd hu hret
  obtain ⟨hpre, hs1, hs2⟩ := hpre
  have mk1 : Mark 1 := ⟨⟩
  (refine wpAny_call ?_; k_dflt (refine' Mine.code_pureC ?k1 ?k2 ?k3 ?k4 ?k5 ?kA ?kF ?kK ?k6 ?k7 ?k8 ?k9 ?kB ?kD ?_ ?c2 ?c3 ?c4; (case kA => exact rfl); (case kF => exact rfl); (case kK => assumption); (case k1 => k_asm); (case k2 => k_asm); (case k3 => k_asm); (case k4 => k_asm); (case k5 => k_asm); (case k6 => k_is); (case k7 => k_is); (case k8 => ktr_room); (case k9 => exact BindsTo.of_eq rfl); (case kB => exact rfl); (case kD => decide +kernel); (case c2 => exact rfl); (case c3 => exact rfl); (case c4 => exact rfl); k_whole; intro g' L' h' tk' cells' KG' FG' F' N' Y' B' X' T' l1; (try k_lt l1); k_cells Y'; (try simp only [List.cons_append, List.nil_append] at N'); (try dsimp only); (try k_lift B'); (try k_fold)))
  k_steps
  all_goals try first
    | ((with_reducible show Value.bool _ = Value.bool true); rw [hs2])
    | ((with_reducible show Value.bool _ = Value.bool true); rw [hs1])
  rename News _ _ _ _ => N9
  rename Fr _ _ _ _ => F9
  rename Fr h₀ L _ m => FG9
  rename Below _ _ _ _ => B9
  rename Frag.In _ _ => X9
  rename Top _ _ _ _ _ _ => T9
  rename Obj.data _ = Data.cell (some (Value.str (Str.ofString "/") _)) => dS
  rename Obj.data _ = Data.cell (some (Value.str (Str.ofString ".") _)) => dD
  rename StrsAre _ (Txt.split e _) => Se
  rename StrsAre _ (Txt.split p _) => Sp
  rename ∀ (b : Addr) (o : Obj), s.heap.get? b = some o → _ → _ => KG9
  replace N9 := news_del 0 N9
  replace N9 := news_del 3 N9
  dsimp only [List.eraseIdx] at N9
  replace N9 := Keep.mk N9
  replace FG9 := Keep.mk FG9
  replace B := Keep.mk B
  replace F := Keep.mk F
  replace KX := Keep.mk KX
  replace T := Keep.mk T
  replace F9 := Keep.mk F9
  replace B9 := Keep.mk B9
  replace X9 := Keep.mk X9
  replace T9 := Keep.mk T9
  replace dS := Keep.mk dS
  replace dD := Keep.mk dD
  replace Se := Keep.mk Se
  replace Sp := Keep.mk Sp
  replace KG9 := Keep.mk KG9
  replace hd := Keep.mk hd
  replace hu := Keep.mk hu
  replace hk := Keep.mk hk
  replace hpre := Keep.mk hpre
  replace hs1 := Keep.mk hs1
  replace hs2 := Keep.mk hs2
  replace N := Keep.mk N
  repeat (rename News _ _ _ _ => q9; clear q9)
  repeat (rename Fr _ _ _ _ => q9; clear q9)
  repeat (rename Below _ _ _ _ => q9; clear q9)
  repeat (rename Frag.In _ _ => q9; clear q9)
  repeat (rename Top _ _ _ _ _ _ => q9; clear q9)
  repeat (rename StrsAre _ _ => q9; clear q9)
  repeat (rename LCg.NsObj _ _ => q9; clear q9)
  repeat (rename IsIt _ _ _ => q9; clear q9)
  repeat (rename _ ∧ _ => q9; clear q9)
  repeat (rename _ < _ => q9; clear q9)
  repeat (rename _ = _ => q9; clear q9)
  repeat (rename ¬ _ => q9; clear q9)
  replace B := B.get
  replace F := F.get
  replace KX := KX.get
  replace T := T.get
  replace N := N.get
  replace hpre := hpre.get
  replace hs1 := hs1.get
  replace hs2 := hs2.get
  replace hk := hk.get
  replace hd := hd.get
  replace FG9 := FG9.get
  replace hu := hu.get
  replace KG9 := KG9.get
  replace Se := Se.get
  replace Sp := Sp.get
  replace dS := dS.get
  replace dD := dD.get
  replace B9 := B9.get
  replace X9 := X9.get
  replace T9 := T9.get
  replace F9 := F9.get
  replace N9 := N9.get
  have mk2 : Mark 2 := ⟨⟩
  clear mk1
  refine Mine.Stop.go ?_
  k_steps
  rename News _ _ _ _ => N9
  rename Fr _ _ _ _ => F9
  rename Fr h₀ L _ m => FG9
  rename Below _ _ _ _ => B9
  rename Frag.In _ _ => X9
  rename Top _ _ _ _ _ _ => T9
  iterate 6 replace N9 := news_del 2 N9
  dsimp only [List.eraseIdx] at N9
  replace N := Keep.mk N
  replace hpre := Keep.mk hpre
  replace hk := Keep.mk hk
  replace hd := Keep.mk hd
  replace hu := Keep.mk hu
  replace KG9 := Keep.mk KG9
  replace Se := Keep.mk Se
  replace Sp := Keep.mk Sp
  replace dS := Keep.mk dS
  replace dD := Keep.mk dD
  replace S1 := Keep.mk S1
  replace S2 := Keep.mk S2
  replace P1 := Keep.mk P1
  replace P2 := Keep.mk P2
  replace B9 := Keep.mk B9
  replace X9 := Keep.mk X9
  replace T9 := Keep.mk T9
  replace F9 := Keep.mk F9
  replace N9 := Keep.mk N9
  replace FG9 := Keep.mk FG9
  replace B := Keep.mk B
  replace F := Keep.mk F
  replace KX := Keep.mk KX
  replace T := Keep.mk T
  repeat (rename News _ _ _ _ => q9; clear q9)
  repeat (rename Fr _ _ _ _ => q9; clear q9)
  repeat (rename Below _ _ _ _ => q9; clear q9)
  repeat (rename Frag.In _ _ => q9; clear q9)
  repeat (rename Top _ _ _ _ _ _ => q9; clear q9)
  repeat (rename StrsAre _ _ => q9; clear q9)
  repeat (rename LCg.NsObj _ _ => q9; clear q9)
  repeat (rename LCg.Off3 _ _ _ _ => q9; clear q9)
  repeat (rename LCg.Off1 _ _ => q9; clear q9)
  repeat (rename IsIt _ _ _ => q9; clear q9)
  repeat (rename _ ∧ _ => q9; clear q9)
  repeat (rename _ < _ => q9; clear q9)
  repeat (rename _ = _ => q9; clear q9)
  repeat (rename ¬ _ => q9; clear q9)
  replace B := B.get
  replace F := F.get
  replace KX := KX.get
  replace T := T.get
  replace N := N.get
  replace hpre := hpre.get
  replace hk := hk.get
  replace hd := hd.get
  replace FG9 := FG9.get
  replace hu := hu.get
  replace KG9 := KG9.get
  replace Se := Se.get
  replace Sp := Sp.get
  replace dS := dS.get
  replace dD := dD.get
  replace S1 := S1.get
  replace S2 := S2.get
  replace P1 := P1.get
  replace P2 := P2.get
  replace B9 := B9.get
  replace X9 := X9.get
  replace T9 := T9.get
  replace F9 := F9.get
  replace N9 := N9.get
  clear mk2
  have hle : Le u1 u2 ∧ comPre u1 u2 = comPre (namesF e) (namesF p) := order_facts P1 P2
  have hw1 := picked_wt (e := e) (p := p) P1 (by omega) (by omega)
  have hw2 := picked_wt (e := e) (p := p) P2 (by omega) (by omega)
  have hl1 := S1.len_eq
  have hl2 := S2.len_eq
  refine Mine.Stop.go (For_turns F9 ?_)
  k_steps
  refine Mine.Stop.go ?_
  refine' Mine.for_enumX (vs := v1) [Str.ofString "i", Str.ofString "c"] (fun news0 i us news => (∃ a b, us = [a, b]) ∧ news = news0 ∧ u1.take i = u2.take i) rfl F9 N9 (lo := LCg.lst v1) ?mem rfl ?J0 ?turn ?done
  case mem => k_mem
  case J0 => exact ⟨⟨_, _, rfl⟩, rfl, rfl⟩
  case turn =>
    rintro I i v T t us news₁ h tk oE oI hI0 hi hv ⟨⟨qa, qb, rfl⟩, rfl, heq⟩ hmem hT F1 hE hI N1
    obtain ⟨y, ty, rfl, hy⟩ := StrsAre.item S1 i v hv
    have hi2 : i < u2.length := hle.1 i (by omega) heq
    obtain ⟨z, tz, hz1, hz2⟩ := StrsAre.item S2 i v2[i] (by simp)
    have hz3 : v2[i]? = some (.str z tz) := by rw [← hz1]; simp
    have hup := strs_upto i S1
    have hwu := wt_take' u1 i
    have hwv : ((u1.take i).map (·.length)).sum + (u1.take i).length ≤ 1048576 := by omega
    have hju := join_le (u1.take i) (b := 1001) (by omega)
    have hap := Str.length_append (Str.ofString "/") (Txt.join (Str.ofString "/") (u1.take i))
    k_steps
    · have hne : y ≠ z := by
        rename (y != z) = true => hyz
        simpa using hyz
      have hcp := comPre_of_diff hy hz2 hne heq
      refine ret_str hret (by assumption) (keeps_of1 KG9 N (Fr.keep (by assumption)) (by assumption) (by k_mem)) ?_
      show Str.ofString "/" ++ Txt.join (Str.ofString "/") (comPre _ _) = _
      rw [← hle.2, hcp]
    · have hyz' : y = z := by
        rename (y != z) = false => hyz
        simpa using hyz
      refine unrEnd_same (by assumption) (by assumption) (off_two hI0) ⟨⟨hmem, trivial⟩, ?_, ⟨_, _, rfl⟩, rfl, ?_⟩
      · intro z hz
        simp only [List.mem_cons, List.not_mem_nil, or_false, not_or] at hz
        simp only [updMap, if_neg hz.1, if_neg hz.2]
      · rw [List.take_add_one, List.take_add_one, hy, hz2, heq, hyz']
  case done =>
    rintro us news₁ h tk ⟨⟨qa, qb, rfl⟩, rfl, heq⟩ F1 N1
    have hwv : ((u1).map (·.length)).sum + (u1).length ≤ 1048576 := by omega
    have hju := join_le u1 (b := 1001) (by omega)
    have hap := Str.length_append (Str.ofString "/") (Txt.join (Str.ofString "/") u1)
    have hcp : comPre u1 u2 = u1 := comPre_of_prefix (by rw [hl1, List.take_length] at heq; exact heq)
    k_steps
    refine ret_str hret (by assumption) (keeps_of1 KG9 N (Fr.keep (by assumption)) (by assumption) (by k_mem)) ?_
    show Str.ofString "/" ++ Txt.join (Str.ofString "/") (comPre _ _) = _
    rw [← hle.2, hcp]

end Mine
end C9m
/-! ## P1 -/
section P1
open PySem PyProof.Rows
namespace Mine
def bitS (d q : Int) : Str := Str.ofString (toString ((d.fdiv q).fmod 2))
def stepF (k d : Int) : Str × Int :=
  if k < 32 then
    if d.fmod 6 = 0 then (Str.ofString "..", if k.fdiv 2 > 1 then k.fdiv 2 else 1)
    else if d.fmod 6 = 3 then (bitS d 6 ++ Str.ofString "//" ++ bitS d 12 ++ Str.ofString "/", 4 * k + 2 * (d.fdiv 6).fmod 2 + (d.fdiv 12).fmod 2)
    else if d.fmod 6 = 4 then (bitS d 6 ++ Str.ofString "/.././..", if k.fdiv 2 > 1 then k.fdiv 2 else 1)
    else if d.fmod 6 = 5 then (Str.ofString "/" ++ bitS d 6, 2 + (d.fdiv 6).fmod 2)
    else (bitS d 6, 2 * k + (d.fdiv 6).fmod 2)
  else (Str.ofString "..", if k.fdiv 2 > 1 then k.fdiv 2 else 1)
def stepsF : Int → List Int → List (Str × Int)
  | _, [] => []
  | k, d :: ds => stepF k d :: stepsF (stepF k d).2 ds
def foldK (k : Int) (ds : List Int) : Int := ds.foldl (fun k d => (stepF k d).2) k
theorem stepsF_snoc : ∀ (l : List Int) (k d : Int), stepsF k (l ++ [d]) = stepsF k l ++ [stepF (foldK k l) d]
  | [], _, _ => rfl
  | e :: l, k, d => by
    show stepF k e :: stepsF (stepF k e).2 (l ++ [d]) = _
    rw [stepsF_snoc l]
    rfl
theorem foldK_snoc (l : List Int) (k d : Int) : foldK k (l ++ [d]) = (stepF (foldK k l) d).2 := by simp [foldK]
theorem one_bounds (d q : Int) : 0 ≤ (d.fdiv q).fmod 2 ∧ (d.fdiv q).fmod 2 ≤ 1 := by
  have h1 := Int.fmod_nonneg_of_pos (d.fdiv q) (show (0:Int) < 2 by decide)
  have h2 := Int.fmod_lt_of_pos (d.fdiv q) (show (0:Int) < 2 by decide)
  omega
theorem half_bounds {k : Int} (h : 1 ≤ k ∧ k ≤ 127) : 1 ≤ (if k.fdiv 2 > 1 then k.fdiv 2 else 1) ∧ (if k.fdiv 2 > 1 then k.fdiv 2 else 1) ≤ 127 := by
  rw [Int.fdiv_eq_ediv_of_nonneg _ (by decide)]
  split <;> omega
theorem stepF_bounds {k : Int} (d : Int) (h : 1 ≤ k ∧ k ≤ 127) : 1 ≤ (stepF k d).2 ∧ (stepF k d).2 ≤ 127 := by
  have h1 := one_bounds d 6
  have h2 := one_bounds d 12
  have h3 := half_bounds h
  unfold stepF
  split
  · split
    · exact h3
    · split
      · dsimp only; omega
      · split
        · exact h3
        · split
          · dsimp only; omega
          · dsimp only; omega
  · exact h3
end Mine
end P1
/-! ## Steps -/
section Steps
open PySem PySem.W PyProof.Rows PySem.Calls
set_option Elab.async false
set_option maxRecDepth 100000
set_option maxHeartbeats 8000000
namespace Mine
def tup2 (x y : Value) : Obj := { cls := .type "tuple", data := .seq #[x, y] }
/-- a list of pairs, its tuples in the ledger `ts` -/
def PairsAre (vs : List Value) (ps : List (Str × Int)) (ts : List (Addr × Obj)) : Prop :=
  vs.length = ps.length ∧ ∀ (i : Nat) (p : Str × Int), ps[i]? = some p → ∃ a t u, vs[i]? = some (.ref a) ∧ (a, tup2 (.str p.1 t) (.int p.2 u)) ∈ ts
theorem PairsAre.nil : PairsAre [] [] [] := ⟨rfl, fun i p h => by simp at h⟩
theorem PairsAre.snoc {vs : List Value} {ps : List (Str × Int)} {ts : List (Addr × Obj)} (h : PairsAre vs ps ts) {a : Addr} {x : Str} {t : Tok} {k : Int} {u : Tok} :
    PairsAre (vs ++ [.ref a]) (ps ++ [(x, k)]) ((a, tup2 (.str x t) (.int k u)) :: ts) := by
  refine ⟨by simp [h.1], fun i p hp => ?_⟩
  rcases Nat.lt_or_ge i ps.length with hi | hi
  · rw [List.getElem?_append_left hi] at hp
    obtain ⟨b, t', u', h1, h2⟩ := h.2 i p hp
    exact ⟨b, t', u', by rw [List.getElem?_append_left (by rw [h.1]; exact hi)]; exact h1, .tail _ h2⟩
  · rw [List.getElem?_append_right hi] at hp
    have h0 : i - ps.length = 0 := by
      rcases Nat.eq_zero_or_pos (i - ps.length) with h0 | h0
      · exact h0
      · rw [List.getElem?_eq_none (by simp only [List.length_cons, List.length_nil]; omega)] at hp; cases hp
    rw [h0] at hp
    simp only [List.getElem?_cons_zero, Option.some.injEq] at hp
    subst hp
    refine ⟨a, t, u, ?_, .head _⟩
    rw [List.getElem?_append_right (by rw [h.1]; exact hi), h.1, h0]
    rfl

abbrev RetS (h₀ : Heap) (L : Addr) (m : Str → Option Value) (s : Shared) (Q : Value → Shared → Prop) (ps : List (Str × Int)) : Prop :=
  ∀ (D : Addr) (vs : List Value) (c : Nat) (ts : List (Addr × Obj)) (h' : Heap) (tk' : Nat), PairsAre vs ps ts → Fr h₀ L h' m → Keeps s.heap h' → (∀ p ∈ (D, W.listOf vs.toArray c) :: ts, h'.get? p.1 = some p.2 ∧ s.heap.get? p.1 = none) → (∀ p ∈ ts, p.1 ≠ D) → Q (.ref D) { s with heap := h', toks := tk' }

abbrev ClaimS (f : Addr) (dd : Nat) (pre : Prop) (o : Obj) (ps : List (Str × Int)) : Prop :=
  ∀ (w : World) (mean : ExcName → Option Value) (mg mb : Str → Option Value) (dp un : Nat) (gd : Option (List Code)) (cn : Str) (cs : Scope) (a : Addr) (ccd : Value) (cl : List (Str × Addr)) (outer : List Env) (A₀ : Around) (base h₀ : Heap) (L l : Addr) (m : Str → Option Value) (s : Shared) (Q E : Value → Shared → Prop),
    Below A₀ base outer h₀ → Fr h₀ L s.heap m → (Mine.hd.heap_1 w.params).In h₀ → News h₀ L s.heap [(l, o)] → Top Mine.hd.view (looseW Mine.hd.view []) mean mg mb h₀ → cs.kind = .function →
    pre → dp + dd < recursionLimit → un + 8 * dd < cLine → RetS h₀ L m s Q ps →
      wpAny (model PySem.Challenge.rw_pd0077_01.row.prog w) (ktrTop dp un gd cn cs L a ccd cl outer) (call (.ref f) [.ref l]) Q E s
end Mine
namespace Mine
theorem fresh_of1 {h g h' : Heap} {L' l : Addr} {o : Obj} {p : Addr × Obj} {news : List (Addr × Obj)} (k : ∀ b o', h.get? b = some o' → b ∉ [(l, o)].map (·.1) → g.get? b = some o') (N : News g L' h' news) (hm : p ∈ news) (hne : p.1 ≠ l) : h.get? p.1 = none := by
  cases q : h.get? p.1 with
  | none => rfl
  | some o' =>
    have := k _ _ q (by simpa using hne)
    rw [(N _ hm).2.2] at this
    cases this
theorem sub_steps {a b c d : Addr × Obj} {ts : List (Addr × Obj)} : ∀ p ∈ b :: c :: d :: a :: ts, p ∈ a :: b :: c :: d :: ts := by
  intro p hp
  simp only [List.mem_cons] at hp ⊢
  rcases hp with h | h | h | h | h <;> simp [h]
theorem pairs_step {vs : List Value} {ts : List (Addr × Obj)} {ns : List Int} {i : Nat} {k d kk : Int} {x : Str} {a : Addr} {t u : Tok} (hps : PairsAre vs (stepsF 1 (ns.take i)) ts) (hd : ns[i]? = some d) (hk : k = foldK 1 (ns.take i)) (e : stepF k d = (x, kk)) :
    PairsAre (vs ++ [.ref a]) (stepsF 1 (ns.take (i + 1))) ((a, tup2 (.str x t) (.int kk u)) :: ts) := by
  have e1 : ns.take (i + 1) = ns.take i ++ [d] := by rw [List.take_add_one, hd]; rfl
  rw [e1, stepsF_snoc, ← hk, e]
  exact hps.snoc
theorem num_step {ns : List Int} {i : Nat} {k d kk : Int} (hd : ns[i]? = some d) (hk : k = foldK 1 (ns.take i)) (hb : 1 ≤ k ∧ k ≤ 127) (e : (stepF k d).2 = kk) : kk = foldK 1 (ns.take (i + 1)) ∧ 1 ≤ kk ∧ kk ≤ 127 := by
  have e1 : ns.take (i + 1) = ns.take i ++ [d] := by rw [List.take_add_one, hd]; rfl
  have h2 := stepF_bounds d hb
  rw [e] at h2
  rw [e1, foldK_snoc, ← hk, e]
  exact ⟨rfl, h2⟩
end Mine
open Mine
end Steps
/-! ## C10 -/
section C10
theorem Mine.calm_C10 : True := by
  w_top off
  trivial
open PySem PySem.W PyProof.Rows PySem.Calls
set_option Elab.async false
set_option pp.deepTerms false
set_option pp.maxSteps 400
set_option maxRecDepth 100000
set_option maxHeartbeats 8000000
namespace Mine
local macro_rules | `(tactic| walk_at "exec For Name Name cons nil") => `(tactic| (refine Mine.stop_here ?_))
local macro_rules | `(tactic| k_all) => `(tactic| first | assumption | (refine List.forall_mem_cons.mpr ⟨?ka, ?kb⟩; (case ka => k_ne); (case kb => k_all)))
theorem ints_item {vs : List Value} {ns : List Int} (h : IntsAre vs ns) : ∀ (i : Nat) (v : Value), vs[i]? = some v → ∃ d t, v = .int d t ∧ ns[i]? = some d := by
  induction h with
  | nil => intro i v hv; simp at hv
  | cons d t r ih =>
    intro i v hv
    cases i with
    | zero => simp at hv; exact ⟨d, t, hv.symm, by simp⟩
    | succ i => simp at hv; obtain ⟨d', t', h1, h2⟩ := ih i v hv; exact ⟨d', t', h1, by simpa using h2⟩
theorem t_steps (vs : List Value) (ns : List Int) (hvs : IntsAre vs ns) (hns : ∀ d ∈ ns, 0 ≤ d ∧ d < 24) (hlen : ns.length ≤ 12) (c : Nat) : ClaimS 162 3 True (W.listOf vs.toArray c) (stepsF 1 ns) := by
  intro w mean mg mb dp un gd cn cs a ccd cl outer A₀ base h₀ L l m s Q E B F KX N T hk hpre hd hu hret
  (refine wpAny_call ?_; k_dflt (refine' Mine.code_pure ?k1 ?k2 ?k3 ?k4 ?k5 ?kA ?kF ?kK ?k6 ?k7 ?k8 ?k9 ?kB ?_ ?c2 ?c3 ?c4 ?c5; (case kA => exact rfl); (case kF => exact rfl); (case kK => assumption); (case k1 => k_asm); (case k2 => k_asm); (case k3 => k_asm); (case k4 => k_asm); (case k5 => k_asm); (case k6 => k_is); (case k7 => k_is); (case k8 => ktr_room); (case k9 => exact BindsTo.of_eq rfl); (case c5 => decide); (case kB => exact locs rfl); (case c2 => exact rfl); (case c3 => exact rfl); (case c4 => exact rfl); k_whole; intro g' L' h' KG' FG' F' N' B' X' T'; (try dsimp only); (try k_lift B'); (try k_fold)))
  k_steps
  refine Mine.Stop.go (Mine.for_start ?_)
  k_steps
  refine' Mine.for_listX [Str.ofString "draw", Str.ofString "kind", Str.ofString "one", Str.ofString "two", Str.ofString "piece", Str.ofString "number", Str.ofString "steps"] (fun l o i us news => ∃ a b c d e k t ln vs ct ts, us = [a, b, c, d, e, some (.int k t), some (.ref ln)] ∧ news = (ln, W.listOf vs.toArray ct) :: (l, o) :: ts ∧ PairsAre vs (stepsF 1 (ns.take i)) ts ∧ (k = foldK 1 (ns.take i) ∧ 1 ≤ k ∧ k ≤ 127) ∧ ¬ @Eq Nat ln l ∧ (∀ p ∈ ts, ¬ @Eq Nat p.1 ln) ∧ (∀ p ∈ ts, ¬ @Eq Nat p.1 l)) rfl (by assumption) (by assumption) ?mem rfl ?J0 (fun _ s' v Q' E' _ _ h => go_name s' v Q' E' h) ?turn ?done
  case mem => k_mem
  case J0 => exact ⟨_, _, _, _, _, _, _, _, [], 0, [], rfl, rfl, .nil, ⟨rfl, by decide⟩, by omega, (fun p hp => nomatch hp), fun p hp => nomatch hp⟩
  case turn =>
    rintro I i v us news₁ h tk oI hi hv ⟨qa, qb, qc, qd, qe, k, t, ln, vs, ct, ts, rfl, rfl, hps, ⟨hk0, hk1⟩, hne, hts, htl⟩ F1 N1 hn1 hl1
    obtain ⟨d, td, rfl, hd'⟩ := ints_item hvs i v hv
    have hd24 := hns d (List.mem_of_getElem? hd')
    have hn2 : ∀ p ∈ ts, ¬ @Eq Nat p.1 I := fun p hp => hn1 p (.tail _ (.tail _ hp))
    have hn3 : ¬ @Eq Nat ln I ∧ ¬ @Eq Nat l I := ⟨hn1 _ (.head _), hn1 _ (.tail _ (.head _))⟩
    have hlv := hvs.length
    have hsz : vs.length ≤ 20 := by
      have h1 := hps.1
      have h2 : ∀ (l : List Int) (k : Int), (stepsF k l).length = l.length := by
        intro l
        induction l with
        | nil => intro k; rfl
        | cons d l ih => intro k; simp [stepsF, ih]
      rw [h2, List.length_take] at h1
      omega
    k_steps
    all_goals (
      rename News _ _ _ _ => N8
      refine LPost.next _ (by assumption) N8 sub_steps ?_ ?_ ⟨?_, ?_⟩
      · exact List.forall_mem_cons.mpr ⟨hn3.1, List.forall_mem_cons.mpr ⟨hn3.2, List.forall_mem_cons.mpr ⟨by k_ne, hn2⟩⟩⟩
      · intro p hp
        rw [List.mem_singleton.mp hp]
        exact .tail _ (.head _)
      · intro z hz
        simp only [List.mem_cons, List.not_mem_nil, or_false, not_or] at hz
        simp only [updMap, if_neg hz.1, if_neg hz.2.1, if_neg hz.2.2.1, if_neg hz.2.2.2.1, if_neg hz.2.2.2.2.1, if_neg hz.2.2.2.2.2.1, if_neg hz.2.2.2.2.2.2]
      · refine ⟨_, _, _, _, _, _, _, ln, vs ++ [_], _, _, rfl, by rw [← List.push_toArray], ?_, ?_, hne, List.forall_mem_cons.mpr ⟨by k_ne, hts⟩, List.forall_mem_cons.mpr ⟨by k_ne, htl⟩⟩
        · refine pairs_step hps hd' hk0 ?_
          clear hk0
          unfold stepF
          simp only [*, if_true, if_false, ne_eq, not_false_eq_true]
          try exact rfl
        · refine num_step hd' hk0 hk1 ?_
          clear hk0
          unfold stepF
          simp only [*, if_true, if_false, ne_eq, not_false_eq_true]
          try exact rfl)
  case done =>
    rintro us news₁ h tk ⟨qa, qb, qc, qd, qe, k, t, ln, vs, ct, ts, rfl, rfl, hps, ⟨hk0, hk1⟩, hne, hts, htl⟩ F1 N1
    have hlv := hvs.length
    rw [hlv, List.take_length] at hps
    k_steps
    rename ∀ (b : Addr) (o : Obj), s.heap.get? b = some o → _ → _ => KG9
    exact hret ln vs ct ts _ _ hps (by assumption) (keeps_of1 KG9 N (Fr.keep F1) N1 (.tail _ (.head _))) (List.forall_mem_cons.mpr ⟨⟨(N1 _ (.head _)).1, fresh_of1 KG9 N1 (.head _) hne⟩, fun p hp => ⟨(N1 _ (.tail _ (.tail _ hp))).1, fresh_of1 KG9 N1 (.tail _ (.tail _ hp)) (htl p hp)⟩⟩) hts

end Mine
end C10
/-! ## LawR -/
section LawR
open PySem PySem.W PyProof.Rows PySem.Calls
set_option Elab.async false
set_option maxRecDepth 100000
set_option maxHeartbeats 8000000
namespace Mine
theorem carried_ints {f : Int → Int} : ∀ {ys : List Value} {ns : List Int}, CarriedAll ys (ns.map fun a => PyData.int (f a)) → IntsAre ys (ns.map f)
  | _, [], h => by cases h; exact .nil
  | _, n :: ns, h => by
    cases h with
    | cons h1 h2 => cases h1; exact .cons _ _ (carried_ints h2)
theorem add_draws {prog : Program} {w : World} {A : Around} {E : Value → Shared → Prop} {s : Shared} {h₀ : Heap} {L l b : Addr} {m : Str → Option Value} {news : List (Addr × Obj)} {ys : List Value} {ms : List Int} {t u : Tok} {Q : Value → Shared → Prop}
    (F : Fr h₀ L s.heap m) (N : News h₀ L s.heap news) (hl : (l, W.listOf #[.int 15 t, .int 5 u] 0) ∈ news) (hb : s.heap.IsList b ys.toArray) (hc : CarriedAll ys ((ms.filter fun _ => true).map fun a => PyData.int (a.fmod 24))) (hms : ms.length ≤ 10)
    (h : ∀ vs h', IntsAre vs (15 :: 5 :: ms.map fun a => a.fmod 24) → Fr h₀ L h' m → News h₀ L h' [(s.heap.objs.size, W.listOf vs.toArray 0)] → Q (.ref s.heap.objs.size) { s with heap := h' }) :
    wpAny (model prog w) A (binaryOp .Add (.ref l) (.ref b)) Q E s := by
  have hf : (ms.filter fun _ => true) = ms := by simp
  rw [hf] at hc
  have hi := carried_ints hc
  have hll : s.heap.IsList l #[.int 15 t, .int 5 u] := ⟨_, (N _ hl).1, rfl, _, rfl⟩
  refine add_arrays_ints (ns := [15, 5]) F N hll hb (.cons _ _ (.cons _ _ .nil)) hi (fun h' F' N' I' => h _ h' I' F' fun p hp => ?_) (by rw [sizeLine_eq]; simp; omega)
  rw [List.mem_singleton.mp hp]
  exact N' _ (.head _)

theorem use_claimS {f : Addr} {dd : Nat} {pre : Prop} {o : Obj} {ps : List (Str × Int)} (C : ClaimS f dd pre o ps)
    {w : World} {mean : ExcName → Option Value} {mg mb : Str → Option Value} {dp un : Nat} {gd : Option (List Code)} {cn : Str} {cs : Scope} {a : Addr} {ccd : Value} {cl : List (Str × Addr)} {outer : List Env} {A₀ : Around} {base h₀ : Heap} {L l : Addr} {m : Str → Option Value} {s : Shared} {Q E : Value → Shared → Prop} {news : List (Addr × Obj)}
    (B : Below A₀ base outer h₀) (F : Fr h₀ L s.heap m) (X : (Mine.hd.heap_1 w.params).In h₀) (N : News h₀ L s.heap news) (T : Top Mine.hd.view (looseW Mine.hd.view []) mean mg mb h₀) (hk : cs.kind = .function) (hm : (l, o) ∈ news)
    (hp : pre) (hd : dp + dd < recursionLimit) (hu : un + 8 * dd < cLine)
    (ret : ∀ (D : Addr) (vs : List Value) (c : Nat) (ts : List (Addr × Obj)) (h' : Heap) (tk' : Nat), PairsAre vs ps ts → Fr h₀ L h' m → News h₀ L h' ((D, W.listOf vs.toArray c) :: ts) → (∀ p ∈ ts, p.1 ≠ D) → Q (.ref D) { s with heap := h', toks := tk' }) :
    wpAny (model PySem.Challenge.rw_pd0077_01.row.prog w) (ktrTop dp un gd cn cs L a ccd cl outer) (call (.ref f) [.ref l]) Q E s := by
  refine C w mean mg mb dp un gd cn cs a ccd cl outer A₀ base h₀ L l m s Q E B F X (fun p hp' => by rw [List.mem_singleton.mp hp']; exact N _ hm) T hk hp hd hu fun D vs c ts h' tk' hP F' k hn hne => ?_
  refine ret D vs c ts h' tk' hP F' (fun p hp' => ?_) hne
  obtain ⟨h1, h2⟩ := hn p hp'
  refine ⟨h1, fun e => ?_, ?_⟩
  · obtain ⟨oL, _, _, hL, _⟩ := F.ns
    rw [e, hL] at h2
    cases h2
  · cases q : h₀.get? p.1 with
    | none => rfl
    | some o' => rw [F.keep _ _ q] at h2; cases h2

theorem use_claimL {f : Addr} {dd : Nat} {pre : Prop} {o : Obj} {R : Tok → Value} (C : ClaimL f dd pre o R)
    {w : World} {mean : ExcName → Option Value} {mg mb : Str → Option Value} {dp un : Nat} {gd : Option (List Code)} {cn : Str} {cs : Scope} {a : Addr} {ccd : Value} {cl : List (Str × Addr)} {outer : List Env} {A₀ : Around} {base h₀ : Heap} {L l : Addr} {m : Str → Option Value} {s : Shared} {Q E : Value → Shared → Prop} {news : List (Addr × Obj)}
    (B : Below A₀ base outer h₀) (F : Fr h₀ L s.heap m) (X : (Mine.hd.heap_1 w.params).In h₀) (N : News h₀ L s.heap news) (T : Top Mine.hd.view (looseW Mine.hd.view []) mean mg mb h₀) (hk : cs.kind = .function) (hm : (l, o) ∈ news)
    (hp : pre) (hd : dp + dd < recursionLimit) (hu : un + 8 * dd < cLine)
    (ret : ∀ (t : Tok) (h' : Heap) (tk' : Nat), Fr h₀ L h' m → News h₀ L h' news → Q (R t) { s with heap := h', toks := tk' }) :
    wpAny (model PySem.Challenge.rw_pd0077_01.row.prog w) (ktrTop dp un gd cn cs L a ccd cl outer) (call (.ref f) [.ref l]) Q E s :=
  C w mean mg mb dp un gd cn cs a ccd cl outer A₀ base h₀ L l m s Q E B F X (fun p hp' => by rw [List.mem_singleton.mp hp']; exact N _ hm) T hk hp hd hu fun t h' tk' F' k => ret t h' tk' F' (news_keeps N k)
end Mine
namespace Mine
theorem draws_ok {ms : List Int} : ∀ d ∈ 15 :: 5 :: ms.map (fun a => a.fmod 24), 0 ≤ d ∧ d < 24 := by
  intro d hd
  rcases List.mem_cons.mp hd with rfl | hd
  · decide
  rcases List.mem_cons.mp hd with rfl | hd
  · decide
  obtain ⟨a, _, rfl⟩ := List.mem_map.mp hd
  exact ⟨Int.fmod_nonneg_of_pos a (by decide), Int.fmod_lt_of_pos a (by decide)⟩
theorem draws_len {ms : List Int} : (15 :: 5 :: (ms.take 10).map (fun a => a.fmod 24)).length ≤ 12 := by
  simp only [List.length_cons, List.length_map, List.length_take]
  omega
def seenF (ps : List (Str × Int)) (f : Int → Str) : List (Str × Int) := (Str.ofString "/", 1) :: ps.map fun p => (f p.2, p.2)
end Mine
namespace Mine
theorem PairsAre.mono {vs : List Value} {ps : List (Str × Int)} {ts ts' : List (Addr × Obj)} (h : PairsAre vs ps ts) (hs : ∀ p ∈ ts, p ∈ ts') : PairsAre vs ps ts' :=
  ⟨h.1, fun i p hp => by obtain ⟨a, t, u, h1, h2⟩ := h.2 i p hp; exact ⟨a, t, u, h1, hs _ h2⟩⟩
theorem PairsAre.back {vs : List Value} {ps : List (Str × Int)} {ts : List (Addr × Obj)} (h : PairsAre vs ps ts) {i : Nat} {v : Value} (hv : vs[i]? = some v) : ∃ x k a t u, ps[i]? = some (x, k) ∧ v = .ref a ∧ (a, tup2 (.str x t) (.int k u)) ∈ ts := by
  have hi : i < ps.length := by rw [← h.1]; exact (List.getElem?_eq_some_iff.mp hv).1
  have hp : ps[i]? = some (ps[i].1, ps[i].2) := by simp [hi]
  obtain ⟨a, t, u, h1, h2⟩ := h.2 i _ hp
  rw [hv] at h1
  exact ⟨_, _, a, t, u, hp, Option.some.inj h1, h2⟩
theorem snoc_of {vs : List Value} {i : Nat} {v : Value} (hl : vs.length = i + 1) (hv : vs[i]? = some v) : vs = vs.take i ++ [v] := by
  have h1 : vs.take (i + 1) = vs := List.take_of_length_le (by omega)
  have h2 : vs.take (i + 1) = vs.take i ++ [v] := by rw [List.take_add_one, hv]; rfl
  rw [← h2, h1]
/-- the numbers of the walk, the root first -/
def numsF (ps : List (Str × Int)) : List Int := 1 :: ps.map (·.2)
def seenP (P : Int → Str) (ps : List (Str × Int)) (n : Nat) : List (Str × Int) := ((numsF ps).take n).map fun k => (P k, k)
theorem seenP_get {P : Int → Str} {ps : List (Str × Int)} {n i : Nat} {x : Str} {k : Int} (h : (seenP P ps n)[i]? = some (x, k)) : x = P k ∧ (numsF ps)[i]? = some k := by
  unfold seenP at h
  rw [List.getElem?_map] at h
  rcases hq : ((numsF ps).take n)[i]? with _ | q
  · rw [hq] at h; cases h
  · rw [hq] at h
    simp only [Option.map_some, Option.some.injEq, Prod.mk.injEq] at h
    obtain ⟨rfl, rfl⟩ := h
    refine ⟨rfl, ?_⟩
    rw [List.getElem?_take] at hq
    split at hq
    · exact hq
    · cases hq
theorem seenP_len {P : Int → Str} {ps : List (Str × Int)} {n : Nat} (h : n ≤ ps.length + 1) : (seenP P ps n).length = n := by
  unfold seenP numsF
  rw [List.length_map, List.length_take, List.length_cons, List.length_map]
  omega
theorem seenP_succ {P : Int → Str} {ps : List (Str × Int)} {i : Nat} {x : Str} {k : Int} (h : ps[i]? = some (x, k)) : seenP P ps (i + 2) = seenP P ps (i + 1) ++ [(P k, k)] := by
  unfold seenP numsF
  rw [List.take_add_one (i := i + 1), List.getElem?_cons_succ, List.getElem?_map, h]
  simp
end Mine
namespace Mine
theorem stepsF_len : ∀ (l : List Int) (k : Int), (stepsF k l).length = l.length
  | [], _ => rfl
  | d :: l, k => by simp [stepsF, stepsF_len l]
theorem gen_steps {vs : List Value} {ts : List (Addr × Obj)} {ms : List Int} (h : PairsAre vs (stepsF 1 (15 :: 5 :: (ms.take 10).map fun a => a.fmod 24)) ts) : ∃ ps ds, ps = stepsF 1 ds ∧ ps.length ≤ 12 ∧ PairsAre vs ps ts :=
  ⟨_, _, rfl, by rw [stepsF_len]; exact draws_len, h⟩
end Mine
namespace Mine
section
variable {prog : Program} {w : World} {A : Around} {E : Value → Shared → Prop} {s : Shared} {h₀ : Heap} {L a : Addr} {news : List (Addr × Obj)} {vs : List Value} {c n : Nat}
theorem len_K {Q : Value → Shared → Prop} (N : News h₀ L s.heap news) (hm : (a, W.listOf vs.toArray c) ∈ news) (hl : vs.length = n) (hn : n ≤ 1000) (h : Q (.int (n : Int) (s.toks + 1)) { s with toks := s.toks + 1 + 1 }) :
    wpAny (model prog w) A (call (.builtin "len") [.ref a]) Q E s := by
  have hL : s.heap.IsList a vs.toArray := ⟨_, (N _ hm).1, rfl, _, rfl⟩
  have hs : vs.toArray.size = n := by simpa using hl
  refine len_list hL (by rw [hs]; omega) (by rw [hs]; exact h)
theorem item_mid {value slice : PySem.Expr} {u : Tok} {v : Value} {Q : Value → Shared → Prop} (N : News h₀ L s.heap news) (hm : (a, W.listOf vs.toArray c) ∈ news) (hx : vs[n / 2]? = some v) (hsm : vs.length ≤ 2000) (h : Q v s)
    (hs : subscripted slice false (.ref a) (.int ((n : Int).fdiv 2) u) = operate [.ref a, .int ((n : Int).fdiv 2) u] (getItem (.ref a) (.int ((n : Int).fdiv 2) u)) := by with_unfolding_all rfl) :
    wpAny (model prog w) A (subscriptTail value slice (.ref a) (.int ((n : Int).fdiv 2) u)) Q E s := by
  have hl : s.heap.IsList a vs.toArray := ⟨_, (N _ hm).1, rfl, _, rfl⟩
  have hi : n / 2 < vs.length := (List.getElem?_eq_some_iff.mp hx).1
  have e : (n : Int).fdiv 2 = ((n / 2 : Nat) : Int) := by
    rw [Int.fdiv_eq_ediv_of_nonneg _ (by decide)]
    omega
  exact tail_any hl.typeIs slot_list_getitem.lookup (wpAny_getItem_list hl (by omega) (by omega) (by rw [e, Int.toNat_natCast]; simpa using hx) h) hs
end
end Mine
end LawR
/-! ## LawC -/
section LawC
open PySem PySem.W PyProof.Rows PySem.Calls
set_option Elab.async false
set_option maxRecDepth 100000
set_option maxHeartbeats 8000000
namespace Mine
/-- what normpath asks of a text here -/
def Rooted (x : Str) : Prop := x.length ≤ 1000 ∧ (splitrootF x).2.1.length ≠ 0 ∧ (splitrootF x).2.1.length ≤ 2 ∧ x.length ≠ 0
theorem t_np {x y : Str} {t : Tok} (h : Rooted x) (e : normF x = y) : Claim 150 3 True [.str x t] (fun t => .str y t) := by
  intro w mean mg mb dp un gd cn cs a ccd cl outer A₀ base h₀ L m s Q E B F KX T hk hpre hd hu hret
  subst e
  exact t_normpath x t w mean mg mb dp un gd cn cs a ccd cl outer A₀ base h₀ L m s Q E B F KX T hk h hd hu hret
theorem t_cp {e p y : Str} {te tp : Tok} {c : Nat} (he : e.length ≤ 1000) (hp : p.length ≤ 1000) (h1 : Txt.startswith e (Str.ofString "/") = true) (h2 : Txt.startswith p (Str.ofString "/") = true) (h : comF e p = y) :
    ClaimL 155 3 True (W.listOf #[.str e te, .str p tp] c) (fun t => .str y t) := by
  intro w mean mg mb dp un gd cn cs a ccd cl outer A₀ base h₀ L l m s Q E B F KX N T hk hpre hd hu hret
  subst h
  exact t_common e p te tp c w mean mg mb dp un gd cn cs a ccd cl outer A₀ base h₀ L l m s Q E B F KX N T hk ⟨⟨he, hp⟩, h1, h2⟩ hd hu hret
end Mine
namespace Mine
theorem t_join1 (x : Str) (t : Tok) (y : Str) (u : Tok) : Claim 129 3 (x.length ≤ 100 ∧ wt [y] ≤ 500) [.str x t, .str y u] (fun t => .str (joinF x [y]) t) :=
  t_join x t [.str y u] [y] (.cons _ _ .nil) (Nat.le_of_ble_eq_true rfl)
end Mine
end LawC
/-! ## MapL -/
section MapL
open PySem PySem.W PyProof.Rows PySem.Calls PyProof.Rows.LCg
set_option Elab.async false
set_option maxRecDepth 100000
set_option maxHeartbeats 8000000
namespace Mine
section
variable {prog : Program} {w : World} {A : Around} {E : Value → Shared → Prop} {s : Shared} {h₀ : Heap} {L : Addr} {m : Str → Option Value} {env : Env}
theorem compEnd_imp' {I C D : Addr} {s₁ s₂ : Shared} {oI oC oD : Obj} {S : List (Addr × Obj) → Prop} {rest rest' : Value → List (Addr × Obj) → Prop} {y : Value} (h : CompEnd h₀ L m s₁ I oI C oC D oD S rest y s₂) (k : ∀ n, rest y n → rest' y n) : CompEnd h₀ L m s₁ I oI C oC D oD S rest' y s₂ := by
  obtain ⟨h', tk, n, e, F, N, o, hS, r⟩ := h
  exact ⟨h', tk, n, e, F, N, o, hS, k n r⟩
theorem compEnd_drop {I C D a : Addr} {s₁ : Shared} {oI oC oD o : Obj} {S : List (Addr × Obj) → Prop} {rest : Value → List (Addr × Obj) → Prop} {y : Value} {h' : Heap} {tk : Nat} {r : List (Addr × Obj)}
    (F : Fr h₀ L h' m) (N : News h₀ L h' ((a, o) :: (I, oI) :: (C, oC) :: (D, oD) :: r)) (off : Off3 I C D r) (hS : S r) (h : rest y r) :
    CompEnd h₀ L m s₁ I oI C oC D oD S rest y { s₁ with heap := h', toks := tk } :=
  CompEnd.intro F N r (fun p hp => .tail _ hp) off hS h
/-- the texts of a list of pairs -/
theorem rest_pairs {elt : Expr} {x : Str} {scope : Scope} {cl : List (Str × Addr)} {S : List (Addr × Obj) → Prop} {Fin : List Value → List (Addr × Obj) → Prop} {news tz : List (Addr × Obj)} {vs : List Value} {ps : List (Str × Int)} (hvs : PairsAre vs ps tz) (hsub : ∀ p ∈ tz, p ∈ news)
    (turn : ∀ a z k t u I oI C oC D m₂ h tk ys (E' : Value → Shared → Prop), NsObj oC m₂ → m₂ x = some (.ref a) → Fr h₀ L h m → News h₀ L h ((a, tup2 (.str z t) (.int k u)) :: (I, oI) :: (C, oC) :: (D, lst ys) :: news) → Off3 I C D news → ((@Ne Nat I C) ∧ (@Ne Nat I D) ∧ (@Ne Nat C D)) →
      wpAny (model prog w) A (eval elt (compEnvC scope cl C env)) (CompEnd h₀ L m { s with heap := h, toks := tk } I oI C oC D (lst ys) S (fun y news' => news' = news ∧ ∃ t', y = .str z t')) E' { s with heap := h, toks := tk })
    (fin : ∀ ys, StrsAre ys (ps.map (·.1)) → Fin ys news) :
    ∀ k i ys, i + k = vs.length → StrsAre ys ((ps.map (·.1)).take i) → CompRest prog w A h₀ L m env elt x scope cl s S (fun i v => vs.toArray[i]? = some v) Fin k i ys news
  | 0, i, ys, hi, hys => by
    refine fin ys ?_
    have : (ps.map (·.1)).take i = ps.map (·.1) := List.take_of_length_le (by rw [List.length_map, ← hvs.1]; omega)
    rwa [this] at hys
  | k + 1, i, ys, hi, hys => by
    intro v I oI C oC D m₂ h tk E' hv hC hx F N off ne
    obtain ⟨z, kk, a, t, u, hz, rfl, hm⟩ := hvs.back (i := i) (v := v) (by simpa using hv)
    have htake : (ps.map (·.1)).take (i + 1) = (ps.map (·.1)).take i ++ [z] := by rw [List.take_add_one, List.getElem?_map, hz]; rfl
    refine wpAny_mono (turn a z kk t u I oI C oC D m₂ h tk ys E' hC hx F (List.forall_mem_cons.mpr ⟨N _ (.tail _ (.tail _ (.tail _ (hsub _ hm)))), N⟩) off ne) (fun y s'' h'' => compEnd_imp' h'' fun n r => ?_) fun _ _ e => e
    obtain ⟨rfl, t', rfl⟩ := r
    refine rest_pairs hvs hsub turn fin k (i + 1) _ (by omega) ?_
    rw [htake]
    exact hys.append' (.cons _ _ .nil)
theorem src_pairs {elt : Expr} {x : Str} {scope : Scope} {cl : List (Str × Addr)} {Fin : Shared → List Value → List (Addr × Obj) → Prop} {ax : Addr} {k : Nat} {news tz : List (Addr × Obj)} {s₁ : Shared} {vs : List Value} {ps : List (Str × Int)}
    (hh : A.handled = none) (F : Fr h₀ L s₁.heap m) (N : News h₀ L s₁.heap news) (hm : (ax, ({ cls := .type "list", data := .seq vs.toArray k } : Obj)) ∈ news) (hvs : PairsAre vs ps tz) (hsub : ∀ p ∈ tz, p ∈ news) (hsz : ps.length ≤ 1000)
    (turn : ∀ a z k t u I oI C oC D m₂ h tk ys (E' : Value → Shared → Prop), NsObj oC m₂ → m₂ x = some (.ref a) → Fr h₀ L h m → News h₀ L h ((a, tup2 (.str z t) (.int k u)) :: (I, oI) :: (C, oC) :: (D, lst ys) :: news) → Off3 I C D news → ((@Ne Nat I C) ∧ (@Ne Nat I D) ∧ (@Ne Nat C D)) →
      wpAny (model prog w) A (eval elt (compEnvC scope cl C env)) (CompEnd h₀ L m { s₁ with heap := h, toks := tk } I oI C oC D (lst ys) (SrcAt h₀ ax vs.toArray) (fun y news' => news' = news ∧ ∃ t', y = .str z t')) E' { s₁ with heap := h, toks := tk })
    (fin : ∀ g ys, StrsAre ys (ps.map (·.1)) → Fin { s₁ with heap := g } ys news) :
    CompSrc prog w A h₀ L m env elt x scope cl Fin (.ref ax) s₁ := by
  refine CompSrc.ledger hh F N (its := vs.toArray) (k := k) hm (by rw [List.size_toArray, hvs.1, sizeLine_eq]; omega) fun g => ?_
  refine rest_pairs (s := { s₁ with heap := g }) hvs hsub turn (fin g) vs.toArray.size 0 [] (by simp) ?_
  rw [List.take_zero]; exact StrsAre.nil
end
end Mine
end MapL
/-! ## P2 -/
section P2
open PySem PyProof PyProof.Rows
namespace Mine
abbrev S1 : Str := Str.ofString "/"
theorem S1_eq : S1 = ⟨#[47]⟩ := by decide +kernel
def tl (s : Str) : List Nat := s.cps.toList
theorem tl_inj {x y : Str} (h : tl x = tl y) : x = y := by
  cases x; cases y; simp only [tl] at h; simpa using h
theorem tl_append (x y : Str) : tl (x ++ y) = tl x ++ tl y := by
  show (x.cps ++ y.cps).toList = _
  simp [tl]
/-- a text without a slash -/
def Free (x : Str) : Prop := 47 ∉ tl x
theorem tl_join : ∀ (l : List Str) (x : Str), tl (Str.join S1 (x :: l)) = tl x ++ (l.map fun p => 47 :: tl p).flatten
  | [], x => by simp [Str.join]
  | y :: l, x => by
    show tl (x ++ S1 ++ Str.join S1 (y :: l)) = _
    rw [tl_append, tl_append, tl_join l y, S1_eq]
    simp [tl]
theorem cut_uniq : ∀ (a b : List Nat) {r s : List Nat}, 47 ∉ a → 47 ∉ b → a ++ 47 :: r = b ++ 47 :: s → a = b ∧ r = s
  | [], [], _, _, _, _, h => by simpa using h
  | [], y :: b, r, s, _, hb, h => by
    simp only [List.nil_append, List.cons_append, List.cons.injEq] at h
    exact absurd (h.1 ▸ List.mem_cons_self) hb
  | x :: a, [], r, s, ha, _, h => by
    simp only [List.nil_append, List.cons_append, List.cons.injEq] at h
    exact absurd (h.1 ▸ List.mem_cons_self) ha
  | x :: a, y :: b, r, s, ha, hb, h => by
    simp only [List.cons_append, List.cons.injEq] at h
    obtain ⟨rfl, h⟩ := h
    obtain ⟨h1, h2⟩ := cut_uniq a b (fun q => ha (.tail _ q)) (fun q => hb (.tail _ q)) h
    exact ⟨by rw [h1], h2⟩
theorem parts_uniq : ∀ (l m : List Str) (x y : Str), Free x → Free y → (∀ p ∈ l, Free p) → (∀ p ∈ m, Free p) → tl x ++ (l.map fun p => 47 :: tl p).flatten = tl y ++ (m.map fun p => 47 :: tl p).flatten → x :: l = y :: m
  | [], [], x, y, _, _, _, _, h => by
    simp only [List.map_nil, List.flatten_nil, List.append_nil] at h
    rw [tl_inj h]
  | [], q :: m, x, y, hx, _, _, _, h => by
    simp only [List.map_nil, List.flatten_nil, List.append_nil, List.map_cons, List.flatten_cons, List.cons_append] at h
    exact absurd (by rw [h]; simp) hx
  | p :: l, [], x, y, _, hy, _, _, h => by
    simp only [List.map_nil, List.flatten_nil, List.append_nil, List.map_cons, List.flatten_cons, List.cons_append] at h
    exact absurd (by rw [← h]; simp) hy
  | p :: l, q :: m, x, y, hx, hy, hl, hm, h => by
    simp only [List.map_cons, List.flatten_cons, List.cons_append] at h
    obtain ⟨h1, h2⟩ := cut_uniq _ _ hx hy h
    have ih := parts_uniq l m p q (hl p (.head _)) (hm q (.head _)) (fun r hr => hl r (.tail _ hr)) (fun r hr => hm r (.tail _ hr)) h2
    rw [tl_inj h1, ih]
theorem split_ne_nil (x : Str) : Txt.split x S1 ≠ [] := by
  intro h
  have h1 := StrLaws.join_split x S1
  have h2 := StrLaws.split_free x 47
  rw [h] at h1
  have h3 : x = Str.empty := h1.symm
  subst h3
  revert h
  decide +kernel
/-- the parts of a join are the parts -/
theorem split_join (x : Str) (l : List Str) (hx : Free x) (hl : ∀ p ∈ l, Free p) : Txt.split (Str.join S1 (x :: l)) S1 = x :: l := by
  have h1 := StrLaws.join_split (Str.join S1 (x :: l)) S1
  have h2 : ∀ p ∈ Txt.split (Str.join S1 (x :: l)) S1, Free p := by
    intro p hp
    rw [S1_eq] at hp
    exact StrLaws.split_free _ 47 p hp
  rcases hs : Txt.split (Str.join S1 (x :: l)) S1 with _ | ⟨y, m⟩
  · exact absurd hs (split_ne_nil _)
  · rw [hs] at h1 h2
    have h3 : tl (Str.join S1 (y :: m)) = tl (Str.join S1 (x :: l)) := by rw [h1]
    rw [tl_join, tl_join] at h3
    exact parts_uniq m l y x (h2 y (.head _)) hx (fun p hp => h2 p (.tail _ hp)) hl h3
/-- parts of a text with a slash -/
theorem split_slash (x y : Str) : Txt.split (x ++ (S1 ++ y)) S1 = Txt.split x S1 ++ Txt.split y S1 := by
  have f : ∀ z : Str, ∀ p ∈ Txt.split z S1, Free p := by
    intro z p hp
    rw [S1_eq] at hp
    exact StrLaws.split_free _ 47 p hp
  rcases hx : Txt.split x S1 with _ | ⟨a, l⟩
  · exact absurd hx (split_ne_nil _)
  rcases hy : Txt.split y S1 with _ | ⟨b, m⟩
  · exact absurd hy (split_ne_nil _)
  have jx := StrLaws.join_split x S1
  have jy := StrLaws.join_split y S1
  rw [hx] at jx
  rw [hy] at jy
  have fx := f x
  have fy := f y
  rw [hx] at fx
  rw [hy] at fy
  have e : x ++ (S1 ++ y) = Str.join S1 (a :: (l ++ b :: m)) := by
    apply tl_inj
    rw [tl_append, tl_append, ← jx, ← jy, tl_join, tl_join, tl_join, S1_eq]
    simp [tl]
  rw [e, split_join a (l ++ b :: m) (fx a (.head _))]
  · rfl
  · intro p hp
    rcases List.mem_append.mp hp with hp | hp
    · exact fx p (.tail _ hp)
    · exact fy p hp
end Mine
end P2
/-! ## P3 -/
section P3
open PySem PySem.W PyProof PyProof.Rows
set_option maxRecDepth 100000
set_option Elab.async false
namespace Mine
/-- a bit's name -/
def bS (b : Nat) : Str := Str.ofString (toString (b : Int))
/-- the names of a place -/
def names (n : Nat) : List Str := digs (n : Int) (highF (n : Int)).toNat
theorem placeF_names (n : Nat) : placeF (n : Int) = S1 ++ Txt.join S1 (names n) := rfl
theorem highF_nat {k : Nat} (hk : k ≠ 0) : highF (k : Int) = (k.log2 : Int) := by
  unfold highF Builtin.Int.intBits
  have h4 : ((k : Int) == 0) = false := by simpa using hk
  rw [h4]
  simp only [Int.natAbs_natCast, Bool.false_eq_true, if_false]
  omega
theorem log2_dbl {n b : Nat} (hn : n ≠ 0) (hb : b < 2) : (2 * n + b).log2 = n.log2 + 1 := by
  rw [Nat.log2_eq_iff (by omega)]
  have h := (Nat.log2_eq_iff hn).mp rfl
  rw [Nat.pow_succ] at h ⊢
  rw [Nat.pow_succ]
  omega
theorem bitT_nat (n k : Nat) : bitT (n : Int) k = bS (n / 2 ^ k % 2) := by
  unfold bitT bS
  have e : ((n : Int)).fdiv (2 ^ k) = ((n / 2 ^ k : Nat) : Int) := by
    rw [Int.fdiv_eq_ediv_of_nonneg _ (Int.le_of_lt (Int.pow_pos (by decide)))]
    simp
  have e2 : ((n / 2 ^ k : Nat) : Int).fmod 2 = ((n / 2 ^ k % 2 : Nat) : Int) := by
    rw [Int.fmod_eq_emod_of_nonneg _ (by decide)]
    simp
  rw [e, e2]
theorem names_one : names 1 = [] := by
  unfold names
  have e : highF ((1 : Nat) : Int) = 0 := by rw [highF_nat (by decide)]; rfl
  rw [e]
  rfl
theorem names_eq {n : Nat} (hn : n ≠ 0) : names n = (List.range n.log2).map fun j => bS (n / 2 ^ (n.log2 - 1 - j) % 2) := by
  unfold names digs
  rw [highF_nat hn, Int.toNat_natCast]
  refine List.map_congr_left fun j hj => ?_
  have hj := List.mem_range.mp hj
  have e : ((n.log2 : Int) - 1 + (j : Int) * -1).toNat = n.log2 - 1 - j := by omega
  rw [e, bitT_nat]
theorem names_dbl {n b : Nat} (hn : n ≠ 0) (hb : b < 2) : names (2 * n + b) = names n ++ [bS b] := by
  rw [names_eq (by omega), names_eq hn, log2_dbl hn hb, List.range_succ, List.map_append]
  congr 1
  · refine List.map_congr_left fun j hj => ?_
    have hj := List.mem_range.mp hj
    have e : n.log2 + 1 - 1 - j = (n.log2 - 1 - j) + 1 := by omega
    rw [e, Nat.pow_succ, Nat.mul_comm (2 ^ _) 2, ← Nat.div_div_eq_div_mul]
    congr 3
    omega
  · have e : n.log2 + 1 - 1 - n.log2 = 0 := by omega
    simp only [List.map_cons, List.map_nil, e, Nat.pow_zero, Nat.div_one]
    congr 2
    omega
theorem names_half {n : Nat} (hn : 2 ≤ n) : names n = names (n / 2) ++ [bS (n % 2)] := by
  have h := names_dbl (n := n / 2) (b := n % 2) (by omega) (by omega)
  rwa [show 2 * (n / 2) + n % 2 = n by omega] at h
theorem bS_free : ∀ b < 2, Free (bS b) ∧ (bS b).length = 1 ∧ bS b ≠ Str.ofString "." ∧ bS b ≠ Str.ofString ".." := by
  intro b hb
  have : b = 0 ∨ b = 1 := by omega
  unfold Free
  rcases this with rfl | rfl <;> decide +kernel
theorem names_ok (n : Nat) : ∀ p ∈ names n, ∃ b < 2, p = bS b := by
  intro p hp
  unfold names digs at hp
  obtain ⟨j, _, rfl⟩ := List.mem_map.mp hp
  exact ⟨_, Nat.mod_lt _ (by decide), bitT_nat _ _⟩
theorem names_len {n : Nat} (hn : n ≠ 0) : (names n).length = n.log2 := by rw [names_eq hn]; simp
/-- the names of a number hung below another -/
theorem names_hang (old : Nat) (ho : old ≠ 0) (k : Nat) (hk : k ≠ 0) : 1 ≤ old * 2 ^ k.log2 + k - 2 ^ k.log2 ∧ names (old * 2 ^ k.log2 + k - 2 ^ k.log2) = names old ++ names k := by
  induction k using Nat.strongRecOn with
  | _ k ih =>
    rcases Nat.lt_or_ge k 2 with h | h
    · have : k = 1 := by omega
      subst this
      have e : Nat.log2 1 = 0 := by decide
      rw [e, names_one]
      simp only [Nat.pow_zero, Nat.mul_one, Nat.add_sub_cancel, List.append_nil, and_true]
      omega
    · obtain ⟨i1, i2⟩ := ih (k / 2) (by omega) (by omega)
      have e : k.log2 = (k / 2).log2 + 1 := by
        have := log2_dbl (n := k / 2) (b := k % 2) (by omega) (by omega)
        rwa [show 2 * (k / 2) + k % 2 = k by omega] at this
      have e2 : old * 2 ^ k.log2 + k - 2 ^ k.log2 = 2 * (old * 2 ^ (k / 2).log2 + k / 2 - 2 ^ (k / 2).log2) + k % 2 := by
        rw [e, Nat.pow_succ, ← Nat.mul_assoc]
        generalize old * 2 ^ (k / 2).log2 = p at *
        generalize 2 ^ (k / 2).log2 = q at *
        omega
      rw [e2, names_dbl (by omega) (by omega), i2, names_half h, List.append_assoc]
      exact ⟨by omega, rfl⟩
end Mine
end P3
/-! ## P4 -/
section P4
open PySem PySem.W PyProof PyProof.Rows
set_option maxRecDepth 100000
set_option Elab.async false
namespace Mine
theorem S1_tl : tl S1 = [47] := by decide +kernel
theorem len_tl (x : Str) : x.length = (tl x).length := by simp [tl, Str.length]
/-- a text that does not begin with a slash -/
def NS (r : Str) : Prop := (tl r).head? ≠ some 47
theorem slice_to (x : Str) (b : Nat) (h : b ≤ (tl x).length) : tl (Txt.slice x none (some (b : Int))) = (tl x).take b := by
  have e := StrLaws.sliceText_to (x := x) (j := (b : Int)) ⟨by omega, by simp only [tl] at h; omega⟩
  show tl (StrLaws.sliceText x none (some (b : Int))) = _
  rw [e]
  simp [tl]
theorem slice_from (x : Str) (a : Nat) (h : a ≤ (tl x).length) : tl (Txt.slice x (some (a : Int)) none) = (tl x).drop a := by
  have e := StrLaws.sliceText_from (x := x) (i := (a : Int)) ⟨by omega, by simp only [tl] at h; omega⟩
  show tl (StrLaws.sliceText x (some (a : Int)) none) = _
  rw [e]
  simp only [tl] at h ⊢
  simp only [List.toList_toArray, Int.toNat_natCast]
  apply List.take_of_length_le
  simp only [List.length_drop]
  omega
theorem slice_mid_le (x : Str) (a b : Nat) (hab : a ≤ b) (h : b ≤ (tl x).length) : tl (Txt.slice x (some (a : Int)) (some (b : Int))) = ((tl x).drop a).take (b - a) := by
  have e := StrLaws.sliceText_nat x hab (b := b) (by rw [len_tl]; exact h)
  show tl (StrLaws.sliceText x _ _) = _
  rw [e]
  simp [tl]
theorem split_empty : Txt.split Str.empty S1 = [Str.empty] := by decide +kernel
theorem ne_of_tl {x y : Str} (h : tl x ≠ tl y) : (x != y) = true := by
  simp only [bne_iff_ne]
  intro e
  exact h (by rw [e])
theorem ns_nil (r : Str) (h : (tl r) = []) : NS r := by unfold NS; rw [h]; simp
theorem root_tl (r : Str) : tl (S1 ++ r) = 47 :: tl r := by rw [tl_append, S1_tl]; rfl
theorem slice1 (r : Str) : Txt.slice (S1 ++ r) (some 1) none = r := by
  apply tl_inj
  have := slice_from (S1 ++ r) 1 (by rw [root_tl]; simp)
  rw [root_tl] at this
  simpa using this
theorem splitroot_ns {r : Str} (h : NS r) : splitrootF (S1 ++ r) = (Str.ofString "", Str.ofString "/", r) := by
  have h1 : Txt.slice (S1 ++ r) none (some 1) = S1 := by
    apply tl_inj
    have := slice_to (S1 ++ r) 1 (by rw [root_tl]; simp)
    rw [root_tl] at this
    rw [S1_tl]
    simpa using this
  have h2 : (Txt.slice (S1 ++ r) (some 1) (some 2) != S1) = true := by
    rcases hr : tl r with _ | ⟨c, l⟩
    · have e : r = Str.empty := tl_inj (by rw [hr]; rfl)
      subst e
      decide +kernel
    · have := slice_mid_le (S1 ++ r) 1 2 (by decide) (by rw [root_tl, hr]; simp)
      rw [root_tl, hr] at this
      refine ne_of_tl ?_
      have h3 : tl (Txt.slice (S1 ++ r) (some 1) (some 2)) = [c] := by simpa using this
      rw [h3, S1_tl]
      unfold NS at h
      rw [hr] at h
      simpa using h
  unfold splitrootF
  rw [if_neg (by rw [h1]; simp), if_pos h2, slice1]
/-- a place in any form: the names are those of the number -/
def Good (J : Str) (n : Nat) : Prop := ∃ r, J = S1 ++ r ∧ NS r ∧ normComps (Txt.split r S1) = names n
theorem good_norm {J : Str} {n : Nat} (h : Good J n) : normF J = placeF (n : Int) := by
  obtain ⟨r, rfl, h1, h2⟩ := h
  unfold normF
  rw [splitroot_ns h1, placeF_names]
  dsimp only
  rw [h2]
theorem good_rooted {J : Str} {n : Nat} (h : Good J n) (hl : J.length ≤ 1000) : Rooted J := by
  obtain ⟨r, rfl, h1, h2⟩ := h
  refine ⟨hl, ?_, ?_, ?_⟩
  · rw [splitroot_ns h1]; show (Str.ofString "/").length ≠ 0; decide +kernel
  · rw [splitroot_ns h1]; show (Str.ofString "/").length ≤ 2; decide +kernel
  · rw [len_tl, root_tl]; simp
theorem fold_names : ∀ (l acc : List Str), (∀ p ∈ l, ∃ b < 2, p = bS b) → l.foldl normStep acc = acc ++ l
  | [], acc, _ => by simp
  | p :: l, acc, h => by
    obtain ⟨b, hb, rfl⟩ := h p (.head _)
    obtain ⟨_, h1, h2, h3⟩ := bS_free b hb
    rw [List.foldl_cons, fold_names l _ (fun q hq => h q (.tail _ hq))]
    unfold normStep
    rw [if_neg (by rintro (e | e); · omega
                   · exact h2 e), if_neg h3]
    simp
/-- the text of the names -/
def restS (n : Nat) : Str := Txt.join S1 (names n)
theorem restS_nil {n : Nat} (h : names n = []) : restS n = Str.empty := by unfold restS; rw [h]; rfl
theorem restS_cons {n : Nat} {x : Str} {l : List Str} (h : names n = x :: l) : restS n = Str.join S1 (x :: l) := by
  unfold restS
  rw [h]
  exact StrLaws.glued_eq_join _ _
theorem names_free {n : Nat} : ∀ p ∈ names n, Free p := fun p hp => by
  obtain ⟨b, hb, rfl⟩ := names_ok n p hp
  exact (bS_free b hb).1
theorem rest_split (n : Nat) (acc : List Str) : (Txt.split (restS n) S1).foldl normStep acc = acc ++ names n := by
  rcases h : names n with _ | ⟨x, l⟩
  · rw [restS_nil h, split_empty]
    have : normStep acc Str.empty = acc := by unfold normStep; rw [if_pos (.inl rfl)]
    simp [this]
  · have hf := names_free (n := n)
    have ho := names_ok n
    rw [h] at hf ho
    rw [restS_cons h, split_join x l (hf x (.head _)) (fun p hp => hf p (.tail _ hp)), fold_names _ _ ho]
theorem rest_ns (n : Nat) : NS (restS n) := by
  rcases h : names n with _ | ⟨x, l⟩
  · rw [restS_nil h]; exact ns_nil _ rfl
  · have hf := names_free (n := n)
    obtain ⟨b, hb, hx⟩ := names_ok n x (by rw [h]; exact .head _)
    rw [h] at hf
    have h1 := hf x (.head _)
    have h2 := (bS_free b hb).2.1
    rw [← hx, len_tl] at h2
    unfold NS
    rw [restS_cons h, tl_join]
    rcases hx : tl x with _ | ⟨c, m⟩
    · rw [hx] at h2; simp at h2
    · unfold Free at h1
      rw [hx] at h1
      simp only [List.cons_append, List.head?_cons, ne_eq, Option.some.injEq]
      intro e
      exact h1 (e ▸ .head _)
theorem good_place (n : Nat) : Good (placeF (n : Int)) n :=
  ⟨restS n, rfl, rest_ns n, by unfold normComps; rw [rest_split]; simp⟩
theorem split_cons_ne {x : Str} : ∃ a l, Txt.split x S1 = a :: l := by
  rcases h : Txt.split x S1 with _ | ⟨a, l⟩
  · exact absurd h (split_ne_nil _)
  · exact ⟨a, l, rfl⟩
theorem startswith_tl {x y : Str} : Txt.startswith x y = ((tl x).take (tl y).length == tl y && decide ((tl y).length ≤ (tl x).length)) := by
  unfold Txt.startswith
  rw [StrLaws.subAt_eq, len_tl, len_tl, Bool.and_comm, Nat.zero_add]
  rfl
theorem startswith_ns {x : Str} (h : NS x) : Txt.startswith x S1 = false := by
  rw [startswith_tl, S1_tl]
  unfold NS at h
  rcases hx : tl x with _ | ⟨c, l⟩
  · rfl
  · rw [hx] at h
    simp at h
    simp [h]
theorem startswith_root (r : Str) : Txt.startswith (S1 ++ r) S1 = true := by
  rw [startswith_tl, S1_tl, root_tl]
  simp
theorem endswith_tl {x : Str} : Txt.endswith x S1 = true ↔ ∃ l, tl x = l ++ [47] := by
  unfold Txt.endswith
  rw [StrLaws.subAt_eq, len_tl, len_tl, S1_tl]
  show ((0 + [47].length ≤ (tl x).length && ((tl x).drop ((tl x).length - [47].length)).take [47].length == tl S1)) = true ↔ _
  rw [S1_tl]
  simp only [List.length_cons, List.length_nil, Nat.zero_add, Bool.and_eq_true, decide_eq_true_eq, beq_iff_eq]
  constructor
  · rintro ⟨h1, h2⟩
    refine ⟨(tl x).take ((tl x).length - 1), ?_⟩
    have h3 : (tl x).drop ((tl x).length - 1) = [47] := by
      rw [← h2, List.take_of_length_le (by simp; omega)]
    rw [← h3, List.take_append_drop]
  · rintro ⟨l, h⟩
    rw [h]
    simp
theorem mk_tl (l : List Nat) : tl (⟨l.toArray⟩ : Str) = l := by simp [tl]
/-- a relative piece hung below a place -/
theorem good_hang {J x : Str} {n : Nat} (h : Good J n) (hx : NS x) : ∃ r, joinStep J x = S1 ++ r ∧ NS r ∧ normComps (Txt.split r S1) = (Txt.split x S1).foldl normStep (names n) := by
  obtain ⟨r, rfl, h1, h2⟩ := h
  unfold joinStep
  rw [if_neg (by
    rintro (e | e)
    · rw [startswith_ns hx] at e; cases e
    · rw [len_tl, root_tl] at e; simp at e)]
  by_cases he : Txt.endswith (S1 ++ r) S1 = true
  · rw [if_pos he]
    obtain ⟨l, hl⟩ := endswith_tl.mp he
    rw [root_tl] at hl
    rcases l with _ | ⟨c, l⟩
    · simp only [List.nil_append, List.cons.injEq, true_and] at hl
      have e : r = Str.empty := tl_inj hl
      subst e
      refine ⟨x, ?_, hx, ?_⟩
      · rw [PySem.Str.append_empty]
      · rw [← h2, split_empty]
        rfl
    · simp only [List.cons_append, List.cons.injEq] at hl
      have e : r = (⟨l.toArray⟩ : Str) ++ (S1 ++ Str.empty) := tl_inj (by rw [tl_append, mk_tl, PySem.Str.append_empty, S1_tl]; exact hl.2)
      refine ⟨(⟨l.toArray⟩ : Str) ++ (S1 ++ x), ?_, ?_, ?_⟩
      · rw [e, PySem.Str.append_empty, PySem.Str.append_assoc, PySem.Str.append_assoc]
      · unfold NS at h1 ⊢
        rw [hl.2] at h1
        rw [tl_append, root_tl, mk_tl]
        cases l <;> simp_all
      · rw [split_slash, ← h2, e, split_slash, split_empty]
        unfold normComps
        rw [List.foldl_append, List.foldl_append]
        congr 1
  · rw [if_neg he]
    refine ⟨r ++ (S1 ++ x), by rw [PySem.Str.append_assoc], ?_, ?_⟩
    · unfold NS at h1 ⊢
      rw [tl_append, root_tl]
      rcases hr : tl r with _ | ⟨c, l⟩
      · exfalso
        refine he (endswith_tl.mpr ⟨[], ?_⟩)
        rw [root_tl, hr]; rfl
      · rw [hr] at h1
        simpa using h1
    · rw [split_slash, ← h2]
      unfold normComps
      rw [List.foldl_append]
end Mine
end P4
/-! ## P5 -/
section P5
open PySem PySem.W PyProof PyProof.Rows
set_option maxRecDepth 100000
set_option Elab.async false
namespace Mine
theorem bS0 : bS 0 = Str.ofString "0" := by decide +kernel
theorem bS1 : bS 1 = Str.ofString "1" := by decide +kernel
theorem bitS_eq (d q : Int) : ∃ b < 2, ((d.fdiv q).fmod 2) = ((b : Nat) : Int) ∧ bitS d q = bS b := by
  have h := one_bounds d q
  refine ⟨((d.fdiv q).fmod 2).toNat, by omega, by omega, ?_⟩
  unfold bitS bS
  rw [Int.toNat_of_nonneg h.1]
/-- what a step's piece does to the names -/
structure PieceRel (x : Str) (n m : Nat) : Prop where
  ns : NS x
  step : (Txt.split x S1).foldl normStep (names n) = names m
/-- a step's piece: a relative one, or a name right from the root -/
def PieceOk (x : Str) (n m : Nat) : Prop := x.length ≤ 10 ∧ (PieceRel x n m ∨ (∃ b < 2, x = S1 ++ bS b ∧ m = 2 + b))
def ns_dec (x : Str) : Bool := (tl x).head? != some 47
theorem ns_of {x : Str} (h : ns_dec x = true) : NS x := by unfold ns_dec at h; unfold NS; simpa using h
theorem step_up (acc : List Str) : normStep acc (Str.ofString "..") = acc.dropLast := by
  unfold normStep
  rw [if_neg (by rintro (e | e) <;> revert e <;> decide +kernel), if_pos rfl]
theorem stepDot (acc : List Str) : normStep acc (Str.ofString ".") = acc := by
  unfold normStep
  rw [if_pos (.inr rfl)]
theorem step_nil (acc : List Str) : normStep acc (Str.ofString "") = acc := by
  unfold normStep
  rw [if_pos (.inl (by decide +kernel))]
theorem step_bit (acc : List Str) {b : Nat} (hb : b < 2) : normStep acc (bS b) = acc ++ [bS b] := by
  obtain ⟨_, h1, h2, h3⟩ := bS_free b hb
  unfold normStep
  rw [if_neg (by rintro (e | e); · omega
                 · exact h2 e), if_neg h3]
def halfN (n : Nat) : Nat := if n / 2 > 1 then n / 2 else 1
theorem names_up {n : Nat} (hn : n ≠ 0) : (names n).dropLast = names (halfN n) := by
  unfold halfN
  rcases Nat.lt_or_ge n 2 with h | h
  · have : n = 1 := by omega
    subst this
    rw [names_one]; decide +kernel
  · rw [names_half h, List.dropLast_concat]
    split
    · rfl
    · rw [show n / 2 = 1 by omega]
theorem half_int (n : Nat) : (if (n : Int).fdiv 2 > 1 then (n : Int).fdiv 2 else 1) = ((halfN n : Nat) : Int) := by
  unfold halfN
  rw [Int.fdiv_eq_ediv_of_nonneg _ (by decide)]
  split <;> split <;> omega
theorem step_ok (n : Nat) (hn : n ≠ 0) (d : Int) : ∃ m : Nat, (stepF (n : Int) d).2 = (m : Int) ∧ PieceOk (stepF (n : Int) d).1 n m := by
  obtain ⟨b, hb, e1, e2⟩ := bitS_eq d 6
  obtain ⟨c, hc, e3, e4⟩ := bitS_eq d 12
  have up : PieceOk (Str.ofString "..") n (halfN n) := by
    refine ⟨by decide +kernel, .inl ⟨ns_of (by decide +kernel), ?_⟩⟩
    have : Txt.split (Str.ofString "..") S1 = [Str.ofString ".."] := by decide +kernel
    rw [this]
    simp only [List.foldl]
    rw [step_up, names_up hn]
  unfold stepF
  split
  · split
    · exact ⟨_, half_int n, up⟩
    · split
      · refine ⟨2 * (2 * n + b) + c, by dsimp only; rw [e1, e3]; omega, ?_⟩
        dsimp only
        rw [e2, e4]
        have h1 : ∀ b < 2, ∀ c < 2, (bS b ++ Str.ofString "//" ++ bS c ++ Str.ofString "/").length ≤ 10 ∧ ns_dec (bS b ++ Str.ofString "//" ++ bS c ++ Str.ofString "/") = true ∧ Txt.split (bS b ++ Str.ofString "//" ++ bS c ++ Str.ofString "/") S1 = [bS b, Str.ofString "", bS c, Str.ofString ""] := by
          decide +kernel
        obtain ⟨q1, q2, q3⟩ := h1 b hb c hc
        refine ⟨q1, .inl ⟨ns_of q2, ?_⟩⟩
        rw [q3]
        simp only [List.foldl]
        rw [step_nil, step_nil, step_bit _ hb, step_bit _ hc, names_dbl (by omega) hc, names_dbl hn hb]
      · split
        · refine ⟨halfN n, half_int n, ?_⟩
          dsimp only
          rw [e2]
          have h1 : ∀ b < 2, (bS b ++ Str.ofString "/.././..").length ≤ 10 ∧ ns_dec (bS b ++ Str.ofString "/.././..") = true ∧ Txt.split (bS b ++ Str.ofString "/.././..") S1 = [bS b, Str.ofString "..", Str.ofString ".", Str.ofString ".."] := by
            decide +kernel
          obtain ⟨q1, q2, q3⟩ := h1 b hb
          refine ⟨q1, .inl ⟨ns_of q2, ?_⟩⟩
          rw [q3]
          simp only [List.foldl]
          rw [step_bit _ hb, step_up, stepDot, step_up, List.dropLast_concat, names_up hn]
        · split
          · refine ⟨2 + b, by dsimp only; rw [e1]; omega, ?_⟩
            dsimp only
            rw [e2]
            have h1 : ∀ b < 2, (Str.ofString "/" ++ bS b).length ≤ 10 := by decide +kernel
            exact ⟨h1 b hb, .inr ⟨b, hb, rfl, rfl⟩⟩
          · refine ⟨2 * n + b, by dsimp only; rw [e1]; omega, ?_⟩
            dsimp only
            rw [e2]
            have h1 : ∀ b < 2, (bS b).length ≤ 10 ∧ ns_dec (bS b) = true ∧ Txt.split (bS b) S1 = [bS b] := by decide +kernel
            obtain ⟨q1, q2, q3⟩ := h1 b hb
            refine ⟨q1, .inl ⟨ns_of q2, ?_⟩⟩
            rw [q3]
            simp only [List.foldl]
            rw [step_bit _ hb, names_dbl hn hb]
  · exact ⟨_, half_int n, up⟩
/-- a step's piece joined to a place is the next place -/
theorem good_step {J x : Str} {n m : Nat} (h : Good J n) (hx : PieceOk x n m) : Good (joinStep J x) m := by
  rcases hx.2 with ⟨h1, h2⟩ | ⟨b, hb, rfl, rfl⟩
  · obtain ⟨r, e1, e2, e3⟩ := good_hang h h1
    exact ⟨r, e1, e2, e3.trans h2⟩
  · have e : joinStep J (S1 ++ bS b) = S1 ++ bS b := by
      unfold joinStep
      rw [if_pos (.inl (startswith_root _))]
    rw [e]
    have h1 : ∀ b < 2, ns_dec (bS b) = true ∧ Txt.split (bS b) S1 = [bS b] := by decide +kernel
    obtain ⟨q1, q2⟩ := h1 b hb
    refine ⟨bS b, rfl, ns_of q1, ?_⟩
    rw [q2]
    simp only [normComps, List.foldl]
    rw [step_bit _ hb, show 2 + b = 2 * 1 + b by omega, names_dbl (by decide) hb, names_one]
/-- the walk's pieces, one behind the other -/
theorem good_walk : ∀ (ds : List Int) (n : Nat) (J : Str), n ≠ 0 → n ≤ 127 → Good J n →
    ∃ m : Nat, foldK (n : Int) ds = (m : Int) ∧ Good (joinF J ((stepsF (n : Int) ds).map (·.1))) m
  | [], n, J, _, _, h => ⟨n, rfl, h⟩
  | d :: ds, n, J, hn, hl, h => by
    obtain ⟨m, e, hp⟩ := step_ok n hn d
    have hb := stepF_bounds (k := (n : Int)) d (by omega)
    rw [e] at hb
    obtain ⟨m', e', h'⟩ := good_walk ds m (joinStep J (stepF (n : Int) d).1) (by omega) (by omega) (good_step h hp)
    refine ⟨m', ?_, ?_⟩
    · rw [← e', ← e]; rfl
    · show Good (joinF J ((stepF (n : Int) d).1 :: (stepsF (stepF (n : Int) d).2 ds).map (·.1))) m'
      rw [e]
      exact h'
theorem steps_nums : ∀ (ds : List Int) (k : Int) (i : Nat) (x : Str) (n : Int), (stepsF k ds)[i]? = some (x, n) → ∃ kp d, (k :: (stepsF k ds).map (·.2))[i]? = some kp ∧ stepF kp d = (x, n)
  | [], _, _, _, _, h => by simp [stepsF] at h
  | d :: ds, k, 0, x, n, h => by
    simp only [stepsF, List.getElem?_cons_zero, Option.some.injEq] at h
    exact ⟨k, d, rfl, h⟩
  | d :: ds, k, i + 1, x, n, h => by
    simp only [stepsF, List.getElem?_cons_succ] at h
    obtain ⟨kp, d', h1, h2⟩ := steps_nums ds (stepF k d).2 i x n h
    refine ⟨kp, d', ?_, h2⟩
    rw [List.getElem?_cons_succ]
    simpa [stepsF] using h1
theorem nums_bounds : ∀ (ds : List Int) (k : Int), 1 ≤ k ∧ k ≤ 127 → ∀ n ∈ k :: (stepsF k ds).map (·.2), 1 ≤ n ∧ n ≤ 127
  | [], k, h, n, hn => by
    simp only [stepsF, List.map_nil, List.mem_singleton] at hn
    subst hn
    exact h
  | d :: ds, k, h, n, hn => by
    rcases List.mem_cons.mp hn with rfl | hn
    · exact h
    · have := nums_bounds ds (stepF k d).2 (stepF_bounds d h)
      exact this n (by simpa [stepsF] using hn)
end Mine
end P5
/-! ## P6 -/
section P6
open PySem PySem.W PyProof PyProof.Rows
set_option maxRecDepth 100000
set_option Elab.async false
namespace Mine
/-- the names of a text that is a place -/
theorem namesF_place (n : Nat) : namesF (placeF (n : Int)) = names n := by
  unfold namesF
  have e : placeF (n : Int) = Str.empty ++ (S1 ++ restS n) := by rw [PySem.Str.empty_append]; rfl
  rw [e, split_slash, split_empty]
  have h1 : keepF Str.empty = false := by decide +kernel
  have h0 : keepF (Str.ofString "") = false := by decide +kernel
  rw [List.filter_append, List.filter_cons, if_neg (by rw [h1]; decide), List.filter_nil, List.nil_append]
  rcases h : names n with _ | ⟨x, l⟩
  · rw [restS_nil h, split_empty, List.filter_cons, if_neg (by rw [h1]; decide), List.filter_nil]
  · have hf := names_free (n := n)
    have ho := names_ok n
    rw [h] at hf ho
    rw [restS_cons h, split_join x l (hf x (.head _)) (fun p hp => hf p (.tail _ hp))]
    refine List.filter_eq_self.mpr fun p hp => ?_
    obtain ⟨b, hb, rfl⟩ := ho p hp
    obtain ⟨_, q1, q2, _⟩ := bS_free b hb
    unfold keepF
    simp [q1, q2]
theorem bS_inj {a b : Nat} (ha : a < 2) (hb : b < 2) (h : bS a = bS b) : a = b := by
  have : (a = 0 ∨ a = 1) ∧ (b = 0 ∨ b = 1) := by omega
  obtain ⟨h1 | h1, h2 | h2⟩ := this <;> subst h1 <;> subst h2 <;> first | rfl | (exfalso; revert h; decide +kernel)
theorem comPre_snoc_ne : ∀ (xs ys : List Str) (a b : Str), xs.length = ys.length → xs ≠ ys → comPre (xs ++ [a]) (ys ++ [b]) = comPre xs ys
  | [], [], _, _, _, h => absurd rfl h
  | x :: xs, y :: ys, a, b, hl, h => by
    simp only [List.cons_append, comPre]
    by_cases e : x = y
    · subst e
      rw [if_pos rfl, if_pos rfl, comPre_snoc_ne xs ys a b (by simpa using hl) (fun q => h (by rw [q]))]
    · rw [if_neg e, if_neg e]
theorem comPre_snoc_eq : ∀ (xs : List Str) (a b : Str), a ≠ b → comPre (xs ++ [a]) (xs ++ [b]) = xs
  | [], a, b, h => by simp [comPre, h]
  | x :: xs, a, b, h => by simp [comPre, comPre_snoc_eq xs a b h]
theorem comPre_long : ∀ (xs ys : List Str) (a : Str), ys.length ≤ xs.length → comPre (xs ++ [a]) ys = comPre xs ys
  | [], [], a, _ => by simp [comPre]
  | x :: xs, [], a, _ => by simp [comPre]
  | x :: xs, y :: ys, a, h => by
    simp only [List.cons_append, comPre]
    by_cases e : x = y
    · subst e
      rw [if_pos rfl, if_pos rfl, comPre_long xs ys a (by simpa using h)]
    · rw [if_neg e, if_neg e]
/-- bits of a number (0 of 0) -/
def bl (n : Nat) : Nat := if n = 0 then 0 else n.log2 + 1
theorem highF_bl (n : Nat) : highF (n : Int) + 1 = (bl n : Int) := by
  unfold bl
  split
  · rename_i h; subst h; decide +kernel
  · rename_i h; rw [highF_nat h]; omega
theorem bl_half {n : Nat} (h : n / 2 ≠ 0) : bl n = bl (n / 2) + 1 := by
  unfold bl
  rw [if_neg (by omega), if_neg h]
  have := log2_dbl (n := n / 2) (b := n % 2) h (by omega)
  rw [show 2 * (n / 2) + n % 2 = n by omega] at this
  rw [this]
theorem names_inj : ∀ (a b : Nat), a ≠ 0 → b ≠ 0 → names a = names b → a = b := by
  intro a
  induction a using Nat.strongRecOn with
  | _ a ih =>
    intro b ha hb h
    have hl : a.log2 = b.log2 := by rw [← names_len ha, ← names_len hb, h]
    rcases Nat.lt_or_ge a 2 with h1 | h1
    · have : a = 1 := by omega
      subst this
      rw [show Nat.log2 1 = 0 by decide] at hl
      rcases Nat.lt_or_ge b 2 with h2 | h2
      · omega
      · have := log2_dbl (n := b / 2) (b := b % 2) (by omega) (by omega)
        rw [show 2 * (b / 2) + b % 2 = b by omega] at this
        omega
    · rcases Nat.lt_or_ge b 2 with h2 | h2
      · have : b = 1 := by omega
        subst this
        rw [show Nat.log2 1 = 0 by decide] at hl
        have := log2_dbl (n := a / 2) (b := a % 2) (by omega) (by omega)
        rw [show 2 * (a / 2) + a % 2 = a by omega] at this
        omega
      · rw [names_half h1, names_half h2] at h
        obtain ⟨e1, e2⟩ := List.append_inj' h rfl
        have := ih (a / 2) (by omega) (b / 2) (by omega) (by omega) e1
        have e3 := bS_inj (Nat.mod_lt _ (by decide)) (Nat.mod_lt _ (by decide)) (List.cons.inj e2).1
        omega
theorem xor_zero_eq {a b : Nat} (h : a ^^^ b = 0) : a = b := by
  have h1 : a ^^^ (a ^^^ b) = b := by rw [← Nat.xor_assoc, Nat.xor_self, Nat.zero_xor]
  rw [h, Nat.xor_zero] at h1
  exact h1
/-- two numbers of one length: what both begin with -/
theorem com_same : ∀ (a b : Nat), a ≠ 0 → b ≠ 0 → a.log2 = b.log2 → a / 2 ^ bl (a ^^^ b) ≠ 0 ∧ comPre (names a) (names b) = names (a / 2 ^ bl (a ^^^ b)) := by
  intro a
  induction a using Nat.strongRecOn with
  | _ a ih =>
    intro b ha hb hl
    by_cases e : a = b
    · subst e
      rw [Nat.xor_self, show bl 0 = 0 from rfl, Nat.pow_zero, Nat.div_one, comPre_self]
      exact ⟨ha, rfl⟩
    have h1 : 2 ≤ a := by
      rcases Nat.lt_or_ge a 2 with h | h
      · have : a = 1 := by omega
        subst this
        rw [show Nat.log2 1 = 0 by decide] at hl
        have := (Nat.log2_eq_iff hb).mp hl.symm
        omega
      · exact h
    have l1 := log2_dbl (n := a / 2) (b := a % 2) (by omega) (by omega)
    rw [show 2 * (a / 2) + a % 2 = a by omega] at l1
    have h2 : 2 ≤ b := by
      rcases Nat.lt_or_ge b 2 with h | h
      · have : b = 1 := by omega
        subst this
        rw [show Nat.log2 1 = 0 by decide] at hl
        omega
      · exact h
    have l2 := log2_dbl (n := b / 2) (b := b % 2) (by omega) (by omega)
    rw [show 2 * (b / 2) + b % 2 = b by omega] at l2
    have hx : (a ^^^ b) / 2 = (a / 2) ^^^ (b / 2) := Nat.xor_div_two
    by_cases e2 : a / 2 = b / 2
    · have e3 : a % 2 ≠ b % 2 := by omega
      rw [e2, Nat.xor_self] at hx
      have h3 : a ^^^ b ≠ 0 := by
        intro h
        exact e (xor_zero_eq h)
      have h4 : a ^^^ b = 1 := by omega
      rw [h4, show bl 1 = 1 from rfl, Nat.pow_one]
      refine ⟨by omega, ?_⟩
      rw [names_half h1, names_half h2, e2, comPre_snoc_eq]
      intro h
      exact e3 (bS_inj (Nat.mod_lt _ (by decide)) (Nat.mod_lt _ (by decide)) h)
    · have h3 : (a / 2) ^^^ (b / 2) ≠ 0 := fun h => e2 (xor_zero_eq h)
      have h4 : bl (a ^^^ b) = bl ((a / 2) ^^^ (b / 2)) + 1 := by
        rw [← hx]
        rw [← hx] at h3
        exact bl_half h3
      obtain ⟨i1, i2⟩ := ih (a / 2) (by omega) (b / 2) (by omega) (by omega) (by omega)
      rw [h4, Nat.pow_succ, Nat.mul_comm (2 ^ _) 2, ← Nat.div_div_eq_div_mul]
      refine ⟨i1, ?_⟩
      rw [names_half h1, names_half h2, comPre_snoc_ne, i2]
      · rw [names_len (by omega), names_len (by omega)]; omega
      · intro h
        exact e2 (names_inj _ _ (by omega) (by omega) h)
/-- the longer number cut to the shorter's length -/
theorem cut_long : ∀ (a : Nat) (ys : List Str) (j : Nat), a ≠ 0 → ys.length + j = a.log2 → (a / 2 ^ j) ≠ 0 ∧ (a / 2 ^ j).log2 = ys.length ∧ comPre (names a) ys = comPre (names (a / 2 ^ j)) ys
  | a, ys, 0, ha, h => by
    rw [Nat.pow_zero, Nat.div_one]
    exact ⟨ha, by omega, rfl⟩
  | a, ys, j + 1, ha, h => by
    have h1 : 2 ≤ a := by
      rcases Nat.lt_or_ge a 2 with q | q
      · have : a = 1 := by omega
        subst this
        rw [show Nat.log2 1 = 0 by decide] at h
        omega
      · exact q
    have l1 := log2_dbl (n := a / 2) (b := a % 2) (by omega) (by omega)
    rw [show 2 * (a / 2) + a % 2 = a by omega] at l1
    obtain ⟨i1, i2, i3⟩ := cut_long (a / 2) ys j (by omega) (by omega)
    rw [Nat.pow_succ, Nat.mul_comm (2 ^ _) 2, ← Nat.div_div_eq_div_mul]
    refine ⟨i1, i2, ?_⟩
    rw [names_half h1, comPre_long _ _ _ (by rw [names_len (by omega)]; omega), i3]
theorem fdiv_nat (a j : Nat) : (a : Int).fdiv (2 ^ j) = ((a / 2 ^ j : Nat) : Int) := by
  rw [Int.fdiv_eq_ediv_of_nonneg _ (Int.le_of_lt (Int.pow_pos (by decide)))]
  simp
/-- what the fork answers, in plain numbers -/
theorem fork_nat {a b : Nat} (ha : a ≠ 0) (hb : b ≠ 0) : ∃ m : Nat, m ≠ 0 ∧ m ≤ a ∧ forkF (a : Int) (b : Int) = (m : Int) ∧ comPre (names a) (names b) = names m := by
  have key : ∀ (i j : Nat), (a / 2 ^ i) ≠ 0 → (b / 2 ^ j) ≠ 0 → (a / 2 ^ i).log2 = (b / 2 ^ j).log2 → comPre (names a) (names b) = comPre (names (a / 2 ^ i)) (names (b / 2 ^ j)) →
      forkA (a : Int) (b : Int) = ((a / 2 ^ i : Nat) : Int) → forkB (a : Int) (b : Int) = ((b / 2 ^ j : Nat) : Int) → ∃ m : Nat, m ≠ 0 ∧ m ≤ a ∧ forkF (a : Int) (b : Int) = (m : Int) ∧ comPre (names a) (names b) = names m := by
    intro i j h1 h2 h3 h4 h5 h6
    obtain ⟨q1, q2⟩ := com_same _ _ h1 h2 h3
    refine ⟨_, q1, ?_, ?_, h4.trans q2⟩
    · exact Nat.le_trans (Nat.div_le_self _ _) (Nat.div_le_self _ _)
    · unfold forkF
      rw [h5, h6, bitXor_nat, highF_bl, Int.toNat_natCast, fdiv_nat]
  have ea := highF_nat ha
  have eb := highF_nat hb
  rcases Nat.lt_or_ge b.log2 a.log2 with h | h
  · obtain ⟨c1, c2, c3⟩ := cut_long a (names b) (a.log2 - b.log2) ha (by rw [names_len hb]; omega)
    rw [names_len hb] at c2
    refine key (a.log2 - b.log2) 0 c1 (by simpa using hb) (by simpa using c2) (by simpa using c3) ?_ ?_
    · unfold forkA
      rw [ea, eb, if_pos (by omega), ← fdiv_nat]
      congr 2
      omega
    · unfold forkB
      rw [ea, eb, if_pos (by omega), ← fdiv_nat]
      congr 2
      omega
  · obtain ⟨c1, c2, c3⟩ := cut_long b (names a) (b.log2 - a.log2) hb (by rw [names_len ha]; omega)
    rw [names_len ha] at c2
    refine key 0 (b.log2 - a.log2) (by simpa using ha) c1 (by simpa using c2.symm) (by rw [comPre_symm, c3, comPre_symm]; simp) ?_ ?_
    · unfold forkA
      rw [ea, eb, if_neg (by omega), ← fdiv_nat]
      congr 2
      omega
    · unfold forkB
      rw [ea, eb, if_neg (by omega), ← fdiv_nat]
      congr 2
      omega
theorem com_place {a b : Nat} (ha : a ≠ 0) (hb : b ≠ 0) : comF (placeF (a : Int)) (placeF (b : Int)) = placeF (forkF (a : Int) (b : Int)) := by
  obtain ⟨m, _, _, h1, h2⟩ := fork_nat ha hb
  unfold comF
  rw [namesF_place, namesF_place, h2, h1]
  rfl
theorem rest_len (n : Nat) : (restS n).length ≤ 2 * (names n).length := by
  rcases h : names n with _ | ⟨x, l⟩
  · rw [restS_nil h]; decide +kernel
  · have hl : ∀ p ∈ names n, (tl p).length = 1 := fun p hp => by
      obtain ⟨b, hb, rfl⟩ := names_ok n p hp
      rw [← len_tl]
      exact (bS_free b hb).2.1
    rw [h] at hl
    rw [restS_cons h, len_tl, tl_join, List.length_append, hl x (.head _)]
    have : ∀ l : List Str, (∀ p ∈ l, (tl p).length = 1) → ((l.map fun p => 47 :: tl p).flatten).length = 2 * l.length := by
      intro l
      induction l with
      | nil => intro _; rfl
      | cons p l ih =>
        intro h
        simp only [List.map_cons, List.flatten_cons, List.length_append, List.length_cons, ih (fun q hq => h q (.tail _ hq)), h p (.head _)]
        omega
    rw [this l (fun p hp => hl p (.tail _ hp))]
    simp only [List.length_cons]
    omega
theorem log2_127 {n : Nat} (h1 : n ≠ 0) (h : n ≤ 127) : n.log2 ≤ 6 := by
  have : n.log2 < 7 := (Nat.log2_lt h1).mpr (by omega)
  omega
theorem place_len {n : Nat} (h1 : n ≠ 0) (h : n ≤ 127) : (placeF (n : Int)).length ≤ 13 := by
  have e : placeF (n : Int) = S1 ++ restS n := rfl
  have h2 := rest_len n
  have h3 := log2_127 h1 h
  rw [names_len h1] at h2
  rw [e, len_tl, root_tl, List.length_cons, ← len_tl]
  omega
end Mine
end P6
/-! ## P7 -/
section P7
open PySem PySem.W PyProof PyProof.Rows
set_option maxRecDepth 100000
set_option Elab.async false
namespace Mine
/-- the code points of a place behind its slash, reckoned quickly -/
def rlN : Nat → Nat → List Nat
  | 0, _ => []
  | f + 1, n => if n < 2 then [] else if n < 4 then [48 + n % 2] else rlN f (n / 2) ++ [47, 48 + n % 2]
def plN (n : Nat) : Str := ⟨(47 :: rlN 7 n).toArray⟩
theorem bS_tl : ∀ b < 2, tl (bS b) = [48 + b] := by decide +kernel
theorem tl_rest : ∀ (f n : Nat), n ≠ 0 → n < 2 ^ f → tl (restS n) = rlN f n
  | 0, n, h1, h2 => by omega
  | f + 1, n, h1, h2 => by
    unfold rlN
    rcases Nat.lt_or_ge n 2 with h | h
    · have : n = 1 := by omega
      subst this
      rw [if_pos h, restS_nil names_one]
      rfl
    · rw [if_neg (by omega)]
      have hb := bS_tl (n % 2) (Nat.mod_lt _ (by decide))
      rcases Nat.lt_or_ge n 4 with h4 | h4
      · rw [if_pos h4]
        have e : names n = bS (n % 2) :: [] := by
          rw [names_half h, show n / 2 = 1 by omega, names_one]; rfl
        rw [restS_cons e, tl_join, hb]
        simp
      · rw [if_neg (by omega), ← tl_rest f (n / 2) (by omega) (by rw [Nat.pow_succ] at h2; omega)]
        have h5 := names_half (n := n / 2) (by omega)
        have h6 := names_half h
        rcases e : names (n / 2) with _ | ⟨x, l⟩
        · rw [e] at h5
          exact absurd (congrArg List.length h5) (by simp)
        · rw [e] at h6
          have e6 : names n = x :: (l ++ [bS (n % 2)]) := h6
          rw [restS_cons e, restS_cons e6, tl_join, tl_join, List.map_append, List.flatten_append]
          simp [hb]
theorem place_fast {n : Nat} (h1 : n ≠ 0) (h2 : n ≤ 127) : placeF (n : Int) = plN n := by
  apply tl_inj
  have e : placeF (n : Int) = S1 ++ restS n := rfl
  rw [e, root_tl, tl_rest 7 n h1 (by omega)]
  simp [plN, tl]
def splitOk (n : Nat) : Bool := splitF (plN n) == (plN (n / 2), ⟨#[48 + n % 2]⟩)
theorem split_all1 : (List.range' 2 30).all splitOk = true := by decide +kernel
theorem split_all2 : (List.range' 32 32).all splitOk = true := by decide +kernel
theorem split_all3 : (List.range' 64 32).all splitOk = true := by decide +kernel
theorem split_all4 : (List.range' 96 32).all splitOk = true := by decide +kernel
theorem all_at {f : Nat → Bool} {a l : Nat} (h : (List.range' a l).all f = true) {n : Nat} (h1 : a ≤ n) (h2 : n < a + l) : f n = true :=
  List.all_eq_true.mp h n (by rw [List.mem_range'_1]; omega)
theorem split_place {n : Nat} (h1 : 2 ≤ n) (h2 : n ≤ 127) : splitF (placeF (n : Int)) = (placeF ((n / 2 : Nat) : Int), bS (n % 2)) := by
  have h : splitOk n = true := by
    rcases Nat.lt_or_ge n 32 with q | q
    · exact all_at split_all1 h1 (by omega)
    rcases Nat.lt_or_ge n 64 with q2 | q2
    · exact all_at split_all2 q (by omega)
    rcases Nat.lt_or_ge n 96 with q3 | q3
    · exact all_at split_all3 q2 (by omega)
    · exact all_at split_all4 q3 (by omega)
  rw [place_fast (by omega) h2, place_fast (n := n / 2) (by omega) (by omega)]
  have e : bS (n % 2) = ⟨#[48 + n % 2]⟩ := tl_inj (by rw [bS_tl _ (Nat.mod_lt _ (by decide))]; rfl)
  rw [e]
  exact eq_of_beq h
theorem split_one : splitF (placeF ((1 : Nat) : Int)) = (Str.ofString "/", Str.ofString "") := by decide +kernel
theorem bS_facts : ∀ b < 2, (bS b != Str.ofString "") = true ∧ ((bS b == Str.ofString "1") = true ↔ b = 1) := by decide +kernel
/-- reading a place's number back -/
theorem num_run : ∀ (f n : Nat) (a g : Int), n ≠ 0 → n ≤ 127 → n < 2 ^ f → numRun f a g (splitF (placeF (n : Int))).1 (splitF (placeF (n : Int))).2 = some (a + g * (n : Int))
  | 0, n, a, g, h1, _, h3 => by omega
  | f + 1, n, a, g, h1, h2, h3 => by
    rcases Nat.lt_or_ge n 2 with h | h
    · have : n = 1 := by omega
      subst this
      rw [split_one]
      unfold numRun
      rw [if_neg (by decide)]
      simp
    · rw [split_place h h2]
      obtain ⟨q1, q2⟩ := bS_facts (n % 2) (Nat.mod_lt _ (by decide))
      unfold numRun
      rw [if_pos q1, num_run f (n / 2) _ _ (by omega) (by omega) (by rw [Nat.pow_succ] at h3; omega)]
      congr 1
      have e : (n : Int) = 2 * ((n / 2 : Nat) : Int) + ((n % 2 : Nat) : Int) := by omega
      generalize ((n / 2 : Nat) : Int) = p at *
      by_cases hb : n % 2 = 1
      · rw [if_pos (q2.mpr hb), e, hb, Int.mul_add, ← Int.mul_assoc, Int.mul_comm g 2]
        simp only [Int.natCast_one, Int.mul_one]
        omega
      · rw [if_neg (fun q => hb (q2.mp q)), e, show n % 2 = 0 by omega, Int.mul_add, ← Int.mul_assoc, Int.mul_comm g 2]
        simp
def singOk (k : Nat) : Bool := singleF (k : Int) == !(decide (49 ∈ (47 :: rlN 7 k)))
theorem sing_all : (List.range' 1 127).all singOk = true := by decide +kernel
theorem one_eq : Str.ofString "1" = ⟨#[49]⟩ := by decide +kernel
theorem sing_place {n : Nat} (h1 : n ≠ 0) (h2 : n ≤ 127) : (singleF (n : Int) != !!(Builtin.Str.occurrences (placeF (n : Int)) (Str.ofString "1") 0 (placeF (n : Int)).length 1).isEmpty) = false := by
  have h : singOk n = true := all_at sing_all (by omega) (by omega)
  have h3 := StrLaws.found_one (placeF (n : Int)) 49
  have e : (placeF (n : Int)).cps.toList = 47 :: rlN 7 n := by rw [place_fast h1 h2]; simp [plN]
  rw [e] at h3
  rw [one_eq, h3]
  unfold singOk at h
  rw [eq_of_beq h]
  simp
theorem steps_fst_len {ds : List Int} : ∀ {k : Int} (_ : 1 ≤ k ∧ k ≤ 127), ∀ p ∈ stepsF k ds, p.1.length ≤ 10 := by
  induction ds with
  | nil => intro k _ p hp; cases hp
  | cons d ds ih =>
    intro k hk p hp
    rcases List.mem_cons.mp hp with rfl | hp
    · obtain ⟨m, _, h, _⟩ := step_ok k.toNat (by omega) d
      rwa [Int.toNat_of_nonneg (by omega)] at h
    · exact ih (stepF_bounds d hk) p hp
end Mine
end P7
/-! ## P8 -/
section P8
open PySem PySem.W PyProof PyProof.Rows
set_option maxRecDepth 100000
set_option Elab.async false
namespace Mine
/-- what a turn of the walk needs -/
structure TurnFacts (x : Str) (k kp old : Int) : Prop where
  hk1 : 1 ≤ k ∧ k ≤ 127
  ho1 : 1 ≤ old ∧ old ≤ 127
  hlk : (placeF k).length ≤ 30
  hlo : (placeF old).length ≤ 30
  hlp : (placeF kp).length ≤ 30
  hj1 : (placeF kp).length ≤ 100 ∧ wt [x] ≤ 500
  hr1 : Rooted (joinF (placeF kp) [x])
  he1 : normF (joinF (placeF kp) [x]) = placeF k
  he2 : numRun 16 0 1 (splitF (placeF k)).1 (splitF (placeF k)).2 = some k
  hsk : Txt.startswith (placeF k) (Str.ofString "/") = true
  hso : Txt.startswith (placeF old) (Str.ofString "/") = true
  he3 : comF (placeF old) (placeF k) = placeF (forkF old k)
  hfk : 1 ≤ forkF old k ∧ forkF old k ≤ 127
  hj2 : (placeF old).length ≤ 100 ∧ wt [Txt.slice (placeF k) (some 1) none] ≤ 500
  hr2 : Rooted (joinF (placeF old) [Txt.slice (placeF k) (some 1) none])
  he4 : (singleF k != !!(Builtin.Str.occurrences (placeF k) (Str.ofString "1") 0 (placeF k).length 1).isEmpty) = false
  he5 : normF (joinF (placeF old) [Txt.slice (placeF k) (some 1) none]) = placeF (old * 2 ^ (highF k).toNat + k - 2 ^ (highF k).toNat)
  hpw : 1 ≤ (2 : Int) ^ (highF k).toNat ∧ (2 : Int) ^ (highF k).toNat ≤ 127
  hpr : 1 ≤ old * (2 : Int) ^ (highF k).toNat ∧ old * (2 : Int) ^ (highF k).toNat ≤ 16129
  hbig : 1 ≤ old * 2 ^ (highF k).toNat + k - 2 ^ (highF k).toNat ∧ old * 2 ^ (highF k).toNat + k - 2 ^ (highF k).toNat ≤ 20000
theorem turn_nat {x : Str} {k kp old : Nat} (hk : k ≠ 0 ∧ k ≤ 127) (hkp : kp ≠ 0 ∧ kp ≤ 127) (ho : old ≠ 0 ∧ old ≤ 127) (hp : PieceOk x kp k) : TurnFacts x (k : Int) (kp : Int) (old : Int) := by
  have lk := place_len hk.1 hk.2
  have lp := place_len hkp.1 hkp.2
  have lo := place_len ho.1 ho.2
  have g1 : Good (joinF (placeF (kp : Int)) [x]) k := good_step (good_place kp) hp
  have w1 : wt [x] ≤ 100 := by have := hp.1; simp only [wt, List.map_cons, List.map_nil, List.sum_cons, List.sum_nil, List.length_cons, List.length_nil]; omega
  have l1 := joinF_len [x] (placeF (kp : Int))
  have es : Txt.slice (placeF (k : Int)) (some 1) none = restS k := slice1 (restS k)
  have ls : (restS k).length ≤ 30 := by
    have h2 := rest_len k
    have h3 := log2_127 hk.1 hk.2
    rw [names_len hk.1] at h2
    omega
  have w2 : wt [restS k] ≤ 100 := by simp only [wt, List.map_cons, List.map_nil, List.sum_cons, List.sum_nil, List.length_cons, List.length_nil]; omega
  have l2 := joinF_len [restS k] (placeF (old : Int))
  obtain ⟨n1, n2⟩ := names_hang old ho.1 k hk.1
  have g2 : Good (joinF (placeF (old : Int)) [restS k]) (old * 2 ^ k.log2 + k - 2 ^ k.log2) := by
    obtain ⟨r, e1, e2, e3⟩ := good_hang (good_place old) (rest_ns k)
    exact ⟨r, e1, e2, by rw [e3, rest_split, n2]⟩
  have p1 : 1 ≤ 2 ^ k.log2 := Nat.one_le_two_pow
  have p2 : 2 ^ k.log2 ≤ k := Nat.log2_self_le hk.1
  have p3 : old * 2 ^ k.log2 ≤ 127 * 127 := Nat.mul_le_mul ho.2 (by omega)
  have p4 : 1 * 1 ≤ old * 2 ^ k.log2 := Nat.mul_le_mul (by omega) p1
  have eh : (highF (k : Int)).toNat = k.log2 := by rw [highF_nat hk.1, Int.toNat_natCast]
  have ep : (2 : Int) ^ k.log2 = ((2 ^ k.log2 : Nat) : Int) := by simp
  have em : (old : Int) * (2 : Int) ^ k.log2 = ((old * 2 ^ k.log2 : Nat) : Int) := by rw [ep]; simp
  have eb : (old : Int) * 2 ^ k.log2 + (k : Int) - 2 ^ k.log2 = ((old * 2 ^ k.log2 + k - 2 ^ k.log2 : Nat) : Int) := by
    rw [em, ep]; omega
  obtain ⟨f, f1, f2, f3, _⟩ := fork_nat ho.1 hk.1
  exact {
    hk1 := by omega
    ho1 := by omega
    hlk := by omega
    hlo := by omega
    hlp := by omega
    hj1 := by omega
    hr1 := good_rooted g1 (by omega)
    he1 := good_norm g1
    he2 := by rw [num_run 16 k 0 1 hk.1 hk.2 (by omega)]; simp
    hsk := startswith_root _
    hso := startswith_root _
    he3 := com_place ho.1 hk.1
    hfk := by rw [f3]; omega
    hj2 := by rw [es]; omega
    hr2 := by rw [es]; exact good_rooted g2 (by omega)
    he4 := sing_place hk.1 hk.2
    he5 := by rw [es, eh, eb]; exact good_norm g2
    hpw := by rw [eh, ep]; omega
    hpr := by rw [eh, em]; omega
    hbig := by rw [eh, eb]; omega }
theorem turn_facts {ps : List (Str × Int)} {ds : List Int} {i j : Nat} {x : Str} {k kp old : Int} (hds : ps = stepsF 1 ds) (hx : ps[i]? = some (x, k)) (h2 : (numsF ps)[i]? = some kp) (h3 : (numsF ps)[j]? = some old) : TurnFacts x k kp old := by
  subst hds
  have hb := nums_bounds ds 1 (by decide)
  have b1 := hb kp (List.mem_of_getElem? h2)
  have b2 := hb old (List.mem_of_getElem? h3)
  have b3 := hb k (.tail _ (List.mem_map.mpr ⟨_, List.mem_of_getElem? hx, rfl⟩))
  obtain ⟨kp', d, e1, e2⟩ := steps_nums ds 1 i x k hx
  have e3 : kp' = kp := by
    have : (numsF (stepsF 1 ds))[i]? = some kp' := e1
    rw [h2] at this
    exact (Option.some.inj this).symm
  subst e3
  obtain ⟨n, rfl⟩ : ∃ n : Nat, kp' = n := ⟨kp'.toNat, by omega⟩
  obtain ⟨o, rfl⟩ : ∃ n : Nat, old = n := ⟨old.toNat, by omega⟩
  obtain ⟨m, e4, e5⟩ := step_ok n (by omega) d
  rw [e2] at e4 e5
  subst e4
  exact turn_nat (by omega) (by omega) (by omega) e5
theorem last_num : ∀ (ds : List Int) (k : Int), (k :: (stepsF k ds).map (·.2))[(stepsF k ds).length]? = some (foldK k ds)
  | [], k => rfl
  | d :: ds, k => by
    have := last_num ds (stepF k d).2
    simpa [stepsF, foldK] using this
structure EndFacts (ps : List (Str × Int)) (kp : Int) : Prop where
  hlr : (Str.ofString "/").length ≤ 100 ∧ wt (ps.map (·.1)) ≤ 500
  hr3 : Rooted (joinF (Str.ofString "/") (ps.map (·.1)))
  he6 : normF (joinF (Str.ofString "/") (ps.map (·.1))) = placeF kp
theorem wt_small : ∀ (l : List Str), (∀ p ∈ l, p.length ≤ 10) → wt l ≤ 11 * l.length
  | [], _ => by simp [wt]
  | p :: l, h => by
    have h1 := wt_small l (fun q hq => h q (.tail _ hq))
    have h2 := h p (.head _)
    simp only [wt, List.map_cons, List.sum_cons, List.length_cons] at h1 ⊢
    omega
theorem end_facts {ps : List (Str × Int)} {ds : List Int} {kp : Int} (hds : ps = stepsF 1 ds) (hl : ps.length ≤ 12) (h : (numsF ps)[ps.length]? = some kp) : EndFacts ps kp := by
  subst hds
  have e : foldK 1 ds = kp := by
    have h1 : (numsF (stepsF 1 ds))[(stepsF 1 ds).length]? = some (foldK 1 ds) := last_num ds 1
    rw [h] at h1
    exact (Option.some.inj h1).symm
  have s1 : (Str.ofString "/").length = 1 := by decide +kernel
  obtain ⟨m, e1, g⟩ := good_walk ds 1 S1 (by decide) (by decide) ⟨Str.empty, (PySem.Str.append_empty _).symm, ns_nil _ rfl, by rw [split_empty, names_one]; decide +kernel⟩
  have hw := wt_small ((stepsF 1 ds).map (·.1)) (fun p hp => by
    obtain ⟨q, hq, rfl⟩ := List.mem_map.mp hp
    exact steps_fst_len (by decide) q hq)
  rw [List.length_map] at hw
  have hj := joinF_len ((stepsF 1 ds).map (·.1)) (Str.ofString "/")
  have em : kp = (m : Int) := by rw [← e, ← e1]; rfl
  exact { hlr := by omega, hr3 := good_rooted g (by omega), he6 := by rw [em]; exact good_norm g }
end Mine
end P8
/-! ## the law -/
section Law
theorem Mine.calm_Law : True := by
  w_top off
  trivial
open PySem PySem.W PyProof.Rows PySem.Calls
set_option pp.deepTerms false
set_option pp.maxSteps 400
set_option maxRecDepth 100000
set_option maxHeartbeats 8000000
namespace Mine
/-- which part of the law's walk a line is for -/
structure Sign9 (n : Nat) : Prop
theorem arr_fits {l : List Value} {n : Nat} (h : l.length = n) (hn : n ≤ 1000) : l.toArray.size ≤ sizeLine := by rw [List.size_toArray, h, sizeLine_eq]; omega
theorem news_swap {h₀ h : Heap} {L : Addr} {a b c : Addr × Obj} {ts : List (Addr × Obj)} (N : News h₀ L h (a :: b :: c :: ts)) : News h₀ L h (a :: c :: b :: ts) := fun p hp => N p (by
  simp only [List.mem_cons] at hp ⊢
  rcases hp with h | h | h | h <;> simp [h])
theorem sub_law {d l I S a1 a2 a3 D : Addr × Obj} {tz : List (Addr × Obj)} : ∀ p ∈ I :: S :: D :: d :: tz, p ∈ d :: l :: I :: S :: a1 :: a2 :: a3 :: D :: tz := by
  intro p hp
  simp only [List.mem_cons] at hp ⊢
  rcases hp with h | h | h | h | h <;> simp [h]
theorem pairs_root {ps : List (Str × Int)} {D : Addr} {t u : Tok} {ts : List (Addr × Obj)} : PairsAre [.ref D] (seenP placeF ps (0 + 1)) ((D, tup2 (.str (Str.ofString "/") t) (.int 1 u)) :: ts) := by
  have e : seenP placeF ps (0 + 1) = [] ++ [(Str.ofString "/", (1 : Int))] := by
    have : placeF 1 = Str.ofString "/" := by decide +kernel
    simp [seenP, numsF, this]
  rw [e]
  exact (PairsAre.nil.snoc (a := D) (t := t) (u := u)).mono (fun p hp => by
    rw [List.mem_singleton.mp hp]; exact .head _)
theorem strs_fits {vs : List Value} {ps : List (Str × Int)} (h : StrsAre vs (ps.map (·.1))) (hp : ps.length ≤ 12) : vs.toArray.size ≤ sizeLine := by
  rw [List.size_toArray, h.len_eq, List.length_map, sizeLine_eq]; omega
theorem strs_12 {vs : List Value} {ps : List (Str × Int)} (h : StrsAre vs (ps.map (·.1))) (hp : ps.length ≤ 12) : vs.length ≤ 12 := by
  rw [h.len_eq, List.length_map]; exact hp
local macro_rules | `(tactic| walk_at "binaryOp Add ref ref") => `(tactic| (k_here; k_dflt (refine' Mine.add_draws ?k1 ?k2 ?k3 ?k4 ?k5 ?k6 ?_; (case k1 => assumption); (case k2 => assumption); (case k3 => k_mem); (case k4 => assumption); (case k5 => assumption); (case k6 => (rw [List.length_take]; omega)); k_whole); intro vs9 h9 I9 F9 N9))
set_option hygiene false in
local macro_rules | `(tactic| walk_at "call ref") => `(tactic| (k_here; (with_reducible show wpAny _ _ (call (Value.ref 162) [Value.ref _]) _ _ _); k_dflt (refine' Mine.use_claimS (Mine.t_steps _ _ ?v1 ?v2 ?v3 _) ?k1 ?k2 ?k3 ?k4 ?k5 ?k6 ?km ?k7 ?k8 ?k9 ?_; (case v1 => assumption); (case v2 => exact Mine.draws_ok); (case v3 => exact Mine.draws_len); (case k1 => k_asm); (case k2 => k_asm); (case k3 => k_asm); (case k4 => k_asm); (case k5 => k_asm); (case k6 => first | exact rfl | assumption); (case km => k_mem); (case k7 => trivial); (case k8 => ktr_room); (case k9 => ktr_units); k_whole); intro D9 vsS c9 tsS h9 tk9 PS F9 N9 LS))
local macro_rules | `(tactic| walk_at "exec For Tuple Name cons nil") => `(tactic| (refine Mine.stop_here ?_))
set_option hygiene false in
local macro_rules | `(tactic| walk_at "newTuple") => `(tactic| (k_here; k_dflt (refine' kup_newTuple ?F ?N ?_ ?z; (case F => k_asm); (case N => k_asm); (case z => exact Nat.le_of_ble_eq_true rfl); k_whole); intro D8 h8 F8 N8 LT8; (try k_sweep)))
set_option hygiene false in
local macro_rules | `(tactic| walk_at "newList") => `(tactic| (k_here; k_dflt (refine' newList_K ?k1 ?k2 ?_ ?kz; (case k1 => k_asm); (case k2 => k_asm); (case kz => exact Nat.le_of_ble_eq_true rfl); k_whole); intro l8 h8 F8 N8 LL8; (have LL9 := LL8); (try k_lt LL9); (try k_sweep)))
local macro_rules | `(tactic| k_all) => `(tactic| first | assumption | (refine List.forall_mem_cons.mpr ⟨?ka, ?kb⟩; (case ka => k_ne); (case kb => k_all)))
local macro_rules | `(tactic| walk_at "subscriptTail Name UnaryOp ref int") => `(tactic| (k_here; k_dflt (refine' Mine.item_last ?k1 ?k2 ?_; (case k1 => k_asm); (case k2 => k_mem); k_whole)))
local macro_rules | `(tactic| walk_at "mine claim") => `(tactic| with_reducible exact Mine.t_join _ _ _ _ (by with_reducible assumption) (Mine.strs_12 (by with_reducible assumption) (by assumption)))
local macro_rules | `(tactic| walk_at "mine claim") => `(tactic| with_reducible exact Mine.t_join1 _ _ _ _)
local macro_rules | `(tactic| walk_at "mine claim") => `(tactic| with_reducible exact Mine.t_np (by with_reducible assumption) (by with_reducible assumption))
local macro_rules | `(tactic| walk_at "mine claim") => `(tactic| with_reducible exact Mine.t_number _ _ 16 _ (by decide) (by with_reducible assumption))
local macro_rules | `(tactic| walk_at "call ref") => `(tactic| (k_here; (with_reducible show wpAny _ _ (call (Value.ref 155) [Value.ref _]) _ _ _); k_dflt (refine' Mine.use_claimL (Mine.t_cp ?v1 ?v2 ?v3 ?v4 ?v5) ?k1 ?k2 ?k3 ?k4 ?k5 ?k6 ?km ?k7 ?k8 ?k9 ?_;  (case k1 => k_asm); (case k2 => k_asm); (case k3 => k_asm); (case k4 => k_asm); (case k5 => k_asm); (case k6 => first | exact rfl | assumption); (case km => k_mem); (case v1 => omega); (case v2 => omega); (case v3 => with_reducible assumption); (case v4 => with_reducible assumption); (case v5 => with_reducible assumption); (case k7 => trivial); (case k8 => ktr_room); (case k9 => ktr_units); k_whole); intro t9 h9 tk9 F9 N9; (try dsimp only); (try k_fold)))
local macro_rules | `(tactic| walk_at "call builtin:len") => `(tactic| (k_here; (with_reducible show wpAny _ _ (call (Value.builtin _) [Value.ref _]) _ _ _); k_dflt (refine' Mine.len_K ?k1 ?k2 ?k3 ?k4 ?_; (case k1 => k_asm); (case k2 => k_mem); (case k3 => with_reducible assumption); (case k4 => omega); k_whole)))
local macro_rules | `(tactic| walk_at "subscriptTail Name BinOp ref int") => `(tactic| (k_here; k_dflt (refine' Mine.item_mid ?k1 ?k2 ?k3 ?k4 ?_; (case k1 => k_asm); (case k2 => k_mem); (case k3 => with_reducible assumption); (case k4 => omega); k_whole)))
local macro_rules | `(tactic| walk_at "newList") => `(tactic| ((have q9 : Mine.Sign9 1 := by assumption); clear q9; k_here; k_dflt (refine' newList_K ?k1 ?k2 ?_ ?kz; (case k1 => k_asm); (case k2 => k_asm); (case kz => exact Nat.le_of_ble_eq_true rfl); k_whole); intro l' h' F' N' l1; (try k_lt l1); (try k_sweep)))
set_option hygiene false in
local macro_rules | `(tactic| walk_at "newTuple") => `(tactic| ((have q9 : Mine.Sign9 1 := by assumption); clear q9; k_here; k_dflt (refine' kup_newTuple ?F ?N ?_ ?z; (case F => k_asm); (case N => k_asm); (case z => exact Nat.le_of_ble_eq_true rfl); k_whole); intro D7 h7 F7 N7 LT7; (have LT9 := LT7); (try k_lt LT9); (try k_sweep)))
local macro_rules | `(tactic| walk_at "call builtin:list.append") => `(tactic| (k_here; (with_reducible show wpAny _ _ (call (Value.builtin _) [Value.ref _, Value.ref _]) _ _ _); k_dflt (refine' append_K ?k1 ?k2 ?k3 ?_ ?z; (case k1 => k_asm); (case k2 => k_asm); (case k3 => k_upd); (case z => exact Mine.arr_fits (by with_reducible assumption) (by omega)); k_whole); intro h' F' N'; (try k_sweep)))
local macro_rules | `(tactic| walk_at "eval ListComp") => `(tactic| ((have q9 : Mine.Sign9 2 := by assumption); clear q9; k_here; k_dflt (refine LCg.ListComp_U (F₀ := by k_asm) (by rfl) (by decide) (by rfl) (by decide) (by rfl) ?_); (first | walk1 | (dsimp only; walk1)); k_dflt (refine Mine.src_pairs (by rfl) (by k_asm) (by k_asm) (by k_mem) (by with_reducible assumption) (fun _ hp => .tail _ (.tail _ (.tail _ hp))) (by omega) ?_ ?_); (case' refine_1 => (intro a z k t u I' oI' C' oC' D' m' h' tk' ys' E' hC' hx' F' N' off' ne'; dsimp only [Mine.tup2] at N')); (case' refine_2 => (intro g' ys' hys'))))
local macro_rules | `(tactic| walk_at "CompEnd") => `(tactic| ((have q9 : Mine.Sign9 2 := by assumption); clear q9; exact Mine.compEnd_drop (by k_asm) (by k_asm) (by assumption) (Or.inr ⟨_, by k_mem, rfl, _, rfl⟩) ⟨rfl, _, rfl⟩))
local macro_rules | `(tactic| walk_at "StarOf ref") => `(tactic| (k_here; k_dflt (refine' star_seq (T := "list") ?k1 ?k2 ?m ?c ?d ?T ?e ?z ?_; (case k1 => k_asm); (case k2 => k_asm); (case m => k_mem); (case c => exact rfl); (case d => exact rfl); (case T => exact .inl rfl); (case e => exact rfl); (case z => exact Mine.strs_fits (by with_reducible assumption) (by assumption)); k_whole); intro h' F' N'; (try k_sweep); (try simp only [List.nil_append, List.cons_append, List.append_nil])))
local macro_rules | `(tactic| walk_at "call ref") => `(tactic| (k_here; (with_reducible show wpAny _ _ (call (Value.ref 129) (Value.str _ _ :: (_ ++ []))) _ _ _); rw [List.append_nil]; walk_at "call ref"))
theorem law_whole.tw7021548847443572339 : True := trivial
theorem law_whole.tw13111622982327852967 : True := trivial
theorem law_whole.tw2223607908726304885 : True := trivial
theorem law_whole.tw222721646760302771 : True := trivial
theorem law_whole.tw14616282265361419659 : True := trivial
theorem law_whole.tw9465103906795457963 : True := trivial
theorem law_whole.tw13705464664656084773 : True := trivial
theorem law_whole.tw1446484792562070421 : True := trivial
theorem law_whole.tw963370140215360098 : True := trivial
theorem law_whole.tw13357199957656715577 : True := trivial
theorem law_whole.tw10446706033350813774 : True := trivial
theorem law_whole.tw7485739845775924197 : True := trivial
theorem law_whole.tw5720277369222802479 : True := trivial
theorem law_whole.tw14338573661515915895 : True := trivial
theorem law_whole.tw9813629855270806430 : True := trivial
theorem law_whole.tw12783972385978343088 : True := trivial
theorem law_whole.tw7721893301355401024 : True := trivial
theorem law_whole.tw1190690834210125361 : True := trivial
theorem law_whole.tw9031908573854980639 : True := trivial
theorem law_whole.tw13528483018046225744 : True := trivial
theorem law_whole.tw6511749169664671173 : True := trivial
theorem law_whole.tw5264427747240456371 : True := trivial
theorem law_whole.tw7188513853466104333 : True := trivial
theorem law_whole.tw4036584450339053380 : True := trivial
theorem law_whole.tw127202684716822522 : True := trivial
theorem law_whole.tw2728494034868819003 : True := trivial
theorem law_whole.tw2064734985250864922 : True := trivial
theorem law_whole.tw10231718021760812698 : True := trivial
theorem law_whole.tw6598325116733586676 : True := trivial
theorem law_whole.tw6466701346910657424 : True := trivial
theorem law_whole.tw14366326774107652696 : True := trivial
theorem law_whole.tw11998142552668711899 : True := trivial
theorem law_whole.tw1160722392727699369 : True := trivial
theorem law_whole.tw14694829085350897634 : True := trivial
theorem law_whole.tw6730364954376699465 : True := trivial
theorem law_whole.tw9740426218304642016 : True := trivial
theorem law_whole.tw12784380119243814311 : True := trivial
theorem law_whole.tw5965649772253435428 : True := trivial
theorem law_whole.tw15428015292738297266 : True := trivial
theorem law_whole.tw11419515570379431874 : True := trivial
theorem law_whole.tw11496433672240645695 : True := trivial
theorem law_whole.tw6599669090562128779 : True := trivial
theorem law_whole.tw3838139701703788203 : True := trivial
theorem law_whole.tw2288987675529849412 : True := trivial
theorem law_whole.tw1675814465299786770 : True := trivial
theorem law_whole.tw13632890349865051465 : True := trivial
theorem law_whole.tw5834577812302325704 : True := trivial
theorem law_whole.tw8253659786267720699 : True := trivial
theorem law_whole.tw17578946159028495218 : True := trivial
theorem law_whole.tw2224003589327151233 : True := trivial
theorem law_whole.tw15045770360240176888 : True := trivial
theorem law_whole.tw17373776902516008330 : True := trivial
theorem law_whole.tw13354664471532643492 : True := trivial
theorem law_whole.tw16933495167107356484 : True := trivial
theorem law_whole.tw8425729886214022172 : True := trivial
theorem law_whole.tw3452322663427606899 : True := trivial
theorem law_whole.tw3672458999022003928 : True := trivial
theorem law_whole.tw14506245331770326123 : True := trivial
theorem law_whole.tw18182772222220259296 : True := trivial
theorem law_whole.tw3532454686562755946 : True := trivial
theorem law_whole.tw7261203794143662096 : True := trivial
theorem law_whole.tw13945427122389347569 : True := trivial
theorem law_whole.tw14438594625414654360 : True := trivial
theorem law_whole.tw9295794758203112969 : True := trivial
theorem law_whole.tw9102800729100463420 : True := trivial
theorem law_whole.tw10288846213216060068 : True := trivial
theorem law_whole.tw13539718808947972045 : True := trivial
theorem law_whole.tw12963884894165883062 : True := trivial
theorem law_whole.tw16697866065685748149 : True := trivial
theorem law_whole.tw17580256345862315243 : True := trivial
theorem law_whole.tw15344734822267495249 : True := trivial
theorem law_whole.tw18371738118408413109 : True := trivial
theorem law_whole.tw11389224278323200442 : True := trivial
theorem law_whole.tw15702636552288555792 : True := trivial
theorem law_whole.tw8693786540411296226 : True := trivial
set_option Elab.async true in
theorem law_whole : PySem.Challenge.rw_pd0077_01.Holds := by
  w_on
  o_law
  k_head
  (case hw => w_witness2)
  show WalkO Mine.hd.view [] (XL Mine.hd.view []) (Hook.says (kHook Mine.hd.heap_1 _ _)) _ _ _ _
  k_go0
  all_goals try k_fold
  k_steps
  w_top off
  obtain ⟨ps, ds, hds, hpsl, PS⟩ := gen_steps PS
  refine Mine.Stop.go (Mine.for_start ?_)
  k_steps
  rename News _ _ _ _ => N7
  have N1 := Mine.news_swap N7
  clear N7
  refine' Mine.for_listX (vs := vsS) [Str.ofString "piece", Str.ofString "number", Str.ofString "place", Str.ofString "elder", Str.ofString "old", Str.ofString "size", Str.ofString "seen"] (fun l o i us news => ∃ a b c d e f S ws ct tz, us = [a, b, c, d, e, f, some (.ref S)] ∧ news = (S, W.listOf ws.toArray ct) :: (l, o) :: tz ∧ PairsAre vsS ps tz ∧ PairsAre ws (seenP placeF ps (i + 1)) tz ∧ ¬ @Eq Nat S l ∧ (∀ p ∈ tz, ¬ @Eq Nat p.1 S) ∧ (∀ p ∈ tz, ¬ @Eq Nat p.1 l)) rfl (by assumption) (by assumption) ?mem rfl ?J0 (fun _ s' v Q' E' _ hit h => letGo_listiter hit h) ?turn ?done
  case mem => k_mem
  case J0 =>
    refine ⟨_, _, _, _, _, _, l8, [.ref D8], 0, (D8, _) :: tsS, rfl, rfl, PS.mono (fun p hp => .tail _ hp), pairs_root, Nat.ne_of_gt (LL8 _ (.tail _ (.head _))), fun p hp => ?_, fun p hp => ?_⟩
    · rcases List.mem_cons.mp hp with rfl | hp
      · exact Nat.ne_of_lt (LL8 _ (.head _))
      · exact Nat.ne_of_lt (LL8 _ (.tail _ (.tail _ hp)))
    · rcases List.mem_cons.mp hp with rfl | hp
      · exact Nat.ne_of_gt (LT8 _ (.head _))
      · exact LS p hp
  case turn =>
    rintro I i v us news₁ h tk oI hi hv ⟨qa, qb, qc, qd, qe, qf, S, ws, ct, tz, rfl, rfl, hps, hws, hne, htS, htl⟩ F1 N1 hn1 hl1
    obtain ⟨x, k, a1, t1, u1, hx, rfl, hm1⟩ := hps.back hv
    have hip : i < ps.length := (List.getElem?_eq_some_iff.mp hx).1
    have hwl : ws.length = i + 1 := by rw [hws.1, seenP_len (by omega)]
    obtain ⟨x2, kp, a2, t2, u2, hx2, hv2, hm2⟩ := hws.back (i := i) (v := ws[i]) (by simp)
    obtain ⟨x3, old, a3, t3, u3, hx3, hv3, hm3⟩ := hws.back (i := (i + 1) / 2) (v := ws[(i + 1) / 2]) (by simp)
    obtain ⟨rfl, hn2⟩ := seenP_get hx2
    obtain ⟨rfl, hn3⟩ := seenP_get hx3
    have hw2 : ws[i]? = some (.ref a2) := by rw [← hv2]; simp
    have hw3 : ws[(i + 1) / 2]? = some (.ref a3) := by rw [← hv3]; simp
    have hws' := snoc_of hwl hw2
    have hn9 : ∀ p ∈ tz, ¬ @Eq Nat p.1 I := fun p hp => hn1 p (.tail _ (.tail _ hp))
    have hn8 : ¬ @Eq Nat S I ∧ ¬ @Eq Nat D9 I := ⟨hn1 _ (.head _), hn1 _ (.tail _ (.head _))⟩
    have hS1 : ¬ @Eq Nat a1 S ∧ ¬ @Eq Nat a2 S ∧ ¬ @Eq Nat a3 S := ⟨htS _ hm1, htS _ hm2, htS _ hm3⟩
    have hI1 : ¬ @Eq Nat a1 I ∧ ¬ @Eq Nat a2 I ∧ ¬ @Eq Nat a3 I := ⟨hn9 _ hm1, hn9 _ hm2, hn9 _ hm3⟩
    generalize hw0 : ws.take i = w0 at hws'
    have hwl2 : (w0 ++ [Value.ref a2]).length = i + 1 := by rw [← hws']; exact hwl
    have hw4 : (w0 ++ [Value.ref a2])[(i + 1) / 2]? = some (.ref a3) := by rw [← hws']; exact hw3
    have N2 : News _ _ h ((I, oI) :: (S, W.listOf (w0 ++ [Value.ref a2]).toArray ct) :: (a1, _) :: (a2, _) :: (a3, _) :: (D9, _) :: tz) := fun p hp => by
      rcases List.mem_cons.mp hp with rfl | hp
      · exact N1 _ (.head _)
      rcases List.mem_cons.mp hp with rfl | hp
      · rw [← hws']; exact N1 _ (.tail _ (.head _))
      rcases List.mem_cons.mp hp with rfl | hp
      · exact N1 _ (.tail _ (.tail _ (.tail _ hm1)))
      rcases List.mem_cons.mp hp with rfl | hp
      · exact N1 _ (.tail _ (.tail _ (.tail _ hm2)))
      rcases List.mem_cons.mp hp with rfl | hp
      · exact N1 _ (.tail _ (.tail _ (.tail _ hm3)))
      · exact N1 _ (.tail _ (.tail _ hp))
    dsimp only [tup2] at N2
    have mk1 : Sign9 1 := ⟨⟩
    obtain ⟨hk1, ho1, hlk, hlo, hlp, hj1, hr1, he1, he2, hsk, hso, he3, hfk, hj2, hr2, he4, he5, hpw, hpr, hbig⟩ := turn_facts hds hx hn2 hn3
    have hne1 : (placeF k != placeF k) = false := by simp
    have hb := high_bounds hk1.1 (by omega)
    have hne2 : (placeF (forkF old k) != placeF (forkF old k)) = false := by simp
    have hne3 : (placeF (old * 2 ^ (highF k).toNat + k - 2 ^ (highF k).toNat) != placeF (old * 2 ^ (highF k).toNat + k - 2 ^ (highF k).toNat)) = false := by simp
    k_steps
    all_goals try (exfalso; exact absurd rfl (by with_reducible assumption))
    all_goals (
      rename News _ _ _ _ => N6
      refine LPost.next _ (by assumption) N6 sub_law ?_ ?_ ⟨?_, ?_⟩
      · exact List.forall_mem_cons.mpr ⟨hn8.1, List.forall_mem_cons.mpr ⟨hn8.2, List.forall_mem_cons.mpr ⟨Nat.ne_of_gt (LT7 _ (.tail _ (.head _))), hn9⟩⟩⟩
      · intro p hp
        rw [List.mem_singleton.mp hp]
        exact .tail _ (.head _)
      · intro z hz
        simp only [List.mem_cons, List.not_mem_nil, or_false, not_or] at hz
        simp only [updMap, if_neg hz.1, if_neg hz.2.1, if_neg hz.2.2.1, if_neg hz.2.2.2.1, if_neg hz.2.2.2.2.1, if_neg hz.2.2.2.2.2.1, if_neg hz.2.2.2.2.2.2]
      · refine ⟨_, _, _, _, _, _, S, (w0 ++ [Value.ref a2]) ++ [Value.ref D7], _, (D7, _) :: tz, rfl, by rw [List.push_toArray], hps.mono (fun p hp => .tail _ hp), ?_, hne, ?_, ?_⟩
        · rw [seenP_succ hx, ← hws']
          exact hws.snoc
        · exact List.forall_mem_cons.mpr ⟨Nat.ne_of_gt (LT7 _ (.tail _ (.tail _ (.head _)))), htS⟩
        · exact List.forall_mem_cons.mpr ⟨Nat.ne_of_gt (LT7 _ (.tail _ (.tail _ (.tail _ (.tail _ (.tail _ (.tail _ (.head _)))))))), htl⟩)
  case done =>
    rintro us news₁ h tk ⟨qa, qb, qc, qd, qe, qf, S, ws, ct, tz, rfl, rfl, hps, hws, hne, htS, htl⟩ F1 N1
    have hvl : vsS.length = ps.length := hps.1
    rw [hvl] at hws
    have hwl : ws.length = ps.length + 1 := by rw [hws.1, seenP_len (by omega)]
    obtain ⟨x2, kp, a2, t2, u2, hx2, hv2, hm2⟩ := hws.back (i := ps.length) (v := ws[ps.length]) (by simp)
    obtain ⟨rfl, hn2⟩ := seenP_get hx2
    have hw2 : ws[ps.length]? = some (.ref a2) := by rw [← hv2]; simp
    have hws' := snoc_of hwl hw2
    generalize hw0 : ws.take ps.length = w0 at hws'
    have N2 : News _ _ h ((S, W.listOf (w0 ++ [Value.ref a2]).toArray ct) :: (a2, _) :: (D9, _) :: tz) := fun p hp => by
      rcases List.mem_cons.mp hp with rfl | hp
      · rw [← hws']; exact N1 _ (.head _)
      rcases List.mem_cons.mp hp with rfl | hp
      · exact N1 _ (.tail _ (.tail _ hm2))
      · exact N1 _ (.tail _ hp)
    dsimp only [tup2] at N2
    have mk2 : Sign9 2 := ⟨⟩
    obtain ⟨hlr, hr3, he6⟩ := end_facts hds hpsl hn2
    have heq : (placeF kp == placeF kp) = true := by simp
    k_steps
end Mine
end Law
theorem PySem.Challenge.cw_pd0077_01_holds : PySem.Challenge.rw_pd0077_01.Holds :=
  Mine.law_whole
