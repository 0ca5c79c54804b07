import PyProof.Rows.All
import Wide.All
import OpenK.AllK
import Wide.FinOn
import PySem.Challenge.RW_bj0058_01
open PySem PySem.W PySem.Calls PyProof.Rows
set_option Elab.async false
namespace Mine
set_option maxRecDepth 100000 in
set_option maxHeartbeats 8000000 in
open_top hd for PySem.Challenge.rw_bj0058_01
noncomputable abbrev LOOSE : List Str := looseW hd.view_39 [Str.ofString "MODE_SIZE_SMALL", Str.ofString "MODE_SIZE_MEDIUM", Str.ofString "MODE_SIZE_LARGE", Str.ofString "NUMBER_LENGTH"]
/-- h, with sel's objects hidden -/
abbrev rest0 (h : Heap) (sel : List (Addr × Obj)) : Heap := hideAll h (sel.map (·.1))
/-- what a call of f on vs, with the objects sel at hand, does: it hands back v and leaves sel' in sel's place; all else stays -/
def Spec (w : World) (mg mb : Str → Option Value) (d u : Nat) (f : Addr) (vs : List Value) (sel : List (Addr × Obj)) (R : Value → List (Addr × Obj) → Prop) : Prop :=
  ∀ (dp un : Nat) (gd : Option (List Code)) (cn : Str) (cs : Scope) (a : Addr) (ccd : Value) (cl : List (Str × Addr)) (outer : List Env) (A₀ : Around) (base h₀ : Heap) (L : Addr) (m : Str → Option Value) (s : Shared) (Q E : Value → Shared → Prop),
    Below A₀ base outer h₀ → Fr h₀ L s.heap m → (hd.heap_39 w.params).In h₀ → News h₀ L s.heap sel → TopRead hd.view_39 LOOSE mg mb h₀ → cs.kind = .function → dp + d < recursionLimit → un + u < cLine →
    (∀ v sel' h' tk', R v sel' → Fr h₀ L h' m → News h₀ L h' sel' → (∀ b o, (rest0 s.heap sel).get? b = some o → h'.get? b = some o) → (∀ p ∈ sel', (rest0 s.heap sel).get? p.1 = none) → Q v { s with heap := h', toks := tk' }) →
    wpAny (model PySem.Challenge.rw_bj0058_01.row.prog w) (ktrTop dp un gd cn cs L a ccd cl outer) (call (.ref f) vs) Q E s
theorem Spec.use {w : World} {mg mb : Str → Option Value} {d u : Nat} {f : Addr} {vs : List Value} {sel : List (Addr × Obj)} {R : Value → List (Addr × Obj) → Prop}
    (S : Spec w mg mb d u f vs sel R) {dp un : Nat} {gd : Option (List Code)} {cn : Str} {cs : Scope} {a : Addr} {ccd : Value} {cl : List (Str × Addr)} {outer : List Env} {A₀ : Around} {base h₀ : Heap} {L : Addr} {m : Str → Option Value} {s : Shared} {Q E : Value → Shared → Prop}
    {news : List (Addr × Obj)} (rest : List (Addr × Obj)) (B : Below A₀ base outer h₀) (F : Fr h₀ L s.heap m) (X : (hd.heap_39 w.params).In h₀) (N : News h₀ L s.heap news) (T : TopRead hd.view_39 LOOSE mg mb h₀) (hk : cs.kind = .function)
    (hs : ∀ p ∈ sel, p ∈ news) (hr : ∀ p ∈ rest, p ∈ news) (hne : ∀ p ∈ rest, ∀ q ∈ sel, p.1 ≠ q.1) (h1 : dp + d < recursionLimit) (h2 : un + u < cLine)
    (k : ∀ v sel' h' tk', R v sel' → Fr h₀ L h' m → News h₀ L h' (sel' ++ rest) → (∀ p ∈ sel', ∀ q ∈ rest, p.1 ≠ q.1) → (∀ b o, (rest0 s.heap sel).get? b = some o → h'.get? b = some o) → Q v { s with heap := h', toks := tk' }) :
    wpAny (model PySem.Challenge.rw_bj0058_01.row.prog w) (ktrTop dp un gd cn cs L a ccd cl outer) (call (.ref f) vs) Q E s := by
  have hh : ∀ q ∈ rest, (rest0 s.heap sel).get? q.1 = some q.2 := fun q hq => hideAll_get _ (N q (hr q hq)).1 fun z => by
    obtain ⟨p, hp, e⟩ := List.mem_map.mp z
    exact hne q hq p hp e.symm
  refine S _ _ _ _ _ _ _ _ _ _ _ _ _ _ _ _ _ B F X (fun p hp => N p (hs p hp)) T hk h1 h2 fun v sel' h' tk' hR F' N' hkeep hnew => ?_
  refine k v sel' h' tk' hR F' (fun p hp => ?_) (fun p hp q hq e => ?_) hkeep
  · rcases List.mem_append.mp hp with hp | hp
    · exact N' p hp
    · exact ⟨hkeep _ _ (hh p hp), (N p (hr p hp)).2⟩
  · have := hnew p hp
    rw [e, hh q hq] at this
    cases this
section
variable {prog : Program} {w : World} {A A₀ : Around} {s : Shared} {K : Frag} {L : Addr} {h₀ base : Heap} {m mg mb : Str → Option Value} {news : List (Addr × Obj)} {p : Program} {loose : List Str}
theorem enter_def {env : Env} {outer : List Env} {R : Result → Shared → Prop} {name qual : Str} {params : Arguments} {body : List Stmt} {scope : Scope} {dV kV doc pm cdv ct oc : Value} {an od : Option Addr} {osl : Array (Option Value)} {f : Addr} {args : Args} {binds : List (Str × Value)}
    (B : Below A₀ base outer h₀) (F : Fr h₀ L s.heap m) (X₀ : K.In h₀) (N : News h₀ L s.heap news) (T : TopRead p loose mg mb h₀) (hA : A.frames = some (env :: outer)) (hf : env.frame = some L) (hke : env.scope.kind = .function)
    (ho : K.lookup f = some ⟨oc, od, .func (fnOf name qual params body scope dV kV doc pm an cdv ct), osl⟩) (hcd : codeIn K cdv qual = true) (hroom : A.depth < recursionLimit)
    (hbind : BindsTo s (fnOf name qual params body scope dV kV doc pm an cdv ct) args binds) (hloc : ∀ y ∈ binds, scope.names.lookup y.1 = some .local)
    (h : ∀ g L' h₁, g = rest0 s.heap news → Fr h₀ L g m → Fr g L' h₁ (fun y => binds.reverse.lookup y) → News g L' h₁ news → Below A base (env :: outer) g → K.In g → TopRead p loose mg mb g → h₀.StaysIn g →
      wpAny (model prog w) (A.deeper (envOf qual scope L' f cdv)) (execs body (envOf qual scope L' f cdv))
        (fun fl s' => LeaveK h₀ L m g R (match fl with | .ret v => v | _ => .none) s')
        (fun e s' => wpAny (model prog w) (A.deeper (envOf qual scope L' f cdv)) (leaving (envOf qual scope L' f cdv) e) (fun _ s'' => R (.error e) s'') (fun e' s'' => R (.error e') s'') s')
        { s with heap := h₁, toks := s.toks + binds.length })
    (hco : scope.isCoroutine = false) (hgen : scope.isGenerator = false) (hk : scope.kind = .function)
    (hcell : ∀ x ∈ scope.names, x.2 ≠ .cell) : codeAny (model prog w) A (.call (.ref f) args) R s := by
  obtain ⟨FG, BG, st, lv⟩ := groundX (R := R) B F N hA hf hke
  refine codeAny_call_def (fd := fnOf name qual params body scope dV kV doc pm an cdv ct) (body := body) (binds := binds) hroom ((X₀.keeps F.keep) _ _ ho) rfl (T.nolimit.keeps F.keep) (codeRec_of (X₀.keeps F.keep) hcd) rfl hbind hcell hloc (fun h₁ hns hk₁ => ?_) hco hgen hk
  refine wpAny_mono (h _ s.heap.objs.size h₁ rfl FG ⟨hns, fun b o e => hk₁ b o (of_hideAll _ e), Nat.le_of_eq (hideAll_size _ _)⟩
    (fun q hq => ⟨hk₁ _ _ (N q hq).1, Nat.ne_of_lt (Heap.lt_size (N q hq).1), hideAll_none _ (List.mem_map_of_mem hq)⟩) BG (X₀.keeps st) (T.keeps st) st) (fun fl s' hl => lv _ _ hl) fun _ _ y => y
end
theorem spec_ret {sel sel' news' : List (Addr × Obj)} {R : Value → List (Addr × Obj) → Prop} {h₀ h' : Heap} {L L' : Addr} {m m' : Str → Option Value} {s : Shared} {Q : Value → Shared → Prop} {v : Value} {tk' : Nat}
    (hret : ∀ v sel' h' tk', R v sel' → Fr h₀ L h' m → News h₀ L h' sel' → (∀ b o, (rest0 s.heap sel).get? b = some o → h'.get? b = some o) → (∀ p ∈ sel', (rest0 s.heap sel).get? p.1 = none) → Q v { s with heap := h', toks := tk' })
    (kF : Fr h₀ L h' m) (kN : News h₀ L h' news') (F9 : Fr (rest0 s.heap sel) L' h' m') (N9 : News (rest0 s.heap sel) L' h' news') (hs : ∀ p ∈ sel', p ∈ news') (hR : R v sel') : Q v { s with heap := h', toks := tk' } :=
  hret v sel' h' tk' hR kF (fun p hp => kN p (hs p hp)) F9.keep fun p hp => (N9 p (hs p hp)).2.2
theorem append_ints {prog : Program} {w : World} {A : Around} {E : Value → Shared → Prop} {s : Shared} {h₀ : Heap} {L D : Addr} {m : Str → Option Value} {news news' : List (Addr × Obj)} {its : List Value} {ns : List Int} {n : Nat} {x : Int} {t : Tok} {Q : Value → Shared → Prop}
    (F : Fr h₀ L s.heap m) (N : News h₀ L s.heap news) (U : Upd D (PySem.W.listOf its.toArray n) (PySem.W.listOf (its ++ [Value.int x t]).toArray (n + 1)) news news') (hi : IntsAre its ns) (hsz : ns.length ≤ sizeLine)
    (h : ∀ h', Fr h₀ L h' m → News h₀ L h' news' → IntsAre (its ++ [Value.int x t]) (ns ++ [x]) → (ns ++ [x]).length = ns.length + 1 → Q .none { s with heap := h' }) : wpAny (model prog w) A (call (.builtin "list.append") [Value.ref D, Value.int x t]) Q E s := by
  refine append_K (its := its.toArray) (n := n) F N (by simpa using U) (fun h' F' N' => h h' F' N' (intsAre_append hi (IntsAre.cons _ _ IntsAre.nil)) (by simp)) ?_
  rw [List.size_toArray, hi.length]; exact hsz
theorem sub_cons {α : Type} {qa9 : α} {ql9 qn9 : List α} (qh9 : qa9 ∈ qn9) (qt9 : ∀ p ∈ ql9, p ∈ qn9) : ∀ p ∈ qa9 :: ql9, p ∈ qn9 := List.forall_mem_cons.mpr ⟨qh9, qt9⟩
theorem sub_nil {α : Type} {qn9 : List α} : ∀ p ∈ ([] : List α), p ∈ qn9 := fun _ h => nomatch h
theorem sub_tail {α : Type} {qa9 qb9 : α} {ql9 : List α} (qh9 : qa9 ∈ ql9) : qa9 ∈ qb9 :: ql9 := List.mem_cons_of_mem _ qh9
theorem room_lt {dp b c k r : Nat} (h : dp + b < r) (hab : k + c ≤ b) : dp + k + c < r := by omega
local macro_rules | `(tactic| walk_at "call builtin:list.append") => `(tactic| (k_here; (with_reducible show wpAny _ _ (call (Value.builtin _) [Value.ref _, Value.int _ _]) _ _ _); k_dflt (refine' append_ints ?k1 ?k2 ?k3 ?k4 ?z ?_; (case k1 => k_asm); (case k2 => k_asm); (case k3 => k_upd); (case k4 => assumption); (case z => (simp only [PySem.sizeLine_eq]; omega)); k_whole); intro h' F' N' hiA' hlA'; (try k_sweep)))
theorem fill_ok : PySem.Challenge.rw_bj0058_01 = PySem.Challenge.rw_bj0058_01 ∧ hd.heap_39 = hd.heap_39 := by
  k_fill
  exact ⟨rfl, rfl⟩
local macro_rules | `(tactic| walk_at "pyIter ref") => `(tactic| k_extra "my pyIter ref")
local macro_rules | `(tactic| walk_at "call ref") => `(tactic| (k_here; k_dflt (refine wpAny_call ?_; refine' enter_def ?k1 ?k2 ?k3 ?k4 ?k5 ?kA ?kF ?kK ?k6 ?k7 ?k8 ?k9 ?kB ?_ ?c2 ?c3 ?c4 ?c5; (case kA => exact rfl); (case kF => exact rfl); (case kK => first | exact rfl | assumption); (case k1 => k_asm); (case k2 => k_asm); (case k3 => k_asm); (case k4 => k_asm); (case k5 => k_asm); (case k6 => k_is); (case k7 => k_is); (case k8 => ktr_room); (case k9 => exact BindsTo.of_eq rfl); (case c5 => decide); (case kB => exact locs rfl); (case c2 => exact rfl); (case c3 => exact rfl); (case c4 => exact rfl); k_whole; intro g' L' h' hg8' FG' F' N' B' X' T' st'; clear hg8'; (try dsimp only); (try k_fold))))
local macro_rules | `(tactic| walk_at "call ref") => `(tactic| k_extra "my call ref")
local macro_rules | `(tactic| walk_at "pyIter bytes") => `(tactic| k_extra "my pyIter bytes")
local macro_rules | `(tactic| walk_at "eval GeneratorExp") => `(tactic| k_extra "my eval GeneratorExp")
local macro_rules | `(tactic| walk_at "eval ListComp") => `(tactic| k_extra "my eval ListComp")
local macro_rules | `(tactic| walk_at "exec Assign cons ListComp") => `(tactic| k_extra "my eval ListComp")
local macro_rules | `(tactic| walk_at "call builtin:all") => `(tactic| k_extra "my call builtin:all")
local macro_rules | `(tactic| walk_at "leaving ref") => `(tactic| k_extra "my leaving")
local macro_rules | `(tactic| walk_at "CompSrc") => `(tactic| k_extra "my CompSrc")
local macro_rules | `(tactic| walk_at "CompEnd") => `(tactic| k_extra "my CompEnd")
local macro_rules | `(tactic| k_asm) => `(tactic| (k_is_topread; with_reducible assumption))
section
/-- the walk stands still here -/
structure Hold (P : Prop) : Prop where
  out : P
theorem hold {P : Prop} (h : Hold P) : P := h.out
section
variable {prog : Program} {w : World} {A : Around} {E : Value → Shared → Prop} {s : Shared} {env : Env} {h₀ : Heap} {x : Str} {body : List Stmt} {Q : Flow → Shared → Prop}
def Off (own : List (Addr × Obj)) (adr : List Addr) : Prop := ∀ p ∈ own, ∀ b ∈ adr, p.1 ≠ b
/-- the end of a turn: the names ps and the ledger Led by the new letters c -/
def TurnE {σ : Type} (h₀ : Heap) (L : Addr) (Led : σ → List (Addr × Obj)) (ps : σ → List (Str × Value)) (x : Str) (stored : List Str) (m₀ : Str → Option Value) (P' : σ → Prop) (own : List (Addr × Obj)) (s₁ : Shared) (Q : Flow → Shared → Prop) (f : Flow) (s₂ : Shared) : Prop :=
  match f with
  | .ret v => Q (.ret v) s₂
  | .brk => Q .next s₂
  | _ => ∃ c h' tk m' news', s₂ = { s₁ with heap := h', toks := tk } ∧ Fr h₀ L h' m' ∧ News h₀ L h' news' ∧ (∀ p ∈ Led c, p ∈ news') ∧ (∀ p ∈ own, p ∈ news') ∧ Off own ((Led c).map (·.1)) ∧ (∀ p ∈ ps c, m' p.1 = some p.2) ∧
      (∀ z, z ≠ x → (∀ p ∈ ps c, z ≠ p.1) → stored.contains z = false → m' z = m₀ z) ∧ P' c
section
variable {σ : Type} {L : Addr} {Led : σ → List (Addr × Obj)} {ps : σ → List (Str × Value)} {stored : List Str} {m₀ m' : Str → Option Value} {P' : σ → Prop} {own news' : List (Addr × Obj)} {s₁ : Shared} {h' : Heap} {tk : Nat}
theorem TurnE.next (c : σ) (F : Fr h₀ L h' m') (N : News h₀ L h' news') (hn : ∀ p ∈ Led c, p ∈ news') (ho : ∀ p ∈ own, p ∈ news') (hf : Off own ((Led c).map (·.1))) (hk : ∀ p ∈ ps c, m' p.1 = some p.2)
    (hr : ∀ z, z ≠ x → (∀ p ∈ ps c, z ≠ p.1) → stored.contains z = false → m' z = m₀ z) (hP : P' c) : TurnE h₀ L Led ps x stored m₀ P' own s₁ Q .next { s₁ with heap := h', toks := tk } :=
  ⟨c, h', tk, m', news', rfl, F, N, hn, ho, hf, hk, hr, hP⟩
theorem TurnE.cont (c : σ) (F : Fr h₀ L h' m') (N : News h₀ L h' news') (hn : ∀ p ∈ Led c, p ∈ news') (ho : ∀ p ∈ own, p ∈ news') (hf : Off own ((Led c).map (·.1))) (hk : ∀ p ∈ ps c, m' p.1 = some p.2)
    (hr : ∀ z, z ≠ x → (∀ p ∈ ps c, z ≠ p.1) → stored.contains z = false → m' z = m₀ z) (hP : P' c) : TurnE h₀ L Led ps x stored m₀ P' own s₁ Q .cont { s₁ with heap := h', toks := tk } :=
  ⟨c, h', tk, m', news', rfl, F, N, hn, ho, hf, hk, hr, hP⟩
end
theorem for_walk {σ : Type} {I : Addr} {n : Nat} {Pv : Nat → Value → Prop} {St : Nat → Heap → Prop} {m₀ : Str → Option Value} (Led : σ → List (Addr × Obj)) (ps : σ → List (Str × Value)) (stored : List Str) (P : Nat → σ → Prop) (c₀ : σ)
    (W : Walks prog w A I [I] [I] n Pv St) (hSI : ∀ i h, St i h → ∃ o, h.get? I = some o) (hL : env.locals ≠ I) (hI : h₀.get? I = none) (hn : ∀ p ∈ Led c₀, p.1 ≠ I) (hst : St 0 s.heap) (F : Fr h₀ env.locals s.heap m₀)
    (N : News h₀ env.locals s.heap (Led c₀)) (hk : ∀ p ∈ ps c₀, m₀ p.1 = some p.2) (hp : P 0 c₀)
    (turn : ∀ (c : σ) (i : Nat) (v : Value) (u : Str → Option Value) h tk own, i < n → Pv i v → Off own ((Led c).map (·.1)) → P i c →
      Fr h₀ env.locals h (fun y => if y = x then some v else kstB (fun z => if stored.contains z then u z else m₀ z) (ps c) y) → News h₀ env.locals h (Led c ++ own) →
      wpAny (model prog w) A (execs body env) (TurnE h₀ env.locals Led ps x stored m₀ (P (i + 1)) own { s with heap := h, toks := tk } Q) E { s with heap := h, toks := tk })
    (done : ∀ (c : σ) (u : Str → Option Value) h tk, P n c → Fr h₀ env.locals h (fun y => if y = x then u y else kstB (fun z => if stored.contains z then u z else m₀ z) (ps c) y) → News h₀ env.locals h (Led c) → Q .next { s with heap := h, toks := tk }) :
    LoopAtV prog w A h₀ env x body Q E (.ref I) s := by
  let J : Nat → (Str → Option Value) → List (Addr × Obj) → Prop := fun i m₁ news₁ => ∃ c, news₁ = Led c ∧ P i c ∧ (∀ p ∈ ps c, m₁ p.1 = some p.2) ∧ (∀ z, z ≠ x → (∀ p ∈ ps c, z ≠ p.1) → stored.contains z = false → m₁ z = m₀ z)
  refine ⟨I, [I], [I], n, Pv, St, m₀, Led c₀, J, rfl, W, ?_, ?_, ?_, hst, F, N, ⟨c₀, rfl, hp, hk, fun _ _ _ _ => rfl⟩, ?_, ?_⟩
  · simpa using hL
  · intro b hb; rw [List.mem_singleton.mp hb]; exact hI
  · intro p hp' hb; exact hn p hp' (List.mem_singleton.mp hb)
  · rintro i v m₁ news₁ s₁ own ⟨hh', tk', rfl⟩ hin hP ⟨c, rfl, hPc, h1, h2⟩ hoff hown _ hfull hSt F₁ N₁
    obtain ⟨oI, hoI⟩ := hSI _ _ hSt
    have hIown : (I, oI) ∈ own := hfull I (by simp) hI oI hoI
    have hOff : Off own ((Led c).map (·.1)) := by
      intro p hp' b hb e
      obtain ⟨q, hq, rfl⟩ := List.mem_map.mp hb
      exact hoff q hq (by rw [List.mem_singleton, ← e]; exact List.mem_singleton.mp (hown p hp'))
    have N₂ : News h₀ env.locals hh' (Led c ++ own) := fun p hp' => N₁ p ((List.mem_append.mp hp').elim (fun h => List.mem_append.mpr (.inr h)) fun h => List.mem_append.mpr (.inl h))
    refine wpAny_mono (turn c i v m₁ hh' tk' own hin hP hOff hPc (kst_fr h1 h2 F₁) N₂) (fun f s₂ p => ?_) fun _ _ e => e
    have fin : (∃ c h' tk m' news', s₂ = { s with heap := h', toks := tk } ∧ Fr h₀ env.locals h' m' ∧ News h₀ env.locals h' news' ∧ (∀ p ∈ Led c, p ∈ news') ∧ (∀ p ∈ own, p ∈ news') ∧ Off own ((Led c).map (·.1)) ∧ (∀ p ∈ ps c, m' p.1 = some p.2) ∧
      (∀ z, z ≠ x → (∀ p ∈ ps c, z ≠ p.1) → stored.contains z = false → m' z = m₀ z) ∧ P (i + 1) c) → LoopStepU h₀ env.locals [I] own (J (i + 1)) { s with heap := hh', toks := tk' } .next s₂ := by
      rintro ⟨c', h', tk, m', news', e, F', N', hn', ho, hoff', hk', hr', hP'⟩
      refine ⟨rfl, h', tk, m', Led c', e, F', fun p hp' => N' p ((List.mem_append.mp hp').elim (ho p) (hn' p)), fun p hp' hq => ?_, ⟨c', rfl, hP', hk', hr'⟩⟩
      exact hoff' _ hIown p.1 (List.mem_map_of_mem hp') (List.mem_singleton.mp hq).symm
    cases f with
    | ret v => exact .ret p
    | brk => exact .brk p
    | next => exact .next (fin p)
    | cont => exact .cont (fin p)
  · rintro h' tk m' news' F' N' _ ⟨c, rfl, hPc, h1, h2⟩
    exact done c m' h' tk hPc (kst_frOut h1 h2 F') N'
/-- for x in range(a, b): n turns -/
theorem for_range {σ : Type} {r : Addr} {a₀ b₀ c₁ : Int} {t₀ u₀ v₀ : Tok} {n : Nat} {m₀ : Str → Option Value} (Led : σ → List (Addr × Obj)) (ps : σ → List (Str × Value)) (stored : List Str) (P : Nat → σ → Prop) (c₀ : σ)
    (hh : A.handled = none) (hr : IsRange s.heap r a₀ b₀ c₁ t₀ u₀ v₀) (hsmall : Builtin.Range.small a₀ b₀ c₁ = true) (hn : Builtin.Range.rangeSize a₀ b₀ c₁ = (n : Int)) (F : Fr h₀ env.locals s.heap m₀) (N : News h₀ env.locals s.heap (Led c₀)) (hk : ∀ p ∈ ps c₀, m₀ p.1 = some p.2) (hp : P 0 c₀)
    (turn : ∀ (c : σ) (i : Nat) (t : Tok) (u : Str → Option Value) h tk own, i < n → Off own ((Led c).map (·.1)) → P i c →
      Fr h₀ env.locals h (fun y => if y = x then some (.int (a₀ + i * c₁) t) else kstB (fun z => if stored.contains z then u z else m₀ z) (ps c) y) → News h₀ env.locals h (Led c ++ own) →
      wpAny (model prog w) A (execs body env) (TurnE h₀ env.locals Led ps x stored m₀ (P (i + 1)) own { s with heap := h, toks := tk } Q) E { s with heap := h, toks := tk })
    (done : ∀ (c : σ) (u : Str → Option Value) h tk, P n c → Fr h₀ env.locals h (fun y => if y = x then u y else kstB (fun z => if stored.contains z then u z else m₀ z) (ps c) y) → News h₀ env.locals h (Led c) → Q .next { s with heap := h, toks := tk }) :
    wpAny (model prog w) A (pyIter (.ref r)) (fun it s₂ => LoopAtV prog w A h₀ env x body Q E it s₂) E s := by
  refine wpAny_pyIter_range hr hsmall ?_
  have W : Walks prog w A s.heap.objs.size [s.heap.objs.size] [s.heap.objs.size] n (fun i v => i < n ∧ ∃ t, v = .int (a₀ + i * c₁) t)
      (fun i h => IsRangeIter h s.heap.objs.size (a₀ + (i : Nat) * c₁) ((n : Int) - (i : Nat)) c₁) := (Walks.range hh _ a₀ c₁ n).bound
  refine for_walk Led ps stored P c₀ W (fun i h hS => ⟨_, hS⟩) ?_ (next_is_new F) (fun p hp => Nat.ne_of_lt (Heap.lt_size (N p hp).1)) (by show IsRangeIter _ _ _ _ _; rw [hn]; simpa using Heap.get?_push_size _ rfl) (F.push _) (fun p hp => ⟨Heap.get?_push_of_some _ (N p hp).1, (N p hp).2⟩) hk hp ?_ ?_
  · exact Nat.ne_of_lt F.ns.lt
  · rintro c i v u h tk own hi ⟨_, t, rfl⟩ hoff hP F₁ N₁
    exact turn c i t u h tk own hi hoff hP F₁ N₁
  · intro c u h tk hP F₁ N₁
    exact done c u h tk hP F₁ N₁
/-- for x in some bytes -/
theorem for_bytes {σ : Type} {bb : Array UInt8} {tb : Tok} {m₀ : Str → Option Value} (Led : σ → List (Addr × Obj)) (ps : σ → List (Str × Value)) (stored : List Str) (P : Nat → σ → Prop) (c₀ : σ)
    (hh : A.handled = none) (F : Fr h₀ env.locals s.heap m₀) (N : News h₀ env.locals s.heap (Led c₀)) (hk : ∀ p ∈ ps c₀, m₀ p.1 = some p.2) (hp : P 0 c₀)
    (turn : ∀ (c : σ) (i : Nat) (y : UInt8) (t : Tok) (u : Str → Option Value) h tk own, i < bb.size → bb[i]? = some y → Off own ((Led c).map (·.1)) → P i c →
      Fr h₀ env.locals h (fun z => if z = x then some (.int (y.toNat : Int) t) else kstB (fun z => if stored.contains z then u z else m₀ z) (ps c) z) → News h₀ env.locals h (Led c ++ own) →
      wpAny (model prog w) A (execs body env) (TurnE h₀ env.locals Led ps x stored m₀ (P (i + 1)) own { s with heap := h, toks := tk } Q) E { s with heap := h, toks := tk })
    (done : ∀ (c : σ) (u : Str → Option Value) h tk, P bb.size c → Fr h₀ env.locals h (fun y => if y = x then u y else kstB (fun z => if stored.contains z then u z else m₀ z) (ps c) y) → News h₀ env.locals h (Led c) → Q .next { s with heap := h, toks := tk }) :
    wpAny (model prog w) A (pyIter (.bytes bb tb)) (fun it s₂ => LoopAtV prog w A h₀ env x body Q E it s₂) E s := by
  refine KBw.pyIter_bytes ?_
  have W := KBw.walks (prog := prog) (w := w) hh s.heap.objs.size bb tb
  refine for_walk Led ps stored P c₀ W (fun i h hS => let ⟨o, ho, _⟩ := hS; ⟨o, ho⟩) ?_ (next_is_new F) (fun p hp => Nat.ne_of_lt (Heap.lt_size (N p hp).1)) ⟨_, Heap.get?_push_size _ rfl, rfl, rfl⟩ (F.push _) (fun p hp => ⟨Heap.get?_push_of_some _ (N p hp).1, (N p hp).2⟩) hk hp ?_ ?_
  · exact Nat.ne_of_lt F.ns.lt
  · rintro c i v u h tk own hi ⟨y, t, hy, rfl⟩ hoff hP F₁ N₁
    exact turn c i y t u h tk own hi hy hoff hP F₁ N₁
  · intro c u h tk hP F₁ N₁
    exact done c u h tk hP F₁ N₁
end
end
section
abbrev bufD (w : World) (t1 t2 t3 : Tok) (lb : Addr) (n : Int) : Obj :=
  dictOf [⟨PyData.keyHash w.params "buffer", .str "buffer" t1, .ref lb⟩, ⟨PyData.keyHash w.params "length", .str "length" t2, .int n t3⟩] 2
/-- the octets behind one bit more: n bits so far -/
def pbit (ns : List Int) (n : Nat) (bit : Bool) : List Int :=
  let ns1 := if ns.length ≤ n / 8 then ns ++ [0] else ns
  if bit then ns1.set (n / 8) (Builtin.bitOr (ns1.getD (n / 8) 0) (Int.fdiv 128 (2 ^ (n % 8)))) else ns1
/-- the buffer's three objects -/
def BufR (w : World) (b db lb : Addr) (ns : List Int) (n : Nat) (sel : List (Addr × Obj)) : Prop :=
  ∃ t1 t2 t3 xs e', sel = [(b, instObj 146 db), (db, bufD w t1 t2 t3 lb n), (lb, PySem.W.listOf (List.toArray xs) e')] ∧ IntsAre xs ns
theorem ints_eq {vs : List Value} {ns ms : List Int} (h : IntsAre vs ns) (e : ns = ms) : IntsAre vs ms := e ▸ h
theorem fdiv_nat (n k : Nat) : ((n : Int)).fdiv (k : Int) = ((n / k : Nat) : Int) := by rw [Int.fdiv_eq_ediv_of_nonneg _ (by omega)]; simp
theorem fmod_nat (n k : Nat) : ((n : Int)).fmod (k : Int) = ((n % k : Nat) : Int) := by rw [Int.fmod_eq_emod_of_nonneg _ (by omega)]; simp
set_option maxRecDepth 100000 in
set_option maxHeartbeats 8000000 in
theorem put_bit_ok {w : World} {mg mb : Str → Option Value} {b db lb : Addr} {bit : Bool} {t1 t2 t3 : Tok} {n : Nat} {xs : List Value} {ns : List Int} {e' : Nat} (h1 : @LT.lt Nat _ b lb) (h2 : @LT.lt Nat _ db b)
  (hi : IntsAre xs ns) (hn : n < 2 ^ 20) (hl : ns.length = (n + 7) / 8) :
    Spec w mg mb 10 100 143 [.ref b, .bool bit] [(b, instObj 146 db), (db, bufD w t1 t2 t3 lb n), (lb, PySem.W.listOf (List.toArray xs) e')] fun v sel => v = .none ∧ BufR w b db lb (pbit ns n bit) (n + 1) sel := by
  have hlen : ns.length < 2 ^ 62 := by omega
  have hfd : ((n : Int)).fdiv 8 = ((n / 8 : Nat) : Int) := fdiv_nat n 8
  have hfm : ((n : Int)).fmod 8 = ((n % 8 : Nat) : Int) := fmod_nat n 8
  have hxl : xs.length = ns.length := hi.length
  have hln : n + 8 < 2^21 := by omega
  unfold Spec
  intro dp un gd cn cs a ccd cl outer A₀ base h₀ L m s Q E B F X N T hk hd hu hret
  (refine wpAny_call ?_; k_dflt (refine' enter_def ?k1 ?k2 ?k3 ?k4 ?k5 ?kA ?kF ?kK ?k6 ?k7 ?k8 ?k9 ?kB ?_ ?c2 ?c3 ?c4 ?c5; (case kA => exact rfl); (case kF => exact rfl); (case kK => assumption); (case k1 => k_asm); (case k2 => k_asm); (case k3 => k_asm); (case k4 => k_asm); (case k5 => k_asm); (case k6 => k_is); (case k7 => k_is); (case k8 => ktr_room); (case k9 => exact BindsTo.of_eq rfl); (case c5 => decide); (case kB => exact locs rfl); (case c2 => exact rfl); (case c3 => exact rfl); (case c4 => exact rfl); k_whole; intro g' L' h' hg' FG' F' N' B' X' T' st'; (try dsimp only); (try k_fold)))
  k_steps
  all_goals (
    ((rename Fr _ _ _ _ => kF9); (rename News _ _ _ _ => kN9); (rename (_ : Heap) = rest0 _ _ => hg9); subst hg9; (rename Fr (rest0 _ _) _ _ _ => F9); (rename News (rest0 _ _) _ _ _ => N9); refine spec_ret (by assumption) kF9 kN9 F9 N9 (fun _ h => h) ?_)
    refine ⟨rfl, _, _, _, _, _, rfl, ints_eq (by assumption) ?_⟩
    rename bit = _ => hb9
    subst hb9
    unfold pbit
    first
    | (have hc : ns.length ≤ n / 8 := by omega
       simp only [hfd, hfm, Int.toNat_natCast, hc, if_true, Bool.false_eq_true, if_false]; done)
    | (have hc : ¬ ns.length ≤ n / 8 := by omega
       simp only [hfd, hfm, Int.toNat_natCast, hc, if_true, Bool.false_eq_true, if_false]; done))
end
section
/-- the bits of num, the highest first -/
def bitsOf (num len : Nat) : List Bool := (List.range len).map fun i => (num / 2 ^ (len - 1 - i)) % 2 == 1
/-- the octets behind the bits bs more -/
def pbits : List Int → Nat → List Bool → List Int
  | ns, _, [] => ns
  | ns, n, b :: r => pbits (pbit ns n b) (n + 1) r
theorem pbits_snoc (b : Bool) : ∀ (bs : List Bool) (ns : List Int) (n : Nat), pbits ns n (bs ++ [b]) = pbit (pbits ns n bs) (n + bs.length) b
  | [], _, _ => rfl
  | c :: r, ns, n => by
    show pbits (pbit ns n c) (n + 1) (r ++ [b]) = _
    rw [pbits_snoc b r]
    show _ = pbit (pbits (pbit ns n c) (n + 1) r) (n + (r.length + 1)) b
    rw [Nat.add_assoc, Nat.add_comm 1]
theorem pbit_length (ns : List Int) (n : Nat) (b : Bool) (h : ns.length = (n + 7) / 8) : (pbit ns n b).length = (n + 1 + 7) / 8 := by
  unfold pbit
  have e : (if ns.length ≤ n / 8 then ns ++ [0] else ns).length = (n + 1 + 7) / 8 := by
    split
    · rw [List.length_append]; simp only [List.length_cons, List.length_nil]; omega
    · omega
  dsimp only
  split
  · rw [List.length_set, e]
  · exact e
theorem pbits_length : ∀ (bs : List Bool) (ns : List Int) (n : Nat), ns.length = (n + 7) / 8 → (pbits ns n bs).length = (n + bs.length + 7) / 8
  | [], _, _, h => h
  | c :: r, ns, n, h => by
    show (pbits (pbit ns n c) (n + 1) r).length = _
    rw [pbits_length r _ _ (pbit_length ns n c h), List.length_cons]
    congr 1
    omega
theorem bitsOf_take {num len i : Nat} (h : i < len) : (bitsOf num len).take (i + 1) = (bitsOf num len).take i ++ [(num / 2 ^ (len - 1 - i)) % 2 == 1] := by
  have e : (bitsOf num len)[i]? = some ((num / 2 ^ (len - 1 - i)) % 2 == 1) := by simp [bitsOf, h]
  simp [List.take_add_one, e]
theorem bitOf_eq {num len i : Nat} (h : i < len) : (Builtin.bitAnd (((num : Nat) : Int).fdiv (2 ^ (((len : Nat) : Int) - (0 + (i : Int) * 1) - 1).toNat)) 1 == 1) = ((num / 2 ^ (len - 1 - i)) % 2 == 1) := by
  have e : (((len : Nat) : Int) - (0 + (i : Int) * 1) - 1).toNat = len - 1 - i := by omega
  have e2 : ((num : Nat) : Int).fdiv (2 ^ (len - 1 - i)) = ((num / 2 ^ (len - 1 - i) : Nat) : Int) := by
    have := fdiv_nat num (2 ^ (len - 1 - i))
    rw [← this]; simp
  rw [e, e2, bitAnd_m1]
  rw [Bool.eq_iff_iff]
  simp only [beq_iff_eq]
  omega
set_option maxRecDepth 100000 in
set_option maxHeartbeats 8000000 in
theorem put_ok {w : World} {mg mb : Str → Option Value} {b db lb : Addr} {num len : Nat} {tn tl : Tok} {t1 t2 t3 : Tok} {n : Nat} {xs : List Value} {ns : List Int} {e' : Nat} (h1 : @LT.lt Nat _ b lb) (h2 : @LT.lt Nat _ db b)
  (hi : IntsAre xs ns) (hn : n + len < 2 ^ 20) (hl : ns.length = (n + 7) / 8) (hnum : num < 2 ^ 20) :
    Spec w mg mb 20 200 129 [.ref b, .int num tn, .int len tl] [(b, instObj 146 db), (db, bufD w t1 t2 t3 lb n), (lb, PySem.W.listOf (List.toArray xs) e')] fun v sel => v = .none ∧ BufR w b db lb (pbits ns n (bitsOf num len)) (n + len) sel := by
  have hbk : ∀ bs : List Bool, (pbits ns n bs).length = (n + bs.length + 7) / 8 := fun bs => pbits_length bs ns n hl
  unfold Spec
  intro dp un gd cn cs a ccd cl outer A₀ base h₀ L m s Q E B F X N T hk hd hu hret
  (refine wpAny_call ?_; k_dflt (refine' enter_def ?k1 ?k2 ?k3 ?k4 ?k5 ?kA ?kF ?kK ?k6 ?k7 ?k8 ?k9 ?kB ?_ ?c2 ?c3 ?c4 ?c5; (case kA => exact rfl); (case kF => exact rfl); (case kK => assumption); (case k1 => k_asm); (case k2 => k_asm); (case k3 => k_asm); (case k4 => k_asm); (case k5 => k_asm); (case k6 => k_is); (case k7 => k_is); (case k8 => ktr_room); (case k9 => exact BindsTo.of_eq rfl); (case c5 => decide); (case kB => exact locs rfl); (case c2 => exact rfl); (case c3 => exact rfl); (case c4 => exact rfl); k_whole; intro g' L' h' hg' FG' F' N' B' X' T' st'; (try dsimp only); (try k_fold)))
  k_with_none
  k_with "my pyIter ref" => (refine hold ?_)
  k_with "my call ref" => (refine hold ?_)
  k_steps
  refine ⟨?_⟩
  (rename Fr _ _ _ _ => lF'; rename News _ _ _ _ => lN'; rename IsRange _ _ _ _ _ _ _ _ => rgX)
  refine for_range (n := len) (σ := List (Addr × Obj)) (fun c => c) (fun _ => []) [] (fun i c => BufR w b db lb (pbits ns n ((bitsOf num len).take i)) (n + i) c) _ (by rfl) rgX ?ra ?rb lF' lN' ?rc ?rd ?turn ?done
  case ra => exact small_one (by omega) (by omega) (by omega) (by omega)
  case rb => exact rangeSize_nat _ _
  case rc => exact List.forall_mem_nil _
  case rd => exact ⟨_, _, _, _, _, rfl, by simpa [pbits] using hi⟩
  case turn =>
    clear lF' lN' rgX
    rintro c i t u h tk own hi1 hoff ⟨t1', t2', t3', xs', e2, rfl, hi2⟩ F2 N2
    simp only [List.cons_append, List.nil_append] at N2
    k_fold
    k_steps
    refine ⟨?_⟩
    ((with_reducible show wpAny _ _ (call (Value.ref 143) _) _ _ _); k_dflt (refine' Spec.use (put_bit_ok h1 h2 hi2 ?pa ?pb) (own) ?k1 ?k2 ?k3 ?k4 ?k5 ?kK ?s1 ?s2 ?s3 ?d1 ?d2 ?_); (case k1 => k_asm); (case k2 => k_asm); (case k3 => k_asm); (case k4 => k_asm); (case k5 => k_asm); (case kK => first | exact rfl | assumption); (case s1 => (repeat (first | (apply sub_nil) | (apply sub_cons (by k_mem)) | (intro p hp; repeat (first | exact hp | apply sub_tail))))); (case s2 => (repeat (first | (apply sub_nil) | (apply sub_cons (by k_mem)) | (intro p hp; repeat (first | exact hp | apply sub_tail))))); (case s3 => exact fun p hp q hq => hoff p hp _ (List.mem_map_of_mem hq)); (case d1 => first | exact room_lt hd (by decide) | ktr_room); (case d2 => first | exact room_lt hu (by decide) | ktr_units))
    case pa => omega
    case pb => rw [hbk, List.length_take]; simp only [bitsOf, List.length_map, List.length_range]; congr 1; omega
    rintro v sel' h' tk' ⟨rfl, t1'', t2'', t3'', xs'', e3, rfl, hi3⟩ F3 N3 _ _
    simp only [List.cons_append, List.nil_append] at N3
    k_steps
    refine TurnE.next [(b, instObj 146 db), (db, bufD w t1'' t2'' t3'' lb (n + i + 1 : Nat)), (lb, PySem.W.listOf xs''.toArray e3)] F3 N3 (by (repeat (first | (apply sub_nil) | (apply sub_cons (by k_mem)) | (intro p hp; repeat (first | exact hp | apply sub_tail))))) (by (repeat (first | (apply sub_nil) | (apply sub_cons (by k_mem)) | (intro p hp; repeat (first | exact hp | apply sub_tail))))) hoff (List.forall_mem_nil _) (fun z hz _ _ => (if_neg hz).trans rfl) ?_
    refine ⟨_, _, _, _, _, rfl, ints_eq hi3 ?_⟩
    rw [bitsOf_take (i := i) hi1, pbits_snoc]
    congr 1
    · simp only [List.length_take, bitsOf, List.length_map, List.length_range]; omega
    · exact bitOf_eq hi1
  clear lF' lN' rgX
  rintro c u h tk ⟨t1', t2', t3', xs', e2, rfl, hi2⟩ F2 N2
  dsimp only
  k_steps
  ((rename Fr _ _ _ _ => kF9); (rename News _ _ _ _ => kN9); (rename (_ : Heap) = rest0 _ _ => hg9); subst hg9; (rename Fr (rest0 _ _) _ _ _ => F9); (rename News (rest0 _ _) _ _ _ => N9); refine spec_ret (by assumption) kF9 kN9 F9 N9 (fun _ h => h) ?_)
  refine ⟨rfl, _, _, _, _, _, rfl, ints_eq hi2 ?_⟩
  rw [List.take_of_length_le]
  simp [bitsOf]
end
section
/-- the law's state: the script's start, the place, the figure -/
def StR (a l : Addr) (xs : List Value) (el : Nat) (len : Nat) (sel : List (Addr × Obj)) : Prop :=
  ∃ (i x : Nat) (t t' : Tok) (e : Nat), sel = [(a, PySem.W.listOf [Value.ref l, Value.int i t, Value.int x t'].toArray e), (l, PySem.W.listOf xs.toArray el)] ∧ i ≤ len ∧ x < 2147483647
set_option maxRecDepth 100000 in
set_option maxHeartbeats 8000000 in
theorem next_ok {w : World} {mg mb : Str → Option Value} {a l : Addr} {xs : List Value} {ns : List Int} {el e i x many : Nat} {t t' tm : Tok} (h1 : @LT.lt Nat _ l a)
  (hi : IntsAre xs ns) (hn : ns.length ≤ 63) (hil : i ≤ ns.length) (hx : x < 2147483647) (hm : 0 < many) (hm2 : many ≤ 256) :
    Spec w mg mb 10 100 157 [.ref a, .int many tm] [(a, PySem.W.listOf [Value.ref l, Value.int i t, Value.int x t'].toArray e), (l, PySem.W.listOf xs.toArray el)] fun v sel => ∃ (r : Nat) (t : Tok), v = .int r t ∧ r < many ∧ StR a l xs el ns.length sel := by
  have hlen : ns.length < 2 ^ 62 := by omega
  have hxl : xs.length = ns.length := hi.length
  unfold Spec
  intro dp un gd cn cs a' ccd cl outer A₀ base h₀ L m s Q E B F X N T hk hd hu hret
  (refine wpAny_call ?_; k_dflt (refine' enter_def ?k1 ?k2 ?k3 ?k4 ?k5 ?kA ?kF ?kK ?k6 ?k7 ?k8 ?k9 ?kB ?_ ?c2 ?c3 ?c4 ?c5; (case kA => exact rfl); (case kF => exact rfl); (case kK => assumption); (case k1 => k_asm); (case k2 => k_asm); (case k3 => k_asm); (case k4 => k_asm); (case k5 => k_asm); (case k6 => k_is); (case k7 => k_is); (case k8 => ktr_room); (case k9 => exact BindsTo.of_eq rfl); (case c5 => decide); (case kB => exact locs rfl); (case c2 => exact rfl); (case c3 => exact rfl); (case c4 => exact rfl); k_whole; intro g' L' h' hg' FG' F' N' B' X' T' st'; (try dsimp only); (try k_fold)))
  k_with_none
  k_steps
  · have e1 : ((↑x * 31 + if ns.getD (i : Int).toNat 0 < 0 then -ns.getD (i : Int).toNat 0 else ns.getD (i : Int).toNat 0).fmod 2147483647) = (((↑x * 31 + if ns.getD (i : Int).toNat 0 < 0 then -ns.getD (i : Int).toNat 0 else ns.getD (i : Int).toNat 0).fmod 2147483647).toNat : Int) := (Int.toNat_of_nonneg (fmod_lo _ (by decide))).symm
    have e2 := fmod_hi (↑x * 31 + if ns.getD (i : Int).toNat 0 < 0 then -ns.getD (i : Int).toNat 0 else ns.getD (i : Int).toNat 0) (n := 2147483647) (by decide)
    have e3 : ((if ns.getD (i : Int).toNat 0 < 0 then -ns.getD (i : Int).toNat 0 else ns.getD (i : Int).toNat 0).fmod (many : Int)) = (((if ns.getD (i : Int).toNat 0 < 0 then -ns.getD (i : Int).toNat 0 else ns.getD (i : Int).toNat 0).fmod (many : Int)).toNat : Int) := (Int.toNat_of_nonneg (fmod_lo _ (by omega))).symm
    have e4 := fmod_hi (if ns.getD (i : Int).toNat 0 < 0 then -ns.getD (i : Int).toNat 0 else ns.getD (i : Int).toNat 0) (n := (many : Int)) (by omega)
    ((rename Fr _ _ _ _ => kF9); (rename News _ _ _ _ => kN9); (rename (_ : Heap) = rest0 _ _ => hg9); subst hg9; (rename Fr (rest0 _ _) _ _ _ => F9); (rename News (rest0 _ _) _ _ _ => N9); refine spec_ret (by assumption) kF9 kN9 F9 N9 (fun _ h => h) ?_)
    rw [e1, e3]
    exact ⟨_, _, rfl, by omega, i + 1, _, _, _, _, rfl, by omega, by omega⟩
  · have e1 : ((x : Int) * 48271 + 11).fmod 2147483647 = ((((x : Int) * 48271 + 11).fmod 2147483647).toNat : Int) := (Int.toNat_of_nonneg (fmod_lo _ (by decide))).symm
    have e2 := fmod_hi ((x : Int) * 48271 + 11) (n := 2147483647) (by decide)
    have e3 : ((((x : Int) * 48271 + 11).fmod 2147483647).fdiv 7).fmod (many : Int) = (((((x : Int) * 48271 + 11).fmod 2147483647).fdiv 7).fmod (many : Int)).toNat := (Int.toNat_of_nonneg (fmod_lo _ (by omega))).symm
    have e4 := fmod_hi ((((x : Int) * 48271 + 11).fmod 2147483647).fdiv 7) (n := (many : Int)) (by omega)
    ((rename Fr _ _ _ _ => kF9); (rename News _ _ _ _ => kN9); (rename (_ : Heap) = rest0 _ _ => hg9); subst hg9; (rename Fr (rest0 _ _) _ _ _ => F9); (rename News (rest0 _ _) _ _ _ => N9); refine spec_ret (by assumption) kF9 kN9 F9 N9 (fun _ h => h) ?_)
    rw [e3, e1]
    exact ⟨_, _, rfl, by rw [e1] at e4; omega, i, _, _, _, _, rfl, by omega, by omega⟩
end
section
def fig (l : List Int) : Int := l.foldl (fun a b => 2 * a + b) 0
theorem fig_snoc (l : List Int) (b : Int) : fig (l ++ [b]) = 2 * fig l + b := by simp [fig]
theorem getD_of_drop {ns : List Int} {i at0 : Nat} (h : at0 + i < ns.length) : (ns.drop at0).take (i + 1) = (ns.drop at0).take i ++ [ns[at0 + i]] := by
  have e : (ns.drop at0)[i]? = some ns[at0 + i] := by simp [h]
  simp [List.take_add_one, e]
set_option maxRecDepth 100000 in
set_option maxHeartbeats 8000000 in
theorem taken_ok {w : World} {mg mb : Str → Option Value} {l : Addr} {xs : List Value} {ns : List Int} {el at0 size : Nat} {ta ts : Tok}
  (hi : IntsAre xs ns) (hn : ns.length < 2 ^ 20) (hb : at0 + size ≤ ns.length) (hs : size ≤ 16) (hbit : ∀ x ∈ ns, x = 0 ∨ x = 1) :
    Spec w mg mb 10 100 174 [.ref l, .int at0 ta, .int size ts] [(l, PySem.W.listOf xs.toArray el)] fun v sel => ∃ (t : Addr) (tf tt : Tok) (n : Nat), v = .ref t ∧ sel = [(t, ⟨.type "tuple", none, .seq #[.int (fig ((ns.drop at0).take size)) tf, .int ((at0 + size : Nat) : Int) tt] n, #[]⟩), (l, PySem.W.listOf xs.toArray el)] ∧ @LT.lt Nat _ l t := by
  have hlen : ns.length < 2 ^ 62 := by omega
  have hxl : xs.length = ns.length := hi.length
  unfold Spec
  intro dp un gd cn cs a' ccd cl outer A₀ base h₀ L m s Q E B F X N T hk hd hu hret
  (refine wpAny_call ?_; k_dflt (refine' enter_def ?k1 ?k2 ?k3 ?k4 ?k5 ?kA ?kF ?kK ?k6 ?k7 ?k8 ?k9 ?kB ?_ ?c2 ?c3 ?c4 ?c5; (case kA => exact rfl); (case kF => exact rfl); (case kK => assumption); (case k1 => k_asm); (case k2 => k_asm); (case k3 => k_asm); (case k4 => k_asm); (case k5 => k_asm); (case k6 => k_is); (case k7 => k_is); (case k8 => ktr_room); (case k9 => exact BindsTo.of_eq rfl); (case c5 => decide); (case kB => exact locs rfl); (case c2 => exact rfl); (case c3 => exact rfl); (case c4 => exact rfl); k_whole; intro g' L' h' hg' FG' F' N' B' X' T' st'; (try dsimp only); (try k_fold)))
  k_with_none
  k_with "my pyIter ref" => (refine hold ?_)
  k_steps
  refine ⟨?_⟩
  (rename Fr _ _ _ _ => lF'; rename News _ _ _ _ => lN'; rename IsRange _ _ _ _ _ _ _ _ => rgX)
  refine' for_range (n := size) (σ := Value) (fun _ => [(l, PySem.W.listOf xs.toArray el)]) (fun c => [("figure", c)]) [] (fun i c => ∃ (fg : Int) (tf : Tok), c = .int fg tf ∧ fg = fig ((ns.drop at0).take i) ∧ 0 ≤ fg ∧ fg < 2 ^ i) _ (by rfl) rgX ?ra ?rb lF' lN' ?rc ?rd ?turn ?done
  case rc => exact List.forall_mem_cons.mpr ⟨by with_unfolding_all rfl, List.forall_mem_nil _⟩
  case ra => exact small_one (by omega) (by omega) (by omega) (by omega)
  case rb => exact (rangeSize_nat _ _).trans (by omega)
  case rd => exact ⟨_, _, rfl, rfl, by decide, by decide⟩
  case turn =>
    clear lF' lN' rgX
    rintro _ i t u h tk own hi1 hoff ⟨fg, tf, rfl, hf, hf0, hf1⟩ F2 N2
    simp only [List.cons_append, List.nil_append] at N2
    k_fold
    have hpw : (2 : Int) ^ i ≤ 65536 := by
      have := Nat.pow_le_pow_right (n := 2) (by decide) (Nat.le_of_lt (Nat.lt_of_lt_of_le hi1 hs))
      have h2 : ((2 ^ i : Nat) : Int) ≤ ((2 ^ 16 : Nat) : Int) := Int.ofNat_le.mpr this
      simpa using h2
    k_steps
    (rename Fr _ _ _ _ => F3; rename News _ _ _ _ => N3)
    refine TurnE.next _ F3 N3 (by (repeat (first | (apply sub_nil) | (apply sub_cons (by k_mem)) | (intro p hp; repeat (first | exact hp | apply sub_tail))))) (by (repeat (first | (apply sub_nil) | (apply sub_cons (by k_mem)) | (intro p hp; repeat (first | exact hp | apply sub_tail))))) hoff (List.forall_mem_cons.mpr ⟨by with_unfolding_all rfl, List.forall_mem_nil _⟩) (fun z hz hz2 _ => by
      have hz3 := hz2 _ (List.Mem.head _)
      dsimp only at hz3
      simp only [hz, hz3, kstB, if_false]
      rfl) ?_
    have hg := getD_of_drop (ns := ns) (i := i) (at0 := at0) (by omega)
    have hbn := hbit _ (List.getElem_mem (l := ns) (n := at0 + i) (by omega))
    have e1 : (((at0 : Nat) : Int) + (i : Int) * 1).toNat = at0 + i := by omega
    rw [List.getD_eq_getElem?_getD] at *
    refine ⟨_, _, rfl, ?_, ?_, ?_⟩
    · rw [hg, fig_snoc, ← hf, e1]; simp [show at0 + i < ns.length by omega]
    · rw [e1]; simp only [show at0 + i < ns.length by omega, List.getElem?_eq_getElem, Option.getD_some]; omega
    · rw [e1, Int.pow_succ]; simp only [show at0 + i < ns.length by omega, List.getElem?_eq_getElem, Option.getD_some]; omega
  clear lF' lN' rgX
  rintro _ u h tk ⟨fg, tf, rfl, hf, hf0, hf1⟩ F2 N2
  dsimp only
  k_steps
  ((rename Fr _ _ _ _ => kF9); (rename News _ _ _ _ => kN9); (rename (_ : Heap) = rest0 _ _ => hg9); subst hg9; (rename Fr (rest0 _ _) _ _ _ => F9); (rename News (rest0 _ _) _ _ _ => N9); refine spec_ret (by assumption) kF9 kN9 F9 N9 (fun _ h => h) ?_)
  rw [← hf]
  exact ⟨_, _, _, _, rfl, rfl, by assumption⟩
end
section
/-- the bit k of the octets -/
def gbit (ns : List Int) (k : Nat) : Bool := Builtin.bitAnd ((ns.getD (k / 8) 0).fdiv (2 ^ (7 - k % 8))) 1 == 1
set_option maxRecDepth 100000 in
set_option maxHeartbeats 8000000 in
theorem get_ok {w : World} {mg mb : Str → Option Value} {b db lb : Addr} {k n : Nat} {tk t1 t2 t3 : Tok} {xs : List Value} {ns : List Int} {e' : Nat} (h1 : @LT.lt Nat _ b lb) (h2 : @LT.lt Nat _ db b)
  (hi : IntsAre xs ns) (hn : n < 2 ^ 20) (hl : ns.length = (n + 7) / 8) (hk : k < n) (hb : ∀ x ∈ ns, 0 ≤ x ∧ x < 256) :
    Spec w mg mb 10 100 122 [.ref b, .int k tk] [(b, instObj 146 db), (db, bufD w t1 t2 t3 lb n), (lb, PySem.W.listOf (List.toArray xs) e')] fun v sel => v = .bool (gbit ns k) ∧ sel = [(b, instObj 146 db), (db, bufD w t1 t2 t3 lb n), (lb, PySem.W.listOf (List.toArray xs) e')] := by
  have hlen : ns.length < 2 ^ 62 := by omega
  have hfd : ((k : Int)).fdiv 8 = ((k / 8 : Nat) : Int) := fdiv_nat k 8
  have hfm : ((k : Int)).fmod 8 = ((k % 8 : Nat) : Int) := fmod_nat k 8
  have hxl : xs.length = ns.length := hi.length
  unfold Spec
  intro dp un gd cn cs a ccd cl outer A₀ base h₀ L m s Q E B F X N T hk hd hu hret
  (refine wpAny_call ?_; k_dflt (refine' enter_def ?k1 ?k2 ?k3 ?k4 ?k5 ?kA ?kF ?kK ?k6 ?k7 ?k8 ?k9 ?kB ?_ ?c2 ?c3 ?c4 ?c5; (case kA => exact rfl); (case kF => exact rfl); (case kK => assumption); (case k1 => k_asm); (case k2 => k_asm); (case k3 => k_asm); (case k4 => k_asm); (case k5 => k_asm); (case k6 => k_is); (case k7 => k_is); (case k8 => ktr_room); (case k9 => exact BindsTo.of_eq rfl); (case c5 => decide); (case kB => exact locs rfl); (case c2 => exact rfl); (case c3 => exact rfl); (case c4 => exact rfl); k_whole; intro g' L' h' hg' FG' F' N' B' X' T' st'; (try dsimp only); (try k_fold)))
  k_with_none
  k_steps
  ((rename Fr _ _ _ _ => kF9); (rename News _ _ _ _ => kN9); (rename (_ : Heap) = rest0 _ _ => hg9); subst hg9; (rename Fr (rest0 _ _) _ _ _ => F9); (rename News (rest0 _ _) _ _ _ => N9); refine spec_ret (by assumption) kF9 kN9 F9 N9 (fun _ h => h) ?_)
  have e1 : (7 - ((k % 8 : Nat) : Int)).toNat = 7 - k % 8 := by omega
  rw [hfd, hfm, e1, Int.toNat_natCast]
  exact ⟨rfl, rfl⟩
set_option maxRecDepth 100000 in
set_option maxHeartbeats 8000000 in
theorem blen_ok {w : World} {mg mb : Str → Option Value} {b db lb : Addr} {n : Nat} {t1 t2 t3 : Tok} {xs : List Value} {e' : Nat} (h1 : @LT.lt Nat _ b lb) (h2 : @LT.lt Nat _ db b) :
    Spec w mg mb 10 100 136 [.ref b] [(b, instObj 146 db), (db, bufD w t1 t2 t3 lb n), (lb, PySem.W.listOf (List.toArray xs) e')] fun v sel => ∃ t, v = .int n t ∧ sel = [(b, instObj 146 db), (db, bufD w t1 t2 t3 lb n), (lb, PySem.W.listOf (List.toArray xs) e')] := by
  unfold Spec
  intro dp un gd cn cs a ccd cl outer A₀ base h₀ L m s Q E B F X N T hk hd hu hret
  (refine wpAny_call ?_; k_dflt (refine' enter_def ?k1 ?k2 ?k3 ?k4 ?k5 ?kA ?kF ?kK ?k6 ?k7 ?k8 ?k9 ?kB ?_ ?c2 ?c3 ?c4 ?c5; (case kA => exact rfl); (case kF => exact rfl); (case kK => assumption); (case k1 => k_asm); (case k2 => k_asm); (case k3 => k_asm); (case k4 => k_asm); (case k5 => k_asm); (case k6 => k_is); (case k7 => k_is); (case k8 => ktr_room); (case k9 => exact BindsTo.of_eq rfl); (case c5 => decide); (case kB => exact locs rfl); (case c2 => exact rfl); (case c3 => exact rfl); (case c4 => exact rfl); k_whole; intro g' L' h' hg' FG' F' N' B' X' T' st'; (try dsimp only); (try k_fold)))
  k_with_none
  k_steps
  ((rename Fr _ _ _ _ => kF9); (rename News _ _ _ _ => kN9); (rename (_ : Heap) = rest0 _ _ => hg9); subst hg9; (rename Fr (rest0 _ _) _ _ _ => F9); (rename News (rest0 _ _) _ _ _ => N9); refine spec_ret (by assumption) kF9 kN9 F9 N9 (fun _ h => h) ?_)
  exact ⟨_, rfl, rfl⟩
end
section
/-- how many bits the length takes -/
def lenBits (m v : Nat) : Nat :=
  if v < 10 then (if m = 1 then 10 else if m = 2 then 9 else 8)
  else if v < 27 then (if m = 1 then 12 else if m = 2 then 11 else 16)
  else (if m = 1 then 14 else if m = 2 then 13 else 16)
set_option maxRecDepth 100000 in
set_option maxHeartbeats 8000000 in
theorem lib_ok {w : World} {mg mb : Str → Option Value} {m₀ v : Nat} {tm tv : Tok} (hm : m₀ = 1 ∨ m₀ = 2 ∨ m₀ = 4) (h1 : 1 ≤ v) (h2 : v ≤ 40) :
    Spec w mg mb 20 200 32 [.int m₀ tm, .int v tv] [] fun r sel => ∃ t, r = .int (lenBits m₀ v : Nat) t ∧ sel = [] := by
  unfold Spec
  intro dp un gd cn cs a ccd cl outer A₀ base h₀ L m s Q E B F X N T hk hd hu hret
  rcases hm with rfl | rfl | rfl
  all_goals (
    (refine wpAny_call ?_; k_dflt (refine' enter_def ?k1 ?k2 ?k3 ?k4 ?k5 ?kA ?kF ?kK ?k6 ?k7 ?k8 ?k9 ?kB ?_ ?c2 ?c3 ?c4 ?c5; (case kA => exact rfl); (case kF => exact rfl); (case kK => assumption); (case k1 => k_asm); (case k2 => k_asm); (case k3 => k_asm); (case k4 => k_asm); (case k5 => k_asm); (case k6 => k_is); (case k7 => k_is); (case k8 => ktr_room); (case k9 => exact BindsTo.of_eq rfl); (case c5 => decide); (case kB => exact locs rfl); (case c2 => exact rfl); (case c3 => exact rfl); (case c4 => exact rfl); k_whole; intro g' L' h' hg' FG' F' N' B' X' T' st'; (try dsimp only); (try k_fold)))
    k_with_none
    k_steps
    all_goals (
      ((rename Fr _ _ _ _ => kF9); (rename News _ _ _ _ => kN9); (rename (_ : Heap) = rest0 _ _ => hg9); subst hg9; (rename Fr (rest0 _ _) _ _ _ => F9); (rename News (rest0 _ _) _ _ _ => N9); refine spec_ret (sel' := []) (by assumption) kF9 kN9 F9 N9 (fun _ h => nomatch h) ?_)
      refine ⟨_, congrArg (fun z => Value.int z _) ?_, rfl⟩
      unfold lenBits
      first
      | rw [if_pos (show v < 10 by omega)]; rfl
      | rw [if_neg (show ¬ v < 10 by omega), if_pos (show v < 27 by omega)]; rfl
      | rw [if_neg (show ¬ v < 10 by omega), if_neg (show ¬ v < 27 by omega)]; rfl))
end
section
section
variable {M : Model} {A : Around} {E : Value → Shared → Prop} {s : Shared} {K : Frag} {h₀ : Heap} {L C : Addr} {m m₂ mg mb : Str → Option Value} {news : List (Addr × Obj)} {scope : Scope} {cl : List (Str × Addr)} {env : Env} {p : Program} {loose : List Str} {x : Str} {pos : Pos} {v : Value} {Q : Value → Shared → Prop}
theorem ld_globalR (F : Fr h₀ L s.heap m) (X : K.In h₀) (T : TopRead p loose mg mb h₀) (e : nsIn K mainGlobals x = some (some v)) (h : Q v s) (hg : env.globals = mainGlobals := by rfl)
    (hk : (compEnvC scope cl C env).scope.kind = .function := by rfl) (hx : (compEnvC scope cl C env).kindOf x = some .globalImplicit := by rfl) (hd : (x == ("__debug__" : Str)) = false := by decide) :
    wpAny M A (eval (.Name x pos) (compEnvC scope cl C env)) Q E s :=
  Name_function_global hk hx (loadGlobal_global (env := compEnvC scope cl C env) (show s.heap.Ns env.globals mg from hg ▸ T.g.keeps F.keep) (mg_of X T.g e) h) hd
theorem ld_builtR (F : Fr h₀ L s.heap m) (X : K.In h₀) (T : TopRead p loose mg mb h₀) (e : nsIn K mainGlobals x = some none) (hv : bootBuiltins x = some v) (hn : x ≠ "__name__") (h : Q v s) (hg : env.globals = mainGlobals := by rfl) (hb : env.builtins = builtinsNs := by rfl)
    (hk : (compEnvC scope cl C env).scope.kind = .function := by rfl) (hx : (compEnvC scope cl C env).kindOf x = some .globalImplicit := by rfl) (hd : (x == ("__debug__" : Str)) = false := by decide) :
    wpAny M A (eval (.Name x pos) (compEnvC scope cl C env)) Q E s :=
  Name_function_global hk hx (loadGlobal_builtin (env := compEnvC scope cl C env) (show s.heap.Ns env.globals mg from hg ▸ T.g.keeps F.keep) (mg_none_of X T.g e) (show s.heap.Ns env.builtins mb from hb ▸ T.b.keeps F.keep) ((T.builtins x hn).trans hv) h) hd
end
section
variable {prog : Program} {w : World} {A : Around} {s : Shared} {h₀ : Heap} {L : Addr} {m : Str → Option Value} {env : Env}
/-- a comprehension's turns, by an invariant over the values so far and the ledger -/
theorem comp_ind {elt : Expr} {x : Str} {scope : Scope} {cl : List (Str × Addr)} {S : List (Addr × Obj) → Prop} {P : Nat → Value → Prop} {Fin : List Value → List (Addr × Obj) → Prop} {n : Nat} (Inv : Nat → List Value → List (Addr × Obj) → Prop)
    (step : ∀ i ys news v I oI C oC D m₂ h tk (E' : Value → Shared → Prop), i < n → Inv i ys news → P i v → LCg.NsObj oC m₂ → m₂ x = some v → Fr h₀ L h m → News h₀ L h ((I, oI) :: (C, oC) :: (D, LCg.lst ys) :: news) → LCg.Off3 I C D news → ((@Ne Nat I C) ∧ (@Ne Nat I D) ∧ (@Ne Nat C D)) →
      wpAny (model prog w) A (eval elt (compEnvC scope cl C env)) (LCg.CompEnd h₀ L m { s with heap := h, toks := tk } I oI C oC D (LCg.lst ys) S (fun y news' => Inv (i + 1) (ys ++ [y]) news')) E' { s with heap := h, toks := tk })
    (fin : ∀ ys news, Inv n ys news → Fin ys news) : ∀ k i ys news, i + k = n → Inv i ys news → LCg.CompRest prog w A h₀ L m env elt x scope cl s S P Fin k i ys news
  | 0, i, ys, news, e, h => by
    obtain rfl : i = n := e
    exact fin ys news h
  | k + 1, i, ys, news, e, hI => by
    refine LCg.CompRest.succ ?_
    intro v I oI C oC D m₂ h tk E' hv hC hx F N off ne
    refine wpAny_mono (step i ys news v I oI C oC D m₂ h tk E' (by omega) hI hv hC hx F N off ne) (fun y s₂ hy => ?_) fun _ _ e => e
    obtain ⟨h', tk', news', e1, F', N', o', hS, r⟩ := hy
    exact ⟨h', tk', news', e1, F', N', o', hS, comp_ind Inv step fin k (i + 1) (ys ++ [y]) news' (by omega) r⟩
end
end
section
/-- a fact that the searches shall not see -/
def Hid (P : Prop) : Prop := P
section
variable {prog : Program} {w : World} {A : Around} {E : Value → Shared → Prop} {s : Shared} {env : Env} {h₀ : Heap} {Q : Flow → Shared → Prop}
/-- the end of a while's turn -/
def WhlE {σ : Type} (h₀ : Heap) (L : Addr) (Led : σ → List (Addr × Obj)) (ps : σ → List (Str × Value)) (stored : List Str) (m₀ : Str → Option Value) (P : Nat → σ → Prop) (n : Nat) (s₁ : Shared) (Q : Flow → Shared → Prop) (f : Flow) (s₂ : Shared) : Prop :=
  match f with
  | .ret v => Q (.ret v) s₂
  | .brk => Q .next s₂
  | _ => ∃ c n' h' tk m' news', s₂ = { s₁ with heap := h', toks := tk } ∧ Fr h₀ L h' m' ∧ News h₀ L h' news' ∧ (∀ p ∈ Led c, p ∈ news') ∧ (∀ p ∈ ps c, m' p.1 = some p.2) ∧ (∀ z, (∀ p ∈ ps c, z ≠ p.1) → stored.contains z = false → m' z = m₀ z) ∧ n' < n ∧ P n' c
theorem WhlE.next {σ : Type} {L : Addr} {Led : σ → List (Addr × Obj)} {ps : σ → List (Str × Value)} {stored : List Str} {m₀ m' : Str → Option Value} {P : Nat → σ → Prop} {n : Nat} {s₁ : Shared} {h' : Heap} {tk : Nat} {news' : List (Addr × Obj)} (c : σ) (n' : Nat)
    (F : Fr h₀ L h' m') (N : News h₀ L h' news') (hn : ∀ p ∈ Led c, p ∈ news') (hk : ∀ p ∈ ps c, m' p.1 = some p.2) (hr : ∀ z, (∀ p ∈ ps c, z ≠ p.1) → stored.contains z = false → m' z = m₀ z) (hlt : n' < n) (hP : P n' c) :
    WhlE h₀ L Led ps stored m₀ P n s₁ Q .next { s₁ with heap := h', toks := tk } := ⟨c, n', h', tk, m', news', rfl, F, N, hn, hk, hr, hlt, hP⟩
theorem while_walk {σ : Type} {L : Addr} {test : Expr} {body : List Stmt} {pos : Pos} {m₀ : Str → Option Value} (Led : σ → List (Addr × Obj)) (ps : σ → List (Str × Value)) (stored : List Str) (P : Nat → σ → Prop) (n₀ : Nat) (c₀ : σ)
    (F : Fr h₀ L s.heap m₀) (N : News h₀ L s.heap (Led c₀)) (hk : ∀ p ∈ ps c₀, m₀ p.1 = some p.2) (hp : P n₀ c₀) (hE : PassesOwn (model prog w) A env E)
    (turn : ∀ n (c : σ) (u : Str → Option Value) h tk, P n c → Fr h₀ L h (kstB (fun z => if stored.contains z then u z else m₀ z) (ps c)) → News h₀ L h (Led c) →
      wpAny (model prog w) A (isTrue test env (eval test env)) (fun b s₂ => if b = true then wpAny (model prog w) A (execs body env) (WhlE h₀ L Led ps stored m₀ P n { s with heap := h, toks := tk } Q) E s₂ else Q .next s₂) E { s with heap := h, toks := tk }) :
    wpAny (model prog w) A (exec (.While test body [] pos) env) Q E s := by
  refine While_inv2 (fun n m₁ news₁ => ∃ c, news₁ = Led c ∧ P n c ∧ (∀ p ∈ ps c, m₁ p.1 = some p.2) ∧ (∀ z, (∀ p ∈ ps c, z ≠ p.1) → stored.contains z = false → m₁ z = m₀ z)) F N ⟨c₀, rfl, hp, hk, fun _ _ _ => rfl⟩ ?_ hE
  rintro n m₁ news₁ h₁ tk₁ F₁ N₁ ⟨c, rfl, hP, h1, h2⟩
  have e : kstB (fun z => if stored.contains z then m₁ z else m₀ z) (ps c) = m₁ := by
    funext z
    refine kstB_eq h1 fun hz => ?_
    by_cases hs : stored.contains z = true
    · rw [if_pos hs]
    · rw [if_neg hs]; exact (h2 z hz (by simpa using hs)).symm
  refine wpAny_mono (turn n c m₁ h₁ tk₁ hP (e.symm ▸ F₁) N₁) (fun b s₂ h₂ => ?_) fun _ _ e => e
  split at h₂
  · rename_i hb
    rw [if_pos hb]
    refine wpAny_mono h₂ (fun f s₃ h₃ => ?_) fun _ _ e => e
    have go : (∃ c n' h' tk m' news', s₃ = { s with heap := h', toks := tk } ∧ Fr h₀ L h' m' ∧ News h₀ L h' news' ∧ (∀ p ∈ Led c, p ∈ news') ∧ (∀ p ∈ ps c, m' p.1 = some p.2) ∧ (∀ z, (∀ p ∈ ps c, z ≠ p.1) → stored.contains z = false → m' z = m₀ z) ∧ n' < n ∧ P n' c) →
        ∃ h' tk m₂ news₂ n', s₃ = { s with heap := h', toks := tk } ∧ Fr h₀ L h' m₂ ∧ News h₀ L h' news₂ ∧ n' < n ∧ ∃ c, news₂ = Led c ∧ P n' c ∧ (∀ p ∈ ps c, m₂ p.1 = some p.2) ∧ (∀ z, (∀ p ∈ ps c, z ≠ p.1) → stored.contains z = false → m₂ z = m₀ z) := by
      rintro ⟨c', n', h', tk, m', news', e, F', N', hn, hk', hr, hlt, hP'⟩
      exact ⟨h', tk, m', Led c', n', e, F', (fun p hp => N' p (hn p hp)), hlt, c', rfl, hP', hk', hr⟩
    cases f with
    | ret v => exact h₃
    | brk => exact h₃
    | next => exact go h₃
    | cont => exact go h₃
  · rename_i hb
    rw [if_neg hb]
    exact h₂
/-- the end of a while's turn, the other names forgotten -/
def WhlF {σ : Type} (h₀ : Heap) (L : Addr) (Led : σ → List (Addr × Obj)) (ps : σ → List (Str × Value)) (P : Nat → σ → Prop) (n : Nat) (s₁ : Shared) (Q : Flow → Shared → Prop) (f : Flow) (s₂ : Shared) : Prop :=
  match f with
  | .ret v => Q (.ret v) s₂
  | .brk => Q .next s₂
  | _ => ∃ c n' h' tk m' news', s₂ = { s₁ with heap := h', toks := tk } ∧ Fr h₀ L h' m' ∧ News h₀ L h' news' ∧ (∀ p ∈ Led c, p ∈ news') ∧ (∀ p ∈ ps c, m' p.1 = some p.2) ∧ n' < n ∧ P n' c
theorem WhlF.next {σ : Type} {L : Addr} {Led : σ → List (Addr × Obj)} {ps : σ → List (Str × Value)} {m' : Str → Option Value} {P : Nat → σ → Prop} {n : Nat} {s₁ : Shared} {h' : Heap} {tk : Nat} {news' : List (Addr × Obj)} (c : σ) (n' : Nat)
    (F : Fr h₀ L h' m') (N : News h₀ L h' news') (hn : ∀ p ∈ Led c, p ∈ news') (hk : ∀ p ∈ ps c, m' p.1 = some p.2) (hlt : n' < n) (hP : P n' c) :
    WhlF h₀ L Led ps P n s₁ Q .next { s₁ with heap := h', toks := tk } := ⟨c, n', h', tk, m', news', rfl, F, N, hn, hk, hlt, hP⟩
theorem while_free {σ : Type} {L : Addr} {test : Expr} {body : List Stmt} {pos : Pos} {m₀ : Str → Option Value} (Led : σ → List (Addr × Obj)) (ps : σ → List (Str × Value)) (P : Nat → σ → Prop) (n₀ : Nat) (c₀ : σ)
    (F : Fr h₀ L s.heap m₀) (N : News h₀ L s.heap (Led c₀)) (hk : ∀ p ∈ ps c₀, m₀ p.1 = some p.2) (hp : P n₀ c₀) (hE : PassesOwn (model prog w) A env E)
    (turn : ∀ n (c : σ) (u : Str → Option Value) h tk, P n c → Fr h₀ L h (kstB u (ps c)) → News h₀ L h (Led c) →
      wpAny (model prog w) A (isTrue test env (eval test env)) (fun b s₂ => if b = true then wpAny (model prog w) A (execs body env) (WhlF h₀ L Led ps P n { s with heap := h, toks := tk } Q) E s₂ else Q .next s₂) E { s with heap := h, toks := tk }) :
    wpAny (model prog w) A (exec (.While test body [] pos) env) Q E s := by
  refine While_inv2 (fun n m₁ news₁ => ∃ c, news₁ = Led c ∧ P n c ∧ (∀ p ∈ ps c, m₁ p.1 = some p.2)) F N ⟨c₀, rfl, hp, hk⟩ ?_ hE
  rintro n m₁ news₁ h₁ tk₁ F₁ N₁ ⟨c, rfl, hP, h1⟩
  have e : kstB m₁ (ps c) = m₁ := funext fun z => kstB_eq h1 fun _ => rfl
  refine wpAny_mono (turn n c m₁ h₁ tk₁ hP (e.symm ▸ F₁) N₁) (fun b s₂ h₂ => ?_) fun _ _ e => e
  split at h₂
  · rename_i hb
    rw [if_pos hb]
    refine wpAny_mono h₂ (fun f s₃ h₃ => ?_) fun _ _ e => e
    have go : (∃ c n' h' tk m' news', s₃ = { s with heap := h', toks := tk } ∧ Fr h₀ L h' m' ∧ News h₀ L h' news' ∧ (∀ p ∈ Led c, p ∈ news') ∧ (∀ p ∈ ps c, m' p.1 = some p.2) ∧ n' < n ∧ P n' c) →
        ∃ h' tk m₂ news₂ n', s₃ = { s with heap := h', toks := tk } ∧ Fr h₀ L h' m₂ ∧ News h₀ L h' news₂ ∧ n' < n ∧ ∃ c, news₂ = Led c ∧ P n' c ∧ (∀ p ∈ ps c, m₂ p.1 = some p.2) := by
      rintro ⟨c', n', h', tk, m', news', e, F', N', hn, hk', hlt, hP'⟩
      exact ⟨h', tk, m', Led c', n', e, F', (fun p hp => N' p (hn p hp)), hlt, c', rfl, hP', hk'⟩
    cases f with
    | ret v => exact h₃
    | brk => exact h₃
    | next => exact go h₃
    | cont => exact go h₃
  · rename_i hb
    rw [if_neg hb]
    exact h₂
def IntRes (n : Nat) (s : Shared) (x : Value) (s2 : Shared) : Prop := ∃ t tk, x = Value.int (n : Int) t ∧ s2 = { s with toks := tk }
theorem int_fix {M : Model} {A : Around} {e : Sem Value} {E : Value → Shared → Prop} {Q : Value → Shared → Prop} {s : Shared} {n : Nat} (h1 : wpAny M A e (IntRes n s) E s) (h2 : ∀ t tk, Q (.int n t) { s with toks := tk }) : wpAny M A e Q E s :=
  wpAny_mono h1 (fun x s2 ⟨t, tk, e1, e2⟩ => by subst e1 e2; exact h2 t tk) fun _ _ e => e
theorem tail_ne {own : List (Addr × Obj)} {b x : Addr} (h : ∀ p ∈ own, @LT.lt Nat _ b p.1) (hx : @LE.le Nat _ x b) : ∀ p ∈ own, p.1 ≠ x := fun p hp e => by
  have := h p hp
  rw [e] at this
  exact Nat.lt_irrefl _ (Nat.lt_of_lt_of_le this hx)
theorem tail_gt {own : List (Addr × Obj)} {x : Addr} (h : ∀ p ∈ own, @LT.lt Nat _ p.1 x) : ∀ p ∈ own, p.1 ≠ x := fun p hp e => by
  have := h p hp
  rw [e] at this
  exact Nat.lt_irrefl _ this
end
end
section
namespace FY
open Builtin
set_option maxRecDepth 100000
theorem slot_isdigit : Slot "bytes" "isdigit" "bytes.isdigit" :=
  .of (owner := "bytes") (n := "isdigit") (by rw [typeLookup_type, builtinLookup_eq_fast]; kernel_rfl) (by decide +kernel) (by decide +kernel) (by decide +kernel)
    (by first | exact .inl (by decide +kernel) | exact .inr (by decide +kernel)) (by rw [isSubtype_type]; kernel_rfl)
theorem type_isdigit : typeOf (.builtin "bytes.isdigit") = pure (.type "method_descriptor") := by show builtinType _ = _; rw [builtinType_eq_fast]; kernel_rfl
theorem entry_isdigit : entryFor table "bytes.isdigit" = some Builtin.«bytes.isdigit» := entryFor_of_tree (by kernel_rfl)
theorem args_isdigit (a : Value) : argsOk "bytes.isdigit" ⟨[a], []⟩ := by unfold argsOk; kernel_rfl
theorem slot_find : Slot "bytes" "find" "bytes.find" :=
  .of (owner := "bytes") (n := "find") (by rw [typeLookup_type, builtinLookup_eq_fast]; kernel_rfl) (by decide +kernel) (by decide +kernel) (by decide +kernel)
    (by first | exact .inl (by decide +kernel) | exact .inr (by decide +kernel)) (by rw [isSubtype_type]; kernel_rfl)
theorem type_find : typeOf (.builtin "bytes.find") = pure (.type "method_descriptor") := by show builtinType _ = _; rw [builtinType_eq_fast]; kernel_rfl
theorem entry_find : entryFor table "bytes.find" = some Builtin.«bytes.find» := entryFor_of_tree (by kernel_rfl)
theorem args_find (a b : Value) : argsOk "bytes.find" ⟨[a, b], []⟩ := by unfold argsOk; kernel_rfl
theorem args_decode2 (a b : Value) : argsOk "bytes.decode" ⟨[a, b], []⟩ := by unfold argsOk; kernel_rfl
section
variable {prog : Program} {w : World} {A : Around} {E : Value → Shared → Prop} {s : Shared} {b c : Array UInt8} {t u : Tok}
theorem gives_isdigit : Gives («bytes.isdigit» ⟨[.bytes b t], []⟩) (.val (.bool (Bytes.allOf Bytes.isDigit b.toList))) := .of_eq rfl
theorem isdigit {Q : Value → Shared → Prop} (h : Q (.bool (Bytes.allOf Bytes.isDigit b.toList)) s) : wpAny (model prog w) A (call (.builtin "bytes.isdigit") [.bytes b t]) Q E s :=
  call_gives slot_isdigit (typeIs_bytes s b t) entry_isdigit (args_isdigit _) gives_isdigit h
theorem m_isdigit {M : Model} {pl : Sem Bool} {Q : Value × List Value → Shared → Prop} (h : Q (.builtin "bytes.isdigit", [.bytes b t]) s) : wpAny M A (getMethod (.bytes b t) "isdigit" pl) Q E s := by
  with_reducible exact KBd.method_of (.bytes b t) (typeIs_bytes _ _ _) slot_isdigit type_isdigit KBd.noRef h
theorem m_find {M : Model} {pl : Sem Bool} {Q : Value × List Value → Shared → Prop} (h : Q (.builtin "bytes.find", [.bytes b t]) s) : wpAny M A (getMethod (.bytes b t) "find" pl) Q E s := by
  with_reducible exact KBd.method_of (.bytes b t) (typeIs_bytes _ _ _) slot_find type_find KBd.noRef h
theorem idx_eq {i : Int} : asIndex (.int i u) = pure i := by kernel_rfl
theorem gives_contains {i : Int} (h0 : 0 ≤ i) (h1 : i < 256) : Gives («bytes.__contains__» ⟨[.bytes b t, .int i u], []⟩) (.val (.bool (b.contains i.toNat.toUInt8))) := by
  refine .of_wp fun M A E s Q hq => ?_
  show wpAny M A (Bytes.containsIn "bytes.__contains__" (.bytes b t) (.int i u) >>= fun r => _) _ E s
  refine wpAny_bind ?_
  unfold Bytes.containsIn
  rw [idx_eq, KBy.buffer_eq]
  refine wpAny_bind (wpAny_attempt (wpAny_pure (wpAny_bind (wpAny_pure ?_))))
  dsimp only
  rw [if_neg (by simp only [ge_iff_le, Bool.or_eq_true, decide_eq_true_eq]; omega)]
  exact wpAny_pure (wpAny_pure ⟨_, rfl, hq⟩)
theorem inB {i : Int} {Q : Value → Shared → Prop} (h0 : 0 ≤ i) (h1 : i < 256) (h : Q (.bool (b.contains i.toNat.toUInt8)) s) : wpAny (model prog w) A (compareOp .In (.int i u) (.bytes b t)) Q E s :=
  in_gives (typeIs_bytes s b t) FB.slot_bytes_contains FB.entry_bytes_contains (FB.args_bytes_contains_2 _ _) (gives_contains h0 h1) h
theorem notInB {i : Int} {Q : Value → Shared → Prop} (h0 : 0 ≤ i) (h1 : i < 256) (h : Q (.bool (!(b.contains i.toNat.toUInt8))) s) : wpAny (model prog w) A (compareOp .NotIn (.int i u) (.bytes b t)) Q E s :=
  notIn_gives (typeIs_bytes s b t) FB.slot_bytes_contains FB.entry_bytes_contains (FB.args_bytes_contains_2 _ _) (gives_contains h0 h1) h
def findI (b c : Array UInt8) : Int := match Bytes.find? b c 0 b.size with
  | some i => i
  | none => -1
theorem gives_find (hc : c.size ≤ b.size) : Gives («bytes.find» ⟨[.bytes b t, .bytes c u], []⟩) (.int (findI b c)) := by
  refine .of_wp fun M A E s Q hq => ?_
  show wpAny M A (Bytes.searchArgs _ "find" ⟨[.bytes b t, .bytes c u], []⟩ >>= fun r => _) _ E s
  refine wpAny_bind ?_
  unfold Bytes.searchArgs
  refine wpAny_bind (wpAny_of_eq (a := (.bytes b t, [.bytes c u])) (by kernel_rfl) ?_)
  refine wpAny_bind (wpAny_of_eq (a := none) (by kernel_rfl) ?_)
  refine wpAny_bind (wpAny_of_eq (a := none) (by kernel_rfl) ?_)
  refine wpAny_bind ?_
  show wpAny M A (Bytes.buffer? _ (.bytes c u)) _ E s
  rw [KBy.buffer_eq]
  refine wpAny_pure ?_
  refine wpAny_bind (wpAny_pure ?_)
  refine wpAny_bind (wpAny_of_eq (a := b) (by kernel_rfl) ?_)
  have e : Bytes.window b.size none none = (0, (b.size : Int)) := by
    unfold Bytes.window
    simp only [Option.getD_none]
    rw [if_neg (by omega), if_neg (by omega), Int.min_self]
  rw [e]
  refine wpAny_pure ?_
  dsimp only
  rw [if_neg (by omega)]
  simp only [Option.bind_some, Bool.false_eq_true, if_false, Int.toNat_natCast, Int.toNat_zero]
  unfold findI at hq
  cases hf : Bytes.find? b c 0 b.size with
  | some i => rw [hf] at hq; exact wpAny_bind (wpAny_mkInt (wpAny_pure ⟨_, rfl, hq⟩))
  | none => rw [hf] at hq; exact wpAny_bind (wpAny_rule (wpAny_bind (wpAny_mkInt (wpAny_pure ⟨_, rfl, hq⟩))))
theorem find {Q : Value → Shared → Prop} (hc : c.size ≤ b.size) (h : Q (.int (findI b c) s.toks) { s with toks := s.toks + 1 }) : wpAny (model prog w) A (call (.builtin "bytes.find") [.bytes b t, .bytes c u]) Q E s :=
  call_gives slot_find (typeIs_bytes s b t) entry_find (args_find _ _) (gives_find hc) h
theorem road_ascii {id : String} : _codecs.decodeRoad id b (PySem.Str.ofString "ascii") none [] = (_codecs.runDecoder id _codecs.asciiDecoder none true b 0 [] >>= fun r => mkStr ⟨r.1⟩) := by kernel_rfl
theorem meets_textA {t1 t2 : Tok} {d x : PySem.Str} {n : Nat} (hd : ∀ id, _codecs.runDecoder id _codecs.asciiDecoder none true b 0 [] = pure (x.cps, n)) :
    Meets («_codecs.decode.text» ⟨[.bytes b t, .str (PySem.Str.ofString "ascii") t1, .none, .str d t2], []⟩) (fun _ R s => x.length ≤ sizeLine ∧ R (.ok (.ret (.str x s.toks))) { s with toks := s.toks + 1 }) := by
  refine .of_wp fun prog w A R s hS => ?_
  obtain ⟨hsz, h⟩ := hS
  show wpAny _ _ (Bytes.bytesLike _ (.bytes b t) >>= fun r => _) _ _ s
  refine wpAny_bind (wpAny_of_eq KBd.like_eq ?_)
  refine wpAny_bind (wpAny_of_eq KBd.held_eq ?_)
  show wpAny _ _ (_codecs.decodeRoad _ b (PySem.Str.ofString "ascii") none [] >>= fun v => _) _ _ s
  rw [road_ascii, hd]
  refine wpAny_bind (wpAny_bind (wpAny_pure ?_))
  exact wpAny_mkStr (wpAny_pure ⟨_, rfl, h⟩) hsz
theorem entryA {b0 : UInt8} {cs : List UInt8} {te : Tok} : «bytes.decode» ⟨[.bytes (b0 :: cs).toArray t, .str (PySem.Str.ofString "ascii") te], []⟩ = (mkStr (PySem.Str.ofString "utf-8") >>= fun _ => mkStr (PySem.Str.ofString "ascii") >>= fun e => mkStr (PySem.Str.ofString "bytes.decode") >>= fun d =>
    call (.builtin "_codecs.decode.text") [.bytes (b0 :: cs).toArray t, e, .none, d] >>= fun v => ret v) := by kernel_rfl
theorem meets_decodeA {b0 : UInt8} {cs : List UInt8} {te : Tok} {x : PySem.Str} {n : Nat} (hd : ∀ id, _codecs.runDecoder id _codecs.asciiDecoder none true (b0 :: cs).toArray 0 [] = pure (x.cps, n)) :
    Meets («bytes.decode» ⟨[.bytes (b0 :: cs).toArray t, .str (PySem.Str.ofString "ascii") te], []⟩) (fun _ R s => x.length ≤ sizeLine ∧ ∀ t' k, R (.ok (.ret (.str x t'))) { s with toks := k }) := by
  refine .of_wp fun prog w A R s hS => ?_
  obtain ⟨hsz, h⟩ := hS
  rw [entryA]
  refine wpAny_bind (wpAny_mkStr ?_ (by decide))
  refine wpAny_bind (wpAny_mkStr ?_ (by decide))
  refine wpAny_bind (wpAny_mkStr ?_ (by decide))
  exact wpAny_bind (call_function_meets KBd.kind_text KBd.plain_text KBd.entry_text (KBd.args_text _ _ _ _) (meets_textA hd) ⟨hsz, wpAny_pure ⟨_, rfl, h _ _⟩⟩)
theorem decodeA {b0 : UInt8} {cs : List UInt8} {te : Tok} {x : PySem.Str} {n : Nat} {Q : Value → Shared → Prop} (hd : ∀ id, _codecs.runDecoder id _codecs.asciiDecoder none true (b0 :: cs).toArray 0 [] = pure (x.cps, n)) (hsz : x.length ≤ 16777216) (h : ∀ t' k, Q (.str x t') { s with toks := k }) :
    wpAny (model prog w) A (call (.builtin "bytes.decode") [.bytes (b0 :: cs).toArray t, .str (PySem.Str.ofString "ascii") te]) Q E s :=
  call_meets FB.slot_bytes_decode (typeIs_bytes _ _ _) FB.entry_bytes_decode (args_decode2 _ _) (meets_decodeA hd) ⟨by rw [sizeLine_eq]; exact hsz, h⟩
theorem run1 {id : String} {c0 : UInt8} (h0 : c0.toNat < 128) : _codecs.runDecoder id _codecs.asciiDecoder none true #[c0] 0 [] = pure (#[c0.toNat], 1) := by
  unfold _codecs.runDecoder _codecs.asciiDecoder
  simp [h0, _codecs.Found.char]
theorem run2 {id : String} {c0 c1 : UInt8} (h0 : c0.toNat < 128) (h1 : c1.toNat < 128) : _codecs.runDecoder id _codecs.asciiDecoder none true #[c0, c1] 0 [] = pure (#[c0.toNat, c1.toNat], 2) := by
  unfold _codecs.runDecoder _codecs.asciiDecoder
  simp [h0, h1, _codecs.Found.char, show List.range' 0 2 = [0, 1] from rfl, PySem.sizeLine_eq]
theorem run3 {id : String} {c0 c1 c2 : UInt8} (h0 : c0.toNat < 128) (h1 : c1.toNat < 128) (h2 : c2.toNat < 128) : _codecs.runDecoder id _codecs.asciiDecoder none true #[c0, c1, c2] 0 [] = pure (#[c0.toNat, c1.toNat, c2.toNat], 3) := by
  unfold _codecs.runDecoder _codecs.asciiDecoder
  simp [h0, h1, h2, _codecs.Found.char, show List.range' 0 3 = [0, 1, 2] from rfl, PySem.sizeLine_eq]
end
end FY
end
section
/-- a code's table of codes -/
abbrev tabO (ps : Array Value) : Obj := { cls := .none, data := .fields ps }
/-- it holds nothing, or the code of the one expression at pos -/
def PsOk (pos : Pos) (ps : Array Value) : Prop := ps = #[] ∨ ∃ c' : Addr, ps = #[rawInt pos.line, rawInt pos.col, .ref c']
section
variable {prog : Program} {w : World} {A : Around} {E : Value → Shared → Prop} {s : Shared} {h₀ : Heap} {L P c : Addr} {m mg mb : Str → Option Value} {p : Program} {loose : List Str} {K : Frag} {bm : Addr} {ob : Obj} {rest : List (Addr × Obj)}
def genF (b : Array UInt8) (q : Int → Bool) (j : Nat) (y : Value) : Prop := ∃ i, (passing (fun _ => true) b.size 0)[j]? = some i ∧ ∃ c, b[i]? = some c ∧ y = .bool (q (c.toNat : Int))
def GenB (prog : Program) (w : World) (A : Around) (h₀ : Heap) (L P : Addr) (m : Str → Option Value) (rest : List (Addr × Obj)) (pos : Pos) (q : Int → Bool) (Q : Value → Shared → Prop) (xv : Value) (s₁ : Shared) : Prop :=
  ∃ b tb ps, xv = .bytes b tb ∧ Fr h₀ L s₁.heap m ∧ News h₀ L s₁.heap ((P, tabO ps) :: rest) ∧ AllBare s₁.gens ∧ PsOk pos ps ∧
    ∀ a s₅ ps', PsOk pos ps' → s₅.os = s₁.os → Fr h₀ L s₅.heap m → News h₀ L s₅.heap ((P, tabO ps') :: rest) → AllBare s₅.gens → (∀ p ∈ (P, tabO ps') :: rest, p.1 ≤ s₁.heap.objs.size - 1) → L ≤ s₁.heap.objs.size - 1 →
      (∀ b o, b ≠ P → s₁.heap.get? b = some o → b ≤ s₁.heap.objs.size - 1 ∧ s₅.heap.get? b = some o) →
      Gen prog w A (s₁.heap.objs.size - 1) a (passing (fun _ => true) b.size 0).length (genF b q) s₅ → Q (.ref a) s₅
theorem gen_bytes {env : Env} {elt iter : Expr} {x : Str} {px : Pos} {scope : Scope} {pos : Pos} {Q : Value → Shared → Prop} (q : Int → Bool) (_F : Fr h₀ L s.heap m)
    (X₀ : K.In h₀) (T : TopRead p loose mg mb h₀) (BM : BMod h₀ mainGlobals mg bm ob) (hcode : env.code = .ref c) (hglob : env.globals = mainGlobals)
    (hIs : ∀ (h : Heap) ps, K.In h → h.get? P = some (tabO ps) → TriplesOk ps.toList → h.IsCode c P ps ∧ h.TableAt c P ps) (hrP : ∀ p ∈ rest, p.1 ≠ P)
    (hh : A.handled = none) (hco : scope.isCoroutine = false) (hclos : closureFor scope env = pure []) (hcell : ∀ y ∈ scope.names, y.2 ≠ .cell) (h0 : scope.names.lookup (".0" : Str) = some NameKind.local)
    (hx : scope.names.lookup x = some .local) (hkind : scope.kind = .function) (hroom : A.depth < recursionLimit)
    (hq : ∀ (C c' : Addr) (A' : Around) (E' : Value → Shared → Prop) (v : Int) (u : Tok) (t : Shared) (m₂ : Str → Option Value), 0 ≤ v → v < 256 → t.heap.Ns C m₂ → m₂ x = some (.int v u) → K.In t.heap → t.heap.Ns mainGlobals mg →
      wpAny (model prog w) A' (eval elt (genEnv scope [] C (.ref c') builtinsNs env)) (fun y s₃ => y = .bool (q v) ∧ Keeps t s₃) E' t)
    (h : wpAny (model prog w) A (eval iter env) (GenB prog w A h₀ L P m rest pos q Q) E s)
    (hs : ∀ x, genFold iter env x = pure x) :
    wpAny (model prog w) A (eval (.GeneratorExp elt [⟨.Name x px, iter, [], 0⟩] scope pos) env) Q E s := by
  refine wpAny_GeneratorExp_walksQD hh hco hclos hcell h0 hx hkind hroom (wpAny_mono h (fun xv s₁ h₁ => ?_) fun _ _ e => e) hs
  obtain ⟨b, tb, ps, rfl, F, N, G, hps, hQ⟩ := h₁
  refine KBw.pyIter_bytes ?_
  have hlim : s₁.heap.NoLimit := T.nolimit.keeps F.keep
  have hpos : 0 < s₁.heap.objs.size := let ⟨_, hn, _⟩ := hlim; Nat.lt_of_le_of_lt (Nat.zero_le _) hn.lt
  have hcl : cStatics < s₁.heap.objs.size := let ⟨_, hn, _⟩ := hlim; hn.lt
  have hNP := N (P, tabO ps) List.mem_cons_self
  have hLlt : L < s₁.heap.objs.size := F.ns.lt
  have up : ∀ b' o, s₁.heap.get? b' = some o → (s₁.heap.push { cls := .type "bytes_iterator", data := .fields #[.bytes b tb, .int 0 0] }).get? b' = some o := fun b' o e => Heap.get?_push_of_some _ e
  have cont : ∀ (c' : Addr) (h₃ : Heap) (tk₃ : Nat) (ps' : Array Value), PsOk pos ps' → (∀ b' o, b' ≠ P → (s₁.heap.push { cls := .type "bytes_iterator", data := .fields #[.bytes b tb, .int 0 0] }).get? b' = some o → h₃.get? b' = some o) →
      h₃.get? P = some (tabO ps') → s₁.heap.objs.size + 1 ≤ h₃.objs.size →
      wpAny (model prog w) A (builtinsFor env.globals env.builtins) (fun bi s₄ =>
        ∃ I fp wr n₀ P St₀ pz F, Value.ref s₁.heap.objs.size = .ref I ∧ (∀ A' : Around, A'.handled = none → Walks prog w A' I fp wr n₀ P St₀) ∧ St₀ 0 s₄.heap ∧ (∀ b ∈ fp, b < s₄.heap.objs.size) ∧ s₄.heap.NoLimit ∧ cStatics ∉ wr ∧
          (∀ href : Heap, (∀ b o, s₄.heap.get? b = some o → href.get? b = some o) →
            QuietGenD prog w (genEnv scope [] s₄.heap.objs.size (.ref c') bi env) x [] elt (List.range s₄.heap.objs.size) wr P pz F href (A.depth + 1) (A.units + 8)) ∧
          (∀ a h₅ tk gs, gs.bare = true → s₄.heap.objs.size < a → h₅.objs.size = a + 1 → (∀ b o, s₄.heap.get? b = some o → h₅.get? b = some o) →
            WalksS prog w A.in4 a (a :: s₄.heap.objs.size :: List.range s₄.heap.objs.size) (s₄.heap.objs.size :: wr) (GenOnlyQ s₄.gens.size) (passing pz n₀ 0).length
              (fun j y => ∃ i, (passing pz n₀ 0)[j]? = some i ∧ F i y) (GenAt prog w A.in4 a s₄.gens.size s₄.heap.objs.size (List.range s₄.heap.objs.size) wr pz n₀ F) →
            GenAt prog w A.in4 a s₄.gens.size s₄.heap.objs.size (List.range s₄.heap.objs.size) wr pz n₀ F 0 { s₄ with gens := s₄.gens.push gs, toks := tk, heap := h₅ } →
            Q (.ref a) { s₄ with gens := s₄.gens.push gs, toks := tk, heap := h₅ })) E { s₁ with heap := h₃, toks := tk₃ } := by
    intro c' h₃ tk₃ ps' hps' hx₃ hP₃ hsz₃
    have F₃ : Fr h₀ L h₃ m := ⟨F.ns.at' fun o e => hx₃ L o (Ne.symm hNP.2.1) (up _ _ e), fun b' o e => hx₃ b' o (fun z => by rw [z, hNP.2.2] at e; cases e) (up _ _ (F.keep b' o e)), F.above⟩
    have N₃ : News h₀ L h₃ ((P, tabO ps') :: rest) := fun p' hp => by
      rcases List.mem_cons.mp hp with rfl | hp
      · exact ⟨hP₃, hNP.2.1, hNP.2.2⟩
      · have z := N p' (List.mem_cons_of_mem _ hp)
        exact ⟨hx₃ _ _ (hrP p' hp) (up _ _ z.1), z.2⟩
    have M₃ : BMod h₃ mainGlobals mg bm ob := BM.keeps F₃.keep
    have hI : ∃ o, h₃.get? s₁.heap.objs.size = some o ∧ o.cls = .type "bytes_iterator" ∧ o.data = .fields #[.bytes b tb, .int (0 : Nat) 0] :=
      ⟨_, hx₃ _ _ (fun z => by have := Heap.lt_size hNP.1; rw [← z] at this; exact Nat.lt_irrefl _ this) (Heap.get?_push_size _ rfl), rfl, rfl⟩
    rw [hglob]
    refine wpAny_builtinsFor M₃.ns M₃.name M₃.ne M₃.obj M₃.cls M₃.dict M₃.data ?_
    refine ⟨s₁.heap.objs.size, [s₁.heap.objs.size], [s₁.heap.objs.size], b.size, _, _, fun _ => true, fun i y => ∃ c, b[i]? = some c ∧ y = .bool (q (c.toNat : Int)), rfl, (fun A' hA => KBw.walks hA _ b tb), hI, ?_, T.nolimit.keeps F₃.keep, ?_, ?_, ?_⟩
    · intro b' hb'
      rw [List.mem_singleton.mp hb']
      exact hsz₃
    · intro hm
      exact absurd hcl ((List.mem_singleton.mp hm) ▸ Nat.lt_irrefl _)
    · intro href hhref
      refine ⟨fun A' E' i v t m₂ hA hD hU hP hn hm hkp => wpAny_pure ⟨rfl, _, _, rfl, fun _ _ e => e⟩, fun A' E' i v t m₂ hA hD hU hP hp hn hm hkp => ?_⟩
      obtain ⟨cc, u, hc, rfl⟩ := hP
      have inB : ∀ b' o, h₀.get? b' = some o → t.heap.get? b' = some o := fun b' o e =>
        hkp b' (List.mem_range.mpr (Heap.lt_size (F₃.keep b' o e))) (fun hm' => Nat.lt_irrefl _ (Nat.lt_trans (Nat.lt_of_lt_of_le (Heap.lt_size e) F.above) ((List.mem_singleton.mp hm') ▸ hLlt))) o (hhref b' o (F₃.keep b' o e))
      have h256 : (cc.toNat : Int) < 256 := by have := cc.toNat_lt; omega
      refine wpAny_mono (hq _ c' A' E' _ u t m₂ (by omega) h256 hn hm (X₀.keeps inB) (T.g.keeps inB)) (fun y s₃ hy => ⟨⟨cc, hc, hy.1⟩, hy.2⟩) fun _ _ e => e
    · intro a h₅ tk gs hgb hag hsz₅ hk₅ W hat
      refine hQ a _ ps' hps' rfl (F₃.keeps hk₅) (fun p' hp => ⟨hk₅ _ _ (N₃ p' hp).1, (N₃ p' hp).2⟩) (G.push hgb) ?_ (Nat.le_pred_of_lt hLlt) ?_ ⟨_, _, _, _, W, hat, (fun i s' st => st.1.typeIs), List.mem_cons_self, ?_, ?_⟩
      · intro p' hp
        rcases List.mem_cons.mp hp with rfl | hp
        · exact Nat.le_pred_of_lt (Heap.lt_size hNP.1)
        · exact Nat.le_pred_of_lt (Heap.lt_size (N p' (List.mem_cons_of_mem _ hp)).1)
      · intro b' o hb e
        exact ⟨Nat.le_pred_of_lt (Heap.lt_size e), hk₅ _ _ (hx₃ _ _ hb (up _ _ e))⟩
      · intro b' hb
        show b' < h₅.objs.size
        rw [hsz₅]
        rcases List.mem_cons.mp hb with rfl | hb
        · exact Nat.lt_succ_self _
        · rcases List.mem_cons.mp hb with rfl | hb
          · exact Nat.lt_succ_of_lt hag
          · exact Nat.lt_succ_of_lt (Nat.lt_trans (List.mem_range.mp hb) hag)
      · intro b' hb
        rcases List.mem_cons.mp hb with rfl | hb
        · have : s₁.heap.objs.size + 1 ≤ h₃.objs.size := hsz₃
          show s₁.heap.objs.size - 1 < h₃.objs.size
          omega
        · rw [List.mem_singleton.mp hb]
          exact Nat.sub_lt hpos Nat.one_pos
  refine ⟨hlim.push _, ?_⟩
  have hTri : TriplesOk ps.toList := by
    rcases hps with rfl | ⟨c', rfl⟩
    · exact trivial
    · exact trivial
  obtain ⟨isC, isT⟩ := hIs s₁.heap ps (X₀.keeps F.keep) hNP.1 hTri
  have isC' := isC.push { cls := .type "bytes_iterator", data := .fields #[.bytes b tb, .int 0 0] }
  have isT' := isT.push { cls := .type "bytes_iterator", data := .fields #[.bytes b tb, .int 0 0] }
  rcases hps with rfl | ⟨c', rfl⟩
  · refine wpAny_genexprCodeX hcode isC' isT' rfl fun c' h₃ tk₃ hx₃ hge hlt hcode₃ _ htab₃ _ => ?_
    exact cont c' h₃ tk₃ _ (.inr ⟨c', rfl⟩) hx₃ htab₃.2 (by have := Nat.lt_of_le_of_lt hge hlt; rw [Heap.size_push] at this; exact Nat.le_of_lt this)
  · refine wpAny_genexprCode_hit (c' := .ref c') hcode isC' (by simp [codeAmong, rawInt]) ?_
    exact cont c' _ _ _ (.inr ⟨c', rfl⟩) (fun _ _ _ e => e) (up _ _ hNP.1) (by rw [Heap.size_push]; exact Nat.le_refl _)
end
end
section

local macro_rules | `(tactic| walk_at "getMethod bytes") => `(tactic| (k_here; first | (with_reducible refine FY.m_isdigit ?_) | (with_reducible refine FY.m_find ?_) | (with_reducible refine KBd.method ?_)))
local macro_rules | `(tactic| walk_at "call builtin:bytes.isdigit") => `(tactic| (k_here; refine FY.isdigit ?_))
local macro_rules | `(tactic| walk_at "call builtin:bytes.find") => `(tactic| (k_here; refine FY.find (by k_extra "my find") ?_))
local macro_rules | `(tactic| walk_at "compareOp In int bytes") => `(tactic| (k_here; refine FY.inB (by omega) (by omega) ?_))
local macro_rules | `(tactic| walk_at "compareOp NotIn int bytes") => `(tactic| (k_here; refine FY.notInB (by omega) (by omega) ?_))

theorem passing_all (n : Nat) : passing (fun _ => true) n 0 = List.range n := by unfold passing; rw [List.drop_zero, List.filter_eq_self.mpr (fun _ _ => rfl)]
theorem all_range_get (b : Array UInt8) (q : Int → Bool) : ((List.range b.size).all fun j => match b[j]? with | some c => q (c.toNat : Int) | none => true) = b.toList.all fun c => q (c.toNat : Int) := by
  rw [Bool.eq_iff_iff, List.all_eq_true, List.all_eq_true]
  constructor
  · intro h c hc
    obtain ⟨i, hi, e⟩ := List.getElem_of_mem hc
    have hi' : i < b.size := by simpa using hi
    have := h i (List.mem_range.mpr hi')
    have e2 : b[i]? = some c := by rw [Array.getElem?_eq_getElem hi']; simpa using e
    rw [e2] at this; exact this
  · intro h j hj
    have hj' := List.mem_range.mp hj
    rw [Array.getElem?_eq_getElem hj']
    exact h _ (by simp)
section
variable {prog : Program} {w : World} {A : Around} {E : Value → Shared → Prop} {s : Shared} {h₀ : Heap} {L : Addr} {m : Str → Option Value} {news : List (Addr × Obj)}
theorem all_bytes {a K : Addr} {b : Array UInt8} {q : Int → Bool} {Q : Value → Shared → Prop} (F : Fr h₀ L s.heap m) (G : AllBare s.gens) (X : Gen prog w A K a (passing (fun _ => true) b.size 0).length (genF b q) s) (hLK : L ≤ K)
    (N : News h₀ L s.heap news) (hN : ∀ p ∈ news, p.1 ≤ K) (hQ : ∀ s', Fr h₀ L s'.heap m → News h₀ L s'.heap news → AllBare s'.gens → s'.os = s.os → (∀ b o, b ≤ K → s.heap.get? b = some o → s'.heap.get? b = some o) → Q (.bool (b.toList.all fun c => q (c.toNat : Int))) s') :
    wpAny (model prog w) A (call (.builtin "all") [.ref a]) Q E s := by
  refine all_rowsK F G X hLK (fun j => match b[j]? with | some c => q (c.toNat : Int) | none => true) (fun j v s Q E hv hQ => ?_) fun s' F' G' hos hk => ?_
  · obtain ⟨i, hi, c, hc, rfl⟩ := hv
    rw [passing_all] at hi
    obtain ⟨hlt, rfl⟩ : j < b.size ∧ i = j := by
      by_cases hj : j < b.size
      · rw [List.getElem?_range hj] at hi; exact ⟨hj, (Option.some.inj hi).symm⟩
      · rw [List.getElem?_eq_none (by rw [List.length_range]; omega)] at hi; cases hi
    simp only [hc] at hQ
    exact wpAny_truthy_bool hQ
  · rw [passing_all, List.length_range, all_range_get]
    exact hQ s' F' (fun p hp => ⟨hk _ _ (hN p hp) (N p hp).1, (N p hp).2⟩) G' hos hk
end
/-- as Spec, of a call that makes a generator: gens may grow by bare ones -/
def SpecG (w : World) (mg mb : Str → Option Value) (d u : Nat) (f : Addr) (vs : List Value) (sel : List (Addr × Obj)) (R : Value → List (Addr × Obj) → Prop) : Prop :=
  ∀ (dp un : Nat) (gd : Option (List Code)) (cn : Str) (cs : Scope) (a : Addr) (ccd : Value) (cl : List (Str × Addr)) (outer : List Env) (A₀ : Around) (base h₀ : Heap) (L : Addr) (m : Str → Option Value) (s : Shared) (Q E : Value → Shared → Prop) (bm : Addr) (ob : Obj),
    Below A₀ base outer h₀ → Fr h₀ L s.heap m → (hd.heap_39 w.params).In h₀ → News h₀ L s.heap sel → TopRead hd.view_39 LOOSE mg mb h₀ → BMod h₀ mainGlobals mg bm ob → cs.kind = .function → dp + d < recursionLimit → un + u < cLine → AllBare s.gens →
    (∀ v sel' s', R v sel' → s'.os = s.os → AllBare s'.gens → Fr h₀ L s'.heap m → News h₀ L s'.heap sel' → (∀ b o, (rest0 s.heap sel).get? b = some o → s'.heap.get? b = some o) → (∀ p ∈ sel', (rest0 s.heap sel).get? p.1 = none) → Q v s') →
    wpAny (model PySem.Challenge.rw_bj0058_01.row.prog w) (ktrTop dp un gd cn cs L a ccd cl outer) (call (.ref f) vs) Q E s
def ALPHA : Array UInt8 := #[48, 49, 50, 51, 52, 53, 54, 55, 56, 57, 65, 66, 67, 68, 69, 70, 71, 72, 73, 74, 75, 76, 77, 78, 79, 80, 81, 82, 83, 84, 85, 86, 87, 88, 89, 90, 32, 36, 37, 42, 43, 45, 46, 47, 58]
/-- the narrowest mode -/
def optM (o : Array UInt8) : Nat := if Builtin.Bytes.allOf Builtin.Bytes.isDigit o.toList = true then 1 else if (o.toList.all fun c => ALPHA.contains c) = true then 2 else 4
abbrev gpos : Pos := ⟨33, 11, 33, 47⟩
theorem spec_retG {sel sel' news' : List (Addr × Obj)} {R : Value → List (Addr × Obj) → Prop} {h₀ : Heap} {L L' : Addr} {m m' : Str → Option Value} {s s' : Shared} {Q : Value → Shared → Prop} {v : Value}
    (hret : ∀ v sel' s', R v sel' → s'.os = s.os → AllBare s'.gens → Fr h₀ L s'.heap m → News h₀ L s'.heap sel' → (∀ b o, (rest0 s.heap sel).get? b = some o → s'.heap.get? b = some o) → (∀ p ∈ sel', (rest0 s.heap sel).get? p.1 = none) → Q v s')
    (kF : Fr h₀ L s'.heap m) (kN : News h₀ L s'.heap news') (F9 : Fr (rest0 s.heap sel) L' s'.heap m') (N9 : News (rest0 s.heap sel) L' s'.heap news') (hos : s'.os = s.os) (hG : AllBare s'.gens) (hs : ∀ p ∈ sel', p ∈ news') (hR : R v sel') : Q v s' :=
  hret v sel' s' hR hos hG kF (fun p hp => kN p (hs p hp)) F9.keep fun p hp => (N9 p (hs p hp)).2.2
theorem alpha_all (o : Array UInt8) : (o.toList.all fun c => (fun v : Int => ALPHA.contains v.toNat.toUInt8) (c.toNat : Int)) = o.toList.all fun c => ALPHA.contains c := by
  congr 1; funext c; simp
theorem code52 {w : World} (h : Heap) (ps : Array Value) (X : (hd.heap_39 w.params).In h) (hP : h.get? 48 = some (tabO ps)) (hT : TriplesOk ps.toList) : h.IsCode 52 48 ps ∧ h.TableAt 52 48 ps := by
  refine ⟨⟨_, _, _, _, _, _, _, _, _, _, X _ _ (by k_is), rfl, rfl, rfl, rfl, rfl, rfl, hP, rfl, hT, by decide⟩, ⟨⟨_, _, X _ _ (by k_is), rfl, rfl, rfl⟩, hP⟩⟩
set_option maxRecDepth 100000 in
theorem alpha_mg {w : World} {mg : Str → Option Value} {h : Heap} (X : (hd.heap_39 w.params).In h) (G : h.Ns mainGlobals mg) : ∃ t, mg "ALPHA_NUM" = some (.bytes ALPHA t) := by
  have hv := mg_of (n := "ALPHA_NUM") X G (by k_is)
  exact ⟨_, hv⟩
set_option maxRecDepth 100000 in
set_option maxHeartbeats 8000000 in
theorem opt_ok {w : World} {mg mb : Str → Option Value} {o : Array UInt8} {to : Tok} {ps : Array Value} (h1 : o.size ≤ 9) (hps : PsOk gpos ps) :
    SpecG w mg mb 20 200 53 [.bytes o to] [(48, tabO ps)] fun v sel => ∃ t ps', v = .int (optM o) t ∧ sel = [(48, tabO ps')] ∧ PsOk gpos ps' := by
  unfold SpecG
  intro dp un gd cn cs a ccd cl outer A₀ base h₀ L m s Q E bm ob B F X N T BM hk hd hu hG hret
  (refine wpAny_call ?_; k_dflt (refine' enter_def ?k1 ?k2 ?k3 ?k4 ?k5 ?kA ?kF ?kK ?k6 ?k7 ?k8 ?k9 ?kB ?_ ?c2 ?c3 ?c4 ?c5; (case kA => exact rfl); (case kF => exact rfl); (case kK => assumption); (case k1 => k_asm); (case k2 => k_asm); (case k3 => k_asm); (case k4 => k_asm); (case k5 => k_asm); (case k6 => k_is); (case k7 => k_is); (case k8 => ktr_room); (case k9 => exact BindsTo.of_eq rfl); (case c5 => decide); (case kB => exact locs rfl); (case c2 => exact rfl); (case c3 => exact rfl); (case c4 => exact rfl); k_whole; intro g' L' h' hg' FG' F' N' B' X' T' st'; (try dsimp only); (try k_fold)))
  have BM' := BM.keeps st'
  obtain ⟨ta, hta⟩ := alpha_mg X' T'.g
  k_with_none
  k_with "my eval GeneratorExp" => (refine hold ?_)
  k_steps
  · ((rename Fr _ _ _ _ => kF9); (rename News _ _ _ _ => kN9); (rename (_ : Heap) = rest0 _ _ => hg9); subst hg9; (rename Fr (rest0 _ _) _ _ _ => F9); (rename News (rest0 _ _) _ _ _ => N9); refine spec_retG (by assumption) kF9 kN9 F9 N9 (by first | rfl | assumption) (by first | assumption | exact hG) (fun _ h => h) ?_)
    exact ⟨_, _, by unfold optM; rw [if_pos (by assumption)]; rfl, rfl, hps⟩
  refine ⟨?_⟩
  (rename Fr _ _ _ _ => F1; rename News _ _ _ _ => N1)
  refine gen_bytes (P := 48) (c := 52) (rest := []) (K := Mine.hd.heap_39 w.params) (fun v => ALPHA.contains v.toNat.toUInt8) F1 X' T' BM' rfl rfl code52 (List.forall_mem_nil _) rfl rfl rfl (by decide) (by rfl) (by rfl) (by rfl) (by ktr_room) ?hq ?h (fun _ => rfl)
  case hq =>
    intro C c' A' E' v u t m₂ hv0 hv1 hn hm hK hgl
    refine wpAny_Compare1 (wpAny_Name (wpAny_loadName_local rfl rfl hn hm ?_))
    refine Name_function_global rfl rfl (loadGlobal_global hgl hta ?_)
    exact FY.inB hv0 hv1 ⟨rfl, _, _, rfl, fun _ _ e => e⟩
  k_steps
  refine ⟨o, to, ps, rfl, F1, N1, hG, hps, ?_⟩
  intro a₅ s₅ ps' hps' hos5 F5 N5 G5 hle hLle hkp X5
  clear F1 N1
  k_fold
  k_with "my call builtin:all" => (refine hold ?_)
  k_steps
  refine ⟨?_⟩
  refine all_bytes F5 G5 X5 hLle N5 hle ?_
  intro s₆ F6 N6 G6 hos6 hk6
  have hos7 : s₆.os = s.os := hos6.trans hos5
  clear F5 N5
  k_steps
  all_goals (
    ((rename Fr _ _ _ _ => kF9); (rename News _ _ _ _ => kN9); (rename (_ : Heap) = rest0 _ _ => hg9); subst hg9; (rename Fr (rest0 _ _) _ _ _ => F9); (rename News (rest0 _ _) _ _ _ => N9); refine spec_retG (by assumption) kF9 kN9 F9 N9 (by first | rfl | assumption) (by first | assumption | exact hG) (fun _ h => h) ?_)
    refine ⟨_, ps', congrArg (fun z => Value.int z _) ?_, rfl, hps'⟩
    unfold optM
    rw [if_neg (by rw [show Builtin.Bytes.allOf Builtin.Bytes.isDigit o.toList = false by assumption]; exact Bool.false_ne_true)]
    rename (o.toList.all _) = _ => hA9
    rw [alpha_all] at hA9
    rw [hA9]
    rfl)
end
section

local macro_rules | `(tactic| walk_at "getMethod bytes") => `(tactic| (k_here; first | (with_reducible refine FY.m_isdigit ?_) | (with_reducible refine FY.m_find ?_) | (with_reducible refine KBd.method ?_)))
local macro_rules | `(tactic| walk_at "call builtin:bytes.isdigit") => `(tactic| (k_here; refine FY.isdigit ?_))
local macro_rules | `(tactic| walk_at "call builtin:bytes.find") => `(tactic| (k_here; refine FY.find (by k_extra "my find") ?_))
local macro_rules | `(tactic| walk_at "compareOp In int bytes") => `(tactic| (k_here; refine FY.inB (by omega) (by omega) ?_))
local macro_rules | `(tactic| walk_at "compareOp NotIn int bytes") => `(tactic| (k_here; refine FY.notInB (by omega) (by omega) ?_))

theorem SpecG.use {w : World} {mg mb : Str → Option Value} {d u : Nat} {f : Addr} {vs : List Value} {sel : List (Addr × Obj)} {R : Value → List (Addr × Obj) → Prop}
    (S : SpecG w mg mb d u f vs sel R) {dp un : Nat} {gd : Option (List Code)} {cn : Str} {cs : Scope} {a : Addr} {ccd : Value} {cl : List (Str × Addr)} {outer : List Env} {A₀ : Around} {base h₀ : Heap} {L : Addr} {m : Str → Option Value} {s : Shared} {Q E : Value → Shared → Prop} {bm : Addr} {ob : Obj}
    {news : List (Addr × Obj)} (rest : List (Addr × Obj)) (B : Below A₀ base outer h₀) (F : Fr h₀ L s.heap m) (X : (hd.heap_39 w.params).In h₀) (N : News h₀ L s.heap news) (T : TopRead hd.view_39 LOOSE mg mb h₀) (BM : BMod h₀ mainGlobals mg bm ob) (hG : AllBare s.gens) (hk : cs.kind = .function)
    (hs : ∀ p ∈ sel, p ∈ news) (hr : ∀ p ∈ rest, p ∈ news) (hne : ∀ p ∈ rest, ∀ q ∈ sel, p.1 ≠ q.1) (h1 : dp + d < recursionLimit) (h2 : un + u < cLine)
    (k : ∀ v sel' s', R v sel' → s'.os = s.os → AllBare s'.gens → Fr h₀ L s'.heap m → News h₀ L s'.heap (sel' ++ rest) → (∀ p ∈ sel', ∀ q ∈ rest, p.1 ≠ q.1) → (∀ b o, (rest0 s.heap sel).get? b = some o → s'.heap.get? b = some o) → Q v s') :
    wpAny (model PySem.Challenge.rw_bj0058_01.row.prog w) (ktrTop dp un gd cn cs L a ccd cl outer) (call (.ref f) vs) Q E s := by
  have hh : ∀ q ∈ rest, (rest0 s.heap sel).get? q.1 = some q.2 := fun q hq => hideAll_get _ (N q (hr q hq)).1 fun z => by
    obtain ⟨p, hp, e⟩ := List.mem_map.mp z
    exact hne q hq p hp e.symm
  refine S _ _ _ _ _ _ _ _ _ _ _ _ _ _ _ _ _ _ _ B F X (fun p hp => N p (hs p hp)) T BM hk h1 h2 hG fun v sel' s' hR hos hG' F' N' hkeep hnew => ?_
  refine k v sel' s' hR hos hG' F' (fun p hp => ?_) (fun p hp q hq e => ?_) hkeep
  · rcases List.mem_append.mp hp with hp | hp
    · exact N' p hp
    · exact ⟨hkeep _ _ (hh p hp), (N p (hr p hp)).2⟩
  · have := hnew p hp
    rw [e, hh q hq] at this
    cases this
abbrev qrD (w : World) (t1 t2 t3 t4 : Tok) (mode : Nat) (o : Array UInt8) : Obj :=
  dictOf [⟨PyData.keyHash w.params "mode", .str "mode" t1, .int mode t3⟩, ⟨PyData.keyHash w.params "data", .str "data" t2, .bytes o t4⟩] 2
section
variable {prog : Program} {w : World} {A : Around} {E : Value → Shared → Prop} {s : Shared} {K : Frag} {C L : Addr} {h₀ : Heap} {m : Str → Option Value} {news : List (Addr × Obj)} {Q : Value → Shared → Prop}
theorem call_clsX {pos : List Value} {kw : List (Str × Value)} {fI : Addr} (F : Fr h₀ L s.heap m) (X₀ : K.In h₀) (N : News h₀ L s.heap news) (hm : makesIn K C = true) (hi : findIn K (.ref C) "__init__" = some (some (.ref fI))) (hf : isFn K (.ref fI) = true)
    (h : ∀ x dx h', Fr h₀ L h' m → News h₀ L h' ((x, instObj C dx) :: (dx, dictOf [] 0) :: news) → (∀ p ∈ news, p.1 < dx) → dx < x → (∀ b o, s.heap.get? b = some o → h'.get? b = some o) → s.heap.get? dx = none → s.heap.get? x = none → @LE.le Nat _ s.heap.objs.size dx →
      codeAny (model prog w) (A.under (.builtin "type.__call__" ⟨.ref C :: pos, kw⟩)) (.call (.ref fI) ⟨.ref x :: pos, kw⟩) (InitBack x fun r s' => match r with | .ok (.ret v) => Q v s' | .ok _ => False | .error e => E e s') { s with heap := h' }) :
    wpAny (model prog w) A (call (.ref C) pos kw) Q E s := by
  obtain ⟨hh, g, d, t, os⟩ := s
  have X := X₀.keeps F.keep
  refine wpAny_call (make_core (makes_of X hm) (looks_findIn X hi) (fun self => bind_fn X self (beq_iff_eq.mp hf)) (.inl rfl) (h _ hh.objs.size _ ((F.push _).push _) ?_ (fun p hp => Heap.lt_size (N p hp).1) (Nat.lt_succ_self _) (fun b o e => Heap.get?_push_of_some _ (Heap.get?_push_of_some _ e)) (Heap.get?_none_of_le (Nat.le_refl _)) (Heap.get?_none_of_le (Nat.le_succ _)) (Nat.le_refl _)))
  have := (N.push F emptyDict).push (F.push _) (instObj C hh.objs.size)
  rwa [Heap.size_push] at this
end
/-- QRData(o, mode=mv): ok: an object of mode k; else ValueError -/
def QrSpec (w : World) (mg mb : Str → Option Value) (o : Array UInt8) (to : Tok) (mv : Value) (k : Nat) (ok : Prop) : Prop :=
  ∀ (dp un : Nat) (gd : Option (List Code)) (cn : Str) (cs : Scope) (a : Addr) (ccd : Value) (cl : List (Str × Addr)) (outer : List Env) (A₀ : Around) (base h₀ : Heap) (L : Addr) (m : Str → Option Value) (s : Shared) (Q E : Value → Shared → Prop) (bm : Addr) (ob : Obj) (ps : Array Value),
    Below A₀ base outer h₀ → Fr h₀ L s.heap m → (hd.heap_39 w.params).In h₀ → News h₀ L s.heap [(48, tabO ps)] → TopRead hd.view_39 LOOSE mg mb h₀ → BMod h₀ mainGlobals mg bm ob → cs.kind = .function → dp + 50 < recursionLimit → un + 500 < cLine → AllBare s.gens → PsOk gpos ps →
    (∀ x dx t1 t2 t3 t4 ps' s', ok → PsOk gpos ps' → s'.os = s.os → AllBare s'.gens → Fr h₀ L s'.heap m → News h₀ L s'.heap [(48, tabO ps'), (x, instObj 92 dx), (dx, qrD w t1 t2 t3 t4 k o)] → (∀ b o, (rest0 s.heap [(48, tabO ps)]).get? b = some o → s'.heap.get? b = some o) → s.heap.get? dx = none → s.heap.get? x = none → @LT.lt Nat _ dx x → @LE.le Nat _ s.heap.objs.size dx → Q (.ref x) s') →
    (∀ e ps' s', ¬ ok → PsOk gpos ps' → s'.os = s.os → AllBare s'.gens → RaisedSN base (rest0 s.heap [(48, tabO ps)]) (envX cn cs L a ccd cl :: outer) e (.type "ValueError") [(48, tabO ps')] s'.heap → (rest0 s.heap [(48, tabO ps)]).UpToSlots s'.heap → E (.ref e) s') →
    wpAny (model PySem.Challenge.rw_bj0058_01.row.prog w) (ktrTop dp un gd cn cs L a ccd cl outer) (call (.ref 92) [.bytes o to] [(Str.ofString "mode", mv)]) Q E s
theorem raisedSN_up {base G G' : Heap} {l : List Env} {e : Addr} {cls : Value} {news news' : List (Addr × Obj)} {h : Heap} (R : RaisedSN base G l e cls news h) (hG : ∀ b o, G'.get? b = some o → G.get? b = some o) (hn : ∀ p ∈ news', p ∈ news) (hn' : ∀ p ∈ news', G'.get? p.1 = none) : RaisedSN base G' l e cls news' h := by
  obtain ⟨B, a0, h1, h2, h3, h4⟩ := R
  exact ⟨B, a0, h1, fun b o e => h2 b o (hG b o e), fun q hq => ⟨(h3 q (hn q hq)).1, hn' q hq, (h3 q (hn q hq)).2.2⟩, h4⟩
theorem upToSlots_le {G G' h : Heap} (U : G.UpToSlots h) (hG : ∀ b o, G'.get? b = some o → G.get? b = some o) : G'.UpToSlots h := (Heap.UpToSlots.of_keeps hG).trans U
theorem rest0_keep {h h' : Heap} {n1 n2 : List (Addr × Obj)} (hk : ∀ b o, h.get? b = some o → h'.get? b = some o) (hn : ∀ p ∈ n2, p.1 ∈ n1.map (·.1) ∨ h.get? p.1 = none) : ∀ b o, (rest0 h n1).get? b = some o → (rest0 h' n2).get? b = some o := by
  intro b o e
  have e1 := of_hideAll _ e
  refine hideAll_get _ (hk b o e1) fun z => ?_
  obtain ⟨p, hp, rfl⟩ := List.mem_map.mp z
  rcases hn p hp with h2 | h2
  · rw [hideAll_none _ h2] at e; cases e
  · rw [h2] at e1; cases e1
theorem units_tc (dp un : Nat) (gd : Option (List Code)) (cn : Str) (cs : Scope) (L a : Addr) (ccd : Value) (cl : List (Str × Addr)) (outer : List Env) (args : Args) : ((ktrTop dp un gd cn cs L a ccd cl outer).under (.builtin "type.__call__" args)).units = un + 1 := by
  first | rfl | simp [Around.under, Code.cUnits, Code.frames, Code.isFrame]
set_option maxRecDepth 100000 in
set_option maxHeartbeats 8000000 in
theorem qr_1 {w : World} {mg mb : Str → Option Value} {o : Array UInt8} {to : Tok} (h1 : o.size ≤ 9) (tm : Tok) : QrSpec w mg mb o to (.int 1 tm) 1 (optM o ≤ 1) := by
  unfold QrSpec
  intro dp un gd cn cs a ccd cl outer A₀ base h₀ L m s Q E bm ob ps B F X N T BM hk hdp hu hG hps hret hraise
  k_with_none
  k_with "my call ref" => ((with_reducible show wpAny _ _ (call (Value.ref 53) _) _ _ _); refine hold ?_)
  k_here
  k_dflt (refine' call_clsX ?k1 ?k2 ?k3 ?k4 ?k5 ?k6 ?_; (case k1 => k_asm); (case k2 => k_asm); (case k3 => k_asm); (case k4 => k_is); (case k5 => k_is); (case k6 => k_is); k_whole)
  intro x' d' h1' F' N' l1 l2 hk1 hn1 hn2 hsz
  k_lt l1
  k_lt2 l2
  k_sweep
  k_dflt (refine' enter_def ?k1 ?k2 ?k3 ?k4 ?k5 ?kA ?kF ?kK ?k6 ?k7 ?k8 ?k9 ?kB ?_ ?c2 ?c3 ?c4 ?c5; (case kA => exact rfl); (case kF => exact rfl); (case kK => first | exact rfl | assumption); (case k1 => k_asm); (case k2 => k_asm); (case k3 => k_asm); (case k4 => k_asm); (case k5 => k_asm); (case k6 => k_is); (case k7 => k_is); (case k8 => ktr_room); (case k9 => first | exact BindsTo.of_eq rfl | exact binds_K (by k_in) rfl (by k_is) rfl rfl rfl); (case c5 => decide); (case kB => exact locs rfl); (case c2 => exact rfl); (case c3 => exact rfl); (case c4 => exact rfl); k_whole; intro g1 L1 h2' hg1 FG' F' N' B' X' T' st1; (try dsimp only); (try k_fold))
  have hG1 : ∀ b o, (rest0 s.heap [(48, tabO ps)]).get? b = some o → g1.get? b = some o := by
    rw [hg1]; refine rest0_keep hk1 ?_
    intro p hp
    rcases List.mem_cons.mp hp with rfl | hp
    · exact .inr hn2
    rcases List.mem_cons.mp hp with rfl | hp
    · exact .inr hn1
    exact .inl (List.mem_map_of_mem hp)
  clear hk1
  k_steps
  refine ⟨?_⟩
  have BM' := BM.keeps st1
  have hU := units_tc dp un gd cn cs L a ccd cl outer ⟨[Value.ref 92, Value.bytes o to], [(Str.ofString "mode", .int 1 tm)]⟩
  ((with_reducible show wpAny _ _ (call (Value.ref 53) _) _ _ _); k_dflt (refine' SpecG.use (opt_ok h1 hps) ([(x', _), (d', _)]) ?k1 ?k2 ?k3 ?k4 ?k5 ?k6 ?k7 ?kK ?s1 ?s2 ?s3 ?d1 ?d2 ?_); (case k1 => k_asm); (case k2 => k_asm); (case k3 => k_asm); (case k4 => k_asm); (case k5 => k_asm); (case k6 => assumption); (case k7 => assumption); (case kK => first | exact rfl | assumption); (case s1 => (repeat (first | (apply sub_nil) | (apply sub_cons (by k_mem)) | (intro p hp; repeat (first | exact hp | apply sub_tail))))); (case s2 => (repeat (first | (apply sub_nil) | (apply sub_cons (by k_mem)) | (intro p hp; repeat (first | exact hp | apply sub_tail))))); (case s3 => (repeat' (first | (refine List.forall_mem_cons.mpr ⟨?_, ?_⟩) | exact List.forall_mem_nil _ | k_ne | (intro p hp; exact List.forall_mem_nil _) | assumption))); (case d1 => first | exact room_lt hd (by decide) | ktr_room); (case d2 => first | exact room_lt hu (by decide) | ktr_units))
  rintro v sel' s' ⟨tv, ps', rfl, rfl, hps'⟩ hos9 hG9 F9 N9 _ _
  k_with "my leaving" => (refine hold ?_)
  k_steps
  · refine ⟨?_⟩
    k_here
    refine' leave_newS ?k1 ?k0 ?k2 ?k3 ?_
    (case k0 => assumption)
    (case k2 => assumption)
    (case k1 => assumption)
    (case k3 => k_asm)
    k_whole
    intro h9 S9 R9 U9
    dsimp only [InitBack]
    refine hraise _ ps' _ ?_ hps' hos9 hG9 (raisedSN_up S9 hG1 (fun p hp => by rw [List.mem_singleton.mp hp]; k_mem) (fun p hp => by rw [List.mem_singleton.mp hp]; exact hideAll_none _ (List.mem_singleton.mpr rfl))) (upToSlots_le U9 hG1)
    omega
  · (rename Fr h₀ _ _ _ => kF9)
    (rename News h₀ _ _ _ => kN9)
    (rename Fr g1 _ _ _ => F8)
    refine hret x' d' _ _ _ _ ps' _ ?_ hps' hos9 hG9 kF9 kN9 (fun b o e => F8.keep b o (hG1 b o e)) hn1 hn2 l2 hsz
    omega
set_option maxRecDepth 100000 in
set_option maxHeartbeats 8000000 in
theorem qr_2 {w : World} {mg mb : Str → Option Value} {o : Array UInt8} {to : Tok} (h1 : o.size ≤ 9) (tm : Tok) : QrSpec w mg mb o to (.int 2 tm) 2 (optM o ≤ 2) := by
  unfold QrSpec
  intro dp un gd cn cs a ccd cl outer A₀ base h₀ L m s Q E bm ob ps B F X N T BM hk hdp hu hG hps hret hraise
  k_with_none
  k_with "my call ref" => ((with_reducible show wpAny _ _ (call (Value.ref 53) _) _ _ _); refine hold ?_)
  k_here
  k_dflt (refine' call_clsX ?k1 ?k2 ?k3 ?k4 ?k5 ?k6 ?_; (case k1 => k_asm); (case k2 => k_asm); (case k3 => k_asm); (case k4 => k_is); (case k5 => k_is); (case k6 => k_is); k_whole)
  intro x' d' h1' F' N' l1 l2 hk1 hn1 hn2 hsz
  k_lt l1
  k_lt2 l2
  k_sweep
  k_dflt (refine' enter_def ?k1 ?k2 ?k3 ?k4 ?k5 ?kA ?kF ?kK ?k6 ?k7 ?k8 ?k9 ?kB ?_ ?c2 ?c3 ?c4 ?c5; (case kA => exact rfl); (case kF => exact rfl); (case kK => first | exact rfl | assumption); (case k1 => k_asm); (case k2 => k_asm); (case k3 => k_asm); (case k4 => k_asm); (case k5 => k_asm); (case k6 => k_is); (case k7 => k_is); (case k8 => ktr_room); (case k9 => first | exact BindsTo.of_eq rfl | exact binds_K (by k_in) rfl (by k_is) rfl rfl rfl); (case c5 => decide); (case kB => exact locs rfl); (case c2 => exact rfl); (case c3 => exact rfl); (case c4 => exact rfl); k_whole; intro g1 L1 h2' hg1 FG' F' N' B' X' T' st1; (try dsimp only); (try k_fold))
  have hG1 : ∀ b o, (rest0 s.heap [(48, tabO ps)]).get? b = some o → g1.get? b = some o := by
    rw [hg1]; refine rest0_keep hk1 ?_
    intro p hp
    rcases List.mem_cons.mp hp with rfl | hp
    · exact .inr hn2
    rcases List.mem_cons.mp hp with rfl | hp
    · exact .inr hn1
    exact .inl (List.mem_map_of_mem hp)
  clear hk1
  k_steps
  refine ⟨?_⟩
  have BM' := BM.keeps st1
  have hU := units_tc dp un gd cn cs L a ccd cl outer ⟨[Value.ref 92, Value.bytes o to], [(Str.ofString "mode", .int 2 tm)]⟩
  ((with_reducible show wpAny _ _ (call (Value.ref 53) _) _ _ _); k_dflt (refine' SpecG.use (opt_ok h1 hps) ([(x', _), (d', _)]) ?k1 ?k2 ?k3 ?k4 ?k5 ?k6 ?k7 ?kK ?s1 ?s2 ?s3 ?d1 ?d2 ?_); (case k1 => k_asm); (case k2 => k_asm); (case k3 => k_asm); (case k4 => k_asm); (case k5 => k_asm); (case k6 => assumption); (case k7 => assumption); (case kK => first | exact rfl | assumption); (case s1 => (repeat (first | (apply sub_nil) | (apply sub_cons (by k_mem)) | (intro p hp; repeat (first | exact hp | apply sub_tail))))); (case s2 => (repeat (first | (apply sub_nil) | (apply sub_cons (by k_mem)) | (intro p hp; repeat (first | exact hp | apply sub_tail))))); (case s3 => (repeat' (first | (refine List.forall_mem_cons.mpr ⟨?_, ?_⟩) | exact List.forall_mem_nil _ | k_ne | (intro p hp; exact List.forall_mem_nil _) | assumption))); (case d1 => first | exact room_lt hd (by decide) | ktr_room); (case d2 => first | exact room_lt hu (by decide) | ktr_units))
  rintro v sel' s' ⟨tv, ps', rfl, rfl, hps'⟩ hos9 hG9 F9 N9 _ _
  k_with "my leaving" => (refine hold ?_)
  k_steps
  · refine ⟨?_⟩
    k_here
    refine' leave_newS ?k1 ?k0 ?k2 ?k3 ?_
    (case k0 => assumption)
    (case k2 => assumption)
    (case k1 => assumption)
    (case k3 => k_asm)
    k_whole
    intro h9 S9 R9 U9
    dsimp only [InitBack]
    refine hraise _ ps' _ ?_ hps' hos9 hG9 (raisedSN_up S9 hG1 (fun p hp => by rw [List.mem_singleton.mp hp]; k_mem) (fun p hp => by rw [List.mem_singleton.mp hp]; exact hideAll_none _ (List.mem_singleton.mpr rfl))) (upToSlots_le U9 hG1)
    omega
  · (rename Fr h₀ _ _ _ => kF9)
    (rename News h₀ _ _ _ => kN9)
    (rename Fr g1 _ _ _ => F8)
    refine hret x' d' _ _ _ _ ps' _ ?_ hps' hos9 hG9 kF9 kN9 (fun b o e => F8.keep b o (hG1 b o e)) hn1 hn2 l2 hsz
    omega
set_option maxRecDepth 100000 in
set_option maxHeartbeats 8000000 in
theorem qr_4 {w : World} {mg mb : Str → Option Value} {o : Array UInt8} {to : Tok} (h1 : o.size ≤ 9) (tm : Tok) : QrSpec w mg mb o to (.int 4 tm) 4 (optM o ≤ 4) := by
  unfold QrSpec
  intro dp un gd cn cs a ccd cl outer A₀ base h₀ L m s Q E bm ob ps B F X N T BM hk hdp hu hG hps hret hraise
  k_with_none
  k_with "my call ref" => ((with_reducible show wpAny _ _ (call (Value.ref 53) _) _ _ _); refine hold ?_)
  k_here
  k_dflt (refine' call_clsX ?k1 ?k2 ?k3 ?k4 ?k5 ?k6 ?_; (case k1 => k_asm); (case k2 => k_asm); (case k3 => k_asm); (case k4 => k_is); (case k5 => k_is); (case k6 => k_is); k_whole)
  intro x' d' h1' F' N' l1 l2 hk1 hn1 hn2 hsz
  k_lt l1
  k_lt2 l2
  k_sweep
  k_dflt (refine' enter_def ?k1 ?k2 ?k3 ?k4 ?k5 ?kA ?kF ?kK ?k6 ?k7 ?k8 ?k9 ?kB ?_ ?c2 ?c3 ?c4 ?c5; (case kA => exact rfl); (case kF => exact rfl); (case kK => first | exact rfl | assumption); (case k1 => k_asm); (case k2 => k_asm); (case k3 => k_asm); (case k4 => k_asm); (case k5 => k_asm); (case k6 => k_is); (case k7 => k_is); (case k8 => ktr_room); (case k9 => first | exact BindsTo.of_eq rfl | exact binds_K (by k_in) rfl (by k_is) rfl rfl rfl); (case c5 => decide); (case kB => exact locs rfl); (case c2 => exact rfl); (case c3 => exact rfl); (case c4 => exact rfl); k_whole; intro g1 L1 h2' hg1 FG' F' N' B' X' T' st1; (try dsimp only); (try k_fold))
  have hG1 : ∀ b o, (rest0 s.heap [(48, tabO ps)]).get? b = some o → g1.get? b = some o := by
    rw [hg1]; refine rest0_keep hk1 ?_
    intro p hp
    rcases List.mem_cons.mp hp with rfl | hp
    · exact .inr hn2
    rcases List.mem_cons.mp hp with rfl | hp
    · exact .inr hn1
    exact .inl (List.mem_map_of_mem hp)
  clear hk1
  k_steps
  refine ⟨?_⟩
  have BM' := BM.keeps st1
  have hU := units_tc dp un gd cn cs L a ccd cl outer ⟨[Value.ref 92, Value.bytes o to], [(Str.ofString "mode", .int 4 tm)]⟩
  ((with_reducible show wpAny _ _ (call (Value.ref 53) _) _ _ _); k_dflt (refine' SpecG.use (opt_ok h1 hps) ([(x', _), (d', _)]) ?k1 ?k2 ?k3 ?k4 ?k5 ?k6 ?k7 ?kK ?s1 ?s2 ?s3 ?d1 ?d2 ?_); (case k1 => k_asm); (case k2 => k_asm); (case k3 => k_asm); (case k4 => k_asm); (case k5 => k_asm); (case k6 => assumption); (case k7 => assumption); (case kK => first | exact rfl | assumption); (case s1 => (repeat (first | (apply sub_nil) | (apply sub_cons (by k_mem)) | (intro p hp; repeat (first | exact hp | apply sub_tail))))); (case s2 => (repeat (first | (apply sub_nil) | (apply sub_cons (by k_mem)) | (intro p hp; repeat (first | exact hp | apply sub_tail))))); (case s3 => (repeat' (first | (refine List.forall_mem_cons.mpr ⟨?_, ?_⟩) | exact List.forall_mem_nil _ | k_ne | (intro p hp; exact List.forall_mem_nil _) | assumption))); (case d1 => first | exact room_lt hd (by decide) | ktr_room); (case d2 => first | exact room_lt hu (by decide) | ktr_units))
  rintro v sel' s' ⟨tv, ps', rfl, rfl, hps'⟩ hos9 hG9 F9 N9 _ _
  k_with "my leaving" => (refine hold ?_)
  k_steps
  · refine ⟨?_⟩
    k_here
    refine' leave_newS ?k1 ?k0 ?k2 ?k3 ?_
    (case k0 => assumption)
    (case k2 => assumption)
    (case k1 => assumption)
    (case k3 => k_asm)
    k_whole
    intro h9 S9 R9 U9
    dsimp only [InitBack]
    refine hraise _ ps' _ ?_ hps' hos9 hG9 (raisedSN_up S9 hG1 (fun p hp => by rw [List.mem_singleton.mp hp]; k_mem) (fun p hp => by rw [List.mem_singleton.mp hp]; exact hideAll_none _ (List.mem_singleton.mpr rfl))) (upToSlots_le U9 hG1)
    omega
  · (rename Fr h₀ _ _ _ => kF9)
    (rename News h₀ _ _ _ => kN9)
    (rename Fr g1 _ _ _ => F8)
    refine hret x' d' _ _ _ _ ps' _ ?_ hps' hos9 hG9 kF9 kN9 (fun b o e => F8.keep b o (hG1 b o e)) hn1 hn2 l2 hsz
    omega
set_option maxRecDepth 100000 in
set_option maxHeartbeats 8000000 in
theorem qr_none {w : World} {mg mb : Str → Option Value} {o : Array UInt8} {to : Tok} (h1 : o.size ≤ 9) : QrSpec w mg mb o to .none (optM o) True := by
  unfold QrSpec
  intro dp un gd cn cs a ccd cl outer A₀ base h₀ L m s Q E bm ob ps B F X N T BM hk hdp hu hG hps hret hraise
  k_with_none
  k_with "my call ref" => ((with_reducible show wpAny _ _ (call (Value.ref 53) _) _ _ _); refine hold ?_)
  k_here
  k_dflt (refine' call_clsX ?k1 ?k2 ?k3 ?k4 ?k5 ?k6 ?_; (case k1 => k_asm); (case k2 => k_asm); (case k3 => k_asm); (case k4 => k_is); (case k5 => k_is); (case k6 => k_is); k_whole)
  intro x' d' h1' F' N' l1 l2 hk1 hn1 hn2 hsz
  k_lt l1
  k_lt2 l2
  k_sweep
  k_dflt (refine' enter_def ?k1 ?k2 ?k3 ?k4 ?k5 ?kA ?kF ?kK ?k6 ?k7 ?k8 ?k9 ?kB ?_ ?c2 ?c3 ?c4 ?c5; (case kA => exact rfl); (case kF => exact rfl); (case kK => first | exact rfl | assumption); (case k1 => k_asm); (case k2 => k_asm); (case k3 => k_asm); (case k4 => k_asm); (case k5 => k_asm); (case k6 => k_is); (case k7 => k_is); (case k8 => ktr_room); (case k9 => first | exact BindsTo.of_eq rfl | exact binds_K (by k_in) rfl (by k_is) rfl rfl rfl); (case c5 => decide); (case kB => exact locs rfl); (case c2 => exact rfl); (case c3 => exact rfl); (case c4 => exact rfl); k_whole; intro g1 L1 h2' hg1 FG' F' N' B' X' T' st1; (try dsimp only); (try k_fold))
  have hG1 : ∀ b o, (rest0 s.heap [(48, tabO ps)]).get? b = some o → g1.get? b = some o := by
    rw [hg1]; refine rest0_keep hk1 ?_
    intro p hp
    rcases List.mem_cons.mp hp with rfl | hp
    · exact .inr hn2
    rcases List.mem_cons.mp hp with rfl | hp
    · exact .inr hn1
    exact .inl (List.mem_map_of_mem hp)
  clear hk1
  k_steps
  refine ⟨?_⟩
  have BM' := BM.keeps st1
  have hU := units_tc dp un gd cn cs L a ccd cl outer ⟨[Value.ref 92, Value.bytes o to], [(Str.ofString "mode", .none)]⟩
  ((with_reducible show wpAny _ _ (call (Value.ref 53) _) _ _ _); k_dflt (refine' SpecG.use (opt_ok h1 hps) ([(x', _), (d', _)]) ?k1 ?k2 ?k3 ?k4 ?k5 ?k6 ?k7 ?kK ?s1 ?s2 ?s3 ?d1 ?d2 ?_); (case k1 => k_asm); (case k2 => k_asm); (case k3 => k_asm); (case k4 => k_asm); (case k5 => k_asm); (case k6 => assumption); (case k7 => assumption); (case kK => first | exact rfl | assumption); (case s1 => (repeat (first | (apply sub_nil) | (apply sub_cons (by k_mem)) | (intro p hp; repeat (first | exact hp | apply sub_tail))))); (case s2 => (repeat (first | (apply sub_nil) | (apply sub_cons (by k_mem)) | (intro p hp; repeat (first | exact hp | apply sub_tail))))); (case s3 => (repeat' (first | (refine List.forall_mem_cons.mpr ⟨?_, ?_⟩) | exact List.forall_mem_nil _ | k_ne | (intro p hp; exact List.forall_mem_nil _) | assumption))); (case d1 => first | exact room_lt hd (by decide) | ktr_room); (case d2 => first | exact room_lt hu (by decide) | ktr_units))
  rintro v sel' s' ⟨tv, ps', rfl, rfl, hps'⟩ hos9 hG9 F9 N9 _ _
  k_steps
  (rename Fr h₀ _ _ _ => kF9)
  (rename News h₀ _ _ _ => kN9)
  (rename Fr g1 _ _ _ => F8)
  exact hret x' d' _ _ _ _ ps' _ trivial hps' hos9 hG9 kF9 kN9 (fun b o e => F8.keep b o (hG1 b o e)) hn1 hn2 l2 hsz
end
section

local macro_rules | `(tactic| walk_at "getMethod bytes") => `(tactic| (k_here; first | (with_reducible refine FY.m_isdigit ?_) | (with_reducible refine FY.m_find ?_) | (with_reducible refine KBd.method ?_)))
local macro_rules | `(tactic| walk_at "call builtin:bytes.isdigit") => `(tactic| (k_here; refine FY.isdigit ?_))
local macro_rules | `(tactic| walk_at "call builtin:bytes.find") => `(tactic| (k_here; refine FY.find (by k_extra "my find") ?_))
local macro_rules | `(tactic| walk_at "compareOp In int bytes") => `(tactic| (k_here; refine FY.inB (by omega) (by omega) ?_))
local macro_rules | `(tactic| walk_at "compareOp NotIn int bytes") => `(tactic| (k_here; refine FY.notInB (by omega) (by omega) ?_))

section
variable {prog : Program} {w : World} {A : Around} {E : Value → Shared → Prop} {s : Shared} {h₀ : Heap} {L : Addr} {m mg mb : Str → Option Value} {p : Program} {loose : List Str} {K : Frag} {news : List (Addr × Obj)}
theorem ints_of_get : ∀ (vs : List Value) (ns : List Int), vs.length = ns.length → (∀ (j : Nat) (v : Value), vs[j]? = some v → ∃ n u, ns[j]? = some n ∧ v = Value.int n u) → IntsAre vs ns
  | [], [], _, _ => .nil
  | [], _ :: _, h, _ => nomatch h
  | _ :: _, [], h, _ => nomatch h
  | v :: vs, n :: ns, h, hg => by
    obtain ⟨n', u, e, rfl⟩ := hg 0 v rfl
    obtain rfl : n = n' := Option.some.inj e
    exact .cons _ _ (ints_of_get vs ns (Nat.succ.inj h) fun j v e => hg (j + 1) v e)
theorem ints_filter {q : Int → Bool} {pv : Value → Bool} (hp : ∀ n u, pv (.int n u) = q n) : ∀ {vs : List Value} {ns : List Int}, IntsAre vs ns → IntsAre (vs.filter pv) (ns.filter q)
  | _, _, .nil => .nil
  | _, _, .cons n u (vs := vs) (ns := ns) r => by
    have ih := ints_filter hp r
    rw [List.filter_cons, List.filter_cons, hp]
    cases q n
    · exact ih
    · exact .cons n u ih
theorem paired_eq : ∀ {l m : List Value}, Paired (fun v y => y = v) l m → m = l
  | _, _, .nil => rfl
  | _, _, .cons h r => by rw [h, paired_eq r]
def LcB (h₀ : Heap) (L : Addr) (m : Str → Option Value) (news : List (Addr × Obj)) (q : Int → Bool) (Q : Value → Shared → Prop) (xv : Value) (s₁ : Shared) : Prop :=
  ∃ b tb, xv = .bytes b tb ∧ b.size ≤ 1000 ∧ Fr h₀ L s₁.heap m ∧ News h₀ L s₁.heap news ∧
    ∀ (D : Addr) h' tk ys e, Fr h₀ L h' m → News h₀ L h' ((D, PySem.W.listOf (List.toArray ys) e) :: news) → LCg.Off1 D news → IntsAre ys ((KBw.bInts b).filter q) → ((KBw.bInts b).filter q).length ≤ 1000 → Q (.ref D) { s₁ with heap := h', toks := tk }
theorem lc_bytes {env : Env} {elt iter : Expr} {x : Str} {px : Pos} {ifs : List Expr} {scope : Scope} {pos : Pos} {Q : Value → Shared → Prop} (q : Int → Bool) (_F : Fr h₀ L s.heap m)
    (X₀ : K.In h₀) (T : TopRead p loose mg mb h₀) (hh : A.handled = none)
    (hclos : closureFor scope env = pure []) (hcell : ∀ y ∈ scope.names, y.2 ≠ .cell) (hkind : scope.kind = .function)
    (hnames : ∀ y ∈ scope.names, y.2 = .local → scope.names.lookup y.1 = some .local) (hx : scope.names.lookup x = some .local)
    (ht : ∀ (C : Addr) (E' : Value → Shared → Prop) (v : Int) (u : Tok) (t : Shared) (m₂ : Str → Option Value), 0 ≤ v → v < 256 → t.heap.Ns C m₂ → m₂ x = some (.int v u) → K.In t.heap → t.heap.Ns mainGlobals mg →
      wpAny (model prog w) A (forIn ifs true fun c r => if r = true then do let ok ← isTrue c (compEnvC scope [] C env) (eval c (compEnvC scope [] C env)); pure (ForInStep.yield ok) else pure (ForInStep.yield r)) (fun ok s₄ => ok = q v ∧ Keeps t s₄) E' t)
    (hel : ∀ (C : Addr) (E' : Value → Shared → Prop) (v : Value) (t : Shared) (m₂ : Str → Option Value), t.heap.Ns C m₂ → m₂ x = some v → wpAny (model prog w) A (eval elt (compEnvC scope [] C env)) (fun y s₄ => y = v ∧ Keeps t s₄) E' t)
    (h : wpAny (model prog w) A (eval iter env) (LcB h₀ L m news q Q) E s)
    (hs : ∀ x, foldedSetIterable iter env x = pure x := by intro _; rfl) :
    wpAny (model prog w) A (eval (.ListComp elt [⟨.Name x px, iter, ifs, 0⟩] scope pos) env) Q E s := by
  refine wpAny_ListComp_free (fun v => match v with | .int z _ => q z | _ => false) (fun v y => y = v) hclos hcell hkind hnames hx (wpAny_mono h (fun xv s₁ h₁ => ?_) fun _ _ e => e) hs
  obtain ⟨b, tb, rfl, hsz, F, N, hQ⟩ := h₁
  refine KBw.pyIter_bytes ?_
  have keep₀ : ∀ (t : Heap), (∀ b' o, b' ∉ [s₁.heap.objs.size] → (s₁.heap.push { cls := .type "bytes_iterator", data := .fields #[.bytes b tb, .int 0 0] }).get? b' = some o → t.get? b' = some o) → ∀ b' o, s₁.heap.get? b' = some o → t.get? b' = some o := fun t hk b' o e =>
    hk b' o (by rw [List.mem_singleton]; exact Nat.ne_of_lt (Heap.lt_size e)) (Heap.get?_push_of_some _ e)
  refine ⟨s₁.heap.objs.size, [s₁.heap.objs.size], [s₁.heap.objs.size], b.size, _, _, rfl, KBw.walks hh _ b tb, by rw [PySem.sizeLine_eq]; omega, ⟨_, Heap.get?_push_size _ rfl, rfl, rfl⟩, ?_, ⟨?_, ?_⟩, ?_⟩
  · intro b' hb
    rw [List.mem_singleton.mp hb]
    show s₁.heap.objs.size < (s₁.heap.push _).objs.size
    rw [Heap.size_push]; exact Nat.lt_succ_self _
  · rintro C i v s₃ m₃ E' _ ⟨c, u, hc, rfl⟩ hn hm hk _
    have k := keep₀ _ hk
    have := c.toNat_lt
    exact ht C E' _ u s₃ m₃ (by omega) (by omega) hn hm (X₀.keeps fun b o e => k b o (F.keep b o e)) (T.g.keeps fun b o e => k b o (F.keep b o e))
  · rintro C i v s₃ m₃ E' _ _ _ hn hm _ _
    exact hel C E' v s₃ m₃ hn hm
  · rintro D h' tk ys vs hD _ ⟨e, hp⟩ hlen hv hF hk
    have k := keep₀ _ hk
    have ei := paired_eq hF
    have hi : IntsAre vs (KBw.bInts b) := ints_of_get _ _ (by rw [hlen, KBw.ints_length]) fun j v e => by
      obtain ⟨c, u, hc, rfl⟩ := hv j v e
      exact ⟨_, u, KBw.ints_get hc, rfl⟩
    have hD1 : s₁.heap.get? D = none := by
      cases q : s₁.heap.get? D with
      | none => rfl
      | some o => rw [Heap.get?_push_of_some _ q] at hD; cases hD
    have hD0 : h₀.get? D = none := by
      cases q : h₀.get? D with
      | none => rfl
      | some o => rw [F.keep _ _ q] at hD1; cases hD1
    have hDL : D ≠ L := by
      rintro rfl
      obtain ⟨o, _, _, ho, _⟩ := F.ns
      rw [hD1] at ho; cases ho
    refine hQ D h' _ ys.toList e (F.keeps k) ?_ ?_ ?_ ?_
    · intro p hp'
      rcases List.mem_cons.mp hp' with rfl | hp'
      · exact ⟨by simpa using hp, hDL, hD0⟩
      · exact ⟨k _ _ (N p hp').1, (N p hp').2⟩
    · have : ∀ l : List (Addr × Obj), (∀ p ∈ l, p.1 ≠ D) → LCg.Off1 D l := by
        intro l
        induction l with
        | nil => intro _; trivial
        | cons a l ih => intro h; exact ⟨h a List.mem_cons_self, ih fun p hp => h p (List.mem_cons_of_mem _ hp)⟩
      refine this _ fun p hp' z => ?_
      have := (N p hp').1
      rw [z, hD1] at this; cases this
    · rw [ei]
      exact ints_filter (fun _ _ => rfl) hi
    · refine Nat.le_trans (List.length_filter_le _ _) ?_
      rw [KBw.ints_length]; exact hsz
end
end
section

local macro_rules | `(tactic| walk_at "getMethod bytes") => `(tactic| (k_here; first | (with_reducible refine FY.m_isdigit ?_) | (with_reducible refine FY.m_find ?_) | (with_reducible refine KBd.method ?_)))
local macro_rules | `(tactic| walk_at "call builtin:bytes.isdigit") => `(tactic| (k_here; refine FY.isdigit ?_))
local macro_rules | `(tactic| walk_at "call builtin:bytes.find") => `(tactic| (k_here; refine FY.find (by k_extra "my find") ?_))
local macro_rules | `(tactic| walk_at "compareOp In int bytes") => `(tactic| (k_here; refine FY.inB (by omega) (by omega) ?_))
local macro_rules | `(tactic| walk_at "compareOp NotIn int bytes") => `(tactic| (k_here; refine FY.notInB (by omega) (by omega) ?_))

section
variable {prog : Program} {w : World} {A : Around} {E : Value → Shared → Prop} {s : Shared} {value slice : PySem.Expr} {b p : Array UInt8} {t : Tok} {h₀ : Heap} {L : Addr} {m : PySem.Str → Option Value} {news : List (Addr × Obj)} {l u : Value} {lo hi : Option Int} {Q : Value → Shared → Prop}
theorem slice_X (hF : Fr h₀ L s.heap m) (hN : News h₀ L s.heap news) (hl : IsPart l lo) (hu : IsPart u hi) (hp : KBy.picked b lo hi = p) (hz : b.size ≤ 16777216)
    (h : ∀ h' t' k, Fr h₀ L h' m → News h₀ L h' news → Q (.bytes p t') { s with heap := h', toks := k })
    (hs : subscripted slice false (.bytes b t) (.ref s.heap.objs.size) = operate [.ref s.heap.objs.size, .bytes b t] (getItem (.bytes b t) (.ref s.heap.objs.size)) := by with_unfolding_all rfl)
    (ht : ∀ r, letTemporaryGo value (.bytes b t) r = pure () := by intro _; with_unfolding_all rfl) :
    wpAny (model prog w) A (subscriptTail value slice (.bytes b t) (.ref s.heap.objs.size)) Q E { s with heap := s.heap.push { cls := .type "slice", data := .fields #[l, u, .none] } } :=
  KBc.slice_K hF hN rfl hl hu (by rw [KBw.ints_length]; exact hz) (fun h' t' k F N _ => hp ▸ h h' t' k F N) hs ht
theorem findX {c : Array UInt8} {t u : Tok} {v : Int} {Q : Value → Shared → Prop} (hc : c.size ≤ b.size) (hv : FY.findI b c = v) (h : Q (.int v s.toks) { s with toks := s.toks + 1 }) : wpAny (model prog w) A (call (.builtin "bytes.find") [.bytes b t, .bytes c u]) Q E s := FY.find hc (hv ▸ h)
end
local macro_rules | `(tactic| walk_at "subscriptTail") => `(tactic| (k_here; (with_reducible show wpAny _ _ (subscriptTail _ (Expr.Slice _ _ none _) (Value.bytes _ _) (Value.ref _)) _ _ _); (with_reducible rename Fr _ _ _ _ => F'); (with_reducible rename News _ _ _ _ => N'); (refine slice_X (s := ⟨_, _, _, _, _⟩) F' N' (by constructor) (by constructor) (by assumption) (by first | assumption | omega | (simp only [List.size_toArray, List.length_cons, List.length_nil]; omega)) ?_); intro _ _ _ _ _))
local macro_rules | `(tactic| walk_at "call builtin:bytes.find") => `(tactic| (k_here; refine findX (by exact (show 1 ≤ 45 by decide)) (by assumption) ?_))
local macro_rules | `(tactic| walk_at "call builtin:bytes.decode") => `(tactic| k_extra "my decode")
theorem small_step : ∀ (k : Fin 10) (c : Fin 4), c.val ≠ 0 → Builtin.Range.small 0 (k.val : Int) (c.val : Int) = true := by decide
theorem apart_own {pre own sel : List (Addr × Obj)} {adr : List Addr} (h : ∀ p ∈ pre, ∀ q ∈ sel, p.1 ≠ q.1) (ho : Off own adr) (hs : ∀ q ∈ sel, q.1 ∈ adr) : ∀ p ∈ pre ++ own, ∀ q ∈ sel, p.1 ≠ q.1 := fun p hp q hq =>
  (List.mem_append.mp hp).elim (fun hp => h p hp q hq) fun hp => ho p hp _ (hs q hq)
theorem pbits_app : ∀ (as bs : List Bool) (ns : List Int) (n : Nat), pbits ns n (as ++ bs) = pbits (pbits ns n as) (n + as.length) bs
  | [], _, _, _ => rfl
  | c :: r, bs, ns, n => by
    show pbits (pbit ns n c) (n + 1) (r ++ bs) = pbits (pbits (pbit ns n c) (n + 1) r) (n + (r.length + 1)) bs
    rw [pbits_app r bs]; congr 1; omega
theorem bitsOf_length (a l : Nat) : (bitsOf a l).length = l := by simp [bitsOf]
def at0 (o : Array UInt8) (i : Nat) : Nat := (o.getD i 0).toNat
def alphaAt (c : Nat) : Nat := (FY.findI ALPHA #[c.toUInt8]).toNat
theorem picked2 {o : Array UInt8} {i : Nat} (h : 2 * i + 2 ≤ o.size) : KBy.picked o (some (0 + (i : Int) * 2)) (some (0 + (i : Int) * 2 + 2)) = #[o[2 * i], o[2 * i + 1]] := by
  have e0 : (0 + (i : Int) * 2) = ((2 * i : Nat) : Int) := by omega
  have e1 : (0 + (i : Int) * 2 + 2) = ((2 * i + 2 : Nat) : Int) := by omega
  rw [KBc.picked_eq, e1, e0]
  simp only [Option.elim, clipAt_nat]
  rw [show min (2 * i) o.size = 2 * i by omega, show min (2 * i + 2) o.size - 2 * i = 2 by omega]
  rw [List.drop_eq_getElem_cons (by simp; omega), List.drop_eq_getElem_cons (by simp; omega)]
  simp
theorem picked1 {o : Array UInt8} {i : Nat} (h : 2 * i < o.size) (h2 : ¬ 2 * i + 2 ≤ o.size) : KBy.picked o (some (0 + (i : Int) * 2)) (some (0 + (i : Int) * 2 + 2)) = #[o[2 * i]] := by
  have e0 : (0 + (i : Int) * 2) = ((2 * i : Nat) : Int) := by omega
  have e1 : (0 + (i : Int) * 2 + 2) = ((2 * i + 2 : Nat) : Int) := by omega
  rw [KBc.picked_eq, e1, e0]
  simp only [Option.elim, clipAt_nat]
  rw [show min (2 * i) o.size = 2 * i by omega, show min (2 * i + 2) o.size - 2 * i = 1 by omega]
  rw [List.drop_eq_getElem_cons (by simp; omega)]
  simp
theorem alpha_found : ∀ c : Fin 256, ALPHA.contains c.val.toUInt8 = true → FY.findI ALPHA #[c.val.toUInt8] = (((FY.findI ALPHA #[c.val.toUInt8]).toNat : Nat) : Int) ∧ (FY.findI ALPHA #[c.val.toUInt8]).toNat < 45 := by decide +kernel
theorem alphaAt_eq {o : Array UInt8} {i : Nat} (hal : ∀ c ∈ o, ALPHA.contains c = true) (h : i < o.size) : ∃ a : Nat, a = alphaAt (at0 o i) ∧ FY.findI ALPHA #[o[i]] = (a : Int) ∧ a < 45 := by
  have := alpha_found ⟨o[i].toNat, o[i].toNat_lt⟩
  rw [show (o[i].toNat).toUInt8 = o[i] by simp] at this
  have h3 := this (hal _ (Array.getElem_mem h))
  have e : at0 o i = o[i].toNat := by simp [at0, h]
  refine ⟨_, rfl, ?_⟩
  unfold alphaAt
  rw [e]
  simpa using h3
/-- the i-th word of a text's bits -/
def word (mode : Nat) (o : Array UInt8) (i : Nat) : List Bool :=
  if mode = 1 then
    (if 3 * i + 3 ≤ o.size then bitsOf (100 * (at0 o (3 * i) - 48) + 10 * (at0 o (3 * i + 1) - 48) + (at0 o (3 * i + 2) - 48)) 10
     else if 3 * i + 2 ≤ o.size then bitsOf (10 * (at0 o (3 * i) - 48) + (at0 o (3 * i + 1) - 48)) 7
     else bitsOf (at0 o (3 * i) - 48) 4)
  else if mode = 2 then
    (if 2 * i + 2 ≤ o.size then bitsOf (45 * alphaAt (at0 o (2 * i)) + alphaAt (at0 o (2 * i + 1))) 11 else bitsOf (alphaAt (at0 o (2 * i))) 6)
  else bitsOf (at0 o i) 8
def words (mode : Nat) (o : Array UInt8) (n : Nat) : List Bool := (List.range n).flatMap (word mode o)
def nWords (mode : Nat) (o : Array UInt8) : Nat := if mode = 1 then (o.size + 2) / 3 else if mode = 2 then (o.size + 1) / 2 else o.size
def enc (mode : Nat) (o : Array UInt8) : List Bool := words mode o (nWords mode o)
theorem words_succ (mode : Nat) (o : Array UInt8) (n : Nat) : words mode o (n + 1) = words mode o n ++ word mode o n := by simp [words, List.range_succ]
theorem word_length (mode : Nat) (o : Array UInt8) (i : Nat) : (word mode o i).length ≤ 11 := by
  unfold word
  repeat' split
  all_goals (rw [bitsOf_length]; omega)
theorem words_length (mode : Nat) (o : Array UInt8) : ∀ n, (words mode o n).length ≤ 11 * n
  | 0 => by simp [words]
  | n + 1 => by
    rw [words_succ, List.length_append]
    have := words_length mode o n
    have := word_length mode o n
    omega
set_option maxRecDepth 100000 in
set_option maxHeartbeats 8000000 in
theorem write4_ok {w : World} {mg mb : Str → Option Value} {b db lb q dq : Addr} {n : Nat} {t1 t2 t3 s1 s2 s3 s4 : Tok} {xs : List Value} {ns : List Int} {e' : Nat} {o : Array UInt8} (h1 : @LT.lt Nat _ b lb) (h2 : @LT.lt Nat _ db b) (h3 : @LT.lt Nat _ lb dq) (h4 : @LT.lt Nat _ dq q)
  (hi : IntsAre xs ns) (hn : n < 2 ^ 16) (hl : ns.length = (n + 7) / 8) (ho : o.size ≤ 9) :
    Spec w mg mb 40 400 82 [.ref q, .ref b] [(b, instObj 146 db), (db, bufD w t1 t2 t3 lb n), (lb, PySem.W.listOf (List.toArray xs) e'), (q, instObj 92 dq), (dq, qrD w s1 s2 s3 s4 4 o)] 
     fun v sel => v = .none ∧ ∃ c, BufR w b db lb (pbits ns n (enc 4 o)) (n + (enc 4 o).length) c ∧ sel = c ++ [(q, instObj 92 dq), (dq, qrD w s1 s2 s3 s4 4 o)] := by
  have hbk : ∀ bs : List Bool, (pbits ns n bs).length = (n + bs.length + 7) / 8 := fun bs => pbits_length bs ns n hl
  have hwl : ∀ k, (words 4 o k).length ≤ 11 * k := words_length 4 o
  unfold Spec
  intro dp un gd cn cs a ccd cl outer A₀ base h₀ L m s Q E B F X N T hk hd hu hret
  (refine wpAny_call ?_; k_dflt (refine' enter_def ?k1 ?k2 ?k3 ?k4 ?k5 ?kA ?kF ?kK ?k6 ?k7 ?k8 ?k9 ?kB ?_ ?c2 ?c3 ?c4 ?c5; (case kA => exact rfl); (case kF => exact rfl); (case kK => assumption); (case k1 => k_asm); (case k2 => k_asm); (case k3 => k_asm); (case k4 => k_asm); (case k5 => k_asm); (case k6 => k_is); (case k7 => k_is); (case k8 => ktr_room); (case k9 => exact BindsTo.of_eq rfl); (case c5 => decide); (case kB => exact locs rfl); (case c2 => exact rfl); (case c3 => exact rfl); (case c4 => exact rfl); k_whole; intro g' L' h' hg' FG' F' N' B' X' T' st'; (try dsimp only); (try k_fold)))
  k_with_none
  k_with "my pyIter bytes" => (refine hold ?_)
  k_with "my call ref" => (refine hold ?_)
  k_steps
  refine ⟨?_⟩
  (rename Fr _ _ _ _ => lF'; rename News _ _ _ _ => lN')
  refine for_bytes (σ := List (Addr × Obj)) (fun c => c ++ [(q, instObj 92 dq), (dq, qrD w s1 s2 s3 s4 4 o)]) (fun _ => []) [] (fun i c => BufR w b db lb (pbits ns n (words 4 o i)) (n + (words 4 o i).length) c) [(b, instObj 146 db), (db, bufD w t1 t2 t3 lb n), (lb, PySem.W.listOf (List.toArray xs) e')] (by rfl) lF' lN' ?rc ?rd ?turn ?done
  case rc => exact List.forall_mem_nil _
  case rd => exact ⟨_, _, _, _, _, rfl, by simpa [pbits, words] using hi⟩
  case turn =>
    clear lF' lN'
    rintro c i y t u h tk own hi1 hy hoff ⟨t1', t2', t3', xs', e2, rfl, hi2⟩ F2 N2
    simp only [List.cons_append, List.nil_append] at N2
    have hyn := y.toNat_lt
    have hwi := hwl i
    (try k_fold)
    k_steps
    refine ⟨?_⟩
    ((with_reducible show wpAny _ _ (call (Value.ref 129) _) _ _ _); k_dflt (refine' Spec.use (put_ok (len := 8) h1 h2 hi2 ?pa ?pb ?pc) ((q, instObj 92 dq) :: (dq, qrD w s1 s2 s3 s4 4 o) :: own) ?k1 ?k2 ?k3 ?k4 ?k5 ?kK ?s1 ?s2 ?s3 ?d1 ?d2 ?_); (case k1 => k_asm); (case k2 => k_asm); (case k3 => k_asm); (case k4 => k_asm); (case k5 => k_asm); (case kK => first | exact rfl | assumption); (case s1 => (repeat (first | (apply sub_nil) | (apply sub_cons (by k_mem)) | (intro p hp; repeat (first | exact hp | apply sub_tail))))); (case s2 => (repeat (first | (apply sub_nil) | (apply sub_cons (by k_mem)) | (intro p hp; repeat (first | exact hp | apply sub_tail))))); (case s3 => exact apart_own (pre := [(q, instObj 92 dq), (dq, qrD w s1 s2 s3 s4 4 o)]) (by (repeat' (first | (refine List.forall_mem_cons.mpr ⟨?_, ?_⟩) | exact List.forall_mem_nil _ | k_ne | (intro p hp; exact List.forall_mem_nil _) | assumption))) hoff (fun z hz => List.mem_map_of_mem (List.mem_append_left _ hz))); (case d1 => first | exact room_lt hd (by decide) | ktr_room); (case d2 => first | exact room_lt hu (by decide) | ktr_units))
    case pa => omega
    case pb => exact hbk _
    case pc => omega
    rintro v sel' h' tk' ⟨rfl, t1'', t2'', t3'', xs'', e3, rfl, hi3⟩ F3 N3 _ _
    simp only [List.cons_append, List.nil_append] at N3
    k_steps
    refine TurnE.next [(b, instObj 146 db), (db, bufD w t1'' t2'' t3'' lb (n + (words 4 o i).length + 8 : Nat)), (lb, PySem.W.listOf xs''.toArray e3)] F3 N3 (by (repeat (first | (apply sub_nil) | (apply sub_cons (by k_mem)) | (intro p hp; repeat (first | exact hp | apply sub_tail))))) (by (repeat (first | (apply sub_nil) | (apply sub_cons (by k_mem)) | (intro p hp; repeat (first | exact hp | apply sub_tail))))) hoff (List.forall_mem_nil _) (fun z hz _ _ => (if_neg hz).trans rfl) ?_
    have hw : word 4 o i = bitsOf y.toNat 8 := by unfold word at0; simp [hy]
    have hw2 : (words 4 o (i + 1)).length = (words 4 o i).length + 8 := by rw [words_succ, hw, List.length_append, bitsOf_length]
    show BufR w b db lb (pbits ns n (words 4 o (i + 1))) (n + (words 4 o (i + 1)).length) _
    rw [hw2, words_succ, pbits_app, hw]
    exact ⟨t1'', t2'', t3'', xs'', e3, rfl, hi3⟩
  clear lF' lN'
  rintro c u h tk ⟨t1', t2', t3', xs', e2, rfl, hi2⟩ F2 N2
  simp only [List.cons_append, List.nil_append] at N2
  dsimp only
  k_steps
  ((rename Fr _ _ _ _ => kF9); (rename News _ _ _ _ => kN9); (rename (_ : Heap) = rest0 _ _ => hg9); subst hg9; (rename Fr (rest0 _ _) _ _ _ => F9); (rename News (rest0 _ _) _ _ _ => N9); refine spec_ret (by assumption) kF9 kN9 F9 N9 (fun _ h => h) ?_)
  exact ⟨rfl, _, ⟨_, _, _, _, _, rfl, hi2⟩, rfl⟩
set_option maxRecDepth 100000 in
set_option maxHeartbeats 8000000 in
theorem write2_ok {w : World} {mg mb : Str → Option Value} {b db lb q dq : Addr} {n : Nat} {t1 t2 t3 s1 s2 s3 s4 : Tok} {xs : List Value} {ns : List Int} {e' : Nat} {o : Array UInt8} (h1 : @LT.lt Nat _ b lb) (h2 : @LT.lt Nat _ db b) (h3 : @LT.lt Nat _ lb dq) (h4 : @LT.lt Nat _ dq q)
  (hi : IntsAre xs ns) (hn : n < 2 ^ 16) (hl : ns.length = (n + 7) / 8) (ho : o.size ≤ 9) (hal : ∀ c ∈ o, ALPHA.contains c = true) :
    Spec w mg mb 40 400 82 [.ref q, .ref b] [(b, instObj 146 db), (db, bufD w t1 t2 t3 lb n), (lb, PySem.W.listOf (List.toArray xs) e'), (q, instObj 92 dq), (dq, qrD w s1 s2 s3 s4 2 o)] 
     fun v sel => v = .none ∧ ∃ c, BufR w b db lb (pbits ns n (enc 2 o)) (n + (enc 2 o).length) c ∧ sel = c ++ [(q, instObj 92 dq), (dq, qrD w s1 s2 s3 s4 2 o)] := by
  have hbk : ∀ bs : List Bool, (pbits ns n bs).length = (n + bs.length + 7) / 8 := fun bs => pbits_length bs ns n hl
  have hwl : ∀ k, (words 2 o k).length ≤ 11 * k := words_length 2 o
  unfold Spec
  intro dp un gd cn cs a ccd cl outer A₀ base h₀ L m s Q E B F X N T hk hd hu hret
  (refine wpAny_call ?_; k_dflt (refine' enter_def ?k1 ?k2 ?k3 ?k4 ?k5 ?kA ?kF ?kK ?k6 ?k7 ?k8 ?k9 ?kB ?_ ?c2 ?c3 ?c4 ?c5; (case kA => exact rfl); (case kF => exact rfl); (case kK => assumption); (case k1 => k_asm); (case k2 => k_asm); (case k3 => k_asm); (case k4 => k_asm); (case k5 => k_asm); (case k6 => k_is); (case k7 => k_is); (case k8 => ktr_room); (case k9 => exact BindsTo.of_eq rfl); (case c5 => decide); (case kB => exact locs rfl); (case c2 => exact rfl); (case c3 => exact rfl); (case c4 => exact rfl); k_whole; intro g' L' h' hg' FG' F' N' B' X' T' st'; (try dsimp only); (try k_fold)))
  k_with_none
  k_with "my pyIter ref" => (refine hold ?_)
  k_with "my call ref" => (refine hold ?_)
  k_steps
  refine ⟨?_⟩
  (rename Fr _ _ _ _ => lF'; rename News _ _ _ _ => lN'; rename IsRange _ _ _ _ _ _ _ _ => rgX)
  refine for_range (n := (o.size + 1) / 2) (σ := List (Addr × Obj)) (fun c => c ++ [(q, instObj 92 dq), (dq, qrD w s1 s2 s3 s4 2 o)]) (fun _ => []) ["chars"] (fun i c => BufR w b db lb (pbits ns n (words 2 o i)) (n + (words 2 o i).length) c) [(b, instObj 146 db), (db, bufD w t1 t2 t3 lb n), (lb, PySem.W.listOf (List.toArray xs) e')] (by rfl) rgX ?ra ?rb lF' lN' ?rc ?rd ?turn ?done
  case rc => exact List.forall_mem_nil _
  case ra => exact small_step ⟨o.size, by omega⟩ ⟨2, by omega⟩ (show (2 : Nat) ≠ 0 by decide)
  case rb => unfold Builtin.Range.rangeSize; rw [if_pos (by decide)]; split <;> omega
  case rd => exact ⟨_, _, _, _, _, rfl, by simpa [pbits, words] using hi⟩
  case turn =>
    clear lF' lN'
    rintro c i t u h tk own hi1 hoff ⟨t1', t2', t3', xs', e2, rfl, hi2⟩ F2 N2
    simp only [List.cons_append, List.nil_append] at N2
    have hi2' : 2 * i < o.size := by omega
    have hwi := hwl i
    (try k_fold)
    by_cases h2' : 2 * i + 2 ≤ o.size
    · have hp := picked2 (o := o) (i := i) h2'
      obtain ⟨a0, ea0, f0, f0'⟩ := alphaAt_eq hal (show 2 * i < o.size by omega)
      obtain ⟨a1, ea1, f1, f1'⟩ := alphaAt_eq hal (show 2 * i + 1 < o.size by omega)
      have hw : word 2 o i = bitsOf (45 * a0 + a1) 11 := by unfold word; rw [if_neg (by decide), if_pos rfl, if_pos h2', ea0, ea1]
      have hs1 : KBy.picked #[o[2 * i], o[2 * i + 1]] none (some 1) = #[o[2 * i]] := rfl
      have hs2 : KBy.picked #[o[2 * i], o[2 * i + 1]] (some 1) none = #[o[2 * i + 1]] := by rw [KBc.picked_eq]; rfl
      k_steps
      rotate_left
      · rename ¬ _ => hx
        exact absurd (show (1 : Int) < 2 by decide) hx
      refine ⟨?_⟩
      (try rw [show ((a0 : Int) * 45 + (a1 : Int)) = ((45 * a0 + a1 : Nat) : Int) by omega])
      ((with_reducible show wpAny _ _ (call (Value.ref 129) _) _ _ _); k_dflt (refine' Spec.use (put_ok (num := 45 * a0 + a1) (len := 11) h1 h2 hi2 ?pa ?pb ?pc) ((q, instObj 92 dq) :: (dq, qrD w s1 s2 s3 s4 2 o) :: own) ?k1 ?k2 ?k3 ?k4 ?k5 ?kK ?s1 ?s2 ?s3 ?d1 ?d2 ?_); (case k1 => k_asm); (case k2 => k_asm); (case k3 => k_asm); (case k4 => k_asm); (case k5 => k_asm); (case kK => first | exact rfl | assumption); (case s1 => (repeat (first | (apply sub_nil) | (apply sub_cons (by k_mem)) | (intro p hp; repeat (first | exact hp | apply sub_tail))))); (case s2 => (repeat (first | (apply sub_nil) | (apply sub_cons (by k_mem)) | (intro p hp; repeat (first | exact hp | apply sub_tail))))); (case s3 => exact apart_own (pre := [(q, instObj 92 dq), (dq, qrD w s1 s2 s3 s4 2 o)]) (by (repeat' (first | (refine List.forall_mem_cons.mpr ⟨?_, ?_⟩) | exact List.forall_mem_nil _ | k_ne | (intro p hp; exact List.forall_mem_nil _) | assumption))) hoff (fun z hz => List.mem_map_of_mem (List.mem_append_left _ hz))); (case d1 => first | exact room_lt hd (by decide) | ktr_room); (case d2 => first | exact room_lt hu (by decide) | ktr_units))
      case pa => omega
      case pb => exact hbk _
      case pc => omega
      rintro v sel' h' tk' ⟨rfl, t1'', t2'', t3'', xs'', e3, rfl, hi3⟩ F3 N3 _ _
      simp only [List.cons_append, List.nil_append] at N3
      k_steps
      refine TurnE.next [(b, instObj 146 db), (db, bufD w t1'' t2'' t3'' lb (n + (words 2 o i).length + 11 : Nat)), (lb, PySem.W.listOf xs''.toArray e3)] F3 N3 (by (repeat (first | (apply sub_nil) | (apply sub_cons (by k_mem)) | (intro p hp; repeat (first | exact hp | apply sub_tail))))) (by (repeat (first | (apply sub_nil) | (apply sub_cons (by k_mem)) | (intro p hp; repeat (first | exact hp | apply sub_tail))))) hoff (List.forall_mem_nil _) (fun z hz _ hs => by ((have hz3 : z ≠ "chars" := by rintro rfl; exact absurd hs (by decide)); first | ((have hz4 : z ≠ "bit_length" := by rintro rfl; exact absurd hs (by decide)); (simp only [hz, hz3, hz4, kstB, hs, if_false]); rfl) | ((simp only [hz, hz3, kstB, hs, if_false]); rfl))) ?_
      have hw2 : (words 2 o (i + 1)).length = (words 2 o i).length + 11 := by rw [words_succ, hw, List.length_append, bitsOf_length]
      show BufR w b db lb (pbits ns n (words 2 o (i + 1))) (n + (words 2 o (i + 1)).length) _
      rw [hw2, words_succ, pbits_app, hw]
      exact ⟨t1'', t2'', t3'', xs'', e3, rfl, hi3⟩
    · have hp := picked1 (o := o) (i := i) hi2' h2'
      obtain ⟨a0, ea0, f0, f0'⟩ := alphaAt_eq hal (show 2 * i < o.size by omega)
      have hw : word 2 o i = bitsOf a0 6 := by unfold word; rw [if_neg (by decide), if_pos rfl, if_neg h2', ea0]
      k_steps
      · rename (_ : Int) < _ => hx
        exact absurd hx (show ¬ (1 : Int) < 1 by decide)
      refine ⟨?_⟩
      (try rw [show (1 : Nat) = 1 by rfl])
      ((with_reducible show wpAny _ _ (call (Value.ref 129) _) _ _ _); k_dflt (refine' Spec.use (put_ok (num := a0) (len := 6) h1 h2 hi2 ?pa ?pb ?pc) ((q, instObj 92 dq) :: (dq, qrD w s1 s2 s3 s4 2 o) :: own) ?k1 ?k2 ?k3 ?k4 ?k5 ?kK ?s1 ?s2 ?s3 ?d1 ?d2 ?_); (case k1 => k_asm); (case k2 => k_asm); (case k3 => k_asm); (case k4 => k_asm); (case k5 => k_asm); (case kK => first | exact rfl | assumption); (case s1 => (repeat (first | (apply sub_nil) | (apply sub_cons (by k_mem)) | (intro p hp; repeat (first | exact hp | apply sub_tail))))); (case s2 => (repeat (first | (apply sub_nil) | (apply sub_cons (by k_mem)) | (intro p hp; repeat (first | exact hp | apply sub_tail))))); (case s3 => exact apart_own (pre := [(q, instObj 92 dq), (dq, qrD w s1 s2 s3 s4 2 o)]) (by (repeat' (first | (refine List.forall_mem_cons.mpr ⟨?_, ?_⟩) | exact List.forall_mem_nil _ | k_ne | (intro p hp; exact List.forall_mem_nil _) | assumption))) hoff (fun z hz => List.mem_map_of_mem (List.mem_append_left _ hz))); (case d1 => first | exact room_lt hd (by decide) | ktr_room); (case d2 => first | exact room_lt hu (by decide) | ktr_units))
      case pa => omega
      case pb => exact hbk _
      case pc => omega
      rintro v sel' h' tk' ⟨rfl, t1'', t2'', t3'', xs'', e3, rfl, hi3⟩ F3 N3 _ _
      simp only [List.cons_append, List.nil_append] at N3
      k_steps
      refine TurnE.next [(b, instObj 146 db), (db, bufD w t1'' t2'' t3'' lb (n + (words 2 o i).length + 6 : Nat)), (lb, PySem.W.listOf xs''.toArray e3)] F3 N3 (by (repeat (first | (apply sub_nil) | (apply sub_cons (by k_mem)) | (intro p hp; repeat (first | exact hp | apply sub_tail))))) (by (repeat (first | (apply sub_nil) | (apply sub_cons (by k_mem)) | (intro p hp; repeat (first | exact hp | apply sub_tail))))) hoff (List.forall_mem_nil _) (fun z hz _ hs => by ((have hz3 : z ≠ "chars" := by rintro rfl; exact absurd hs (by decide)); first | ((have hz4 : z ≠ "bit_length" := by rintro rfl; exact absurd hs (by decide)); (simp only [hz, hz3, hz4, kstB, hs, if_false]); rfl) | ((simp only [hz, hz3, kstB, hs, if_false]); rfl))) ?_
      have hw2 : (words 2 o (i + 1)).length = (words 2 o i).length + 6 := by rw [words_succ, hw, List.length_append, bitsOf_length]
      show BufR w b db lb (pbits ns n (words 2 o (i + 1))) (n + (words 2 o (i + 1)).length) _
      rw [hw2, words_succ, pbits_app, hw]
      exact ⟨t1'', t2'', t3'', xs'', e3, rfl, hi3⟩
  clear lF' lN' rgX
  rintro c u h tk ⟨t1', t2', t3', xs', e2, rfl, hi2⟩ F2 N2
  simp only [List.cons_append, List.nil_append] at N2
  dsimp only
  k_steps
  ((rename Fr _ _ _ _ => kF9); (rename News _ _ _ _ => kN9); (rename (_ : Heap) = rest0 _ _ => hg9); subst hg9; (rename Fr (rest0 _ _) _ _ _ => F9); (rename News (rest0 _ _) _ _ _ => N9); refine spec_ret (by assumption) kF9 kN9 F9 N9 (fun _ h => h) ?_)
  exact ⟨rfl, _, ⟨_, _, _, _, _, rfl, hi2⟩, rfl⟩
end
section

local macro_rules | `(tactic| walk_at "getMethod bytes") => `(tactic| (k_here; first | (with_reducible refine FY.m_isdigit ?_) | (with_reducible refine FY.m_find ?_) | (with_reducible refine KBd.method ?_)))
local macro_rules | `(tactic| walk_at "call builtin:bytes.isdigit") => `(tactic| (k_here; refine FY.isdigit ?_))
local macro_rules | `(tactic| walk_at "call builtin:bytes.find") => `(tactic| (k_here; refine FY.find (by k_extra "my find") ?_))
local macro_rules | `(tactic| walk_at "compareOp In int bytes") => `(tactic| (k_here; refine FY.inB (by omega) (by omega) ?_))
local macro_rules | `(tactic| walk_at "compareOp NotIn int bytes") => `(tactic| (k_here; refine FY.notInB (by omega) (by omega) ?_))

local macro_rules | `(tactic| walk_at "subscriptTail") => `(tactic| (k_here; (with_reducible show wpAny _ _ (subscriptTail _ (Expr.Slice _ _ none _) (Value.bytes _ _) (Value.ref _)) _ _ _); (with_reducible rename Fr _ _ _ _ => F'); (with_reducible rename News _ _ _ _ => N'); (refine slice_X (s := ⟨_, _, _, _, _⟩) F' N' (by constructor) (by constructor) (by assumption) (by first | assumption | omega | (simp only [List.size_toArray, List.length_cons, List.length_nil]; omega)) ?_); intro _ _ _ _ _))
local macro_rules | `(tactic| walk_at "call builtin:bytes.find") => `(tactic| (k_here; refine findX (by exact (show 1 ≤ 45 by decide)) (by assumption) ?_))
local macro_rules | `(tactic| walk_at "call builtin:bytes.decode") => `(tactic| k_extra "my decode")
theorem dig3 {a b c : Nat} (ha : 48 ≤ a ∧ a ≤ 57) (hb : 48 ≤ b ∧ b ≤ 57) (hc : 48 ≤ c ∧ c ≤ 57) : PySem.intText? ⟨#[a, b, c]⟩ = some ((100 * (a - 48) + 10 * (b - 48) + (c - 48) : Nat) : Int) := by
  have h : PySem.NumText.AllDigits [a, b, c] := by intro x hx; simp only [List.mem_cons, List.not_mem_nil, or_false] at hx; omega
  refine (PySem.intText_digits (x := ⟨#[a, b, c]⟩) h (by simp) (show 3 ≤ 4300 by decide)).trans ?_
  congr 2
  simp [PySem.NumText.digitsVal]
  omega
theorem dig2 {a b : Nat} (ha : 48 ≤ a ∧ a ≤ 57) (hb : 48 ≤ b ∧ b ≤ 57) : PySem.intText? ⟨#[a, b]⟩ = some ((10 * (a - 48) + (b - 48) : Nat) : Int) := by
  have h : PySem.NumText.AllDigits [a, b] := by intro x hx; simp only [List.mem_cons, List.not_mem_nil, or_false] at hx; omega
  refine (PySem.intText_digits (x := ⟨#[a, b]⟩) h (by simp) (show 2 ≤ 4300 by decide)).trans ?_
  congr 2
  simp [PySem.NumText.digitsVal]
  omega
theorem dig1 {a : Nat} (ha : 48 ≤ a ∧ a ≤ 57) : PySem.intText? ⟨#[a]⟩ = some ((a - 48 : Nat) : Int) := by
  have h : PySem.NumText.AllDigits [a] := by intro x hx; simp only [List.mem_cons, List.not_mem_nil, or_false] at hx; omega
  refine (PySem.intText_digits (x := ⟨#[a]⟩) h (by simp) (show 1 ≤ 4300 by decide)).trans ?_
  congr 2
  simp [PySem.NumText.digitsVal]
theorem at0_eq {o : Array UInt8} {i : Nat} (h : i < o.size) : at0 o i = o[i].toNat := by simp [at0, h]
theorem picked33 {o : Array UInt8} {i : Nat} (h : 3 * i + 3 ≤ o.size) : KBy.picked o (some (0 + (i : Int) * 3)) (some (0 + (i : Int) * 3 + 3)) = #[o[3 * i], o[3 * i + 1], o[3 * i + 2]] := by
  have e0 : (0 + (i : Int) * 3) = ((3 * i : Nat) : Int) := by omega
  have e1 : (0 + (i : Int) * 3 + 3) = ((3 * i + 3 : Nat) : Int) := by omega
  rw [KBc.picked_eq, e1, e0]
  simp only [Option.elim, clipAt_nat]
  rw [show min (3 * i) o.size = 3 * i by omega, show min (3 * i + 3) o.size - 3 * i = 3 by omega]
  rw [List.drop_eq_getElem_cons (by simp; omega), List.drop_eq_getElem_cons (by simp; omega), List.drop_eq_getElem_cons (by simp; omega)]
  simp
theorem picked32 {o : Array UInt8} {i : Nat} (h : 3 * i + 2 = o.size) : KBy.picked o (some (0 + (i : Int) * 3)) (some (0 + (i : Int) * 3 + 3)) = #[o[3 * i], o[3 * i + 1]] := by
  have e0 : (0 + (i : Int) * 3) = ((3 * i : Nat) : Int) := by omega
  have e1 : (0 + (i : Int) * 3 + 3) = ((3 * i + 3 : Nat) : Int) := by omega
  rw [KBc.picked_eq, e1, e0]
  simp only [Option.elim, clipAt_nat]
  rw [show min (3 * i) o.size = 3 * i by omega, show min (3 * i + 3) o.size - 3 * i = 2 by omega]
  rw [List.drop_eq_getElem_cons (by simp; omega), List.drop_eq_getElem_cons (by simp; omega)]
  simp
theorem picked31 {o : Array UInt8} {i : Nat} (h : 3 * i + 1 = o.size) : KBy.picked o (some (0 + (i : Int) * 3)) (some (0 + (i : Int) * 3 + 3)) = #[o[3 * i]] := by
  have e0 : (0 + (i : Int) * 3) = ((3 * i : Nat) : Int) := by omega
  have e1 : (0 + (i : Int) * 3 + 3) = ((3 * i + 3 : Nat) : Int) := by omega
  rw [KBc.picked_eq, e1, e0]
  simp only [Option.elim, clipAt_nat]
  rw [show min (3 * i) o.size = 3 * i by omega, show min (3 * i + 3) o.size - 3 * i = 1 by omega]
  rw [List.drop_eq_getElem_cons (by simp; omega)]
  simp
set_option maxRecDepth 100000 in
set_option maxHeartbeats 8000000 in
theorem write1_ok {w : World} {mg mb : Str → Option Value} {b db lb q dq : Addr} {n : Nat} {t1 t2 t3 s1 s2 s3 s4 : Tok} {xs : List Value} {ns : List Int} {e' : Nat} {o : Array UInt8} (h1 : @LT.lt Nat _ b lb) (h2 : @LT.lt Nat _ db b) (h3 : @LT.lt Nat _ lb dq) (h4 : @LT.lt Nat _ dq q)
  (hi : IntsAre xs ns) (hn : n < 2 ^ 16) (hl : ns.length = (n + 7) / 8) (ho : o.size ≤ 9) (hal : ∀ c ∈ o, 48 ≤ c.toNat ∧ c.toNat ≤ 57) :
    Spec w mg mb 40 400 82 [.ref q, .ref b] [(b, instObj 146 db), (db, bufD w t1 t2 t3 lb n), (lb, PySem.W.listOf (List.toArray xs) e'), (q, instObj 92 dq), (dq, qrD w s1 s2 s3 s4 1 o)] 
     fun v sel => v = .none ∧ ∃ c, BufR w b db lb (pbits ns n (enc 1 o)) (n + (enc 1 o).length) c ∧ sel = c ++ [(q, instObj 92 dq), (dq, qrD w s1 s2 s3 s4 1 o)] := by
  have hbk : ∀ bs : List Bool, (pbits ns n bs).length = (n + bs.length + 7) / 8 := fun bs => pbits_length bs ns n hl
  have hwl : ∀ k, (words 1 o k).length ≤ 11 * k := words_length 1 o
  unfold Spec
  intro dp un gd cn cs a ccd cl outer A₀ base h₀ L m s Q E B F X N T hk hd hu hret
  (refine wpAny_call ?_; k_dflt (refine' enter_def ?k1 ?k2 ?k3 ?k4 ?k5 ?kA ?kF ?kK ?k6 ?k7 ?k8 ?k9 ?kB ?_ ?c2 ?c3 ?c4 ?c5; (case kA => exact rfl); (case kF => exact rfl); (case kK => assumption); (case k1 => k_asm); (case k2 => k_asm); (case k3 => k_asm); (case k4 => k_asm); (case k5 => k_asm); (case k6 => k_is); (case k7 => k_is); (case k8 => ktr_room); (case k9 => exact BindsTo.of_eq rfl); (case c5 => decide); (case kB => exact locs rfl); (case c2 => exact rfl); (case c3 => exact rfl); (case c4 => exact rfl); k_whole; intro g' L' h' hg' FG' F' N' B' X' T' st'; (try dsimp only); (try k_fold)))
  k_with_none
  k_with "my pyIter ref" => (refine hold ?_)
  k_with "my call ref" => (refine hold ?_)
  k_steps
  refine ⟨?_⟩
  (rename Fr _ _ _ _ => lF'; rename News _ _ _ _ => lN'; rename IsRange _ _ _ _ _ _ _ _ => rgX)
  refine for_range (n := (o.size + 2) / 3) (σ := List (Addr × Obj)) (fun c => c ++ [(q, instObj 92 dq), (dq, qrD w s1 s2 s3 s4 1 o)]) (fun _ => []) ["chars", "bit_length"] (fun i c => BufR w b db lb (pbits ns n (words 1 o i)) (n + (words 1 o i).length) c) [(b, instObj 146 db), (db, bufD w t1 t2 t3 lb n), (lb, PySem.W.listOf (List.toArray xs) e')] (by rfl) rgX ?ra ?rb lF' lN' ?rc ?rd ?turn ?done
  case rc => exact List.forall_mem_nil _
  case ra => exact small_step ⟨o.size, by omega⟩ ⟨3, by omega⟩ (show (3 : Nat) ≠ 0 by decide)
  case rb => unfold Builtin.Range.rangeSize; rw [if_pos (by decide)]; split <;> omega
  case rd => exact ⟨_, _, _, _, _, rfl, by simpa [pbits, words] using hi⟩
  case turn =>
    clear lF' lN'
    rintro c i t u h tk own hi1 hoff ⟨t1', t2', t3', xs', e2, rfl, hi2⟩ F2 N2
    simp only [List.cons_append, List.nil_append] at N2
    have hi2' : 3 * i < o.size := by omega
    have hwi := hwl i
    k_with "my decode" => (refine hold ?_)
    (try k_fold)
    by_cases h3' : 3 * i + 3 ≤ o.size
    · have hp := picked33 (o := o) (i := i) h3'
      have d0 := hal _ (Array.getElem_mem (show 3 * i < o.size by omega))
      have d1 := hal _ (Array.getElem_mem (show 3 * i + 1 < o.size by omega))
      have d2 := hal _ (Array.getElem_mem (show 3 * i + 2 < o.size by omega))
      have hw : word 1 o i = bitsOf (100 * (o[3 * i].toNat - 48) + 10 * (o[3 * i + 1].toNat - 48) + (o[3 * i + 2].toNat - 48)) 10 := by unfold word; rw [if_pos rfl, if_pos h3', at0_eq (show 3 * i < o.size by omega), at0_eq (show 3 * i + 1 < o.size by omega), at0_eq (show 3 * i + 2 < o.size by omega)]
      have hnd : ((#[o[3 * i], o[3 * i + 1], o[3 * i + 2]].size : Nat) : Int) = 3 := rfl
      have hint := dig3 d0 d1 d2
      have hlen : PySem.Str.length ⟨#[o[3 * i].toNat, o[3 * i + 1].toNat, o[3 * i + 2].toNat]⟩ ≤ 640 := (show 3 ≤ 640 by decide)
      k_steps
      all_goals (try (exfalso; omega))
      refine ⟨?_⟩
      k_here
      refine FY.decodeA (x := ⟨#[o[3 * i].toNat, o[3 * i + 1].toNat, o[3 * i + 2].toNat]⟩) (fun _ => FY.run3 (show o[3 * i].toNat < 128 by omega) (show o[3 * i + 1].toNat < 128 by omega) (show o[3 * i + 2].toNat < 128 by omega)) (show 3 ≤ 16777216 by decide) ?_
      intro t5 k5
      k_steps
      refine ⟨?_⟩
      (try rw [show (1 : Nat) = 1 by rfl])
      ((with_reducible show wpAny _ _ (call (Value.ref 129) _) _ _ _); k_dflt (refine' Spec.use (put_ok (num := 100 * (o[3 * i].toNat - 48) + 10 * (o[3 * i + 1].toNat - 48) + (o[3 * i + 2].toNat - 48)) (len := 10) h1 h2 hi2 ?pa ?pb ?pc) ((q, instObj 92 dq) :: (dq, qrD w s1 s2 s3 s4 1 o) :: own) ?k1 ?k2 ?k3 ?k4 ?k5 ?kK ?s1 ?s2 ?s3 ?d1 ?d2 ?_); (case k1 => k_asm); (case k2 => k_asm); (case k3 => k_asm); (case k4 => k_asm); (case k5 => k_asm); (case kK => first | exact rfl | assumption); (case s1 => (repeat (first | (apply sub_nil) | (apply sub_cons (by k_mem)) | (intro p hp; repeat (first | exact hp | apply sub_tail))))); (case s2 => (repeat (first | (apply sub_nil) | (apply sub_cons (by k_mem)) | (intro p hp; repeat (first | exact hp | apply sub_tail))))); (case s3 => exact apart_own (pre := [(q, instObj 92 dq), (dq, qrD w s1 s2 s3 s4 1 o)]) (by (repeat' (first | (refine List.forall_mem_cons.mpr ⟨?_, ?_⟩) | exact List.forall_mem_nil _ | k_ne | (intro p hp; exact List.forall_mem_nil _) | assumption))) hoff (fun z hz => List.mem_map_of_mem (List.mem_append_left _ hz))); (case d1 => first | exact room_lt hd (by decide) | ktr_room); (case d2 => first | exact room_lt hu (by decide) | ktr_units))
      case pa => omega
      case pb => exact hbk _
      case pc => omega
      rintro v sel' h' tk' ⟨rfl, t1'', t2'', t3'', xs'', e3, rfl, hi3⟩ F3 N3 _ _
      simp only [List.cons_append, List.nil_append] at N3
      k_steps
      refine TurnE.next [(b, instObj 146 db), (db, bufD w t1'' t2'' t3'' lb (n + (words 1 o i).length + 10 : Nat)), (lb, PySem.W.listOf xs''.toArray e3)] F3 N3 (by (repeat (first | (apply sub_nil) | (apply sub_cons (by k_mem)) | (intro p hp; repeat (first | exact hp | apply sub_tail))))) (by (repeat (first | (apply sub_nil) | (apply sub_cons (by k_mem)) | (intro p hp; repeat (first | exact hp | apply sub_tail))))) hoff (List.forall_mem_nil _) (fun z hz _ hs => by ((have hz3 : z ≠ "chars" := by rintro rfl; exact absurd hs (by decide)); first | ((have hz4 : z ≠ "bit_length" := by rintro rfl; exact absurd hs (by decide)); (simp only [hz, hz3, hz4, kstB, hs, if_false]); rfl) | ((simp only [hz, hz3, kstB, hs, if_false]); rfl))) ?_
      have hw2 : (words 1 o (i + 1)).length = (words 1 o i).length + 10 := by rw [words_succ, hw, List.length_append, bitsOf_length]
      show BufR w b db lb (pbits ns n (words 1 o (i + 1))) (n + (words 1 o (i + 1)).length) _
      rw [hw2, words_succ, pbits_app, hw]
      exact ⟨t1'', t2'', t3'', xs'', e3, rfl, hi3⟩
    by_cases h2' : 3 * i + 2 ≤ o.size
    · have hp := picked32 (o := o) (i := i) (by omega)
      have d0 := hal _ (Array.getElem_mem (show 3 * i < o.size by omega))
      have d1 := hal _ (Array.getElem_mem (show 3 * i + 1 < o.size by omega))
      have hw : word 1 o i = bitsOf (10 * (o[3 * i].toNat - 48) + (o[3 * i + 1].toNat - 48)) 7 := by unfold word; rw [if_pos rfl, if_neg h3', if_pos h2', at0_eq (show 3 * i < o.size by omega), at0_eq (show 3 * i + 1 < o.size by omega)]
      have hnd : ((#[o[3 * i], o[3 * i + 1]].size : Nat) : Int) = 2 := rfl
      have hint := dig2 d0 d1
      have hlen : PySem.Str.length ⟨#[o[3 * i].toNat, o[3 * i + 1].toNat]⟩ ≤ 640 := (show 2 ≤ 640 by decide)
      k_steps
      all_goals (try (exfalso; omega))
      refine ⟨?_⟩
      k_here
      refine FY.decodeA (x := ⟨#[o[3 * i].toNat, o[3 * i + 1].toNat]⟩) (fun _ => FY.run2 (show o[3 * i].toNat < 128 by omega) (show o[3 * i + 1].toNat < 128 by omega)) (show 2 ≤ 16777216 by decide) ?_
      intro t5 k5
      k_steps
      refine ⟨?_⟩
      (try rw [show (1 : Nat) = 1 by rfl])
      ((with_reducible show wpAny _ _ (call (Value.ref 129) _) _ _ _); k_dflt (refine' Spec.use (put_ok (num := 10 * (o[3 * i].toNat - 48) + (o[3 * i + 1].toNat - 48)) (len := 7) h1 h2 hi2 ?pa ?pb ?pc) ((q, instObj 92 dq) :: (dq, qrD w s1 s2 s3 s4 1 o) :: own) ?k1 ?k2 ?k3 ?k4 ?k5 ?kK ?s1 ?s2 ?s3 ?d1 ?d2 ?_); (case k1 => k_asm); (case k2 => k_asm); (case k3 => k_asm); (case k4 => k_asm); (case k5 => k_asm); (case kK => first | exact rfl | assumption); (case s1 => (repeat (first | (apply sub_nil) | (apply sub_cons (by k_mem)) | (intro p hp; repeat (first | exact hp | apply sub_tail))))); (case s2 => (repeat (first | (apply sub_nil) | (apply sub_cons (by k_mem)) | (intro p hp; repeat (first | exact hp | apply sub_tail))))); (case s3 => exact apart_own (pre := [(q, instObj 92 dq), (dq, qrD w s1 s2 s3 s4 1 o)]) (by (repeat' (first | (refine List.forall_mem_cons.mpr ⟨?_, ?_⟩) | exact List.forall_mem_nil _ | k_ne | (intro p hp; exact List.forall_mem_nil _) | assumption))) hoff (fun z hz => List.mem_map_of_mem (List.mem_append_left _ hz))); (case d1 => first | exact room_lt hd (by decide) | ktr_room); (case d2 => first | exact room_lt hu (by decide) | ktr_units))
      case pa => omega
      case pb => exact hbk _
      case pc => omega
      rintro v sel' h' tk' ⟨rfl, t1'', t2'', t3'', xs'', e3, rfl, hi3⟩ F3 N3 _ _
      simp only [List.cons_append, List.nil_append] at N3
      k_steps
      refine TurnE.next [(b, instObj 146 db), (db, bufD w t1'' t2'' t3'' lb (n + (words 1 o i).length + 7 : Nat)), (lb, PySem.W.listOf xs''.toArray e3)] F3 N3 (by (repeat (first | (apply sub_nil) | (apply sub_cons (by k_mem)) | (intro p hp; repeat (first | exact hp | apply sub_tail))))) (by (repeat (first | (apply sub_nil) | (apply sub_cons (by k_mem)) | (intro p hp; repeat (first | exact hp | apply sub_tail))))) hoff (List.forall_mem_nil _) (fun z hz _ hs => by ((have hz3 : z ≠ "chars" := by rintro rfl; exact absurd hs (by decide)); first | ((have hz4 : z ≠ "bit_length" := by rintro rfl; exact absurd hs (by decide)); (simp only [hz, hz3, hz4, kstB, hs, if_false]); rfl) | ((simp only [hz, hz3, kstB, hs, if_false]); rfl))) ?_
      have hw2 : (words 1 o (i + 1)).length = (words 1 o i).length + 7 := by rw [words_succ, hw, List.length_append, bitsOf_length]
      show BufR w b db lb (pbits ns n (words 1 o (i + 1))) (n + (words 1 o (i + 1)).length) _
      rw [hw2, words_succ, pbits_app, hw]
      exact ⟨t1'', t2'', t3'', xs'', e3, rfl, hi3⟩
    · have hp := picked31 (o := o) (i := i) (by omega)
      have d0 := hal _ (Array.getElem_mem (show 3 * i < o.size by omega))
      have hw : word 1 o i = bitsOf (o[3 * i].toNat - 48) 4 := by unfold word; rw [if_pos rfl, if_neg h3', if_neg h2', at0_eq (show 3 * i < o.size by omega)]
      have hnd : ((#[o[3 * i]].size : Nat) : Int) = 1 := rfl
      have hint := dig1 d0
      have hlen : PySem.Str.length ⟨#[o[3 * i].toNat]⟩ ≤ 640 := (show 1 ≤ 640 by decide)
      k_steps
      all_goals (try (exfalso; omega))
      refine ⟨?_⟩
      k_here
      refine FY.decodeA (x := ⟨#[o[3 * i].toNat]⟩) (fun _ => FY.run1 (show o[3 * i].toNat < 128 by omega)) (show 1 ≤ 16777216 by decide) ?_
      intro t5 k5
      k_steps
      refine ⟨?_⟩
      (try rw [show (1 : Nat) = 1 by rfl])
      ((with_reducible show wpAny _ _ (call (Value.ref 129) _) _ _ _); k_dflt (refine' Spec.use (put_ok (num := o[3 * i].toNat - 48) (len := 4) h1 h2 hi2 ?pa ?pb ?pc) ((q, instObj 92 dq) :: (dq, qrD w s1 s2 s3 s4 1 o) :: own) ?k1 ?k2 ?k3 ?k4 ?k5 ?kK ?s1 ?s2 ?s3 ?d1 ?d2 ?_); (case k1 => k_asm); (case k2 => k_asm); (case k3 => k_asm); (case k4 => k_asm); (case k5 => k_asm); (case kK => first | exact rfl | assumption); (case s1 => (repeat (first | (apply sub_nil) | (apply sub_cons (by k_mem)) | (intro p hp; repeat (first | exact hp | apply sub_tail))))); (case s2 => (repeat (first | (apply sub_nil) | (apply sub_cons (by k_mem)) | (intro p hp; repeat (first | exact hp | apply sub_tail))))); (case s3 => exact apart_own (pre := [(q, instObj 92 dq), (dq, qrD w s1 s2 s3 s4 1 o)]) (by (repeat' (first | (refine List.forall_mem_cons.mpr ⟨?_, ?_⟩) | exact List.forall_mem_nil _ | k_ne | (intro p hp; exact List.forall_mem_nil _) | assumption))) hoff (fun z hz => List.mem_map_of_mem (List.mem_append_left _ hz))); (case d1 => first | exact room_lt hd (by decide) | ktr_room); (case d2 => first | exact room_lt hu (by decide) | ktr_units))
      case pa => omega
      case pb => exact hbk _
      case pc => omega
      rintro v sel' h' tk' ⟨rfl, t1'', t2'', t3'', xs'', e3, rfl, hi3⟩ F3 N3 _ _
      simp only [List.cons_append, List.nil_append] at N3
      k_steps
      refine TurnE.next [(b, instObj 146 db), (db, bufD w t1'' t2'' t3'' lb (n + (words 1 o i).length + 4 : Nat)), (lb, PySem.W.listOf xs''.toArray e3)] F3 N3 (by (repeat (first | (apply sub_nil) | (apply sub_cons (by k_mem)) | (intro p hp; repeat (first | exact hp | apply sub_tail))))) (by (repeat (first | (apply sub_nil) | (apply sub_cons (by k_mem)) | (intro p hp; repeat (first | exact hp | apply sub_tail))))) hoff (List.forall_mem_nil _) (fun z hz _ hs => by ((have hz3 : z ≠ "chars" := by rintro rfl; exact absurd hs (by decide)); first | ((have hz4 : z ≠ "bit_length" := by rintro rfl; exact absurd hs (by decide)); (simp only [hz, hz3, hz4, kstB, hs, if_false]); rfl) | ((simp only [hz, hz3, kstB, hs, if_false]); rfl))) ?_
      have hw2 : (words 1 o (i + 1)).length = (words 1 o i).length + 4 := by rw [words_succ, hw, List.length_append, bitsOf_length]
      show BufR w b db lb (pbits ns n (words 1 o (i + 1))) (n + (words 1 o (i + 1)).length) _
      rw [hw2, words_succ, pbits_app, hw]
      exact ⟨t1'', t2'', t3'', xs'', e3, rfl, hi3⟩
  clear lF' lN' rgX
  rintro c u h tk ⟨t1', t2', t3', xs', e2, rfl, hi2⟩ F2 N2
  simp only [List.cons_append, List.nil_append] at N2
  dsimp only
  k_steps
  ((rename Fr _ _ _ _ => kF9); (rename News _ _ _ _ => kN9); (rename (_ : Heap) = rest0 _ _ => hg9); subst hg9; (rename Fr (rest0 _ _) _ _ _ => F9); (rename News (rest0 _ _) _ _ _ => N9); refine spec_ret (by assumption) kF9 kN9 F9 N9 (fun _ h => h) ?_)
  exact ⟨rfl, _, ⟨_, _, _, _, _, rfl, hi2⟩, rfl⟩
end
section

local macro_rules | `(tactic| walk_at "getMethod bytes") => `(tactic| (k_here; first | (with_reducible refine FY.m_isdigit ?_) | (with_reducible refine FY.m_find ?_) | (with_reducible refine KBd.method ?_)))
local macro_rules | `(tactic| walk_at "call builtin:bytes.isdigit") => `(tactic| (k_here; refine FY.isdigit ?_))
local macro_rules | `(tactic| walk_at "call builtin:bytes.find") => `(tactic| (k_here; refine FY.find (by k_extra "my find") ?_))
local macro_rules | `(tactic| walk_at "compareOp In int bytes") => `(tactic| (k_here; refine FY.inB (by omega) (by omega) ?_))
local macro_rules | `(tactic| walk_at "compareOp NotIn int bytes") => `(tactic| (k_here; refine FY.notInB (by omega) (by omega) ?_))


local macro_rules | `(tactic| walk_at "eval Name") => `(tactic| (k_here; (with_reducible show wpAny _ _ (eval (Expr.Name _ _) (compEnvC _ _ _ _)) _ _ _); k_dflt (first
  | (refine' ld_globalR ?mF ?mX ?mT ?me ?_ ?mg ?mk ?mx ?md; (case mx => rfl); (case mk => rfl); (case mg => rfl); (case md => decide); (case mF => k_asm); (case mX => k_asm); (case mT => k_asm); (case me => k_is); k_whole)
  | (refine' ld_builtR ?mF ?mX ?mT ?me ?mv ?mn ?_ ?mg ?mb ?mk ?mx ?md; (case mx => rfl); (case mk => rfl); (case mg => rfl); (case mb => rfl); (case md => decide); (case mF => k_asm); (case mX => k_asm); (case mT => k_asm); (case me => k_is); (case mv => boot_by_name); (case mn => decide); k_whole))))

section
variable {prog : Program} {w : World} {A A₀ : Around} {s : Shared} {K : Frag} {L : Addr} {h₀ base : Heap} {m mg mb : Str → Option Value} {news : List (Addr × Obj)} {p : Program} {loose : List Str}
theorem enter_defC {env : Env} {outer : List Env} {R : Result → Shared → Prop} {name qual : Str} {params : Arguments} {body : List Stmt} {scope : Scope} {dV kV doc pm cdv ct oc : Value} {an od : Option Addr} {osl : Array (Option Value)} {f : Addr} {args : Args} {binds : List (Str × Value)}
    (B : Below A₀ base outer h₀) (F : Fr h₀ L s.heap m) (X₀ : K.In h₀) (N : News h₀ L s.heap news) (T : TopRead p loose mg mb h₀) (hA : A.frames = some (env :: outer)) (hf : env.frame = some L) (hke : env.scope.kind = .function)
    (ho : K.lookup f = some ⟨oc, od, .func (fnOf name qual params body scope dV kV doc pm an cdv ct), osl⟩) (hcd : codeIn K cdv qual = true) (hroom : A.depth < recursionLimit)
    (hbind : BindsTo s (fnOf name qual params body scope dV kV doc pm an cdv ct) args binds) (hkind : (binds.all fun y => scope.names.lookup y.1 == some .local || scope.names.lookup y.1 == some .cell) = true)
    (hnd : ((cellsFrom 0 scope.names []).map (·.1)).Nodup)
    (h : ∀ g L' h₁ tk cells, g = rest0 s.heap news → Fr h₀ L g m → Fr g L' h₁ (bindL (envOfC qual scope L' f cdv).kindOf binds fun _ => none) → News g L' h₁ (cells ++ news) →
      CellsAre (bindC (envOfC qual scope L' f cdv).kindOf binds fun _ => none) (cellsFrom (L' + 1) scope.names []) cells → Below A base (env :: outer) g → K.In g → TopRead p loose mg mb g → h₀.StaysIn g → (∀ p ∈ news, p.1 < L') →
      wpAny (model prog w) (A.deeper (envOfC qual scope L' f cdv)) (execs body (envOfC qual scope L' f cdv))
        (fun fl s' => LeaveK h₀ L m g R (match fl with | .ret v => v | _ => .none) s')
        (fun e s' => wpAny (model prog w) (A.deeper (envOfC qual scope L' f cdv)) (leaving (envOfC qual scope L' f cdv) e) (fun _ s'' => R (.error e) s'') (fun e' s'' => R (.error e') s'') s')
        { s with heap := h₁, toks := tk })
    (hco : scope.isCoroutine = false) (hgen : scope.isGenerator = false) (hk : scope.kind = .function) : codeAny (model prog w) A (.call (.ref f) args) R s := by
  obtain ⟨FG, BG, st, lv⟩ := groundX (R := R) B F N hA hf hke
  refine codeAny_call_function (fd := fnOf name qual params body scope dV kV doc pm an cdv ct) hroom ((X₀.keeps F.keep) _ _ ho) rfl hco hgen rfl (codeRec_of (X₀.keeps F.keep) hcd) (hbind _ _ _ _ ?_)
  refine wpAny_newFunctionEnv_cells hk (kindsX hkind _) fun env' he s' x => ?_
  subst he
  refine ⟨(T.nolimit.keeps F.keep).keeps x.toInCall.keep, codeAny_func ?_⟩
  obtain ⟨h₁, tk, rfl, _⟩ := x.done
  have hk₁ := x.toInCall.keep
  obtain ⟨cells, NC, Y⟩ := Cl.news (h₀ := s.heap) (Nat.le_refl _) fun n c hm => ⟨x.cell n c (lookup_of_mem_nodup (cellsFrom_names scope.names 0 (s.heap.objs.size + 1) [] [] rfl ▸ hnd) hm), x.above n c hm⟩
  refine wpAny_mono (h _ s.heap.objs.size h₁ tk cells rfl FG ⟨x.toInCall.ns, fun b o e => hk₁ b o (of_hideAll _ e), Nat.le_of_eq (hideAll_size _ _)⟩ (fun p hp => ?_) Y BG (X₀.keeps st) (T.keeps st) st (fun p hp => Heap.lt_size (N p hp).1)) (fun fl s' hl => lv _ _ hl) fun _ _ y => y
  rcases List.mem_append.mp hp with hp | hp
  · refine ⟨(NC p hp).1, (NC p hp).2.1, ?_⟩
    cases q : (hideAll s.heap (news.map (·.1))).get? p.1 with
    | none => rfl
    | some o => have := of_hideAll _ q; rw [(NC p hp).2.2] at this; cases this
  · exact ⟨hk₁ _ _ (N p hp).1, Nat.ne_of_lt (Heap.lt_size (N p hp).1), hideAll_none _ (List.mem_map_of_mem hp)⟩
end
/-- some bytes as values -/
def Bts (ys : List Value) (n : Nat) : Prop := ∃ ms : List Int, IntsAre ys ms ∧ (∀ z ∈ ms, 0 ≤ z ∧ z < 256) ∧ ms.length = n
theorem Bts.snoc {ys : List Value} {n : Nat} {z : Int} {t : Tok} (h : Bts ys n) (h0 : 0 ≤ z) (h1 : z < 256) : Bts (ys ++ [Value.int z t]) (n + 1) := by
  obtain ⟨ms, hi, hb, hl⟩ := h
  refine ⟨ms ++ [z], intsAre_append hi (IntsAre.cons _ _ IntsAre.nil), fun y hy => ?_, by simp [hl]⟩
  rcases List.mem_append.mp hy with hy | hy
  · exact hb y hy
  · rw [List.mem_singleton.mp hy]; exact ⟨h0, h1⟩
set_option maxRecDepth 100000 in
set_option maxHeartbeats 8000000 in
theorem octets_ok {w : World} {mg mb : Str → Option Value} {a l : Addr} {xs : List Value} {ns : List Int} {el e i x size : Nat} {t t' ts : Tok} (h1 : @LT.lt Nat _ l a)
  (hi : IntsAre xs ns) (hn : ns.length ≤ 63) (hil : i ≤ ns.length) (hx : x < 2147483647) (hsz : size ≤ 9) :
    Spec w mg mb 30 300 162 [.ref a, .int size ts] [(a, PySem.W.listOf [Value.ref l, Value.int i t, Value.int x t'].toArray e), (l, PySem.W.listOf xs.toArray el)] fun v sel => ∃ (b : Array UInt8) (t : Tok), v = .bytes b t ∧ b.size = size ∧ StR a l xs el ns.length sel := by
  unfold Spec
  intro dp un gd cn cs a' ccd cl outer A₀ base h₀ L m s Q E B F X N T hk hd hu hret
  (refine wpAny_call ?_; k_dflt (refine' enter_defC ?k1 ?k2 ?k3 ?k4 ?k5 ?kA ?kF ?kK ?k6 ?k7 ?k8 ?k9 ?kB ?kD ?_ ?c2 ?c3 ?c4; (case kA => exact rfl); (case kF => exact rfl); (case kK => assumption); (case k1 => k_asm); (case k2 => k_asm); (case k3 => k_asm); (case k4 => k_asm); (case k5 => k_asm); (case k6 => k_is); (case k7 => k_is); (case k8 => ktr_room); (case k9 => exact BindsTo.of_eq rfl); (case kB => exact rfl); (case kD => decide +kernel); (case c2 => exact rfl); (case c3 => exact rfl); (case c4 => exact rfl); k_whole; intro g' L' h' tk' cells' hg' FG' F' N' Y' B' X' T' st' l1; (try k_lt l1); obtain ⟨oc1, oc2, hE9, d1, d2⟩ := PyProof.Rows.CellsAre.two Y'; subst hE9; clear Y'; (try simp only [List.cons_append, List.nil_append] at N'); (try dsimp only); (try k_fold)))
  have d2 : oc2.data = .cell (some (.ref a)) := d2
  k_with_none
  k_with "my call ref" => (refine hold ?_)
  k_with "my eval ListComp" => (refine hold ?_)
  k_steps
  refine ⟨?_⟩
  ((with_reducible show wpAny _ _ (call (Value.ref 157) _) _ _ _); k_dflt (refine' Spec.use (next_ok (many := 4) h1 hi hn hil hx (by decide) (by decide)) ([(L' + 1 + 1, _), (L' + 1, _)]) ?k1 ?k2 ?k3 ?k4 ?k5 ?kK ?s1 ?s2 ?s3 ?d1 ?d2 ?_); (case k1 => k_asm); (case k2 => k_asm); (case k3 => k_asm); (case k4 => k_asm); (case k5 => k_asm); (case kK => first | exact rfl | assumption); (case s1 => (repeat (first | (apply sub_nil) | (apply sub_cons (by k_mem)) | (intro p hp; repeat (first | exact hp | apply sub_tail))))); (case s2 => (repeat (first | (apply sub_nil) | (apply sub_cons (by k_mem)) | (intro p hp; repeat (first | exact hp | apply sub_tail))))); (case s3 => (repeat' (first | (refine List.forall_mem_cons.mpr ⟨?_, ?_⟩) | exact List.forall_mem_nil _ | k_ne | (intro p hp; exact List.forall_mem_nil _) | assumption))); (case d1 => first | exact room_lt hd (by decide) | ktr_room); (case d2 => first | exact room_lt hu (by decide) | ktr_units))
  rintro v sel' h5 tk5 ⟨r, tr, rfl, hr, i2, x2, t2, t2', e2, rfl, hi2, hx2⟩ F5 N5 _ _
  simp only [List.cons_append, List.nil_append] at N5
  obtain rfl | rfl | rfl | rfl : r = 0 ∨ r = 1 ∨ r = 2 ∨ r = 3 := by omega
  · k_steps
    refine ⟨?_⟩
    (rename Fr _ _ _ _ => F6; rename News _ _ _ _ => N6)
    k_dflt (refine LCg.ListComp_U (F₀ := F6) (by with_unfolding_all rfl) (by decide) (by rfl) (by decide) (by rfl) ?_)
    k_with "my CompSrc" => (refine hold ?_)
    k_with "my CompEnd" => (refine hold ?_)
    k_steps
    refine ⟨?_⟩
    (rename Fr _ _ _ _ => F7; rename News _ _ _ _ => N7; rename IsRange _ _ _ _ _ _ _ _ => rgX)
    refine LCg.CompSrc.range (n := size) (by rfl) F7 (news := [(a, PySem.W.listOf [Value.ref l, Value.int i2 t2, Value.int x2 t2'].toArray e2), (l, PySem.W.listOf xs.toArray el), (L' + 1 + 1, _), (L' + 1, _)]) (fun p hp => N7 p (by revert p; (repeat (first | (apply sub_nil) | (apply sub_cons (by k_mem)) | (intro p hp; repeat (first | exact hp | apply sub_tail)))))) rgX ?ra ?rb ?rc ?_
    case ra => exact small_one (by omega) (by omega) (by omega) (by omega)
    case rb => exact (rangeSize_nat _ _).trans (by omega)
    case rc => rw [PySem.sizeLine_eq]; omega
    intro g9
    refine comp_ind (fun i ys news => ∃ c os tb, StR a l xs el ns.length c ∧ Bts ys i ∧ os.data = Data.cell (some (Value.bytes #[48, 49, 50, 51, 52, 53, 54, 55, 56, 57] tb)) ∧ news = c ++ [(L' + 1 + 1, os), (L' + 1, oc2)]) ?step ?fin size 0 [] _ (Nat.zero_add _) ⟨_, _, _, ⟨i2, x2, t2, t2', e2, rfl, hi2, hx2⟩, ⟨[], IntsAre.nil, (fun _ h => nomatch h), rfl⟩, by assumption, rfl⟩
    case step =>
      clear F7 N7 rgX
      rintro i ys news v I oI C oC D m₂ h tk E' hi1 ⟨c, os, tb, ⟨i3, x3, t3, t3', e3, rfl, hi3, hx3⟩, hb, hos, rfl⟩ ⟨tv, rfl⟩ hC hxv F8 N8 off8 ne8
      simp only [List.cons_append, List.nil_append] at N8
      simp only [LCg.Off3, and_true, List.cons_append, List.nil_append] at off8
      k_fold
      k_steps
      refine ⟨?_⟩
      ((with_reducible show wpAny _ _ (call (Value.ref 157) _) _ _ _); k_dflt (refine' Spec.use (next_ok (many := 10) h1 hi hn hi3 hx3 (by decide) (by decide)) ([(I, oI), (C, oC), (D, LCg.lst ys), (L' + 1 + 1, os), (L' + 1, oc2)]) ?k1 ?k2 ?k3 ?k4 ?k5 ?kK ?s1 ?s2 ?s3 ?d1 ?d2 ?_); (case k1 => k_asm); (case k2 => k_asm); (case k3 => k_asm); (case k4 => k_asm); (case k5 => k_asm); (case kK => first | exact rfl | assumption); (case s1 => (repeat (first | (apply sub_nil) | (apply sub_cons (by k_mem)) | (intro p hp; repeat (first | exact hp | apply sub_tail))))); (case s2 => (repeat (first | (apply sub_nil) | (apply sub_cons (by k_mem)) | (intro p hp; repeat (first | exact hp | apply sub_tail))))); (case s3 => (repeat' (first | (refine List.forall_mem_cons.mpr ⟨?_, ?_⟩) | exact List.forall_mem_nil _ | k_ne | (intro p hp; exact List.forall_mem_nil _) | assumption))); (case d1 => first | exact room_lt hd (by decide) | ktr_room); (case d2 => first | exact room_lt hu (by decide) | ktr_units))
      rintro v sel' h10 tk10 ⟨r, tr, rfl, hr, i4, x4, t4, t4', e4, rfl, hi4, hx4⟩ F10 N10 _ _
      simp only [List.cons_append, List.nil_append] at N10
      k_steps
      refine ⟨?_⟩
      (rename Fr _ _ _ _ => F11; rename News _ _ _ _ => N11)
      refine LCg.CompEnd.intro F11 N11 [(a, PySem.W.listOf [Value.ref l, Value.int i4 t4, Value.int x4 t4'].toArray e4), (l, PySem.W.listOf xs.toArray el), (L' + 1 + 1, os), (L' + 1, oc2)] (by (repeat (first | (apply sub_nil) | (apply sub_cons (by k_mem)) | (intro p hp; repeat (first | exact hp | apply sub_tail))))) ?_ trivial ⟨_, _, _, ⟨i4, x4, t4, t4', e4, rfl, hi4, hx4⟩, Bts.snoc hb (by omega) ?_, hos, rfl⟩
      · simp only [LCg.Off3, and_true]
        exact off8
      · exact Int.ofNat_lt.mpr (UInt8.toNat_lt _)
    case fin =>
      clear F7 N7 rgX
      rintro ys news ⟨c, os, tb, ⟨i3, x3, t3, t3', e3, rfl, hi3, hx3⟩, ⟨ms, hms, hmb, hml⟩, hos, rfl⟩
      have kin : KBa.In ms := hmb
      k_steps
      ((rename Fr _ _ _ _ => kF9); (rename News _ _ _ _ => kN9); (rename (_ : Heap) = rest0 _ _ => hg9); subst hg9; (rename Fr (rest0 _ _) _ _ _ => F9); (rename News (rest0 _ _) _ _ _ => N9); refine spec_ret (sel' := [(a, PySem.W.listOf [Value.ref l, Value.int i3 t3, Value.int x3 t3'].toArray e3), (l, PySem.W.listOf xs.toArray el)]) (by assumption) kF9 kN9 F9 N9 (by (repeat (first | (apply sub_nil) | (apply sub_cons (by k_mem)) | (intro p hp; repeat (first | exact hp | apply sub_tail))))) ?_)
      exact ⟨_, _, rfl, (byteArr_size ms).trans hml, i3, x3, _, _, _, rfl, hi3, hx3⟩
  · k_steps
    refine ⟨?_⟩
    (rename Fr _ _ _ _ => F6; rename News _ _ _ _ => N6)
    k_dflt (refine LCg.ListComp_U (F₀ := F6) (by with_unfolding_all rfl) (by decide) (by rfl) (by decide) (by rfl) ?_)
    k_with "my CompSrc" => (refine hold ?_)
    k_with "my CompEnd" => (refine hold ?_)
    k_steps
    refine ⟨?_⟩
    (rename Fr _ _ _ _ => F7; rename News _ _ _ _ => N7; rename IsRange _ _ _ _ _ _ _ _ => rgX)
    refine LCg.CompSrc.range (n := size) (by rfl) F7 (news := [(a, PySem.W.listOf [Value.ref l, Value.int i2 t2, Value.int x2 t2'].toArray e2), (l, PySem.W.listOf xs.toArray el), (L' + 1 + 1, _), (L' + 1, _)]) (fun p hp => N7 p (by revert p; (repeat (first | (apply sub_nil) | (apply sub_cons (by k_mem)) | (intro p hp; repeat (first | exact hp | apply sub_tail)))))) rgX ?ra ?rb ?rc ?_
    case ra => exact small_one (by omega) (by omega) (by omega) (by omega)
    case rb => exact (rangeSize_nat _ _).trans (by omega)
    case rc => rw [PySem.sizeLine_eq]; omega
    intro g9
    refine comp_ind (fun i ys news => ∃ c os tb, StR a l xs el ns.length c ∧ Bts ys i ∧ os.data = Data.cell (some (Value.bytes #[48, 49, 53, 57, 65, 90, 32, 36, 37, 42, 43, 45, 46, 47, 58] tb)) ∧ news = c ++ [(L' + 1 + 1, os), (L' + 1, oc2)]) ?step ?fin size 0 [] _ (Nat.zero_add _) ⟨_, _, _, ⟨i2, x2, t2, t2', e2, rfl, hi2, hx2⟩, ⟨[], IntsAre.nil, (fun _ h => nomatch h), rfl⟩, by assumption, rfl⟩
    case step =>
      clear F7 N7 rgX
      rintro i ys news v I oI C oC D m₂ h tk E' hi1 ⟨c, os, tb, ⟨i3, x3, t3, t3', e3, rfl, hi3, hx3⟩, hb, hos, rfl⟩ ⟨tv, rfl⟩ hC hxv F8 N8 off8 ne8
      simp only [List.cons_append, List.nil_append] at N8
      simp only [LCg.Off3, and_true, List.cons_append, List.nil_append] at off8
      k_fold
      k_steps
      refine ⟨?_⟩
      ((with_reducible show wpAny _ _ (call (Value.ref 157) _) _ _ _); k_dflt (refine' Spec.use (next_ok (many := 15) h1 hi hn hi3 hx3 (by decide) (by decide)) ([(I, oI), (C, oC), (D, LCg.lst ys), (L' + 1 + 1, os), (L' + 1, oc2)]) ?k1 ?k2 ?k3 ?k4 ?k5 ?kK ?s1 ?s2 ?s3 ?d1 ?d2 ?_); (case k1 => k_asm); (case k2 => k_asm); (case k3 => k_asm); (case k4 => k_asm); (case k5 => k_asm); (case kK => first | exact rfl | assumption); (case s1 => (repeat (first | (apply sub_nil) | (apply sub_cons (by k_mem)) | (intro p hp; repeat (first | exact hp | apply sub_tail))))); (case s2 => (repeat (first | (apply sub_nil) | (apply sub_cons (by k_mem)) | (intro p hp; repeat (first | exact hp | apply sub_tail))))); (case s3 => (repeat' (first | (refine List.forall_mem_cons.mpr ⟨?_, ?_⟩) | exact List.forall_mem_nil _ | k_ne | (intro p hp; exact List.forall_mem_nil _) | assumption))); (case d1 => first | exact room_lt hd (by decide) | ktr_room); (case d2 => first | exact room_lt hu (by decide) | ktr_units))
      rintro v sel' h10 tk10 ⟨r, tr, rfl, hr, i4, x4, t4, t4', e4, rfl, hi4, hx4⟩ F10 N10 _ _
      simp only [List.cons_append, List.nil_append] at N10
      k_steps
      refine ⟨?_⟩
      (rename Fr _ _ _ _ => F11; rename News _ _ _ _ => N11)
      refine LCg.CompEnd.intro F11 N11 [(a, PySem.W.listOf [Value.ref l, Value.int i4 t4, Value.int x4 t4'].toArray e4), (l, PySem.W.listOf xs.toArray el), (L' + 1 + 1, os), (L' + 1, oc2)] (by (repeat (first | (apply sub_nil) | (apply sub_cons (by k_mem)) | (intro p hp; repeat (first | exact hp | apply sub_tail))))) ?_ trivial ⟨_, _, _, ⟨i4, x4, t4, t4', e4, rfl, hi4, hx4⟩, Bts.snoc hb (by omega) ?_, hos, rfl⟩
      · simp only [LCg.Off3, and_true]
        exact off8
      · exact Int.ofNat_lt.mpr (UInt8.toNat_lt _)
    case fin =>
      clear F7 N7 rgX
      rintro ys news ⟨c, os, tb, ⟨i3, x3, t3, t3', e3, rfl, hi3, hx3⟩, ⟨ms, hms, hmb, hml⟩, hos, rfl⟩
      have kin : KBa.In ms := hmb
      k_steps
      ((rename Fr _ _ _ _ => kF9); (rename News _ _ _ _ => kN9); (rename (_ : Heap) = rest0 _ _ => hg9); subst hg9; (rename Fr (rest0 _ _) _ _ _ => F9); (rename News (rest0 _ _) _ _ _ => N9); refine spec_ret (sel' := [(a, PySem.W.listOf [Value.ref l, Value.int i3 t3, Value.int x3 t3'].toArray e3), (l, PySem.W.listOf xs.toArray el)]) (by assumption) kF9 kN9 F9 N9 (by (repeat (first | (apply sub_nil) | (apply sub_cons (by k_mem)) | (intro p hp; repeat (first | exact hp | apply sub_tail))))) ?_)
      exact ⟨_, _, rfl, (byteArr_size ms).trans hml, i3, x3, _, _, _, rfl, hi3, hx3⟩
  · k_steps
    refine ⟨?_⟩
    (rename Fr _ _ _ _ => F6; rename News _ _ _ _ => N6)
    k_dflt (refine LCg.ListComp_U (F₀ := F6) (by with_unfolding_all rfl) (by decide) (by rfl) (by decide) (by rfl) ?_)
    k_with "my CompSrc" => (refine hold ?_)
    k_with "my CompEnd" => (refine hold ?_)
    k_steps
    refine ⟨?_⟩
    (rename Fr _ _ _ _ => F7; rename News _ _ _ _ => N7; rename IsRange _ _ _ _ _ _ _ _ => rgX)
    refine LCg.CompSrc.range (n := size) (by rfl) F7 (news := [(a, PySem.W.listOf [Value.ref l, Value.int i2 t2, Value.int x2 t2'].toArray e2), (l, PySem.W.listOf xs.toArray el), (L' + 1 + 1, _), (L' + 1, _)]) (fun p hp => N7 p (by revert p; (repeat (first | (apply sub_nil) | (apply sub_cons (by k_mem)) | (intro p hp; repeat (first | exact hp | apply sub_tail)))))) rgX ?ra ?rb ?rc ?_
    case ra => exact small_one (by omega) (by omega) (by omega) (by omega)
    case rb => exact (rangeSize_nat _ _).trans (by omega)
    case rc => rw [PySem.sizeLine_eq]; omega
    intro g9
    refine comp_ind (fun i ys news => ∃ c os tb, StR a l xs el ns.length c ∧ Bts ys i ∧ os.data = Data.cell (some (Value.bytes #[48, 57, 65, 90, 58] tb)) ∧ news = c ++ [(L' + 1 + 1, os), (L' + 1, oc2)]) ?step ?fin size 0 [] _ (Nat.zero_add _) ⟨_, _, _, ⟨i2, x2, t2, t2', e2, rfl, hi2, hx2⟩, ⟨[], IntsAre.nil, (fun _ h => nomatch h), rfl⟩, by assumption, rfl⟩
    case step =>
      clear F7 N7 rgX
      rintro i ys news v I oI C oC D m₂ h tk E' hi1 ⟨c, os, tb, ⟨i3, x3, t3, t3', e3, rfl, hi3, hx3⟩, hb, hos, rfl⟩ ⟨tv, rfl⟩ hC hxv F8 N8 off8 ne8
      simp only [List.cons_append, List.nil_append] at N8
      simp only [LCg.Off3, and_true, List.cons_append, List.nil_append] at off8
      k_fold
      k_steps
      refine ⟨?_⟩
      ((with_reducible show wpAny _ _ (call (Value.ref 157) _) _ _ _); k_dflt (refine' Spec.use (next_ok (many := 5) h1 hi hn hi3 hx3 (by decide) (by decide)) ([(I, oI), (C, oC), (D, LCg.lst ys), (L' + 1 + 1, os), (L' + 1, oc2)]) ?k1 ?k2 ?k3 ?k4 ?k5 ?kK ?s1 ?s2 ?s3 ?d1 ?d2 ?_); (case k1 => k_asm); (case k2 => k_asm); (case k3 => k_asm); (case k4 => k_asm); (case k5 => k_asm); (case kK => first | exact rfl | assumption); (case s1 => (repeat (first | (apply sub_nil) | (apply sub_cons (by k_mem)) | (intro p hp; repeat (first | exact hp | apply sub_tail))))); (case s2 => (repeat (first | (apply sub_nil) | (apply sub_cons (by k_mem)) | (intro p hp; repeat (first | exact hp | apply sub_tail))))); (case s3 => (repeat' (first | (refine List.forall_mem_cons.mpr ⟨?_, ?_⟩) | exact List.forall_mem_nil _ | k_ne | (intro p hp; exact List.forall_mem_nil _) | assumption))); (case d1 => first | exact room_lt hd (by decide) | ktr_room); (case d2 => first | exact room_lt hu (by decide) | ktr_units))
      rintro v sel' h10 tk10 ⟨r, tr, rfl, hr, i4, x4, t4, t4', e4, rfl, hi4, hx4⟩ F10 N10 _ _
      simp only [List.cons_append, List.nil_append] at N10
      k_steps
      refine ⟨?_⟩
      (rename Fr _ _ _ _ => F11; rename News _ _ _ _ => N11)
      refine LCg.CompEnd.intro F11 N11 [(a, PySem.W.listOf [Value.ref l, Value.int i4 t4, Value.int x4 t4'].toArray e4), (l, PySem.W.listOf xs.toArray el), (L' + 1 + 1, os), (L' + 1, oc2)] (by (repeat (first | (apply sub_nil) | (apply sub_cons (by k_mem)) | (intro p hp; repeat (first | exact hp | apply sub_tail))))) ?_ trivial ⟨_, _, _, ⟨i4, x4, t4, t4', e4, rfl, hi4, hx4⟩, Bts.snoc hb (by omega) ?_, hos, rfl⟩
      · simp only [LCg.Off3, and_true]
        exact off8
      · exact Int.ofNat_lt.mpr (UInt8.toNat_lt _)
    case fin =>
      clear F7 N7 rgX
      rintro ys news ⟨c, os, tb, ⟨i3, x3, t3, t3', e3, rfl, hi3, hx3⟩, ⟨ms, hms, hmb, hml⟩, hos, rfl⟩
      have kin : KBa.In ms := hmb
      k_steps
      ((rename Fr _ _ _ _ => kF9); (rename News _ _ _ _ => kN9); (rename (_ : Heap) = rest0 _ _ => hg9); subst hg9; (rename Fr (rest0 _ _) _ _ _ => F9); (rename News (rest0 _ _) _ _ _ => N9); refine spec_ret (sel' := [(a, PySem.W.listOf [Value.ref l, Value.int i3 t3, Value.int x3 t3'].toArray e3), (l, PySem.W.listOf xs.toArray el)]) (by assumption) kF9 kN9 F9 N9 (by (repeat (first | (apply sub_nil) | (apply sub_cons (by k_mem)) | (intro p hp; repeat (first | exact hp | apply sub_tail))))) ?_)
      exact ⟨_, _, rfl, (byteArr_size ms).trans hml, i3, x3, _, _, _, rfl, hi3, hx3⟩
  · k_steps
    refine ⟨?_⟩
    (rename Fr _ _ _ _ => F6; rename News _ _ _ _ => N6)
    k_dflt (refine LCg.ListComp_U (F₀ := F6) (by with_unfolding_all rfl) (by decide) (by rfl) (by decide) (by rfl) ?_)
    k_with "my CompSrc" => (refine hold ?_)
    k_with "my CompEnd" => (refine hold ?_)
    k_steps
    refine ⟨?_⟩
    (rename Fr _ _ _ _ => F7; rename News _ _ _ _ => N7; rename IsRange _ _ _ _ _ _ _ _ => rgX)
    refine LCg.CompSrc.range (n := size) (by rfl) F7 (news := [(a, PySem.W.listOf [Value.ref l, Value.int i2 t2, Value.int x2 t2'].toArray e2), (l, PySem.W.listOf xs.toArray el), (L' + 1 + 1, _), (L' + 1, _)]) (fun p hp => N7 p (by revert p; (repeat (first | (apply sub_nil) | (apply sub_cons (by k_mem)) | (intro p hp; repeat (first | exact hp | apply sub_tail)))))) rgX ?ra ?rb ?rc ?_
    case ra => exact small_one (by omega) (by omega) (by omega) (by omega)
    case rb => exact (rangeSize_nat _ _).trans (by omega)
    case rc => rw [PySem.sizeLine_eq]; omega
    intro g9
    refine comp_ind (fun i ys news => ∃ c os, StR a l xs el ns.length c ∧ Bts ys i ∧ os.data = Data.cell (some (Value.none)) ∧ news = c ++ [(L' + 1 + 1, os), (L' + 1, oc2)]) ?step ?fin size 0 [] _ (Nat.zero_add _) ⟨_, _, ⟨i2, x2, t2, t2', e2, rfl, hi2, hx2⟩, ⟨[], IntsAre.nil, (fun _ h => nomatch h), rfl⟩, by assumption, rfl⟩
    case step =>
      clear F7 N7 rgX
      rintro i ys news v I oI C oC D m₂ h tk E' hi1 ⟨c, os, ⟨i3, x3, t3, t3', e3, rfl, hi3, hx3⟩, hb, hos, rfl⟩ ⟨tv, rfl⟩ hC hxv F8 N8 off8 ne8
      simp only [List.cons_append, List.nil_append] at N8
      simp only [LCg.Off3, and_true, List.cons_append, List.nil_append] at off8
      k_fold
      k_steps
      refine ⟨?_⟩
      ((with_reducible show wpAny _ _ (call (Value.ref 157) _) _ _ _); k_dflt (refine' Spec.use (next_ok (many := 256) h1 hi hn hi3 hx3 (by decide) (by decide)) ([(I, oI), (C, oC), (D, LCg.lst ys), (L' + 1 + 1, os), (L' + 1, oc2)]) ?k1 ?k2 ?k3 ?k4 ?k5 ?kK ?s1 ?s2 ?s3 ?d1 ?d2 ?_); (case k1 => k_asm); (case k2 => k_asm); (case k3 => k_asm); (case k4 => k_asm); (case k5 => k_asm); (case kK => first | exact rfl | assumption); (case s1 => (repeat (first | (apply sub_nil) | (apply sub_cons (by k_mem)) | (intro p hp; repeat (first | exact hp | apply sub_tail))))); (case s2 => (repeat (first | (apply sub_nil) | (apply sub_cons (by k_mem)) | (intro p hp; repeat (first | exact hp | apply sub_tail))))); (case s3 => (repeat' (first | (refine List.forall_mem_cons.mpr ⟨?_, ?_⟩) | exact List.forall_mem_nil _ | k_ne | (intro p hp; exact List.forall_mem_nil _) | assumption))); (case d1 => first | exact room_lt hd (by decide) | ktr_room); (case d2 => first | exact room_lt hu (by decide) | ktr_units))
      rintro v sel' h10 tk10 ⟨r, tr, rfl, hr, i4, x4, t4, t4', e4, rfl, hi4, hx4⟩ F10 N10 _ _
      simp only [List.cons_append, List.nil_append] at N10
      k_steps
      refine ⟨?_⟩
      (rename Fr _ _ _ _ => F11; rename News _ _ _ _ => N11)
      refine LCg.CompEnd.intro F11 N11 [(a, PySem.W.listOf [Value.ref l, Value.int i4 t4, Value.int x4 t4'].toArray e4), (l, PySem.W.listOf xs.toArray el), (L' + 1 + 1, os), (L' + 1, oc2)] (by (repeat (first | (apply sub_nil) | (apply sub_cons (by k_mem)) | (intro p hp; repeat (first | exact hp | apply sub_tail))))) ?_ trivial ⟨_, _, ⟨i4, x4, t4, t4', e4, rfl, hi4, hx4⟩, Bts.snoc hb (by omega) ?_, hos, rfl⟩
      · simp only [LCg.Off3, and_true]
        exact off8
      · omega
    case fin =>
      clear F7 N7 rgX
      rintro ys news ⟨c, os, ⟨i3, x3, t3, t3', e3, rfl, hi3, hx3⟩, ⟨ms, hms, hmb, hml⟩, hos, rfl⟩
      have kin : KBa.In ms := hmb
      k_steps
      ((rename Fr _ _ _ _ => kF9); (rename News _ _ _ _ => kN9); (rename (_ : Heap) = rest0 _ _ => hg9); subst hg9; (rename Fr (rest0 _ _) _ _ _ => F9); (rename News (rest0 _ _) _ _ _ => N9); refine spec_ret (sel' := [(a, PySem.W.listOf [Value.ref l, Value.int i3 t3, Value.int x3 t3'].toArray e3), (l, PySem.W.listOf xs.toArray el)]) (by assumption) kF9 kN9 F9 N9 (by (repeat (first | (apply sub_nil) | (apply sub_cons (by k_mem)) | (intro p hp; repeat (first | exact hp | apply sub_tail))))) ?_)
      exact ⟨_, _, rfl, (byteArr_size ms).trans hml, i3, x3, _, _, _, rfl, hi3, hx3⟩
end
section
def b2i (b : Bool) : Int := if b then 1 else 0
theorem bitsOf_succ (x k : Nat) : bitsOf x (k + 1) = bitsOf (x / 2) k ++ [x % 2 == 1] := by
  unfold bitsOf
  rw [List.range_succ, List.map_append, List.map_singleton]
  congr 1
  · refine List.map_congr_left fun i hi => ?_
    have hi' := List.mem_range.mp hi
    have e : k + 1 - 1 - i = (k - 1 - i) + 1 := by omega
    rw [e, Nat.pow_succ, Nat.mul_comm, Nat.div_div_eq_div_mul]
  · simp
theorem fig_bitsOf : ∀ (k x : Nat), x < 2 ^ k → fig ((bitsOf x k).map b2i) = x
  | 0, x, h => by
    have : x = 0 := by simpa using h
    subst this; rfl
  | k + 1, x, h => by
    rw [bitsOf_succ, List.map_append, List.map_singleton, fig_snoc, fig_bitsOf k (x / 2) (by rw [Nat.pow_succ] at h; omega)]
    unfold b2i
    by_cases hx : x % 2 = 1
    · simp [hx]; omega
    · simp [hx]; omega
theorem fig_at {ns : List Int} {p r : List Bool} {x k : Nat} (h : ns = (p ++ (bitsOf x k ++ r)).map b2i) (hx : x < 2 ^ k) : fig ((ns.drop p.length).take k) = x ∧ p.length + k ≤ ns.length := by
  have hl : (List.map b2i p).length = p.length := List.length_map _
  subst h
  constructor
  · rw [List.map_append, List.map_append, List.drop_left' hl, List.take_left' (by rw [List.length_map, bitsOf_length])]
    exact fig_bitsOf k x hx
  · simp [bitsOf_length]
theorem b2i_bit (bs : List Bool) : ∀ x ∈ bs.map b2i, x = 0 ∨ x = 1 := by
  intro x hx
  obtain ⟨b, _, rfl⟩ := List.mem_map.mp hx
  cases b
  · exact .inl rfl
  · exact .inr rfl
theorem words_split (m : Nat) (o : Array UInt8) (i : Nat) : ∀ (d : Nat), ∃ r, words m o (i + 1 + d) = words m o i ++ (word m o i ++ r)
  | 0 => ⟨[], by rw [Nat.add_zero, words_succ, List.append_nil]⟩
  | d + 1 => by
    obtain ⟨r, h⟩ := words_split m o i d
    refine ⟨r ++ word m o (i + 1 + d), ?_⟩
    rw [← Nat.add_assoc, words_succ, h]
    simp [List.append_assoc]
theorem enc_split {m : Nat} {o : Array UInt8} {i : Nat} (h : i < nWords m o) : ∃ r, enc m o = words m o i ++ (word m o i ++ r) := by
  obtain ⟨r, e⟩ := words_split m o i (nWords m o - (i + 1))
  refine ⟨r, ?_⟩
  rw [← e]; unfold enc; congr 1; omega
/-- one text's bits -/
def recB (v : Nat) (t : Nat × Array UInt8) : List Bool := bitsOf t.1 4 ++ (bitsOf t.2.size (lenBits t.1 v) ++ enc t.1 t.2)
def allB (v : Nat) (T : List (Nat × Array UInt8)) : List Bool := T.flatMap (recB v)
/-- the mode can hold the text -/
def Holds (t : Nat × Array UInt8) : Prop := t.2.size ≤ 9 ∧ ((t.1 = 1 ∧ ∀ c ∈ t.2, 48 ≤ c.toNat ∧ c.toNat ≤ 57) ∨ (t.1 = 2 ∧ ∀ c ∈ t.2, ALPHA.contains c = true) ∨ t.1 = 4)
theorem allB_split (v : Nat) {T : List (Nat × Array UInt8)} {j : Nat} (h : j < T.length) : allB v T = allB v (T.take j) ++ (recB v T[j] ++ allB v (T.drop (j + 1))) := by
  unfold allB
  conv => lhs; rw [← List.take_append_drop j T, List.drop_eq_getElem_cons h]
  rw [List.flatMap_append, List.flatMap_cons]
theorem allB_take_succ (v : Nat) {T : List (Nat × Array UInt8)} {j : Nat} (h : j < T.length) : allB v (T.take (j + 1)) = allB v (T.take j) ++ recB v T[j] := by
  unfold allB
  rw [List.take_succ_eq_append_getElem h, List.flatMap_append]
  simp
theorem lenBits_lt {m v : Nat} (h : m = 1 ∨ m = 2 ∨ m = 4) : 8 ≤ lenBits m v ∧ lenBits m v ≤ 16 := by
  unfold lenBits
  rcases h with rfl | rfl | rfl <;> (repeat' split) <;> omega
theorem size_lt {m v : Nat} {o : Array UInt8} (h : m = 1 ∨ m = 2 ∨ m = 4) (ho : o.size ≤ 9) : o.size < 2 ^ lenBits m v := by
  have := (lenBits_lt (v := v) h).1
  have h2 : (2 : Nat) ^ 8 ≤ 2 ^ lenBits m v := Nat.pow_le_pow_right (by decide) this
  have : (2 : Nat) ^ 8 = 256 := by decide
  omega
theorem alpha_back0 : ∀ c : Fin 256, ALPHA.contains c.val.toUInt8 = true → ALPHA.toList.getD (alphaAt c.val) 0 = c.val.toUInt8 := by decide +kernel
theorem alpha_back {c : UInt8} (h : ALPHA.contains c = true) : ALPHA.toList.getD (alphaAt c.toNat) 0 = c := by
  have := alpha_back0 ⟨c.toNat, c.toNat_lt⟩
  simp only [show (c.toNat).toUInt8 = c by simp] at this
  exact this h
theorem num3 {a b c : Nat} (ha : 48 ≤ a ∧ a ≤ 57) (hb : 48 ≤ b ∧ b ≤ 57) (hc : 48 ≤ c ∧ c ≤ 57) : ∃ x, 100 * (a - 48) + 10 * (b - 48) + (c - 48) = x ∧ x < 1000 ∧ 48 + x / 100 % 10 = a ∧ 48 + x / 10 % 10 = b ∧ 48 + x / 1 % 10 = c := ⟨_, rfl, by omega, by omega, by omega, by omega⟩
theorem num2 {a b : Nat} (ha : 48 ≤ a ∧ a ≤ 57) (hb : 48 ≤ b ∧ b ≤ 57) : ∃ x, 10 * (a - 48) + (b - 48) = x ∧ x < 100 ∧ 48 + x / 10 % 10 = a ∧ 48 + x / 1 % 10 = b := ⟨_, rfl, by omega, by omega, by omega⟩
theorem num1 {a : Nat} (ha : 48 ≤ a ∧ a ≤ 57) : ∃ x, a - 48 = x ∧ x < 10 ∧ 48 + x / 1 % 10 = a := ⟨_, rfl, by omega, by omega⟩
theorem dig_at {o : Array UInt8} {i : Nat} (h : ∀ c ∈ o, 48 ≤ c.toNat ∧ c.toNat ≤ 57) (hi : i < o.size) : 48 ≤ at0 o i ∧ at0 o i ≤ 57 := by rw [at0_eq hi]; exact h _ (Array.getElem_mem hi)
theorem take_at (o : Array UInt8) {i : Nat} (hi : i < o.size) : o.toList.take (i + 1) = o.toList.take i ++ [(at0 o i).toUInt8] := by
  rw [List.take_succ_eq_append_getElem (by simpa using hi), at0_eq hi]
  simp
theorem sgn_at {o : Array UInt8} {i : Nat} (h : ∀ c ∈ o, ALPHA.contains c = true) (hi : i < o.size) : alphaAt (at0 o i) < 45 ∧ ALPHA.toList.getD (alphaAt (at0 o i)) 0 = (at0 o i).toUInt8 := by
  have hc := h _ (Array.getElem_mem hi)
  obtain ⟨a, ea, _, ha⟩ := alphaAt_eq h hi
  refine ⟨ea ▸ ha, ?_⟩
  rw [at0_eq hi, alpha_back hc]
  simp
theorem sgn2 {o : Array UInt8} {i : Nat} (h : ∀ c ∈ o, ALPHA.contains c = true) (hi : 2 * i + 1 < o.size) : ∃ x a b : Nat, 45 * alphaAt (at0 o (2 * i)) + alphaAt (at0 o (2 * i + 1)) = x ∧ x < 2025 ∧ (x : Int).fdiv 45 = (a : Int) ∧ (x : Int).fmod 45 = (b : Int) ∧ a < 45 ∧ b < 45 ∧ ALPHA.toList.getD a 0 = (at0 o (2 * i)).toUInt8 ∧ ALPHA.toList.getD b 0 = (at0 o (2 * i + 1)).toUInt8 := by
  obtain ⟨h1, h2⟩ := sgn_at h (show 2 * i < o.size by omega)
  obtain ⟨h3, h4⟩ := sgn_at h hi
  refine ⟨_, alphaAt (at0 o (2 * i)), alphaAt (at0 o (2 * i + 1)), rfl, by omega, ?_, ?_, h1, h3, h2, h4⟩
  · show Int.fdiv _ ((45 : Nat) : Int) = _
    rw [fdiv_nat]; omega
  · show Int.fmod _ ((45 : Nat) : Int) = _
    rw [fmod_nat]; omega
theorem sgn1 {o : Array UInt8} {i : Nat} (h : ∀ c ∈ o, ALPHA.contains c = true) (hi : 2 * i < o.size) : ∃ x : Nat, alphaAt (at0 o (2 * i)) = x ∧ x < 45 ∧ ALPHA.toList.getD x 0 = (at0 o (2 * i)).toUInt8 := by
  obtain ⟨h1, h2⟩ := sgn_at h hi
  exact ⟨_, rfl, h1, h2⟩
theorem at0_lt (o : Array UInt8) (i : Nat) : at0 o i < 256 := UInt8.toNat_lt _
theorem at0_back (o : Array UInt8) (i : Nat) : ((at0 o i).toUInt8.toNat : Int) = (at0 o i : Int) := by unfold at0; simp
end
section

local macro_rules | `(tactic| walk_at "getMethod bytes") => `(tactic| (k_here; first | (with_reducible refine FY.m_isdigit ?_) | (with_reducible refine FY.m_find ?_) | (with_reducible refine KBd.method ?_)))
local macro_rules | `(tactic| walk_at "call builtin:bytes.isdigit") => `(tactic| (k_here; refine FY.isdigit ?_))
local macro_rules | `(tactic| walk_at "call builtin:bytes.find") => `(tactic| (k_here; refine FY.find (by k_extra "my find") ?_))
local macro_rules | `(tactic| walk_at "compareOp In int bytes") => `(tactic| (k_here; refine FY.inB (by omega) (by omega) ?_))
local macro_rules | `(tactic| walk_at "compareOp NotIn int bytes") => `(tactic| (k_here; refine FY.notInB (by omega) (by omega) ?_))

set_option maxRecDepth 100000 in
theorem lsigns_mg {w : World} {mg : Str → Option Value} {h : Heap} (X : (hd.heap_39 w.params).In h) (G : h.Ns mainGlobals mg) : ∃ t, mg "_law_signs" = some (.bytes ALPHA t) := by
  have hv := mg_of (n := "_law_signs") X G (by k_is)
  exact ⟨_, hv⟩
def isDig (n : Int) : Bool := decide (48 ≤ n) && decide (n ≤ 57)
theorem dig_iff (c : UInt8) : Builtin.Bytes.isDigit c = isDig (c.toNat : Int) := by
  have : ∀ c : Fin 256, Builtin.Bytes.isDigit c.val.toUInt8 = isDig ((c.val.toUInt8).toNat : Int) := by decide +kernel
  have h := this ⟨c.toNat, c.toNat_lt⟩
  rwa [show (c.toNat).toUInt8 = c by simp] at h
theorem filter_nil (o : Array UInt8) (q : Int → Bool) : decide ((KBw.bInts o).filter (fun v => !q v) = []) = o.toList.all fun c => q (c.toNat : Int) := by
  rw [Bool.eq_iff_iff, decide_eq_true_eq, List.filter_eq_nil_iff, List.all_eq_true]
  unfold KBw.bInts
  constructor
  · intro h c hc
    have := h _ (List.mem_map_of_mem hc)
    simpa using this
  · intro h v hv
    obtain ⟨c, hc, rfl⟩ := List.mem_map.mp hv
    simp [h c hc]
theorem allDigit (o : Array UInt8) : Builtin.Bytes.allOf Builtin.Bytes.isDigit o.toList = ((o.toList != #[].toList) && decide ((KBw.bInts o).filter (fun v => !isDig v) = [])) := by
  rw [filter_nil, show (fun c : UInt8 => isDig (c.toNat : Int)) = Builtin.Bytes.isDigit from funext fun c => (dig_iff c).symm]
  unfold Builtin.Bytes.allOf
  cases h : o.toList <;> simp
theorem allAlpha (o : Array UInt8) : (o.toList.all fun c => ALPHA.contains c) = decide ((KBw.bInts o).filter (fun v => !(ALPHA.contains v.toNat.toUInt8)) = []) := by
  rw [filter_nil o (fun v => ALPHA.contains v.toNat.toUInt8)]
  congr 1; funext c; simp
set_option maxRecDepth 100000 in
set_option maxHeartbeats 8000000 in
theorem least_ok {w : World} {mg mb : Str → Option Value} {o : Array UInt8} {to : Tok} (h1 : o.size ≤ 9) :
    Spec w mg mb 20 200 167 [.bytes o to] [] fun v sel => ∃ t, v = .int (optM o) t ∧ sel = [] := by
  unfold Spec
  intro dp un gd cn cs a ccd cl outer A₀ base h₀ L m s Q E B F X N T hk hd hu hret
  (refine wpAny_call ?_; k_dflt (refine' enter_def ?k1 ?k2 ?k3 ?k4 ?k5 ?kA ?kF ?kK ?k6 ?k7 ?k8 ?k9 ?kB ?_ ?c2 ?c3 ?c4 ?c5; (case kA => exact rfl); (case kF => exact rfl); (case kK => assumption); (case k1 => k_asm); (case k2 => k_asm); (case k3 => k_asm); (case k4 => k_asm); (case k5 => k_asm); (case k6 => k_is); (case k7 => k_is); (case k8 => ktr_room); (case k9 => exact BindsTo.of_eq rfl); (case c5 => decide); (case kB => exact locs rfl); (case c2 => exact rfl); (case c3 => exact rfl); (case c4 => exact rfl); k_whole; intro g' L' h' hg' FG' F' N' B' X' T' st'; (try dsimp only); (try k_fold)))
  obtain ⟨ta, hta⟩ := lsigns_mg X' T'.g
  k_with_none
  k_with "my eval ListComp" => (refine hold ?_)
  k_steps
  · refine ⟨?_⟩
    (rename Fr _ _ _ _ => F1; rename News _ _ _ _ => N1)
    refine lc_bytes (K := Mine.hd.heap_39 w.params) (news := []) (fun v => !isDig v) F1 X' T' rfl rfl (by decide) rfl (by decide) rfl ?ht ?hel ?h
    case hel =>
      intro C E' v t m₂ hn hm
      exact wpAny_Name (wpAny_loadName_local rfl rfl hn hm ⟨rfl, _, _, rfl, fun _ _ e => e⟩)
    case ht =>
      intro C E' v u t m₂ hv0 hv1 hn hm hK hgl
      refine wpAny_tests_one (wpAny_isTrue_Not (isTrue_chain (wpAny_Constant_int (test_link (wpAny_Name (wpAny_loadName_local rfl rfl hn hm (P.le_int (wpAny_truthy_bool ?_))))))))
      by_cases hc : (48 : Int) ≤ v
      · rw [if_pos (decide_eq_true hc)]
        refine test_last (wpAny_Constant_int (P.le_int (wpAny_truthy_bool ⟨?_, _, _, rfl, fun _ _ e => e⟩)))
        unfold isDig; rw [decide_eq_true hc]; rfl
      · rw [if_neg (by rw [decide_eq_true_eq]; exact hc)]
        refine ⟨?_, _, _, rfl, fun _ _ e => e⟩
        unfold isDig; rw [decide_eq_false hc]; rfl
    k_steps
    refine ⟨o, to, rfl, by omega, F1, N1, ?_⟩
    intro D h5 tk5 ys e5 F5 N5 off5 hys hyl
    clear F1 N1
    k_fold
    k_steps
    · ((rename Fr _ _ _ _ => kF9); (rename News _ _ _ _ => kN9); (rename (_ : Heap) = rest0 _ _ => hg9); subst hg9; (rename Fr (rest0 _ _) _ _ _ => F9); (rename News (rest0 _ _) _ _ _ => N9); refine spec_ret (sel' := []) (by assumption) kF9 kN9 F9 N9 (fun _ h => nomatch h) ?_)
      refine ⟨_, congrArg (fun z => Value.int z _) ?_, rfl⟩
      have hy : decide ((KBw.bInts o).filter (fun v => !isDig v) = []) = true := by assumption
      have hz : (o.toList != #[].toList) = true := by assumption
      unfold optM
      rw [allDigit, if_pos (by rw [hy, hz]; rfl)]
      rfl
    · have hy : decide ((KBw.bInts o).filter (fun v => !isDig v) = []) = false := by assumption
      refine ⟨?_⟩
      (rename Fr _ _ _ _ => F1; rename News _ _ _ _ => N1)
      refine lc_bytes (K := Mine.hd.heap_39 w.params) (news := []) (fun v => !(ALPHA.contains v.toNat.toUInt8)) F1 X' T' rfl rfl (by decide) rfl (by decide) rfl ?ht ?hel ?h
      case hel =>
        intro C E' v t m₂ hn hm
        exact wpAny_Name (wpAny_loadName_local rfl rfl hn hm ⟨rfl, _, _, rfl, fun _ _ e => e⟩)
      case ht =>
        intro C E' v u t m₂ hv0 hv1 hn hm hK hgl
        refine wpAny_tests_one (wpAny_isTrue_Compare1 (wpAny_Name (wpAny_loadName_local rfl rfl hn hm ?_)))
        refine Name_function_global rfl rfl (loadGlobal_global hgl hta ?_)
        exact FY.notInB hv0 hv1 (wpAny_truthy_bool ⟨rfl, _, _, rfl, fun _ _ e => e⟩)
      k_steps
      refine ⟨o, to, rfl, by omega, F1, (fun _ h => nomatch h), ?_⟩
      intro D6 h6 tk6 zs e6 F6 N6 off6 hzs hzl
      clear F1 N1
      k_fold
      k_steps
      · ((rename Fr _ _ _ _ => kF9); (rename News _ _ _ _ => kN9); (rename (_ : Heap) = rest0 _ _ => hg9); subst hg9; (rename Fr (rest0 _ _) _ _ _ => F9); (rename News (rest0 _ _) _ _ _ => N9); refine spec_ret (sel' := []) (by assumption) kF9 kN9 F9 N9 (fun _ h => nomatch h) ?_)
        refine ⟨_, congrArg (fun z => Value.int z _) ?_, rfl⟩
        have hz : decide ((KBw.bInts o).filter (fun v => !(ALPHA.contains v.toNat.toUInt8)) = []) = true := by assumption
        unfold optM
        rw [allDigit, allAlpha, if_neg (by rw [hy, Bool.and_false]; decide), if_pos hz]
        rfl
      · ((rename Fr _ _ _ _ => kF9); (rename News _ _ _ _ => kN9); (rename (_ : Heap) = rest0 _ _ => hg9); subst hg9; (rename Fr (rest0 _ _) _ _ _ => F9); (rename News (rest0 _ _) _ _ _ => N9); refine spec_ret (sel' := []) (by assumption) kF9 kN9 F9 N9 (fun _ h => nomatch h) ?_)
        refine ⟨_, congrArg (fun z => Value.int z _) ?_, rfl⟩
        have hz : decide ((KBw.bInts o).filter (fun v => !(ALPHA.contains v.toNat.toUInt8)) = []) = false := by assumption
        unfold optM
        rw [allDigit, allAlpha, if_neg (by rw [hy, Bool.and_false]; decide), if_neg (by rw [hz]; decide)]
        rfl
  · have hy : (o.toList != #[].toList) = false := by assumption
    refine ⟨?_⟩
    (rename Fr _ _ _ _ => F1; rename News _ _ _ _ => N1)
    refine lc_bytes (K := Mine.hd.heap_39 w.params) (news := []) (fun v => !(ALPHA.contains v.toNat.toUInt8)) F1 X' T' rfl rfl (by decide) rfl (by decide) rfl ?ht ?hel ?h
    case hel =>
      intro C E' v t m₂ hn hm
      exact wpAny_Name (wpAny_loadName_local rfl rfl hn hm ⟨rfl, _, _, rfl, fun _ _ e => e⟩)
    case ht =>
      intro C E' v u t m₂ hv0 hv1 hn hm hK hgl
      refine wpAny_tests_one (wpAny_isTrue_Compare1 (wpAny_Name (wpAny_loadName_local rfl rfl hn hm ?_)))
      refine Name_function_global rfl rfl (loadGlobal_global hgl hta ?_)
      exact FY.notInB hv0 hv1 (wpAny_truthy_bool ⟨rfl, _, _, rfl, fun _ _ e => e⟩)
    k_steps
    refine ⟨o, to, rfl, by omega, F1, (fun _ h => nomatch h), ?_⟩
    intro D6 h6 tk6 zs e6 F6 N6 off6 hzs hzl
    clear F1 N1
    k_fold
    k_steps
    · ((rename Fr _ _ _ _ => kF9); (rename News _ _ _ _ => kN9); (rename (_ : Heap) = rest0 _ _ => hg9); subst hg9; (rename Fr (rest0 _ _) _ _ _ => F9); (rename News (rest0 _ _) _ _ _ => N9); refine spec_ret (sel' := []) (by assumption) kF9 kN9 F9 N9 (fun _ h => nomatch h) ?_)
      refine ⟨_, congrArg (fun z => Value.int z _) ?_, rfl⟩
      have hz : decide ((KBw.bInts o).filter (fun v => !(ALPHA.contains v.toNat.toUInt8)) = []) = true := by assumption
      unfold optM
      rw [allDigit, allAlpha, if_neg (by rw [hy, Bool.false_and]; decide), if_pos hz]
      rfl
    · ((rename Fr _ _ _ _ => kF9); (rename News _ _ _ _ => kN9); (rename (_ : Heap) = rest0 _ _ => hg9); subst hg9; (rename Fr (rest0 _ _) _ _ _ => F9); (rename News (rest0 _ _) _ _ _ => N9); refine spec_ret (sel' := []) (by assumption) kF9 kN9 F9 N9 (fun _ h => nomatch h) ?_)
      refine ⟨_, congrArg (fun z => Value.int z _) ?_, rfl⟩
      have hz : decide ((KBw.bInts o).filter (fun v => !(ALPHA.contains v.toNat.toUInt8)) = []) = false := by assumption
      unfold optM
      rw [allDigit, allAlpha, if_neg (by rw [hy, Bool.false_and]; decide), if_neg (by rw [hz]; decide)]
      rfl
end
section

local macro_rules | `(tactic| walk_at "getMethod bytes") => `(tactic| (k_here; first | (with_reducible refine FY.m_isdigit ?_) | (with_reducible refine FY.m_find ?_) | (with_reducible refine KBd.method ?_)))
local macro_rules | `(tactic| walk_at "call builtin:bytes.isdigit") => `(tactic| (k_here; refine FY.isdigit ?_))
local macro_rules | `(tactic| walk_at "call builtin:bytes.find") => `(tactic| (k_here; refine FY.find (by k_extra "my find") ?_))
local macro_rules | `(tactic| walk_at "compareOp In int bytes") => `(tactic| (k_here; refine FY.inB (by omega) (by omega) ?_))
local macro_rules | `(tactic| walk_at "compareOp NotIn int bytes") => `(tactic| (k_here; refine FY.notInB (by omega) (by omega) ?_))


local macro_rules | `(tactic| walk_at "eval Name") => `(tactic| (k_here; (with_reducible show wpAny _ _ (eval (Expr.Name _ _) (compEnvC _ _ _ _)) _ _ _); k_dflt (first
  | (refine' ld_globalR ?mF ?mX ?mT ?me ?_ ?mg ?mk ?mx ?md; (case mx => rfl); (case mk => rfl); (case mg => rfl); (case md => decide); (case mF => k_asm); (case mX => k_asm); (case mT => k_asm); (case me => k_is); k_whole)
  | (refine' ld_builtR ?mF ?mX ?mT ?me ?mv ?mn ?_ ?mg ?mb ?mk ?mx ?md; (case mx => rfl); (case mk => rfl); (case mg => rfl); (case mb => rfl); (case md => decide); (case mF => k_asm); (case mX => k_asm); (case mT => k_asm); (case me => k_is); (case mv => boot_by_name); (case mn => decide); k_whole))))

local macro_rules | `(tactic| walk_at "exec While Compare") => `(tactic| k_extra "my while")
local macro_rules | `(tactic| walk_at "eval IfExp") => `(tactic| k_extra "my ifexp")
local macro_rules | `(tactic| walk_at "binaryOp Add ref ref") => `(tactic| k_extra "my cat")
local macro_rules | `(tactic| walk_at "binaryOp Add bytes bytes") => `(tactic| (k_here; refine KBy.add_bytes (by first | (rw [byteArr_size]; simp only [List.length_cons, List.length_nil]; omega) | (simp only [List.size_toArray, List.length_map, List.length_cons, List.length_nil]; omega)) ?_; intro _ _))
local macro_rules | `(tactic| walk_at "call type:bytes") => `(tactic| k_extra "my bytes")
local macro_rules | `(tactic| walk_at "eval Dict") => `(tactic| k_extra "my dict")
local macro_rules | `(tactic| k_all) => `(tactic| exact tail_gt (by assumption))
local macro_rules | `(tactic| k_all) => `(tactic| (refine tail_ne (by assumption) ?_; (try dsimp only); omega))
theorem taken_at {w : World} {mg mb : Str → Option Value} {l : Addr} {xs : List Value} {ns : List Int} {el x size at1 : Nat} {p r : List Bool} {ta ts : Tok}
  (hi : IntsAre xs ns) (hn : ns.length < 2 ^ 20) (hs : size ≤ 16) (hbit : ∀ x ∈ ns, x = 0 ∨ x = 1) (h : ns = (p ++ (bitsOf x size ++ r)).map b2i) (hx : x < 2 ^ size) (hp : p.length = at1) :
    Spec w mg mb 10 100 174 [.ref l, .int (at1 : Nat) ta, .int size ts] [(l, PySem.W.listOf xs.toArray el)] fun v sel => ∃ (t : Addr) (tf tt : Tok) (n : Nat), v = .ref t ∧ sel = [(t, ⟨.type "tuple", none, .seq #[.int (x : Nat) tf, .int ((at1 + size : Nat) : Int) tt] n, #[]⟩), (l, PySem.W.listOf xs.toArray el)] ∧ @LT.lt Nat _ l t := by
  subst hp
  obtain ⟨h1, h2⟩ := fig_at h hx
  have S := taken_ok (w := w) (mg := mg) (mb := mb) (l := l) (el := el) (ta := ta) (ts := ts) hi hn h2 hs hbit
  rw [h1] at S
  exact S
def wideOf (v : Nat) : Nat := if v < 10 then 0 else if v < 27 then 1 else 2
abbrev tupO (m : Nat) (o : Array UInt8) (tm to : Tok) (n : Nat) : Obj := ⟨.type "tuple", none, .seq #[.int m tm, .bytes o to] n, #[]⟩
/-- the texts' tuples -/
def Rd (own : List (Addr × Obj)) : List (Nat × Array UInt8) → List Value → Prop
  | [], [] => True
  | t :: T, v :: vs => (∃ (a : Addr) (tm to : Tok) (n : Nat), v = .ref a ∧ (a, tupO t.1 t.2 tm to n) ∈ own) ∧ Rd own T vs
  | _, _ => False
theorem Rd.mono {own own' : List (Addr × Obj)} (h : ∀ p ∈ own, p ∈ own') : ∀ {T : List (Nat × Array UInt8)} {vs : List Value}, Rd own T vs → Rd own' T vs
  | [], [], _ => trivial
  | _ :: _, _ :: _, ⟨⟨a, tm, to, n, e, m⟩, r⟩ => ⟨⟨a, tm, to, n, e, h _ m⟩, Rd.mono h r⟩
  | [], _ :: _, r => r.elim
  | _ :: _, [], r => r.elim
theorem Rd.snoc {own : List (Addr × Obj)} {t : Nat × Array UInt8} {a : Addr} {tm to : Tok} {n : Nat} (hm : (a, tupO t.1 t.2 tm to n) ∈ own) : ∀ {T : List (Nat × Array UInt8)} {vs : List Value}, Rd own T vs → Rd own (T ++ [t]) (vs ++ [.ref a])
  | [], [], _ => ⟨⟨a, tm, to, n, rfl, hm⟩, trivial⟩
  | _ :: _, _ :: _, ⟨x, r⟩ => ⟨x, Rd.snoc hm r⟩
  | [], _ :: _, r => r.elim
  | _ :: _, [], r => r.elim
theorem Rd.length {own : List (Addr × Obj)} : ∀ {T : List (Nat × Array UInt8)} {vs : List Value}, Rd own T vs → vs.length = T.length
  | [], [], _ => rfl
  | _ :: _, _ :: _, ⟨_, r⟩ => congrArg (· + 1) (Rd.length r)
  | [], _ :: _, r => r.elim
  | _ :: _, [], r => r.elim
section
variable {prog : Program} {w : World} {A : Around} {E : Value → Shared → Prop} {s : Shared} {h₀ : Heap} {L : Addr} {m : Str → Option Value}
theorem cat_tup {b D1 lx Dx : Addr} {vs : List Value} {e0 e1 m₁ n : Nat} {o : Array UInt8} {tm to : Tok} {rest : List (Addr × Obj)} {Q : Value → Shared → Prop} (F : Fr h₀ L s.heap m)
    (N : News h₀ L s.heap ((lx, PySem.W.listOf #[Value.ref Dx] e0) :: (Dx, tupO m₁ o tm to n) :: (D1, PySem.W.listOf vs.toArray e1) :: rest)) (hb : @LT.lt Nat _ b Dx) (hz : vs.length ≤ 100)
    (h : ∀ (D Dx : Addr) (tm to : Tok) (n : Nat) h', Fr h₀ L h' m → News h₀ L h' ((D, PySem.W.listOf (vs ++ [Value.ref Dx]).toArray 0) :: (Dx, tupO m₁ o tm to n) :: rest) → @LT.lt Nat _ b Dx → @LT.lt Nat _ Dx D → Q (.ref D) { s with heap := h' }) :
    wpAny (model prog w) A (binaryOp .Add (.ref D1) (.ref lx)) Q E s := by
  have z1 := N (D1, _) (List.mem_cons_of_mem _ (List.mem_cons_of_mem _ List.mem_cons_self))
  have z2 := N (lx, _) List.mem_cons_self
  have z3 := N (Dx, _) (List.mem_cons_of_mem _ List.mem_cons_self)
  refine add_lists (vs := vs) (ws := [Value.ref Dx]) F N ⟨_, z1.1, rfl, _, rfl⟩ ⟨_, z2.1, rfl, _, rfl⟩ (fun h' F' N' => ?_) (by rw [PySem.sizeLine_eq]; simp only [List.length_cons, List.length_nil]; omega)
  refine h _ Dx tm to n h' F' (fun p hp => N' p ?_) hb (Heap.lt_size z3.1)
  rcases List.mem_cons.mp hp with rfl | hp
  · exact List.mem_cons_self
  rcases List.mem_cons.mp hp with rfl | hp
  · exact List.mem_cons_of_mem _ (List.mem_cons_of_mem _ List.mem_cons_self)
  · exact List.mem_cons_of_mem _ (List.mem_cons_of_mem _ (List.mem_cons_of_mem _ (List.mem_cons_of_mem _ hp)))
end
set_option maxRecDepth 100000 in
set_option maxHeartbeats 8000000 in
theorem read_ok {w : World} {mg mb : Str → Option Value} {l : Addr} {xs : List Value} {ns : List Int} {el v : Nat} {tv : Tok} {T : List (Nat × Array UInt8)}
  (hi : IntsAre xs ns) (hn : ns.length < 2 ^ 10) (hns : ns = (allB v T).map b2i) (hT : T.length ≤ 3) (hH : ∀ t ∈ T, Holds t) :
    Spec w mg mb 40 400 179 [.ref l, .int v tv] [(l, PySem.W.listOf xs.toArray el)] fun r sel => ∃ (D : Addr) (vs : List Value) (e : Nat) (own : List (Addr × Obj)), r = .ref D ∧ sel = (D, PySem.W.listOf vs.toArray e) :: (l, PySem.W.listOf xs.toArray el) :: own ∧ Rd own T vs ∧ @LT.lt Nat _ l D := by
  have hbit : ∀ x ∈ ns, x = 0 ∨ x = 1 := hns ▸ b2i_bit _
  have hxl := hi.length
  unfold Spec
  intro dp un gd cn cs a' ccd cl outer A₀ base h₀ L m s Q E B F X N TT hk hd hu hret
  (refine wpAny_call ?_; k_dflt (refine' enter_defC ?k1 ?k2 ?k3 ?k4 ?k5 ?kA ?kF ?kK ?k6 ?k7 ?k8 ?k9 ?kB ?kD ?_ ?c2 ?c3 ?c4; (case kA => exact rfl); (case kF => exact rfl); (case kK => assumption); (case k1 => k_asm); (case k2 => k_asm); (case k3 => k_asm); (case k4 => k_asm); (case k5 => k_asm); (case k6 => k_is); (case k7 => k_is); (case k8 => ktr_room); (case k9 => exact BindsTo.of_eq rfl); (case kB => exact rfl); (case kD => decide +kernel); (case c2 => exact rfl); (case c3 => exact rfl); (case c4 => exact rfl); k_whole; intro g' L' h' tk' cells' hg' FG' F' N' Y' B' X' T' st' l1; (try k_lt l1); obtain ⟨oc1, oc2, hE9, d1, d2⟩ := PyProof.Rows.CellsAre.two Y'; subst hE9; clear Y'; (try simp only [List.cons_append, List.nil_append] at N'); (try dsimp only); (try k_fold)))
  k_with_none
  k_with "my call ref" => (refine hold ?_)
  k_with "my while" => (refine hold ?_)
  k_with "my ifexp" => (refine hold ?_)
  k_with "my dict" => (refine hold ?_)
  k_with "my cat" => (refine hold ?_)
  k_steps
  refine ⟨?_⟩
  refine int_fix (n := wideOf v) ?_ ?_
  · refine wpAny_IfExp ?_
    k_with "my ifexp" => (refine wpAny_IfExp ?_)
    k_steps
    all_goals (refine ⟨_, _, congrArg (fun z => Value.int z _) ?_, rfl⟩; unfold wideOf)
    · rw [if_pos (by omega)]; rfl
    · rw [if_neg (by omega), if_pos (by omega)]; rfl
    · rw [if_neg (by omega), if_neg (by omega)]; rfl
  intro tw tkw
  have hw2 : wideOf v ≤ 2 := by unfold wideOf; (repeat' split) <;> omega
  k_steps
  refine ⟨?_⟩
  (rename Fr _ _ _ _ => F1; rename News _ _ _ _ => N1)
  refine' while_free (σ := (Nat × Tok) × (Addr × List Value × Nat) × (Obj × Obj) × List (Addr × Obj)) (fun c => (c.2.1.1, PySem.W.listOf c.2.1.2.1.toArray c.2.1.2.2) :: (L' + 1 + 1, c.2.2.1.1) :: (L' + 1, c.2.2.1.2) :: (l, PySem.W.listOf xs.toArray el) :: c.2.2.2) (fun c => [("at", .int c.1.1 c.1.2), ("texts", .ref c.2.1.1), ("bits", .ref l), ("wide", .int (wideOf v) tw)])
    (fun k c => ∃ j, j + k = T.length ∧ c.1.1 = (allB v (T.take j)).length ∧ (∃ v1, c.2.2.1.1.data = .cell v1) ∧ (∃ v1, c.2.2.1.2.data = .cell v1) ∧ (∀ p ∈ c.2.2.2, @LT.lt Nat _ (L' + 1 + 1) p.1) ∧ Rd c.2.2.2 (T.take j) c.2.1.2.1 ∧ @LT.lt Nat _ (L' + 1 + 1) c.2.1.1) T.length ((0, _), (_, [], 0), (oc1, oc2), []) F1 ?rn ?rc ?rd ?re ?turn
  case rc => (repeat (first | exact List.forall_mem_nil _ | refine List.forall_mem_cons.mpr ⟨by with_unfolding_all rfl, ?_⟩))
  case rn => (dsimp only; exact fun p hp => N1 p (by revert p; (repeat (first | (apply sub_nil) | (apply sub_cons (by k_mem)) | (intro p hp; repeat (first | exact hp | apply sub_tail))))))
  case rd => exact ⟨0, Nat.zero_add _, rfl, ⟨_, d1⟩, ⟨_, d2⟩, List.forall_mem_nil _, trivial, (by dsimp only; omega)⟩
  case re => with_unfolding_all passes_own
  case turn =>
    clear F1 N1 d1 d2
    rintro k ⟨⟨at1, ta⟩, ⟨D1, vs, e1⟩, ⟨ob1, ob2⟩, own⟩ u h tk ⟨j, hj, hat, ⟨v1, hv1⟩, ⟨v2, hv2⟩, hown, hrd, hD1⟩ F1 N1
    dsimp only at hat hv1 hv2 hown hrd hD1 F1 N1
    subst hat
    rcases Nat.lt_or_ge j T.length with hjl | hjl
    rotate_left
    · obtain rfl : j = T.length := by omega
      have hlen : (allB v (T.take T.length)).length = ns.length := by rw [List.take_length, hns, List.length_map]
      rw [List.take_length] at hrd
      (try k_fold)
      k_steps
      ((rename Fr _ _ _ _ => kF9); (rename News _ _ _ _ => kN9); (rename (_ : Heap) = rest0 _ _ => hg9); subst hg9; (rename Fr (rest0 _ _) _ _ _ => F9); (rename News (rest0 _ _) _ _ _ => N9); refine spec_ret (sel' := (D1, PySem.W.listOf vs.toArray e1) :: (l, PySem.W.listOf xs.toArray el) :: own) (by assumption) kF9 kN9 F9 N9 (by (repeat (first | (apply sub_nil) | (apply sub_cons (by k_mem)) | (intro p hp; repeat (first | exact hp | apply sub_tail))))) ?_)
      exact ⟨D1, vs, e1, own, rfl, rfl, hrd, by omega⟩
    have hsp := allB_split v hjl
    have hst := allB_take_succ v hjl
    have hHj := hH _ (List.getElem_mem hjl)
    obtain ⟨⟨m₁, o⟩, hTj⟩ : ∃ t, T[j] = t := ⟨_, rfl⟩
    rw [hTj] at hsp hst hHj
    obtain ⟨ho, hm⟩ := hHj
    dsimp only at ho hm
    have hlen : (allB v (T.take j)).length + 4 ≤ ns.length := by rw [hns, List.length_map, hsp]; simp [recB, bitsOf_length]
    rcases hm with ⟨rfl, hd1⟩ | ⟨rfl, hd1⟩ | rfl
    · have h4 : ns = (allB v (T.take j) ++ (bitsOf 1 4 ++ (bitsOf o.size (lenBits 1 v) ++ (enc 1 o ++ allB v (T.drop (j + 1)))))).map b2i := by rw [hns, hsp]; simp [recB, List.append_assoc]
      (try k_fold)
      k_steps
      refine ⟨?_⟩
      ((with_reducible show wpAny _ _ (call (Value.ref 174) _) _ _ _); k_dflt (refine' Spec.use (taken_at (size := 4) (x := 1) hi (by omega) (by decide) hbit h4 (by decide) rfl) ((D1, PySem.W.listOf vs.toArray e1) :: (L' + 1 + 1, ob1) :: (L' + 1, ob2) :: own) ?k1 ?k2 ?k3 ?k4 ?k5 ?kK ?s1 ?s2 ?s3 ?d1 ?d2 ?_); (case k1 => k_asm); (case k2 => k_asm); (case k3 => k_asm); (case k4 => k_asm); (case k5 => k_asm); (case kK => first | exact rfl | assumption); (case s1 => (repeat (first | (apply sub_nil) | (apply sub_cons (by k_mem)) | (intro p hp; repeat (first | exact hp | apply sub_tail))))); (case s2 => (repeat (first | (apply sub_nil) | (apply sub_cons (by k_mem)) | (intro p hp; repeat (first | exact hp | apply sub_tail))))); (case s3 => exact apart_own (pre := [(D1, _), (L' + 1 + 1, _), (L' + 1, _)]) (adr := [l]) (by (repeat' (first | (refine List.forall_mem_cons.mpr ⟨?_, ?_⟩) | exact List.forall_mem_nil _ | k_ne | (intro p hp; exact List.forall_mem_nil _) | assumption))) (fun p hp b hb => by rw [List.mem_singleton.mp hb]; exact tail_ne hown (by omega) p hp) (by (exact fun q hq => by rw [List.mem_singleton.mp hq]; exact List.mem_singleton.mpr rfl))); (case d1 => first | exact room_lt hd (by decide) | ktr_room); (case d2 => first | exact room_lt hu (by decide) | ktr_units))
      rintro v sel' h5 tk5 ⟨t5, tf5, tt5, n5, rfl, rfl, hlt5⟩ F5 N5 ap5 _
      simp only [List.cons_append, List.nil_append] at N5
      k_steps
      refine ⟨?_⟩
      (k_dflt (refine' kdn_int ?dzq ?dzf ?dzm ?dzb ?dza ?dzl ?dze ?dzk ?_; (case dzq => rfl); (case dzf => k_asm); (case dzm => k_asm); (case dzb => exact TopRead.nolimit (by k_asm)); (case dza => rfl); (case dzl => rfl); (case dze => exact List.cons_ne_nil _ _); (case dzk => exact Nat.le_of_ble_eq_true rfl)); intro d7 h7 o7 F7 N7 l7 lo7 hd7; (have lown : ∀ p ∈ own, @LT.lt Nat _ p.1 d7 := fun p hp => l7 p (by repeat (first | exact hp | refine List.Mem.tail _ ?_))); (k_lt l7))
      k_steps
      refine ⟨?_⟩
      rw [show ([10, 12, 14] : List Int).getD (((wideOf v : Nat) : Int)).toNat 0 = ((lenBits 1 v : Nat) : Int) by unfold wideOf lenBits; (repeat' split) <;> first | rfl | omega]
      ((with_reducible show wpAny _ _ (call (Value.ref 174) _) _ _ _); k_dflt (refine' Spec.use (taken_at (size := lenBits 1 v) (x := o.size) (at1 := (allB v (T.take j)).length + 4) (p := allB v (T.take j) ++ bitsOf 1 4) (r := enc 1 o ++ allB v (T.drop (j + 1))) hi (by omega) (lenBits_lt (.inl rfl)).2 hbit (by rw [h4]; simp only [List.append_assoc]) (size_lt (.inl rfl) ho) (by rw [List.length_append, bitsOf_length])) ((D1, PySem.W.listOf vs.toArray e1) :: (L' + 1 + 1, ob1) :: (L' + 1, ob2) :: own) ?k1 ?k2 ?k3 ?k4 ?k5 ?kK ?s1 ?s2 ?s3 ?d1 ?d2 ?_); (case k1 => k_asm); (case k2 => k_asm); (case k3 => k_asm); (case k4 => k_asm); (case k5 => k_asm); (case kK => first | exact rfl | assumption); (case s1 => (repeat (first | (apply sub_nil) | (apply sub_cons (by k_mem)) | (intro p hp; repeat (first | exact hp | apply sub_tail))))); (case s2 => (repeat (first | (apply sub_nil) | (apply sub_cons (by k_mem)) | (intro p hp; repeat (first | exact hp | apply sub_tail))))); (case s3 => exact apart_own (pre := [(D1, _), (L' + 1 + 1, _), (L' + 1, _)]) (adr := [l]) (by (repeat' (first | (refine List.forall_mem_cons.mpr ⟨?_, ?_⟩) | exact List.forall_mem_nil _ | k_ne | (intro p hp; exact List.forall_mem_nil _) | assumption))) (fun p hp b hb => by rw [List.mem_singleton.mp hb]; exact tail_ne hown (by omega) p hp) (by (exact fun q hq => by rw [List.mem_singleton.mp hq]; exact List.mem_singleton.mpr rfl))); (case d1 => first | exact room_lt hd (by decide) | ktr_room); (case d2 => first | exact room_lt hu (by decide) | ktr_units))
      rintro v sel' h6 tk6 ⟨t6, tf6, tt6, n6, rfl, rfl, hlt6⟩ F6 N6 ap6 _
      simp only [List.cons_append, List.nil_append] at N6
      k_steps
      refine ⟨?_⟩
      (rename Fr _ _ _ _ => F8; rename News _ _ _ _ => N8)
      (repeat (rename (_ < _ ∧ _) => hz9; clear hz9))
      (repeat (rename Obj.IsDictOf _ _ _ => hz9; clear hz9))
      clear ap5 ap6 lo7 lown
      (repeat (rename (∀ b o, Heap.get? (rest0 _ _) b = some o → _) => hz9; clear hz9))
      refine' while_free (σ := (Nat × Tok) × (Array UInt8 × Tok) × (Obj × Obj)) (fun c => (D1, PySem.W.listOf vs.toArray e1) :: (L' + 1 + 1, c.2.2.1) :: (L' + 1, c.2.2.2) :: (l, PySem.W.listOf xs.toArray el) :: own) (fun c => [("at", .int c.1.1 c.1.2), ("text", .bytes c.2.1.1 c.2.1.2), ("texts", .ref D1), ("bits", .ref l), ("wide", .int (wideOf v) tw), ("mode", .int (1 : Nat) tf5), ("size", .int (o.size : Nat) tf6)])
        (fun k c => ∃ i, i + k = nWords 1 o ∧ c.1.1 = (allB v (T.take j)).length + 4 + lenBits 1 v + (words 1 o i).length ∧ c.2.1.1.toList = o.toList.take (3 * i) ∧ (∃ v1, c.2.2.1.data = .cell v1) ∧ (∃ v1, c.2.2.2.data = .cell v1)) (nWords 1 o) ((_, _), (_, _), (ob1, ob2)) F8 ?rn ?rc ?rd ?re ?turn
      case rc => (repeat (first | exact List.forall_mem_nil _ | refine List.forall_mem_cons.mpr ⟨by with_unfolding_all rfl, ?_⟩))
      case rn => (dsimp only; exact fun p hp => N8 p (by revert p; (repeat (first | (apply sub_nil) | (apply sub_cons (by k_mem)) | (intro p hp; repeat (first | exact hp | apply sub_tail))))))
      case rd => exact ⟨0, Nat.zero_add _, rfl, rfl, ⟨_, hv1⟩, ⟨_, hv2⟩⟩
      case re => with_unfolding_all passes_own
      case turn =>
        clear F8 N8
        rintro k2 ⟨⟨at2, ta2⟩, ⟨tx, ttx⟩, ⟨oc3, oc4⟩⟩ u2 h9 tk9 ⟨i, hik, hat2, htx, ⟨v3, hv3⟩, ⟨v4, hv4⟩⟩ F9 N9
        dsimp only at hat2 htx hv3 hv4 F9 N9
        subst hat2
        rcases Nat.lt_or_ge i (nWords 1 o) with hin | hin
        · have hnw : nWords 1 o = (o.size + 2) / 3 := rfl
          have htl : tx.size = 3 * i := by rw [← Array.length_toList, htx, List.length_take, Array.length_toList]; omega
          obtain ⟨r9, er9⟩ := enc_split hin
          have hpos : 0 < k2 := by omega
          by_cases h3' : 3 * i + 3 ≤ o.size
          · obtain ⟨x9, ex9, hx9, q0, q1, q2⟩ := num3 (dig_at hd1 (show 3 * i < o.size by omega)) (dig_at hd1 (show 3 * i + 1 < o.size by omega)) (dig_at hd1 (show 3 * i + 2 < o.size by omega))
            have hw : word 1 o i = bitsOf x9 10 := by unfold word; rw [if_pos rfl, if_pos h3', ex9]
            have hq9 : Hid ((48 + x9 / 100 % 10 = at0 o (3 * i) ∧ 48 + x9 / 10 % 10 = at0 o (3 * i + 1) ∧ 48 + x9 / 1 % 10 = at0 o (3 * i + 2)) ∧ i + k2 = nWords 1 o ∧ 3 * i + 3 ≤ o.size ∧ tx.size = 3 * i) := ⟨⟨q0, q1, q2⟩, hik, h3', htl⟩
            have hlt9 : tx.size + 3 ≤ o.size := by omega
            clear q0 q1 q2 hnw hin hik ex9
            have h9 : ns = (((allB v (T.take j) ++ (bitsOf 1 4 ++ bitsOf o.size (lenBits 1 v))) ++ words 1 o i) ++ (bitsOf x9 10 ++ (r9 ++ allB v (T.drop (j + 1))))).map b2i := by rw [h4, er9, hw]; simp only [List.append_assoc]
            have hp9 : (((allB v (T.take j) ++ (bitsOf 1 4 ++ bitsOf o.size (lenBits 1 v))) ++ words 1 o i)).length = (allB v (T.take j)).length + 4 + lenBits 1 v + (words 1 o i).length := by simp only [List.length_append, bitsOf_length]; omega
            clear htl h3'
            have hmany : (if (o.size : Int) - (tx.size : Int) < 3 then (o.size : Int) - (tx.size : Int) else 3) = 3 := by rw [if_neg (by omega)]
            (try k_fold)
            k_steps
            refine ⟨?_⟩
            (rename Obj.data _ = Data.cell (some (Value.int (ite _ _ _) _)) => dm)
            rw [hmany] at dm ⊢
            rw [show ([0, 4, 7, 10] : List Int).getD (3 : Int).toNat 0 = ((10 : Nat) : Int) from rfl]
            ((with_reducible show wpAny _ _ (call (Value.ref 174) _) _ _ _); k_dflt (refine' Spec.use (taken_at (size := 10) (x := x9) hi (Nat.lt_trans hn (by decide)) (by decide) hbit h9 (Nat.lt_trans hx9 (by decide)) hp9) ((D1, PySem.W.listOf vs.toArray e1) :: (L' + 1 + 1, oc3) :: (L' + 1, _) :: own) ?k1 ?k2 ?k3 ?k4 ?k5 ?kK ?s1 ?s2 ?s3 ?d1 ?d2 ?_); (case k1 => k_asm); (case k2 => k_asm); (case k3 => k_asm); (case k4 => k_asm); (case k5 => k_asm); (case kK => first | exact rfl | assumption); (case s1 => (repeat (first | (apply sub_nil) | (apply sub_cons (by k_mem)) | (intro p hp; repeat (first | exact hp | apply sub_tail))))); (case s2 => (repeat (first | (apply sub_nil) | (apply sub_cons (by k_mem)) | (intro p hp; repeat (first | exact hp | apply sub_tail))))); (case s3 => exact apart_own (pre := [(D1, _), (L' + 1 + 1, _), (L' + 1, _)]) (adr := [l]) (by (repeat' (first | (refine List.forall_mem_cons.mpr ⟨?_, ?_⟩) | exact List.forall_mem_nil _ | k_ne | (intro p hp; exact List.forall_mem_nil _) | assumption))) (fun p hp b hb => by rw [List.mem_singleton.mp hb]; exact tail_ne hown (by omega) p hp) (by (exact fun q hq => by rw [List.mem_singleton.mp hq]; exact List.mem_singleton.mpr rfl))); (case d1 => first | exact room_lt hd (by decide) | ktr_room); (case d2 => first | exact room_lt hu (by decide) | ktr_units))
            rintro v sel' h10 tk10 ⟨t10, tf10, tt10, n10, rfl, rfl, hlt10⟩ F10 N10 ap10 _
            simp only [List.cons_append, List.nil_append] at N10
            have nt10 : @Ne Nat t10 (L' + 1 + 1) := ap10 (t10, _) List.mem_cons_self (L' + 1 + 1, oc3) (List.mem_cons_of_mem _ List.mem_cons_self)
            k_with "my eval ListComp" => (refine hold ?_)
            k_steps
            refine ⟨?_⟩
            (rename Fr _ _ _ _ => F11; rename News _ _ _ _ => N11)
            k_dflt (refine LCg.ListComp_U (F₀ := F11) (by with_unfolding_all rfl) (by decide) (by rfl) (by decide) (by rfl) ?_)
            k_with "my CompSrc" => (refine hold ?_)
            k_with "my CompEnd" => (refine hold ?_)
            k_steps
            refine ⟨?_⟩
            (rename Fr _ _ _ _ => F12; rename News _ _ _ _ => N12; rename IsRange _ _ _ _ _ _ _ _ => rgX)
            refine LCg.CompSrc.range (n := 3) (by rfl) F12 (news := (D1, PySem.W.listOf vs.toArray e1) :: (L' + 1 + 1, _) :: (L' + 1, _) :: (l, PySem.W.listOf xs.toArray el) :: own) (fun p hp => N12 p (by revert p; (repeat (first | (apply sub_nil) | (apply sub_cons (by k_mem)) | (intro p hp; repeat (first | exact hp | apply sub_tail)))))) rgX ?ra ?rb ?rc ?_
            case ra => exact small_one (by omega) (by omega) (by omega) (by omega)
            case rb => exact (rangeSize_nat _ _).trans (by omega)
            case rc => rw [PySem.sizeLine_eq]; omega
            intro g13
            (rename Obj.data _ = Data.cell (some (Value.int (Nat.cast _) _)) => dfig)
            (rename Obj.data _ = Data.cell (some (Value.int 3 _)) => dmany)
            refine comp_ind (fun i9 ys news => ∃ of1 om1 tf tm, of1.data = Data.cell (some (Value.int ((x9 : Nat) : Int) tf)) ∧ om1.data = Data.cell (some (Value.int 3 tm)) ∧ IntsAre ys (([(at0 o (3 * i) : Int), (at0 o (3 * i + 1) : Int), (at0 o (3 * i + 2) : Int)] : List Int).take i9) ∧ news = (D1, PySem.W.listOf vs.toArray e1) :: (L' + 1 + 1, of1) :: (L' + 1, om1) :: (l, PySem.W.listOf xs.toArray el) :: own) ?step ?fin 3 0 [] _ (Nat.zero_add _) ⟨_, _, _, _, dfig, dmany, IntsAre.nil, rfl⟩
            case step =>
              clear F12 N12 rgX
              rintro i9 ys news v9 I oI C oC D m₂ h13 tk13 E' hi9 ⟨of1, om1, tf, tm, hof, hom, hys, rfl⟩ ⟨tv9, rfl⟩ hC hxv F13 N13 off13 ne13
              simp only [LCg.Off3, and_true] at off13
              (try k_fold)
              obtain rfl | rfl | rfl : i9 = 0 ∨ i9 = 1 ∨ i9 = 2 := by omega
              · k_steps
                refine ⟨?_⟩
                (rename Fr _ _ _ _ => F14; rename News _ _ _ _ => N14)
                refine LCg.CompEnd.intro F14 N14 ((D1, PySem.W.listOf vs.toArray e1) :: (L' + 1 + 1, of1) :: (L' + 1, om1) :: (l, PySem.W.listOf xs.toArray el) :: own) (by (repeat (first | (apply sub_nil) | (apply sub_cons (by k_mem)) | (intro p hp; repeat (first | exact hp | apply sub_tail))))) (by simp only [LCg.Off3]; exact off13) trivial ⟨of1, om1, tf, tm, hof, hom, ints_eq (intsAre_append hys (IntsAre.cons _ _ IntsAre.nil)) ?_, rfl⟩
                refine congrArg (fun z => List.take 0 ([(at0 o (3 * i) : Int), (at0 o (3 * i + 1) : Int), (at0 o (3 * i + 2) : Int)] : List Int) ++ [z]) ?_
                refine (congrArg (fun z => 48 + Int.fmod (Int.fdiv (x9 : Int) z) 10) (show _ = ((100 : Nat) : Int) from rfl)).trans ?_
                show 48 + Int.fmod (Int.fdiv (x9 : Int) ((100 : Nat) : Int)) ((10 : Nat) : Int) = _
                have hq := hq9.1
                rw [fdiv_nat, fmod_nat]
                omega
              · k_steps
                refine ⟨?_⟩
                (rename Fr _ _ _ _ => F14; rename News _ _ _ _ => N14)
                refine LCg.CompEnd.intro F14 N14 ((D1, PySem.W.listOf vs.toArray e1) :: (L' + 1 + 1, of1) :: (L' + 1, om1) :: (l, PySem.W.listOf xs.toArray el) :: own) (by (repeat (first | (apply sub_nil) | (apply sub_cons (by k_mem)) | (intro p hp; repeat (first | exact hp | apply sub_tail))))) (by simp only [LCg.Off3]; exact off13) trivial ⟨of1, om1, tf, tm, hof, hom, ints_eq (intsAre_append hys (IntsAre.cons _ _ IntsAre.nil)) ?_, rfl⟩
                refine congrArg (fun z => List.take 1 ([(at0 o (3 * i) : Int), (at0 o (3 * i + 1) : Int), (at0 o (3 * i + 2) : Int)] : List Int) ++ [z]) ?_
                refine (congrArg (fun z => 48 + Int.fmod (Int.fdiv (x9 : Int) z) 10) (show _ = ((10 : Nat) : Int) from rfl)).trans ?_
                show 48 + Int.fmod (Int.fdiv (x9 : Int) ((10 : Nat) : Int)) ((10 : Nat) : Int) = _
                have hq := hq9.1
                rw [fdiv_nat, fmod_nat]
                omega
              · k_steps
                refine ⟨?_⟩
                (rename Fr _ _ _ _ => F14; rename News _ _ _ _ => N14)
                refine LCg.CompEnd.intro F14 N14 ((D1, PySem.W.listOf vs.toArray e1) :: (L' + 1 + 1, of1) :: (L' + 1, om1) :: (l, PySem.W.listOf xs.toArray el) :: own) (by (repeat (first | (apply sub_nil) | (apply sub_cons (by k_mem)) | (intro p hp; repeat (first | exact hp | apply sub_tail))))) (by simp only [LCg.Off3]; exact off13) trivial ⟨of1, om1, tf, tm, hof, hom, ints_eq (intsAre_append hys (IntsAre.cons _ _ IntsAre.nil)) ?_, rfl⟩
                refine congrArg (fun z => List.take 2 ([(at0 o (3 * i) : Int), (at0 o (3 * i + 1) : Int), (at0 o (3 * i + 2) : Int)] : List Int) ++ [z]) ?_
                refine (congrArg (fun z => 48 + Int.fmod (Int.fdiv (x9 : Int) z) 10) (show _ = ((1 : Nat) : Int) from rfl)).trans ?_
                show 48 + Int.fmod (Int.fdiv (x9 : Int) ((1 : Nat) : Int)) ((10 : Nat) : Int) = _
                have hq := hq9.1
                rw [fdiv_nat, fmod_nat]
                omega
            case fin =>
              clear F12 N12 rgX
              rintro ys news ⟨of1, om1, tf, tm, hof, hom, hys, rfl⟩
              have hys : IntsAre ys [(at0 o (3 * i) : Int), (at0 o (3 * i + 1) : Int), (at0 o (3 * i + 2) : Int)] := hys
              obtain ⟨⟨w0, w1, w2⟩, wik, wsz, wtl⟩ := hq9
              have kin : KBa.In [(at0 o (3 * i) : Int), (at0 o (3 * i + 1) : Int), (at0 o (3 * i + 2) : Int)] := by
                intro z hz
                simp only [List.mem_cons, List.not_mem_nil, or_false] at hz
                omega
              k_steps
              (rename Fr _ _ _ _ => F15; rename News _ _ _ _ => N15)
              refine' WhlF.next ((_, tt10), (tx ++ byteArr [(at0 o (3 * i) : Int), (at0 o (3 * i + 1) : Int), (at0 o (3 * i + 2) : Int)], _), (of1, om1)) (k2 - 1) F15 N15 ?wA ?wB (by omega) ⟨i + 1, by omega, ?_, ?_, ⟨_, hof⟩, ⟨_, hom⟩⟩
              case wB => (repeat (first | exact List.forall_mem_nil _ | refine List.forall_mem_cons.mpr ⟨by with_unfolding_all rfl, ?_⟩))
              case wA => (dsimp only; (repeat (first | (apply sub_nil) | (apply sub_cons (by k_mem)) | (intro p hp; repeat (first | exact hp | apply sub_tail)))))
              · dsimp only
                rw [words_succ, hw, List.length_append, bitsOf_length]
                omega
              · show (tx ++ byteArr [(at0 o (3 * i) : Int), (at0 o (3 * i + 1) : Int), (at0 o (3 * i + 2) : Int)]).toList = _
                rw [show 3 * (i + 1) = 3 * i + 1 + 1 + 1 by omega, take_at o (by omega), take_at o (by omega), take_at o (by omega), Array.toList_append, htx]
                simp [byteArr]
          by_cases h2' : 3 * i + 2 ≤ o.size
          · obtain ⟨x9, ex9, hx9, q0, q1⟩ := num2 (dig_at hd1 (show 3 * i < o.size by omega)) (dig_at hd1 (show 3 * i + 1 < o.size by omega))
            have hw : word 1 o i = bitsOf x9 7 := by unfold word; rw [if_pos rfl, if_neg h3', if_pos h2', ex9]
            have hq9 : Hid ((48 + x9 / 10 % 10 = at0 o (3 * i) ∧ 48 + x9 / 1 % 10 = at0 o (3 * i + 1)) ∧ i + k2 = nWords 1 o ∧ 3 * i + 2 = o.size ∧ tx.size = 3 * i) := ⟨⟨q0, q1⟩, hik, by omega, htl⟩
            have hlt9 : tx.size + 2 = o.size := by omega
            clear q0 q1 hnw hin hik ex9
            have h9 : ns = (((allB v (T.take j) ++ (bitsOf 1 4 ++ bitsOf o.size (lenBits 1 v))) ++ words 1 o i) ++ (bitsOf x9 7 ++ (r9 ++ allB v (T.drop (j + 1))))).map b2i := by rw [h4, er9, hw]; simp only [List.append_assoc]
            have hp9 : (((allB v (T.take j) ++ (bitsOf 1 4 ++ bitsOf o.size (lenBits 1 v))) ++ words 1 o i)).length = (allB v (T.take j)).length + 4 + lenBits 1 v + (words 1 o i).length := by simp only [List.length_append, bitsOf_length]; omega
            clear htl h3' h2'
            have hmany : (if (o.size : Int) - (tx.size : Int) < 3 then (o.size : Int) - (tx.size : Int) else 3) = 2 := by rw [if_pos (by omega)]; omega
            (try k_fold)
            k_steps
            refine ⟨?_⟩
            (rename Obj.data _ = Data.cell (some (Value.int (ite _ _ _) _)) => dm)
            rw [hmany] at dm ⊢
            rw [show ([0, 4, 7, 10] : List Int).getD (2 : Int).toNat 0 = ((7 : Nat) : Int) from rfl]
            ((with_reducible show wpAny _ _ (call (Value.ref 174) _) _ _ _); k_dflt (refine' Spec.use (taken_at (size := 7) (x := x9) hi (Nat.lt_trans hn (by decide)) (by decide) hbit h9 (Nat.lt_trans hx9 (by decide)) hp9) ((D1, PySem.W.listOf vs.toArray e1) :: (L' + 1 + 1, oc3) :: (L' + 1, _) :: own) ?k1 ?k2 ?k3 ?k4 ?k5 ?kK ?s1 ?s2 ?s3 ?d1 ?d2 ?_); (case k1 => k_asm); (case k2 => k_asm); (case k3 => k_asm); (case k4 => k_asm); (case k5 => k_asm); (case kK => first | exact rfl | assumption); (case s1 => (repeat (first | (apply sub_nil) | (apply sub_cons (by k_mem)) | (intro p hp; repeat (first | exact hp | apply sub_tail))))); (case s2 => (repeat (first | (apply sub_nil) | (apply sub_cons (by k_mem)) | (intro p hp; repeat (first | exact hp | apply sub_tail))))); (case s3 => exact apart_own (pre := [(D1, _), (L' + 1 + 1, _), (L' + 1, _)]) (adr := [l]) (by (repeat' (first | (refine List.forall_mem_cons.mpr ⟨?_, ?_⟩) | exact List.forall_mem_nil _ | k_ne | (intro p hp; exact List.forall_mem_nil _) | assumption))) (fun p hp b hb => by rw [List.mem_singleton.mp hb]; exact tail_ne hown (by omega) p hp) (by (exact fun q hq => by rw [List.mem_singleton.mp hq]; exact List.mem_singleton.mpr rfl))); (case d1 => first | exact room_lt hd (by decide) | ktr_room); (case d2 => first | exact room_lt hu (by decide) | ktr_units))
            rintro v sel' h10 tk10 ⟨t10, tf10, tt10, n10, rfl, rfl, hlt10⟩ F10 N10 ap10 _
            simp only [List.cons_append, List.nil_append] at N10
            have nt10 : @Ne Nat t10 (L' + 1 + 1) := ap10 (t10, _) List.mem_cons_self (L' + 1 + 1, oc3) (List.mem_cons_of_mem _ List.mem_cons_self)
            k_with "my eval ListComp" => (refine hold ?_)
            k_steps
            refine ⟨?_⟩
            (rename Fr _ _ _ _ => F11; rename News _ _ _ _ => N11)
            k_dflt (refine LCg.ListComp_U (F₀ := F11) (by with_unfolding_all rfl) (by decide) (by rfl) (by decide) (by rfl) ?_)
            k_with "my CompSrc" => (refine hold ?_)
            k_with "my CompEnd" => (refine hold ?_)
            k_steps
            refine ⟨?_⟩
            (rename Fr _ _ _ _ => F12; rename News _ _ _ _ => N12; rename IsRange _ _ _ _ _ _ _ _ => rgX)
            refine LCg.CompSrc.range (n := 2) (by rfl) F12 (news := (D1, PySem.W.listOf vs.toArray e1) :: (L' + 1 + 1, _) :: (L' + 1, _) :: (l, PySem.W.listOf xs.toArray el) :: own) (fun p hp => N12 p (by revert p; (repeat (first | (apply sub_nil) | (apply sub_cons (by k_mem)) | (intro p hp; repeat (first | exact hp | apply sub_tail)))))) rgX ?ra ?rb ?rc ?_
            case ra => exact small_one (by omega) (by omega) (by omega) (by omega)
            case rb => exact (rangeSize_nat _ _).trans (by omega)
            case rc => rw [PySem.sizeLine_eq]; omega
            intro g13
            (rename Obj.data _ = Data.cell (some (Value.int (Nat.cast _) _)) => dfig)
            (rename Obj.data _ = Data.cell (some (Value.int 2 _)) => dmany)
            refine comp_ind (fun i9 ys news => ∃ of1 om1 tf tm, of1.data = Data.cell (some (Value.int ((x9 : Nat) : Int) tf)) ∧ om1.data = Data.cell (some (Value.int 2 tm)) ∧ IntsAre ys (([(at0 o (3 * i) : Int), (at0 o (3 * i + 1) : Int)] : List Int).take i9) ∧ news = (D1, PySem.W.listOf vs.toArray e1) :: (L' + 1 + 1, of1) :: (L' + 1, om1) :: (l, PySem.W.listOf xs.toArray el) :: own) ?step ?fin 2 0 [] _ (Nat.zero_add _) ⟨_, _, _, _, dfig, dmany, IntsAre.nil, rfl⟩
            case step =>
              clear F12 N12 rgX
              rintro i9 ys news v9 I oI C oC D m₂ h13 tk13 E' hi9 ⟨of1, om1, tf, tm, hof, hom, hys, rfl⟩ ⟨tv9, rfl⟩ hC hxv F13 N13 off13 ne13
              simp only [LCg.Off3, and_true] at off13
              (try k_fold)
              obtain rfl | rfl : i9 = 0 ∨ i9 = 1 := by omega
              · k_steps
                refine ⟨?_⟩
                (rename Fr _ _ _ _ => F14; rename News _ _ _ _ => N14)
                refine LCg.CompEnd.intro F14 N14 ((D1, PySem.W.listOf vs.toArray e1) :: (L' + 1 + 1, of1) :: (L' + 1, om1) :: (l, PySem.W.listOf xs.toArray el) :: own) (by (repeat (first | (apply sub_nil) | (apply sub_cons (by k_mem)) | (intro p hp; repeat (first | exact hp | apply sub_tail))))) (by simp only [LCg.Off3]; exact off13) trivial ⟨of1, om1, tf, tm, hof, hom, ints_eq (intsAre_append hys (IntsAre.cons _ _ IntsAre.nil)) ?_, rfl⟩
                refine congrArg (fun z => List.take 0 ([(at0 o (3 * i) : Int), (at0 o (3 * i + 1) : Int)] : List Int) ++ [z]) ?_
                refine (congrArg (fun z => 48 + Int.fmod (Int.fdiv (x9 : Int) z) 10) (show _ = ((10 : Nat) : Int) from rfl)).trans ?_
                show 48 + Int.fmod (Int.fdiv (x9 : Int) ((10 : Nat) : Int)) ((10 : Nat) : Int) = _
                have hq := hq9.1
                rw [fdiv_nat, fmod_nat]
                omega
              · k_steps
                refine ⟨?_⟩
                (rename Fr _ _ _ _ => F14; rename News _ _ _ _ => N14)
                refine LCg.CompEnd.intro F14 N14 ((D1, PySem.W.listOf vs.toArray e1) :: (L' + 1 + 1, of1) :: (L' + 1, om1) :: (l, PySem.W.listOf xs.toArray el) :: own) (by (repeat (first | (apply sub_nil) | (apply sub_cons (by k_mem)) | (intro p hp; repeat (first | exact hp | apply sub_tail))))) (by simp only [LCg.Off3]; exact off13) trivial ⟨of1, om1, tf, tm, hof, hom, ints_eq (intsAre_append hys (IntsAre.cons _ _ IntsAre.nil)) ?_, rfl⟩
                refine congrArg (fun z => List.take 1 ([(at0 o (3 * i) : Int), (at0 o (3 * i + 1) : Int)] : List Int) ++ [z]) ?_
                refine (congrArg (fun z => 48 + Int.fmod (Int.fdiv (x9 : Int) z) 10) (show _ = ((1 : Nat) : Int) from rfl)).trans ?_
                show 48 + Int.fmod (Int.fdiv (x9 : Int) ((1 : Nat) : Int)) ((10 : Nat) : Int) = _
                have hq := hq9.1
                rw [fdiv_nat, fmod_nat]
                omega
            case fin =>
              clear F12 N12 rgX
              rintro ys news ⟨of1, om1, tf, tm, hof, hom, hys, rfl⟩
              have hys : IntsAre ys [(at0 o (3 * i) : Int), (at0 o (3 * i + 1) : Int)] := hys
              obtain ⟨⟨w0, w1⟩, wik, wsz, wtl⟩ := hq9
              have kin : KBa.In [(at0 o (3 * i) : Int), (at0 o (3 * i + 1) : Int)] := by
                intro z hz
                simp only [List.mem_cons, List.not_mem_nil, or_false] at hz
                omega
              k_steps
              (rename Fr _ _ _ _ => F15; rename News _ _ _ _ => N15)
              refine' WhlF.next ((_, tt10), (tx ++ byteArr [(at0 o (3 * i) : Int), (at0 o (3 * i + 1) : Int)], _), (of1, om1)) (k2 - 1) F15 N15 ?wA ?wB (by omega) ⟨i + 1, by omega, ?_, ?_, ⟨_, hof⟩, ⟨_, hom⟩⟩
              case wB => (repeat (first | exact List.forall_mem_nil _ | refine List.forall_mem_cons.mpr ⟨by with_unfolding_all rfl, ?_⟩))
              case wA => (dsimp only; (repeat (first | (apply sub_nil) | (apply sub_cons (by k_mem)) | (intro p hp; repeat (first | exact hp | apply sub_tail)))))
              · dsimp only
                rw [words_succ, hw, List.length_append, bitsOf_length]
                omega
              · show (tx ++ byteArr [(at0 o (3 * i) : Int), (at0 o (3 * i + 1) : Int)]).toList = _
                rw [show o.toList.take (3 * (i + 1)) = o.toList.take (3 * i + 1 + 1) by rw [List.take_of_length_le (by simp; omega), List.take_of_length_le (by simp; omega)], take_at o (by omega), take_at o (by omega), Array.toList_append, htx]
                simp [byteArr]
          · obtain ⟨x9, ex9, hx9, q0⟩ := num1 (dig_at hd1 (show 3 * i < o.size by omega))
            have hw : word 1 o i = bitsOf x9 4 := by unfold word; rw [if_pos rfl, if_neg h3', if_neg h2', ex9]
            have hq9 : Hid ((48 + x9 / 1 % 10 = at0 o (3 * i)) ∧ i + k2 = nWords 1 o ∧ 3 * i + 1 = o.size ∧ tx.size = 3 * i) := ⟨q0, hik, by omega, htl⟩
            have hlt9 : tx.size + 1 = o.size := by omega
            clear q0 hnw hin hik ex9
            have h9 : ns = (((allB v (T.take j) ++ (bitsOf 1 4 ++ bitsOf o.size (lenBits 1 v))) ++ words 1 o i) ++ (bitsOf x9 4 ++ (r9 ++ allB v (T.drop (j + 1))))).map b2i := by rw [h4, er9, hw]; simp only [List.append_assoc]
            have hp9 : (((allB v (T.take j) ++ (bitsOf 1 4 ++ bitsOf o.size (lenBits 1 v))) ++ words 1 o i)).length = (allB v (T.take j)).length + 4 + lenBits 1 v + (words 1 o i).length := by simp only [List.length_append, bitsOf_length]; omega
            clear htl h3' h2'
            have hmany : (if (o.size : Int) - (tx.size : Int) < 3 then (o.size : Int) - (tx.size : Int) else 3) = 1 := by rw [if_pos (by omega)]; omega
            (try k_fold)
            k_steps
            refine ⟨?_⟩
            (rename Obj.data _ = Data.cell (some (Value.int (ite _ _ _) _)) => dm)
            rw [hmany] at dm ⊢
            rw [show ([0, 4, 7, 10] : List Int).getD (1 : Int).toNat 0 = ((4 : Nat) : Int) from rfl]
            ((with_reducible show wpAny _ _ (call (Value.ref 174) _) _ _ _); k_dflt (refine' Spec.use (taken_at (size := 4) (x := x9) hi (Nat.lt_trans hn (by decide)) (by decide) hbit h9 (Nat.lt_trans hx9 (by decide)) hp9) ((D1, PySem.W.listOf vs.toArray e1) :: (L' + 1 + 1, oc3) :: (L' + 1, _) :: own) ?k1 ?k2 ?k3 ?k4 ?k5 ?kK ?s1 ?s2 ?s3 ?d1 ?d2 ?_); (case k1 => k_asm); (case k2 => k_asm); (case k3 => k_asm); (case k4 => k_asm); (case k5 => k_asm); (case kK => first | exact rfl | assumption); (case s1 => (repeat (first | (apply sub_nil) | (apply sub_cons (by k_mem)) | (intro p hp; repeat (first | exact hp | apply sub_tail))))); (case s2 => (repeat (first | (apply sub_nil) | (apply sub_cons (by k_mem)) | (intro p hp; repeat (first | exact hp | apply sub_tail))))); (case s3 => exact apart_own (pre := [(D1, _), (L' + 1 + 1, _), (L' + 1, _)]) (adr := [l]) (by (repeat' (first | (refine List.forall_mem_cons.mpr ⟨?_, ?_⟩) | exact List.forall_mem_nil _ | k_ne | (intro p hp; exact List.forall_mem_nil _) | assumption))) (fun p hp b hb => by rw [List.mem_singleton.mp hb]; exact tail_ne hown (by omega) p hp) (by (exact fun q hq => by rw [List.mem_singleton.mp hq]; exact List.mem_singleton.mpr rfl))); (case d1 => first | exact room_lt hd (by decide) | ktr_room); (case d2 => first | exact room_lt hu (by decide) | ktr_units))
            rintro v sel' h10 tk10 ⟨t10, tf10, tt10, n10, rfl, rfl, hlt10⟩ F10 N10 ap10 _
            simp only [List.cons_append, List.nil_append] at N10
            have nt10 : @Ne Nat t10 (L' + 1 + 1) := ap10 (t10, _) List.mem_cons_self (L' + 1 + 1, oc3) (List.mem_cons_of_mem _ List.mem_cons_self)
            k_with "my eval ListComp" => (refine hold ?_)
            k_steps
            refine ⟨?_⟩
            (rename Fr _ _ _ _ => F11; rename News _ _ _ _ => N11)
            k_dflt (refine LCg.ListComp_U (F₀ := F11) (by with_unfolding_all rfl) (by decide) (by rfl) (by decide) (by rfl) ?_)
            k_with "my CompSrc" => (refine hold ?_)
            k_with "my CompEnd" => (refine hold ?_)
            k_steps
            refine ⟨?_⟩
            (rename Fr _ _ _ _ => F12; rename News _ _ _ _ => N12; rename IsRange _ _ _ _ _ _ _ _ => rgX)
            refine LCg.CompSrc.range (n := 1) (by rfl) F12 (news := (D1, PySem.W.listOf vs.toArray e1) :: (L' + 1 + 1, _) :: (L' + 1, _) :: (l, PySem.W.listOf xs.toArray el) :: own) (fun p hp => N12 p (by revert p; (repeat (first | (apply sub_nil) | (apply sub_cons (by k_mem)) | (intro p hp; repeat (first | exact hp | apply sub_tail)))))) rgX ?ra ?rb ?rc ?_
            case ra => exact small_one (by omega) (by omega) (by omega) (by omega)
            case rb => exact (rangeSize_nat _ _).trans (by omega)
            case rc => rw [PySem.sizeLine_eq]; omega
            intro g13
            (rename Obj.data _ = Data.cell (some (Value.int (Nat.cast _) _)) => dfig)
            (rename Obj.data _ = Data.cell (some (Value.int 1 _)) => dmany)
            refine comp_ind (fun i9 ys news => ∃ of1 om1 tf tm, of1.data = Data.cell (some (Value.int ((x9 : Nat) : Int) tf)) ∧ om1.data = Data.cell (some (Value.int 1 tm)) ∧ IntsAre ys (([(at0 o (3 * i) : Int)] : List Int).take i9) ∧ news = (D1, PySem.W.listOf vs.toArray e1) :: (L' + 1 + 1, of1) :: (L' + 1, om1) :: (l, PySem.W.listOf xs.toArray el) :: own) ?step ?fin 1 0 [] _ (Nat.zero_add _) ⟨_, _, _, _, dfig, dmany, IntsAre.nil, rfl⟩
            case step =>
              clear F12 N12 rgX
              rintro i9 ys news v9 I oI C oC D m₂ h13 tk13 E' hi9 ⟨of1, om1, tf, tm, hof, hom, hys, rfl⟩ ⟨tv9, rfl⟩ hC hxv F13 N13 off13 ne13
              simp only [LCg.Off3, and_true] at off13
              (try k_fold)
              obtain rfl : i9 = 0 := by omega
              · k_steps
                refine ⟨?_⟩
                (rename Fr _ _ _ _ => F14; rename News _ _ _ _ => N14)
                refine LCg.CompEnd.intro F14 N14 ((D1, PySem.W.listOf vs.toArray e1) :: (L' + 1 + 1, of1) :: (L' + 1, om1) :: (l, PySem.W.listOf xs.toArray el) :: own) (by (repeat (first | (apply sub_nil) | (apply sub_cons (by k_mem)) | (intro p hp; repeat (first | exact hp | apply sub_tail))))) (by simp only [LCg.Off3]; exact off13) trivial ⟨of1, om1, tf, tm, hof, hom, ints_eq (intsAre_append hys (IntsAre.cons _ _ IntsAre.nil)) ?_, rfl⟩
                refine congrArg (fun z => List.take 0 ([(at0 o (3 * i) : Int)] : List Int) ++ [z]) ?_
                refine (congrArg (fun z => 48 + Int.fmod (Int.fdiv (x9 : Int) z) 10) (show _ = ((1 : Nat) : Int) from rfl)).trans ?_
                show 48 + Int.fmod (Int.fdiv (x9 : Int) ((1 : Nat) : Int)) ((10 : Nat) : Int) = _
                have hq := hq9.1
                rw [fdiv_nat, fmod_nat]
                omega
            case fin =>
              clear F12 N12 rgX
              rintro ys news ⟨of1, om1, tf, tm, hof, hom, hys, rfl⟩
              have hys : IntsAre ys [(at0 o (3 * i) : Int)] := hys
              obtain ⟨w0, wik, wsz, wtl⟩ := hq9
              have kin : KBa.In [(at0 o (3 * i) : Int)] := by
                intro z hz
                simp only [List.mem_singleton] at hz
                omega
              k_steps
              (rename Fr _ _ _ _ => F15; rename News _ _ _ _ => N15)
              refine' WhlF.next ((_, tt10), (tx ++ byteArr [(at0 o (3 * i) : Int)], _), (of1, om1)) (k2 - 1) F15 N15 ?wA ?wB (by omega) ⟨i + 1, by omega, ?_, ?_, ⟨_, hof⟩, ⟨_, hom⟩⟩
              case wB => (repeat (first | exact List.forall_mem_nil _ | refine List.forall_mem_cons.mpr ⟨by with_unfolding_all rfl, ?_⟩))
              case wA => (dsimp only; (repeat (first | (apply sub_nil) | (apply sub_cons (by k_mem)) | (intro p hp; repeat (first | exact hp | apply sub_tail)))))
              · dsimp only
                rw [words_succ, hw, List.length_append, bitsOf_length]
                omega
              · show (tx ++ byteArr [(at0 o (3 * i) : Int)]).toList = _
                rw [show o.toList.take (3 * (i + 1)) = o.toList.take (3 * i + 1) by rw [List.take_of_length_le (by simp; omega), List.take_of_length_le (by simp; omega)], take_at o (by omega), Array.toList_append, htx]
                simp [byteArr]
        · have hnw : nWords 1 o = (o.size + 2) / 3 := rfl
          obtain rfl : tx = o := by
            have : tx.toList = o.toList := by rw [htx, List.take_of_length_le]; rw [Array.length_toList]; omega
            exact Array.toList_inj.mp this
          (try k_fold)
          k_steps
          refine ⟨?_⟩
          (rename Fr _ _ _ _ => F10; rename News _ _ _ _ => N10)
          refine cat_tup (b := L' + 1 + 1) F10 N10 (by omega) (by have := hrd.length; rw [List.length_take] at this; omega) ?_
          intro D2 Dx tm to nn h11 F11 N11 lt1 lt2
          clear F10 N10
          k_steps
          (rename Fr _ _ _ _ => F12; rename News _ _ _ _ => N12)
          refine' WhlF.next ((_, ta2), (D2, vs ++ [Value.ref Dx], 0), (oc3, oc4), (Dx, tupO 1 tx tm to nn) :: own) (k - 1) F12 N12 ?wA ?wB (by omega) ⟨j + 1, by omega, ?_, ⟨_, hv3⟩, ⟨_, hv4⟩, List.forall_mem_cons.mpr ⟨lt1, hown⟩, ?_, Nat.lt_trans lt1 lt2⟩
          case wB => (repeat (first | exact List.forall_mem_nil _ | refine List.forall_mem_cons.mpr ⟨by with_unfolding_all rfl, ?_⟩))
          case wA => (dsimp only; (repeat (first | (apply sub_nil) | (apply sub_cons (by k_mem)) | (intro p hp; repeat (first | exact hp | apply sub_tail)))))
          · dsimp only
            rw [hst, show i = nWords 1 tx by omega]
            simp only [recB, enc, List.length_append, bitsOf_length]
            omega
          · rw [List.take_succ_eq_append_getElem hjl, hTj]
            dsimp only
            exact Rd.snoc (t := (1, tx)) List.mem_cons_self (hrd.mono fun p hp => List.mem_cons_of_mem _ hp)
    · have h4 : ns = (allB v (T.take j) ++ (bitsOf 2 4 ++ (bitsOf o.size (lenBits 2 v) ++ (enc 2 o ++ allB v (T.drop (j + 1)))))).map b2i := by rw [hns, hsp]; simp [recB, List.append_assoc]
      (try k_fold)
      k_steps
      refine ⟨?_⟩
      ((with_reducible show wpAny _ _ (call (Value.ref 174) _) _ _ _); k_dflt (refine' Spec.use (taken_at (size := 4) (x := 2) hi (by omega) (by decide) hbit h4 (by decide) rfl) ((D1, PySem.W.listOf vs.toArray e1) :: (L' + 1 + 1, ob1) :: (L' + 1, ob2) :: own) ?k1 ?k2 ?k3 ?k4 ?k5 ?kK ?s1 ?s2 ?s3 ?d1 ?d2 ?_); (case k1 => k_asm); (case k2 => k_asm); (case k3 => k_asm); (case k4 => k_asm); (case k5 => k_asm); (case kK => first | exact rfl | assumption); (case s1 => (repeat (first | (apply sub_nil) | (apply sub_cons (by k_mem)) | (intro p hp; repeat (first | exact hp | apply sub_tail))))); (case s2 => (repeat (first | (apply sub_nil) | (apply sub_cons (by k_mem)) | (intro p hp; repeat (first | exact hp | apply sub_tail))))); (case s3 => exact apart_own (pre := [(D1, _), (L' + 1 + 1, _), (L' + 1, _)]) (adr := [l]) (by (repeat' (first | (refine List.forall_mem_cons.mpr ⟨?_, ?_⟩) | exact List.forall_mem_nil _ | k_ne | (intro p hp; exact List.forall_mem_nil _) | assumption))) (fun p hp b hb => by rw [List.mem_singleton.mp hb]; exact tail_ne hown (by omega) p hp) (by (exact fun q hq => by rw [List.mem_singleton.mp hq]; exact List.mem_singleton.mpr rfl))); (case d1 => first | exact room_lt hd (by decide) | ktr_room); (case d2 => first | exact room_lt hu (by decide) | ktr_units))
      rintro v sel' h5 tk5 ⟨t5, tf5, tt5, n5, rfl, rfl, hlt5⟩ F5 N5 ap5 _
      simp only [List.cons_append, List.nil_append] at N5
      k_steps
      refine ⟨?_⟩
      (k_dflt (refine' kdn_int ?dzq ?dzf ?dzm ?dzb ?dza ?dzl ?dze ?dzk ?_; (case dzq => rfl); (case dzf => k_asm); (case dzm => k_asm); (case dzb => exact TopRead.nolimit (by k_asm)); (case dza => rfl); (case dzl => rfl); (case dze => exact List.cons_ne_nil _ _); (case dzk => exact Nat.le_of_ble_eq_true rfl)); intro d7 h7 o7 F7 N7 l7 lo7 hd7; (have lown : ∀ p ∈ own, @LT.lt Nat _ p.1 d7 := fun p hp => l7 p (by repeat (first | exact hp | refine List.Mem.tail _ ?_))); (k_lt l7))
      k_steps
      refine ⟨?_⟩
      rw [show ([9, 11, 13] : List Int).getD (((wideOf v : Nat) : Int)).toNat 0 = ((lenBits 2 v : Nat) : Int) by unfold wideOf lenBits; (repeat' split) <;> first | rfl | omega]
      ((with_reducible show wpAny _ _ (call (Value.ref 174) _) _ _ _); k_dflt (refine' Spec.use (taken_at (size := lenBits 2 v) (x := o.size) (at1 := (allB v (T.take j)).length + 4) (p := allB v (T.take j) ++ bitsOf 2 4) (r := enc 2 o ++ allB v (T.drop (j + 1))) hi (by omega) (lenBits_lt (.inr (.inl rfl))).2 hbit (by rw [h4]; simp only [List.append_assoc]) (size_lt (.inr (.inl rfl)) ho) (by rw [List.length_append, bitsOf_length])) ((D1, PySem.W.listOf vs.toArray e1) :: (L' + 1 + 1, ob1) :: (L' + 1, ob2) :: own) ?k1 ?k2 ?k3 ?k4 ?k5 ?kK ?s1 ?s2 ?s3 ?d1 ?d2 ?_); (case k1 => k_asm); (case k2 => k_asm); (case k3 => k_asm); (case k4 => k_asm); (case k5 => k_asm); (case kK => first | exact rfl | assumption); (case s1 => (repeat (first | (apply sub_nil) | (apply sub_cons (by k_mem)) | (intro p hp; repeat (first | exact hp | apply sub_tail))))); (case s2 => (repeat (first | (apply sub_nil) | (apply sub_cons (by k_mem)) | (intro p hp; repeat (first | exact hp | apply sub_tail))))); (case s3 => exact apart_own (pre := [(D1, _), (L' + 1 + 1, _), (L' + 1, _)]) (adr := [l]) (by (repeat' (first | (refine List.forall_mem_cons.mpr ⟨?_, ?_⟩) | exact List.forall_mem_nil _ | k_ne | (intro p hp; exact List.forall_mem_nil _) | assumption))) (fun p hp b hb => by rw [List.mem_singleton.mp hb]; exact tail_ne hown (by omega) p hp) (by (exact fun q hq => by rw [List.mem_singleton.mp hq]; exact List.mem_singleton.mpr rfl))); (case d1 => first | exact room_lt hd (by decide) | ktr_room); (case d2 => first | exact room_lt hu (by decide) | ktr_units))
      rintro v sel' h6 tk6 ⟨t6, tf6, tt6, n6, rfl, rfl, hlt6⟩ F6 N6 ap6 _
      simp only [List.cons_append, List.nil_append] at N6
      k_steps
      refine ⟨?_⟩
      (rename Fr _ _ _ _ => F8; rename News _ _ _ _ => N8)
      (repeat (rename (_ < _ ∧ _) => hz9; clear hz9))
      (repeat (rename Obj.IsDictOf _ _ _ => hz9; clear hz9))
      clear ap5 ap6 lo7 lown
      (repeat (rename (∀ b o, Heap.get? (rest0 _ _) b = some o → _) => hz9; clear hz9))
      refine' while_free (σ := (Nat × Tok) × (Array UInt8 × Tok) × (Obj × Obj)) (fun c => (D1, PySem.W.listOf vs.toArray e1) :: (L' + 1 + 1, c.2.2.1) :: (L' + 1, c.2.2.2) :: (l, PySem.W.listOf xs.toArray el) :: own) (fun c => [("at", .int c.1.1 c.1.2), ("text", .bytes c.2.1.1 c.2.1.2), ("texts", .ref D1), ("bits", .ref l), ("wide", .int (wideOf v) tw), ("mode", .int (2 : Nat) tf5), ("size", .int (o.size : Nat) tf6)])
        (fun k c => ∃ i, i + k = nWords 2 o ∧ c.1.1 = (allB v (T.take j)).length + 4 + lenBits 2 v + (words 2 o i).length ∧ c.2.1.1.toList = o.toList.take (2 * i) ∧ (∃ v1, c.2.2.1.data = .cell v1) ∧ (∃ v1, c.2.2.2.data = .cell v1)) (nWords 2 o) ((_, _), (_, _), (ob1, ob2)) F8 ?rn ?rc ?rd ?re ?turn
      case rc => (repeat (first | exact List.forall_mem_nil _ | refine List.forall_mem_cons.mpr ⟨by with_unfolding_all rfl, ?_⟩))
      case rn => (dsimp only; exact fun p hp => N8 p (by revert p; (repeat (first | (apply sub_nil) | (apply sub_cons (by k_mem)) | (intro p hp; repeat (first | exact hp | apply sub_tail))))))
      case rd => exact ⟨0, Nat.zero_add _, rfl, rfl, ⟨_, hv1⟩, ⟨_, hv2⟩⟩
      case re => with_unfolding_all passes_own
      case turn =>
        clear F8 N8
        rintro k2 ⟨⟨at2, ta2⟩, ⟨tx, ttx⟩, ⟨oc3, oc4⟩⟩ u2 h9 tk9 ⟨i, hik, hat2, htx, ⟨v3, hv3⟩, ⟨v4, hv4⟩⟩ F9 N9
        dsimp only at hat2 htx hv3 hv4 F9 N9
        subst hat2
        rcases Nat.lt_or_ge i (nWords 2 o) with hin | hin
        · have hnw : nWords 2 o = (o.size + 1) / 2 := rfl
          have htl : tx.size = 2 * i := by rw [← Array.length_toList, htx, List.length_take, Array.length_toList]; omega
          obtain ⟨r9, er9⟩ := enc_split hin
          have hpos : 0 < k2 := by omega
          by_cases h2' : 2 * i + 2 ≤ o.size
          · obtain ⟨x9, a9, b9, ex9, hx9, hf1, hf2, ha9, hb9, q0, q1⟩ := sgn2 hd1 (show 2 * i + 1 < o.size by omega)
            have hw : word 2 o i = bitsOf x9 11 := by unfold word; rw [if_neg (by decide), if_pos rfl, if_pos h2', ex9]
            have hq9 : Hid ((ALPHA.toList.getD a9 0 = (at0 o (2 * i)).toUInt8 ∧ ALPHA.toList.getD b9 0 = (at0 o (2 * i + 1)).toUInt8) ∧ i + k2 = nWords 2 o ∧ 2 * i + 2 ≤ o.size ∧ tx.size = 2 * i) := ⟨⟨q0, q1⟩, hik, h2', htl⟩
            have hlt9 : tx.size + 2 ≤ o.size := by omega
            clear q0 q1 hnw hin hik ex9
            have h9 : ns = (((allB v (T.take j) ++ (bitsOf 2 4 ++ bitsOf o.size (lenBits 2 v))) ++ words 2 o i) ++ (bitsOf x9 11 ++ (r9 ++ allB v (T.drop (j + 1))))).map b2i := by rw [h4, er9, hw]; simp only [List.append_assoc]
            have hp9 : (((allB v (T.take j) ++ (bitsOf 2 4 ++ bitsOf o.size (lenBits 2 v))) ++ words 2 o i)).length = (allB v (T.take j)).length + 4 + lenBits 2 v + (words 2 o i).length := by simp only [List.length_append, bitsOf_length]; omega
            clear htl h2'
            (try k_fold)
            k_steps
            refine ⟨?_⟩
            ((with_reducible show wpAny _ _ (call (Value.ref 174) _) _ _ _); k_dflt (refine' Spec.use (taken_at (size := 11) (x := x9) hi (Nat.lt_trans hn (by decide)) (by decide) hbit h9 (Nat.lt_trans hx9 (by decide)) hp9) ((D1, PySem.W.listOf vs.toArray e1) :: (L' + 1 + 1, oc3) :: (L' + 1, _) :: own) ?k1 ?k2 ?k3 ?k4 ?k5 ?kK ?s1 ?s2 ?s3 ?d1 ?d2 ?_); (case k1 => k_asm); (case k2 => k_asm); (case k3 => k_asm); (case k4 => k_asm); (case k5 => k_asm); (case kK => first | exact rfl | assumption); (case s1 => (repeat (first | (apply sub_nil) | (apply sub_cons (by k_mem)) | (intro p hp; repeat (first | exact hp | apply sub_tail))))); (case s2 => (repeat (first | (apply sub_nil) | (apply sub_cons (by k_mem)) | (intro p hp; repeat (first | exact hp | apply sub_tail))))); (case s3 => exact apart_own (pre := [(D1, _), (L' + 1 + 1, _), (L' + 1, _)]) (adr := [l]) (by (repeat' (first | (refine List.forall_mem_cons.mpr ⟨?_, ?_⟩) | exact List.forall_mem_nil _ | k_ne | (intro p hp; exact List.forall_mem_nil _) | assumption))) (fun p hp b hb => by rw [List.mem_singleton.mp hb]; exact tail_ne hown (by omega) p hp) (by (exact fun q hq => by rw [List.mem_singleton.mp hq]; exact List.mem_singleton.mpr rfl))); (case d1 => first | exact room_lt hd (by decide) | ktr_room); (case d2 => first | exact room_lt hu (by decide) | ktr_units))
            rintro v sel' h10 tk10 ⟨t10, tf10, tt10, n10, rfl, rfl, hlt10⟩ F10 N10 ap10 _
            simp only [List.cons_append, List.nil_append] at N10
            have nt10 : @Ne Nat t10 (L' + 1 + 1) := ap10 (t10, _) List.mem_cons_self (L' + 1 + 1, oc3) (List.mem_cons_of_mem _ List.mem_cons_self)
            k_with "my bytes" => (refine hold ?_)
            k_steps
            refine ⟨?_⟩
            (rename Fr _ _ _ _ => F12; rename News _ _ _ _ => N12)
            refine bytes_K (ns := [(at0 o (2 * i) : Int), (at0 o (2 * i + 1) : Int)]) F12 N12 ⟨_, (N12 _ List.mem_cons_self).1, rfl, _, rfl⟩ (ints_eq (IntsAre.cons _ _ (IntsAre.cons _ _ IntsAre.nil)) (by rw [hf1, hf2, Int.toNat_natCast, Int.toNat_natCast]; show [((ALPHA.toList.getD a9 0).toNat : Int), ((ALPHA.toList.getD b9 0).toNat : Int)] = _; rw [hq9.1.1, hq9.1.2, at0_back, at0_back])) ?rr (show 2 ≤ sizeLine by rw [PySem.sizeLine_eq]; decide) rfl ?_
            case rr =>
              intro z hz
              have g0 := at0_lt o (2 * i)
              have g1 := at0_lt o (2 * i + 1)
              simp only [List.mem_cons, List.not_mem_nil, or_false] at hz
              omega
            intro h15 t15 k15 F15 N15 _
            clear F12 N12
            obtain ⟨_, wik, wsz, wtl⟩ := hq9
            k_steps
            (rename Fr _ _ _ _ => F15; rename News _ _ _ _ => N15)
            refine' WhlF.next ((_, tt10), (tx ++ (List.map (fun n : Int => n.toNat.toUInt8) [(at0 o (2 * i) : Int), (at0 o (2 * i + 1) : Int)]).toArray, _), (_, oc4)) (k2 - 1) F15 N15 ?wA ?wB (by omega) ⟨i + 1, by omega, ?_, ?_, ⟨_, by assumption⟩, ⟨_, hv4⟩⟩
            case wB => (repeat (first | exact List.forall_mem_nil _ | refine List.forall_mem_cons.mpr ⟨by with_unfolding_all rfl, ?_⟩))
            case wA => (dsimp only; (repeat (first | (apply sub_nil) | (apply sub_cons (by k_mem)) | (intro p hp; repeat (first | exact hp | apply sub_tail)))))
            · dsimp only
              rw [words_succ, hw, List.length_append, bitsOf_length]
              omega
            · show (tx ++ (List.map (fun n : Int => n.toNat.toUInt8) [(at0 o (2 * i) : Int), (at0 o (2 * i + 1) : Int)]).toArray).toList = _
              rw [show 2 * (i + 1) = 2 * i + 1 + 1 by omega, take_at o (by omega), take_at o (by omega), Array.toList_append, htx]
              simp
          · obtain ⟨x9, ex9, hx9, q0⟩ := sgn1 hd1 (show 2 * i < o.size by omega)
            have hw : word 2 o i = bitsOf x9 6 := by unfold word; rw [if_neg (by decide), if_pos rfl, if_neg h2', ex9]
            have hq9 : Hid (ALPHA.toList.getD x9 0 = (at0 o (2 * i)).toUInt8 ∧ i + k2 = nWords 2 o ∧ 2 * i + 1 = o.size ∧ tx.size = 2 * i) := ⟨q0, hik, by omega, htl⟩
            have hlt9 : tx.size + 1 = o.size := by omega
            clear q0 hnw hin hik ex9
            have h9 : ns = (((allB v (T.take j) ++ (bitsOf 2 4 ++ bitsOf o.size (lenBits 2 v))) ++ words 2 o i) ++ (bitsOf x9 6 ++ (r9 ++ allB v (T.drop (j + 1))))).map b2i := by rw [h4, er9, hw]; simp only [List.append_assoc]
            have hp9 : (((allB v (T.take j) ++ (bitsOf 2 4 ++ bitsOf o.size (lenBits 2 v))) ++ words 2 o i)).length = (allB v (T.take j)).length + 4 + lenBits 2 v + (words 2 o i).length := by simp only [List.length_append, bitsOf_length]; omega
            clear htl h2'
            (try k_fold)
            k_steps
            refine ⟨?_⟩
            ((with_reducible show wpAny _ _ (call (Value.ref 174) _) _ _ _); k_dflt (refine' Spec.use (taken_at (size := 6) (x := x9) hi (Nat.lt_trans hn (by decide)) (by decide) hbit h9 (Nat.lt_trans hx9 (by decide)) hp9) ((D1, PySem.W.listOf vs.toArray e1) :: (L' + 1 + 1, oc3) :: (L' + 1, _) :: own) ?k1 ?k2 ?k3 ?k4 ?k5 ?kK ?s1 ?s2 ?s3 ?d1 ?d2 ?_); (case k1 => k_asm); (case k2 => k_asm); (case k3 => k_asm); (case k4 => k_asm); (case k5 => k_asm); (case kK => first | exact rfl | assumption); (case s1 => (repeat (first | (apply sub_nil) | (apply sub_cons (by k_mem)) | (intro p hp; repeat (first | exact hp | apply sub_tail))))); (case s2 => (repeat (first | (apply sub_nil) | (apply sub_cons (by k_mem)) | (intro p hp; repeat (first | exact hp | apply sub_tail))))); (case s3 => exact apart_own (pre := [(D1, _), (L' + 1 + 1, _), (L' + 1, _)]) (adr := [l]) (by (repeat' (first | (refine List.forall_mem_cons.mpr ⟨?_, ?_⟩) | exact List.forall_mem_nil _ | k_ne | (intro p hp; exact List.forall_mem_nil _) | assumption))) (fun p hp b hb => by rw [List.mem_singleton.mp hb]; exact tail_ne hown (by omega) p hp) (by (exact fun q hq => by rw [List.mem_singleton.mp hq]; exact List.mem_singleton.mpr rfl))); (case d1 => first | exact room_lt hd (by decide) | ktr_room); (case d2 => first | exact room_lt hu (by decide) | ktr_units))
            rintro v sel' h10 tk10 ⟨t10, tf10, tt10, n10, rfl, rfl, hlt10⟩ F10 N10 ap10 _
            simp only [List.cons_append, List.nil_append] at N10
            have nt10 : @Ne Nat t10 (L' + 1 + 1) := ap10 (t10, _) List.mem_cons_self (L' + 1 + 1, oc3) (List.mem_cons_of_mem _ List.mem_cons_self)
            k_with "my bytes" => (refine hold ?_)
            k_steps
            refine ⟨?_⟩
            (rename Fr _ _ _ _ => F12; rename News _ _ _ _ => N12)
            refine bytes_K (ns := [(at0 o (2 * i) : Int)]) F12 N12 ⟨_, (N12 _ List.mem_cons_self).1, rfl, _, rfl⟩ (ints_eq (IntsAre.cons _ _ IntsAre.nil) (by rw [Int.toNat_natCast]; show [((ALPHA.toList.getD x9 0).toNat : Int)] = _; rw [hq9.1, at0_back])) ?rr (show 1 ≤ sizeLine by rw [PySem.sizeLine_eq]; decide) rfl ?_
            case rr =>
              intro z hz
              have g0 := at0_lt o (2 * i)
              have g1 := at0_lt o (2 * i + 1)
              simp only [List.mem_cons, List.not_mem_nil, or_false] at hz
              omega
            intro h15 t15 k15 F15 N15 _
            clear F12 N12
            obtain ⟨_, wik, wsz, wtl⟩ := hq9
            k_steps
            (rename Fr _ _ _ _ => F15; rename News _ _ _ _ => N15)
            refine' WhlF.next ((_, tt10), (tx ++ (List.map (fun n : Int => n.toNat.toUInt8) [(at0 o (2 * i) : Int)]).toArray, _), (_, oc4)) (k2 - 1) F15 N15 ?wA ?wB (by omega) ⟨i + 1, by omega, ?_, ?_, ⟨_, by assumption⟩, ⟨_, hv4⟩⟩
            case wB => (repeat (first | exact List.forall_mem_nil _ | refine List.forall_mem_cons.mpr ⟨by with_unfolding_all rfl, ?_⟩))
            case wA => (dsimp only; (repeat (first | (apply sub_nil) | (apply sub_cons (by k_mem)) | (intro p hp; repeat (first | exact hp | apply sub_tail)))))
            · dsimp only
              rw [words_succ, hw, List.length_append, bitsOf_length]
              omega
            · show (tx ++ (List.map (fun n : Int => n.toNat.toUInt8) [(at0 o (2 * i) : Int)]).toArray).toList = _
              rw [show o.toList.take (2 * (i + 1)) = o.toList.take (2 * i + 1) by rw [List.take_of_length_le (by simp; omega), List.take_of_length_le (by simp; omega)], take_at o (by omega), Array.toList_append, htx]
              simp
        · have hnw : nWords 2 o = (o.size + 1) / 2 := rfl
          obtain rfl : tx = o := by
            have : tx.toList = o.toList := by rw [htx, List.take_of_length_le]; rw [Array.length_toList]; omega
            exact Array.toList_inj.mp this
          (try k_fold)
          k_steps
          refine ⟨?_⟩
          (rename Fr _ _ _ _ => F10; rename News _ _ _ _ => N10)
          refine cat_tup (b := L' + 1 + 1) F10 N10 (by omega) (by have := hrd.length; rw [List.length_take] at this; omega) ?_
          intro D2 Dx tm to nn h11 F11 N11 lt1 lt2
          clear F10 N10
          k_steps
          (rename Fr _ _ _ _ => F12; rename News _ _ _ _ => N12)
          refine' WhlF.next ((_, ta2), (D2, vs ++ [Value.ref Dx], 0), (oc3, oc4), (Dx, tupO 2 tx tm to nn) :: own) (k - 1) F12 N12 ?wA ?wB (by omega) ⟨j + 1, by omega, ?_, ⟨_, hv3⟩, ⟨_, hv4⟩, List.forall_mem_cons.mpr ⟨lt1, hown⟩, ?_, Nat.lt_trans lt1 lt2⟩
          case wB => (repeat (first | exact List.forall_mem_nil _ | refine List.forall_mem_cons.mpr ⟨by with_unfolding_all rfl, ?_⟩))
          case wA => (dsimp only; (repeat (first | (apply sub_nil) | (apply sub_cons (by k_mem)) | (intro p hp; repeat (first | exact hp | apply sub_tail)))))
          · dsimp only
            rw [hst, show i = nWords 2 tx by omega]
            simp only [recB, enc, List.length_append, bitsOf_length]
            omega
          · rw [List.take_succ_eq_append_getElem hjl, hTj]
            dsimp only
            exact Rd.snoc (t := (2, tx)) List.mem_cons_self (hrd.mono fun p hp => List.mem_cons_of_mem _ hp)
    · have h4 : ns = (allB v (T.take j) ++ (bitsOf 4 4 ++ (bitsOf o.size (lenBits 4 v) ++ (enc 4 o ++ allB v (T.drop (j + 1)))))).map b2i := by rw [hns, hsp]; simp [recB, List.append_assoc]
      (try k_fold)
      k_steps
      refine ⟨?_⟩
      ((with_reducible show wpAny _ _ (call (Value.ref 174) _) _ _ _); k_dflt (refine' Spec.use (taken_at (size := 4) (x := 4) hi (by omega) (by decide) hbit h4 (by decide) rfl) ((D1, PySem.W.listOf vs.toArray e1) :: (L' + 1 + 1, ob1) :: (L' + 1, ob2) :: own) ?k1 ?k2 ?k3 ?k4 ?k5 ?kK ?s1 ?s2 ?s3 ?d1 ?d2 ?_); (case k1 => k_asm); (case k2 => k_asm); (case k3 => k_asm); (case k4 => k_asm); (case k5 => k_asm); (case kK => first | exact rfl | assumption); (case s1 => (repeat (first | (apply sub_nil) | (apply sub_cons (by k_mem)) | (intro p hp; repeat (first | exact hp | apply sub_tail))))); (case s2 => (repeat (first | (apply sub_nil) | (apply sub_cons (by k_mem)) | (intro p hp; repeat (first | exact hp | apply sub_tail))))); (case s3 => exact apart_own (pre := [(D1, _), (L' + 1 + 1, _), (L' + 1, _)]) (adr := [l]) (by (repeat' (first | (refine List.forall_mem_cons.mpr ⟨?_, ?_⟩) | exact List.forall_mem_nil _ | k_ne | (intro p hp; exact List.forall_mem_nil _) | assumption))) (fun p hp b hb => by rw [List.mem_singleton.mp hb]; exact tail_ne hown (by omega) p hp) (by (exact fun q hq => by rw [List.mem_singleton.mp hq]; exact List.mem_singleton.mpr rfl))); (case d1 => first | exact room_lt hd (by decide) | ktr_room); (case d2 => first | exact room_lt hu (by decide) | ktr_units))
      rintro v sel' h5 tk5 ⟨t5, tf5, tt5, n5, rfl, rfl, hlt5⟩ F5 N5 ap5 _
      simp only [List.cons_append, List.nil_append] at N5
      k_steps
      refine ⟨?_⟩
      (k_dflt (refine' kdn_int ?dzq ?dzf ?dzm ?dzb ?dza ?dzl ?dze ?dzk ?_; (case dzq => rfl); (case dzf => k_asm); (case dzm => k_asm); (case dzb => exact TopRead.nolimit (by k_asm)); (case dza => rfl); (case dzl => rfl); (case dze => exact List.cons_ne_nil _ _); (case dzk => exact Nat.le_of_ble_eq_true rfl)); intro d7 h7 o7 F7 N7 l7 lo7 hd7; (have lown : ∀ p ∈ own, @LT.lt Nat _ p.1 d7 := fun p hp => l7 p (by repeat (first | exact hp | refine List.Mem.tail _ ?_))); (k_lt l7))
      k_steps
      refine ⟨?_⟩
      rw [show ([8, 16, 16] : List Int).getD (((wideOf v : Nat) : Int)).toNat 0 = ((lenBits 4 v : Nat) : Int) by unfold wideOf lenBits; (repeat' split) <;> first | rfl | omega]
      ((with_reducible show wpAny _ _ (call (Value.ref 174) _) _ _ _); k_dflt (refine' Spec.use (taken_at (size := lenBits 4 v) (x := o.size) (at1 := (allB v (T.take j)).length + 4) (p := allB v (T.take j) ++ bitsOf 4 4) (r := enc 4 o ++ allB v (T.drop (j + 1))) hi (by omega) (lenBits_lt (.inr (.inr rfl))).2 hbit (by rw [h4]; simp only [List.append_assoc]) (size_lt (.inr (.inr rfl)) ho) (by rw [List.length_append, bitsOf_length])) ((D1, PySem.W.listOf vs.toArray e1) :: (L' + 1 + 1, ob1) :: (L' + 1, ob2) :: own) ?k1 ?k2 ?k3 ?k4 ?k5 ?kK ?s1 ?s2 ?s3 ?d1 ?d2 ?_); (case k1 => k_asm); (case k2 => k_asm); (case k3 => k_asm); (case k4 => k_asm); (case k5 => k_asm); (case kK => first | exact rfl | assumption); (case s1 => (repeat (first | (apply sub_nil) | (apply sub_cons (by k_mem)) | (intro p hp; repeat (first | exact hp | apply sub_tail))))); (case s2 => (repeat (first | (apply sub_nil) | (apply sub_cons (by k_mem)) | (intro p hp; repeat (first | exact hp | apply sub_tail))))); (case s3 => exact apart_own (pre := [(D1, _), (L' + 1 + 1, _), (L' + 1, _)]) (adr := [l]) (by (repeat' (first | (refine List.forall_mem_cons.mpr ⟨?_, ?_⟩) | exact List.forall_mem_nil _ | k_ne | (intro p hp; exact List.forall_mem_nil _) | assumption))) (fun p hp b hb => by rw [List.mem_singleton.mp hb]; exact tail_ne hown (by omega) p hp) (by (exact fun q hq => by rw [List.mem_singleton.mp hq]; exact List.mem_singleton.mpr rfl))); (case d1 => first | exact room_lt hd (by decide) | ktr_room); (case d2 => first | exact room_lt hu (by decide) | ktr_units))
      rintro v sel' h6 tk6 ⟨t6, tf6, tt6, n6, rfl, rfl, hlt6⟩ F6 N6 ap6 _
      simp only [List.cons_append, List.nil_append] at N6
      k_steps
      refine ⟨?_⟩
      (rename Fr _ _ _ _ => F8; rename News _ _ _ _ => N8)
      (repeat (rename (_ < _ ∧ _) => hz9; clear hz9))
      (repeat (rename Obj.IsDictOf _ _ _ => hz9; clear hz9))
      clear ap5 ap6 lo7 lown
      (repeat (rename (∀ b o, Heap.get? (rest0 _ _) b = some o → _) => hz9; clear hz9))
      refine' while_free (σ := (Nat × Tok) × (Array UInt8 × Tok) × (Obj × Obj)) (fun c => (D1, PySem.W.listOf vs.toArray e1) :: (L' + 1 + 1, c.2.2.1) :: (L' + 1, c.2.2.2) :: (l, PySem.W.listOf xs.toArray el) :: own) (fun c => [("at", .int c.1.1 c.1.2), ("text", .bytes c.2.1.1 c.2.1.2), ("texts", .ref D1), ("bits", .ref l), ("wide", .int (wideOf v) tw), ("mode", .int (4 : Nat) tf5), ("size", .int (o.size : Nat) tf6)])
        (fun k c => ∃ i, i + k = nWords 4 o ∧ c.1.1 = (allB v (T.take j)).length + 4 + lenBits 4 v + (words 4 o i).length ∧ c.2.1.1.toList = o.toList.take i ∧ (∃ v1, c.2.2.1.data = .cell v1) ∧ (∃ v1, c.2.2.2.data = .cell v1)) (nWords 4 o) ((_, _), (_, _), (ob1, ob2)) F8 ?rn ?rc ?rd ?re ?turn
      case rc => (repeat (first | exact List.forall_mem_nil _ | refine List.forall_mem_cons.mpr ⟨by with_unfolding_all rfl, ?_⟩))
      case rn => (dsimp only; exact fun p hp => N8 p (by revert p; (repeat (first | (apply sub_nil) | (apply sub_cons (by k_mem)) | (intro p hp; repeat (first | exact hp | apply sub_tail))))))
      case rd => exact ⟨0, Nat.zero_add _, rfl, rfl, ⟨_, hv1⟩, ⟨_, hv2⟩⟩
      case re => with_unfolding_all passes_own
      case turn =>
        clear F8 N8
        rintro k2 ⟨⟨at2, ta2⟩, ⟨tx, ttx⟩, ⟨oc3, oc4⟩⟩ u2 h9 tk9 ⟨i, hik, hat2, htx, ⟨v3, hv3⟩, ⟨v4, hv4⟩⟩ F9 N9
        dsimp only at hat2 htx hv3 hv4 F9 N9
        subst hat2
        rcases Nat.lt_or_ge i (nWords 4 o) with hin | hin
        · have hnw : nWords 4 o = o.size := rfl
          have htl : tx.size = i := by rw [← Array.length_toList, htx, List.length_take, Array.length_toList]; omega
          obtain ⟨r9, er9⟩ := enc_split hin
          have hpos : 0 < k2 := by omega
          obtain ⟨x9, ex9⟩ : ∃ x, at0 o i = x := ⟨_, rfl⟩
          have hx9 : x9 < 256 := ex9 ▸ at0_lt o i
          have hw : word 4 o i = bitsOf x9 8 := by unfold word; rw [if_neg (by decide), if_neg (by decide), ex9]
          have hq9 : Hid (at0 o i = x9 ∧ i + k2 = nWords 4 o ∧ i + 1 ≤ o.size ∧ tx.size = i) := ⟨ex9, hik, by omega, htl⟩
          have hlt9 : tx.size + 1 ≤ o.size := by omega
          clear hnw hin hik ex9
          have h9 : ns = (((allB v (T.take j) ++ (bitsOf 4 4 ++ bitsOf o.size (lenBits 4 v))) ++ words 4 o i) ++ (bitsOf x9 8 ++ (r9 ++ allB v (T.drop (j + 1))))).map b2i := by rw [h4, er9, hw]; simp only [List.append_assoc]
          have hp9 : (((allB v (T.take j) ++ (bitsOf 4 4 ++ bitsOf o.size (lenBits 4 v))) ++ words 4 o i)).length = (allB v (T.take j)).length + 4 + lenBits 4 v + (words 4 o i).length := by simp only [List.length_append, bitsOf_length]; omega
          clear htl
          (try k_fold)
          k_steps
          refine ⟨?_⟩
          ((with_reducible show wpAny _ _ (call (Value.ref 174) _) _ _ _); k_dflt (refine' Spec.use (taken_at (size := 8) (x := x9) hi (Nat.lt_trans hn (by decide)) (by decide) hbit h9 (show x9 < 2 ^ 8 from hx9) hp9) ((D1, PySem.W.listOf vs.toArray e1) :: (L' + 1 + 1, oc3) :: (L' + 1, _) :: own) ?k1 ?k2 ?k3 ?k4 ?k5 ?kK ?s1 ?s2 ?s3 ?d1 ?d2 ?_); (case k1 => k_asm); (case k2 => k_asm); (case k3 => k_asm); (case k4 => k_asm); (case k5 => k_asm); (case kK => first | exact rfl | assumption); (case s1 => (repeat (first | (apply sub_nil) | (apply sub_cons (by k_mem)) | (intro p hp; repeat (first | exact hp | apply sub_tail))))); (case s2 => (repeat (first | (apply sub_nil) | (apply sub_cons (by k_mem)) | (intro p hp; repeat (first | exact hp | apply sub_tail))))); (case s3 => exact apart_own (pre := [(D1, _), (L' + 1 + 1, _), (L' + 1, _)]) (adr := [l]) (by (repeat' (first | (refine List.forall_mem_cons.mpr ⟨?_, ?_⟩) | exact List.forall_mem_nil _ | k_ne | (intro p hp; exact List.forall_mem_nil _) | assumption))) (fun p hp b hb => by rw [List.mem_singleton.mp hb]; exact tail_ne hown (by omega) p hp) (by (exact fun q hq => by rw [List.mem_singleton.mp hq]; exact List.mem_singleton.mpr rfl))); (case d1 => first | exact room_lt hd (by decide) | ktr_room); (case d2 => first | exact room_lt hu (by decide) | ktr_units))
          rintro v sel' h10 tk10 ⟨t10, tf10, tt10, n10, rfl, rfl, hlt10⟩ F10 N10 ap10 _
          simp only [List.cons_append, List.nil_append] at N10
          have nt10 : @Ne Nat t10 (L' + 1 + 1) := ap10 (t10, _) List.mem_cons_self (L' + 1 + 1, oc3) (List.mem_cons_of_mem _ List.mem_cons_self)
          k_with "my bytes" => (refine hold ?_)
          k_steps
          refine ⟨?_⟩
          (rename Fr _ _ _ _ => F12; rename News _ _ _ _ => N12)
          refine bytes_K (ns := [(at0 o (i) : Int)]) F12 N12 ⟨_, (N12 _ List.mem_cons_self).1, rfl, _, rfl⟩ (ints_eq (IntsAre.cons _ _ IntsAre.nil) (by rw [hq9.1])) ?rr (show 1 ≤ sizeLine by rw [PySem.sizeLine_eq]; decide) rfl ?_
          case rr =>
            intro z hz
            have g0 := at0_lt o (i)
            have g1 := at0_lt o (i + 1)
            simp only [List.mem_cons, List.not_mem_nil, or_false] at hz
            omega
          intro h15 t15 k15 F15 N15 _
          clear F12 N12
          obtain ⟨_, wik, wsz, wtl⟩ := hq9
          k_steps
          (rename Fr _ _ _ _ => F15; rename News _ _ _ _ => N15)
          refine' WhlF.next ((_, tt10), (tx ++ (List.map (fun n : Int => n.toNat.toUInt8) [(at0 o (i) : Int)]).toArray, _), (_, oc4)) (k2 - 1) F15 N15 ?wA ?wB (by omega) ⟨i + 1, by omega, ?_, ?_, ⟨_, by assumption⟩, ⟨_, hv4⟩⟩
          case wB => (repeat (first | exact List.forall_mem_nil _ | refine List.forall_mem_cons.mpr ⟨by with_unfolding_all rfl, ?_⟩))
          case wA => (dsimp only; (repeat (first | (apply sub_nil) | (apply sub_cons (by k_mem)) | (intro p hp; repeat (first | exact hp | apply sub_tail)))))
          · dsimp only
            rw [words_succ, hw, List.length_append, bitsOf_length]
            omega
          · show (tx ++ (List.map (fun n : Int => n.toNat.toUInt8) [(at0 o (i) : Int)]).toArray).toList = _
            rw [take_at o (by omega), Array.toList_append, htx]
            simp
        · have hnw : nWords 4 o = o.size := rfl
          obtain rfl : tx = o := by
            have : tx.toList = o.toList := by rw [htx, List.take_of_length_le]; rw [Array.length_toList]; omega
            exact Array.toList_inj.mp this
          (try k_fold)
          k_steps
          refine ⟨?_⟩
          (rename Fr _ _ _ _ => F10; rename News _ _ _ _ => N10)
          refine cat_tup (b := L' + 1 + 1) F10 N10 (by omega) (by have := hrd.length; rw [List.length_take] at this; omega) ?_
          intro D2 Dx tm to nn h11 F11 N11 lt1 lt2
          clear F10 N10
          k_steps
          (rename Fr _ _ _ _ => F12; rename News _ _ _ _ => N12)
          refine' WhlF.next ((_, ta2), (D2, vs ++ [Value.ref Dx], 0), (oc3, oc4), (Dx, tupO 4 tx tm to nn) :: own) (k - 1) F12 N12 ?wA ?wB (by omega) ⟨j + 1, by omega, ?_, ⟨_, hv3⟩, ⟨_, hv4⟩, List.forall_mem_cons.mpr ⟨lt1, hown⟩, ?_, Nat.lt_trans lt1 lt2⟩
          case wB => (repeat (first | exact List.forall_mem_nil _ | refine List.forall_mem_cons.mpr ⟨by with_unfolding_all rfl, ?_⟩))
          case wA => (dsimp only; (repeat (first | (apply sub_nil) | (apply sub_cons (by k_mem)) | (intro p hp; repeat (first | exact hp | apply sub_tail)))))
          · dsimp only
            rw [hst, show i = nWords 4 tx by omega]
            simp only [recB, enc, List.length_append, bitsOf_length]
            omega
          · rw [List.take_succ_eq_append_getElem hjl, hTj]
            dsimp only
            exact Rd.snoc (t := (4, tx)) List.mem_cons_self (hrd.mono fun p hp => List.mem_cons_of_mem _ hp)
end
section
theorem pbits_len (bs : List Bool) : (pbits [] 0 bs).length = (bs.length + 7) / 8 := by
  have := pbits_length bs [] 0 rfl
  simpa using this
theorem pbits_take_succ (bs : List Bool) {k : Nat} (h : k < bs.length) : pbits [] 0 (bs.take (k + 1)) = pbit (pbits [] 0 (bs.take k)) k bs[k] := by
  rw [List.take_succ_eq_append_getElem h, pbits_snoc, Nat.zero_add, List.length_take, Nat.min_eq_left (Nat.le_of_lt h)]
/-- the k-th bit as a number -/
def bt (l : List Bool) (k : Nat) : Int := if l[k]? = some true then 1 else 0
def oct (l : List Bool) (q : Nat) : Int := 128 * bt l (8 * q) + 64 * bt l (8 * q + 1) + 32 * bt l (8 * q + 2) + 16 * bt l (8 * q + 3) + 8 * bt l (8 * q + 4) + 4 * bt l (8 * q + 5) + 2 * bt l (8 * q + 6) + bt l (8 * q + 7)
def octs (l : List Bool) : List Int := (List.range ((l.length + 7) / 8)).map (oct l)
theorem bt_snoc (l : List Bool) (b : Bool) (k : Nat) : bt (l ++ [b]) k = if k = l.length then b2i b else bt l k := by
  unfold bt b2i
  by_cases h1 : k < l.length
  · rw [List.getElem?_append_left h1, if_neg (Nat.ne_of_lt h1)]
  · by_cases h2 : k = l.length
    · subst h2; simp
    · rw [if_neg h2, List.getElem?_eq_none (by simp; omega), List.getElem?_eq_none (by omega)]
theorem bt_over {l : List Bool} {k : Nat} (h : l.length ≤ k) : bt l k = 0 := by
  unfold bt; rw [List.getElem?_eq_none h]; rfl
theorem bt_01 (l : List Bool) (k : Nat) : bt l k = 0 ∨ bt l k = 1 := by unfold bt; split <;> simp
theorem or_bit0 : ∀ (x : Fin 256) (r : Fin 8), x.val % 2 ^ (8 - r.val) = 0 → Builtin.bitOr ((x.val : Nat) : Int) (Int.fdiv 128 (2 ^ r.val)) = ((x.val + 2 ^ (7 - r.val) : Nat) : Int) := by decide +kernel
theorem octs_len (l : List Bool) : (octs l).length = (l.length + 7) / 8 := by simp [octs]
theorem oct_lo (l : List Bool) (b : Bool) {q : Nat} (h : 8 * q + 8 ≤ l.length) : oct (l ++ [b]) q = oct l q := by
  unfold oct
  simp only [bt_snoc]
  rw [if_neg (by omega), if_neg (by omega), if_neg (by omega), if_neg (by omega), if_neg (by omega), if_neg (by omega), if_neg (by omega), if_neg (by omega)]
theorem oct_hi (l : List Bool) (b : Bool) {q : Nat} (h1 : 8 * q ≤ l.length) (h2 : l.length < 8 * q + 8) : oct (l ++ [b]) q = oct l q + b2i b * 2 ^ (7 - l.length % 8) ∧ 0 ≤ oct l q ∧ oct l q < 256 ∧ (oct l q).toNat % 2 ^ (8 - l.length % 8) = 0 := by
  obtain ⟨r, hr, e⟩ : ∃ r, r < 8 ∧ l.length = 8 * q + r := ⟨l.length - 8 * q, by omega, by omega⟩
  have em : l.length % 8 = r := by omega
  rw [em]
  have z : ∀ k, r ≤ k → bt l (8 * q + k) = 0 := fun k hk => bt_over (by omega)
  have z0 : bt l (8 * q) = bt l (8 * q + 0) := rfl
  have b0 := bt_01 l (8 * q); have b1 := bt_01 l (8 * q + 1); have b2 := bt_01 l (8 * q + 2); have b3 := bt_01 l (8 * q + 3)
  have b4 := bt_01 l (8 * q + 4); have b5 := bt_01 l (8 * q + 5); have b6 := bt_01 l (8 * q + 6); have b7 := bt_01 l (8 * q + 7)
  have hb : b2i b = 0 ∨ b2i b = 1 := by cases b <;> simp [b2i]
  unfold oct
  simp only [bt_snoc, e]
  obtain rfl | rfl | rfl | rfl | rfl | rfl | rfl | rfl : r = 0 ∨ r = 1 ∨ r = 2 ∨ r = 3 ∨ r = 4 ∨ r = 5 ∨ r = 6 ∨ r = 7 := by omega
  all_goals (
    have z1 := z 0; have z2 := z 1; have z3 := z 2; have z4 := z 3; have z5 := z 4; have z6 := z 5; have z7 := z 6; have z8 := z 7
    simp at z1 z2 z3 z4 z5 z6 z7 z8 ⊢
    omega)
theorem octs_snoc (l : List Bool) (b : Bool) : octs (l ++ [b]) = pbit (octs l) l.length b := by
  obtain ⟨m, hm⟩ : ∃ m, l.length / 8 = m := ⟨_, rfl⟩
  obtain ⟨hv, h0, h1, hz⟩ := oct_hi l b (q := m) (by omega) (by omega)
  have R1 : (if (octs l).length ≤ l.length / 8 then octs l ++ [0] else octs l) = (List.range m).map (oct l) ++ [oct l m] := by
    rw [octs_len, hm]
    split
    · unfold octs
      rw [show (l.length + 7) / 8 = m by omega]
      have : oct l m = 0 := by
        unfold oct
        rw [bt_over (by omega), bt_over (by omega), bt_over (by omega), bt_over (by omega), bt_over (by omega), bt_over (by omega), bt_over (by omega), bt_over (by omega)]
        rfl
      rw [this]
    · unfold octs
      rw [show (l.length + 7) / 8 = m + 1 by omega, List.range_succ, List.map_append, List.map_singleton]
  have O : octs (l ++ [b]) = (List.range m).map (oct l) ++ [oct l m + b2i b * 2 ^ (7 - l.length % 8)] := by
    unfold octs
    rw [show ((l ++ [b]).length + 7) / 8 = m + 1 by simp; omega, List.range_succ, List.map_append, List.map_singleton, hv]
    congr 1
    exact List.map_congr_left fun q hq => oct_lo l b (by have := List.mem_range.mp hq; omega)
  unfold pbit
  dsimp only
  rw [R1, O, hm]
  cases b with
  | false => simp [b2i]
  | true =>
    rw [if_pos rfl]
    have hlen : ((List.range m).map (oct l)).length = m := by simp
    have hg : (((List.range m).map (oct l)) ++ [oct l m]).getD m 0 = oct l m := by
      rw [List.getD_eq_getElem?_getD, List.getElem?_append_right (by omega), hlen]; simp
    have hs : ∀ v : Int, (((List.range m).map (oct l)) ++ [oct l m]).set m v = ((List.range m).map (oct l)) ++ [v] := fun v => by
      rw [List.set_append, hlen, if_neg (Nat.lt_irrefl _)]; simp
    rw [hg, hs]
    have := or_bit0 ⟨(oct l m).toNat, by omega⟩ ⟨l.length % 8, Nat.mod_lt _ (by decide)⟩ hz
    simp only [Int.toNat_of_nonneg h0] at this
    rw [this]
    simp [b2i, Int.toNat_of_nonneg h0]
theorem pbits_octs (bs : List Bool) : ∀ n, n ≤ bs.length → pbits [] 0 (bs.take n) = octs (bs.take n)
  | 0, _ => by rw [List.take_zero]; rfl
  | n + 1, h => by
    rw [pbits_take_succ bs h, pbits_octs bs n (Nat.le_of_succ_le h), List.take_succ_eq_append_getElem h, octs_snoc, List.length_take, Nat.min_eq_left (Nat.le_of_lt h)]
theorem pbits_eq (bs : List Bool) : pbits [] 0 bs = octs bs := by
  have := pbits_octs bs bs.length (Nat.le_refl _)
  rwa [List.take_length] at this
theorem octs_getD (bs : List Bool) {q : Nat} (h : q < (bs.length + 7) / 8) : (octs bs).getD q 0 = oct bs q := by
  unfold octs
  rw [List.getD_eq_getElem?_getD, List.getElem?_map, List.getElem?_range h]; rfl
theorem bt_b (l : List Bool) (k : Nat) : 0 ≤ bt l k ∧ bt l k ≤ 1 := by rcases bt_01 l k with h | h <;> omega
set_option maxHeartbeats 2000000 in
theorem oct_bit (bs : List Bool) (q r : Nat) (hr : r < 8) : Builtin.bitAnd ((oct bs q).fdiv (2 ^ (7 - r))) 1 = bt bs (8 * q + r) := by
  have b0 := bt_b bs (8 * q); have b1 := bt_b bs (8 * q + 1); have b2 := bt_b bs (8 * q + 2); have b3 := bt_b bs (8 * q + 3)
  have b4 := bt_b bs (8 * q + 4); have b5 := bt_b bs (8 * q + 5); have b6 := bt_b bs (8 * q + 6); have b7 := bt_b bs (8 * q + 7)
  rw [bitAnd_m1]
  unfold oct
  obtain rfl | rfl | rfl | rfl | rfl | rfl | rfl | rfl : r = 0 ∨ r = 1 ∨ r = 2 ∨ r = 3 ∨ r = 4 ∨ r = 5 ∨ r = 6 ∨ r = 7 := by omega
  all_goals (
    generalize bt bs (8 * q) = x0 at *
    generalize bt bs (8 * q + 1) = x1 at *
    generalize bt bs (8 * q + 2) = x2 at *
    generalize bt bs (8 * q + 3) = x3 at *
    generalize bt bs (8 * q + 4) = x4 at *
    generalize bt bs (8 * q + 5) = x5 at *
    generalize bt bs (8 * q + 6) = x6 at *
    generalize bt bs (8 * q + 7) = x7 at *
    rw [Int.fdiv_eq_ediv_of_nonneg _ (by decide)]
    simp
    omega)
theorem gbit_octs (bs : List Bool) {k : Nat} (h : k < bs.length) : gbit (octs bs) k = bs[k] := by
  unfold gbit
  rw [octs_getD bs (by omega), oct_bit bs (k / 8) (k % 8) (Nat.mod_lt _ (by decide)), show 8 * (k / 8) + k % 8 = k by omega]
  unfold bt
  rw [List.getElem?_eq_getElem h]
  cases bs[k] <;> simp
theorem rest_getD (bs : List Bool) (pad k : Nat) : (bs.map b2i ++ List.replicate pad 0).getD k 0 = bt bs k := by
  rw [List.getD_eq_getElem?_getD]
  by_cases h : k < bs.length
  · rw [List.getElem?_append_left (by simpa using h), List.getElem?_map, List.getElem?_eq_getElem h]
    unfold bt; rw [List.getElem?_eq_getElem h]
    cases bs[k] <;> simp [b2i]
  · rw [List.getElem?_append_right (by simp; omega), bt_over (by omega)]
    rw [List.getElem?_replicate]
    split <;> rfl
set_option maxHeartbeats 2000000 in
theorem fig8 (ns : List Int) (q : Nat) (h : 8 * q + 8 ≤ ns.length) : fig ((ns.drop (8 * q)).take 8) = 128 * ns.getD (8 * q) 0 + 64 * ns.getD (8 * q + 1) 0 + 32 * ns.getD (8 * q + 2) 0 + 16 * ns.getD (8 * q + 3) 0 + 8 * ns.getD (8 * q + 4) 0 + 4 * ns.getD (8 * q + 5) 0 + 2 * ns.getD (8 * q + 6) 0 + ns.getD (8 * q + 7) 0 := by
  have g : ∀ i, i < 8 → fig ((ns.drop (8 * q)).take (i + 1)) = 2 * fig ((ns.drop (8 * q)).take i) + ns.getD (8 * q + i) 0 := fun i hi => by
    rw [getD_of_drop (by omega), fig_snoc, List.getD_eq_getElem?_getD, List.getElem?_eq_getElem (by omega)]; rfl
  have g0 := g 0 (by decide); have g1 := g 1 (by decide); have g2 := g 2 (by decide); have g3 := g 3 (by decide)
  have g4 := g 4 (by decide); have g5 := g 5 (by decide); have g6 := g 6 (by decide); have g7 := g 7 (by decide)
  have gz : fig ((ns.drop (8 * q)).take 0) = 0 := rfl
  simp only [Nat.zero_add, Nat.reduceAdd, Nat.add_zero] at g0 g1 g2 g3 g4 g5 g6 g7
  omega
theorem rest_oct (bs : List Bool) (pad q : Nat) (h : 8 * q + 8 ≤ bs.length + pad) : fig (((bs.map b2i ++ List.replicate pad 0).drop (8 * q)).take 8) = oct bs q := by
  rw [fig8 _ _ (by simpa using h)]
  simp only [rest_getD]
  rfl
theorem dig_alpha : ∀ c : Fin 256, isDig ((c.val.toUInt8).toNat : Int) = true → ALPHA.contains c.val.toUInt8 = true := by decide +kernel
theorem all_dig {o : Array UInt8} (h : Builtin.Bytes.allOf Builtin.Bytes.isDigit o.toList = true) : ∀ c ∈ o, isDig (c.toNat : Int) = true := by
  unfold Builtin.Bytes.allOf at h
  have h2 := (Bool.and_eq_true _ _ ▸ h).2
  intro c hc
  rw [← dig_iff]
  exact List.all_eq_true.mp h2 c (by simpa using hc)
theorem holds_of {o : Array UInt8} {k : Nat} (ho : o.size ≤ 9) (hk : k = 1 ∨ k = 2 ∨ k = 4) (h : optM o ≤ k) : Holds (k, o) := by
  refine ⟨ho, ?_⟩
  dsimp only
  rcases hk with rfl | rfl | rfl
  · refine .inl ⟨rfl, fun c hc => ?_⟩
    have hd : Builtin.Bytes.allOf Builtin.Bytes.isDigit o.toList = true := by
      unfold optM at h
      split at h
      · assumption
      · split at h <;> omega
    have := all_dig hd c hc
    unfold isDig at this
    simp at this
    omega
  · refine .inr (.inl ⟨rfl, fun c hc => ?_⟩)
    unfold optM at h
    split at h
    · rename_i hd
      have := dig_alpha ⟨c.toNat, c.toNat_lt⟩
      simp only [show (c.toNat).toUInt8 = c by simp] at this
      exact this (all_dig hd c hc)
    · split at h
      · rename_i ha
        exact List.all_eq_true.mp ha c (by simpa using hc)
      · omega
  · exact .inr (.inr rfl)
theorem optM_cases (o : Array UInt8) : optM o = 1 ∨ optM o = 2 ∨ optM o = 4 := by unfold optM; (repeat' split) <;> simp
end
section
section
variable {prog : Program} {w : World} {A : Around} {E : Value → Shared → Prop} {s : Shared} {env : Env} {h₀ : Heap} {x : Str} {body : List Stmt} {Q : Flow → Shared → Prop}
/-- a turn's end, the other names forgotten, gens may grow by bare ones; what the for rule brought stays -/
def TurnA {σ : Type} (h₀ : Heap) (L : Addr) (Led : σ → List (Addr × Obj)) (ps : σ → List (Str × Value)) (P' : σ → Prop) (I : Addr) (oI : Obj) (os : OsState) (Q : Flow → Shared → Prop) (f : Flow) (s₂ : Shared) : Prop :=
  match f with
  | .ret v => Q (.ret v) s₂
  | .brk => Q .next s₂
  | _ => ∃ c m' news', s₂.os = os ∧ AllBare s₂.gens ∧ Fr h₀ L s₂.heap m' ∧ News h₀ L s₂.heap news' ∧ (∀ p ∈ Led c, p ∈ news') ∧ (I, oI) ∈ news' ∧ (∀ p ∈ Led c, p.1 ≠ I) ∧ (∀ p ∈ ps c, m' p.1 = some p.2) ∧ P' c
theorem TurnA.next {σ : Type} {L : Addr} {Led : σ → List (Addr × Obj)} {ps : σ → List (Str × Value)} {P' : σ → Prop} {I : Addr} {oI : Obj} {os : OsState} {s₂ : Shared} {m' : Str → Option Value} {news' : List (Addr × Obj)} (c : σ)
    (hos : s₂.os = os) (hg : AllBare s₂.gens) (F : Fr h₀ L s₂.heap m') (N : News h₀ L s₂.heap news') (hn : ∀ p ∈ Led c, p ∈ news') (hi : (I, oI) ∈ news') (hne : ∀ p ∈ Led c, p.1 ≠ I) (hk : ∀ p ∈ ps c, m' p.1 = some p.2) (hP : P' c) :
    TurnA h₀ L Led ps P' I oI os Q .next s₂ := ⟨c, m', news', hos, hg, F, N, hn, hi, hne, hk, hP⟩
theorem TurnA.cont {σ : Type} {L : Addr} {Led : σ → List (Addr × Obj)} {ps : σ → List (Str × Value)} {P' : σ → Prop} {I : Addr} {oI : Obj} {os : OsState} {s₂ : Shared} {m' : Str → Option Value} {news' : List (Addr × Obj)} (c : σ)
    (hos : s₂.os = os) (hg : AllBare s₂.gens) (F : Fr h₀ L s₂.heap m') (N : News h₀ L s₂.heap news') (hn : ∀ p ∈ Led c, p ∈ news') (hi : (I, oI) ∈ news') (hne : ∀ p ∈ Led c, p.1 ≠ I) (hk : ∀ p ∈ ps c, m' p.1 = some p.2) (hP : P' c) :
    TurnA h₀ L Led ps P' I oI os Q .cont s₂ := ⟨c, m', news', hos, hg, F, N, hn, hi, hne, hk, hP⟩
/-- what the for's source hands on -/
def ForA {σ : Type} (prog : Program) (w : World) (A : Around) (h₀ : Heap) (env : Env) (x : Str) (body : List Stmt) (Led : σ → List (Addr × Obj)) (ps : σ → List (Str × Value)) (P : Nat → σ → Prop) (os : OsState) (Q : Flow → Shared → Prop) (E : Value → Shared → Prop) (xv : Value) (s₁ : Shared) : Prop :=
  ∃ (n : Nat) (r : Addr) (t₀ u₀ v₀ : Tok) (c₀ : σ) (m₀ : Str → Option Value), xv = .ref r ∧ IsRange s₁.heap r 0 (n : Int) 1 t₀ u₀ v₀ ∧ n < 1000 ∧ s₁.os = os ∧ AllBare s₁.gens ∧ Fr h₀ env.locals s₁.heap m₀ ∧ News h₀ env.locals s₁.heap (Led c₀) ∧ (∀ p ∈ ps c₀, m₀ p.1 = some p.2) ∧ P 0 c₀ ∧
    (∀ (I : Addr) (oI : Obj) (c : σ) (i : Nat) (t : Tok) (u : Str → Option Value) (s' : Shared), @LE.le Nat _ s₁.heap.objs.size I → i < n → P i c → s'.os = os → AllBare s'.gens → (∀ p ∈ Led c, p.1 ≠ I) →
      Fr h₀ env.locals s'.heap (fun y => if y = x then some (.int i t) else kstB u (ps c) y) → News h₀ env.locals s'.heap (Led c ++ [(I, oI)]) →
      wpAny (model prog w) A (execs body env) (TurnA h₀ env.locals Led ps (P (i + 1)) I oI os Q) E s') ∧
    (∀ (c : σ) (u : Str → Option Value) (s' : Shared), P n c → s'.os = os → AllBare s'.gens → Fr h₀ env.locals s'.heap (kstB u (ps c)) → News h₀ env.locals s'.heap (Led c) → Q .next s')
theorem For_any {σ : Type} {px pos : Pos} {iter : Expr} (Led : σ → List (Addr × Obj)) (ps : σ → List (Str × Value)) (P : Nat → σ → Prop) (hx : env.kindOf x = some .local)
    (hp : (env.scope.kind == .class || (env.scope.kind == .module && env.locals != env.globals)) = false) (hh : A.handled = none)
    (h : wpAny (model prog w) A (eval iter env) (ForA prog w A h₀ env x body Led ps P s.os Q E) E s)
    (hs : ∀ x, foldedSetIterable iter env x = pure x) (hE : PassesOwn (model prog w) A env E) :
    wpAny (model prog w) A (exec (.For (.Name x px) iter body [] pos) env) Q E s := by
  refine wpAny_For (wpAny_mono h (fun xv s₁ h₁ => ?_) fun _ _ e => e) hs
  obtain ⟨n, r, t₀, u₀, v₀, c₀, m₀, rfl, hr, hn, hos, hg, F, N, hk, hP, turn, done⟩ := h₁
  refine wpAny_pyIter_range hr (small_one (by omega) (by omega) (by omega) (by omega)) ?_
  have hI0 : h₀.get? s₁.heap.objs.size = none := next_is_new F
  have hIL : env.locals ≠ s₁.heap.objs.size := Nat.ne_of_lt F.ns.lt
  have hrs : Builtin.Range.rangeSize 0 (n : Int) 1 = (n : Int) := (rangeSize_nat _ _).trans (by omega)
  refine codeAny_forLoop (R := fun r s' => match r with | .ok f => Q f s' | .error e => cameBackBy (model prog w) A env E e s')
    (fun k s' => ∃ (c : σ) (m : Str → Option Value) (i : Nat), s'.os = s.os ∧ AllBare s'.gens ∧ IsRangeIter s'.heap s₁.heap.objs.size (0 + (i : Nat) * 1) ((n : Int) - (i : Nat)) 1 ∧ Fr h₀ env.locals s'.heap m ∧ News h₀ env.locals s'.heap (Led c) ∧ (∀ p ∈ Led c, p.1 ≠ s₁.heap.objs.size) ∧ (∀ p ∈ ps c, m p.1 = some p.2) ∧ P i c ∧ i ≤ n ∧ k = n + 1 - i) ?_ (n + 1)
    ⟨c₀, m₀, 0, hos, hg, ?_, F.push _, (fun p hp => ⟨Heap.get?_push_of_some _ (N p hp).1, (N p hp).2⟩), (fun p hp => Nat.ne_of_lt (Heap.lt_size (N p hp).1)), hk, hP, Nat.zero_le _, rfl⟩
  rotate_left
  · rw [hrs]
    simpa using Heap.get?_push_size s₁.heap (o := { cls := .type "range_iterator", data := .fields #[rawInt 0, rawInt (n : Int), rawInt 1] }) rfl
  rintro k s' ⟨c, m, i, hos', hg', hit, F', N', hne, hk', hP', hi, rfl⟩
  obtain ⟨hh', gs', dr', tk', os'⟩ := s'
  have next : ∀ h₁ : Heap, Heap.SameBut s₁.heap.objs.size hh' h₁ ∨ (∀ b o, b ≠ s₁.heap.objs.size → hh'.get? b = some o → h₁.get? b = some o) → Fr h₀ env.locals h₁ m ∧ News h₀ env.locals h₁ (Led c) := fun h₁ hk₁ => by
    have hk₂ : ∀ b o, b ≠ s₁.heap.objs.size → hh'.get? b = some o → h₁.get? b = some o := by
      rcases hk₁ with hk₁ | hk₁
      · exact fun b o hb e => (hk₁.2 b hb).trans e
      · exact hk₁
    exact ⟨⟨F'.ns.at' fun o e => hk₂ _ o hIL e, fun b o e => hk₂ b o (fun z => by rw [z, hI0] at e; cases e) (F'.keep b o e), F'.above⟩, fun p hp => ⟨hk₂ _ _ (hne p hp) (N' p hp).1, (N' p hp).2⟩⟩
  by_cases hlt : i < n
  · refine wpAny_pyNext_range_item hit (by omega) fun h₁ hit₁ hs₁ => ?_
    obtain ⟨F₁, N₁⟩ := next h₁ (.inl hs₁)
    refine wpAny_assign_Name (wpAny_storeName_local hx F₁.ns (fun h₂ hn₂ hs₂ => ?_) hp)
    have F₂ := F₁.set hn₂ hs₂
    have N₂ := N₁.set hs₂
    obtain ⟨oI, hit₂, hoI⟩ : ∃ oI, h₂.get? s₁.heap.objs.size = some oI ∧ ∀ h : Heap, h.get? s₁.heap.objs.size = some oI → IsRangeIter h s₁.heap.objs.size (0 + (i : Nat) * 1 + 1) ((n : Int) - (i : Nat) - 1) 1 := ⟨_, (hs₂.2 _ (Ne.symm hIL)).trans hit₁, fun _ e => e⟩
    have e1 : kstB m (ps c) = m := funext fun z => kstB_eq hk' fun _ => rfl
    refine wpAny_passesOwn hE (wpAny_mono (turn s₁.heap.objs.size oI c i tk' m _ (Nat.le_refl _) hlt hP' hos' hg' hne ?_ ?_) (fun f s₃ h₃ => ?_) fun _ _ e => e)
    · rw [e1]
      have e0 : (0 : Int) + ((i : Nat) : Int) * 1 = (i : Int) := by omega
      rw [e0] at F₂
      exact F₂
    · intro p hp
      rcases List.mem_append.mp hp with hp | hp
      · exact N₂ p hp
      · rw [List.mem_singleton.mp hp]
        exact ⟨hit₂, Ne.symm hIL, hI0⟩
    · have fin : (∃ c m' news', s₃.os = s.os ∧ AllBare s₃.gens ∧ Fr h₀ env.locals s₃.heap m' ∧ News h₀ env.locals s₃.heap news' ∧ (∀ p ∈ Led c, p ∈ news') ∧ (s₁.heap.objs.size, oI) ∈ news' ∧ (∀ p ∈ Led c, p.1 ≠ s₁.heap.objs.size) ∧ (∀ p ∈ ps c, m' p.1 = some p.2) ∧ P (i + 1) c) →
        ∃ m, m < n + 1 - i ∧ ∃ (c : σ) (m_1 : Str → Option Value) (i : Nat), s₃.os = s.os ∧ AllBare s₃.gens ∧ IsRangeIter s₃.heap s₁.heap.objs.size (0 + (i : Nat) * 1) ((n : Int) - (i : Nat)) 1 ∧ Fr h₀ env.locals s₃.heap m_1 ∧ News h₀ env.locals s₃.heap (Led c) ∧ (∀ p ∈ Led c, p.1 ≠ s₁.heap.objs.size) ∧ (∀ p ∈ ps c, m_1 p.1 = some p.2) ∧ P i c ∧ i ≤ n ∧ m = n + 1 - i := by
        rintro ⟨c', m', news', hos3, hg3, F3, N3, hn3, hi3, hne3, hk3, hP3⟩
        refine ⟨n + 1 - (i + 1), by omega, c', m', i + 1, hos3, hg3, ?_, F3, fun p hp => N3 p (hn3 p hp), hne3, hk3, hP3, hlt, rfl⟩
        have e1 : (0 : Int) + ((i + 1 : Nat) : Int) * 1 = 0 + (i : Int) * 1 + 1 := by omega
        have e2 : (n : Int) - ((i + 1 : Nat) : Int) = (n : Int) - (i : Int) - 1 := by omega
        rw [e1, e2]
        exact hoI _ (N3 _ hi3).1
      cases f with
      | ret v => exact h₃
      | brk => exact h₃
      | next => exact fin h₃
      | cont => exact fin h₃
  · obtain rfl : i = n := by omega
    refine wpAny_pyNext_range_end hh hit (by omega) fun h₁ he₁ => wpAny_execs_nil ?_
    obtain ⟨F₁, N₁⟩ := next h₁ (.inr fun b o hb e => he₁ b o hb e)
    have e1 : kstB m (ps c) = m := funext fun z => kstB_eq hk' fun _ => rfl
    exact done c m _ hP' hos' hg' (by rw [e1]; exact F₁) N₁
end
section
variable {prog : Program} {w : World} {A : Around} {E : Value → Shared → Prop} {s' : Shared} {g G : Heap} {L a e : Addr} {m mg mb : Str → Option Value} {cn : Str} {cs : Scope} {ccd : Value} {cl : List (Str × Addr)}
  {b₀ : Stmt} {suite : List Stmt} {pos np : Pos} {hrest : List ExceptHandler} {Q : Flow → Shared → Prop} {news rest : List (Addr × Obj)} {K : Frag} {p : Program} {loose : List Str}
/-- an own frame's except ValueError, the frame the outmost -/
theorem caught_X (R : RaisedSN g G [envX cn cs L a ccd cl] e (.type "ValueError") news s'.heap) (F : Fr g L G m) (hsm : G.UpToSlots s'.heap) (X : K.In g) (T : TopRead p loose mg mb g) (hA : A.frames = some [envX cn cs L a ccd cl])
    (hr : ∀ q ∈ rest, G.get? q.1 = some q.2 ∧ q.1 ≠ L ∧ g.get? q.1 = none) (ex : nsIn K mainGlobals "ValueError" = some none)
    (k : ∀ h', Fr g L h' m → News g L h' (news ++ rest) → wpAny (model prog w) (A.mark (some (.ref e))) (execs (b₀ :: suite) (envX cn cs L a ccd cl)) Q E { s' with heap := h' })
    (hk : cs.kind = .function) (hx : (envX cn cs L a ccd cl).kindOf "ValueError" = some .globalImplicit)
    (hE : PassesOwnAt (model prog w) (A.mark (some (.ref e))) A (envX cn cs L a ccd cl) E) :
    wpAny (model prog w) A (noteFrame (.ref e) (envX cn cs L a ccd cl))
      (fun _ s₂ => wpAny (model prog w) A (setFlight (.ref e) none) (fun _ s₃ =>
        wpAny (model prog w) A (handleBy (.ref e) (envX cn cs L a ccd cl) (.ExceptHandler (some (.Name "ValueError" np)) none (b₀ :: suite) pos :: hrest)) Q E s₃) E s₂) E s' := by
  obtain ⟨B, a0, hB, hBG, hl, hfl⟩ := R
  have hmem : ∀ b, b ≠ L → b ∉ [envX cn cs L a ccd cl].filterMap (·.frame) := by
    intro b hb hm
    obtain ⟨env, he, hf⟩ := List.mem_filterMap.mp hm
    rw [List.mem_singleton.mp he] at hf
    exact hb (Option.some.inj hf).symm
  have hBL : B.get? L = none := by
    obtain ⟨_, ⟨L', _, hf, hn', _⟩, _⟩ := hfl.2.2.1
    obtain rfl : L = L' := Option.some.inj hf
    exact hn'
  have fr : ∀ h, B.StaysIn h → G.UpToSlots h → Fr g L h m := fun h hs hu => ⟨hu.ns F.ns, fun b o e => hs b o (hBG b o (F.keep b o e) (hmem b fun z => by rw [z, kts_self F] at e; cases e)), F.above⟩
  have nw : ∀ h, B.StaysIn h → News g L h (news ++ rest) := fun h hs q hq => by
    rcases List.mem_append.mp hq with hq | hq
    · exact ⟨hs _ _ (hl q hq).1, (fun z => by have := (hl q hq).1; rw [z, hBL] at this; cases this), (hl q hq).2.2⟩
    · obtain ⟨h1, h2, h3⟩ := hr q hq
      exact ⟨hs _ _ (hBG _ _ h1 (hmem _ h2)), h2, h3⟩
  refine wpAny_looks_onW hA rfl hfl fun h₄ hheld₄ hsm₄ => ?_
  refine wpAny_landsW hheld₄ fun h₅ hheld hsm₅' => ?_
  have hsm₅ := hsm₄.trans hsm₅'
  have F₅ := fr h₅ hheld.1 (hsm.trans hsm₅)
  obtain ⟨ob, hob, hobc⟩ := hheld.there
  refine wpAny_handleBy_builtin (X := "ValueError") (T := "ValueError") (b := true) PySem.F.isExc_ValueError PySem.F.notTuple_ValueError (by rfl) (nameX_B F₅ X T ex PyProof.Rows.Boot.«ValueError» (by decide) ⟨rfl, ⟨ob, hob, hobc⟩, ?_⟩ hk hx (by decide))
  refine lands_againW hheld fun h₆ hfl₆ hsm₆ => ?_
  exact wpAny_passesOwnAt hE (k h₆ (fr h₆ hfl₆.1 ((hsm.trans hsm₅).trans hsm₆)) (nw h₆ hfl₆.1))
end
end
section
theorem rebase {h h₁ : Heap} {L P : Addr} {m : Str → Option Value} (F : Fr h L h₁ m) : Fr (hideAll h [P]) L h₁ m :=
  ⟨F.ns, fun b o e => F.keep b o (of_hideAll _ e), Nat.le_trans (Nat.le_of_eq (hideAll_size _ _)) F.above⟩
theorem in_hide {K : Frag} {h : Heap} {P : Addr} (X : K.In h) (n : K.lookup P = none) : K.In (hideAll h [P]) := fun a o e => hideAll_get _ (X a o e) fun z => by
  rw [List.mem_singleton.mp z, n] at e; cases e
set_option maxRecDepth 100000 in
theorem opt_rec : ∃ d ∈ recsOf hd.view_39, d.name = "optimal_mode" := by
  have h : (recsOf hd.view_39).any (fun d => d.name == "optimal_mode") = true := by decide +kernel
  obtain ⟨d, hd1, hd2⟩ := List.any_eq_true.mp h
  exact ⟨d, hd1, eq_of_beq hd2⟩
set_option maxRecDepth 100000 in
theorem table48 {w : World} {loose : List Str} {mean : ExcName → Option Value} {mg mb : Str → Option Value} {h : Heap} (T : Top hd.view_39 loose mean mg mb h) (X : (hd.heap_39 w.params).In h) : h.get? 48 = some (tabO #[]) ∧ isCodeTable h 48 := by
  obtain ⟨d, hd1, hd2⟩ := opt_rec
  obtain ⟨a, o, fd, c, P, h1, h2, h3, h4, h5, h6⟩ := T.tab d hd1
  rw [hd2, mg_of (n := "optimal_mode") (v := .ref 53) X T.g (by k_is)] at h1
  cases h1
  have k53 := X 53 _ (by k_is)
  rw [k53] at h2
  cases h2
  cases h3
  cases h4
  have hct := h6.isCodeTable
  obtain ⟨⟨o2, vs, g1, g2, g3, g4⟩, g5⟩ := h6
  have k52 := X 52 _ (by k_is)
  rw [k52] at g1
  cases g1
  cases g3
  cases g4
  exact ⟨g5, hct⟩
theorem ns_hide {h : Heap} {a P : Addr} {m : Str → Option Value} (hn : h.Ns a m) (ne : a ≠ P) : (hideAll h [P]).Ns a m :=
  let ⟨o, es, ep, e, r⟩ := hn; ⟨o, es, ep, hideAll_get _ e fun z => ne (List.mem_singleton.mp z), r⟩
theorem ns_not_tab {h : Heap} {a P : Addr} {m : Str → Option Value} {ps : Array Value} (hn : h.Ns a m) (t : h.get? P = some (tabO ps)) : a ≠ P := by
  rintro rfl
  obtain ⟨o, es, ep, e, hd, _⟩ := hn
  rw [t] at e; cases e; cases hd
theorem top_hide {p : Program} {loose : List Str} {mg mb : Str → Option Value} {h : Heap} {P : Addr} {ps : Array Value} (T : TopRead p loose mg mb h) (t : h.get? P = some (tabO ps)) : TopRead p loose mg mb (hideAll h [P]) :=
  ⟨ns_hide T.g (ns_not_tab T.g t), ns_hide T.b (ns_not_tab T.b t), let ⟨mc, hn, e⟩ := T.nolimit; ⟨mc, ns_hide hn (ns_not_tab hn t), e⟩, T.builtins, T.free⟩
theorem bmod_hide {h : Heap} {g bm P : Addr} {mg : Str → Option Value} {ob : Obj} {ps : Array Value} (x : BMod h g mg bm ob) (t : h.get? P = some (tabO ps)) : BMod (hideAll h [P]) g mg bm ob :=
  ⟨ns_hide x.ns (ns_not_tab x.ns t), x.name, x.ne, hideAll_get _ x.obj (fun z => by
    have e := x.obj
    rw [List.mem_singleton.mp z, t] at e
    have hd := x.data
    cases e; cases hd), x.cls, x.dict, x.data⟩
set_option maxRecDepth 100000 in
theorem no48 (P : Params) : (hd.heap_39 P).lookup 48 = none := by with_unfolding_all rfl
theorem hide_none {h : Heap} {P a : Addr} (e : h.get? a = none) : (hideAll h [P]).get? a = none := by
  cases q : (hideAll h [P]).get? a with
  | none => rfl
  | some o => rw [of_hideAll _ q] at e; cases e
theorem news_hide {h h₁ : Heap} {L P : Addr} {m : Str → Option Value} {ps : Array Value} {news : List (Addr × Obj)} (F : Fr h L h₁ m) (N : News h L h₁ news) (t : h.get? P = some (tabO ps)) : News (hideAll h [P]) L h₁ ((P, tabO ps) :: news) := fun p hp => by
  rcases List.mem_cons.mp hp with rfl | hp
  · refine ⟨F.keep _ _ t, fun e => ?_, hideAll_none _ (List.mem_singleton.mpr rfl)⟩
    have := Nat.lt_of_lt_of_le (Heap.lt_size t) F.above
    rw [show P = L from e] at this
    exact Nat.lt_irrefl _ this
  · exact ⟨(N p hp).1, (N p hp).2.1, hide_none (N p hp).2.2⟩
theorem old_end {h h' : Heap} {L' : Addr} {m' : Str → Option Value} {ps : Array Value} (t : h.get? 48 = some (tabO #[])) (ct : isCodeTable h 48) (F : Fr (hideAll h [48]) L' h' m') (e' : h'.get? 48 = some (tabO ps)) : OldK h h' := by
  have k : ∀ b o, b ≠ 48 → h.get? b = some o → h'.get? b = some o := fun b o hb e => F.keep b o (hideAll_get _ e fun z => hb (List.mem_singleton.mp z))
  refine ⟨fun b o e => ?_, fun b o e => ?_⟩
  · by_cases hb : b = 48
    · subst hb
      rw [t] at e; cases e
      exact .inr (.inl ⟨ct, rfl, #[], ps, rfl, by simpa using e'⟩)
    · exact .inl (k b o hb e)
  · by_cases hb : b = 48
    · subst hb; exact ⟨_, e'⟩
    · exact ⟨o, k b o hb e⟩
theorem isList_hide {h : Heap} {a P : Addr} {items ps : Array Value} (x : h.IsList a items) (t : h.get? P = some (tabO ps)) : (hideAll h [P]).IsList a items := by
  obtain ⟨o, ho, hc, e, hd⟩ := x
  refine ⟨o, hideAll_get _ ho fun z => ?_, hc, e, hd⟩
  rw [List.mem_singleton.mp z, t] at ho
  cases ho; cases hd
theorem rebase_all {w : World} {loose : List Str} {mean : ExcName → Option Value} {mg mb : Str → Option Value} {h h₁ : Heap} {L bm : Addr} {m : Str → Option Value} {ob : Obj} {news : List (Addr × Obj)} (T : Top hd.view_39 loose mean mg mb h) (X : (hd.heap_39 w.params).In h)
    (F : Fr h L h₁ m) (N : News h L h₁ news) (M : BMod h mainGlobals mg bm ob) : ∃ g, (∀ b o, g.get? b = some o → h.get? b = some o) ∧ Fr g L h₁ m ∧ News g L h₁ ((48, tabO #[]) :: news) ∧ TopRead hd.view_39 loose mg mb g ∧ BMod g mainGlobals mg bm ob ∧ (hd.heap_39 w.params).In g ∧ Below callerA g [] g ∧ (∀ L' h' m' ps, Fr g L' h' m' → h'.get? 48 = some (tabO ps) → OldK h h') ∧ (∀ a items, h.IsList a items → g.IsList a items) ∧ @LT.lt Nat _ 48 h.objs.size :=
  let ⟨t, ct⟩ := table48 T X
  ⟨hideAll h [48], fun _ _ e => of_hideAll _ e, rebase F, news_hide F N t, top_hide (topRead_of T) t, bmod_hide M t, in_hide X (no48 _), below_caller _, fun L' h' m' ps F' e' => old_end t ct F' e', fun a items hl => isList_hide hl t, Heap.lt_size t⟩
end
section

local macro_rules | `(tactic| walk_at "getMethod bytes") => `(tactic| (k_here; first | (with_reducible refine FY.m_isdigit ?_) | (with_reducible refine FY.m_find ?_) | (with_reducible refine KBd.method ?_)))
local macro_rules | `(tactic| walk_at "call builtin:bytes.isdigit") => `(tactic| (k_here; refine FY.isdigit ?_))
local macro_rules | `(tactic| walk_at "call builtin:bytes.find") => `(tactic| (k_here; refine FY.find (by k_extra "my find") ?_))
local macro_rules | `(tactic| walk_at "compareOp In int bytes") => `(tactic| (k_here; refine FY.inB (by omega) (by omega) ?_))
local macro_rules | `(tactic| walk_at "compareOp NotIn int bytes") => `(tactic| (k_here; refine FY.notInB (by omega) (by omega) ?_))

section
variable {M : Model} {A : Around} {E : Value → Shared → Prop} {s : Shared} {env : Env} {Q : Flow → Shared → Prop} {s1 s2 : Stmt} {rest : List Stmt}
/-- two statements, then the others, by what holds between -/
theorem execs_cut2 (J : Shared → Prop) (h1 : wpAny M A (execs [s1, s2] env) (fun f s' => match f with | .next => J s' | f => Q f s') E s) (h2 : ∀ s', J s' → wpAny M A (execs rest env) Q E s') : wpAny M A (execs (s1 :: s2 :: rest) env) Q E s := fun Γ p hΓ => by
  have h := h1 Γ p hΓ
  rw [execs_cons, Sem.wp_bind'] at h ⊢
  refine Sem.wp_mono M Γ _ (fun f p' s' h' => ?_) (fun _ _ _ h' => h') _ _ h
  cases f with
  | next =>
    have h' : Sem.wp M Γ (execs [s2] env) _ _ p' s' := h'
    show Sem.wp M Γ (execs (s2 :: rest) env) _ _ p' s'
    rw [execs_cons, Sem.wp_bind'] at h' ⊢
    refine Sem.wp_mono M Γ _ (fun f p' s' h' => ?_) (fun _ _ _ h' => h') _ _ h'
    cases f with
    | next => exact h2 _ h' Γ p' hΓ
    | _ => exact h'
  | _ => exact h'
end
theorem fr_kst {h₀ h : Heap} {L : Addr} {m : Str → Option Value} {ps : List (Str × Value)} (F : Fr h₀ L h m) (hk : ∀ p ∈ ps, m p.1 = some p.2) : Fr h₀ L h (kstB m ps) := by
  have e : kstB m ps = m := funext fun z => kstB_eq hk fun _ => rfl
  rw [e]; exact F
/-- the mode asked for, and the mode it comes to -/
def ModeR (o : Array UInt8) (mv : Value) (k : Nat) : Prop := (mv = .none ∧ k = optM o) ∨ ∃ t, (mv = .int 1 t ∧ k = 1) ∨ (mv = .int 2 t ∧ k = 2) ∨ (mv = .int 4 t ∧ k = 4)
theorem QrSpec.use {w : World} {mg mb : Str → Option Value} {o : Array UInt8} {to : Tok} {mv : Value} {kk : Nat} {ok : Prop} (S : QrSpec w mg mb o to mv kk ok)
    {dp un : Nat} {gd : Option (List Code)} {cn : Str} {cs : Scope} {a : Addr} {ccd : Value} {cl : List (Str × Addr)} {outer : List Env} {A₀ : Around} {base h₀ : Heap} {L : Addr} {m : Str → Option Value} {s : Shared} {Q E : Value → Shared → Prop} {bm : Addr} {ob : Obj} {ps : Array Value}
    {news : List (Addr × Obj)} (rest : List (Addr × Obj)) (B : Below A₀ base outer h₀) (F : Fr h₀ L s.heap m) (X : (hd.heap_39 w.params).In h₀) (N : News h₀ L s.heap news) (T : TopRead hd.view_39 LOOSE mg mb h₀) (BM : BMod h₀ mainGlobals mg bm ob) (hG : AllBare s.gens) (hps : PsOk gpos ps) (hk : cs.kind = .function)
    (hs : (48, tabO ps) ∈ news) (hr : ∀ p ∈ rest, p ∈ news) (hne : ∀ p ∈ rest, p.1 ≠ 48) (h1 : dp + 50 < recursionLimit) (h2 : un + 500 < cLine)
    (kr : ∀ x dx t1 t2 t3 t4 ps' s', ok → PsOk gpos ps' → s'.os = s.os → AllBare s'.gens → Fr h₀ L s'.heap m → News h₀ L s'.heap ((48, tabO ps') :: (x, instObj 92 dx) :: (dx, qrD w t1 t2 t3 t4 kk o) :: rest) → @LT.lt Nat _ dx x → @LE.le Nat _ s.heap.objs.size dx → Q (.ref x) s')
    (ke : ∀ e ps' G s', ¬ ok → PsOk gpos ps' → s'.os = s.os → AllBare s'.gens → RaisedSN base G (envX cn cs L a ccd cl :: outer) e (.type "ValueError") [(48, tabO ps')] s'.heap → G.UpToSlots s'.heap → Fr h₀ L G m → (∀ q ∈ rest, G.get? q.1 = some q.2 ∧ q.1 ≠ L ∧ h₀.get? q.1 = none) → E (.ref e) s') :
    wpAny (model PySem.Challenge.rw_bj0058_01.row.prog w) (ktrTop dp un gd cn cs L a ccd cl outer) (call (.ref 92) [.bytes o to] [(Str.ofString "mode", mv)]) Q E s := by
  have hh : ∀ q ∈ rest, (rest0 s.heap [(48, tabO ps)]).get? q.1 = some q.2 := fun q hq => hideAll_get _ (N q (hr q hq)).1 fun z => by
    obtain ⟨p, hp, e⟩ := List.mem_map.mp z
    rw [List.mem_singleton.mp hp] at e
    exact hne q hq e.symm
  have h48 := N _ hs
  have FG : Fr h₀ L (rest0 s.heap [(48, tabO ps)]) m := ⟨ns_hide F.ns (Ne.symm h48.2.1), fun b o e => hideAll_get _ (F.keep b o e) fun z => (by rw [List.mem_singleton.mp z, h48.2.2] at e; cases e), F.above⟩
  refine S dp un gd cn cs a ccd cl outer A₀ base h₀ L m s Q E bm ob ps B F X (fun p hp => by rw [List.mem_singleton.mp hp]; exact h48) T BM hk h1 h2 hG hps
    (fun x dx t1 t2 t3 t4 ps' s' hok hps' hos hG' F' N' hkeep _ _ hlt hsz => ?_) (fun e ps' s' hok hps' hos hG' R U => ke e ps' _ s' hok hps' hos hG' R U FG fun q hq => ⟨hh q hq, (N q (hr q hq)).2⟩)
  refine kr x dx t1 t2 t3 t4 ps' s' hok hps' hos hG' F' (fun p hp => ?_) hlt hsz
  rcases List.mem_cons.mp hp with rfl | hp
  · exact N' _ List.mem_cons_self
  rcases List.mem_cons.mp hp with rfl | hp
  · exact N' _ (List.mem_cons_of_mem _ List.mem_cons_self)
  rcases List.mem_cons.mp hp with rfl | hp
  · exact N' _ (List.mem_cons_of_mem _ (List.mem_cons_of_mem _ List.mem_cons_self))
  · exact ⟨hkeep _ _ (hh p hp), (N p (hr p hp)).2⟩
theorem qr_any {w : World} {mg mb : Str → Option Value} {o : Array UInt8} {to : Tok} {mv : Value} {k : Nat} (h1 : o.size ≤ 9) (hm : ModeR o mv k) : QrSpec w mg mb o to mv k (optM o ≤ k) := by
  rcases hm with ⟨rfl, rfl⟩ | ⟨t, ⟨rfl, rfl⟩ | ⟨rfl, rfl⟩ | ⟨rfl, rfl⟩⟩
  · have S := qr_none (w := w) (mg := mg) (mb := mb) (to := to) h1
    rwa [show True = (optM o ≤ optM o) from propext ⟨fun _ => Nat.le_refl _, fun _ => trivial⟩] at S
  · exact qr_1 h1 t
  · exact qr_2 h1 t
  · exact qr_4 h1 t
theorem ModeR.k {o : Array UInt8} {mv : Value} {k : Nat} (hm : ModeR o mv k) : k = 1 ∨ k = 2 ∨ k = 4 := by
  rcases hm with ⟨rfl, rfl⟩ | ⟨t, ⟨rfl, rfl⟩ | ⟨rfl, rfl⟩ | ⟨rfl, rfl⟩⟩
  · exact optM_cases o
  · exact .inl rfl
  · exact .inr (.inl rfl)
  · exact .inr (.inr rfl)
theorem Holds.k {o : Array UInt8} {k : Nat} (h : Holds (k, o)) : k = 1 ∨ k = 2 ∨ k = 4 := by
  rcases h.2 with h | h | h
  · exact .inl h.1
  · exact .inr (.inl h.1)
  · exact .inr (.inr h)
theorem write_any {w : World} {mg mb : Str → Option Value} {b db lb q dq : Addr} {n k : Nat} {t1 t2 t3 s1 s2 s3 s4 : Tok} {xs : List Value} {ns : List Int} {e' : Nat} {o : Array UInt8} (h1 : @LT.lt Nat _ b lb) (h2 : @LT.lt Nat _ db b) (h3 : @LT.lt Nat _ lb dq) (h4 : @LT.lt Nat _ dq q)
  (hi : IntsAre xs ns) (hn : n < 2 ^ 16) (hl : ns.length = (n + 7) / 8) (hh : Holds (k, o)) :
    Spec w mg mb 40 400 82 [.ref q, .ref b] [(b, instObj 146 db), (db, bufD w t1 t2 t3 lb n), (lb, PySem.W.listOf (List.toArray xs) e'), (q, instObj 92 dq), (dq, qrD w s1 s2 s3 s4 k o)]
     fun v sel => v = .none ∧ ∃ c, BufR w b db lb (pbits ns n (enc k o)) (n + (enc k o).length) c ∧ sel = c ++ [(q, instObj 92 dq), (dq, qrD w s1 s2 s3 s4 k o)] := by
  obtain ⟨ho, ⟨hk, hc⟩ | ⟨hk, hc⟩ | hk⟩ := hh
  · dsimp only at hk hc ho; subst hk; exact write1_ok h1 h2 h3 h4 hi hn hl ho hc
  · dsimp only at hk hc ho; subst hk; exact write2_ok h1 h2 h3 h4 hi hn hl ho hc
  · dsimp only at hk ho; subst hk; exact write4_ok h1 h2 h3 h4 hi hn hl ho
theorem enc_len {k : Nat} {o : Array UInt8} (ho : o.size ≤ 9) : (enc k o).length ≤ 99 := by
  have h1 := words_length k o (nWords k o)
  have h2 : nWords k o ≤ 9 := by unfold nWords; (repeat' split) <;> omega
  unfold enc
  omega
theorem recB_len {v : Nat} {t : Nat × Array UInt8} (h : Holds t) : (recB v t).length ≤ 120 := by
  have h1 := enc_len (k := t.1) h.1
  have h2 := (lenBits_lt (v := v) (m := t.1) (Holds.k (k := t.1) (o := t.2) h)).2
  unfold recB
  rw [List.length_append, List.length_append, bitsOf_length, bitsOf_length]
  omega
theorem allB_len {v : Nat} : ∀ {T : List (Nat × Array UInt8)}, (∀ t ∈ T, Holds t) → (allB v T).length ≤ 120 * T.length
  | [], _ => Nat.zero_le _
  | t :: T, h => by
    have h1 := recB_len (v := v) (h t List.mem_cons_self)
    have h2 := allB_len (v := v) (T := T) fun t ht => h t (List.mem_cons_of_mem _ ht)
    unfold allB at h2 ⊢
    rw [List.flatMap_cons, List.length_append, List.length_cons]
    omega
theorem allB_snoc (v : Nat) (T : List (Nat × Array UInt8)) (t : Nat × Array UInt8) : allB v (T ++ [t]) = allB v T ++ recB v t := by simp [allB]
/-- the row of bits, a text more -/
theorem pbits_text (v : Nat) (T : List (Nat × Array UInt8)) (k : Nat) (o : Array UInt8) :
    pbits (pbits (pbits (pbits [] 0 (allB v T)) (allB v T).length (bitsOf k 4)) ((allB v T).length + 4) (bitsOf o.size (lenBits k v))) ((allB v T).length + 4 + lenBits k v) (enc k o) = pbits [] 0 (allB v (T ++ [(k, o)])) := by
  rw [allB_snoc]
  unfold recB
  rw [pbits_app, pbits_app, pbits_app]
  simp only [Nat.zero_add, bitsOf_length]
theorem len_text (v : Nat) (T : List (Nat × Array UInt8)) (k : Nat) (o : Array UInt8) : (allB v T).length + 4 + lenBits k v + (enc k o).length = (allB v (T ++ [(k, o)])).length := by
  rw [allB_snoc]
  unfold recB
  simp only [List.length_append, bitsOf_length]
  omega
theorem pbits_len0 (bs : List Bool) : (pbits [] 0 bs).length = (bs.length + 7) / 8 := pbits_len bs
/-- between the law's turns -/
def LawI (w : World) (a l b db lb L : Addr) (ws : List Value) (oc1 oc2 : Obj) (len ver : Nat) (i : Nat) (c : List (Addr × Obj) × Addr × Tok) : Prop :=
  ∃ (si sx : Nat) (st st' : Tok) (se : Nat) (t1 t2 t3 : Tok) (xs : List Value) (eb : Nat) (pt : Array Value) (vs : List Value) (eD : Nat) (T : List (Nat × Array UInt8)) (own : List (Addr × Obj)),
    c.1 = (a, PySem.W.listOf [Value.ref l, Value.int si st, Value.int sx st'].toArray se) :: (l, PySem.W.listOf ws.toArray 0) :: (b, instObj 146 db) :: (db, bufD w t1 t2 t3 lb ((allB ver T).length : Nat)) :: (lb, PySem.W.listOf xs.toArray eb) :: (48, tabO pt) :: (L + 1 + 1, oc1) :: (L + 1, oc2) :: (c.2.1, PySem.W.listOf vs.toArray eD) :: own ∧
    si ≤ len ∧ sx < 2147483647 ∧ IntsAre xs (pbits [] 0 (allB ver T)) ∧ PsOk gpos pt ∧ Rd own T vs ∧ (∀ t ∈ T, Holds t) ∧ T.length ≤ i ∧ (∀ p ∈ own, @LT.lt Nat _ lb p.1) ∧ (∀ q ∈ [a, l, b, db, lb, 48, L + 1 + 1, L + 1], @Ne Nat c.2.1 q)
theorem apart_tail {pre own sel : List (Addr × Obj)} (h : ∀ p ∈ pre, ∀ q ∈ sel, p.1 ≠ q.1) (hs : ∀ q ∈ sel, ∀ p ∈ own, p.1 ≠ q.1) : ∀ p ∈ pre ++ own, ∀ q ∈ sel, p.1 ≠ q.1 := fun p hp q hq =>
  (List.mem_append.mp hp).elim (fun hp => h p hp q hq) fun hp => hs q hq p hp
theorem news_lt {h₀ h : Heap} {L : Addr} {news : List (Addr × Obj)} (N : News h₀ L h news) : ∀ p ∈ news, @LT.lt Nat _ p.1 h.objs.size := fun p hp => Heap.lt_size (N p hp).1
section
variable {prog : Program} {w : World} {A : Around} {E : Value → Shared → Prop} {s : Shared} {h₀ : Heap} {L : Addr} {m : Str → Option Value}
theorem cat_tup2 {D1 lx Dx : Addr} {vs : List Value} {e0 e1 m₁ n : Nat} {o : Array UInt8} {tm to : Tok} {rest : List (Addr × Obj)} {Q : Value → Shared → Prop} (F : Fr h₀ L s.heap m)
    (N : News h₀ L s.heap ((lx, PySem.W.listOf #[Value.ref Dx] e0) :: (Dx, tupO m₁ o tm to n) :: (D1, PySem.W.listOf vs.toArray e1) :: rest)) (hz : vs.length ≤ 100)
    (h : ∀ (D : Addr) h', Fr h₀ L h' m → News h₀ L h' ((D, PySem.W.listOf (vs ++ [Value.ref Dx]).toArray 0) :: (Dx, tupO m₁ o tm to n) :: rest) → @LT.lt Nat _ Dx D → (∀ p ∈ rest, @LT.lt Nat _ p.1 D) → Q (.ref D) { s with heap := h' }) :
    wpAny (model prog w) A (binaryOp .Add (.ref D1) (.ref lx)) Q E s := by
  have z1 := N (D1, _) (List.mem_cons_of_mem _ (List.mem_cons_of_mem _ List.mem_cons_self))
  have z2 := N (lx, _) List.mem_cons_self
  have z3 := N (Dx, _) (List.mem_cons_of_mem _ List.mem_cons_self)
  refine add_lists (vs := vs) (ws := [Value.ref Dx]) F N ⟨_, z1.1, rfl, _, rfl⟩ ⟨_, z2.1, rfl, _, rfl⟩ (fun h' F' N' => ?_) (by rw [PySem.sizeLine_eq]; simp only [List.length_cons, List.length_nil]; omega)
  refine h _ h' F' (fun p hp => N' p ?_) (Heap.lt_size z3.1) (fun p hp => Heap.lt_size (N p (List.mem_cons_of_mem _ (List.mem_cons_of_mem _ (List.mem_cons_of_mem _ hp)))).1)
  rcases List.mem_cons.mp hp with rfl | hp
  · exact List.mem_cons_self
  rcases List.mem_cons.mp hp with rfl | hp
  · exact List.mem_cons_of_mem _ (List.mem_cons_of_mem _ List.mem_cons_self)
  · exact List.mem_cons_of_mem _ (List.mem_cons_of_mem _ (List.mem_cons_of_mem _ (List.mem_cons_of_mem _ hp)))
end
theorem octs_byte (bs : List Bool) : ∀ x ∈ octs bs, 0 ≤ x ∧ x < 256 := by
  intro x hx
  obtain ⟨q, _, rfl⟩ := List.mem_map.mp hx
  have b0 := bt_b bs (8 * q); have b1 := bt_b bs (8 * q + 1); have b2 := bt_b bs (8 * q + 2); have b3 := bt_b bs (8 * q + 3)
  have b4 := bt_b bs (8 * q + 4); have b5 := bt_b bs (8 * q + 5); have b6 := bt_b bs (8 * q + 6); have b7 := bt_b bs (8 * q + 7)
  unfold oct
  omega
theorem pbits_byte (bs : List Bool) : ∀ x ∈ pbits [] 0 bs, 0 ≤ x ∧ x < 256 := pbits_eq bs ▸ octs_byte bs
theorem gbit_pbits (bs : List Bool) {k : Nat} (h : k < bs.length) : gbit (pbits [] 0 bs) k = bs[k] := pbits_eq bs ▸ gbit_octs bs h
section
variable {prog : Program} {w : World} {A : Around} {E : Value → Shared → Prop} {s : Shared} {h₀ : Heap} {L : Addr} {m : Str → Option Value} {news : List (Addr × Obj)}
theorem add_lists2 {a b : Addr} {vs ws : List Value} {ea eb : Nat} {Q : Value → Shared → Prop} (F : Fr h₀ L s.heap m) (N : News h₀ L s.heap news) (ha : (a, PySem.W.listOf vs.toArray ea) ∈ news) (hb : (b, PySem.W.listOf ws.toArray eb) ∈ news)
    (hz : vs.length + ws.length ≤ sizeLine)
    (h : ∀ (D : Addr) h', Fr h₀ L h' m → News h₀ L h' ((D, PySem.W.listOf (vs ++ ws).toArray 0) :: news) → (∀ p ∈ news, @LT.lt Nat _ p.1 D) → Q (.ref D) { s with heap := h' }) :
    wpAny (model prog w) A (binaryOp .Add (.ref a) (.ref b)) Q E s := by
  refine add_lists (vs := vs) (ws := ws) F N ⟨_, (N _ ha).1, rfl, _, rfl⟩ ⟨_, (N _ hb).1, rfl, _, rfl⟩ (fun h' F' N' => ?_) hz
  exact h _ h' F' N' (news_lt N)
end
theorem flat_rep (n : Nat) (x : Int) : (List.replicate n [x]).flatten = List.replicate n x := by
  induction n with
  | zero => rfl
  | succ n ih => rw [List.replicate_succ, List.flatten_cons, ih, List.replicate_succ]; rfl
theorem pad_ok (n : Nat) : ((-(n : Int)).fmod 8).toNat < 8 ∧ (n + ((-(n : Int)).fmod 8).toNat) % 8 = 0 := by
  rw [Int.fmod_eq_emod_of_nonneg _ (by decide)]
  omega
end
section
section
variable {prog : Program} {w : World} {A : Around} {E : Value → Shared → Prop} {s : Shared} {h₀ : Heap} {L : Addr} {m : Str → Option Value} {env : Env}
/-- a comprehension's source: a range by steps of c -/
def SrcS (prog : Program) (w : World) (A : Around) (h₀ : Heap) (L : Addr) (m : Str → Option Value) (env : Env) (elt : Expr) (x : Str) (scope : Scope) (cl : List (Str × Addr)) (c : Int) (Q : Value → Shared → Prop) (xv : Value) (s₁ : Shared) : Prop :=
  ∃ (r : Addr) (a b : Int) (t u v : Tok) (n : Nat) (news : List (Addr × Obj)), xv = .ref r ∧ A.handled = none ∧ Fr h₀ L s₁.heap m ∧ News h₀ L s₁.heap news ∧ IsRange s₁.heap r a b c t u v ∧ Builtin.Range.small a b c = true ∧ Builtin.Range.rangeSize a b c = ((n : Nat) : Int) ∧ n ≤ sizeLine ∧
    ∀ g, LCg.CompRest prog w A h₀ L m env elt x scope cl { s₁ with heap := g } (fun _ => True) (fun i v => ∃ t, v = .int (a + (i : Int) * c) t) (LCg.FinE h₀ L m { s₁ with heap := g } Q) n 0 [] news
theorem ListComp_S {elt iter : Expr} {x : Str} {px : Pos} {scope : Scope} {cl : List (Str × Addr)} {pos : Pos} {c : Int} {Q : Value → Shared → Prop} (_F : Fr h₀ L s.heap m)
    (hclos : closureFor scope env = pure cl) (hcell : ∀ y ∈ scope.names, y.2 ≠ .cell) (hkind : scope.kind = .function)
    (hnames : ∀ y ∈ scope.names, y.2 = .local → scope.names.lookup y.1 = some .local) (hx : scope.names.lookup x = some .local)
    (h : wpAny (model prog w) A (eval iter env) (SrcS prog w A h₀ L m env elt x scope cl c Q) E s) (hs : ∀ x, foldedSetIterable iter env x = pure x) :
    wpAny (model prog w) A (eval (.ListComp elt [⟨.Name x px, iter, [], 0⟩] scope pos) env) Q E s := by
  rw [eval_ListComp]
  refine wpAny_comprehension_free (use := none) rfl hs hclos hkind hnames (wpAny_mono h (fun xv s₁ h₁ => ?_) fun _ _ e => e)
  obtain ⟨r, a, b, t, u, v, n, news, rfl, hh, F, N, hr, hsm, hn, hsz, R⟩ := h₁
  refine wpAny_pyIter_range hr hsm ?_
  refine LCg.block_U (Walks.range hh s₁.heap.objs.size a c n) hsz (fun i h st => ⟨_, st⟩) (S := fun _ => True) (fun i g g' o nw st e e' _ _ _ => ?_) hcell hkind hx ?_ (fun b hb => ?_)
    (F.keeps fun _ _ e => Heap.get?_push_of_some _ e) (N.grown fun _ _ e => Heap.get?_push_of_some _ e) (Nat.ne_of_lt F.ns.lt) (next_is_new F) (fun p hp => Nat.ne_of_lt (Heap.lt_size (N p hp).1)) trivial (R _) ?_
  · have st' : g.get? s₁.heap.objs.size = some _ := st
    show g'.get? s₁.heap.objs.size = some _
    rw [e', ← e]; exact st'
  · show IsRangeIter _ _ _ _ _
    rw [hn]
    simpa using Heap.get?_push_size _ rfl
  · rw [List.mem_singleton.mp hb]
    show s₁.heap.objs.size < (s₁.heap.push _).objs.size
    rw [Heap.size_push]; exact Nat.lt_succ_self _
  · intro D C g tk m' ys news' F' N' o1 hns hC₀ hD₀ hCL hDL hCD offC fin
    refine ⟨m', hns, fun g'' hs'' => fin D g'' tk (F'.change hs'' hCL hC₀) (fun p hp => ⟨hs''.extBut _ _ ?_ (N' p hp).1, (N' p hp).2⟩) o1⟩
    rcases List.mem_cons.mp hp with rfl | hp
    · exact Ne.symm hCD
    · exact offC p hp
end
theorem size8 (n : Nat) : Builtin.Range.rangeSize 0 ((8 * n : Nat) : Int) 8 = (n : Int) := by
  unfold Builtin.Range.rangeSize
  rw [if_pos (by decide)]
  split <;> omega
theorem fits_long {x : Int} (h0 : 0 ≤ x) (h1 : x < 2 ^ 40) : Builtin.Range.rangeFitsLong x = true := by
  unfold Builtin.Range.rangeFitsLong
  rw [Bool.and_eq_true, decide_eq_true_eq, decide_eq_true_eq]
  constructor <;> omega
theorem small8 {n : Nat} (h : n < 2 ^ 20) : Builtin.Range.small 0 ((8 * n : Nat) : Int) 8 = true := by
  unfold Builtin.Range.small
  rw [size8, fits_long (by decide) (by decide), fits_long (by omega) (by omega), fits_long (by decide) (by decide), fits_long (by omega) (by omega), if_pos (by decide), fits_long (by omega) (by omega)]
  simp
theorem rest_bit (bs : List Bool) (pad : Nat) : ∀ x ∈ bs.map b2i ++ List.replicate pad 0, x = 0 ∨ x = 1 := by
  intro x hx
  rcases List.mem_append.mp hx with hx | hx
  · exact b2i_bit bs x hx
  · exact .inl (List.eq_of_mem_replicate hx)
section
variable {prog : Program} {w : World} {A : Around} {E : Value → Shared → Prop} {s : Shared} {h₀ : Heap} {L : Addr}
theorem EqAt_bytes (o : Array UInt8) (t u : Tok) : SeqAt.EqAt A s (.bytes o t) (.bytes o u) true := fun prog w E Q h => by
  unfold eqBool
  refine wpAny_holding ?_
  refine wpAny_ite_split (fun _ => ?_) (fun _ => ?_)
  · exact wpAny_bind (wpAny_rule (wpAny_pure h))
  · exact wpAny_bind (eq_bytes (by rw [beq_self_eq_true]; exact wpAny_truthy_bool h))
theorem EqAt_tup {a b : Addr} {k : Nat} {o : Array UInt8} {t1 t2 u1 u2 : Tok} {n1 n2 : Nat} (h1 : s.heap.get? a = some (tupO k o t1 u1 n1)) (h2 : s.heap.get? b = some (tupO k o t2 u2 n2)) (hu : A.units < cLine) : SeqAt.EqAt A s (.ref a) (.ref b) true := by
  by_cases e : a = b
  · subst e; exact SeqAt.EqAt.same _
  · refine SeqAt.EqAt.of_refs e ?_
    refine SeqAt.RcAt.tuples (e := fun _ => true) ⟨_, h1, rfl, _, rfl⟩ ⟨_, h2, rfl, _, rfl⟩ hu fun j hj1 hj2 => ?_
    have hj : j = 0 ∨ j = 1 := by simp at hj1; omega
    rcases hj with rfl | rfl
    · have := SeqAt.EqAt.int_int (A := A.in1) (s := s) (k : Int) t1 (k : Int) t2
      rw [beq_self_eq_true] at this
      exact this
    · exact EqAt_bytes o u1 u2
theorem Rd.get {own : List (Addr × Obj)} : ∀ {T : List (Nat × Array UInt8)} {vs : List Value}, Rd own T vs → ∀ j (h : j < vs.length) (h2 : j < T.length), ∃ a tm to n, vs[j] = .ref a ∧ (a, tupO T[j].1 T[j].2 tm to n) ∈ own
  | _ :: _, _ :: _, ⟨⟨a, tm, to, n, e, hm⟩, _⟩, 0, _, _ => ⟨a, tm, to, n, e, hm⟩
  | _ :: _, _ :: _, ⟨_, r⟩, j + 1, h, h2 => Rd.get r j (Nat.lt_of_succ_lt_succ h) (Nat.lt_of_succ_lt_succ h2)
theorem eq_texts {T : List (Nat × Array UInt8)} {vs vs' : List Value} {own own' news : List (Addr × Obj)} {a b : Addr} {ea eb : Nat} {Q : Value → Shared → Prop} (R : Rd own T vs) (R' : Rd own' T vs') (N : News h₀ L s.heap news)
    (ho : ∀ p ∈ own, p ∈ news) (ho' : ∀ p ∈ own', p ∈ news) (ha : (a, PySem.W.listOf vs.toArray ea) ∈ news) (hb : (b, PySem.W.listOf vs'.toArray eb) ∈ news) (hu : A.units + 1 < cLine) (h : Q (.bool true) s) :
    wpAny (model prog w) A (compareOp .Eq (.ref a) (.ref b)) Q E s := by
  have l1 := R.length
  have l2 := R'.length
  refine SeqAt.eq_listAt (e := fun _ => true) ⟨_, (N _ ha).1, rfl, _, rfl⟩ ⟨_, (N _ hb).1, rfl, _, rfl⟩ (by simp [l1, l2]) (Nat.lt_of_succ_lt hu) (fun j h1 h2 => ?_) ?_
  · simp only [List.size_toArray] at h1 h2
    obtain ⟨a1, tm, to, n, e1, m1⟩ := R.get j h1 (l1 ▸ h1)
    obtain ⟨a2, tm', to', n', e2, m2⟩ := R'.get j h2 (l2 ▸ h2)
    simp only [List.getElem_toArray, e1, e2]
    exact EqAt_tup (N _ (ho _ m1)).1 (N _ (ho' _ m2)).1 hu
  · rw [List.all_eq_true.mpr fun _ _ => rfl]; exact h
end
theorem off1_all {D : Addr} : ∀ {l : List (Addr × Obj)}, LCg.Off1 D l → ∀ p ∈ l, p.1 ≠ D
  | [], _, _, h => nomatch h
  | _ :: _, x, p, h => by
    rcases List.mem_cons.mp h with rfl | h
    · exact x.1
    · exact off1_all x.2 p h
end
section

local macro_rules | `(tactic| walk_at "getMethod bytes") => `(tactic| (k_here; first | (with_reducible refine FY.m_isdigit ?_) | (with_reducible refine FY.m_find ?_) | (with_reducible refine KBd.method ?_)))
local macro_rules | `(tactic| walk_at "call builtin:bytes.isdigit") => `(tactic| (k_here; refine FY.isdigit ?_))
local macro_rules | `(tactic| walk_at "call builtin:bytes.find") => `(tactic| (k_here; refine FY.find (by k_extra "my find") ?_))
local macro_rules | `(tactic| walk_at "compareOp In int bytes") => `(tactic| (k_here; refine FY.inB (by omega) (by omega) ?_))
local macro_rules | `(tactic| walk_at "compareOp NotIn int bytes") => `(tactic| (k_here; refine FY.notInB (by omega) (by omega) ?_))


local macro_rules | `(tactic| walk_at "eval Name") => `(tactic| (k_here; (with_reducible show wpAny _ _ (eval (Expr.Name _ _) (compEnvC _ _ _ _)) _ _ _); k_dflt (first
  | (refine' ld_globalR ?mF ?mX ?mT ?me ?_ ?mg ?mk ?mx ?md; (case mx => rfl); (case mk => rfl); (case mg => rfl); (case md => decide); (case mF => k_asm); (case mX => k_asm); (case mT => k_asm); (case me => k_is); k_whole)
  | (refine' ld_builtR ?mF ?mX ?mT ?me ?mv ?mn ?_ ?mg ?mb ?mk ?mx ?md; (case mx => rfl); (case mk => rfl); (case mg => rfl); (case mb => rfl); (case md => decide); (case mF => k_asm); (case mX => k_asm); (case mT => k_asm); (case me => k_is); (case mv => boot_by_name); (case mn => decide); k_whole))))

local macro_rules | `(tactic| walk_at "exec For Name Call cons nil") => `(tactic| k_extra "my for")
local macro_rules | `(tactic| walk_at "call ref") => `(tactic| k_extra "my call ref")
local macro_rules | `(tactic| k_all) => `(tactic| exact tail_gt (by assumption))
local macro_rules | `(tactic| k_all) => `(tactic| (refine tail_ne (by assumption) ?_; (try dsimp only); omega))
local macro_rules | `(tactic| walk_at "noteFrame ref") => `(tactic| k_extra "my noteFrame")
local macro_rules | `(tactic| walk_at "binaryOp Add ref ref") => `(tactic| k_extra "my cat")
local macro_rules | `(tactic| k_ne) => `(tactic| (refine neN ?_; (try dsimp only); first | (with_reducible assumption) | (refine Ne.symm ?_; with_reducible assumption)))
local macro_rules | `(tactic| walk_at "compareOp NotEq ref ref") => `(tactic| k_extra "my ne")
local macro_rules | `(tactic| walk_at "compareOp Eq ref ref") => `(tactic| k_extra "my eq")
theorem ver_ok {r q : Nat} (hr : r < 40) (hq : q < 7) : ∃ v : Nat, ([1, 9, 10, 26, 27, 40, 1 + (r : Int)] : List Int).getD ((q : Int)).toNat 0 = (v : Int) ∧ 1 ≤ v ∧ v ≤ 40 := by
  obtain rfl | rfl | rfl | rfl | rfl | rfl | rfl : q = 0 ∨ q = 1 ∨ q = 2 ∨ q = 3 ∨ q = 4 ∨ q = 5 ∨ q = 6 := by omega
  · exact ⟨1, rfl, by decide, by decide⟩
  · exact ⟨9, rfl, by decide, by decide⟩
  · exact ⟨10, rfl, by decide, by decide⟩
  · exact ⟨26, rfl, by decide, by decide⟩
  · exact ⟨27, rfl, by decide, by decide⟩
  · exact ⟨40, rfl, by decide, by decide⟩
  · exact ⟨1 + r, by simp, by omega, by omega⟩
theorem fr_script {h₀ h : Heap} {L la : Addr} {m : Str → Option Value} (F : Fr h₀ L h m) (e : m = fun y => if y = ("script" : Str) then some (.ref la) else none) : Fr h₀ L h (fun y => if y = ("script" : Str) then some (.ref la) else none) := e ▸ F
theorem cell_none {o : Obj} {v : Option Value} (d : o.data = Data.cell v) (e : v = none) : o.data = Data.cell none := e ▸ d
set_option maxRecDepth 100000 in
set_option maxHeartbeats 8000000 in
theorem law0 : PySem.Challenge.rw_bj0058_01.Holds := by
  refine hd ?_
  k_with_none
  k_with "my call ref" => (first | (with_reducible show wpAny _ _ (call (Value.ref 157) _) _ _ _) | (with_reducible show wpAny _ _ (call (Value.ref 162) _) _ _ _) | (with_reducible show wpAny _ _ (call (Value.ref 167) _) _ _ _) | (with_reducible show wpAny _ _ (call (Value.ref 129) _) _ _ _) | (with_reducible show wpAny _ _ (call (Value.ref 82) _) _ _ _) | (with_reducible show wpAny _ _ (call (Value.ref 32) _) _ _ _) | (with_reducible show wpAny _ _ (call (Value.ref 179) _) _ _ _) | (with_reducible show wpAny _ _ (call (Value.ref 136) _) _ _ _)) <;> (refine hold ?_)
  k_with "my for" => (refine hold ?_)
  lge_go0
  (rename Top _ _ _ _ _ _ => TT0)
  (rename Frag.In _ _ => KX0)
  (rename Fr _ _ _ _ => F0)
  (rename News _ _ _ _ => N1)
  (rename Below _ _ _ _ => B1)
  (rename BMod _ _ _ _ _ => M1)
  obtain ⟨gB, kB, FG, NG, TG, MG, KG, BG, hEnd, hLst, h48⟩ := rebase_all TT0 KX0 F0 N1 M1
  clear F0 N1 B1 M1
  (rename Heap.IsList _ _ _ => hIL)
  (rename IntsAre _ _ => hIA)
  (rename Fr _ _ _ _ => FG0)
  (rename _ = Data.cell _ => d2)
  revert d2
  (rename _ = Data.cell _ => d1)
  intro d2
  (rename _ = #[] => hg)
  (rename Shared => s₁)
  refine wpAny_mono (Q := fun f s' => f = Flow.ret (.bool true) ∧ (∃ L' m' ps, Fr gB L' s'.heap m' ∧ s'.heap.get? 48 = some (tabO ps)) ∧ s'.os = s₁.os ∧ AllBare s'.gens) ?body ?fin (fun _ _ e => e)
  case fin =>
    rintro f s' ⟨rfl, ⟨L', m', ps', F', e'⟩, hos, hG⟩
    dsimp only
    have hOld := hEnd _ _ _ _ F' e'
    refine ⟨.inl ⟨.bool true, .bool true, [], rfl, raisesW_false ?nr, .bool true, ?post, unshared_nil⟩, hOld, hos, hG⟩
    case nr => wrow_none_raised
    case post => wrow_post
  have FG := fr_script FG0 (by with_unfolding_all rfl)
  have D1 := cell_none d1 (by with_unfolding_all rfl)
  have D2 := cell_none d2 (by with_unfolding_all rfl)
  (rename Not _ => hlen)
  clear hEnd d1 d2 FG0
  (repeat (rename CellsAre _ _ _ => zz9; clear zz9))
  (rename Dflts _ _ _ _ _ _ => zz9; clear zz9)
  (rename Heap.CodeRec _ _ _ => zz9; clear zz9)
  (rename Based _ _ _ _ _ => zz9; clear zz9)
  (rename Tables _ _ _ _ => zz9; clear zz9)
  (rename TopE _ _ _ _ => zz9; clear zz9)
  (rename TopW _ _ _ => zz9; clear zz9)
  (rename Glob _ _ _ _ _ _ _ _ => zz9; clear zz9)
  replace hIL := hLst _ _ hIL
  clear hLst kB TT0 KX0
  (rename LooseAre _ _ _ => zz9; clear zz9)
  (rename Flt.MathXP _ _ _ => zz9; clear zz9)
  (rename Hook.says _ _ _ => zz9; clear zz9)
  (rename Ground _ _ _ _ _ _ _ _ _ => zz9; clear zz9)
  (rename LGe.Mark => zz9; clear zz9)
  (rename ReadsAllW _ _ _ _ _ _ => zz9; clear zz9)
  (rename Reads _ _ _ _ => zz9; clear zz9)
  (rename Well _ _ _ _ => zz9; clear zz9)
  (rename ReadsAll _ _ _ _ => zz9; clear zz9)
  rename_i w s0 mg mb fa _ _ _ zz1 bmA bmO _ _ nn zz2 zz3 zz4 zz5 zz6 _ _ la vs0 _ zz7 h1 tk1 oc1 oc2
  clear zz1 zz2 zz3 zz4 zz5 zz6 zz7
  (with_reducible show wpAny _ _ _ _ _ _)
  dsimp only
  k_fold
  k_steps
  k_here
  k_dflt (refine' call_clsX ?k1 ?k2 ?k3 ?k4 ?k5 ?k6 ?_; (case k1 => k_asm); (case k2 => k_asm); (case k3 => k_asm); (case k4 => k_is); (case k5 => k_is); (case k6 => k_is); k_whole)
  intro x' d' h1' F' N' l1 l2 hk1 hn1 hn2 hsz
  k_lt l1
  k_lt2 l2
  k_sweep
  clear hk1 hn1 hn2 hsz
  (k_dflt (refine' enter_def ?k1 ?k2 ?k3 ?k4 ?k5 ?kA ?kF ?kK ?k6 ?k7 ?k8 ?k9 ?kB ?_ ?c2 ?c3 ?c4 ?c5; (case kA => exact rfl); (case kF => exact rfl); (case kK => first | exact rfl | assumption); (case k1 => k_asm); (case k2 => k_asm); (case k3 => k_asm); (case k4 => k_asm); (case k5 => k_asm); (case k6 => k_is); (case k7 => k_is); (case k8 => ktr_room); (case k9 => first | exact BindsTo.of_eq rfl | exact binds_K (by k_in) rfl (by k_is) rfl rfl rfl); (case c5 => decide); (case kB => exact locs rfl); (case c2 => exact rfl); (case c3 => exact rfl); (case c4 => exact rfl); k_whole; intro g1 L1 h2' hg1 FG' F' N' B' X' T' st1; (try dsimp only); (try k_fold)))
  k_steps
  rename_i l ws _ hi hc hl' _ a _ _ _ _ tl _ _ _ lb _ _ _ _ _ zF zN _ tu _ _ _ _ _ ob F N db'
  clear zF zN hg1 B' X' T' st1
  (try clear kX)
  have hn63 : (List.take 50 nn).length ≤ 63 := Nat.le_trans hl' (by omega)
  clear hl' hc hlen
  obtain ⟨ns, hns⟩ : ∃ z, List.take 50 nn = z := ⟨_, rfl⟩
  rw [hns] at hi hn63
  clear hns
  refine ⟨?_⟩
  ((with_reducible show wpAny _ _ (call (Value.ref 157) _) _ _ _); k_dflt (refine' Spec.use (next_ok (many := 40) (i := 0) (x := 17) (show @LT.lt Nat _ l a by omega) hi hn63 (Nat.zero_le _) (by decide) (by decide) (by decide)) ([(tu, _), (lb, _), (x', _), (d', _), (tl, _), (48, _), (s₁.heap.objs.size + 1 + 1, _), (s₁.heap.objs.size + 1, _)]) ?k1 ?k2 ?k3 ?k4 ?k5 ?kK ?s1 ?s2 ?s3 ?d1 ?d2 ?_); (case k1 => k_asm); (case k2 => k_asm); (case k3 => k_asm); (case k4 => k_asm); (case k5 => k_asm); (case kK => first | exact rfl | assumption); (case s1 => (repeat (first | (apply sub_nil) | (apply sub_cons (by k_mem)) | (intro p hp; repeat (first | exact hp | apply sub_tail))))); (case s2 => (repeat (first | (apply sub_nil) | (apply sub_cons (by k_mem)) | (intro p hp; repeat (first | exact hp | apply sub_tail))))); (case s3 => (repeat' (first | (refine List.forall_mem_cons.mpr ⟨?_, ?_⟩) | exact List.forall_mem_nil _ | k_ne | (intro p hp; exact List.forall_mem_nil _) | assumption))); (case d1 => first | exact room_lt hd (by decide) | ktr_room); (case d2 => first | exact room_lt hu (by decide) | ktr_units))
  rintro v sel' h5 tk5 ⟨r, tr, rfl, hr, i2, x2, t2, t2', e2, rfl, hi2, hx2⟩ F5 N5 ap5 kp5
  clear ap5 kp5 F N
  simp only [List.cons_append, List.nil_append] at N5
  k_steps
  refine ⟨?_⟩
  (rename Addr => vl)
  ((with_reducible show wpAny _ _ (call (Value.ref 157) _) _ _ _); k_dflt (refine' Spec.use (next_ok (many := 7) (show @LT.lt Nat _ l a by omega) hi hn63 hi2 hx2 (by decide) (by decide)) ([(vl, _), (lb, _), (x', _), (d', _), (tl, _), (48, _), (s₁.heap.objs.size + 1 + 1, _), (s₁.heap.objs.size + 1, _)]) ?k1 ?k2 ?k3 ?k4 ?k5 ?kK ?s1 ?s2 ?s3 ?d1 ?d2 ?_); (case k1 => k_asm); (case k2 => k_asm); (case k3 => k_asm); (case k4 => k_asm); (case k5 => k_asm); (case kK => first | exact rfl | assumption); (case s1 => (repeat (first | (apply sub_nil) | (apply sub_cons (by k_mem)) | (intro p hp; repeat (first | exact hp | apply sub_tail))))); (case s2 => (repeat (first | (apply sub_nil) | (apply sub_cons (by k_mem)) | (intro p hp; repeat (first | exact hp | apply sub_tail))))); (case s3 => (repeat' (first | (refine List.forall_mem_cons.mpr ⟨?_, ?_⟩) | exact List.forall_mem_nil _ | k_ne | (intro p hp; exact List.forall_mem_nil _) | assumption))); (case d1 => first | exact room_lt hd (by decide) | ktr_room); (case d2 => first | exact room_lt hu (by decide) | ktr_units))
  rintro v sel' h5 tk5 ⟨q, tq, rfl, hq, i3, x3, t3, t3', e3, rfl, hi3, hx3⟩ F5 N5 ap5 kp5
  clear ap5 kp5
  simp only [List.cons_append, List.nil_append] at N5
  k_steps
  refine ⟨?_⟩
  (rename Fr _ _ _ _ => F6; rename News _ _ _ _ => N6)
  obtain ⟨ver, hv1, hv2, ev⟩ := ver_ok hr hq
  rw [hv1] at F6
  refine For_any (h₀ := gB) (σ := List (Addr × Obj) × Addr × Tok) (fun c => c.1) (fun c => [("state", .ref a), ("texts", .ref c.2.1), ("version", .int (ver : Nat) c.2.2)]) (fun i c => LawI w a l x' d' lb s₁.heap.objs.size ws oc1 ob ns.length ver i c) ?hx ?hp ?hh ?h ?hs ?hE
  case hx => with_unfolding_all rfl
  case hp => with_unfolding_all rfl
  case hh => rfl
  case hs => intro _; with_unfolding_all rfl
  case hE => with_unfolding_all passes_own
  k_steps
  refine ⟨?_⟩
  ((with_reducible show wpAny _ _ (call (Value.ref 157) _) _ _ _); k_dflt (refine' Spec.use (next_ok (many := 3) (show @LT.lt Nat _ l a by omega) hi hn63 hi3 hx3 (by decide) (by decide)) ([(lb, _), (x', _), (d', _), (tl, _), (48, _), (s₁.heap.objs.size + 1 + 1, _), (s₁.heap.objs.size + 1, _)]) ?k1 ?k2 ?k3 ?k4 ?k5 ?kK ?s1 ?s2 ?s3 ?d1 ?d2 ?_); (case k1 => k_asm); (case k2 => k_asm); (case k3 => k_asm); (case k4 => k_asm); (case k5 => k_asm); (case kK => first | exact rfl | assumption); (case s1 => (repeat (first | (apply sub_nil) | (apply sub_cons (by k_mem)) | (intro p hp; repeat (first | exact hp | apply sub_tail))))); (case s2 => (repeat (first | (apply sub_nil) | (apply sub_cons (by k_mem)) | (intro p hp; repeat (first | exact hp | apply sub_tail))))); (case s3 => (repeat' (first | (refine List.forall_mem_cons.mpr ⟨?_, ?_⟩) | exact List.forall_mem_nil _ | k_ne | (intro p hp; exact List.forall_mem_nil _) | assumption))); (case d1 => first | exact room_lt hd (by decide) | ktr_room); (case d2 => first | exact room_lt hu (by decide) | ktr_units))
  rintro v sel' h5 tk5 ⟨r3, tr3, rfl, hr3, i4, x4, t4, t4', e4, rfl, hi4, hx4⟩ F5 N5 ap5 kp5
  clear ap5 kp5
  simp only [List.cons_append, List.nil_append] at N5
  k_steps
  obtain ⟨n, hn, hn3⟩ : ∃ n : Nat, (1 + (r3 : Int)) = (n : Int) ∧ n ≤ 3 := ⟨1 + r3, by omega, by omega⟩
  (rename Fr _ _ _ _ => F7; rename News _ _ _ _ => N7; rename IsRange _ _ _ _ _ _ _ _ => rgX)
  rw [hn] at rgX
  have ord : Hold (@LT.lt Nat _ 48 s₁.heap.objs.size ∧ @LT.lt Nat _ (s₁.heap.objs.size + 1 + 1) l ∧ @LT.lt Nat _ l a ∧ @LT.lt Nat _ a tl ∧ @LT.lt Nat _ tl d' ∧ @LT.lt Nat _ d' x' ∧ @LT.lt Nat _ x' lb) := ⟨by refine ⟨?_, ?_, ?_, ?_, ?_, ?_, ?_⟩ <;> omega⟩
  (repeat (rename (_ < _ ∧ _ < _ ∧ _) => zz9; clear zz9))
  obtain ⟨o1, o2, o3, o4, o5, o6, o7⟩ := ord.out
  clear ord
  obtain ⟨t1, t2, t3, N8⟩ : ∃ t1 t2 t3, News gB s₁.heap.objs.size _ [(a, PySem.W.listOf [Value.ref l, Value.int (i4 : Nat) t4, Value.int (x4 : Nat) t4'].toArray e4), (l, PySem.W.listOf ws.toArray 0), (x', instObj 146 d'), (d', bufD w t1 t2 t3 lb ((0 : Nat) : Int)), (lb, PySem.W.listOf ([] : List Value).toArray 0), (48, tabO #[]), (s₁.heap.objs.size + 1 + 1, oc1), (s₁.heap.objs.size + 1, ob), (tl, PySem.W.listOf ([] : List Value).toArray 0)] := by
    refine' ⟨_, _, _, _⟩
    rotate_left 3
    (repeat (first | exact List.forall_mem_nil _ | (refine List.forall_mem_cons.mpr ⟨N7 _ ?_, ?_⟩; · (repeat (first | exact List.Mem.head _ | refine List.Mem.tail _ ?_)))))
  clear N7
  clear h48 D2 hr hi2 hx2 hq hi3 hx3 hv1 l2
  have hG0 : AllBare s₁.gens := AllBare.of_eq hg
  have hlbs : @LT.lt Nat _ lb _ := Heap.lt_size (N8 (lb, PySem.W.listOf ([] : List Value).toArray 0) (by repeat (first | exact List.Mem.head _ | refine List.Mem.tail _ ?_))).1
  refine' ⟨n, _, _, _, _, (_, tl, _), _, rfl, rgX, by omega, rfl, hG0, F7, N8, ?rk, ?rp, ?turn, ?done⟩
  case rk => (repeat (first | exact List.forall_mem_nil _ | refine List.forall_mem_cons.mpr ⟨by with_unfolding_all rfl, ?_⟩))
  case rp =>
    refine ⟨i4, x4, t4, t4', e4, t1, t2, t3, [], 0, #[], [], 0, [], [], rfl, hi4, hx4, IntsAre.nil, .inl rfl, trivial, List.forall_mem_nil _, Nat.zero_le _, List.forall_mem_nil _, ?_⟩
    dsimp only
    (repeat (first | exact List.forall_mem_nil _ | refine List.forall_mem_cons.mpr ⟨by omega, ?_⟩))
  all_goals (clear F7 N8; (repeat (rename Fr _ _ _ _ => zz9; clear zz9)); (repeat (rename News _ _ _ _ => zz9; clear zz9)); (repeat (rename IsRange _ _ _ _ _ _ _ _ => zz9; clear zz9)))
  case turn =>
    clear t1 t2 t3 hi4 hx4
    rintro I oI ⟨c, D, tv⟩ i t u s' hIge hin ⟨si, sx, st, st', se, t1, t2, t3, xs, eb, pt, vs, eD, T, own, hc, hsi, hsx, hxs, hpt, hrd, hH, hTl, hown, hDne⟩ hos hGb hIne F1 N1
    dsimp only at hc hDne hIne F1 N1 ⊢
    subst hc
    simp only [List.cons_append] at N1
    replace N1 : News gB s₁.heap.objs.size s'.heap _ := N1
    replace F1 : Fr gB s₁.heap.objs.size s'.heap _ := F1
    have hIlb : @LT.lt Nat _ lb I := Nat.lt_of_lt_of_le hlbs hIge
    (with_reducible show wpAny _ _ _ _ _ _)
    obtain ⟨own', hown', hsub, hI', hown2⟩ : ∃ own', own' = own ++ [(I, oI)] ∧ (∀ p ∈ own, p ∈ own') ∧ (I, oI) ∈ own' ∧ (∀ p ∈ own', @LT.lt Nat _ lb p.1) := by
      refine ⟨_, rfl, fun p hp => List.mem_append_left _ hp, List.mem_append_right _ (List.mem_singleton.mpr rfl), fun p hp => ?_⟩
      rcases List.mem_append.mp hp with hp | hp
      · exact hown p hp
      · rw [List.mem_singleton.mp hp]; exact hIlb
    rw [← hown'] at N1
    have nd1 : @Ne Nat D a := hDne a (by k_mem)
    have nd2 : @Ne Nat D l := hDne l (by k_mem)
    have nd3 : @Ne Nat D x' := hDne x' (by k_mem)
    have nd4 : @Ne Nat D d' := hDne d' (by k_mem)
    have nd5 : @Ne Nat D lb := hDne lb (by k_mem)
    have nd6 : @Ne Nat D 48 := hDne 48 (by k_mem)
    have nd7 : @Ne Nat D (s₁.heap.objs.size + 1 + 1) := hDne _ (by k_mem)
    have nd8 : @Ne Nat D (s₁.heap.objs.size + 1) := hDne _ (by k_mem)
    have hIo : ∀ p ∈ own, p.1 ≠ I := fun p hp => hIne p (by repeat (first | exact hp | refine List.Mem.tail _ ?_))
    have hID : @Ne Nat D I := hIne (D, PySem.W.listOf vs.toArray eD) (by repeat (first | exact List.Mem.head _ | refine List.Mem.tail _ ?_))
    clear hIne hown'
    refine execs_cut2 (fun s₂ => Hold (∃ (si sx : Nat) (st st' : Tok) (se : Nat) (o : Array UInt8) (to tl9 : Tok) (mv : Value) (k : Nat) (u : Str → Option Value), s₂.os = s₁.os ∧ AllBare s₂.gens ∧ si ≤ ns.length ∧ sx < 2147483647 ∧ o.size ≤ 9 ∧ ModeR o mv k ∧ Fr gB s₁.heap.objs.size s₂.heap (kstB u [("octets", .bytes o to), ("least", .int (optM o : Nat) tl9), ("mode", mv), ("state", .ref a), ("texts", .ref D), ("version", .int (ver : Nat) tv)]) ∧ News gB s₁.heap.objs.size s₂.heap ((a, PySem.W.listOf [Value.ref l, Value.int (si : Nat) st, Value.int (sx : Nat) st'].toArray se) :: (l, PySem.W.listOf ws.toArray 0) :: (x', instObj 146 d') :: (d', bufD w t1 t2 t3 lb ((allB ver T).length : Nat)) :: (lb, PySem.W.listOf xs.toArray eb) :: (48, tabO pt) :: (s₁.heap.objs.size + 1 + 1, oc1) :: (s₁.heap.objs.size + 1, ob) :: (D, PySem.W.listOf vs.toArray eD) :: own'))) ?p1 ?p2
    case p1 =>
      k_with_none
      k_with "my call ref" => (first | (with_reducible show wpAny _ _ (call (Value.ref 157) _) _ _ _) | (with_reducible show wpAny _ _ (call (Value.ref 162) _) _ _ _) | (with_reducible show wpAny _ _ (call (Value.ref 167) _) _ _ _) | (with_reducible show wpAny _ _ (call (Value.ref 129) _) _ _ _) | (with_reducible show wpAny _ _ (call (Value.ref 82) _) _ _ _) | (with_reducible show wpAny _ _ (call (Value.ref 32) _) _ _ _) | (with_reducible show wpAny _ _ (call (Value.ref 179) _) _ _ _) | (with_reducible show wpAny _ _ (call (Value.ref 136) _) _ _ _) | (with_reducible show wpAny _ _ (call (Value.ref 174) _) _ _ _) | (with_reducible show wpAny _ _ (call (Value.ref 122) _) _ _ _) | (with_reducible show wpAny _ _ (call (Value.ref 92) _ _) _ _ _)) <;> (refine hold ?_)
      k_fold
      k_steps
      refine ⟨?_⟩
      ((with_reducible show wpAny _ _ (call (Value.ref 157) _) _ _ _); k_dflt (refine' Spec.use (next_ok (many := 10) o3 hi hn63 hsi hsx (by decide) (by decide)) ([(x', _), (d', _), (lb, _), (48, _), (s₁.heap.objs.size + 1 + 1, _), (s₁.heap.objs.size + 1, _), (D, _)] ++ own') ?k1 ?k2 ?k3 ?k4 ?k5 ?kK ?s1 ?s2 ?s3 ?d1 ?d2 ?_); (case k1 => k_asm); (case k2 => k_asm); (case k3 => k_asm); (case k4 => k_asm); (case k5 => k_asm); (case kK => first | exact rfl | assumption); (case s1 => (repeat (first | (apply sub_nil) | (apply sub_cons (by k_mem)) | (intro p hp; repeat (first | exact hp | apply sub_tail))))); (case s2 => (repeat (first | (apply sub_nil) | (apply sub_cons (by k_mem)) | (intro p hp; repeat (first | exact hp | apply sub_tail))))); (case s3 => exact apart_tail (pre := [(x', _), (d', _), (lb, _), (48, _), (s₁.heap.objs.size + 1 + 1, _), (s₁.heap.objs.size + 1, _), (D, _)]) (by (repeat' (first | (refine List.forall_mem_cons.mpr ⟨?_, ?_⟩) | exact List.forall_mem_nil _ | k_ne | (intro p hp; exact List.forall_mem_nil _) | assumption))) (by (repeat (first | exact List.forall_mem_nil _ | refine List.forall_mem_cons.mpr ⟨by (first | exact tail_gt (by assumption) | exact tail_ne (by assumption) (by dsimp only; omega)), ?_⟩)))); (case d1 => first | exact room_lt hd (by decide) | ktr_room); (case d2 => first | exact room_lt hu (by decide) | ktr_units))
      rintro v sel' h5 tk5 ⟨r, tr, rfl, hr, si2, sx2, t4, t4', e4, rfl, hsi2, hsx2⟩ F5 N5 ap5 kp5
      clear ap5 kp5 hsi hsx
      (try clear F1 N1)
      simp only [List.cons_append, List.nil_append] at N5
      k_steps
      refine ⟨?_⟩
      ((with_reducible show wpAny _ _ (call (Value.ref 162) _) _ _ _); k_dflt (refine' Spec.use (octets_ok o3 hi hn63 hsi2 hsx2 (show r ≤ 9 by omega)) ([(x', _), (d', _), (lb, _), (48, _), (s₁.heap.objs.size + 1 + 1, _), (s₁.heap.objs.size + 1, _), (D, _)] ++ own') ?k1 ?k2 ?k3 ?k4 ?k5 ?kK ?s1 ?s2 ?s3 ?d1 ?d2 ?_); (case k1 => k_asm); (case k2 => k_asm); (case k3 => k_asm); (case k4 => k_asm); (case k5 => k_asm); (case kK => first | exact rfl | assumption); (case s1 => (repeat (first | (apply sub_nil) | (apply sub_cons (by k_mem)) | (intro p hp; repeat (first | exact hp | apply sub_tail))))); (case s2 => (repeat (first | (apply sub_nil) | (apply sub_cons (by k_mem)) | (intro p hp; repeat (first | exact hp | apply sub_tail))))); (case s3 => exact apart_tail (pre := [(x', _), (d', _), (lb, _), (48, _), (s₁.heap.objs.size + 1 + 1, _), (s₁.heap.objs.size + 1, _), (D, _)]) (by (repeat' (first | (refine List.forall_mem_cons.mpr ⟨?_, ?_⟩) | exact List.forall_mem_nil _ | k_ne | (intro p hp; exact List.forall_mem_nil _) | assumption))) (by (repeat (first | exact List.forall_mem_nil _ | refine List.forall_mem_cons.mpr ⟨by (first | exact tail_gt (by assumption) | exact tail_ne (by assumption) (by dsimp only; omega)), ?_⟩)))); (case d1 => first | exact room_lt hd (by decide) | ktr_room); (case d2 => first | exact room_lt hu (by decide) | ktr_units))
      rintro v sel' h6 tk6 ⟨o, to, rfl, ho, si3, sx3, t5, t5', e5, rfl, hsi3, hsx3⟩ F6 N6 ap6 kp6
      clear ap6 kp6 hsi2 hsx2
      (try clear F5 N5)
      replace ho : o.size ≤ 9 := by omega
      simp only [List.cons_append, List.nil_append] at N6
      k_steps
      refine ⟨?_⟩
      ((with_reducible show wpAny _ _ (call (Value.ref 167) _) _ _ _); k_dflt (refine' Spec.use (least_ok ho) ([(a, _), (l, _), (x', _), (d', _), (lb, _), (48, _), (s₁.heap.objs.size + 1 + 1, _), (s₁.heap.objs.size + 1, _), (D, _)] ++ own') ?k1 ?k2 ?k3 ?k4 ?k5 ?kK ?s1 ?s2 ?s3 ?d1 ?d2 ?_); (case k1 => k_asm); (case k2 => k_asm); (case k3 => k_asm); (case k4 => k_asm); (case k5 => k_asm); (case kK => first | exact rfl | assumption); (case s1 => (repeat (first | (apply sub_nil) | (apply sub_cons (by k_mem)) | (intro p hp; repeat (first | exact hp | apply sub_tail))))); (case s2 => (repeat (first | (apply sub_nil) | (apply sub_cons (by k_mem)) | (intro p hp; repeat (first | exact hp | apply sub_tail))))); (case s3 => exact apart_tail (pre := [(a, _), (l, _), (x', _), (d', _), (lb, _), (48, _), (s₁.heap.objs.size + 1 + 1, _), (s₁.heap.objs.size + 1, _), (D, _)]) (by (repeat' (first | (refine List.forall_mem_cons.mpr ⟨?_, ?_⟩) | exact List.forall_mem_nil _ | k_ne | (intro p hp; exact List.forall_mem_nil _) | assumption))) (by (repeat (first | exact List.forall_mem_nil _ | refine List.forall_mem_cons.mpr ⟨by (first | exact tail_gt (by assumption) | exact tail_ne (by assumption) (by dsimp only; omega)), ?_⟩)))); (case d1 => first | exact room_lt hd (by decide) | ktr_room); (case d2 => first | exact room_lt hu (by decide) | ktr_units))
      rintro v sel' h7 tk7 ⟨tl7, rfl, rfl⟩ F7 N7 ap7 kp7
      clear ap7 kp7
      (try clear F6 N6)
      simp only [List.cons_append, List.nil_append] at N7
      k_steps
      refine ⟨?_⟩
      (rename Addr => vl)
      ((with_reducible show wpAny _ _ (call (Value.ref 157) _) _ _ _); k_dflt (refine' Spec.use (next_ok (many := 4) o3 hi hn63 hsi3 hsx3 (by decide) (by decide)) ([(vl, _), (x', _), (d', _), (lb, _), (48, _), (s₁.heap.objs.size + 1 + 1, _), (s₁.heap.objs.size + 1, _), (D, _)] ++ own') ?k1 ?k2 ?k3 ?k4 ?k5 ?kK ?s1 ?s2 ?s3 ?d1 ?d2 ?_); (case k1 => k_asm); (case k2 => k_asm); (case k3 => k_asm); (case k4 => k_asm); (case k5 => k_asm); (case kK => first | exact rfl | assumption); (case s1 => (repeat (first | (apply sub_nil) | (apply sub_cons (by k_mem)) | (intro p hp; repeat (first | exact hp | apply sub_tail))))); (case s2 => (repeat (first | (apply sub_nil) | (apply sub_cons (by k_mem)) | (intro p hp; repeat (first | exact hp | apply sub_tail))))); (case s3 => exact apart_tail (pre := [(vl, _), (x', _), (d', _), (lb, _), (48, _), (s₁.heap.objs.size + 1 + 1, _), (s₁.heap.objs.size + 1, _), (D, _)]) (by (repeat' (first | (refine List.forall_mem_cons.mpr ⟨?_, ?_⟩) | exact List.forall_mem_nil _ | k_ne | (intro p hp; exact List.forall_mem_nil _) | assumption))) (by (repeat (first | exact List.forall_mem_nil _ | refine List.forall_mem_cons.mpr ⟨by (first | exact tail_gt (by assumption) | exact tail_ne (by assumption) (by dsimp only; omega)), ?_⟩)))); (case d1 => first | exact room_lt hd (by decide) | ktr_room); (case d2 => first | exact room_lt hu (by decide) | ktr_units))
      rintro v sel' h8 tk8 ⟨r4, tr4, rfl, hr4, si4, sx4, t6, t6', e6, rfl, hsi4, hsx4⟩ F8 N8 ap8 kp8
      clear ap8 kp8 hsi3 hsx3
      simp only [List.cons_append, List.nil_append] at N8
      (try k_sweep)
      obtain rfl | rfl | rfl | rfl : r4 = 0 ∨ r4 = 1 ∨ r4 = 2 ∨ r4 = 3 := by omega
      all_goals k_steps
      all_goals (
        (rename Fr _ _ _ _ => F9)
        (rename News _ _ _ _ => N9)
        refine ⟨?_⟩
        have FK := fr_kst (ps := [("octets", .bytes o to), ("least", .int (optM o : Nat) tl7), ("mode", _), ("state", .ref a), ("texts", .ref D), ("version", .int (ver : Nat) tv)]) F9 (by repeat (first | exact List.forall_mem_nil _ | refine List.forall_mem_cons.mpr ⟨by with_unfolding_all rfl, ?_⟩))
        exact ⟨si4, sx4, t6, t6', e6, o, to, tl7, _, _, _, hos, hGb, hsi4, hsx4, ho, (by first | exact .inl ⟨rfl, rfl⟩ | exact .inr ⟨_, .inl ⟨rfl, rfl⟩⟩ | exact .inr ⟨_, .inr (.inl ⟨rfl, rfl⟩)⟩ | exact .inr ⟨_, .inr (.inr ⟨rfl, rfl⟩)⟩), FK, fun p hp => N9 p (by revert p; (repeat (first | (apply sub_nil) | (apply sub_cons (by k_mem)) | (intro p hp; repeat (first | exact hp | apply sub_tail)))))⟩)
    case p2 =>
      clear hsi hsx F1 N1
      rintro s₂ ⟨si, sx, st, st', se, o, to, tl9, mv, k, u2, hos2, hG2, hsi, hsx, ho, hmd, F1, N1⟩
      (with_reducible show wpAny _ _ _ _ _ _)
      have hszb := news_lt N1
      refine execs_cut2 (fun s₃ => Hold (∃ (u : Str → Option Value) (q dq : Addr) (q1 q2 q3 q4 : Tok) (pt2 : Array Value), s₃.os = s₁.os ∧ AllBare s₃.gens ∧ PsOk gpos pt2 ∧ Holds (k, o) ∧ @LT.lt Nat _ lb dq ∧ @LT.lt Nat _ dq q ∧ @LT.lt Nat _ D dq ∧ (∀ p ∈ own', @LT.lt Nat _ p.1 dq) ∧ Fr gB s₁.heap.objs.size s₃.heap (kstB u [("octets", .bytes o to), ("data", .ref q), ("state", .ref a), ("texts", .ref D), ("version", .int (ver : Nat) tv)]) ∧ News gB s₁.heap.objs.size s₃.heap ((a, PySem.W.listOf [Value.ref l, Value.int (si : Nat) st, Value.int (sx : Nat) st'].toArray se) :: (l, PySem.W.listOf ws.toArray 0) :: (x', instObj 146 d') :: (d', bufD w t1 t2 t3 lb ((allB ver T).length : Nat)) :: (lb, PySem.W.listOf xs.toArray eb) :: (48, tabO pt2) :: (s₁.heap.objs.size + 1 + 1, oc1) :: (s₁.heap.objs.size + 1, ob) :: (q, instObj 92 dq) :: (dq, qrD w q1 q2 q3 q4 k o) :: (D, PySem.W.listOf vs.toArray eD) :: own'))) ?p1 ?p2
      case p1 =>
        k_with_none
        k_with "my call ref" => (first | (with_reducible show wpAny _ _ (call (Value.ref 157) _) _ _ _) | (with_reducible show wpAny _ _ (call (Value.ref 162) _) _ _ _) | (with_reducible show wpAny _ _ (call (Value.ref 167) _) _ _ _) | (with_reducible show wpAny _ _ (call (Value.ref 129) _) _ _ _) | (with_reducible show wpAny _ _ (call (Value.ref 82) _) _ _ _) | (with_reducible show wpAny _ _ (call (Value.ref 32) _) _ _ _) | (with_reducible show wpAny _ _ (call (Value.ref 179) _) _ _ _) | (with_reducible show wpAny _ _ (call (Value.ref 136) _) _ _ _) | (with_reducible show wpAny _ _ (call (Value.ref 174) _) _ _ _) | (with_reducible show wpAny _ _ (call (Value.ref 122) _) _ _ _) | (with_reducible show wpAny _ _ (call (Value.ref 92) _ _) _ _ _)) <;> (refine hold ?_)
        k_fold
        k_steps
        refine wpAny_Try_except ?_
        k_steps
        refine ⟨?_⟩
        k_dflt (refine' QrSpec.use (qr_any (to := to) ho hmd) ([(a, _), (l, _), (x', _), (d', _), (lb, _), (s₁.heap.objs.size + 1 + 1, _), (s₁.heap.objs.size + 1, _), (D, _)] ++ own') ?k1 ?k2 ?k3 ?k4 ?k5 ?k6 ?k7 ?k8 ?kK ?s1 ?s2 ?s3 ?d1 ?d2 ?kr ?ke)
        case k1 => k_asm
        case k2 => k_asm
        case k3 => k_asm
        case k4 => k_asm
        case k5 => k_asm
        case k6 => assumption
        case k7 => assumption
        case k8 => assumption
        case kK => exact rfl
        case s1 => k_mem
        case s2 => (repeat (first | (apply sub_nil) | (apply sub_cons (by k_mem)) | (intro p hp; repeat (first | exact hp | apply sub_tail))))
        case s3 =>
          intro p hp
          rcases List.mem_append.mp hp with h9 | hp
          · clear hp; revert p; (repeat (first | exact List.forall_mem_nil _ | refine List.forall_mem_cons.mpr ⟨by (show @Ne Nat _ _); dsimp only; omega, ?_⟩))
          · exact tail_ne hown2 (by omega) p hp
        case d1 => ktr_room
        case d2 => ktr_units
        case kr =>
          rintro q dq q1 q2 q3 q4 pt2 s₄ hok hpt2 hos4 hG4 F4 N4 hlt hsz
          simp only [List.cons_append, List.nil_append] at N4
          have hq1 : @LT.lt Nat _ lb dq := Nat.lt_of_lt_of_le (hszb (lb, PySem.W.listOf xs.toArray eb) (by k_mem)) hsz
          have hq3 : @LT.lt Nat _ D dq := Nat.lt_of_lt_of_le (hszb (D, PySem.W.listOf vs.toArray eD) (by k_mem)) hsz
          have hq4 : ∀ p ∈ own', @LT.lt Nat _ p.1 dq := fun p hp => Nat.lt_of_lt_of_le (hszb p (by repeat (first | exact hp | refine List.Mem.tail _ ?_))) hsz
          have hHk := holds_of ho hmd.k hok
          have hos5 : s₄.os = s₁.os := hos4.trans hos2
          clear hszb F1 N1 hsz hos4 hos2 hG2
          rcases hmd with ⟨rfl, rfl⟩ | ⟨tm, ⟨rfl, rfl⟩ | ⟨rfl, rfl⟩ | ⟨rfl, rfl⟩⟩
          all_goals k_steps
          · exact absurd rfl (by assumption)
          all_goals (
            (rename Fr _ _ _ _ => F9)
            (rename News _ _ _ _ => N9)
            have FK := fr_kst (ps := [("octets", .bytes o to), ("data", .ref q), ("state", .ref a), ("texts", .ref D), ("version", .int (ver : Nat) tv)]) F9 (by repeat (first | exact List.forall_mem_nil _ | refine List.forall_mem_cons.mpr ⟨by with_unfolding_all rfl, ?_⟩))
            exact ⟨⟨_, q, dq, q1, q2, q3, q4, pt2, hos5, hG4, hpt2, hHk, hq1, hlt, hq3, hq4, FK, fun p hp => N9 p (by revert p; (repeat (first | (apply sub_nil) | (apply sub_cons (by k_mem)) | (intro p hp; repeat (first | exact hp | apply sub_tail)))))⟩⟩)
        case ke =>
          rintro e pt2 G s₄ hok hpt2 hos4 hG4 R U FG hr
          have hos5 : s₄.os = s₁.os := hos4.trans hos2
          clear hszb F1 N1 hos4 hos2 hG2
          refine caught_X R FG U (by assumption) (by assumption) rfl hr (by k_is) ?ck rfl (by with_unfolding_all rfl) (by passes_own)
          intro h6 F6 N6
          simp only [List.cons_append, List.nil_append] at N6
          rcases hmd with ⟨rfl, rfl⟩ | ⟨tm, ⟨rfl, rfl⟩ | ⟨rfl, rfl⟩ | ⟨rfl, rfl⟩⟩
          · exact absurd (Nat.le_refl _) hok
          all_goals k_steps
          all_goals (
            (rename Fr _ _ _ _ => F9)
            (rename News _ _ _ _ => N9)
            dsimp only
            refine TurnA.cont (([(a, PySem.W.listOf [Value.ref l, Value.int (si : Nat) st, Value.int (sx : Nat) st'].toArray se), (l, PySem.W.listOf ws.toArray 0), (x', instObj 146 d'), (d', bufD w t1 t2 t3 lb ((allB ver T).length : Nat)), (lb, PySem.W.listOf xs.toArray eb), (48, tabO pt2), (s₁.heap.objs.size + 1 + 1, oc1), (s₁.heap.objs.size + 1, ob), (D, PySem.W.listOf vs.toArray eD)] ++ own, D, tv)) hos5 hG4 F9 N9 ?_ ?_ ?_ ?_ ?_
            · dsimp only
              intro p hp
              rcases List.mem_append.mp hp with h9 | h9
              · clear hp; revert p; (repeat (first | (apply sub_nil) | (apply sub_cons (by k_mem)) | (intro p hp; repeat (first | exact hp | apply sub_tail))))
              · have h8 := hsub p h9; (repeat (first | exact h8 | refine List.Mem.tail _ ?_))
            · (repeat (first | exact hI' | refine List.Mem.tail _ ?_))
            · dsimp only
              intro p hp
              rcases List.mem_append.mp hp with h9 | h9
              · clear hp; revert p; (repeat (first | exact List.forall_mem_nil _ | refine List.forall_mem_cons.mpr ⟨by (show @Ne Nat _ _); dsimp only; omega, ?_⟩))
              · exact hIo p h9
            · (repeat (first | exact List.forall_mem_nil _ | refine List.forall_mem_cons.mpr ⟨by with_unfolding_all rfl, ?_⟩))
            · exact ⟨si, sx, st, st', se, t1, t2, t3, xs, eb, pt2, vs, eD, T, own, rfl, hsi, hsx, hxs, hpt2, hrd, hH, Nat.le_succ_of_le hTl, hown, hDne⟩)
      case p2 =>
        clear F1 N1 hG2 hos2 hpt hszb pt
        rintro s₃ ⟨u3, q, dq, q1, q2, q3, q4, pt, hos3, hG3, hpt, hHk, hq1, hq2, hq3, hq4, F1, N1⟩
        (with_reducible show wpAny _ _ _ _ _ _)
        have hBl := allB_len (v := ver) hH
        have hpl := pbits_len0 (allB ver T)
        have hlb8 := lenBits_lt (v := ver) hHk.k
        have hk4 : k ≤ 4 := by have := hHk.k; omega
        have hel := enc_len (k := k) ho
        have hq5 : ∀ p ∈ own', @LT.lt Nat _ p.1 q := fun p hp => Nat.lt_trans (hq4 p hp) hq2
        k_with_none
        k_with "my call ref" => (first | (with_reducible show wpAny _ _ (call (Value.ref 157) _) _ _ _) | (with_reducible show wpAny _ _ (call (Value.ref 162) _) _ _ _) | (with_reducible show wpAny _ _ (call (Value.ref 167) _) _ _ _) | (with_reducible show wpAny _ _ (call (Value.ref 129) _) _ _ _) | (with_reducible show wpAny _ _ (call (Value.ref 82) _) _ _ _) | (with_reducible show wpAny _ _ (call (Value.ref 32) _) _ _ _) | (with_reducible show wpAny _ _ (call (Value.ref 179) _) _ _ _) | (with_reducible show wpAny _ _ (call (Value.ref 136) _) _ _ _) | (with_reducible show wpAny _ _ (call (Value.ref 174) _) _ _ _) | (with_reducible show wpAny _ _ (call (Value.ref 122) _) _ _ _) | (with_reducible show wpAny _ _ (call (Value.ref 92) _ _) _ _ _)) <;> (refine hold ?_)
        k_with "my cat" => (refine hold ?_)
        (with_reducible show wpAny _ _ _ _ _ _)
        k_fold
        k_steps
        refine ⟨?_⟩
        ((with_reducible show wpAny _ _ (call (Value.ref 129) _) _ _ _); k_dflt (refine' Spec.use (put_ok (len := 4) o7 o6 hxs ?pa ?pb ?pc) ([(a, _), (l, _), (48, _), (s₁.heap.objs.size + 1 + 1, _), (s₁.heap.objs.size + 1, _), (q, _), (dq, _), (D, _)] ++ own') ?k1 ?k2 ?k3 ?k4 ?k5 ?kK ?s1 ?s2 ?s3 ?d1 ?d2 ?_); (case k1 => k_asm); (case k2 => k_asm); (case k3 => k_asm); (case k4 => k_asm); (case k5 => k_asm); (case kK => first | exact rfl | assumption); (case s1 => (repeat (first | (apply sub_nil) | (apply sub_cons (by k_mem)) | (intro p hp; repeat (first | exact hp | apply sub_tail))))); (case s2 => (repeat (first | (apply sub_nil) | (apply sub_cons (by k_mem)) | (intro p hp; repeat (first | exact hp | apply sub_tail))))); (case s3 => exact apart_tail (pre := [(a, _), (l, _), (48, _), (s₁.heap.objs.size + 1 + 1, _), (s₁.heap.objs.size + 1, _), (q, _), (dq, _), (D, _)]) (by (repeat' (first | (refine List.forall_mem_cons.mpr ⟨?_, ?_⟩) | exact List.forall_mem_nil _ | k_ne | (intro p hp; exact List.forall_mem_nil _) | assumption))) (by (repeat (first | exact List.forall_mem_nil _ | refine List.forall_mem_cons.mpr ⟨by (first | exact tail_gt (by assumption) | exact tail_ne (by assumption) (by dsimp only; omega)), ?_⟩)))); (case d1 => first | exact room_lt hd (by decide) | ktr_room); (case d2 => first | exact room_lt hu (by decide) | ktr_units))
        case pa => omega
        case pb => exact hpl
        case pc => omega
        rintro v sel' h5 tk5 ⟨rfl, t1', t2', t3', xs2, e2, rfl, hxs2⟩ F5 N5 ap5 kp5
        clear ap5 kp5
        simp only [List.cons_append, List.nil_append] at N5
        k_steps
        refine ⟨?_⟩
        ((with_reducible show wpAny _ _ (call (Value.ref 32) _) _ _ _); k_dflt (refine' Spec.use (lib_ok hHk.k hv2 ev) ([(x', _), (d', _), (lb, _), (a, _), (l, _), (48, _), (s₁.heap.objs.size + 1 + 1, _), (s₁.heap.objs.size + 1, _), (q, _), (dq, _), (D, _)] ++ own') ?k1 ?k2 ?k3 ?k4 ?k5 ?kK ?s1 ?s2 ?s3 ?d1 ?d2 ?_); (case k1 => k_asm); (case k2 => k_asm); (case k3 => k_asm); (case k4 => k_asm); (case k5 => k_asm); (case kK => first | exact rfl | assumption); (case s1 => (repeat (first | (apply sub_nil) | (apply sub_cons (by k_mem)) | (intro p hp; repeat (first | exact hp | apply sub_tail))))); (case s2 => (repeat (first | (apply sub_nil) | (apply sub_cons (by k_mem)) | (intro p hp; repeat (first | exact hp | apply sub_tail))))); (case s3 => exact apart_tail (pre := [(x', _), (d', _), (lb, _), (a, _), (l, _), (48, _), (s₁.heap.objs.size + 1 + 1, _), (s₁.heap.objs.size + 1, _), (q, _), (dq, _), (D, _)]) (by (repeat' (first | (refine List.forall_mem_cons.mpr ⟨?_, ?_⟩) | exact List.forall_mem_nil _ | k_ne | (intro p hp; exact List.forall_mem_nil _) | assumption))) (by (repeat (first | exact List.forall_mem_nil _ | refine List.forall_mem_cons.mpr ⟨by (first | exact tail_gt (by assumption) | exact tail_ne (by assumption) (by dsimp only; omega)), ?_⟩)))); (case d1 => first | exact room_lt hd (by decide) | ktr_room); (case d2 => first | exact room_lt hu (by decide) | ktr_units))
        rintro v sel' h6 tk6 ⟨t8, rfl, rfl⟩ F6 N6 ap6 kp6
        clear ap6 kp6
        simp only [List.cons_append, List.nil_append] at N6
        k_steps
        refine ⟨?_⟩
        ((with_reducible show wpAny _ _ (call (Value.ref 129) _) _ _ _); k_dflt (refine' Spec.use (put_ok (len := lenBits k ver) o7 o6 hxs2 ?pa ?pb ?pc) ([(a, _), (l, _), (48, _), (s₁.heap.objs.size + 1 + 1, _), (s₁.heap.objs.size + 1, _), (q, _), (dq, _), (D, _)] ++ own') ?k1 ?k2 ?k3 ?k4 ?k5 ?kK ?s1 ?s2 ?s3 ?d1 ?d2 ?_); (case k1 => k_asm); (case k2 => k_asm); (case k3 => k_asm); (case k4 => k_asm); (case k5 => k_asm); (case kK => first | exact rfl | assumption); (case s1 => (repeat (first | (apply sub_nil) | (apply sub_cons (by k_mem)) | (intro p hp; repeat (first | exact hp | apply sub_tail))))); (case s2 => (repeat (first | (apply sub_nil) | (apply sub_cons (by k_mem)) | (intro p hp; repeat (first | exact hp | apply sub_tail))))); (case s3 => exact apart_tail (pre := [(a, _), (l, _), (48, _), (s₁.heap.objs.size + 1 + 1, _), (s₁.heap.objs.size + 1, _), (q, _), (dq, _), (D, _)]) (by (repeat' (first | (refine List.forall_mem_cons.mpr ⟨?_, ?_⟩) | exact List.forall_mem_nil _ | k_ne | (intro p hp; exact List.forall_mem_nil _) | assumption))) (by (repeat (first | exact List.forall_mem_nil _ | refine List.forall_mem_cons.mpr ⟨by (first | exact tail_gt (by assumption) | exact tail_ne (by assumption) (by dsimp only; omega)), ?_⟩)))); (case d1 => first | exact room_lt hd (by decide) | ktr_room); (case d2 => first | exact room_lt hu (by decide) | ktr_units))
        case pa => omega
        case pb => rw [pbits_length _ _ _ hpl, bitsOf_length]
        case pc => omega
        rintro v sel' h7 tk7 ⟨rfl, t4', t5', t6', xs3, e3, rfl, hxs3⟩ F7 N7 ap7 kp7
        clear ap7 kp7
        simp only [List.cons_append, List.nil_append] at N7
        k_steps
        refine ⟨?_⟩
        ((with_reducible show wpAny _ _ (call (Value.ref 82) _) _ _ _); k_dflt (refine' Spec.use (write_any o7 o6 hq1 hq2 hxs3 ?pa ?pb hHk) ([(a, _), (l, _), (48, _), (s₁.heap.objs.size + 1 + 1, _), (s₁.heap.objs.size + 1, _), (D, _)] ++ own') ?k1 ?k2 ?k3 ?k4 ?k5 ?kK ?s1 ?s2 ?s3 ?d1 ?d2 ?_); (case k1 => k_asm); (case k2 => k_asm); (case k3 => k_asm); (case k4 => k_asm); (case k5 => k_asm); (case kK => first | exact rfl | assumption); (case s1 => (repeat (first | (apply sub_nil) | (apply sub_cons (by k_mem)) | (intro p hp; repeat (first | exact hp | apply sub_tail))))); (case s2 => (repeat (first | (apply sub_nil) | (apply sub_cons (by k_mem)) | (intro p hp; repeat (first | exact hp | apply sub_tail))))); (case s3 => exact apart_tail (pre := [(a, _), (l, _), (48, _), (s₁.heap.objs.size + 1 + 1, _), (s₁.heap.objs.size + 1, _), (D, _)]) (by (repeat' (first | (refine List.forall_mem_cons.mpr ⟨?_, ?_⟩) | exact List.forall_mem_nil _ | k_ne | (intro p hp; exact List.forall_mem_nil _) | assumption))) (by (repeat (first | exact List.forall_mem_nil _ | refine List.forall_mem_cons.mpr ⟨by (first | exact tail_gt (by assumption) | exact tail_ne (by assumption) (by dsimp only; omega)), ?_⟩)))); (case d1 => first | exact room_lt hd (by decide) | ktr_room); (case d2 => first | exact room_lt hu (by decide) | ktr_units))
        case pa => omega
        case pb => rw [pbits_length _ _ _ (by rw [pbits_length _ _ _ hpl, bitsOf_length]), bitsOf_length]
        rintro v sel' h8 tk8 ⟨rfl, c8, ⟨t7', t8', t9', xs4, e4, rfl, hxs4⟩, rfl⟩ F8 N8 ap8 kp8
        clear ap8 kp8
        simp only [List.cons_append, List.nil_append] at N8
        rw [pbits_text] at hxs4
        rw [len_text] at N8
        clear hxs hxs2 hxs3 hpl
        k_steps
        refine ⟨?_⟩
        rename_i Dx _ hDx lx _ F9 N9 hlx
        obtain ⟨-, -, hb9, -, -, -, -, -, -, -, -, hall⟩ := hDx
        obtain ⟨tm, to9, nn, N10⟩ : ∃ tm to9 nn, News gB s₁.heap.objs.size _ ((lx, PySem.W.listOf #[Value.ref Dx] 0) :: (Dx, tupO k o tm to9 nn) :: (D, PySem.W.listOf vs.toArray eD) :: (a, PySem.W.listOf [Value.ref l, Value.int (si : Nat) st, Value.int (sx : Nat) st'].toArray se) :: (l, PySem.W.listOf ws.toArray 0) :: (x', instObj 146 d') :: (d', bufD w t7' t8' t9' lb ((allB ver (T ++ [(k, o)])).length : Nat)) :: (lb, PySem.W.listOf xs4.toArray e4) :: (48, tabO pt) :: (s₁.heap.objs.size + 1 + 1, oc1) :: (s₁.heap.objs.size + 1, ob) ::  own') := by
          refine' ⟨_, _, _, _⟩
          rotate_left 3
          (repeat (refine List.forall_mem_cons.mpr ⟨N9 _ ?_, ?_⟩; · (repeat (first | exact List.Mem.head _ | refine List.Mem.tail _ ?_))))
          exact fun p hp => N9 p (by repeat (first | exact hp | refine List.Mem.tail _ ?_))
        have hvl := hrd.length
        refine cat_tup2 F9 N10 (by omega) ?_
        intro D2 h9 F10 N11 hlt2 hall2
        clear F9 N9 N10
        k_steps
        (rename Fr _ _ _ _ => F11)
        (rename News _ _ _ _ => N12)
        refine TurnA.next ((a, PySem.W.listOf [Value.ref l, Value.int (si : Nat) st, Value.int (sx : Nat) st'].toArray se) :: (l, PySem.W.listOf ws.toArray 0) :: (x', instObj 146 d') :: (d', bufD w t7' t8' t9' lb ((allB ver (T ++ [(k, o)])).length : Nat)) :: (lb, PySem.W.listOf xs4.toArray e4) :: (48, tabO pt) :: (s₁.heap.objs.size + 1 + 1, oc1) :: (s₁.heap.objs.size + 1, ob) ::  (D2, PySem.W.listOf (vs ++ [Value.ref Dx]).toArray 0) :: (Dx, tupO k o tm to9 nn) :: own, D2, tv) hos3 hG3 F11 N12 ?_ ?_ ?_ ?_ ?_
        · dsimp only
          iterate 10 (refine sub_cons (by k_mem) ?_)
          intro p h9
          have h8 := hsub p h9
          (repeat (first | exact h8 | refine List.Mem.tail _ ?_))
        · (repeat (first | exact hI' | refine List.Mem.tail _ ?_))
        · dsimp only
          have hIx : @LT.lt Nat _ I Dx := kst_ltOf hall _ hI'
          iterate 10 (refine List.forall_mem_cons.mpr ⟨by (show @Ne Nat _ _); dsimp only; omega, ?_⟩)
          exact hIo
        · (repeat (first | exact List.forall_mem_nil _ | refine List.forall_mem_cons.mpr ⟨by with_unfolding_all rfl, ?_⟩))
        · refine ⟨si, sx, st, st', se, t7', t8', t9', xs4, e4, pt, vs ++ [Value.ref Dx], 0, T ++ [(k, o)], (Dx, tupO k o tm to9 nn) :: own, rfl, hsi, hsx, hxs4, hpt, Rd.snoc (t := (k, o)) List.mem_cons_self (hrd.mono fun p hp => List.mem_cons_of_mem _ hp), ?_, ?_, List.forall_mem_cons.mpr ⟨hb9, hown⟩, ?_⟩
          · intro t ht
            rcases List.mem_append.mp ht with ht | ht
            · exact hH t ht
            · rw [List.mem_singleton.mp ht]; exact hHk
          · rw [List.length_append, List.length_singleton]; omega
          · dsimp only
            (repeat (first | exact List.forall_mem_nil _ | refine List.forall_mem_cons.mpr ⟨by omega, ?_⟩))
  case done =>
    rintro ⟨c, D, tv⟩ u s' ⟨si, sx, st, st', se, t1, t2, t3, xs, eb, pt, vs, eD, T, own, hc, hsi, hsx, hxs, hpt, hrd, hH, hTl, hown, hDne⟩ hos hGb F1 N1
    dsimp only at hc hDne F1 N1 ⊢
    subst hc
    replace N1 : News gB s₁.heap.objs.size s'.heap _ := N1
    replace F1 : Fr gB s₁.heap.objs.size s'.heap _ := F1
    (with_reducible show wpAny _ _ _ _ _ _)
    have nd3 : @Ne Nat D x' := hDne x' (by k_mem)
    have nd4 : @Ne Nat D d' := hDne d' (by k_mem)
    have nd5 : @Ne Nat D lb := hDne lb (by k_mem)
    have nd6 : @Ne Nat D 48 := hDne 48 (by k_mem)
    have nd7 : @Ne Nat D (s₁.heap.objs.size + 1 + 1) := hDne _ (by k_mem)
    have nd8 : @Ne Nat D (s₁.heap.objs.size + 1) := hDne _ (by k_mem)
    have hBl := allB_len (v := ver) hH
    have hpl := pbits_len0 (allB ver T)
    have hbyte := pbits_byte (allB ver T)
    obtain ⟨B, hB⟩ : ∃ B, allB ver T = B := ⟨_, rfl⟩
    rw [hB] at N1 hxs hBl hpl hbyte
    (with_reducible show wpAny _ _ _ _ _ _)
    refine execs_cut2 (fun s₂ => Hold (∃ (u : Str → Option Value) (Db Dr : Addr) (bs rs : List Value) (eb2 er : Nat) (pad : Nat) (oc3 : Obj), s₂.os = s₁.os ∧ AllBare s₂.gens ∧ IntsAre bs (B.map b2i) ∧ IntsAre rs (B.map b2i ++ List.replicate pad 0) ∧ pad < 8 ∧ (B.length + pad) % 8 = 0 ∧ oc3.data = Data.cell (some (.ref Dr)) ∧ LCg.Off1 Db ((x', instObj 146 d') :: (d', bufD w t1 t2 t3 lb (B.length : Nat)) :: (lb, PySem.W.listOf xs.toArray eb) :: (48, tabO pt) :: (s₁.heap.objs.size + 1 + 1, oc1) :: (s₁.heap.objs.size + 1, ob) :: (D, PySem.W.listOf vs.toArray eD) :: own) ∧ (∀ p ∈ (Db, PySem.W.listOf bs.toArray bs.length) :: (x', instObj 146 d') :: (d', bufD w t1 t2 t3 lb (B.length : Nat)) :: (lb, PySem.W.listOf xs.toArray eb) :: (48, tabO pt) :: (s₁.heap.objs.size + 1 + 1, oc1) :: (s₁.heap.objs.size + 1, ob) :: (D, PySem.W.listOf vs.toArray eD) :: own, @LT.lt Nat _ p.1 Dr) ∧ Fr gB s₁.heap.objs.size s₂.heap (kstB u [("bits", .ref Db), ("texts", .ref D), ("version", .int (ver : Nat) tv)]) ∧ News gB s₁.heap.objs.size s₂.heap ((Dr, PySem.W.listOf rs.toArray er) :: (Db, PySem.W.listOf bs.toArray eb2) :: (x', instObj 146 d') :: (d', bufD w t1 t2 t3 lb (B.length : Nat)) :: (lb, PySem.W.listOf xs.toArray eb) :: (48, tabO pt) :: (s₁.heap.objs.size + 1 + 1, oc3) :: (s₁.heap.objs.size + 1, ob) :: (D, PySem.W.listOf vs.toArray eD) :: own))) ?p1 ?p2
    case p1 =>
      k_with_none
      k_with "my call ref" => ((first | (with_reducible show wpAny _ _ (call (Value.ref 122) _) _ _ _) | (with_reducible show wpAny _ _ (call (Value.ref 174) _) _ _ _) | (with_reducible show wpAny _ _ (call (Value.ref 179) _) _ _ _)) <;> (refine hold ?_))
      k_with "my eval ListComp" => (refine hold ?_)
      k_with "my cat" => (refine hold ?_)
      (try k_fold)
      k_steps
      refine ⟨?_⟩
      k_dflt (refine LCg.Assign_ListComp_U (F₀ := F1) (by rfl) (by with_unfolding_all rfl) (by with_unfolding_all rfl) (by decide) (by rfl) (by decide) (by rfl) (by rfl) (by rfl) ?_)
      k_with "my CompSrc" => (refine hold ?_)
      k_with "my CompEnd" => (refine hold ?_)
      k_steps
      refine ⟨?_⟩
      (rename Fr _ _ _ _ => F7; rename News _ _ _ _ => N7; rename IsRange _ _ _ _ _ _ _ _ => rgX)
      refine LCg.CompSrc.range (n := B.length) (by rfl) F7 (news := (x', instObj 146 d') :: (d', bufD w t1 t2 t3 lb (B.length : Nat)) :: (lb, PySem.W.listOf xs.toArray eb) :: (48, tabO pt) :: (s₁.heap.objs.size + 1 + 1, oc1) :: (s₁.heap.objs.size + 1, ob) :: (D, PySem.W.listOf vs.toArray eD) :: own) (fun p hp => N7 p (by revert p; (repeat (first | (apply sub_nil) | (apply sub_cons (by k_mem)) | (intro p hp; repeat (first | exact hp | apply sub_tail)))))) rgX ?ra ?rb ?rc ?_
      case ra => exact small_one (by omega) (by omega) (by omega) (by omega)
      case rb => exact (rangeSize_nat _ _).trans (by omega)
      case rc => rw [PySem.sizeLine_eq]; omega
      intro g9
      refine comp_ind (fun i ys news => IntsAre ys ((B.take i).map b2i) ∧ news = (x', instObj 146 d') :: (d', bufD w t1 t2 t3 lb (B.length : Nat)) :: (lb, PySem.W.listOf xs.toArray eb) :: (48, tabO pt) :: (s₁.heap.objs.size + 1 + 1, oc1) :: (s₁.heap.objs.size + 1, ob) :: (D, PySem.W.listOf vs.toArray eD) :: own) ?step ?fin B.length 0 [] _ (Nat.zero_add _) ⟨IntsAre.nil, rfl⟩
      case step =>
        clear F7 N7 rgX F1 N1
        rintro i ys news v I oI C oC Dl m₂ h tk E' hi1 ⟨hys, rfl⟩ ⟨tv, rfl⟩ hC hxv F8 N8 off8 ne8
        rw [Int.zero_add] at hxv
        simp only [LCg.Off3, and_true, List.cons_append, List.nil_append] at off8
        have off9 := off8
        obtain ⟨⟨e11, e12, e13⟩, ⟨e21, e22, e23⟩, ⟨e31, e32, e33⟩, ⟨e41, e42, e43⟩, ⟨e51, e52, e53⟩, ⟨e61, e62, e63⟩, ⟨e71, e72, e73⟩, -⟩ := off8
        (try k_fold)
        k_steps
        refine ⟨?_⟩
        ((with_reducible show wpAny _ _ (call (Value.ref 122) _) _ _ _); k_dflt (refine' Spec.use (get_ok (k := i) (n := B.length) o7 o6 hxs ?pa hpl hi1 hbyte) ([(I, oI), (C, oC), (Dl, LCg.lst ys), (48, tabO pt), (s₁.heap.objs.size + 1 + 1, oc1), (s₁.heap.objs.size + 1, ob), (D, PySem.W.listOf vs.toArray eD)] ++ own) ?k1 ?k2 ?k3 ?k4 ?k5 ?kK ?s1 ?s2 ?s3 ?d1 ?d2 ?_); (case k1 => k_asm); (case k2 => k_asm); (case k3 => k_asm); (case k4 => k_asm); (case k5 => k_asm); (case kK => first | exact rfl | assumption); (case s1 => (repeat (first | (apply sub_nil) | (apply sub_cons (by k_mem)) | (intro p hp; repeat (first | exact hp | apply sub_tail))))); (case s2 => (repeat (first | (apply sub_nil) | (apply sub_cons (by k_mem)) | (intro p hp; repeat (first | exact hp | apply sub_tail))))); (case s3 => exact apart_tail (pre := [(I, oI), (C, oC), (Dl, LCg.lst ys), (48, tabO pt), (s₁.heap.objs.size + 1 + 1, oc1), (s₁.heap.objs.size + 1, ob), (D, PySem.W.listOf vs.toArray eD)]) (by (repeat' (first | (refine List.forall_mem_cons.mpr ⟨?_, ?_⟩) | exact List.forall_mem_nil _ | k_ne | (intro p hp; exact List.forall_mem_nil _) | assumption))) (by (repeat (first | exact List.forall_mem_nil _ | refine List.forall_mem_cons.mpr ⟨by (first | exact tail_gt (by assumption) | exact tail_ne (by assumption) (by dsimp only; omega)), ?_⟩)))); (case d1 => first | exact room_lt hd (by decide) | ktr_room); (case d2 => first | exact room_lt hu (by decide) | ktr_units))
        case pa => omega
        rintro v sel' h10 tk10 ⟨rfl, rfl⟩ F10 N10 _ _
        simp only [List.cons_append, List.nil_append] at N10
        k_steps
        refine ⟨?_⟩
        (rename Fr _ _ _ _ => F11; rename News _ _ _ _ => N11)
        refine LCg.CompEnd.intro F11 N11 ((x', instObj 146 d') :: (d', bufD w t1 t2 t3 lb (B.length : Nat)) :: (lb, PySem.W.listOf xs.toArray eb) :: (48, tabO pt) :: (s₁.heap.objs.size + 1 + 1, oc1) :: (s₁.heap.objs.size + 1, ob) :: (D, PySem.W.listOf vs.toArray eD) :: own) (by (repeat (first | (apply sub_nil) | (apply sub_cons (by k_mem)) | (intro p hp; repeat (first | exact hp | apply sub_tail))))) ?_ trivial ⟨ints_eq (intsAre_append hys (IntsAre.cons _ _ IntsAre.nil)) ?_, rfl⟩
        · simp only [LCg.Off3, and_true]
          exact off9
        · rw [gbit_pbits B hi1, List.take_succ_eq_append_getElem hi1, List.map_append]; rfl
      case fin =>
        clear F7 N7 rgX F1 N1
        rintro bs news ⟨hbs, rfl⟩ Db h11 tk11 F11 N11 off11
        rw [List.take_length] at hbs
        replace N11 : News gB s₁.heap.objs.size h11 ((Db, PySem.W.listOf bs.toArray bs.length) :: (x', instObj 146 d') :: (d', bufD w t1 t2 t3 lb (B.length : Nat)) :: (lb, PySem.W.listOf xs.toArray eb) :: (48, tabO pt) :: (s₁.heap.objs.size + 1 + 1, oc1) :: (s₁.heap.objs.size + 1, ob) :: (D, PySem.W.listOf vs.toArray eD) :: own) := N11
        have off12 := off11
        simp only [LCg.Off1, and_true] at off11
        obtain ⟨f1, f2, f3, f4, f5, f6, f7, hf8⟩ := off11
        have hbl : bs.length = B.length := by rw [hbs.length, List.length_map]
        dsimp only
        k_steps
        refine ⟨?_⟩
        (rename Fr _ _ _ _ => F12; rename News _ _ _ _ => N12; rename IntsAre _ _ => hzs)
        rw [flat_rep] at hzs
        have hpad := pad_ok (List.map b2i B).length
        have hlm : (List.map b2i B).length = B.length := List.length_map _
        have hzl := hzs.length
        rw [List.length_replicate] at hzl
        refine add_lists2 F12 N12 (by repeat (first | exact List.Mem.head _ | refine List.Mem.tail _ ?_)) (by repeat (first | exact List.Mem.head _ | refine List.Mem.tail _ ?_)) (by rw [PySem.sizeLine_eq]; omega) ?_
        intro Dr h13 F13 N13 hlt13
        clear F12 N12
        have N14 : News gB s₁.heap.objs.size h13 ((s₁.heap.objs.size + 1 + 1, oc1) :: (Dr, PySem.W.listOf (bs ++ _).toArray 0) :: (Db, PySem.W.listOf bs.toArray bs.length) :: (x', instObj 146 d') :: (d', bufD w t1 t2 t3 lb (B.length : Nat)) :: (lb, PySem.W.listOf xs.toArray eb) :: (48, tabO pt) :: (s₁.heap.objs.size + 1, ob) :: (D, PySem.W.listOf vs.toArray eD) :: own) := fun p hp => N13 p (by revert p; (repeat (first | (apply sub_nil) | (apply sub_cons (by k_mem)) | (intro p hp; repeat (first | exact hp | apply sub_tail)))))
        have hlt14 : ∀ p ∈ (Db, PySem.W.listOf bs.toArray bs.length) :: (x', instObj 146 d') :: (d', bufD w t1 t2 t3 lb (B.length : Nat)) :: (lb, PySem.W.listOf xs.toArray eb) :: (48, tabO pt) :: (s₁.heap.objs.size + 1 + 1, oc1) :: (s₁.heap.objs.size + 1, ob) :: (D, PySem.W.listOf vs.toArray eD) :: own, @LT.lt Nat _ p.1 Dr := fun p hp => hlt13 p (by revert p; (repeat (first | (apply sub_nil) | (apply sub_cons (by k_mem)) | (intro p hp; repeat (first | exact hp | apply sub_tail)))))
        have hlt15 : @LT.lt Nat _ (s₁.heap.objs.size + 1 + 1) Dr := hlt14 (s₁.heap.objs.size + 1 + 1, oc1) (by repeat (first | exact List.Mem.head _ | refine List.Mem.tail _ ?_))
        clear N13 hlt13
        have hne9 : ∀ rs : List Value, ∀ p ∈ (Dr, PySem.W.listOf rs.toArray 0) :: (Db, PySem.W.listOf bs.toArray bs.length) :: (x', instObj 146 d') :: (d', bufD w t1 t2 t3 lb (B.length : Nat)) :: (lb, PySem.W.listOf xs.toArray eb) :: (48, tabO pt) :: (s₁.heap.objs.size + 1, ob) :: (D, PySem.W.listOf vs.toArray eD) :: own, p.1 ≠ s₁.heap.objs.size + 1 + 1 := by
          intro rs
          (repeat (first | exact tail_ne hown (by omega) | refine List.forall_mem_cons.mpr ⟨by k_ne, ?_⟩))
        k_dflt (refine storeX_C (c := s₁.heap.objs.size + 1 + 1) (o := oc1) F13 N14 (by rfl) (UpdF.head (hne9 _)) D1 ?_ (by rfl) (by rfl))
        intro h15 oc3 F15 N15 hc3
        k_steps
        refine ⟨?_⟩
        have FK := fr_kst (ps := [("bits", .ref Db), ("texts", .ref D), ("version", .int (ver : Nat) tv)]) F15 (by repeat (first | exact List.forall_mem_nil _ | refine List.forall_mem_cons.mpr ⟨by with_unfolding_all rfl, ?_⟩))
        exact ⟨_, Db, Dr, bs, _, _, _, _, oc3, hos, hGb, hbs, intsAre_append hbs hzs, hpad.1, hlm ▸ hpad.2, hc3, off12, hlt14, FK, fun p hp => N15 p (by revert p; (repeat (first | (apply sub_nil) | (apply sub_cons (by k_mem)) | (intro p hp; repeat (first | exact hp | apply sub_tail)))))⟩
    case p2 =>
      clear F1 N1
      rintro s₂ ⟨u2, Db, Dr, bs, rs, eb2, er, pad, oc3, hos2, hG2, hbs, hrs, hpd1, hpd2, hc3, off11, hltr, F1, N1⟩
      (with_reducible show wpAny _ _ _ _ _ _)
      have hw1 : @LT.lt Nat _ Db Dr := hltr (Db, PySem.W.listOf bs.toArray bs.length) (by repeat (first | exact List.Mem.head _ | refine List.Mem.tail _ ?_))
      have hw2 : @LT.lt Nat _ x' Dr := hltr (x', instObj 146 d') (by repeat (first | exact List.Mem.head _ | refine List.Mem.tail _ ?_))
      have hw3 : @LT.lt Nat _ d' Dr := Nat.lt_trans o6 hw2
      have hw4 : @LT.lt Nat _ lb Dr := hltr (lb, PySem.W.listOf xs.toArray eb) (by repeat (first | exact List.Mem.head _ | refine List.Mem.tail _ ?_))
      have hw5 : @LT.lt Nat _ D Dr := hltr (D, PySem.W.listOf vs.toArray eD) (by repeat (first | exact List.Mem.head _ | refine List.Mem.tail _ ?_))
      have hw6 : ∀ p ∈ own, @LT.lt Nat _ p.1 Dr := fun p hp => hltr p (by repeat (first | exact hp | refine List.Mem.tail _ ?_))
      clear hltr
      have off12 := off11
      simp only [LCg.Off1, and_true] at off11
      obtain ⟨f1, f2, f3, f4, f5, f6, f7, hf8⟩ := off11
      obtain ⟨R8, hR8⟩ : ∃ R, B.map b2i ++ List.replicate pad 0 = R := ⟨_, rfl⟩
      have hbit := rest_bit B pad
      obtain ⟨n8, hn8⟩ : ∃ n, B.length + pad = 8 * n := ⟨(B.length + pad) / 8, by omega⟩
      have hl8 : R8.length = 8 * n8 := by rw [← hR8, List.length_append, List.length_map, List.length_replicate]; exact hn8
      have hoct : ∀ q, q < n8 → fig ((R8.drop (8 * q)).take 8) = oct B q := fun q hq => by rw [← hR8]; exact rest_oct B pad q (by omega)
      rw [hR8] at hrs hbit
      clear hR8
      k_with_none
      k_with "my call ref" => ((first | (with_reducible show wpAny _ _ (call (Value.ref 122) _) _ _ _) | (with_reducible show wpAny _ _ (call (Value.ref 174) _) _ _ _) | (with_reducible show wpAny _ _ (call (Value.ref 179) _) _ _ _)) <;> (refine hold ?_))
      k_with "my eval ListComp" => (refine hold ?_)
      k_with "my ne" => (refine hold ?_)
      k_with "my eq" => (refine hold ?_)
      (with_reducible show wpAny _ _ _ _ _ _)
      (try k_fold)
      k_steps
      refine ⟨?_⟩
      (rename Fr _ _ _ _ => F6)
      k_dflt (refine ListComp_S (c := 8) F6 (by with_unfolding_all rfl) (by decide) (by rfl) (by decide) (by rfl) ?_ (by intro _; with_unfolding_all rfl))
      k_with "my CompEnd" => (refine hold ?_)
      k_steps
      (rename Fr _ _ _ _ => F7; rename News _ _ _ _ => N7; rename IsRange _ _ _ _ _ _ _ _ => rgX)
      rw [hl8] at rgX
      refine ⟨_, 0, ((8 * n8 : Nat) : Int), _, _, _, n8, (Dr, PySem.W.listOf rs.toArray er) :: (Db, PySem.W.listOf bs.toArray eb2) :: (x', instObj 146 d') :: (d', bufD w t1 t2 t3 lb (B.length : Nat)) :: (lb, PySem.W.listOf xs.toArray eb) :: (48, tabO pt) :: (s₁.heap.objs.size + 1 + 1, oc3) :: (s₁.heap.objs.size + 1, ob) :: (D, PySem.W.listOf vs.toArray eD) :: own, rfl, rfl, F7, N7, rgX, small8 (by omega), size8 n8, (by rw [PySem.sizeLine_eq]; omega), ?_⟩
      intro g9
      refine comp_ind (fun q ys news => IntsAre ys ((List.range q).map (oct B)) ∧ news = (Dr, PySem.W.listOf rs.toArray er) :: (Db, PySem.W.listOf bs.toArray eb2) :: (x', instObj 146 d') :: (d', bufD w t1 t2 t3 lb (B.length : Nat)) :: (lb, PySem.W.listOf xs.toArray eb) :: (48, tabO pt) :: (s₁.heap.objs.size + 1 + 1, oc3) :: (s₁.heap.objs.size + 1, ob) :: (D, PySem.W.listOf vs.toArray eD) :: own) ?step ?fin n8 0 [] _ (Nat.zero_add _) ⟨IntsAre.nil, rfl⟩
      case step =>
        clear F7 N7 rgX
        (try clear F1)
        (try clear N1)
        rintro i ys news v I oI C oC Dl m₂ h tk E' hi1 ⟨hys, rfl⟩ ⟨tv, rfl⟩ hC hxv F8 N8 off8 ne8
        rw [show (0 : Int) + (i : Int) * 8 = ((8 * i : Nat) : Int) by omega] at hxv
        simp only [LCg.Off3, and_true, List.cons_append, List.nil_append] at off8
        have off9 := off8
        obtain ⟨⟨e01, e02, e03⟩, ⟨e04, e05, e06⟩, ⟨e11, e12, e13⟩, ⟨e21, e22, e23⟩, ⟨e31, e32, e33⟩, ⟨e41, e42, e43⟩, ⟨e51, e52, e53⟩, ⟨e61, e62, e63⟩, ⟨e71, e72, e73⟩, -⟩ := off8
        (try k_fold)
        k_steps
        refine ⟨?_⟩
        ((with_reducible show wpAny _ _ (call (Value.ref 174) _) _ _ _); k_dflt (refine' Spec.use (taken_ok (at0 := 8 * i) (size := 8) hrs ?pa ?pb (by decide) hbit) ([(I, oI), (C, oC), (Dl, LCg.lst ys), (Db, _), (x', _), (d', _), (lb, _), (48, _), (s₁.heap.objs.size + 1 + 1, oc3), (s₁.heap.objs.size + 1, ob), (D, _)] ++ own) ?k1 ?k2 ?k3 ?k4 ?k5 ?kK ?s1 ?s2 ?s3 ?d1 ?d2 ?_); (case k1 => k_asm); (case k2 => k_asm); (case k3 => k_asm); (case k4 => k_asm); (case k5 => k_asm); (case kK => first | exact rfl | assumption); (case s1 => (repeat (first | (apply sub_nil) | (apply sub_cons (by k_mem)) | (intro p hp; repeat (first | exact hp | apply sub_tail))))); (case s2 => (repeat (first | (apply sub_nil) | (apply sub_cons (by k_mem)) | (intro p hp; repeat (first | exact hp | apply sub_tail))))); (case s3 => exact apart_tail (pre := [(I, oI), (C, oC), (Dl, LCg.lst ys), (Db, _), (x', _), (d', _), (lb, _), (48, _), (s₁.heap.objs.size + 1 + 1, oc3), (s₁.heap.objs.size + 1, ob), (D, _)]) (by (repeat' (first | (refine List.forall_mem_cons.mpr ⟨?_, ?_⟩) | exact List.forall_mem_nil _ | k_ne | (intro p hp; exact List.forall_mem_nil _) | assumption))) (by (repeat (first | exact List.forall_mem_nil _ | refine List.forall_mem_cons.mpr ⟨by (first | exact tail_gt (by assumption) | exact tail_ne (by assumption) (by dsimp only; omega)), ?_⟩)))); (case d1 => first | exact room_lt hd (by decide) | ktr_room); (case d2 => first | exact room_lt hu (by decide) | ktr_units))
        case pa => omega
        case pb => omega
        rintro v sel' h10 tk10 ⟨t9, tf9, tt9, n9, rfl, rfl, hlt9⟩ F10 N10 ap10 _
        clear ap10
        simp only [List.cons_append, List.nil_append] at N10
        k_steps
        refine ⟨?_⟩
        (rename Fr _ _ _ _ => F11; rename News _ _ _ _ => N11)
        refine LCg.CompEnd.intro F11 N11 ((Dr, PySem.W.listOf rs.toArray er) :: (Db, PySem.W.listOf bs.toArray eb2) :: (x', instObj 146 d') :: (d', bufD w t1 t2 t3 lb (B.length : Nat)) :: (lb, PySem.W.listOf xs.toArray eb) :: (48, tabO pt) :: (s₁.heap.objs.size + 1 + 1, oc3) :: (s₁.heap.objs.size + 1, ob) :: (D, PySem.W.listOf vs.toArray eD) :: own) (by (repeat (first | (apply sub_nil) | (apply sub_cons (by k_mem)) | (intro p hp; repeat (first | exact hp | apply sub_tail))))) ?_ trivial ⟨ints_eq (intsAre_append hys (IntsAre.cons _ _ IntsAre.nil)) ?_, rfl⟩
        · simp only [LCg.Off3, and_true]
          exact off9
        · rw [hoct i hi1, List.range_succ, List.map_append]; rfl
      case fin =>
        clear F7 N7 rgX
        (try clear F1)
        (try clear N1)
        rintro ys news ⟨hys, rfl⟩ Dc h11 tk11 F11 N11 -
        replace N11 : News gB s₁.heap.objs.size h11 ((Dc, PySem.W.listOf ys.toArray ys.length) :: (Dr, PySem.W.listOf rs.toArray er) :: (Db, PySem.W.listOf bs.toArray eb2) :: (x', instObj 146 d') :: (d', bufD w t1 t2 t3 lb (B.length : Nat)) :: (lb, PySem.W.listOf xs.toArray eb) :: (48, tabO pt) :: (s₁.heap.objs.size + 1 + 1, oc3) :: (s₁.heap.objs.size + 1, ob) :: (D, PySem.W.listOf vs.toArray eD) :: own) := N11
        have hoc : (List.range n8).map (oct B) = pbits [] 0 B := by
          rw [pbits_eq]; unfold octs; rw [show n8 = (B.length + 7) / 8 by omega]
        rw [hoc] at hys
        dsimp only
        refine ke_ne_ints ⟨_, (N11 (lb, PySem.W.listOf xs.toArray eb) (by repeat (first | exact List.Mem.head _ | refine List.Mem.tail _ ?_))).1, rfl, _, rfl⟩ ⟨_, (N11 _ List.mem_cons_self).1, rfl, _, rfl⟩ hxs hys (by ke_room) ?_
        rw [decide_eq_true rfl]
        k_steps
        refine ⟨?_⟩
        have hf9 := off1_all hf8
        ((with_reducible show wpAny _ _ (call (Value.ref 179) _) _ _ _); k_dflt (refine' Spec.use (read_ok (T := T) hbs ?pa ?pb ?pc hH) ([(48, tabO pt), (D, PySem.W.listOf vs.toArray eD)] ++ own) ?k1 ?k2 ?k3 ?k4 ?k5 ?kK ?s1 ?s2 ?s3 ?d1 ?d2 ?_); (case k1 => k_asm); (case k2 => k_asm); (case k3 => k_asm); (case k4 => k_asm); (case k5 => k_asm); (case kK => first | exact rfl | assumption); (case s1 => (repeat (first | (apply sub_nil) | (apply sub_cons (by k_mem)) | (intro p hp; repeat (first | exact hp | apply sub_tail))))); (case s2 => (repeat (first | (apply sub_nil) | (apply sub_cons (by k_mem)) | (intro p hp; repeat (first | exact hp | apply sub_tail))))); (case s3 => exact apart_tail (pre := [(48, tabO pt), (D, PySem.W.listOf vs.toArray eD)]) (by (repeat' (first | (refine List.forall_mem_cons.mpr ⟨?_, ?_⟩) | exact List.forall_mem_nil _ | k_ne | (intro p hp; exact List.forall_mem_nil _) | assumption))) (List.forall_mem_cons.mpr ⟨hf9, List.forall_mem_nil _⟩)); (case d1 => first | exact room_lt hd (by decide) | ktr_room); (case d2 => first | exact room_lt hu (by decide) | ktr_units))
        case pa => rw [List.length_map]; omega
        case pb => rw [hB]
        case pc => omega
        rintro v sel' h12 tk12 ⟨D3, vs3, e3, own3, rfl, rfl, hrd3, hlt3⟩ F12 N12 ap12 kp12
        clear ap12 kp12
        simp only [List.cons_append, List.nil_append] at N12
        k_steps
        refine ⟨?_⟩
        (rename Fr _ _ _ _ => F13; rename News _ _ _ _ => N13)
        refine eq_texts hrd3 hrd N13 (fun p hp => List.mem_cons_of_mem _ (List.mem_cons_of_mem _ (List.mem_append_left _ hp))) (fun p hp => List.mem_cons_of_mem _ (List.mem_cons_of_mem _ (List.mem_append_right _ (List.mem_cons_of_mem _ (List.mem_cons_of_mem _ hp))))) List.mem_cons_self (List.mem_cons_of_mem _ (List.mem_cons_of_mem _ (List.mem_append_right _ (List.mem_cons_of_mem _ List.mem_cons_self)))) (by ktr_units) ?_
        exact ⟨rfl, ⟨_, _, pt, F13, (N13 (48, tabO pt) (List.mem_cons_of_mem _ (List.mem_cons_of_mem _ (List.mem_append_right _ List.mem_cons_self)))).1⟩, hos2, hG2⟩
end
end Mine
theorem PySem.Challenge.cw_bj0058_01_holds : PySem.Challenge.rw_bj0058_01.Holds :=
  Mine.law0
