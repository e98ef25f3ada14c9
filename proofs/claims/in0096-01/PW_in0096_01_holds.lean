import PyProof.Rows.All
import Wide.All
import OpenK.AllK
import Wide.FinOn
import PySem.Challenge.RW_in0096_01
set_option Elab.async false
section
local macro_rules | `(tactic| walk_at "idle 0") => `(tactic| skip)
local macro_rules | `(tactic| walk_at "idle 1") => `(tactic| skip)
local macro_rules | `(tactic| walk_at "idle 2") => `(tactic| skip)
local macro_rules | `(tactic| walk_at "idle 3") => `(tactic| skip)
local macro_rules | `(tactic| walk_at "idle 4") => `(tactic| skip)
local macro_rules | `(tactic| walk_at "idle 5") => `(tactic| skip)
local macro_rules | `(tactic| walk_at "idle 6") => `(tactic| skip)
local macro_rules | `(tactic| walk_at "idle 7") => `(tactic| skip)
local macro_rules | `(tactic| walk_at "idle 8") => `(tactic| skip)
local macro_rules | `(tactic| walk_at "idle 9") => `(tactic| skip)
local macro_rules | `(tactic| walk_at "idle 10") => `(tactic| skip)
local macro_rules | `(tactic| walk_at "idle 11") => `(tactic| skip)
local macro_rules | `(tactic| walk_at "idle 12") => `(tactic| skip)
local macro_rules | `(tactic| walk_at "idle 13") => `(tactic| skip)
local macro_rules | `(tactic| walk_at "idle 14") => `(tactic| skip)
local macro_rules | `(tactic| walk_at "idle 15") => `(tactic| skip)
local macro_rules | `(tactic| walk_at "idle 16") => `(tactic| skip)
local macro_rules | `(tactic| walk_at "idle 17") => `(tactic| skip)
local macro_rules | `(tactic| walk_at "idle 18") => `(tactic| skip)
local macro_rules | `(tactic| walk_at "idle 19") => `(tactic| skip)
local macro_rules | `(tactic| walk_at "idle 20") => `(tactic| skip)
local macro_rules | `(tactic| walk_at "idle 21") => `(tactic| skip)
local macro_rules | `(tactic| walk_at "idle 22") => `(tactic| skip)
local macro_rules | `(tactic| walk_at "idle 23") => `(tactic| skip)
local macro_rules | `(tactic| walk_at "idle 24") => `(tactic| skip)
open PySem PySem.W PyProof.Rows
namespace Mine
set_option maxRecDepth 100000
set_option maxHeartbeats 8000000
def o38 : Obj := { cls := .type "datetime.timedelta", data := .fields #[.int 0 0, .int 0 0, .int 0 0] }
def o39 : Obj := { cls := .type "datetime.timezone", data := .fields #[.ref 38, .none] }
def ZIn (h : Heap) : Prop := h.get? 38 = some o38 ∧ h.get? 39 = some o39
theorem ZIn.keeps {h h' : Heap} (z : ZIn h) (k : ∀ b o, h.get? b = some o → h'.get? b = some o) : ZIn h' := ⟨k _ _ z.1, k _ _ z.2⟩
def zHook : Hook := ⟨Option Obj × Option Obj, fun s => (s.heap.get? 38, s.heap.get? 39), fun _ => (some o38, some o39), fun _ h => ZIn h, fun _ _ e => ⟨congrArg Prod.fst e, congrArg Prod.snd e⟩, fun _ _ _ z k => z.keeps k⟩
def andHook (a b : Hook) : Hook := ⟨a.α × b.α, fun s => (a.obs s, b.obs s), fun w => (a.val w, b.val w), fun w h => a.says w h ∧ b.says w h,
  fun w s e => ⟨a.of w s (congrArg Prod.fst e), b.of w s (congrArg Prod.snd e)⟩, fun w h h' x k => ⟨a.keeps w h h' x.1 k, b.keeps w h h' x.2 k⟩⟩
local macro_rules | `(tactic| o_head ($f $k $a $e)) => `(tactic| o_head (andHook ($f $k $a $e) zHook))
open_top hd for PySem.Challenge.rw_in0096_01
end Mine
end
section
open PySem PySem.W PySem.Calls PyProof.Rows
namespace Mine
set_option maxRecDepth 100000

noncomputable abbrev pV : Program := hd.view_39
noncomputable abbrev lV : List Str := looseW hd.view_39 [Str.ofString "DAYS", Str.ofString "MONTHS", Str.ofString "time2isoz", Str.ofString "time2netscape"]

/-- what a def's call is asked to show, over any frame that calls it -/
abbrev Claim (prog : Program) (w : World) (mean : ExcName → Option Value) (mg mb : Str → Option Value) (f : Addr) (deep : Nat) (vs : List Value) (R : Value → List (Addr × Obj) → Prop) : Prop :=
  ∀ (dp un : Nat) (gd : Option (List Code)) (cn : Str) (cs : Scope) (a : Addr) (ccd : Value) (cl : List (Str × Addr)) (outer : List Env) (A₀ : Around) (base h₀ : Heap) (L : Addr) (m : Str → Option Value) (news : List (Addr × Obj)) (s : Shared) (Q E : Value → Shared → Prop),
    Below A₀ base outer h₀ → Fr h₀ L s.heap m → (hd.heap_39 w.params).In h₀ → ZIn h₀ → News h₀ L s.heap news → Top pV lV mean mg mb h₀ → cs.kind = .function → dp + deep < recursionLimit → un + 10 * deep < cLine →
    (∀ (v : Value) (new : List (Addr × Obj)) (h' : Heap) (tk' : Nat), R v new → Fr h₀ L h' m → News h₀ L h' (new ++ news) → Q v { s with heap := h', toks := tk' }) →
    wpAny (model prog w) (ktrTop dp un gd cn cs L a ccd cl outer) (call (.ref f) vs) Q E s

/-- a def's call that raises ValueError -/
abbrev ClaimX (prog : Program) (w : World) (mean : ExcName → Option Value) (mg mb : Str → Option Value) (f : Addr) (deep : Nat) (vs : List Value) : Prop :=
  ∀ (dp un : Nat) (gd : Option (List Code)) (cn : Str) (cs : Scope) (a : Addr) (ccd : Value) (outer : List Env) (A₀ : Around) (base h₀ : Heap) (L : Addr) (m : Str → Option Value) (news : List (Addr × Obj)) (s : Shared) (Q E : Value → Shared → Prop),
    Below A₀ base outer h₀ → Fr h₀ L s.heap m → (hd.heap_39 w.params).In h₀ → ZIn h₀ → News h₀ L s.heap news → Top pV lV mean mg mb h₀ → cs.kind = .function → dp + deep < recursionLimit → un + 10 * deep < cLine →
    (∀ (e : Addr) (g h' : Heap) (tk' : Nat), Fr h₀ L g m → RaisedSN base g (envOf cn cs L a ccd :: outer) e (.type "ValueError") news h' → g.UpToSlots h' → E (.ref e) { s with heap := h', toks := tk' }) →
    wpAny (model prog w) (ktrTop dp un gd cn cs L a ccd [] outer) (call (.ref f) vs) Q E s

/-- a def's call that may catch: the frames below may have been written to -/
abbrev ClaimK (prog : Program) (w : World) (mean : ExcName → Option Value) (mg mb : Str → Option Value) (f : Addr) (deep : Nat) (vs : List Value) (R : Value → List (Addr × Obj) → Prop) : Prop :=
  ∀ (dp un : Nat) (gd : Option (List Code)) (cn : Str) (cs : Scope) (a : Addr) (ccd : Value) (outer : List Env) (A₀ : Around) (base h₀ : Heap) (L : Addr) (m : Str → Option Value) (news : List (Addr × Obj)) (s : Shared) (Q E : Value → Shared → Prop),
    Below A₀ base outer h₀ → Fr h₀ L s.heap m → (hd.heap_39 w.params).In base → ZIn base → Top pV lV mean mg mb base → KtsDicts (outer.filterMap (·.frame)) h₀ → News h₀ L s.heap news → cs.kind = .function → dp + deep < recursionLimit → un + 10 * deep < cLine →
    (∀ (v : Value) (new : List (Addr × Obj)) (g h' : Heap) (tk' : Nat), R v new → KtsTurn (outer.filterMap (·.frame)) h₀ g → Fr g L h' m → News g L h' (new ++ news) → Below A₀ base outer g → KtsDicts (outer.filterMap (·.frame)) g → Q v { s with heap := h', toks := tk' }) →
    wpAny (model prog w) (ktrTop dp un gd cn cs L a ccd [] outer) (call (.ref f) vs) Q E s

abbrev RStr (T : Str) (v : Value) (new : List (Addr × Obj)) : Prop := new = [] ∧ ∃ t, v = .str T t
abbrev RInt (i : Int) (v : Value) (new : List (Addr × Obj)) : Prop := new = [] ∧ ∃ t, v = .int i t
abbrev RBool (b : Bool) (v : Value) (new : List (Addr × Obj)) : Prop := new = [] ∧ v = .bool b
abbrev tup2 (x y : Str) (t u : Tok) (n : Nat) : Obj := { cls := .type "tuple", data := .seq #[.str x t, .str y u] n }
abbrev RTwo (x y : Str) (v : Value) (new : List (Addr × Obj)) : Prop := ∃ a t u n, v = .ref a ∧ new = [(a, tup2 x y t u n)]
end Mine
end
section
local macro_rules | `(tactic| walk_at "idle 0") => `(tactic| skip)
local macro_rules | `(tactic| walk_at "idle 1") => `(tactic| skip)
local macro_rules | `(tactic| walk_at "idle 2") => `(tactic| skip)
local macro_rules | `(tactic| walk_at "idle 3") => `(tactic| skip)
local macro_rules | `(tactic| walk_at "idle 4") => `(tactic| skip)
local macro_rules | `(tactic| walk_at "idle 5") => `(tactic| skip)
local macro_rules | `(tactic| walk_at "idle 6") => `(tactic| skip)
local macro_rules | `(tactic| walk_at "idle 7") => `(tactic| skip)
local macro_rules | `(tactic| walk_at "idle 8") => `(tactic| skip)
local macro_rules | `(tactic| walk_at "idle 9") => `(tactic| skip)
local macro_rules | `(tactic| walk_at "idle 10") => `(tactic| skip)
local macro_rules | `(tactic| walk_at "idle 11") => `(tactic| skip)
local macro_rules | `(tactic| walk_at "idle 12") => `(tactic| skip)
local macro_rules | `(tactic| walk_at "idle 13") => `(tactic| skip)
local macro_rules | `(tactic| walk_at "idle 14") => `(tactic| skip)
local macro_rules | `(tactic| walk_at "idle 15") => `(tactic| skip)
local macro_rules | `(tactic| walk_at "idle 16") => `(tactic| skip)
local macro_rules | `(tactic| walk_at "idle 17") => `(tactic| skip)
local macro_rules | `(tactic| walk_at "idle 18") => `(tactic| skip)
local macro_rules | `(tactic| walk_at "idle 19") => `(tactic| skip)
local macro_rules | `(tactic| walk_at "idle 20") => `(tactic| skip)
local macro_rules | `(tactic| walk_at "idle 21") => `(tactic| skip)
local macro_rules | `(tactic| walk_at "idle 22") => `(tactic| skip)
local macro_rules | `(tactic| walk_at "idle 23") => `(tactic| skip)
local macro_rules | `(tactic| walk_at "idle 24") => `(tactic| skip)
open PySem PySem.W PySem.Calls PyProof.Rows
namespace Mine
set_option maxRecDepth 100000
section
variable (prog : Program) (w : World) (A : Around) (env : Env) (target : Expr) (body : List Stmt) (Q : Flow → Shared → Prop) (E : Value → Shared → Prop) (I : Addr) (keep : List (Addr × Obj)) (s : Shared)
/-- what is left of a loop over known items; the ground may change from turn to turn -/
def SeqEnd (I : Addr) (io : Obj) (R : Heap → (Str → Option Value) → Prop) (s₃ : Shared) : Prop :=
  ∃ g' m' h' tk, s₃ = { s with heap := h', toks := tk } ∧ Fr g' env.locals h' m' ∧ News g' env.locals h' ((I, io) :: keep) ∧ R g' m'
def SeqPost (I : Addr) (io : Obj) (R : Heap → (Str → Option Value) → Prop) (f : Flow) (s₃ : Shared) : Prop :=
  match f with
  | .ret v => Q (.ret v) s₃
  | .brk => Q .next s₃
  | _ => SeqEnd env keep s I io R s₃
def SeqRest : List (Tok → Value) → Heap → (Str → Option Value) → Prop
  | [], g, m => ∀ h' tk, Fr g env.locals h' m → News g env.locals h' keep → Q .next { s with heap := h', toks := tk }
  | f :: r, g, m => ∀ t io h₁ tk₁, Fr g env.locals h₁ m → News g env.locals h₁ ((I, io) :: keep) →
      wpAny (model prog w) A (assign target env (f t)) (fun _ s₂ => wpAny (model prog w) A (execs body env) (SeqPost env Q keep s I io (SeqRest r)) E s₂) E { s with heap := h₁, toks := tk₁ }
end
section
variable {prog : Program} {w : World} {A : Around} {env : Env} {target : Expr} {body : List Stmt} {Q : Flow → Shared → Prop} {E : Value → Shared → Prop} {s : Shared} {g : Heap} {m : Str → Option Value} {news : List (Addr × Obj)}
structure SeqW (prog : Program) (w : World) (A : Around) (env : Env) (target : Expr) (I : Addr) (keep : List (Addr × Obj)) (xs : List (Tok → Value)) (It : Nat → Obj → Prop) : Prop where
  item : ∀ i g m io f (s : Shared) (Q : Option Value → Shared → Prop) (E : Value → Shared → Prop), xs[i]? = some f → It i io → Fr g env.locals s.heap m → News g env.locals s.heap ((I, io) :: keep) →
    (∀ t h' tk io', It (i + 1) io' → h'.get? I = some io' → (∀ b o, b ≠ I → s.heap.get? b = some o → h'.get? b = some o) → Q (some (f t)) { s with heap := h', toks := tk }) → wpAny (model prog w) A (pyNext (.ref I)) Q E s
  done : ∀ g m io (s : Shared) (Q : Option Value → Shared → Prop) (E : Value → Shared → Prop), It xs.length io → Fr g env.locals s.heap m → News g env.locals s.heap ((I, io) :: keep) →
    (∀ h' tk, (∀ b o, b ≠ I → s.heap.get? b = some o → h'.get? b = some o) → Q none { s with heap := h', toks := tk }) → wpAny (model prog w) A (pyNext (.ref I)) Q E s
  go : ∀ i io v (s : Shared) (Q : Unit → Shared → Prop) (E : Value → Shared → Prop), It i io → s.heap.get? I = some io → Q () s → wpAny (model prog w) A (letOwnedTupleGo target (.ref I) v) Q E s
  apart : ∀ p ∈ keep, p.1 ≠ I
theorem SeqW.ofWalks {I : Addr} {keep : List (Addr × Obj)} {fp : List Addr} {n : Nat} {P : Nat → Value → Prop} {St : Nat → Heap → Prop} {xs : List (Tok → Value)} {It : Nat → Obj → Prop} (W : Walks prog w A I fp [I] n P St) (hn : n = xs.length)
    (hP : ∀ i v f, P i v → xs[i]? = some f → ∃ t, v = f t) (toSt : ∀ i g m h io, It i io → Fr g env.locals h m → News g env.locals h ((I, io) :: keep) → St i h) (ofSt : ∀ i h, St i h → ∃ io, h.get? I = some io ∧ It i io)
    (hgo : ∀ i io v (s : Shared) (Q : Unit → Shared → Prop) (E : Value → Shared → Prop), It i io → s.heap.get? I = some io → Q () s → wpAny (model prog w) A (letOwnedTupleGo target (.ref I) v) Q E s) (hI : ∀ p ∈ keep, p.1 ≠ I) :
    SeqW prog w A env target I keep xs It where
  item := fun i g m io f s Q E hf hi F N hQ => by
    have hlt : i < n := by
      rw [hn]
      exact (List.getElem?_eq_some_iff.mp hf).1
    refine W.item i s Q E hlt (toSt i g m _ io hi F N) fun v h' tk hp st hk => ?_
    obtain ⟨t, rfl⟩ := hP i v f hp hf
    obtain ⟨io', e, hi'⟩ := ofSt _ _ st
    exact hQ t h' tk io' hi' e fun b o hb => hk b o (by simpa using hb)
  done := fun g m io s Q E hi F N hQ => W.done s Q E (hn ▸ toSt _ g m _ io hi F N) fun h' tk hk => hQ h' tk fun b o hb => hk b o (by simpa using hb)
  go := hgo
  apart := hI
theorem seq_next {I : Addr} {keep : List (Addr × Obj)} {h h' : Heap} {io : Obj} (F : Fr g env.locals h m) (N : News g env.locals h ((I, io) :: keep)) (hI : ∀ p ∈ keep, p.1 ≠ I) (hk : ∀ b o, b ≠ I → h.get? b = some o → h'.get? b = some o) :
    Fr g env.locals h' m ∧ News g env.locals h' keep := by
  have n0 := N (I, io) (List.mem_cons_self ..)
  refine ⟨⟨F.ns.at' fun o e => hk _ o (fun x => n0.2.1 x.symm) e, fun b o e => hk b o (fun x => ?_) (F.keep b o e), F.above⟩, fun p hp => ⟨hk _ _ (hI p hp) (N p (List.mem_cons_of_mem _ hp)).1, (N p (List.mem_cons_of_mem _ hp)).2⟩⟩
  subst x
  have e2 := n0.2.2
  dsimp only at e2
  rw [e] at e2
  exact nomatch e2
theorem seq_loop {R : Result → Shared → Prop} {I : Addr} {keep : List (Addr × Obj)} {xs : List (Tok → Value)} {It : Nat → Obj → Prop} {io : Obj} (W : SeqW prog w A env target I keep xs It)
    (hi : It 0 io) (F : Fr g env.locals s.heap m) (N : News g env.locals s.heap ((I, io) :: keep))
    (rest : SeqRest prog w A env target body (fun f s' => R (.ok f) s') (notedBy (model prog w) A env fun e s' => R (.error e) s') I keep s xs g m) :
    codeAny (model prog w) A (.forLoop target (.ref I) body [] env) R s := by
  refine codeAny_forLoop_any
    (fun k s' => ∃ g m h' tk io i, s' = { s with heap := h', toks := tk } ∧ It i io ∧ Fr g env.locals h' m ∧ News g env.locals h' ((I, io) :: keep) ∧ SeqRest prog w A env target body (fun f s' => R (.ok f) s') (notedBy (model prog w) A env fun e s' => R (.error e) s') I keep s (xs.drop i) g m ∧ i ≤ xs.length ∧ k = xs.length - i) ?_ (xs.length)
    ⟨g, m, s.heap, s.toks, io, 0, rfl, hi, F, N, rest, Nat.zero_le _, rfl⟩
  rintro k s' ⟨g, m, h', tk, io, i, rfl, hi, F, N, rest, hle, rfl⟩
  by_cases hlt : i < xs.length
  · have hx : xs[i]? = some xs[i] := List.getElem?_eq_getElem hlt
    rw [List.drop_eq_getElem_cons hlt] at rest
    refine W.item i g m io _ _ _ _ hx hi F N fun t h₁ tk₁ io' hi' e' hk => ?_
    obtain ⟨F₁, N₁⟩ := seq_next F N W.apart hk
    have n0 := N (I, io) (List.mem_cons_self ..)
    have N₂ : News g env.locals h₁ ((I, io') :: keep) := fun p hp => by
      rcases List.mem_cons.mp hp with rfl | hp
      · exact ⟨e', n0.2⟩
      · exact N₁ p hp
    refine W.go (i + 1) io' _ _ _ _ hi' e' ?_
    refine wpAny_mono (rest t io' h₁ tk₁ F₁ N₂) (fun _ s₂ h₂' => wpAny_mono h₂' (fun f s₃ h₃ => ?_) fun _ _ e => e) fun _ _ e => e
    cases f with
    | ret v => exact h₃
    | brk => exact h₃
    | cont =>
      obtain ⟨g', m', h₃', tk₃, rfl, F₃, N₃, r₃⟩ := h₃
      exact ⟨xs.length - (i + 1), by omega, g', m', h₃', tk₃, io', i + 1, rfl, hi', F₃, N₃, r₃, hlt, rfl⟩
    | next =>
      obtain ⟨g', m', h₃', tk₃, rfl, F₃, N₃, r₃⟩ := h₃
      exact ⟨xs.length - (i + 1), by omega, g', m', h₃', tk₃, io', i + 1, rfl, hi', F₃, N₃, r₃, hlt, rfl⟩
  · have hin : i = xs.length := by omega
    subst hin
    rw [List.drop_length] at rest
    refine W.done g m io _ _ _ hi F N fun h₁ tk₁ hk₁ => wpAny_execs_nil ?_
    obtain ⟨F₁, N₁⟩ := seq_next F N W.apart hk₁
    exact rest h₁ tk₁ F₁ N₁
def SeqAt (prog : Program) (w : World) (A : Around) (env : Env) (target : Expr) (body : List Stmt) (Q : Flow → Shared → Prop) (E : Value → Shared → Prop) (it : Value) (s₂ : Shared) : Prop :=
  ∃ (I : Addr) (keep : List (Addr × Obj)) (xs : List (Tok → Value)) (It : Nat → Obj → Prop) (io : Obj) (g : Heap) (m : Str → Option Value),
    it = .ref I ∧ SeqW prog w A env target I keep xs It ∧ It 0 io ∧ Fr g env.locals s₂.heap m ∧ News g env.locals s₂.heap ((I, io) :: keep) ∧ SeqRest prog w A env target body Q E I keep s₂ xs g m
theorem SeqRest.mono {Q Q' : Flow → Shared → Prop} {E E' : Value → Shared → Prop} {I : Addr} {keep : List (Addr × Obj)} (hQ : ∀ f s, Q f s → Q' f s) (hE : ∀ e s, E e s → E' e s) :
    ∀ (xs : List (Tok → Value)) (g : Heap) (m : Str → Option Value), SeqRest prog w A env target body Q E I keep s xs g m → SeqRest prog w A env target body Q' E' I keep s xs g m
  | [], g, m, h => fun h' tk F N => hQ _ _ (h h' tk F N)
  | f :: r, g, m, h => fun t io h₁ tk₁ F N => wpAny_mono (h t io h₁ tk₁ F N) (fun _ s₂ h₂ => wpAny_mono h₂ (fun fl s₃ h₃ => by
      cases fl with
      | ret v => exact hQ _ _ h₃
      | brk => exact hQ _ _ h₃
      | cont =>
        obtain ⟨g', m', h₃', tk₃, e, F₃, N₃, r₃⟩ := h₃
        exact ⟨g', m', h₃', tk₃, e, F₃, N₃, SeqRest.mono hQ hE r g' m' r₃⟩
      | next =>
        obtain ⟨g', m', h₃', tk₃, e, F₃, N₃, r₃⟩ := h₃
        exact ⟨g', m', h₃', tk₃, e, F₃, N₃, SeqRest.mono hQ hE r g' m' r₃⟩) hE) hE
theorem For_seq {iter : Expr} {pos : Pos}
    (h : wpAny (model prog w) A (eval iter env) (fun xv s₁ => wpAny (model prog w) A (pyIter xv) (fun it s₂ => SeqAt prog w A env target body Q E it s₂) E s₁) E s)
    (hs : ∀ x, foldedSetIterable iter env x = pure x := by intro _; rfl)
    (hE : PassesOwn (model prog w) A env E := by passes_own) :
    wpAny (model prog w) A (exec (.For target iter body [] pos) env) Q E s := by
  refine wpAny_For (wpAny_mono h (fun xv s₁ h₁ => wpAny_mono h₁ (fun it s₂ h₂ => ?_) fun _ _ e => e) fun _ _ e => e) hs
  obtain ⟨I, keep, xs, It, io, g, m, rfl, W, hi, F, N, rest⟩ := h₂
  exact seq_loop (R := fun r s' => match r with | .ok f => Q f s' | .error e => cameBackBy (model prog w) A env E e s') W hi F N (SeqRest.mono (fun _ _ x => x) hE _ _ _ rest)
theorem iter_tupSeq {ax : Addr} {lo : Obj} {vs : List Value} {n : Nat}
    (hh : A.handled = none) (F : Fr g env.locals s.heap m) (N : News g env.locals s.heap news) (hm : (ax, lo) ∈ news) (hc : lo.cls = .type "tuple") (hd : lo.data = .seq vs.toArray n)
    (rest₀ : ∀ (I : Addr) (h' : Heap), (∀ p ∈ news, p.1 < I) → SeqRest prog w A env target body Q E I news { s with heap := h' } (vs.map fun v _ => v) g m) :
    wpAny (model prog w) A (pyIter (.ref ax)) (fun it s₂ => SeqAt prog w A env target body Q E it s₂) E s := by
  have hax := N _ hm
  have hl : s.heap.IsTuple ax vs.toArray := ⟨lo, hax.1, hc, n, hd⟩
  have hlt : ax < s.heap.objs.size := Heap.lt_size hax.1
  have hne : ax ≠ s.heap.objs.size := Nat.ne_of_lt hlt
  have ha : ∀ p ∈ news, p.1 < s.heap.objs.size := fun p hp => Heap.lt_size (N p hp).1
  refine wpAny_pyIter_tuple hl ?_
  refine ⟨s.heap.objs.size, news, _, fun i o => o.cls = .type "tuple_iterator" ∧ o.data = .fields #[.ref ax, .int i 0], _, g, m, rfl, SeqW.ofWalks (Walks.tuple hh s.heap.objs.size ax hne vs.toArray) (by simp) (fun i v f hp hf => ?_) (fun i g m h io hi F N => ?_) (fun i h st => ?_) (fun i io v s Q E hi e q => letGo_tupleiter ⟨io, e, hi⟩ q) (fun p hp => Nat.ne_of_lt (ha p hp)), ⟨rfl, rfl⟩, F.push _, N.push F _, rest₀ _ _ ha⟩
  · have hp' : vs.toArray[i]? = some v := hp
    have hp2 : vs[i]? = some v := by simpa using hp'
    rw [List.getElem?_map, hp2] at hf
    exact ⟨0, by rw [← Option.some.inj hf]⟩
  · exact ⟨⟨io, (N _ (List.mem_cons_self ..)).1, hi⟩, ⟨lo, (N _ (List.mem_cons_of_mem _ hm)).1, hc, n, hd⟩⟩
  · obtain ⟨⟨io, e, hi⟩, _⟩ := st
    exact ⟨io, e, hi⟩
theorem iter_listSeq {ax : Addr} {lo : Obj} {vs : List Value} {n : Nat}
    (hh : A.handled = none) (F : Fr g env.locals s.heap m) (N : News g env.locals s.heap news) (hm : (ax, lo) ∈ news) (hc : lo.cls = .type "list") (hd : lo.data = .seq vs.toArray n)
    (rest₀ : ∀ (I : Addr) (h' : Heap), (∀ p ∈ news, p.1 < I) → SeqRest prog w A env target body Q E I news { s with heap := h' } (vs.map fun v _ => v) g m) :
    wpAny (model prog w) A (pyIter (.ref ax)) (fun it s₂ => SeqAt prog w A env target body Q E it s₂) E s := by
  have hax := N _ hm
  have hl : s.heap.IsList ax vs.toArray := ⟨lo, hax.1, hc, n, hd⟩
  have hlt : ax < s.heap.objs.size := Heap.lt_size hax.1
  have hne : ax ≠ s.heap.objs.size := Nat.ne_of_lt hlt
  have ha : ∀ p ∈ news, p.1 < s.heap.objs.size := fun p hp => Heap.lt_size (N p hp).1
  refine wpAny_pyIter_list hl ?_
  refine ⟨s.heap.objs.size, news, _, fun i o => o.cls = .type "list_iterator" ∧ o.data = .fields #[.ref ax, .int i 0], _, g, m, rfl, SeqW.ofWalks (Walks.list hh s.heap.objs.size ax hne vs.toArray) (by simp) (fun i v f hp hf => ?_) (fun i g m h io hi F N => ?_) (fun i h st => ?_) (fun i io v s Q E hi e q => letGo_listiter ⟨io, e, hi⟩ q) (fun p hp => Nat.ne_of_lt (ha p hp)), ⟨rfl, rfl⟩, F.push _, N.push F _, rest₀ _ _ ha⟩
  · have hp' : vs.toArray[i]? = some v := hp
    have hp2 : vs[i]? = some v := by simpa using hp'
    rw [List.getElem?_map, hp2] at hf
    exact ⟨0, by rw [← Option.some.inj hf]⟩
  · exact ⟨⟨io, (N _ (List.mem_cons_self ..)).1, hi⟩, ⟨lo, (N _ (List.mem_cons_of_mem _ hm)).1, hc, n, hd⟩⟩
  · obtain ⟨⟨io, e, hi⟩, _⟩ := st
    exact ⟨io, e, hi⟩
theorem SeqRest.val {I : Addr} {keep : List (Addr × Obj)} {v : Value} {vs : List Value}
    (h : ∀ io h₁ tk₁, Fr g env.locals h₁ m → News g env.locals h₁ ((I, io) :: keep) → wpAny (model prog w) A (assign target env v) (fun _ s₂ => wpAny (model prog w) A (execs body env) (SeqPost env Q keep s I io (SeqRest prog w A env target body Q E I keep s (vs.map fun v _ => v))) E s₂) E { s with heap := h₁, toks := tk₁ }) :
    SeqRest prog w A env target body Q E I keep s ((v :: vs).map fun v _ => v) g m := fun _ io h₁ tk₁ F N => h io h₁ tk₁ F N
theorem SeqRest.zero {I : Addr} {keep : List (Addr × Obj)} (h : ∀ h' tk, Fr g env.locals h' m → News g env.locals h' keep → Q .next { s with heap := h', toks := tk }) :
    SeqRest prog w A env target body Q E I keep s (([] : List Value).map fun v _ => v) g m := h
theorem SeqEnd.intro {I : Addr} {io : Obj} {keep : List (Addr × Obj)} {R : Heap → (Str → Option Value) → Prop} {g' h' : Heap} {m' : Str → Option Value} {tk : Nat} (F : Fr g' env.locals h' m') (N : News g' env.locals h' news) (sub : ∀ p ∈ (I, io) :: keep, p ∈ news) (r : R g' m') :
    SeqEnd env keep s I io R { s with heap := h', toks := tk } := ⟨g', m', h', tk, rfl, F, fun p hp => N p (sub p hp), r⟩
end
end Mine
end
section
open PySem PySem.W PySem.Calls PyProof.Rows
namespace Mine
set_option maxRecDepth 100000
section
variable {prog : Program} {w : World} {A : Around} {env : Env} {target : Expr} {body : List Stmt} {Q : Flow → Shared → Prop} {E : Value → Shared → Prop} {s : Shared} {I : Addr} {keep : List (Addr × Obj)}
theorem seq_all {P : Heap → (Str → Option Value) → Prop} {V : Value → Prop}
    (turn : ∀ v g m io h₁ tk₁, V v → P g m → Fr g env.locals h₁ m → News g env.locals h₁ ((I, io) :: keep) → wpAny (model prog w) A (assign target env v) (fun _ s₂ => wpAny (model prog w) A (execs body env) (SeqPost env Q keep s I io P) E s₂) E { s with heap := h₁, toks := tk₁ })
    (done : ∀ g m h' tk, P g m → Fr g env.locals h' m → News g env.locals h' keep → Q .next { s with heap := h', toks := tk }) :
    ∀ (vs : List Value) (g : Heap) (m : Str → Option Value), (∀ v ∈ vs, V v) → P g m → SeqRest prog w A env target body Q E I keep s (vs.map fun v _ => v) g m
  | [], g, m, _, p => fun h' tk F N => done g m h' tk p F N
  | v :: r, g, m, hv, p => fun _ io h₁ tk₁ F N => wpAny_mono (turn v g m io h₁ tk₁ (hv v (List.mem_cons_self ..)) p F N) (fun _ s₂ h₂ => wpAny_mono h₂ (fun fl s₃ h₃ => by
      cases fl with
      | ret v => exact h₃
      | brk => exact h₃
      | cont =>
        obtain ⟨g', m', h₃', tk₃, e, F₃, N₃, p₃⟩ := h₃
        exact ⟨g', m', h₃', tk₃, e, F₃, N₃, seq_all turn done r g' m' (fun v hv' => hv v (List.mem_cons_of_mem _ hv')) p₃⟩
      | next =>
        obtain ⟨g', m', h₃', tk₃, e, F₃, N₃, p₃⟩ := h₃
        exact ⟨g', m', h₃', tk₃, e, F₃, N₃, seq_all turn done r g' m' (fun v hv' => hv v (List.mem_cons_of_mem _ hv')) p₃⟩) fun _ _ e => e) fun _ _ e => e
/-- what a turn keeps: the frames below, and the map up to the names that the turn stores -/
def Keeps (fs : List Addr) (G0 : Heap) (A₀ : Around) (base : Heap) (outer : List Env) (C : (Str → Option Value) → Prop) (g : Heap) (m : Str → Option Value) : Prop :=
  KtsTurn fs G0 g ∧ Below A₀ base outer g ∧ KtsDicts fs g ∧ C m
def ch1 (n1 : Str) (m0 : Str → Option Value) (m : Str → Option Value) : Prop := ∃ o1 : Option Value, m = fun y => if y = n1 then o1 else m0 y
def ch5 (n1 n2 n3 n4 n5 : Str) (m0 : Str → Option Value) (m : Str → Option Value) : Prop :=
  ∃ o1 o2 o3 o4 o5 : Option Value, m = fun y => if y = n1 then o1 else if y = n2 then o2 else if y = n3 then o3 else if y = n4 then o4 else if y = n5 then o5 else m0 y
theorem ch1_self {n1 : Str} {m0 : Str → Option Value} : ch1 n1 m0 m0 := ⟨m0 n1, funext fun y => by split <;> simp_all⟩
theorem ch5_self {n1 n2 n3 n4 n5 : Str} {m0 : Str → Option Value} : ch5 n1 n2 n3 n4 n5 m0 m0 := ⟨m0 n1, m0 n2, m0 n3, m0 n4, m0 n5, funext fun y => by (repeat' split) <;> simp_all⟩
theorem ch1_over {n1 : Str} {m0 : Str → Option Value} {a1 o1 : Option Value} : ch1 n1 m0 (fun y => if y = n1 then a1 else if y = n1 then o1 else m0 y) := ⟨a1, funext fun y => by (repeat' split) <;> simp_all⟩
theorem ch5_over {n1 n2 n3 n4 n5 : Str} {m0 : Str → Option Value} {a1 a2 a3 a4 a5 o1 o2 o3 o4 o5 : Option Value} :
    ch5 n1 n2 n3 n4 n5 m0 (fun y => if y = n1 then a1 else if y = n2 then a2 else if y = n3 then a3 else if y = n4 then a4 else if y = n5 then a5 else if y = n1 then o1 else if y = n2 then o2 else if y = n3 then o3 else if y = n4 then o4 else if y = n5 then o5 else m0 y) :=
  ⟨a1, a2, a3, a4, a5, funext fun y => by (repeat' split) <;> simp_all⟩
theorem seq_k1 (n1 : Str) {fs : List Addr} {G0 : Heap} {A₀ : Around} {base : Heap} {outer : List Env} {m0 : Str → Option Value} (V : Value → Prop) {vs : List Value} (hv : ∀ v ∈ vs, V v)
    (B : Below A₀ base outer G0) (D : KtsDicts fs G0)
    (turn : ∀ v g o1 io h₁ tk₁, V v → KtsTurn fs G0 g → Below A₀ base outer g → KtsDicts fs g → Fr g env.locals h₁ (fun y => if y = n1 then o1 else m0 y) → News g env.locals h₁ ((I, io) :: keep) →
      wpAny (model prog w) A (assign target env v) (fun _ s₂ => wpAny (model prog w) A (execs body env) (SeqPost env Q keep s I io (Keeps fs G0 A₀ base outer (ch1 n1 m0))) E s₂) E { s with heap := h₁, toks := tk₁ })
    (done : ∀ g m h' tk, KtsTurn fs G0 g → Below A₀ base outer g → KtsDicts fs g → Fr g env.locals h' m → News g env.locals h' keep → Q .next { s with heap := h', toks := tk }) :
    SeqRest prog w A env target body Q E I keep s (vs.map fun v _ => v) G0 m0 :=
  seq_all (P := Keeps fs G0 A₀ base outer (ch1 n1 m0)) (V := V) (fun v g m io h₁ tk₁ hV p F N => by
    obtain ⟨t, b, d, o1, rfl⟩ := p
    exact turn v g o1 io h₁ tk₁ hV t b d F N) (fun g m h' tk p F N => done g m h' tk p.1 p.2.1 p.2.2.1 F N) vs G0 m0 hv ⟨KtsTurn.refl, B, D, ch1_self⟩
theorem seq_k5 (n1 n2 n3 n4 n5 : Str) {fs : List Addr} {G0 : Heap} {A₀ : Around} {base : Heap} {outer : List Env} {m0 : Str → Option Value} (V : Value → Prop) {vs : List Value} (hv : ∀ v ∈ vs, V v)
    (B : Below A₀ base outer G0) (D : KtsDicts fs G0)
    (turn : ∀ v g o1 o2 o3 o4 o5 io h₁ tk₁, V v → KtsTurn fs G0 g → Below A₀ base outer g → KtsDicts fs g → Fr g env.locals h₁ (fun y => if y = n1 then o1 else if y = n2 then o2 else if y = n3 then o3 else if y = n4 then o4 else if y = n5 then o5 else m0 y) → News g env.locals h₁ ((I, io) :: keep) →
      wpAny (model prog w) A (assign target env v) (fun _ s₂ => wpAny (model prog w) A (execs body env) (SeqPost env Q keep s I io (Keeps fs G0 A₀ base outer (ch5 n1 n2 n3 n4 n5 m0))) E s₂) E { s with heap := h₁, toks := tk₁ })
    (done : ∀ g m h' tk, KtsTurn fs G0 g → Below A₀ base outer g → KtsDicts fs g → Fr g env.locals h' m → News g env.locals h' keep → Q .next { s with heap := h', toks := tk }) :
    SeqRest prog w A env target body Q E I keep s (vs.map fun v _ => v) G0 m0 :=
  seq_all (P := Keeps fs G0 A₀ base outer (ch5 n1 n2 n3 n4 n5 m0)) (V := V) (fun v g m io h₁ tk₁ hV p F N => by
    obtain ⟨t, b, d, o1, o2, o3, o4, o5, rfl⟩ := p
    exact turn v g o1 o2 o3 o4 o5 io h₁ tk₁ hV t b d F N) (fun g m h' tk p F N => done g m h' tk p.1 p.2.1 p.2.2.1 F N) vs G0 m0 hv ⟨KtsTurn.refl, B, D, ch5_self⟩
def IsDay (keep : List (Addr × Obj)) (Dy : Int → Int → Int → Int → Prop) (v : Value) : Prop :=
  ∃ (a : Addr) (y mo d c : Int) (t1 t2 t3 t4 : Tok) (o : Obj), v = .ref a ∧ (a, o) ∈ keep ∧ o = { cls := .type "tuple", data := .seq #[.int y t1, .int mo t2, .int d t3, .int c t4] } ∧ Dy y mo d c
theorem seq_day (n1 n2 n3 n4 n5 : Str) {fs : List Addr} {G0 : Heap} {A₀ : Around} {base : Heap} {outer : List Env} {m0 : Str → Option Value} (Dy : Int → Int → Int → Int → Prop) {vs : List Value} (hv : ∀ v ∈ vs, IsDay keep Dy v)
    (B : Below A₀ base outer G0) (D : KtsDicts fs G0)
    (turn : ∀ v g o1 o2 o3 o4 o5 io h₁ tk₁, IsDay keep Dy v → KtsTurn fs G0 g → Below A₀ base outer g → KtsDicts fs g → Fr g env.locals h₁ (fun y => if y = n1 then o1 else if y = n2 then o2 else if y = n3 then o3 else if y = n4 then o4 else if y = n5 then o5 else m0 y) → News g env.locals h₁ ((I, io) :: keep) →
      wpAny (model prog w) A (assign target env v) (fun _ s₂ => wpAny (model prog w) A (execs body env) (SeqPost env Q keep s I io (Keeps fs G0 A₀ base outer (ch5 n1 n2 n3 n4 n5 m0))) E s₂) E { s with heap := h₁, toks := tk₁ })
    (done : ∀ g m h' tk, KtsTurn fs G0 g → Below A₀ base outer g → KtsDicts fs g → Fr g env.locals h' m → News g env.locals h' keep → Q .next { s with heap := h', toks := tk }) :
    SeqRest prog w A env target body Q E I keep s (vs.map fun v _ => v) G0 m0 :=
  seq_k5 n1 n2 n3 n4 n5 (IsDay keep Dy) hv B D turn done
end
end Mine
end
section
local macro_rules | `(tactic| walk_at "idle 0") => `(tactic| skip)
local macro_rules | `(tactic| walk_at "idle 1") => `(tactic| skip)
local macro_rules | `(tactic| walk_at "idle 2") => `(tactic| skip)
local macro_rules | `(tactic| walk_at "idle 3") => `(tactic| skip)
local macro_rules | `(tactic| walk_at "idle 4") => `(tactic| skip)
local macro_rules | `(tactic| walk_at "idle 5") => `(tactic| skip)
local macro_rules | `(tactic| walk_at "idle 6") => `(tactic| skip)
local macro_rules | `(tactic| walk_at "idle 7") => `(tactic| skip)
local macro_rules | `(tactic| walk_at "idle 8") => `(tactic| skip)
local macro_rules | `(tactic| walk_at "idle 9") => `(tactic| skip)
local macro_rules | `(tactic| walk_at "idle 10") => `(tactic| skip)
local macro_rules | `(tactic| walk_at "idle 11") => `(tactic| skip)
local macro_rules | `(tactic| walk_at "idle 12") => `(tactic| skip)
local macro_rules | `(tactic| walk_at "idle 13") => `(tactic| skip)
local macro_rules | `(tactic| walk_at "idle 14") => `(tactic| skip)
local macro_rules | `(tactic| walk_at "idle 15") => `(tactic| skip)
local macro_rules | `(tactic| walk_at "idle 16") => `(tactic| skip)
local macro_rules | `(tactic| walk_at "idle 17") => `(tactic| skip)
local macro_rules | `(tactic| walk_at "idle 18") => `(tactic| skip)
local macro_rules | `(tactic| walk_at "idle 19") => `(tactic| skip)
local macro_rules | `(tactic| walk_at "idle 20") => `(tactic| skip)
local macro_rules | `(tactic| walk_at "idle 21") => `(tactic| skip)
local macro_rules | `(tactic| walk_at "idle 22") => `(tactic| skip)
local macro_rules | `(tactic| walk_at "idle 23") => `(tactic| skip)
local macro_rules | `(tactic| walk_at "idle 24") => `(tactic| skip)
open PySem PySem.W PySem.Calls PyProof.Rows
namespace Mine
set_option maxRecDepth 100000
section
variable {prog : Program} {w : World} {A : Around} {env : Env} {target : Expr} {body : List Stmt} {Q : Flow → Shared → Prop} {E : Value → Shared → Prop} {s : Shared} {I : Addr} {keep : List (Addr × Obj)}
theorem seq_allT {P : Heap → (Str → Option Value) → Prop} {V : Value → Prop}
    (turn : ∀ v g m io h₁ tk₁, V v → P g m → Fr g env.locals h₁ m → News g env.locals h₁ ((I, io) :: keep) → wpAny (model prog w) A (assign target env v) (fun _ s₂ => wpAny (model prog w) A (execs body env) (SeqPost env Q keep s I io P) E s₂) E { s with heap := h₁, toks := tk₁ })
    (done : ∀ g m h' tk, P g m → Fr g env.locals h' m → News g env.locals h' keep → Q .next { s with heap := h', toks := tk }) :
    ∀ (xs : List (Tok → Value)) (g : Heap) (m : Str → Option Value), (∀ f ∈ xs, ∀ t, V (f t)) → P g m → SeqRest prog w A env target body Q E I keep s xs g m
  | [], g, m, _, p => fun h' tk F N => done g m h' tk p F N
  | f :: r, g, m, hv, p => fun t io h₁ tk₁ F N => wpAny_mono (turn (f t) g m io h₁ tk₁ (hv f (List.mem_cons_self ..) t) p F N) (fun _ s₂ h₂ => wpAny_mono h₂ (fun fl s₃ h₃ => by
      cases fl with
      | ret v => exact h₃
      | brk => exact h₃
      | cont =>
        obtain ⟨g', m', h₃', tk₃, e, F₃, N₃, p₃⟩ := h₃
        exact ⟨g', m', h₃', tk₃, e, F₃, N₃, seq_allT turn done r g' m' (fun v hv' => hv v (List.mem_cons_of_mem _ hv')) p₃⟩
      | next =>
        obtain ⟨g', m', h₃', tk₃, e, F₃, N₃, p₃⟩ := h₃
        exact ⟨g', m', h₃', tk₃, e, F₃, N₃, seq_allT turn done r g' m' (fun v hv' => hv v (List.mem_cons_of_mem _ hv')) p₃⟩) fun _ _ e => e) fun _ _ e => e
def rngIt (a c : Int) (n i : Nat) : Obj := { cls := .type "range_iterator", data := .fields #[rawInt (a + (i : Nat) * c), rawInt ((n : Int) - (i : Nat)), rawInt c] }
theorem iter_rangeSeq {x : Str} {pos : Pos} {g : Heap} {m : Str → Option Value} {news : List (Addr × Obj)} {r : Addr} {a₀ b₀ c : Int} {t₀ u₀ v₀ : Tok} {n : Nat}
    (hh : A.handled = none) (hr : IsRange s.heap r a₀ b₀ c t₀ u₀ v₀) (hsmall : Builtin.Range.small a₀ b₀ c = true) (hn : Builtin.Range.rangeSize a₀ b₀ c = (n : Int)) (F : Fr g env.locals s.heap m) (N : News g env.locals s.heap news)
    (rest₀ : ∀ (I : Addr) (h' : Heap), SeqRest prog w A env (.Name x pos) body Q E I news { s with heap := h' } ((List.range n).map fun i t => .int (a₀ + (i : Nat) * c) t) g m) :
    wpAny (model prog w) A (pyIter (.ref r)) (fun it s₂ => SeqAt prog w A env (.Name x pos) body Q E it s₂) E s := by
  refine wpAny_pyIter_range hr hsmall ?_
  have ha : ∀ p ∈ news, p.1 ≠ s.heap.objs.size := fun p hp => Nat.ne_of_lt (Heap.lt_size (N p hp).1)
  refine ⟨s.heap.objs.size, news, _, fun i o => o = rngIt a₀ c n i, _, g, m, rfl, SeqW.ofWalks (Walks.range hh s.heap.objs.size a₀ c n) (by simp) (fun i v f hp hf => ?_) (fun i g m h io hi F N => ?_) (fun i h st => ?_) (fun i io v s Q E hi e q => wpAny_pure q) ha, ?_, F.push _, N.push F _, rest₀ _ _⟩
  · obtain ⟨t, rfl⟩ := hp
    rw [List.getElem?_map] at hf
    rcases Nat.lt_or_ge i n with h | h
    · rw [List.getElem?_range h] at hf
      exact ⟨t, by rw [← Option.some.inj hf]⟩
    · rw [List.getElem?_eq_none (by simpa using h)] at hf
      exact nomatch hf
  · subst hi
    exact (N _ (List.mem_cons_self ..)).1
  · exact ⟨_, st, rfl⟩
  · unfold rngIt
    rw [hn]
    simp
theorem seq_law (n1 n2 n3 n4 n5 : Str) {G0 : Heap} {m0 : Str → Option Value} {n : Nat} (hn : n ≤ 3)
    (turn : ∀ (k : Int) (t : Tok) o1 o2 o3 o4 o5 io h₁ tk₁, 0 ≤ k → k ≤ 6 → Fr G0 env.locals h₁ (fun y => if y = n1 then o1 else if y = n2 then o2 else if y = n3 then o3 else if y = n4 then o4 else if y = n5 then o5 else m0 y) → News G0 env.locals h₁ ((I, io) :: keep) →
      wpAny (model prog w) A (assign target env (.int k t)) (fun _ s₂ => wpAny (model prog w) A (execs body env) (SeqPost env Q keep s I io (fun g m => g = G0 ∧ ch5 n1 n2 n3 n4 n5 m0 m)) E s₂) E { s with heap := h₁, toks := tk₁ })
    (done : ∀ m h' tk, Fr G0 env.locals h' m → News G0 env.locals h' keep → Q .next { s with heap := h', toks := tk }) :
    SeqRest prog w A env target body Q E I keep s ((List.range n).map fun i t => .int (0 + (i : Nat) * 3) t) G0 m0 :=
  seq_allT (P := fun g m => g = G0 ∧ ch5 n1 n2 n3 n4 n5 m0 m) (V := fun v => ∃ k t, v = .int k t ∧ 0 ≤ k ∧ k ≤ 6) (fun v g m io h₁ tk₁ hV p F N => by
    obtain ⟨rfl, o1, o2, o3, o4, o5, rfl⟩ := p
    obtain ⟨k, t, rfl, k0, k1⟩ := hV
    exact turn k t o1 o2 o3 o4 o5 io h₁ tk₁ k0 k1 F N) (fun g m h' tk p F N => by
      obtain ⟨rfl, _⟩ := p
      exact done m h' tk F N) _ G0 m0 (fun f hf t => by
      obtain ⟨i, hi, rfl⟩ := List.mem_map.mp hf
      have := List.mem_range.mp hi
      exact ⟨_, t, rfl, by omega, by omega⟩) ⟨rfl, ch5_self⟩
end
end Mine
end
section
open PySem PySem.W PySem.Calls PyProof.Rows
namespace Mine
set_option maxRecDepth 100000
set_option maxHeartbeats 8000000

section
variable {prog : Program} {w : World} {M : Model} {A : Around} {E : Value → Shared → Prop} {s : Shared} {K : Frag} {h₀ : Heap} {L : Addr} {m : Str → Option Value} {news : List (Addr × Obj)}

theorem entry_utc : entryFor table "datetime.timezone.utc#data" = some Builtin.«datetime.timezone.utc#data» := entryFor_of_tree (by kernel_rfl)
theorem quiet_utc {as : Args} : (Code.builtin "datetime.timezone.utc#data" as).quiet = true := Code.quiet_builtin _ (by decide +kernel)
theorem nodatum_utc : Manifest.plainData.lookup "datetime.timezone.utc" = none := by decide +kernel
theorem ending_utc : withoutEnding? "datetime.timezone.utc#data" "#data" = some "datetime.timezone.utc" := by decide +kernel

theorem run_utcZone {z : Value} {Q : Value → Shared → Prop} (X : K.In s.heap) (e : nsIn K cStatics "datetime.timezone.utc" = some (some z)) (h : Q z s) : wpAny M A PySem.Builtin._datetime.utcZone Q E s := by
  unfold PySem.Builtin._datetime.utcZone
  refine wpAny_bind ((looks_nsIn X e).here ?_)
  dsimp only
  exact wpAny_pure h

theorem handed_utc {z : Value} {Q : Value → Shared → Prop} (X : K.In s.heap) (e : nsIn K cStatics "datetime.timezone.utc" = some (some z)) (h : Q z s) : wpAny (model prog w) A (handedOut (.builtin "datetime.timezone.utc#data")) Q E s := by
  unfold handedOut
  dsimp only
  rw [ending_utc]
  simp only [Option.isSome_some, if_true]
  unfold typeDatum
  rw [ending_utc]
  dsimp only
  refine wpAny_runValue (codeAny_builtin entry_utc ?_)
  unfold Builtin.«datetime.timezone.utc#data»
  exact wpAny_bind (run_utcZone X e (wpAny_pure h))

theorem held_utc : PySem.Builtin.heldUnderItsOwnName "utc" (.builtin "datetime.timezone.utc#data") = false := by first | decide +kernel | kernel_rfl
theorem lk_utc : typeLookup (.type "datetime.timezone") "utc" = pure (some (.builtin "datetime.timezone.utc#data")) := by rw [typeLookup_type, builtinLookup_eq_fast]; kernel_rfl
theorem lk_type_utc : typeLookup (.type "type") "utc" = pure none := by rw [typeLookup_type, builtinLookup_eq_fast]; kernel_rfl
theorem lk_tz_get : typeLookup (.type "datetime.timezone") "__get__" = pure none := by rw [typeLookup_type, builtinLookup_eq_fast]; kernel_rfl
theorem type_utc : typeOf (.builtin "datetime.timezone.utc#data") = pure (.type "datetime.timezone") := by show builtinType _ = _; rw [builtinType_eq_fast]; kernel_rfl

theorem tga_utc {z : Value} {tk : Tok} {Q : Fin → Shared → Prop} (X : K.In s.heap) (hstub : opaqueClassAbove (.type "datetime.timezone") = pure none) (ht : typeOf (.type "datetime.timezone") = pure (.type "type")) (ez : nsIn K cStatics "datetime.timezone.utc" = some (some z)) (h : Q (.done (.ret z)) s) :
    wpAny (model prog w) A (Builtin.«type.__getattribute__» ⟨[.type "datetime.timezone", .str "utc" tk], []⟩) Q E s := by
  unfold Builtin.«type.__getattribute__»
  refine wpAny_bind (wpAny_pure ?_)
  refine wpAny_bind (wpAny_of_eq hstub ?_)
  refine wpAny_bind (wpAny_of_eq ht ?_)
  refine wpAny_bind (wpAny_of_eq lk_type_utc ?_)
  refine wpAny_bind (wpAny_pure ?_)
  refine wpAny_bind (wpAny_of_eq lk_utc ?_)
  dsimp only
  rw [if_neg (by rw [held_utc]; decide)]
  refine wpAny_bind (wpAny_of_eq type_utc ?_)
  rw [if_neg (by decide)]
  unfold specialOf
  refine wpAny_bind (wpAny_bind (wpAny_of_eq type_utc (wpAny_of_eq lk_tz_get ?_)))
  exact wpAny_bind (handed_utc X ez (wpAny_pure h))

theorem utc_attr {z : Value} {za : Addr} {expr : Bool} {Q : Value → Shared → Prop} (F : Fr h₀ L s.heap m) (X₀ : K.In h₀) (ht : kitMeta "datetime.timezone" = true) (hs : Manifest.isStub "datetime.timezone" = false)
    (ez : nsIn K cStatics "datetime.timezone.utc" = some (some z)) (hz : z = .ref za)
    (h : Q z { s with toks := s.toks + 1 }) : wpAny (model prog w) A (getAttr (.type "datetime.timezone") "utc" expr) Q E s := by
  have X := X₀.keeps F.keep
  have hstub : opaqueClassAbove (.type "datetime.timezone") = pure none := by unfold opaqueClassAbove; dsimp only; rw [hs]; rfl
  have hT : typeOf (.type "datetime.timezone") = pure (.type "type") := kitMeta_of ht
  have L0 : Looks (model prog w) s.heap (typeOf (.type "datetime.timezone")) (.type "type") := Looks.of_pure hT
  have hga : findIn K (.type "type") "__getattribute__" = some (some (.builtin "type.__getattribute__")) := type_tga
  have hb : Looks (model prog w) s.heap (hookBefore (.type "type")) none := looks_hook X (r := none) (by rfl)
  refine wpAny_bind (wpAny_mkText (wpAny_holding (wpAny_bind (L0 _ _ _ _ (fun _ _ e => e) (wpAny_bind (looks_findIn X hga _ _ _ _ (fun _ _ e => e) ?_))))))
  dsimp only
  rw [show (onTheHeap (.type "type") && Value.builtin "type.__getattribute__" == Value.builtin "object.__getattribute__") = false from by rw [show (Value.builtin "type.__getattribute__" == Value.builtin "object.__getattribute__") = false from by decide +kernel, Bool.and_false], if_neg (by decide)]
  refine wpAny_bind (hb _ _ _ _ (fun _ _ e => e) (wpAny_bind (wpAny_attempt (wpAny_holding ?_))))
  unfold callGetattribute
  rw [show (expr && onTheHeap (Value.builtin "type.__getattribute__")) = false from Bool.and_false _, if_neg (by decide)]
  unfold boundAndCalled
  rw [KF.slot_tga.bind]
  refine wpAny_bind (wpAny_pure ?_)
  show wpAny _ _ (call (.builtin "type.__getattribute__") [.type "datetime.timezone", .str "utc" s.toks]) _ _ _
  refine wpAny_call ?_
  refine codeAny_call_builtin KF.slot_tga.plain KF.entry_tga ?_
  refine @check_slot (model prog w) _ _ { s with toks := s.toks + 1 } "type.__getattribute__" "type" "__getattribute__" (.type "datetime.timezone") [.str "utc" s.toks] [] _ (by decide +kernel) (by decide +kernel) (L0.andThen (looks_subIn X (by show subIn K _ _ = _; rfl))) (KF.args_tga (.type "datetime.timezone") (.str "utc" s.toks)) ?_
  refine tga_utc (s := { s with toks := s.toks + 1 }) X hstub hT ez ?_
  subst hz
  exact wpAny_pure h

def boundFt : Obj := { cls := .type "builtin_function_or_method", data := .fields #[.builtin "datetime.datetime.fromtimestamp", .type "datetime.datetime"] }
theorem entry_ft : entryFor table "datetime.datetime.fromtimestamp" = some Builtin.«datetime.datetime.fromtimestamp» := entryFor_of_tree (by kernel_rfl)
theorem quiet_ft {as : Args} : (Code.builtin "datetime.datetime.fromtimestamp" as).quiet = true := Code.quiet_builtin _ (by decide +kernel)
theorem type_ft : typeOf (.builtin "datetime.datetime.fromtimestamp") = pure (.type "classmethod_descriptor") := by show builtinType _ = _; rw [builtinType_eq_fast]; kernel_rfl
theorem isType_dt : isType (.type "datetime.datetime") = pure true := by first | rfl | kernel_rfl | (unfold isType; rw [isSubtype_type]; kernel_rfl)
theorem sub_dt : isSubtype (.type "datetime.datetime") (.type "datetime.datetime") = pure true := by rw [isSubtype_type]; kernel_rfl
theorem owner_ft : (kfb_private% "ownerAndName") "datetime.datetime.fromtimestamp" = ("datetime.datetime", "fromtimestamp") := by first | decide +kernel | kernel_rfl
theorem run_get_ft {P : Fin → Shared → Prop} (h : P (.done (.ret (.ref s.heap.objs.size))) { s with heap := s.heap.push boundFt }) :
    wpAny M A (Builtin.«classmethod_descriptor.__get__» ⟨[.builtin "datetime.datetime.fromtimestamp", .none, .type "datetime.datetime"], []⟩) P E s := by
  unfold Builtin.«classmethod_descriptor.__get__»
  refine wpAny_bind (wpAny_of_eq (a := (.builtin "datetime.datetime.fromtimestamp", none, some (.type "datetime.datetime"))) (by first | rfl | kernel_rfl) ?_)
  simp only [owner_ft]
  refine wpAny_bind (wpAny_of_eq (a := .type "datetime.datetime") rfl ?_)
  refine wpAny_bind (wpAny_of_eq (a := true) isType_dt ?_)
  refine KFB.if_not rfl ?_
  refine wpAny_bind (wpAny_of_eq (a := true) sub_dt ?_)
  refine KFB.if_not rfl ?_
  exact wpAny_bind (wpAny_newObj_type (wpAny_pure h))

theorem getm_ft {pl : Sem Bool} {Q : Value × List Value → Shared → Prop} (F : Fr h₀ L s.heap m) (N : News h₀ L s.heap news) (X₀ : K.In h₀)
    (e : findCls K (.type "datetime.datetime") (.type "type") (PySem.Str.ofString "fromtimestamp") = some (.get (.builtin "classmethod_descriptor.__get__") (.builtin "datetime.datetime.fromtimestamp") .none (.type "datetime.datetime")))
    (h : ∀ x h', Fr h₀ L h' m → News h₀ L h' ((x, boundFt) :: news) → (∀ p ∈ news, p.1 < x) → Q (.ref x, []) { s with heap := h', toks := s.toks + 1 }) :
    wpAny (model prog w) A (getMethod (.type "datetime.datetime") (PySem.Str.ofString "fromtimestamp") pl) Q E s := by
  have X := X₀.keeps F.keep
  have hstub : opaqueClassAbove (.type "datetime.datetime") = pure none := by unfold opaqueClassAbove; dsimp only; rw [show Manifest.isStub "datetime.datetime" = false by decide +kernel]; rfl
  have ht : typeOf (.type "datetime.datetime") = pure (.type "type") := by first | rfl | kernel_rfl
  have L0 : Looks (model prog w) s.heap (typeOf (.type "datetime.datetime")) (.type "type") := Looks.of_pure ht
  have hg : findIn K (.type "type") "__getattribute__" = some (some (.builtin "type.__getattribute__")) := type_tga
  unfold getMethod specialOf
  refine wpAny_bind (wpAny_bind (L0.here ((looks_findIn X hg).here ?_)))
  dsimp only
  rw [if_pos canon_tga]
  refine wpAny_bind (wpAny_mono (Q := fun v => Q (v, [])) (E := E) ?_ (fun _ _ z => wpAny_pure z) fun _ _ z => z)
  have LO : Looks (model prog w) s.heap (opaqueClassAbove (.type "datetime.datetime")) none := Looks.of_pure hstub
  refine cls_open X LO L0 hg (looks_hook X (r := none) (by rfl)) (by show subIn K _ _ = _; rfl) e ?_
  show wpAny _ _ (holding [.builtin "datetime.datetime.fromtimestamp"] (call (.builtin "classmethod_descriptor.__get__") [.builtin "datetime.datetime.fromtimestamp", .none, .type "datetime.datetime"]) >>= fun v => ret v) _ _ _
  refine wpAny_bind (wpAny_holding (wpAny_call_entry KFB.slot_get type_ft KFB.entry_get (run_get_ft ⟨_, rfl, wpAny_pure (wpAny_pure (h _ _ (F.push _) (News.push F N _) fun p hp => Heap.lt_size (N p hp).1))⟩) (KFB.args_get _ _ _)))
end
end Mine
end
section
local macro_rules | `(tactic| walk_at "idle 0") => `(tactic| skip)
local macro_rules | `(tactic| walk_at "idle 1") => `(tactic| skip)
local macro_rules | `(tactic| walk_at "idle 2") => `(tactic| skip)
local macro_rules | `(tactic| walk_at "idle 3") => `(tactic| skip)
local macro_rules | `(tactic| walk_at "idle 4") => `(tactic| skip)
local macro_rules | `(tactic| walk_at "idle 5") => `(tactic| skip)
local macro_rules | `(tactic| walk_at "idle 6") => `(tactic| skip)
local macro_rules | `(tactic| walk_at "idle 7") => `(tactic| skip)
local macro_rules | `(tactic| walk_at "idle 8") => `(tactic| skip)
local macro_rules | `(tactic| walk_at "idle 9") => `(tactic| skip)
local macro_rules | `(tactic| walk_at "idle 10") => `(tactic| skip)
local macro_rules | `(tactic| walk_at "idle 11") => `(tactic| skip)
local macro_rules | `(tactic| walk_at "idle 12") => `(tactic| skip)
local macro_rules | `(tactic| walk_at "idle 13") => `(tactic| skip)
local macro_rules | `(tactic| walk_at "idle 14") => `(tactic| skip)
local macro_rules | `(tactic| walk_at "idle 15") => `(tactic| skip)
local macro_rules | `(tactic| walk_at "idle 16") => `(tactic| skip)
local macro_rules | `(tactic| walk_at "idle 17") => `(tactic| skip)
local macro_rules | `(tactic| walk_at "idle 18") => `(tactic| skip)
local macro_rules | `(tactic| walk_at "idle 19") => `(tactic| skip)
local macro_rules | `(tactic| walk_at "idle 20") => `(tactic| skip)
local macro_rules | `(tactic| walk_at "idle 21") => `(tactic| skip)
local macro_rules | `(tactic| walk_at "idle 22") => `(tactic| skip)
local macro_rules | `(tactic| walk_at "idle 23") => `(tactic| skip)
local macro_rules | `(tactic| walk_at "idle 24") => `(tactic| skip)
open PySem PySem.W PySem.Calls PyProof.Rows
namespace Mine
set_option maxRecDepth 100000
set_option maxHeartbeats 8000000

theorem entry_oga : entryFor table "object.__getattribute__" = some Builtin.«object.__getattribute__» := entryFor_of_tree (by kernel_rfl)
theorem args_oga (a b : Value) : argsOk "object.__getattribute__" ⟨[a, b], []⟩ := by unfold argsOk; kernel_rfl
theorem ga_dt : Slot "datetime.datetime" "__getattribute__" "object.__getattribute__" :=
  .of (owner := "object") (n := "__getattribute__") (by rw [typeLookup_type, builtinLookup_eq_fast]; kernel_rfl) (by decide +kernel) (by decide +kernel) (by decide +kernel)
    (by first | exact .inl (by decide +kernel) | exact .inr (by decide +kernel)) (by rw [isSubtype_type]; kernel_rfl)

structure GetFacts (name : Str) (id owner : String) (i : Nat) : Prop where
  lk : typeLookup (.type "datetime.datetime") name = pure (some (.builtin id))
  ty : typeOf (.builtin id) = pure (.type "getset_descriptor")
  own : (".".intercalate (id.cutAt '.').dropLast) = owner
  sub : isSubtype (.type "datetime.datetime") (.type owner) = pure true
  entry : entryFor table id = some (PySem.Builtin._datetime.dtIntAt i)
  quiet : ∀ as, (Code.builtin id as).quiet = true
theorem get_hour : GetFacts "hour" "datetime.datetime.hour" "datetime.datetime" 3 where
  lk := by rw [typeLookup_type, builtinLookup_eq_fast]; kernel_rfl
  ty := by first | kernel_rfl | (show builtinType _ = _; rw [builtinType_eq_fast]; kernel_rfl)
  own := by decide +kernel
  sub := by rw [isSubtype_type]; kernel_rfl
  entry := entryFor_of_tree (by kernel_rfl)
  quiet := fun _ => Code.quiet_builtin _ (by decide +kernel)
theorem get_year : GetFacts "year" "datetime.date.year" "datetime.date" 0 where
  lk := by rw [typeLookup_type, builtinLookup_eq_fast]; kernel_rfl
  ty := by first | kernel_rfl | (show builtinType _ = _; rw [builtinType_eq_fast]; kernel_rfl)
  own := by decide +kernel
  sub := by rw [isSubtype_type]; kernel_rfl
  entry := entryFor_of_tree (by kernel_rfl)
  quiet := fun _ => Code.quiet_builtin _ (by decide +kernel)

section
variable {prog : Program} {w : World} {A : Around} {E : Value → Shared → Prop} {h : Heap} {g : Array GenState} {d : Drawn} {t : Nat} {os : OsState} {a : Addr} {o : Obj} {vs : Array Value} {n : Int} {tk0 : Tok} {name : Str} {id owner : String} {i : Nat}

theorem dt_get {R : Result → Shared → Prop} (G : GetFacts name id owner i) (hx : h.get? a = some o) (hc : o.cls = .type "datetime.datetime") (hd : o.data = .fields vs) (h0 : vs[i]? = some (.int n tk0)) (hq : R (.ok (.ret (.int n t))) ⟨h, g, d, t + 1, os⟩) :
    codeAny (model prog w) A (.call (.builtin "getset_descriptor.__get__") ⟨[.builtin id, .ref a, .type "datetime.datetime"], []⟩) R ⟨h, g, d, t, os⟩ := by
  have hT : (⟨h, g, d, t, os⟩ : Shared).TypeIs (.ref a) "datetime.datetime" := ⟨_, hx, hc⟩
  have hT5 : (⟨h, g, d, t, os⟩ : Shared).TypeIs (.builtin id) "getset_descriptor" := G.ty
  have f8 : isSubtype (.type "datetime.datetime") (.type (".".intercalate (id.cutAt '.').dropLast)) = pure true := by rw [G.own]; exact G.sub
  refine codeAny_call_builtin F.slot_gs_get.plain F.entry_gs_get (F.slot_gs_get.check _ _ _ _ _ _ _ _ hT5 (F.args_gs_get _ _ _) ?_)
  repeat (any_goals (first | assumption | wp_step))
  refine ⟨G.quiet _, codeAny_builtin G.entry ?_⟩
  unfold PySem.Builtin._datetime.dtIntAt
  repeat (any_goals (first | assumption | with_reducible refine wpAny_field hx hd h0 ?_ | wp_step))

theorem dt_entry {tk : Tok} {Q : Fin → Shared → Prop} (G : GetFacts name id owner i) (hx : h.get? a = some o) (hc : o.cls = .type "datetime.datetime") (hd : o.data = .fields vs) (h0 : vs[i]? = some (.int n tk0)) (hq : Q (.done (.ret (.int n t))) ⟨h, g, d, t + 1, os⟩) :
    wpAny (model prog w) A (Builtin.«object.__getattribute__» ⟨[.ref a, .str name tk], []⟩) Q E ⟨h, g, d, t, os⟩ := by
  have hT : (⟨h, g, d, t, os⟩ : Shared).TypeIs (.ref a) "datetime.datetime" := ⟨_, hx, hc⟩
  have hT5 : (⟨h, g, d, t, os⟩ : Shared).TypeIs (.builtin id) "getset_descriptor" := G.ty
  have f4 := G.lk
  have f5 := G.ty
  have f6 := F.slot_gs_get.lookup
  have f7 := F.slot_gs_set.lookup
  repeat (any_goals (first | assumption | wp_step))
  refine dt_get G hx hc hd h0 ?_
  repeat (any_goals (first | assumption | wp_step))

theorem dt_call {tk : Tok} {R : Result → Shared → Prop} (G : GetFacts name id owner i) (hx : h.get? a = some o) (hc : o.cls = .type "datetime.datetime") (hd : o.data = .fields vs) (h0 : vs[i]? = some (.int n tk0)) (hq : R (.ok (.ret (.int n t))) ⟨h, g, d, t + 1, os⟩) :
    codeAny (model prog w) A (.call (.builtin "object.__getattribute__") ⟨[.ref a, .str name tk], []⟩) R ⟨h, g, d, t, os⟩ :=
  codeAny_call_builtin ga_dt.plain entry_oga (ga_dt.check _ _ _ _ _ _ _ _ (show (⟨h, g, d, t, os⟩ : Shared).TypeIs (.ref a) "datetime.datetime" from ⟨_, hx, hc⟩) (args_oga _ _) (dt_entry G hx hc hd h0 hq))

theorem dt_by {tk : Tok} {fill expr : Bool} {Q : Value → Shared → Prop} (G : GetFacts name id owner i) (hx : h.get? a = some o) (hc : o.cls = .type "datetime.datetime") (hd : o.data = .fields vs) (h0 : vs[i]? = some (.int n tk0))
    (hq : Q (.int n t) ⟨h, g, d, t + 1, os⟩) : wpAny (model prog w) A (getAttrBy (.ref a) (.str name tk) fill expr) Q E ⟨h, g, d, t, os⟩ := by
  have hT : (⟨h, g, d, t, os⟩ : Shared).TypeIs (.ref a) "datetime.datetime" := ⟨_, hx, hc⟩
  have f2 := ga_dt.lookup
  have f3 := ga_dt.bind (.ref a)
  have hx0 : (expr && onTheHeap (Value.builtin "object.__getattribute__")) = false := by cases expr <;> rfl
  repeat (any_goals (first | assumption | wp_step))
  refine dt_call G hx hc hd h0 ?_
  repeat (any_goals (first | assumption | wp_step))

theorem dt_attr {s : Shared} {expr : Bool} {Q : Value → Shared → Prop} (G : GetFacts name id owner i) (hx : s.heap.get? a = some o) (hc : o.cls = .type "datetime.datetime") (hd : o.data = .fields vs) (h0 : vs[i]? = some (.int n tk0))
    (hq : ∀ tk u, Q (.int n tk) { s with toks := u }) : wpAny (model prog w) A (getAttr (.ref a) name expr) Q E s := by
  obtain ⟨h, g, d, t, os⟩ := s
  unfold getAttr
  repeat (any_goals (first | exact hq _ _ | with_reducible apply dt_by G hx hc hd h0 | wp_step))
end
end Mine
end
section
open PySem PySem.W PySem.Calls PyProof.Rows
namespace Mine
set_option maxRecDepth 100000
set_option maxHeartbeats 8000000

theorem sub_tz : isSubtype (.type "datetime.timezone") (.type "datetime.tzinfo") = pure true := by rw [isSubtype_type]; kernel_rfl
theorem sub_dtd : isSubtype (.type "datetime.datetime") (.type "datetime.date") = pure true := by rw [isSubtype_type]; kernel_rfl
theorem sub_td : isSubtype (.type "datetime.timedelta") (.type "datetime.timedelta") = pure true := by rw [isSubtype_type]; kernel_rfl

def dtObj (y mo d h mi sec : Int) : Obj := { cls := .type "datetime.datetime", data := .fields #[.int y 0, .int mo 0, .int d 0, .int h 0, .int mi 0, .int sec 0, .int 0 0, .ref 39, .int 0 0, .none] }
open PySem.Builtin._datetime PySem.Builtin.Time in
/-- the day of the moment x is the day d of the month mo of the year y -/
structure Day (x y mo d : Int) : Prop where
  civ : timeCivil (x.fdiv 86400) = (y, mo, d)
  ord : toOrdinal y mo d = x.fdiv 86400 + 719163
  y0 : 1 ≤ y
  y1 : y ≤ 9999
  m0 : 1 ≤ mo
  m1 : mo ≤ 12
  d0 : 1 ≤ d
  d1 : d ≤ daysInMonth y mo
open PySem.Builtin._datetime PySem.Builtin.Time in
theorem broken_of {x y mo d : Int} (c : timeCivil (x.fdiv 86400) = (y, mo, d)) : ∃ a b, timeBroken x 0 = (y, [mo, d, x.fmod 86400 / 3600, x.fmod 86400 % 3600 / 60, x.fmod 86400 % 60, a, b]) := by
  unfold timeBroken
  simp only [Int.add_zero]
  rw [c]
  exact ⟨_, _, rfl⟩
section
variable {prog : Program} {w : World} {A : Around} {E : Value → Shared → Prop} {s : Shared} {x : Int} {t : Tok}

theorem check_tz {Q : Unit → Shared → Prop} (z : ZIn s.heap) (h : Q () s) : wpAny (model prog w) A (PySem.Builtin._datetime.checkTzinfo (.ref 39)) Q E s := by
  have hT : s.TypeIs (.ref 39) "datetime.timezone" := ⟨_, z.2, rfl⟩
  unfold PySem.Builtin._datetime.checkTzinfo
  rw [if_pos (by decide)]
  refine wpAny_bind (wpAny_isInstance hT sub_tz ?_)
  exact wpAny_pure h

open PySem.Builtin._datetime in
theorem check_date {y mo d : Int} {Q : Unit → Shared → Prop} (y0 : 1 ≤ y) (y1 : y ≤ 9999) (m0 : 1 ≤ mo) (m1 : mo ≤ 12) (d0 : 1 ≤ d) (d1 : d ≤ daysInMonth y mo) (h : Q () s) : wpAny (model prog w) A (checkDate y mo d) Q E s := by
  unfold checkDate
  simp only [show ¬ (y < 1) by omega, show ¬ (y > 9999) by omega, show ¬ (mo < 1) by omega, show ¬ (mo > 12) by omega, show ¬ (d < 1) by omega, show ¬ (d > daysInMonth y mo) by omega, decide_false, Bool.or_false, Bool.false_eq_true, if_false]
  exact wpAny_pure h
open PySem.Builtin._datetime in
theorem check_time {hh mi sec us fo : Int} {Q : Unit → Shared → Prop} (a0 : 0 ≤ hh) (a1 : hh ≤ 23) (b0 : 0 ≤ mi) (b1 : mi ≤ 59) (c0 : 0 ≤ sec) (c1 : sec ≤ 59) (u0 : us = 0) (f0 : fo = 0) (h : Q () s) : wpAny (model prog w) A (checkTime hh mi sec us fo) Q E s := by
  subst u0 f0
  unfold checkTime
  simp only [show ¬ (hh < 0) by omega, show ¬ (hh > 23) by omega, show ¬ (mi < 0) by omega, show ¬ (mi > 59) by omega, show ¬ (sec < 0) by omega, show ¬ (sec > 59) by omega, decide_false, Bool.or_false, Bool.false_eq_true, if_false]
  rw [if_neg (by decide), if_neg (by decide)]
  exact wpAny_pure h
open PySem.Builtin._datetime in
theorem new_stamp {y mo d hh mi sec us fo : Int} {Q : Value → Shared → Prop} (z : ZIn s.heap) (y0 : 1 ≤ y) (y1 : y ≤ 9999) (m0 : 1 ≤ mo) (m1 : mo ≤ 12) (d0 : 1 ≤ d) (d1 : d ≤ daysInMonth y mo)
    (a0 : 0 ≤ hh) (a1 : hh ≤ 23) (b0 : 0 ≤ mi) (b1 : mi ≤ 59) (c0 : 0 ≤ sec) (c1 : sec ≤ 59) (u0 : us = 0) (f0 : fo = 0)
    (h : Q (.ref s.heap.objs.size) { s with heap := s.heap.push (dtObj y mo d hh mi sec) }) :
    wpAny (model prog w) A (newStampOf (.type "datetime.datetime") { y, mo, d, c := { h := hh, m := mi, s := sec, us := us, tz := .ref 39, fold := fo } }) Q E s := by
  subst u0 f0
  unfold newStampOf
  rw [if_pos (by decide)]
  unfold newStampRaw
  refine wpAny_bind (check_date y0 y1 m0 m1 d0 d1 ?_)
  refine wpAny_bind (check_time a0 a1 b0 b1 c0 c1 rfl rfl ?_)
  refine wpAny_bind (check_tz z ?_)
  exact wpAny_newObj_type h
open PySem.Builtin._datetime in
theorem stamp_at {y mo d : Int} {Q : Value → Shared → Prop} (z : ZIn s.heap) (D : Day x y mo d)
    (h : Q (.ref s.heap.objs.size) { s with heap := s.heap.push (dtObj y mo d (x.fmod 86400 / 3600) (x.fmod 86400 % 3600 / 60) (x.fmod 86400 % 60)) }) :
    wpAny (model prog w) A (stampAtMoment (.type "datetime.datetime") true x 0 (.ref 39)) Q E s := by
  obtain ⟨wd, yd, e⟩ := broken_of D.civ
  have r0 := Int.fmod_nonneg_of_pos x (b := 86400) (by decide)
  have r1 := Int.fmod_lt_of_pos x (b := 86400) (by decide)
  unfold stampAtMoment
  refine wpAny_bind (wpAny_askSetting ?_)
  simp only [if_true]
  rw [e]
  dsimp only
  have hy : dtShownYear y = pure y := by
    have := D.y0
    have := D.y1
    unfold dtShownYear
    rw [if_neg (by simp only [Bool.or_eq_true, decide_eq_true_eq]; omega), if_neg (by omega)]
  refine wpAny_bind (wpAny_of_eq hy ?_)
  rw [if_neg (by decide)]
  revert h r0 r1
  generalize x.fmod 86400 = r
  intro h r0 r1
  rw [show min 59 (r % 60) = r % 60 by omega]
  exact new_stamp z D.y0 D.y1 D.m0 D.m1 D.d0 D.d1 (by omega) (by omega) (by omega) (by omega) (by omega) (by omega) rfl rfl h

theorem slot_md_get : Slot "method_descriptor" "__get__" "method_descriptor.__get__" :=
  .of (owner := "method_descriptor") (n := "__get__") (by rw [typeLookup_type, builtinLookup_eq_fast]; kernel_rfl) (by decide +kernel) (by decide +kernel) (by decide +kernel)
    (by first | exact .inl (by decide +kernel) | exact .inr (by decide +kernel)) (by rw [isSubtype_type]; kernel_rfl)
theorem entry_md_get : entryFor table "method_descriptor.__get__" = some Builtin.«method_descriptor.__get__» := entryFor_of_tree (by kernel_rfl)
theorem args_md_get (a b c : Value) : argsOk "method_descriptor.__get__" ⟨[a, b, c], []⟩ := by unfold argsOk; kernel_rfl
theorem type_fu : typeOf (.builtin "datetime.timezone.fromutc") = pure (.type "method_descriptor") := by show builtinType _ = _; rw [builtinType_eq_fast]; kernel_rfl
theorem lk_fu : typeLookup (.type "datetime.timezone") "fromutc" = pure (some (.builtin "datetime.timezone.fromutc")) := by rw [typeLookup_type, builtinLookup_eq_fast]; kernel_rfl
theorem md_noset : typeLookup (.type "method_descriptor") "__set__" = pure none := by rw [typeLookup_type, builtinLookup_eq_fast]; kernel_rfl
theorem md_nodel : typeLookup (.type "method_descriptor") "__delete__" = pure none := by rw [typeLookup_type, builtinLookup_eq_fast]; kernel_rfl
theorem owner_fu : (kfb_private% "ownerAndName") "datetime.timezone.fromutc" = ("datetime.timezone", "fromutc") := by first | decide +kernel | kernel_rfl
theorem told_fu : Manifest.toldItsClass.contains "datetime.timezone.fromutc" = false := by decide +kernel
theorem ga_tz : Slot "datetime.timezone" "__getattribute__" "object.__getattribute__" :=
  .of (owner := "object") (n := "__getattribute__") (by rw [typeLookup_type, builtinLookup_eq_fast]; kernel_rfl) (by decide +kernel) (by decide +kernel) (by decide +kernel)
    (by first | exact .inl (by decide +kernel) | exact .inr (by decide +kernel)) (by rw [isSubtype_type]; kernel_rfl)
theorem sub_tztz : isSubtype (.type "datetime.timezone") (.type "datetime.timezone") = pure true := by rw [isSubtype_type]; kernel_rfl
def boundFu : Obj := { cls := .type "builtin_function_or_method", data := .fields #[.builtin "datetime.timezone.fromutc", .ref 39] }

theorem fu_get {R : Result → Shared → Prop} (z : ZIn s.heap) (hq : R (.ok (.ret (.ref s.heap.objs.size))) { s with heap := s.heap.push boundFu }) :
    codeAny (model prog w) A (.call (.builtin "method_descriptor.__get__") ⟨[.builtin "datetime.timezone.fromutc", .ref 39, .type "datetime.timezone"], []⟩) R s := by
  obtain ⟨h, g, d, t, os⟩ := s
  have hT : (⟨h, g, d, t, os⟩ : Shared).TypeIs (.ref 39) "datetime.timezone" := ⟨_, z.2, rfl⟩
  have hT5 : (⟨h, g, d, t, os⟩ : Shared).TypeIs (.builtin "datetime.timezone.fromutc") "method_descriptor" := type_fu
  have f8 := sub_tztz
  refine codeAny_call_builtin slot_md_get.plain entry_md_get (slot_md_get.check _ _ _ _ _ _ _ _ hT5 (args_md_get _ _ _) ?_)
  unfold Builtin.«method_descriptor.__get__»
  refine wpAny_bind (wpAny_of_eq (a := (.builtin "datetime.timezone.fromutc", some (.ref 39), some (.type "datetime.timezone"))) (by first | rfl | kernel_rfl) ?_)
  dsimp only
  simp only [told_fu, Bool.false_eq_true, if_false]
  refine wpAny_bind (wpAny_bind (wpAny_of_eq (a := (Str.ofString "fromutc", .type "datetime.timezone")) ?_ ?_))
  · show (pure ((Str.ofString ((kfb_private% "ownerAndName") "datetime.timezone.fromutc").2), .type ((kfb_private% "ownerAndName") "datetime.timezone.fromutc").1) : Sem (Str × Value)) = _
    rw [owner_fu]
  repeat (any_goals (first | assumption | wp_step))

theorem fu_entry {tk : Tok} {Q : Fin → Shared → Prop} (z : ZIn s.heap) (hq : Q (.done (.ret (.ref s.heap.objs.size))) { s with heap := s.heap.push boundFu }) :
    wpAny (model prog w) A (Builtin.«object.__getattribute__» ⟨[.ref 39, .str "fromutc" tk], []⟩) Q E s := by
  obtain ⟨h, g, d, t, os⟩ := s
  have hx : h.get? 39 = some o39 := z.2
  have hT : (⟨h, g, d, t, os⟩ : Shared).TypeIs (.ref 39) "datetime.timezone" := ⟨_, z.2, rfl⟩
  have f4 := lk_fu
  have f5 := type_fu
  have f6 := slot_md_get.lookup
  have f7 := md_noset
  have f8 := md_nodel
  repeat (any_goals (first | assumption | wp_step))
  exact fu_get (s := ⟨h, g, d, t, os⟩) z (wpAny_pure hq)
end
end Mine
end
section
local macro_rules | `(tactic| walk_at "idle 0") => `(tactic| skip)
local macro_rules | `(tactic| walk_at "idle 1") => `(tactic| skip)
local macro_rules | `(tactic| walk_at "idle 2") => `(tactic| skip)
local macro_rules | `(tactic| walk_at "idle 3") => `(tactic| skip)
local macro_rules | `(tactic| walk_at "idle 4") => `(tactic| skip)
local macro_rules | `(tactic| walk_at "idle 5") => `(tactic| skip)
local macro_rules | `(tactic| walk_at "idle 6") => `(tactic| skip)
local macro_rules | `(tactic| walk_at "idle 7") => `(tactic| skip)
local macro_rules | `(tactic| walk_at "idle 8") => `(tactic| skip)
local macro_rules | `(tactic| walk_at "idle 9") => `(tactic| skip)
local macro_rules | `(tactic| walk_at "idle 10") => `(tactic| skip)
local macro_rules | `(tactic| walk_at "idle 11") => `(tactic| skip)
local macro_rules | `(tactic| walk_at "idle 12") => `(tactic| skip)
local macro_rules | `(tactic| walk_at "idle 13") => `(tactic| skip)
local macro_rules | `(tactic| walk_at "idle 14") => `(tactic| skip)
local macro_rules | `(tactic| walk_at "idle 15") => `(tactic| skip)
local macro_rules | `(tactic| walk_at "idle 16") => `(tactic| skip)
local macro_rules | `(tactic| walk_at "idle 17") => `(tactic| skip)
local macro_rules | `(tactic| walk_at "idle 18") => `(tactic| skip)
local macro_rules | `(tactic| walk_at "idle 19") => `(tactic| skip)
local macro_rules | `(tactic| walk_at "idle 20") => `(tactic| skip)
local macro_rules | `(tactic| walk_at "idle 21") => `(tactic| skip)
local macro_rules | `(tactic| walk_at "idle 22") => `(tactic| skip)
local macro_rules | `(tactic| walk_at "idle 23") => `(tactic| skip)
local macro_rules | `(tactic| walk_at "idle 24") => `(tactic| skip)
open PySem PySem.W PySem.Calls PyProof.Rows
namespace Mine
set_option maxRecDepth 100000
set_option maxHeartbeats 8000000
section
variable {prog : Program} {w : World} {A : Around} {E : Value → Shared → Prop} {s : Shared} {x : Int} {t : Tok}

theorem fu_by {tk : Tok} {fill expr : Bool} {Q : Value → Shared → Prop} (z : ZIn s.heap) (hq : Q (.ref s.heap.objs.size) { s with heap := s.heap.push boundFu }) :
    wpAny (model prog w) A (getAttrBy (.ref 39) (.str "fromutc" tk) fill expr) Q E s := by
  obtain ⟨h, g, d, t, os⟩ := s
  have hT : (⟨h, g, d, t, os⟩ : Shared).TypeIs (.ref 39) "datetime.timezone" := ⟨_, z.2, rfl⟩
  have f2 := ga_tz.lookup
  have f3 := ga_tz.bind (.ref 39)
  have hx0 : (expr && onTheHeap (Value.builtin "object.__getattribute__")) = false := by cases expr <;> rfl
  repeat (any_goals (first | assumption | wp_step))
  refine codeAny_call_builtin ga_tz.plain entry_oga (ga_tz.check _ _ _ _ _ _ _ _ hT (args_oga _ _) (fu_entry (s := ⟨h, g, d, t, os⟩) z ?_))
  repeat (any_goals (first | assumption | wp_step))

theorem fu_attr {expr : Bool} {Q : Value → Shared → Prop} (z : ZIn s.heap) (hq : ∀ u, Q (.ref s.heap.objs.size) { s with heap := s.heap.push boundFu, toks := u }) :
    wpAny (model prog w) A (getAttr (.ref 39) "fromutc" expr) Q E s := by
  obtain ⟨h, g, d, t, os⟩ := s
  unfold getAttr
  refine wpAny_bind (wpAny_mkText ?_)
  exact fu_by (s := ⟨h, g, d, t + 1, os⟩) z (hq _)

theorem sub_dtdt : isSubtype (.type "datetime.datetime") (.type "datetime.datetime") = pure true := by rw [isSubtype_type]; kernel_rfl
theorem entry_fu : entryFor table "datetime.timezone.fromutc" = some Builtin.«datetime.timezone.fromutc» := entryFor_of_tree (by kernel_rfl)
theorem quiet_fu {as : Args} : (Code.builtin "datetime.timezone.fromutc" as).quiet = true := Code.quiet_builtin _ (by decide +kernel)
theorem entry_dtadd : entryFor table "datetime.datetime.__add__" = some Builtin.«datetime.datetime.__add__» := entryFor_of_tree (by kernel_rfl)
theorem quiet_dtadd {as : Args} : (Code.builtin "datetime.datetime.__add__" as).quiet = true := Code.quiet_builtin _ (by decide +kernel)
theorem kind_fu : builtinKind "datetime.timezone.fromutc" = some .method := by decide +kernel
theorem vararg_fu : Manifest.varargsMethods.contains "datetime.timezone.fromutc" = false := by decide +kernel
theorem sig_fu (b : Value) : (match Manifest.signature? "datetime.timezone.fromutc" with | some sig => Bind.checkArgs "datetime.timezone.fromutc" { sig with full := s!"{Bind.lastOf "datetime.timezone"}.{Bind.lastOf "datetime.timezone.fromutc"}" } ⟨[.ref 39, b], []⟩ | none => pure ()) = pure () := by kernel_rfl
theorem tz_nomod : isSubtype (.type "datetime.timezone") (.type "module") = pure false := by rw [isSubtype_type]; kernel_rfl
theorem tz_notype : isSubtype (.type "datetime.timezone") (.type "type") = pure false := by rw [isSubtype_type]; kernel_rfl
theorem check_fu {b : Value} {Q : Unit → Shared → Prop} (z : ZIn s.heap) (h : Q () s) : wpAny (model prog w) A (checkBoundCall "datetime.timezone.fromutc" ⟨[.ref 39, b], []⟩) Q E s := by
  have hT : s.TypeIs (.ref 39) "datetime.timezone" := ⟨_, z.2, rfl⟩
  have hs := sig_fu b
  unfold checkBoundCall
  revert hs
  cases Manifest.signature? "datetime.timezone.fromutc" with
  | none => intro _; exact wpAny_pure h
  | some sig =>
    intro hs
    dsimp only at hs
    simp only [kind_fu, vararg_fu]
    refine wpAny_bind (wpAny_isInstance hT tz_nomod ?_)
    simp only [Bool.or_false, Bool.false_eq_true, if_false]
    unfold PySem.isType loadHead
    refine wpAny_bind (wpAny_bind (wpAny_loadPart z.2 ?_))
    refine wpAny_pure ?_
    rw [if_neg (by decide)]
    refine wpAny_bind (wpAny_typeOf hT ?_)
    dsimp only
    exact wpAny_of_eq hs h

open PySem.Builtin._datetime in
theorem ofUs_back {y mo d hh mi sec : Int} {tz : Value} (a0 : 0 ≤ hh) (a1 : hh ≤ 23) (b0 : 0 ≤ mi) (b1 : mi ≤ 59) (c0 : 0 ≤ sec) (c1 : sec ≤ 59) (back : ofOrdinal (toOrdinal y mo d) = (y, mo, d)) :
    Stamp.ofUs ((toOrdinal y mo d * 86400 + hh * 3600 + mi * 60 + sec) * usPerSecond + 0 + 0) tz 0 = { y, mo, d, c := { h := hh, m := mi, s := sec, us := 0, tz := tz, fold := 0 } } := by
  revert back
  generalize toOrdinal y mo d = n
  intro back
  have e1 : ((n * 86400 + hh * 3600 + mi * 60 + sec) * usPerSecond + 0 + 0).fdiv usPerDay = n := by
    unfold usPerSecond usPerDay
    rw [Int.fdiv_eq_ediv_of_nonneg _ (by decide)]
    omega
  have e2 : ((n * 86400 + hh * 3600 + mi * 60 + sec) * usPerSecond + 0 + 0).fmod usPerDay = (hh * 3600 + mi * 60 + sec) * 1000000 := by
    unfold usPerSecond usPerDay
    rw [Int.fmod_eq_emod_of_nonneg _ (by decide)]
    omega
  unfold Stamp.ofUs
  rw [e1, e2, back]
  dsimp only
  rw [show (hh * 3600 + mi * 60 + sec) * 1000000 / 3600000000 = hh by omega, show (hh * 3600 + mi * 60 + sec) * 1000000 / 60000000 % 60 = mi by omega, show (hh * 3600 + mi * 60 + sec) * 1000000 / 1000000 % 60 = sec by omega, show (hh * 3600 + mi * 60 + sec) * 1000000 % 1000000 = 0 by omega]
open PySem.Builtin._datetime in
theorem moved {a : Addr} {y mo d hh mi sec : Int} {Q : Value → Shared → Prop} (z : ZIn s.heap) (ha : s.heap.get? a = some (dtObj y mo d hh mi sec)) (y0 : 1 ≤ y) (y1 : y ≤ 9999) (m0 : 1 ≤ mo) (m1 : mo ≤ 12) (d0 : 1 ≤ d) (d1 : d ≤ daysInMonth y mo)
    (a0 : 0 ≤ hh) (a1 : hh ≤ 23) (b0 : 0 ≤ mi) (b1 : mi ≤ 59) (c0 : 0 ≤ sec) (c1 : sec ≤ 59) (n0 : 1 ≤ toOrdinal y mo d) (n1 : toOrdinal y mo d < 3652060) (back : ofOrdinal (toOrdinal y mo d) = (y, mo, d))
    (h : Q (.ref s.heap.objs.size) { s with heap := s.heap.push (dtObj y mo d hh mi sec) }) :
    wpAny (model prog w) A (movedStamp (.ref a) 0) Q E s := by
  have hT : s.TypeIs (.ref a) "datetime.datetime" := ⟨_, ha, rfl⟩
  unfold movedStamp stampOf stampOf? isDatetime
  refine wpAny_bind (wpAny_bind (wpAny_bind (wpAny_isInstance hT sub_dtdt ?_)))
  rw [if_neg (by decide)]
  refine wpAny_bind (wpAny_fieldsOf ha rfl ?_)
  dsimp only
  refine wpAny_pure ?_
  refine wpAny_pure ?_
  dsimp only
  have hT0 : s.TypeIs (.ref a) "datetime.datetime" := hT
  rw [if_neg]
  · refine wpAny_bind (wpAny_typeOf hT ?_)
    unfold Stamp.us
    dsimp only
    rw [ofUs_back a0 a1 b0 b1 c0 c1 back]
    exact new_stamp z y0 y1 m0 m1 d0 d1 a0 a1 b0 b1 c0 c1 rfl rfl h
  · unfold Stamp.us usPerSecond usPerDay
    dsimp only
    simp only [Bool.or_eq_true, decide_eq_true_eq]
    omega

theorem fu_call {q a : Addr} {y mo d hh mi sec : Int} {Q : Value → Shared → Prop} (z : ZIn s.heap) (hq : s.heap.get? q = some boundFu) (ha : s.heap.get? a = some (dtObj y mo d hh mi sec))
    (mv : ∀ {A' : Around} {E' : Value → Shared → Prop} {P : Value → Shared → Prop}, P (.ref s.heap.objs.size) { s with heap := s.heap.push (dtObj y mo d hh mi sec) } → wpAny (model prog w) A' (PySem.Builtin._datetime.movedStamp (.ref a) 0) P E' s)
    (h : Q (.ref s.heap.objs.size) { s with heap := s.heap.push (dtObj y mo d hh mi sec) }) :
    wpAny (model prog w) A (call (.ref q) [.ref a]) Q E s := by
  have hT : s.TypeIs (.ref a) "datetime.datetime" := ⟨_, ha, rfl⟩
  refine wpAny_call (codeAny_of_tree ?_)
  show wpAny _ A.in1 (callAny (.ref q) ⟨[.ref a], []⟩) _ _ s
  simp only [callAny]
  refine wpAny_bind (wpAny_load hq ?_)
  simp only [boundFu, show (Value.type "builtin_function_or_method" == Value.type "method" || Value.type "builtin_function_or_method" == Value.type "builtin_function_or_method" || Value.type "builtin_function_or_method" == Value.type "method-wrapper") = true by decide, if_true]
  refine KFB.if_so (by decide) ?_
  refine wpAny_bind (check_fu z ?_)
  refine wpAny_bind (wpAny_pure (wpAny_pure ?_))
  refine ⟨quiet_fu, codeAny_builtin entry_fu ?_⟩
  unfold Builtin.«datetime.timezone.fromutc»
  refine wpAny_bind (wpAny_of_eq (a := (.ref 39, .ref a)) (by first | rfl | kernel_rfl) ?_)
  dsimp only
  unfold PySem.Builtin._datetime.isDatetime
  refine wpAny_bind (wpAny_isInstance hT sub_dtdt ?_)
  rw [if_neg (by decide)]
  refine wpAny_bind (wpAny_field ha rfl (x := .ref 39) rfl ?_)
  rw [if_neg (by decide)]
  refine wpAny_bind (wpAny_field z.2 rfl (x := .ref 38) rfl ?_)
  refine wpAny_pure ?_
  refine ⟨quiet_dtadd, codeAny_builtin entry_dtadd ?_⟩
  unfold Builtin.«datetime.datetime.__add__»
  have hT2 : s.TypeIs (.ref 38) "datetime.timedelta" := ⟨_, z.1, rfl⟩
  refine wpAny_bind (wpAny_of_eq (a := (.ref a, [.ref 38])) (by first | rfl | kernel_rfl) ?_)
  dsimp only
  refine wpAny_bind ?_
  refine wpAny_bind (wpAny_isInstance hT sub_dtdt ?_)
  rw [if_pos rfl]
  unfold PySem.Builtin._datetime.deltaUs? PySem.Builtin._datetime.deltaParts?
  refine wpAny_bind (wpAny_bind (wpAny_bind (wpAny_isInstance hT2 sub_td ?_)))
  rw [if_neg (by decide)]
  refine wpAny_bind (wpAny_fieldsOf z.1 rfl ?_)
  dsimp only [o38]
  refine wpAny_pure ?_
  refine wpAny_pure ?_
  dsimp only [Option.map]
  show wpAny _ _ (PySem.Builtin._datetime.movedStamp (Value.ref a) 0) _ _ _
  exact mv (wpAny_pure h)

open PySem.Builtin._datetime in
theorem ord_range {y mo d : Int} (D : Day x y mo d) (h1 : -62135596800 ≤ x) (h2 : x < 253402300800) : 1 ≤ toOrdinal y mo d ∧ toOrdinal y mo d < 3652060 := by
  rw [D.ord, Int.fdiv_eq_ediv_of_nonneg _ (by decide)]
  omega
open PySem.Builtin._datetime in
theorem ord_back {y mo d : Int} (D : Day x y mo d) : ofOrdinal (toOrdinal y mo d) = (y, mo, d) := by
  rw [D.ord]
  unfold ofOrdinal
  rw [show x.fdiv 86400 + 719163 - 719163 = x.fdiv 86400 by omega]
  exact D.civ

/-- the moment as the model's datetime object -/
def stampObj (x y mo d : Int) : Obj := dtObj y mo d (x.fmod 86400 / 3600) (x.fmod 86400 % 3600 / 60) (x.fmod 86400 % 60)

theorem ft_run {y mo d : Int} {Q : Fin → Shared → Prop} (z : ZIn s.heap) (D : Day x y mo d) (h1 : -62135596800 ≤ x) (h2 : x < 253402300800)
    (h : ∀ (h' : Heap) (u : Tok), (∀ b o, s.heap.get? b = some o → h'.get? b = some o) → h'.objs.size = s.heap.objs.size + 2 → Q (.done (.ret (.ref (s.heap.objs.size + 2)))) { s with heap := h'.push (stampObj x y mo d), toks := u }) :
    wpAny (model prog w) A (Builtin.«datetime.datetime.fromtimestamp» ⟨[.type "datetime.datetime", .int x t], [(Str.ofString "tz", .ref 39)]⟩) Q E s := by
  have r0 := Int.fmod_nonneg_of_pos x (b := 86400) (by decide)
  have r1 := Int.fmod_lt_of_pos x (b := 86400) (by decide)
  obtain ⟨n0, n1⟩ := ord_range D h1 h2
  unfold Builtin.«datetime.datetime.fromtimestamp»
  refine wpAny_bind (wpAny_of_eq (a := (.type "datetime.datetime", [.int x t])) (by first | rfl | kernel_rfl) ?_)
  refine wpAny_bind (wpAny_of_eq (a := [some (.int x t), some (.ref 39)]) (by kernel_rfl) ?_)
  dsimp only
  refine wpAny_bind (check_tz z ?_)
  refine wpAny_bind (wpAny_of_eq (a := (x, 0)) ?_ ?_)
  · show (if (decide (x < -(2 ^ 63 : Int)) || decide (x ≥ 2 ^ 63)) = true then _ else (pure (x, 0) : Sem (Int × Int))) = _
    rw [if_neg]
    simp only [Bool.or_eq_true, decide_eq_true_eq]
    omega
  dsimp only
  refine wpAny_bind (stamp_at z D ?_)
  rw [if_neg (by decide)]
  refine wpAny_bind (wpAny_holding ?_)
  have k1 : ∀ b o, s.heap.get? b = some o → (s.heap.push (stampObj x y mo d)).get? b = some o := fun b o e => Heap.get?_push_of_some _ e
  refine wpAny_bind (fu_attr (s := { s with heap := s.heap.push (stampObj x y mo d) }) (z.keeps k1) fun u => ?_)
  have k2 : ∀ b o, s.heap.get? b = some o → ((s.heap.push (stampObj x y mo d)).push boundFu).get? b = some o := fun b o e => Heap.get?_push_of_some _ (k1 b o e)
  have hd : ((s.heap.push (stampObj x y mo d)).push boundFu).get? s.heap.objs.size = some (stampObj x y mo d) := Heap.get?_push_of_some _ (Heap.get?_push_size _ rfl)
  have hb : ((s.heap.push (stampObj x y mo d)).push boundFu).get? (s.heap.push (stampObj x y mo d)).objs.size = some boundFu := Heap.get?_push_size _ rfl
  have sz : ((s.heap.push (stampObj x y mo d)).push boundFu).objs.size = s.heap.objs.size + 2 := by rw [Heap.size_push, Heap.size_push]
  revert hd hb k2 sz
  generalize hB : (s.heap.push (stampObj x y mo d)).push boundFu = H
  intro k2 hd hb sz
  have fin : ∀ {P : Value → Shared → Prop}, P (.ref (s.heap.objs.size + 2)) { s with heap := H.push (stampObj x y mo d), toks := u } → P (.ref H.objs.size) { s with heap := H.push (stampObj x y mo d), toks := u } := fun {P} q => by rw [sz]; exact q
  refine fu_call (s := { s with heap := H, toks := u }) (z.keeps k2) hb hd (fun {A' E' P} hp => ?_) (fin (P := fun v s' => wpAny (model prog w) A (ret v) Q E s') (wpAny_pure (h H u k2 sz)))
  exact moved (s := { s with heap := H, toks := u }) (z.keeps k2) hd D.y0 D.y1 D.m0 D.m1 D.d0 D.d1 (by omega) (by omega) (by omega) (by omega) (by omega) (by omega) n0 n1 (ord_back D) hp
end
end Mine
end
section
open PySem PySem.W PySem.Calls PyProof.Rows
namespace Mine
set_option maxRecDepth 100000
set_option maxHeartbeats 8000000
section
variable {prog : Program} {w : World} {M : Model} {A : Around} {E : Value → Shared → Prop} {s : Shared} {x : Int} {t : Tok} {h₀ : Heap} {L : Addr} {m : Str → Option Value} {news : List (Addr × Obj)} {u : Addr}

def StandsFt (u : Addr) (h : Heap) : Prop := h.get? u = some boundFt
theorem stands_ft (N : News h₀ L s.heap news) (hm : (u, boundFt) ∈ news) : StandsFt u s.heap := N.get hm
theorem keeps_ft (h : Heap) (X : StandsFt u h) : ∃ k, (k = Keeper.frame ∨ k = Keeper.machine ∨ k = Keeper.boundFrame) ∧ Looks M h (keeperOf (.ref u)) k :=
  ⟨.machine, .inr (.inl rfl), (Looks.ld (part := none) X).andThen .now⟩
theorem callWith_ft {env : Env} {pos : Pos} {first : List Value} {Q : Value → Shared → Prop} {e : Expr} {rest : List Expr} {kws : List Keyword} (_N : News h₀ L s.heap news) (_hm : (u, boundFt) ∈ news) (hall : (backToKw pos (keywordEach kws env)).all (·.1.isSome) = true)
    (h : wpAny M A (spliced (backTo pos (starEach (e :: rest) env))) (fun vs s₁ => wpAny M A (evalAll ((backToKw pos (keywordEach kws env)).map (·.2)))
      (fun ks s₂ => StandsFt u s₂.heap ∧ wpAny M A (call (.ref u) (first ++ vs) (((backToKw pos (keywordEach kws env)).filterMap (·.1)).zip ks)) Q E s₂) E s₁) E s)
    (hplain : ((backTo pos (starEach (e :: rest) env)).any (·.1) || (backToKw pos (keywordEach kws env)).any (·.1.isNone)) = false := by rfl) (he : starEach (e :: rest) env = (false, eval e env) :: starEach rest env := by rfl) :
    wpAny M A (callWith pos (.ref u) first (backTo pos (starEach (e :: rest) env)) (backToKw pos (keywordEach kws env))) Q E s :=
  callWith_of hplain keeps_ft (evalArgs_kw2 hall h he)

theorem check_ft : checkBoundCall "datetime.datetime.fromtimestamp" ⟨[.type "datetime.datetime", .int x t], [(Str.ofString "tz", .ref 39)]⟩ = pure () := by first | kernel_rfl | rfl

theorem ft_call {y mo d : Int} {Q : Value → Shared → Prop} (F : Fr h₀ L s.heap m) (N : News h₀ L s.heap news) (hm : (u, boundFt) ∈ news) (z : ZIn h₀) (D : Day x y mo d) (h1 : -62135596800 ≤ x) (h2 : x < 253402300800)
    (h : ∀ a h' tk, Fr h₀ L h' m → News h₀ L h' ((a, stampObj x y mo d) :: news) → Q (.ref a) { s with heap := h', toks := tk }) :
    wpAny (model prog w) A (call (.ref u) [.int x t] [(Str.ofString "tz", .ref 39)]) Q E s := by
  refine wpAny_call (codeAny_of_tree ?_)
  show wpAny _ A.in1 (callAny (.ref u) ⟨[.int x t], [(Str.ofString "tz", .ref 39)]⟩) _ _ s
  simp only [callAny]
  refine wpAny_bind (wpAny_load (N.get hm) ?_)
  simp only [boundFt, show (Value.type "builtin_function_or_method" == Value.type "method" || Value.type "builtin_function_or_method" == Value.type "builtin_function_or_method" || Value.type "builtin_function_or_method" == Value.type "method-wrapper") = true by decide, if_true]
  refine KFB.if_so (by decide) ?_
  refine wpAny_bind (wpAny_of_eq (a := ()) check_ft ?_)
  refine wpAny_bind (wpAny_pure (wpAny_pure ?_))
  refine ⟨quiet_ft, codeAny_builtin entry_ft (ft_run (z.keeps F.keep) D h1 h2 fun h' tk k sz => ?_)⟩
  have F' : Fr h₀ L h' m := F.keeps k
  have N' : News h₀ L h' news := fun p hp => ⟨k _ _ (N p hp).1, (N p hp).2⟩
  have N2 := News.push F' N' (stampObj x y mo d)
  have e : s.heap.objs.size + 2 = h'.objs.size := sz.symm
  rw [e]
  exact h _ _ _ (F'.push _) N2

open PySem.Builtin._datetime in
theorem check_date_bad {y mo d : Int} {Q : Unit → Shared → Prop} (hh : A.handled = none) (hy : y < 1 ∨ 9999 < y) (hb0 : -1000000 ≤ y) (hb1 : y ≤ 1000000)
    (h : ∀ h' tk e, Heap.NewExc s.heap h' e "ValueError" → E (.ref e) { s with heap := h', toks := tk }) : wpAny (model prog w) A (checkDate y mo d) Q E s := by
  unfold checkDate
  rw [if_pos (by simp only [Bool.or_eq_true, decide_eq_true_eq]; omega)]
  refine wpAny_bind (wpAny_rule ?_)
  refine wpAny_bind (wpAny_raiseErrorMade plainExc_ValueError hh h ?_)
  have l := int_text_length_le10 (a := y) (k := 10) (by decide) (by omega)
  rw [PySem.ofString_length, sizeLine_eq]
  have e1 : (toString "year " : String).length ≤ 100 := by decide
  have e2 : (toString " is out of range" : String).length ≤ 100 := by decide
  simp only [String.length_append]
  omega
/-- the moment stands outside of the years 1 to 9999 -/
structure Off (x y mo d : Int) : Prop where
  civ : PySem.Builtin.Time.timeCivil (x.fdiv 86400) = (y, mo, d)
  out : y < 1 ∨ 9999 < y
  y0 : -1000000 ≤ y
  y1 : y ≤ 1000000
open PySem.Builtin._datetime in
theorem ft_run_bad {y mo d : Int} {Q : Fin → Shared → Prop} (z : ZIn s.heap) (D : Off x y mo d) (hh : A.handled = none) (h1 : -(2 ^ 63) ≤ x) (h2 : x < 2 ^ 63)
    (h : ∀ h' tk e, Heap.NewExc s.heap h' e "ValueError" → E (.ref e) { s with heap := h', toks := tk }) :
    wpAny (model prog w) A (Builtin.«datetime.datetime.fromtimestamp» ⟨[.type "datetime.datetime", .int x t], [(Str.ofString "tz", .ref 39)]⟩) Q E s := by
  unfold Builtin.«datetime.datetime.fromtimestamp»
  refine wpAny_bind (wpAny_of_eq (a := (.type "datetime.datetime", [.int x t])) (by first | rfl | kernel_rfl) ?_)
  refine wpAny_bind (wpAny_of_eq (a := [some (.int x t), some (.ref 39)]) (by kernel_rfl) ?_)
  dsimp only
  refine wpAny_bind (check_tz z ?_)
  refine wpAny_bind (wpAny_of_eq (a := (x, 0)) ?_ ?_)
  · show (if (decide (x < -(2 ^ 63 : Int)) || decide (x ≥ 2 ^ 63)) = true then _ else (pure (x, 0) : Sem (Int × Int))) = _
    rw [if_neg]
    simp only [Bool.or_eq_true, decide_eq_true_eq]
    omega
  dsimp only
  refine wpAny_bind ?_
  obtain ⟨wd, yd, e⟩ := broken_of D.civ
  unfold stampAtMoment
  refine wpAny_bind (wpAny_askSetting ?_)
  simp only [show (((some (Value.ref 39)).getD Value.none != Value.none) = true) from by decide, if_true]
  rw [e]
  dsimp only
  have hy : dtShownYear y = pure y := by
    have := D.y0
    have := D.y1
    unfold dtShownYear
    rw [if_neg (by simp only [Bool.or_eq_true, decide_eq_true_eq]; omega), if_neg (by omega)]
  refine wpAny_bind (wpAny_of_eq hy ?_)
  rw [if_neg (by decide)]
  unfold newStampOf
  rw [if_pos (by decide)]
  unfold newStampRaw
  refine wpAny_bind (check_date_bad hh D.out D.y0 D.y1 h)
theorem ft_call_bad {y mo d : Int} {Q : Value → Shared → Prop} (F : Fr h₀ L s.heap m) (N : News h₀ L s.heap news) (hm : (u, boundFt) ∈ news) (z : ZIn h₀) (D : Off x y mo d) (hh : A.handled = none) (h1 : -(2 ^ 63) ≤ x) (h2 : x < 2 ^ 63)
    (h : ∀ h' tk e, Heap.NewExc s.heap h' e "ValueError" → E (.ref e) { s with heap := h', toks := tk }) :
    wpAny (model prog w) A (call (.ref u) [.int x t] [(Str.ofString "tz", .ref 39)]) Q E s := by
  refine wpAny_call (codeAny_of_tree ?_)
  show wpAny _ A.in1 (callAny (.ref u) ⟨[.int x t], [(Str.ofString "tz", .ref 39)]⟩) _ _ s
  simp only [callAny]
  refine wpAny_bind (wpAny_load (N.get hm) ?_)
  simp only [boundFt, show (Value.type "builtin_function_or_method" == Value.type "method" || Value.type "builtin_function_or_method" == Value.type "builtin_function_or_method" || Value.type "builtin_function_or_method" == Value.type "method-wrapper") = true by decide, if_true]
  refine KFB.if_so (by decide) ?_
  refine wpAny_bind (wpAny_of_eq (a := ()) check_ft ?_)
  refine wpAny_bind (wpAny_pure (wpAny_pure ?_))
  exact ⟨quiet_ft, codeAny_builtin entry_ft (ft_run_bad (z.keeps F.keep) D hh h1 h2 h)⟩
end
end Mine
end
section
local macro_rules | `(tactic| walk_at "idle 0") => `(tactic| skip)
local macro_rules | `(tactic| walk_at "idle 1") => `(tactic| skip)
local macro_rules | `(tactic| walk_at "idle 2") => `(tactic| skip)
local macro_rules | `(tactic| walk_at "idle 3") => `(tactic| skip)
local macro_rules | `(tactic| walk_at "idle 4") => `(tactic| skip)
local macro_rules | `(tactic| walk_at "idle 5") => `(tactic| skip)
local macro_rules | `(tactic| walk_at "idle 6") => `(tactic| skip)
local macro_rules | `(tactic| walk_at "idle 7") => `(tactic| skip)
local macro_rules | `(tactic| walk_at "idle 8") => `(tactic| skip)
local macro_rules | `(tactic| walk_at "idle 9") => `(tactic| skip)
local macro_rules | `(tactic| walk_at "idle 10") => `(tactic| skip)
local macro_rules | `(tactic| walk_at "idle 11") => `(tactic| skip)
local macro_rules | `(tactic| walk_at "idle 12") => `(tactic| skip)
local macro_rules | `(tactic| walk_at "idle 13") => `(tactic| skip)
local macro_rules | `(tactic| walk_at "idle 14") => `(tactic| skip)
local macro_rules | `(tactic| walk_at "idle 15") => `(tactic| skip)
local macro_rules | `(tactic| walk_at "idle 16") => `(tactic| skip)
local macro_rules | `(tactic| walk_at "idle 17") => `(tactic| skip)
local macro_rules | `(tactic| walk_at "idle 18") => `(tactic| skip)
local macro_rules | `(tactic| walk_at "idle 19") => `(tactic| skip)
local macro_rules | `(tactic| walk_at "idle 20") => `(tactic| skip)
local macro_rules | `(tactic| walk_at "idle 21") => `(tactic| skip)
local macro_rules | `(tactic| walk_at "idle 22") => `(tactic| skip)
local macro_rules | `(tactic| walk_at "idle 23") => `(tactic| skip)
local macro_rules | `(tactic| walk_at "idle 24") => `(tactic| skip)
open PySem PySem.W PySem.Calls PyProof.Rows
namespace Mine
set_option maxRecDepth 100000
set_option maxHeartbeats 8000000

@[irreducible] def hourOf (x : Int) : Int := x.fmod 86400 / 3600
@[irreducible] def minOf (x : Int) : Int := x.fmod 86400 % 3600 / 60
@[irreducible] def secOf (x : Int) : Int := x.fmod 86400 % 60
@[irreducible] def wdOf (x : Int) : Int := (x.fdiv 86400 + 3) % 7
theorem hourOf_def (x : Int) : hourOf x = x.fmod 86400 / 3600 := by unfold hourOf; rfl
theorem minOf_def (x : Int) : minOf x = x.fmod 86400 % 3600 / 60 := by unfold minOf; rfl
theorem secOf_def (x : Int) : secOf x = x.fmod 86400 % 60 := by unfold secOf; rfl
theorem wdOf_def (x : Int) : wdOf x = (x.fdiv 86400 + 3) % 7 := by unfold wdOf; rfl
theorem hourOf_ge (x : Int) : 0 ≤ hourOf x := by have r := Int.fmod_nonneg_of_pos x (b := 86400) (by decide); rw [hourOf_def]; omega
theorem hourOf_lt (x : Int) : hourOf x < 24 := by have r := Int.fmod_lt_of_pos x (b := 86400) (by decide); rw [hourOf_def]; omega
theorem minOf_ge (x : Int) : 0 ≤ minOf x := by rw [minOf_def]; omega
theorem minOf_lt (x : Int) : minOf x < 60 := by rw [minOf_def]; omega
theorem secOf_ge (x : Int) : 0 ≤ secOf x := by rw [secOf_def]; omega
theorem secOf_lt (x : Int) : secOf x < 60 := by rw [secOf_def]; omega
theorem wdOf_ge (x : Int) : 0 ≤ wdOf x := by rw [wdOf_def]; omega
theorem wdOf_lt (x : Int) : wdOf x < 7 := by rw [wdOf_def]; omega

theorem get_month : GetFacts "month" "datetime.date.month" "datetime.date" 1 where
  lk := by rw [typeLookup_type, builtinLookup_eq_fast]; kernel_rfl
  ty := by first | kernel_rfl | (show builtinType _ = _; rw [builtinType_eq_fast]; kernel_rfl)
  own := by decide +kernel
  sub := by rw [isSubtype_type]; kernel_rfl
  entry := entryFor_of_tree (by kernel_rfl)
  quiet := fun _ => Code.quiet_builtin _ (by decide +kernel)
theorem get_day : GetFacts "day" "datetime.date.day" "datetime.date" 2 where
  lk := by rw [typeLookup_type, builtinLookup_eq_fast]; kernel_rfl
  ty := by first | kernel_rfl | (show builtinType _ = _; rw [builtinType_eq_fast]; kernel_rfl)
  own := by decide +kernel
  sub := by rw [isSubtype_type]; kernel_rfl
  entry := entryFor_of_tree (by kernel_rfl)
  quiet := fun _ => Code.quiet_builtin _ (by decide +kernel)
theorem get_minute : GetFacts "minute" "datetime.datetime.minute" "datetime.datetime" 4 where
  lk := by rw [typeLookup_type, builtinLookup_eq_fast]; kernel_rfl
  ty := by first | kernel_rfl | (show builtinType _ = _; rw [builtinType_eq_fast]; kernel_rfl)
  own := by decide +kernel
  sub := by rw [isSubtype_type]; kernel_rfl
  entry := entryFor_of_tree (by kernel_rfl)
  quiet := fun _ => Code.quiet_builtin _ (by decide +kernel)
theorem get_second : GetFacts "second" "datetime.datetime.second" "datetime.datetime" 5 where
  lk := by rw [typeLookup_type, builtinLookup_eq_fast]; kernel_rfl
  ty := by first | kernel_rfl | (show builtinType _ = _; rw [builtinType_eq_fast]; kernel_rfl)
  own := by decide +kernel
  sub := by rw [isSubtype_type]; kernel_rfl
  entry := entryFor_of_tree (by kernel_rfl)
  quiet := fun _ => Code.quiet_builtin _ (by decide +kernel)

section
variable {prog : Program} {w : World} {A : Around} {E : Value → Shared → Prop} {s : Shared} {x y mo d : Int} {h₀ : Heap} {L a : Addr} {m : Str → Option Value} {news : List (Addr × Obj)} {K : Frag} {expr : Bool} {Q : Value → Shared → Prop}

theorem at_year (N : News h₀ L s.heap news) (hm : (a, stampObj x y mo d) ∈ news) (h : ∀ tk u, Q (.int y tk) { s with toks := u }) : wpAny (model prog w) A (getAttr (.ref a) "year" expr) Q E s :=
  dt_attr get_year (N.get hm) rfl rfl rfl h
theorem at_month (N : News h₀ L s.heap news) (hm : (a, stampObj x y mo d) ∈ news) (h : ∀ tk u, Q (.int mo tk) { s with toks := u }) : wpAny (model prog w) A (getAttr (.ref a) "month" expr) Q E s :=
  dt_attr get_month (N.get hm) rfl rfl rfl h
theorem at_day (N : News h₀ L s.heap news) (hm : (a, stampObj x y mo d) ∈ news) (h : ∀ tk u, Q (.int d tk) { s with toks := u }) : wpAny (model prog w) A (getAttr (.ref a) "day" expr) Q E s :=
  dt_attr get_day (N.get hm) rfl rfl rfl h
theorem at_hour (N : News h₀ L s.heap news) (hm : (a, stampObj x y mo d) ∈ news) (h : ∀ tk u, Q (.int (hourOf x) tk) { s with toks := u }) : wpAny (model prog w) A (getAttr (.ref a) "hour" expr) Q E s :=
  dt_attr get_hour (N.get hm) rfl rfl rfl fun tk u => by have := h tk u; rw [hourOf_def] at this; exact this
theorem at_minute (N : News h₀ L s.heap news) (hm : (a, stampObj x y mo d) ∈ news) (h : ∀ tk u, Q (.int (minOf x) tk) { s with toks := u }) : wpAny (model prog w) A (getAttr (.ref a) "minute" expr) Q E s :=
  dt_attr get_minute (N.get hm) rfl rfl rfl fun tk u => by have := h tk u; rw [minOf_def] at this; exact this
theorem at_second (N : News h₀ L s.heap news) (hm : (a, stampObj x y mo d) ∈ news) (h : ∀ tk u, Q (.int (secOf x) tk) { s with toks := u }) : wpAny (model prog w) A (getAttr (.ref a) "second" expr) Q E s :=
  dt_attr get_second (N.get hm) rfl rfl rfl fun tk u => by have := h tk u; rw [secOf_def] at this; exact this

theorem slot_wd : Slot "datetime.datetime" "weekday" "datetime.date.weekday" :=
  .of (owner := "datetime.date") (n := "weekday") (by rw [typeLookup_type, builtinLookup_eq_fast]; kernel_rfl) (by decide +kernel) (by decide +kernel) (by decide +kernel)
    (by first | exact .inl (by decide +kernel) | exact .inr (by decide +kernel)) (by rw [isSubtype_type]; kernel_rfl)
theorem type_wd : typeOf (.builtin "datetime.date.weekday") = pure (.type "method_descriptor") := by show builtinType _ = _; rw [builtinType_eq_fast]; kernel_rfl
theorem plain_dt : PlainAttrs "datetime.datetime" where
  ga := ⟨"object.__getattribute__", ga_dt.lookup, by decide +kernel⟩
  noGetattr := by rw [typeLookup_type, builtinLookup_eq_fast]; kernel_rfl
theorem entry_wd : entryFor table "datetime.date.weekday" = some Builtin.«datetime.date.weekday» := entryFor_of_tree (by kernel_rfl)
theorem args_wd (a : Value) : argsOk "datetime.date.weekday" ⟨[a], []⟩ := by unfold argsOk; kernel_rfl
theorem getm_wd {pl : Sem Bool} {Q : Value × List Value → Shared → Prop} (N : News h₀ L s.heap news) (hm : (a, stampObj x y mo d) ∈ news) (h : Q (.builtin "datetime.date.weekday", [.ref a]) s) :
    wpAny (model prog w) A (getMethod (.ref a) "weekday" pl) Q E s :=
  getMethod_builtin (T := "datetime.datetime") ⟨_, N.get hm, rfl⟩ plain_dt slot_wd type_wd (fun b e => by cases e; exact ⟨_, N.get hm, rfl⟩) h
open PySem.Builtin._datetime in
theorem call_wd (N : News h₀ L s.heap news) (hm : (a, stampObj x y mo d) ∈ news) (D : Day x y mo d) (h : ∀ tk u, Q (.int (wdOf x) tk) { s with toks := u }) :
    wpAny (model prog w) A (call (.builtin "datetime.date.weekday") [.ref a]) Q E s := by
  have hT : s.TypeIs (.ref a) "datetime.datetime" := ⟨_, N.get hm, rfl⟩
  have ho := N.get hm
  refine wpAny_call (codeAny_call_builtin slot_wd.plain entry_wd (slot_wd.check _ _ _ _ _ _ _ _ hT (args_wd _) ?_))
  unfold Builtin.«datetime.date.weekday»
  refine wpAny_bind (wpAny_of_eq (a := Value.ref a) (by first | rfl | kernel_rfl) ?_)
  unfold dateParts dateParts?
  refine wpAny_bind (wpAny_bind (wpAny_bind (wpAny_isInstance hT sub_dtd ?_)))
  rw [if_neg (by decide)]
  refine wpAny_bind (wpAny_fieldsOf ho rfl ?_)
  dsimp only
  refine wpAny_pure ?_
  refine wpAny_pure ?_
  dsimp only
  refine wpAny_bind (wpAny_mkInt ?_)
  refine wpAny_pure ?_
  have e : weekdayOf (toOrdinal y mo d) = wdOf x := by
    unfold weekdayOf
    rw [D.ord, wdOf_def]
    omega
  rw [e]
  exact h _ _
end
end Mine
end
section
open PySem PySem.W PySem.Calls PyProof.Rows
namespace Mine
set_option maxRecDepth 100000
set_option maxHeartbeats 8000000
section
variable {prog : Program} {w : World} {A : Around} {E : Value → Shared → Prop} {s : Shared} {h₀ : Heap} {L a : Addr} {m : Str → Option Value} {K : Frag} {Q : Value → Shared → Prop}

@[irreducible] def dayName (k : Int) : Str := (([Str.ofString "Mon", Str.ofString "Tue", Str.ofString "Wed", Str.ofString "Thu", Str.ofString "Fri", Str.ofString "Sat", Str.ofString "Sun"] : List Str)[k.toNat]?).getD (Str.ofString "")
theorem dayName_def (k : Int) : dayName k = (([Str.ofString "Mon", Str.ofString "Tue", Str.ofString "Wed", Str.ofString "Thu", Str.ofString "Fri", Str.ofString "Sat", Str.ofString "Sun"] : List Str)[k.toNat]?).getD (Str.ofString "") := by unfold dayName; rfl
theorem dayName_len (k : Int) : (dayName k).length ≤ 3 := by
  rw [dayName_def]
  rcases Nat.lt_or_ge k.toNat 7 with h | h
  · revert h
    generalize k.toNat = j
    intro h
    match j, h with
    | 0, _ => decide
    | 1, _ => decide
    | 2, _ => decide
    | 3, _ => decide
    | 4, _ => decide
    | 5, _ => decide
    | 6, _ => decide
  · rw [List.getElem?_eq_none (by simpa using h)]
    decide
theorem days_item {value slice : PySem.Expr} {dd : Option Addr} {sl : Array (Option Value)} {n : Nat} {k : Int} {u t0 t1 t2 t3 t4 t5 t6 : Tok} (F : Fr h₀ L s.heap m) (X₀ : K.In h₀) (hl : K.lookup a = some ⟨.type "list", dd, .seq (List.toArray [Value.str (Str.ofString "Mon") t0, Value.str (Str.ofString "Tue") t1, Value.str (Str.ofString "Wed") t2, Value.str (Str.ofString "Thu") t3, Value.str (Str.ofString "Fri") t4, Value.str (Str.ofString "Sat") t5, Value.str (Str.ofString "Sun") t6]) n, sl⟩)
    (k0 : 0 ≤ k) (k1 : k < 7) (hs : subscripted slice false (.ref a) (.int k u) = operate [.ref a, .int k u] (getItem (.ref a) (.int k u))) (h : ∀ t, Q (.str (dayName k) t) s) : wpAny (model prog w) A (subscriptTail value slice (.ref a) (.int k u)) Q E s := by
  have e : ∃ t, ([Value.str (Str.ofString "Mon") t0, Value.str (Str.ofString "Tue") t1, Value.str (Str.ofString "Wed") t2, Value.str (Str.ofString "Thu") t3, Value.str (Str.ofString "Fri") t4, Value.str (Str.ofString "Sat") t5, Value.str (Str.ofString "Sun") t6] : List Value)[k.toNat]? = some (.str (dayName k) t) := by
    rw [dayName_def]
    have hj : k.toNat < 7 := by omega
    revert hj
    generalize k.toNat = j
    intro hj
    match j, hj with
    | 0, _ => exact ⟨_, rfl⟩
    | 1, _ => exact ⟨_, rfl⟩
    | 2, _ => exact ⟨_, rfl⟩
    | 3, _ => exact ⟨_, rfl⟩
    | 4, _ => exact ⟨_, rfl⟩
    | 5, _ => exact ⟨_, rfl⟩
    | 6, _ => exact ⟨_, rfl⟩
  obtain ⟨t, e⟩ := e
  exact topList_K F X₀ hl k0 (by omega) e (h t) hs

@[irreducible] def monName (k : Int) : Str := (([Str.ofString "Jan", Str.ofString "Feb", Str.ofString "Mar", Str.ofString "Apr", Str.ofString "May", Str.ofString "Jun", Str.ofString "Jul", Str.ofString "Aug", Str.ofString "Sep", Str.ofString "Oct", Str.ofString "Nov", Str.ofString "Dec"] : List Str)[k.toNat]?).getD (Str.ofString "")
theorem monName_def (k : Int) : monName k = (([Str.ofString "Jan", Str.ofString "Feb", Str.ofString "Mar", Str.ofString "Apr", Str.ofString "May", Str.ofString "Jun", Str.ofString "Jul", Str.ofString "Aug", Str.ofString "Sep", Str.ofString "Oct", Str.ofString "Nov", Str.ofString "Dec"] : List Str)[k.toNat]?).getD (Str.ofString "") := by unfold monName; rfl
theorem monName_len (k : Int) : (monName k).length ≤ 3 := by
  rw [monName_def]
  rcases Nat.lt_or_ge k.toNat 12 with h | h
  · revert h
    generalize k.toNat = j
    intro h
    match j, h with
    | 0, _ => decide
    | 1, _ => decide
    | 2, _ => decide
    | 3, _ => decide
    | 4, _ => decide
    | 5, _ => decide
    | 6, _ => decide
    | 7, _ => decide
    | 8, _ => decide
    | 9, _ => decide
    | 10, _ => decide
    | 11, _ => decide
  · rw [List.getElem?_eq_none (by simpa using h)]
    decide
theorem mons_item {value slice : PySem.Expr} {dd : Option Addr} {sl : Array (Option Value)} {n : Nat} {k : Int} {u t0 t1 t2 t3 t4 t5 t6 t7 t8 t9 t10 t11 : Tok} (F : Fr h₀ L s.heap m) (X₀ : K.In h₀) (hl : K.lookup a = some ⟨.type "list", dd, .seq (List.toArray [Value.str (Str.ofString "Jan") t0, Value.str (Str.ofString "Feb") t1, Value.str (Str.ofString "Mar") t2, Value.str (Str.ofString "Apr") t3, Value.str (Str.ofString "May") t4, Value.str (Str.ofString "Jun") t5, Value.str (Str.ofString "Jul") t6, Value.str (Str.ofString "Aug") t7, Value.str (Str.ofString "Sep") t8, Value.str (Str.ofString "Oct") t9, Value.str (Str.ofString "Nov") t10, Value.str (Str.ofString "Dec") t11]) n, sl⟩)
    (k0 : 0 ≤ k) (k1 : k < 12) (hs : subscripted slice false (.ref a) (.int k u) = operate [.ref a, .int k u] (getItem (.ref a) (.int k u))) (h : ∀ t, Q (.str (monName k) t) s) : wpAny (model prog w) A (subscriptTail value slice (.ref a) (.int k u)) Q E s := by
  have e : ∃ t, ([Value.str (Str.ofString "Jan") t0, Value.str (Str.ofString "Feb") t1, Value.str (Str.ofString "Mar") t2, Value.str (Str.ofString "Apr") t3, Value.str (Str.ofString "May") t4, Value.str (Str.ofString "Jun") t5, Value.str (Str.ofString "Jul") t6, Value.str (Str.ofString "Aug") t7, Value.str (Str.ofString "Sep") t8, Value.str (Str.ofString "Oct") t9, Value.str (Str.ofString "Nov") t10, Value.str (Str.ofString "Dec") t11] : List Value)[k.toNat]? = some (.str (monName k) t) := by
    rw [monName_def]
    have hj : k.toNat < 12 := by omega
    revert hj
    generalize k.toNat = j
    intro hj
    match j, hj with
    | 0, _ => exact ⟨_, rfl⟩
    | 1, _ => exact ⟨_, rfl⟩
    | 2, _ => exact ⟨_, rfl⟩
    | 3, _ => exact ⟨_, rfl⟩
    | 4, _ => exact ⟨_, rfl⟩
    | 5, _ => exact ⟨_, rfl⟩
    | 6, _ => exact ⟨_, rfl⟩
    | 7, _ => exact ⟨_, rfl⟩
    | 8, _ => exact ⟨_, rfl⟩
    | 9, _ => exact ⟨_, rfl⟩
    | 10, _ => exact ⟨_, rfl⟩
    | 11, _ => exact ⟨_, rfl⟩
  obtain ⟨t, e⟩ := e
  exact topList_K F X₀ hl k0 (by omega) e (h t) hs
end
end Mine
end
section
local macro_rules | `(tactic| walk_at "idle 0") => `(tactic| skip)
local macro_rules | `(tactic| walk_at "idle 1") => `(tactic| skip)
local macro_rules | `(tactic| walk_at "idle 2") => `(tactic| skip)
local macro_rules | `(tactic| walk_at "idle 3") => `(tactic| skip)
local macro_rules | `(tactic| walk_at "idle 4") => `(tactic| skip)
local macro_rules | `(tactic| walk_at "idle 5") => `(tactic| skip)
local macro_rules | `(tactic| walk_at "idle 6") => `(tactic| skip)
local macro_rules | `(tactic| walk_at "idle 7") => `(tactic| skip)
local macro_rules | `(tactic| walk_at "idle 8") => `(tactic| skip)
local macro_rules | `(tactic| walk_at "idle 9") => `(tactic| skip)
local macro_rules | `(tactic| walk_at "idle 10") => `(tactic| skip)
local macro_rules | `(tactic| walk_at "idle 11") => `(tactic| skip)
local macro_rules | `(tactic| walk_at "idle 12") => `(tactic| skip)
local macro_rules | `(tactic| walk_at "idle 13") => `(tactic| skip)
local macro_rules | `(tactic| walk_at "idle 14") => `(tactic| skip)
local macro_rules | `(tactic| walk_at "idle 15") => `(tactic| skip)
local macro_rules | `(tactic| walk_at "idle 16") => `(tactic| skip)
local macro_rules | `(tactic| walk_at "idle 17") => `(tactic| skip)
local macro_rules | `(tactic| walk_at "idle 18") => `(tactic| skip)
local macro_rules | `(tactic| walk_at "idle 19") => `(tactic| skip)
local macro_rules | `(tactic| walk_at "idle 20") => `(tactic| skip)
local macro_rules | `(tactic| walk_at "idle 21") => `(tactic| skip)
local macro_rules | `(tactic| walk_at "idle 22") => `(tactic| skip)
local macro_rules | `(tactic| walk_at "idle 23") => `(tactic| skip)
local macro_rules | `(tactic| walk_at "idle 24") => `(tactic| skip)
open PySem PySem.W PySem.Calls PyProof.Rows PySem.Builtin PySem.Builtin.Str
namespace Mine
set_option maxRecDepth 100000
set_option maxHeartbeats 8000000



/-- the signs of an int's text -/
def sgs (n : Int) : List Nat := (Str.ofString (toString n)).cps.toList
/-- an int's text, filled up with noughts to W signs -/
@[irreducible] def padI (W : Nat) (n : Int) : Str := ⟨(List.replicate (W - (sgs n).length) 48 ++ sgs n).toArray⟩
theorem padI_def (W : Nat) (n : Int) : padI W n = ⟨(List.replicate (W - (sgs n).length) 48 ++ sgs n).toArray⟩ := by unfold padI; rfl

theorem sgs_digits {n : Int} (h : 0 ≤ n) : ∀ c ∈ sgs n, 48 ≤ c ∧ c ≤ 57 := by
  obtain ⟨m, rfl⟩ := Int.eq_ofNat_of_zero_le h
  intro c hc
  unfold sgs at hc
  rw [Str.ofString_eq_toList] at hc
  have e : toString (m : Int) = Nat.repr m := rfl
  rw [e, Nat.toList_repr] at hc
  simp only [List.mem_map] at hc
  obtain ⟨ch, hm, rfl⟩ := hc
  have := Nat.isDigit_of_mem_toDigits (by decide) (by decide) hm
  simp only [Char.isDigit, Bool.and_eq_true, decide_eq_true_eq] at this
  exact ⟨this.1, this.2⟩

theorem pf_zero {c : Percent} {W : Nat} {n : Int} (hn : 0 ≤ n) (hl : c.ljust = false) (hs : c.sign = false) (hb : c.blank = false) (ha : c.alt = false) (hz : c.zero = true) (hw : c.width = some W) (hp : c.prec = none) (ht : c.type = 100) :
    (percentField c true (sgs n) = none ∧ padI W n = ⟨(sgs n).toArray⟩) ∨ percentField c true (sgs n) = some (List.replicate (W - (sgs n).length) 48 ++ sgs n) := by
  have hd := sgs_digits hn
  rw [padI_def]
  unfold percentField
  simp only [hw, hp, hs, hb, ha, hz, hl, ht, Option.all_some, Option.all_none, Bool.not_false, Bool.and_true, Bool.false_and, decide_eq_true_eq]
  by_cases hW : W ≤ (sgs n).length
  · rw [if_pos hW]
    exact .inl ⟨rfl, by rw [Nat.sub_eq_zero_of_le hW]; rfl⟩
  · rw [if_neg hW]
    refine .inr ?_
    revert hd
    cases hg : sgs n with
    | nil => intro _; rfl
    | cons a r =>
      intro hd
      have h1 := hd a (.head _)
      have n1 : a ≠ 45 := by omega
      have n2 : a ≠ 43 := by omega
      have e : ((100 : Nat) == 115 || (100 : Nat) == 114 || (100 : Nat) == 97) = false := by decide
      simp only [e, Bool.false_eq_true, if_false, Bool.not_true]
      rw [if_pos trivial]
      split
      · rename_i h; injection h with h _; exact absurd h n1
      · rename_i h; injection h with h _; exact absurd h n2
      · simp
theorem obj_no {x : Str} {o : Option Value} (h : o = none) : KPc.Obj o x := KPc.obj_none h
section
variable {M : Model} {A : Around} {E : Value → Shared → Prop} {s : Shared} {p : List Value} {r : List Nat} {Q : ForInStep (List Value × Writer × List Nat) → Shared → Prop} {w : Writer} {T : Str} {N : Nat} {o : Option Value}
theorem pad_len {W : Nat} {n : Int} (hn : 0 ≤ n) (hm : n < 10 ^ 10) (hW : W ≤ 10) : (padI W n).length ≤ 10 := by
  have l := toString_length_le hn (k := 10) (by decide) hm
  have e : (sgs n).length = (Str.ofString (toString n)).length := by unfold sgs Str.length; simp
  rw [padI_def]
  show (List.toArray _).size ≤ 10
  simp only [List.size_toArray, List.length_append, List.length_replicate]
  omega
theorem after_pad {c : Percent} {n : Int} {d : List Nat} {W : Nat} (g : KPc.Good w T N) (hn : 0 ≤ n) (hm : n < 10 ^ 10) (hd : d = (Str.ofString (toString ((n.natAbs : Nat) : Int))).cps.toList)
    (hw : c.width = some W) (hl : c.ljust = false) (hs : c.sign = false) (hb : c.blank = false) (ha : c.alt = false) (hz : c.zero = true) (hp : c.prec = none) (ht : c.type = 100) (hW : W ≤ 10) (ho : o = none)
    (h : ∀ w', KPc.Good w' (T ++ padI W n) (N + 10) → Q (.yield (p, w', r)) s) :
    wpAny M A (match percentField c true (percentInt c (decide (n < 0)) d) with
      | none => pure (.yield (p, w.add ⟨(percentInt c (decide (n < 0)) d).toArray⟩ o, r))
      | some laid => pure (.yield (p, w.add ⟨laid.toArray⟩, r))) Q E s := by
  have en : ((n.natAbs : Nat) : Int) = n := Int.natAbs_of_nonneg hn
  rw [en] at hd
  have e1 : percentInt c (decide (n < 0)) d = sgs n := by rw [KPc.int_text c ha (.inl ht) hp hn, hd]; rfl
  have l := pad_len hn hm hW
  rw [e1]
  rcases pf_zero hn hl hs hb ha hz hw hp ht with ⟨e2, e3⟩ | e2
  · rw [e2]
    dsimp only
    rw [← e3]
    exact wpAny_pure (h _ (KPc.good_mono (KPc.good_add g (obj_no ho)) (Nat.add_le_add_left l _)))
  · rw [e2]
    dsimp only
    rw [← padI_def]
    exact wpAny_pure (h _ (KPc.good_mono (KPc.good_add g (obj_no rfl)) (Nat.add_le_add_left l _)))
theorem after_pad0 {c : Percent} {n : Int} {d : List Nat} {W : Nat} (g : KPc.Good w Str.empty N) (hn : 0 ≤ n) (hm : n < 10 ^ 10) (hd : d = (Str.ofString (toString ((n.natAbs : Nat) : Int))).cps.toList)
    (hw : c.width = some W) (hl : c.ljust = false) (hs : c.sign = false) (hb : c.blank = false) (ha : c.alt = false) (hz : c.zero = true) (hp : c.prec = none) (ht : c.type = 100) (hW : W ≤ 10) (ho : o = none)
    (h : ∀ w', KPc.Good w' (padI W n) (N + 10) → Q (.yield (p, w', r)) s) :
    wpAny M A (match percentField c true (percentInt c (decide (n < 0)) d) with
      | none => pure (.yield (p, w.add ⟨(percentInt c (decide (n < 0)) d).toArray⟩ o, r))
      | some laid => pure (.yield (p, w.add ⟨laid.toArray⟩, r))) Q E s :=
  after_pad g hn hm hd hw hl hs hb ha hz hp ht hW ho fun w' g' => h w' (by rw [KPc.empty_app] at g'; exact g')
end

abbrev St := List Value × Writer × List Nat
section
variable {M : Model} {A : Around} {E : Value → Shared → Prop} {s : Shared} {α β : Type} {Q : α → Shared → Prop}
theorem jump {t : Sem α} {c : Prop} [Decidable c] {U : Sem α} {m : Sem β} {k : β → Sem α} (e : t = ite c U (m >>= k)) (hc : ¬ c) (h : wpAny M A m (fun a s' => wpAny M A (k a) Q E s') E s) : wpAny M A t Q E s := by
  rw [e, if_neg hc]
  exact wpAny_bind h
theorem jump0 {t : Sem α} {c : Prop} [Decidable c] {U m : Sem α} (e : t = ite c U m) (hc : ¬ c) (h : wpAny M A m Q E s) : wpAny M A t Q E s := by
  rw [e, if_neg hc]
  exact h
end
def Stops (f : Bool → Nat → St → Sem (ForInStep St)) : Prop := ∀ {prog : Program} {w : World} {A : Around} {s : Shared} {E : Value → Shared → Prop} {Q : ForInStep St → Shared → Prop} {bo : Bool} {x : Nat} {p : List Value} {wr : Writer} {T : Str} {N : Nat},
  KPc.Good wr T N → N ≤ 16777216 → Q (.done (p, wr, [])) s → wpAny (model prog w) A (f bo x (p, wr, [])) Q E s
def Lit (f : Bool → Nat → St → Sem (ForInStep St)) (F : Str) (whole lit r : List Nat) : Prop := ∀ {prog : Program} {w : World} {A : Around} {s : Shared} {E : Value → Shared → Prop} {Q : ForInStep St → Shared → Prop} {bo : Bool} {x : Nat} {p : List Value} {wr : Writer} {T : Str} {N : Nat},
  KPc.Good wr T N → N ≤ 16777216 → ¬ (lit.length == F.length) = true → (∀ w', KPc.Good w' (T ++ ⟨lit.toArray⟩) (N + (⟨lit.toArray⟩ : Str).length) → Q (.yield (p, w', r)) s) → wpAny (model prog w) A (f bo x (p, wr, whole)) Q E s
def Ints (f : Bool → Nat → St → Sem (ForInStep St)) (ch W : Nat) : Prop := ∀ {prog : Program} {w : World} {A : Around} {s : Shared} {E : Value → Shared → Prop} {Q : ForInStep St → Shared → Prop} {bo : Bool} {x : Nat} {p : List Value} {wr : Writer} {T : Str} {N : Nat} {n : Int} {u : Tok} {r : List Nat},
  KPc.Good wr T N → N ≤ 16777216 → 0 ≤ n → n < 10000000 → (∀ w' k, KPc.Good w' (T ++ padI W n) (N + 10) → Q (.yield (p, w', r)) { s with toks := k }) → wpAny (model prog w) A (f bo x (.int n u :: p, wr, 37 :: 48 :: ch :: 100 :: r)) Q E s
def Strs (f : Bool → Nat → St → Sem (ForInStep St)) : Prop := ∀ {prog : Program} {w : World} {A : Around} {s : Shared} {E : Value → Shared → Prop} {Q : ForInStep St → Shared → Prop} {bo : Bool} {x : Nat} {p : List Value} {wr : Writer} {T : Str} {N : Nat} {y : Str} {u : Tok} {a : Nat} {r : List Nat},
  KPc.Good wr T N → N ≤ 16777216 → y.length ≤ 1000 → (∀ w', KPc.Good w' (T ++ y) (N + 1000) → Q (.yield (p, w', a :: r)) s) → wpAny (model prog w) A (f bo x (.str y u :: p, wr, 37 :: 115 :: a :: r)) Q E s
def Fins (fin : Bool → St → Sem PySem.Fin) : Prop := ∀ {prog : Program} {w : World} {A : Around} {s : Shared} {E : Value → Shared → Prop} {Q : PySem.Fin → Shared → Prop} {bo : Bool} {wr : Writer} {T : Str} {N : Nat},
  KPc.Good wr T N → N ≤ 16777216 → (∀ t' k, Q (.done (.ret (.str T t'))) { s with toks := k }) → wpAny (model prog w) A (fin bo ([], wr, [])) Q E s
def Ents (f : Bool → Nat → St → Sem (ForInStep St)) (fin : Bool → St → Sem PySem.Fin) (F : Str) (tF : Tok) (b : Addr) : Prop := ∀ {prog : Program} {w : World} {A : Around} {s : Shared} {E : Value → Shared → Prop} {Q : PySem.Fin → Shared → Prop} {its : Array Value}, IsTup s.heap b its →
  (∀ bo, wpAny (model prog w) A (forIn (List.range' 0 F.length 1) (its.toList, ({} : Writer), F.cps.toList) (f bo)) (fun r s' => wpAny (model prog w) A (fin bo r) Q E s') E s) → wpAny (model prog w) A (percentFormat (.str F tF) F (.ref b)) Q E s
theorem steps (F : PySem.Str) (tF : Tok) (b : Addr) : ∃ f fin, Ents f fin F tF b ∧ Stops f ∧ Fins fin ∧ (∀ r, Lit f F (45 :: 37 :: r) [45] (37 :: r)) ∧ (∀ r, Lit f F (32 :: 37 :: r) [32] (37 :: r)) ∧ (∀ r, Lit f F (58 :: 37 :: r) [58] (37 :: r)) ∧
    (∀ r, Lit f F (44 :: 32 :: 37 :: r) [44, 32] (37 :: r)) ∧ Lit f F [90] [90] [] ∧ Lit f F [32, 71, 77, 84] [32, 71, 77, 84] [] ∧ Ints f 50 2 ∧ Ints f 52 4 ∧ Strs f := by
  refine Exists.intro ?f (Exists.intro ?fin ⟨?ent, ?stop, ?fin1, ?l1, ?l2, ?l3, ?l4, ?l5, ?l6, ?d2, ?d4, ?st⟩)
  case ent =>
    intro prog w A s E Q its h k
    obtain ⟨kptO, kptG, kptC, kptN, kptD⟩ := h
    unfold Builtin.Str.percentFormat
    refine wpAny_bind (wpAny_isInstance (T := "tuple") ⟨kptO, kptG, kptC⟩ KPt.sub_tt ?_)
    refine wpAny_bind (KPt.asStr_ref kptG kptD ?_)
    refine wpAny_bind (KPt.fills_ref ⟨kptO, kptG, kptC⟩ ?_)
    intro bo
    kpc_if
    refine wpAny_bind (wpAny_seqItems kptG kptD ?_)
    refine wpAny_bind (wpAny_pure ?_)
    refine wpAny_bind ?_
    rw [KPc.range_list]
    exact k bo
  case stop =>
    intro prog w A s E Q bo x p wr T N g hN q
    exact jump0 (m := pure (.done (p, wr, []))) rfl (KPc.short_good g hN) (wpAny_pure q)
  case l1 =>
    intro r prog w A s E Q bo x p wr T N g hN ho q
    exact jump0 (m := pure (.yield (p, wr.add _ (if _ then some (.str F tF) else none), 37 :: r))) rfl (KPc.short_good g hN) (wpAny_pure (q _ (KPc.good_add g (KPc.obj_none (if_neg ho)))))
  case l2 =>
    intro r prog w A s E Q bo x p wr T N g hN ho q
    exact jump0 (m := pure (.yield (p, wr.add _ (if _ then some (.str F tF) else none), 37 :: r))) rfl (KPc.short_good g hN) (wpAny_pure (q _ (KPc.good_add g (KPc.obj_none (if_neg ho)))))
  case l3 =>
    intro r prog w A s E Q bo x p wr T N g hN ho q
    exact jump0 (m := pure (.yield (p, wr.add _ (if _ then some (.str F tF) else none), 37 :: r))) rfl (KPc.short_good g hN) (wpAny_pure (q _ (KPc.good_add g (KPc.obj_none (if_neg ho)))))
  case l4 =>
    intro r prog w A s E Q bo x p wr T N g hN ho q
    exact jump0 (m := pure (.yield (p, wr.add _ (if _ then some (.str F tF) else none), 37 :: r))) rfl (KPc.short_good g hN) (wpAny_pure (q _ (KPc.good_add g (KPc.obj_none (if_neg ho)))))
  case l5 =>
    intro prog w A s E Q bo x p wr T N g hN ho q
    exact jump0 (m := pure (.yield (p, wr.add _ (if _ then some (.str F tF) else none), []))) rfl (KPc.short_good g hN) (wpAny_pure (q _ (KPc.good_add g (KPc.obj_none (if_neg ho)))))
  case l6 =>
    intro prog w A s E Q bo x p wr T N g hN ho q
    exact jump0 (m := pure (.yield (p, wr.add _ (if _ then some (.str F tF) else none), []))) rfl (KPc.short_good g hN) (wpAny_pure (q _ (KPc.good_add g (KPc.obj_none (if_neg ho)))))
  case fin1 =>
    intro prog w A s E Q bo wr T N g hN q
    kpc_if
    refine KPc.finish_ok (by kpc_g) hN rfl ?_
    exact q
  case d2 =>
    intro prog w A s E Q bo x p wr T N n u r g hN h0 h1 q
    refine jump (c := tooLong wr.total = true) (m := holding [.int n u] _) rfl (KPc.short_good g hN) ?_
    refine wpAny_holding ?_
    (repeat kpc_if)
    kpt_conv
    refine wpAny_pure ?_
    refine after_pad (c := { zero := true, width := some 2, type := 100 }) g h0 (by omega) rfl rfl rfl rfl rfl rfl rfl rfl rfl (by decide) (by kpc_none) fun w' g' => q w' _ g'
  case d4 =>
    intro prog w A s E Q bo x p wr T N n u r g hN h0 h1 q
    refine jump (c := tooLong wr.total = true) (m := holding [.int n u] _) rfl (KPc.short_good g hN) ?_
    refine wpAny_holding ?_
    (repeat kpc_if)
    kpt_conv
    refine wpAny_pure ?_
    refine after_pad (c := { zero := true, width := some 4, type := 100 }) g h0 (by omega) rfl rfl rfl rfl rfl rfl rfl rfl rfl (by decide) (by kpc_none) fun w' g' => q w' _ g'
  case st =>
    intro prog w A s E Q bo x p wr T N y u a r g hN hy q
    refine jump (c := tooLong wr.total = true) (m := holding [.str y u] _) rfl (KPc.short_good g hN) ?_
    refine wpAny_holding ?_
    (repeat kpc_if)
    kpt_conv
    refine wpAny_pure ?_
    have eb : (⟨y.cps.toList.toArray⟩ : Str) = y := congrArg PySem.Str.mk (Array.toArray_toList ..)
    have g2 : KPc.Good (wr.add ⟨y.cps.toList.toArray⟩ none) (T ++ y) (N + 1000) := by
      rw [eb]
      exact KPc.good_mono (KPc.good_add g (KPc.obj_none rfl)) (Nat.add_le_add_left hy _)
    exact wpAny_pure (q _ g2)
/-- the text that time2isoz builds -/
def isoText (y mo d h mi sec : Int) : Str :=
  padI 4 y ++ Str.ofString "-" ++ padI 2 mo ++ Str.ofString "-" ++ padI 2 d ++ Str.ofString " " ++ padI 2 h ++ Str.ofString ":" ++ padI 2 mi ++ Str.ofString ":" ++ padI 2 sec ++ Str.ofString "Z"
/-- the text that time2netscape builds -/
def netText (wd mn : Str) (y d h mi sec : Int) : Str :=
  wd ++ Str.ofString ", " ++ padI 2 d ++ Str.ofString "-" ++ mn ++ Str.ofString "-" ++ padI 4 y ++ Str.ofString " " ++ padI 2 h ++ Str.ofString ":" ++ padI 2 mi ++ Str.ofString ":" ++ padI 2 sec ++ Str.ofString " GMT"

theorem fmt_iso {b : Addr} {t u1 u2 u3 u4 u5 u6 : Tok} {y mo d h mi sec : Int} (y0 : 0 ≤ y) (y1 : y < 10000000) (m0 : 0 ≤ mo) (m1 : mo < 100) (d0 : 0 ≤ d) (d1 : d < 100) (h0 : 0 ≤ h) (h1 : h < 100) (i0 : 0 ≤ mi) (i1 : mi < 100) (s0 : 0 ≤ sec) (s1 : sec < 100) :
    Meets («str.__mod__» ⟨[.str (PySem.Str.mk #[37,48,52,100,45,37,48,50,100,45,37,48,50,100,32,37,48,50,100,58,37,48,50,100,58,37,48,50,100,90]) t, .ref b], []⟩)
      (fun _ R s => IsTup s.heap b #[.int y u1, .int mo u2, .int d u3, .int h u4, .int mi u5, .int sec u6] ∧ ∀ t' k, R (.ok (.ret (.str (isoText y mo d h mi sec) t'))) { s with toks := k }) := by
  apply KPt.meets_tup
  intro prog w A s Q E hT q
  rw [KPt.entry_is_r]
  obtain ⟨f, fin, ent, stop, fin1, l1, l2, l3, l4, l5, l6, d2, d4, st⟩ := steps (PySem.Str.mk #[37,48,52,100,45,37,48,50,100,45,37,48,50,100,32,37,48,50,100,58,37,48,50,100,58,37,48,50,100,90]) t b
  refine ent hT fun bo => KPc.start fun w' g => ?_
  refine KPc.turn (d4 g (by decide) y0 y1 fun w' k g => ?_)
  refine KPc.turn (l1 _ g (by decide +kernel) (by decide) fun w' g => ?_)
  refine KPc.turn (d2 g (by decide +kernel) m0 (by omega) fun w' k g => ?_)
  refine KPc.turn (l1 _ g (by decide +kernel) (by decide) fun w' g => ?_)
  refine KPc.turn (d2 g (by decide +kernel) d0 (by omega) fun w' k g => ?_)
  refine KPc.turn (l2 _ g (by decide +kernel) (by decide) fun w' g => ?_)
  refine KPc.turn (d2 g (by decide +kernel) h0 (by omega) fun w' k g => ?_)
  refine KPc.turn (l3 _ g (by decide +kernel) (by decide) fun w' g => ?_)
  refine KPc.turn (d2 g (by decide +kernel) i0 (by omega) fun w' k g => ?_)
  refine KPc.turn (l3 _ g (by decide +kernel) (by decide) fun w' g => ?_)
  refine KPc.turn (d2 g (by decide +kernel) s0 (by omega) fun w' k g => ?_)
  refine KPc.turn (l5 g (by decide +kernel) (by decide) fun w' g => ?_)
  refine KPc.turn (stop g (by decide +kernel) ?_)
  have e : Str.empty ++ padI 4 y ++ ⟨[45].toArray⟩ ++ padI 2 mo ++ ⟨[45].toArray⟩ ++ padI 2 d ++ ⟨[32].toArray⟩ ++ padI 2 h ++ ⟨[58].toArray⟩ ++ padI 2 mi ++ ⟨[58].toArray⟩ ++ padI 2 sec ++ ⟨[90].toArray⟩ = isoText y mo d h mi sec := by
    rw [KPc.empty_app]
    unfold isoText
    rw [show Str.ofString "-" = ⟨[45].toArray⟩ by decide +kernel, show Str.ofString " " = ⟨[32].toArray⟩ by decide +kernel, show Str.ofString ":" = ⟨[58].toArray⟩ by decide +kernel, show Str.ofString "Z" = ⟨[90].toArray⟩ by decide +kernel]
  rw [e] at g
  exact fin1 g (by decide +kernel) q
theorem fmt_net {b : Addr} {t u1 u2 u3 u4 u5 u6 u7 : Tok} {wd mn : Str} {y d h mi sec : Int} (w0 : wd.length ≤ 1000) (n0 : mn.length ≤ 1000) (y0 : 0 ≤ y) (y1 : y < 10000000) (d0 : 0 ≤ d) (d1 : d < 100) (h0 : 0 ≤ h) (h1 : h < 100) (i0 : 0 ≤ mi) (i1 : mi < 100) (s0 : 0 ≤ sec) (s1 : sec < 100) :
    Meets («str.__mod__» ⟨[.str (PySem.Str.mk #[37,115,44,32,37,48,50,100,45,37,115,45,37,48,52,100,32,37,48,50,100,58,37,48,50,100,58,37,48,50,100,32,71,77,84]) t, .ref b], []⟩)
      (fun _ R s => IsTup s.heap b #[.str wd u1, .int d u2, .str mn u3, .int y u4, .int h u5, .int mi u6, .int sec u7] ∧ ∀ t' k, R (.ok (.ret (.str (netText wd mn y d h mi sec) t'))) { s with toks := k }) := by
  apply KPt.meets_tup
  intro prog w A s Q E hT q
  rw [KPt.entry_is_r]
  obtain ⟨f, fin, ent, stop, fin1, l1, l2, l3, l4, l5, l6, d2, d4, st⟩ := steps (PySem.Str.mk #[37,115,44,32,37,48,50,100,45,37,115,45,37,48,52,100,32,37,48,50,100,58,37,48,50,100,58,37,48,50,100,32,71,77,84]) t b
  refine ent hT fun bo => KPc.start fun w' g => ?_
  refine KPc.turn (st g (by decide) w0 fun w' g => ?_)
  refine KPc.turn (l4 _ g (by decide +kernel) (by decide) fun w' g => ?_)
  refine KPc.turn (d2 g (by decide +kernel) d0 (by omega) fun w' k g => ?_)
  refine KPc.turn (l1 _ g (by decide +kernel) (by decide) fun w' g => ?_)
  refine KPc.turn (st g (by decide +kernel) n0 fun w' g => ?_)
  refine KPc.turn (l1 _ g (by decide +kernel) (by decide) fun w' g => ?_)
  refine KPc.turn (d4 g (by decide +kernel) y0 y1 fun w' k g => ?_)
  refine KPc.turn (l2 _ g (by decide +kernel) (by decide) fun w' g => ?_)
  refine KPc.turn (d2 g (by decide +kernel) h0 (by omega) fun w' k g => ?_)
  refine KPc.turn (l3 _ g (by decide +kernel) (by decide) fun w' g => ?_)
  refine KPc.turn (d2 g (by decide +kernel) i0 (by omega) fun w' k g => ?_)
  refine KPc.turn (l3 _ g (by decide +kernel) (by decide) fun w' g => ?_)
  refine KPc.turn (d2 g (by decide +kernel) s0 (by omega) fun w' k g => ?_)
  refine KPc.turn (l6 g (by decide +kernel) (by decide) fun w' g => ?_)
  refine KPc.turn (stop g (by decide +kernel) ?_)
  have e : Str.empty ++ wd ++ ⟨[44, 32].toArray⟩ ++ padI 2 d ++ ⟨[45].toArray⟩ ++ mn ++ ⟨[45].toArray⟩ ++ padI 4 y ++ ⟨[32].toArray⟩ ++ padI 2 h ++ ⟨[58].toArray⟩ ++ padI 2 mi ++ ⟨[58].toArray⟩ ++ padI 2 sec ++ ⟨[32, 71, 77, 84].toArray⟩ = netText wd mn y d h mi sec := by
    rw [KPc.empty_app]
    unfold netText
    rw [show Str.ofString "-" = ⟨[45].toArray⟩ by decide +kernel, show Str.ofString " " = ⟨[32].toArray⟩ by decide +kernel, show Str.ofString ":" = ⟨[58].toArray⟩ by decide +kernel, show Str.ofString ", " = ⟨[44, 32].toArray⟩ by decide +kernel, show Str.ofString " GMT" = ⟨[32, 71, 77, 84].toArray⟩ by decide +kernel]
  rw [e] at g
  exact fin1 g (by decide +kernel) q
end Mine
end
section
open PySem PySem.W PySem.Calls PyProof.Rows
namespace Mine
set_option maxRecDepth 100000
set_option maxHeartbeats 4000000
open PySem.Builtin._datetime in
theorem Day.d31 {x y mo d : Int} (D : Day x y mo d) : d ≤ 31 := by
  have h := D.d1
  have h0 := D.m0
  have h1 := D.m1
  revert h
  unfold daysInMonth
  have hj : (mo - 1).toNat < 12 := by omega
  revert hj
  generalize (mo - 1).toNat = j
  intro hj
  split
  · omega
  · match j, hj with
    | 0, _ | 1, _ | 2, _ | 3, _ | 4, _ | 5, _ | 6, _ | 7, _ | 8, _ | 9, _ | 10, _ | 11, _ => simp <;> omega
theorem fill : PySem.Challenge.rw_in0096_01 = PySem.Challenge.rw_in0096_01 ∧ hd.heap_39 = hd.heap_39 := by
  k_fill
  exact ⟨rfl, rfl⟩
local macro_rules | `(tactic| cell_enter) => `(tactic| (refine' code_def ?k1 ?k2 ?k3 ?k4 ?k5 ?kA ?kF ?kK ?k6 ?k7 ?k8 ?k9 ?kB ?_ ?c2 ?c3 ?c4 ?c5; (case kA => exact rfl); (case kF => exact rfl); (case kK => assumption); (case k1 => k_asm); (case k2 => k_asm); (case k3 => k_asm); (case k4 => k_asm); (case k5 => k_asm); (case k6 => k_is); (case k7 => k_is); (case k8 => ktr_room); (case k9 => first | exact BindsTo.of_eq rfl | exact binds_K (by k_in) rfl (by k_is) rfl rfl rfl); (case c5 => decide); (case kB => exact locs rfl); (case c2 => exact rfl); (case c3 => exact rfl); (case c4 => exact rfl); k_whole; intro g' L' h' FG' F' N' B' X' T'; (try dsimp only); (try k_lift B'); (try k_fold)))
local macro_rules | `(tactic| walk_at "getMethod type:datetime.datetime") => `(tactic| (k_here; k_dflt (refine' getm_ft ?kF ?kN ?kX ?kE ?_; (case kF => k_asm); (case kN => k_asm); (case kX => k_asm); (case kE => k_is); k_whole; intro x' h' F' N' l1; (try k_sweep))))
local macro_rules | `(tactic| walk_at "callWith ref") => `(tactic| (k_here; k_dflt (refine' callWith_ft ?kN ?kM ?kA ?_; (case kN => k_asm); (case kM => k_mem); (case kA => exact rfl); k_whole)))
local macro_rules | `(tactic| walk_at "And") => `(tactic| ((with_reducible show StandsFt _ _ ∧ _); k_dflt (refine ⟨stands_ft (by k_asm) (by k_mem), ?_⟩); (try dsimp only [List.nil_append, List.cons_append])))
local macro_rules | `(tactic| walk_at "getAttr") => `(tactic| (k_here; (with_reducible show wpAny _ _ (getAttr (Value.type _) (PySem.Str.ofString "utc") _) _ _ _); k_dflt (refine' utc_attr ?F ?X ?t ?s ?z ?e ?_; (case F => k_asm); (case X => k_asm); (case t => decide +kernel); (case s => decide +kernel); (case z => k_is); (case e => exact rfl); k_whole)))
local macro_rules | `(tactic| walk_at "call ref") => `(tactic| (k_here; k_dflt (refine' ft_call ?F ?N ?hm ?z ?D ?h1 ?h2 ?_; (case F => k_asm); (case N => k_asm); (case hm => k_mem); (case z => first | assumption | exact ZIn.keeps (by assumption) (Fr.keep (by assumption))); (case D => assumption); (case h1 => assumption); (case h2 => assumption); k_whole); intro a' h' tk' F' N'; (try k_sweep)))
local macro_rules | `(tactic| walk_at "getAttr ref") => `(tactic| (k_here; k_dflt (first
  | ((with_reducible show wpAny _ _ (getAttr (Value.ref _) (PySem.Str.ofString "year") _) _ _ _); refine' at_year ?N ?m ?_; (case N => k_asm); (case m => k_mem))
  | ((with_reducible show wpAny _ _ (getAttr (Value.ref _) (PySem.Str.ofString "month") _) _ _ _); refine' at_month ?N ?m ?_; (case N => k_asm); (case m => k_mem))
  | ((with_reducible show wpAny _ _ (getAttr (Value.ref _) (PySem.Str.ofString "day") _) _ _ _); refine' at_day ?N ?m ?_; (case N => k_asm); (case m => k_mem))
  | ((with_reducible show wpAny _ _ (getAttr (Value.ref _) (PySem.Str.ofString "hour") _) _ _ _); refine' at_hour ?N ?m ?_; (case N => k_asm); (case m => k_mem))
  | ((with_reducible show wpAny _ _ (getAttr (Value.ref _) (PySem.Str.ofString "minute") _) _ _ _); refine' at_minute ?N ?m ?_; (case N => k_asm); (case m => k_mem))
  | ((with_reducible show wpAny _ _ (getAttr (Value.ref _) (PySem.Str.ofString "second") _) _ _ _); refine' at_second ?N ?m ?_; (case N => k_asm); (case m => k_mem))); intro _ _))
local macro_rules | `(tactic| walk_at "getMethod ref") => `(tactic| (k_here; k_dflt (refine' getm_wd ?N ?m ?_; (case N => k_asm); (case m => k_mem))))
local macro_rules | `(tactic| walk_at "call builtin:datetime.date.weekday") => `(tactic| (k_here; k_dflt (refine' call_wd ?N ?m ?D ?_; (case N => k_asm); (case m => k_mem); (case D => assumption)); intro _ _))
local macro_rules | `(tactic| walk_at "subscriptTail") => `(tactic| (k_here; (with_reducible show wpAny _ _ (subscriptTail _ _ (Value.ref _) (Value.int _ _)) _ _ _); k_dflt (first
  | (refine' days_item ?F ?X ?l ?a ?b ?hs ?_; (case F => k_asm); (case X => k_asm); (case l => k_is); (case a => omega); (case b => omega); (case hs => with_unfolding_all rfl); k_whole)
  | (refine' mons_item ?F ?X ?l ?a ?b ?hs ?_; (case F => k_asm); (case X => k_asm); (case l => k_is); (case a => omega); (case b => omega); (case hs => with_unfolding_all rfl); k_whole)); intro _))
local macro_rules | `(tactic| walk_at "binaryOp Mod str ref") => `(tactic| (k_here; (with_reducible show wpAny _ _ (binaryOp Operator.Mod (Value.str _ _) (Value.ref _)) _ _ _); k_dflt (refine' KPt.mod_tuple ?kptN ?kptb ?kptF ?kptm ?_; (case kptN => k_asm); (case kptb => k_mem); (case kptF => kpt_eq); (case kptm => exact fmt_iso (by omega) (by omega) (by omega) (by omega) (by omega) (by omega) (by omega) (by omega) (by omega) (by omega) (by omega) (by omega))); intro _ _))
theorem isoz {prog : Program} {w : World} {mean : ExcName → Option Value} {mg mb : Str → Option Value} {x y mo d : Int} {t : Tok} (D : Day x y mo d) (x0 : -62135596800 ≤ x) (x1 : x < 253402300800) :
    Claim prog w mean mg mb 54 1 [.int x t] (RStr (isoText y mo d (hourOf x) (minOf x) (secOf x))) := by
  intro dp un gd cn cs a ccd cl outer A₀ base h₀ L m news s Q E B F X Z N T hk hd hu hret
  have b1 := D.y0
  have b2 := D.y1
  have b3 := D.m0
  have b4 := D.m1
  have b5 := D.d0
  have b6 := D.d31
  have b7 := hourOf_ge x
  have b8 := hourOf_lt x
  have b9 := minOf_ge x
  have b10 := minOf_lt x
  have b11 := secOf_ge x
  have b12 := secOf_lt x
  refine wpAny_call ?_
  k_dflt cell_enter
  k_steps
  refine hret _ [] _ _ ⟨rfl, _, rfl⟩ (by k_asm) ?_
  refine cb_drop (by assumption) ?_
  intro p hp
  repeat (first | exact hp | apply List.mem_cons_of_mem)

local macro_rules | `(tactic| walk_at "binaryOp Mod str ref") => `(tactic| (k_here; (with_reducible show wpAny _ _ (binaryOp Operator.Mod (Value.str _ _) (Value.ref _)) _ _ _); k_dflt (refine' KPt.mod_tuple ?kptN ?kptb ?kptF ?kptm ?_; (case kptN => k_asm); (case kptb => k_mem); (case kptF => kpt_eq); (case kptm => exact fmt_net (Nat.le_trans (dayName_len _) (by decide)) (Nat.le_trans (monName_len _) (by decide)) (by omega) (by omega) (by omega) (by omega) (by omega) (by omega) (by omega) (by omega) (by omega) (by omega))); intro _ _))
theorem netz {prog : Program} {w : World} {mean : ExcName → Option Value} {mg mb : Str → Option Value} {x y mo d : Int} {t : Tok} (D : Day x y mo d) (x0 : -62135596800 ≤ x) (x1 : x < 253402300800) :
    Claim prog w mean mg mb 62 1 [.int x t] (RStr (netText (dayName (wdOf x)) (monName (mo - 1)) y d (hourOf x) (minOf x) (secOf x))) := by
  intro dp un gd cn cs a ccd cl outer A₀ base h₀ L m news s Q E B F X Z N T hk hd hu hret
  have b1 := D.y0
  have b2 := D.y1
  have b3 := D.m0
  have b4 := D.m1
  have b5 := D.d0
  have b6 := D.d31
  have b7 := hourOf_ge x
  have b8 := hourOf_lt x
  have b9 := minOf_ge x
  have b10 := minOf_lt x
  have b11 := secOf_ge x
  have b12 := secOf_lt x
  have b13 := wdOf_ge x
  have b14 := wdOf_lt x
  refine wpAny_call ?_
  k_dflt cell_enter
  k_steps
  refine hret _ [] _ _ ⟨rfl, _, rfl⟩ (by k_asm) ?_
  refine cb_drop (by assumption) ?_
  intro p hp
  repeat (first | exact hp | apply List.mem_cons_of_mem)
end Mine
end
section
local macro_rules | `(tactic| walk_at "idle 0") => `(tactic| skip)
local macro_rules | `(tactic| walk_at "idle 1") => `(tactic| skip)
local macro_rules | `(tactic| walk_at "idle 2") => `(tactic| skip)
local macro_rules | `(tactic| walk_at "idle 3") => `(tactic| skip)
local macro_rules | `(tactic| walk_at "idle 4") => `(tactic| skip)
local macro_rules | `(tactic| walk_at "idle 5") => `(tactic| skip)
local macro_rules | `(tactic| walk_at "idle 6") => `(tactic| skip)
local macro_rules | `(tactic| walk_at "idle 7") => `(tactic| skip)
local macro_rules | `(tactic| walk_at "idle 8") => `(tactic| skip)
local macro_rules | `(tactic| walk_at "idle 9") => `(tactic| skip)
local macro_rules | `(tactic| walk_at "idle 10") => `(tactic| skip)
local macro_rules | `(tactic| walk_at "idle 11") => `(tactic| skip)
local macro_rules | `(tactic| walk_at "idle 12") => `(tactic| skip)
local macro_rules | `(tactic| walk_at "idle 13") => `(tactic| skip)
local macro_rules | `(tactic| walk_at "idle 14") => `(tactic| skip)
local macro_rules | `(tactic| walk_at "idle 15") => `(tactic| skip)
local macro_rules | `(tactic| walk_at "idle 16") => `(tactic| skip)
local macro_rules | `(tactic| walk_at "idle 17") => `(tactic| skip)
local macro_rules | `(tactic| walk_at "idle 18") => `(tactic| skip)
local macro_rules | `(tactic| walk_at "idle 19") => `(tactic| skip)
local macro_rules | `(tactic| walk_at "idle 20") => `(tactic| skip)
local macro_rules | `(tactic| walk_at "idle 21") => `(tactic| skip)
local macro_rules | `(tactic| walk_at "idle 22") => `(tactic| skip)
local macro_rules | `(tactic| walk_at "idle 23") => `(tactic| skip)
local macro_rules | `(tactic| walk_at "idle 24") => `(tactic| skip)
open PySem PySem.W PySem.Calls PyProof.Rows
namespace Mine
set_option maxRecDepth 100000
set_option maxHeartbeats 4000000
theorem fill2 : PySem.Challenge.rw_in0096_01 = PySem.Challenge.rw_in0096_01 ∧ hd.heap_39 = hd.heap_39 := by
  k_fill
  exact ⟨rfl, rfl⟩
local macro_rules | `(tactic| cell_enter) => `(tactic| (refine' code_def ?k1 ?k2 ?k3 ?k4 ?k5 ?kA ?kF ?kK ?k6 ?k7 ?k8 ?k9 ?kB ?_ ?c2 ?c3 ?c4 ?c5; (case kA => exact rfl); (case kF => exact rfl); (case kK => assumption); (case k1 => k_asm); (case k2 => k_asm); (case k3 => k_asm); (case k4 => k_asm); (case k5 => k_asm); (case k6 => k_is); (case k7 => k_is); (case k8 => ktr_room); (case k9 => first | exact BindsTo.of_eq rfl | exact binds_K (by k_in) rfl (by k_is) rfl rfl rfl); (case c5 => decide); (case kB => exact locs rfl); (case c2 => exact rfl); (case c3 => exact rfl); (case c4 => exact rfl); k_whole; intro g' L' h' FG' F' N' B' X' T'; (try dsimp only); (try k_lift B'); (try k_fold)))
local macro_rules | `(tactic| walk_at "getMethod type:datetime.datetime") => `(tactic| (k_here; k_dflt (refine' getm_ft ?kF ?kN ?kX ?kE ?_; (case kF => k_asm); (case kN => k_asm); (case kX => k_asm); (case kE => k_is); k_whole; intro x' h' F' N' l1; (try k_sweep))))
local macro_rules | `(tactic| walk_at "callWith ref") => `(tactic| (k_here; k_dflt (refine' callWith_ft ?kN ?kM ?kA ?_; (case kN => k_asm); (case kM => k_mem); (case kA => exact rfl); k_whole)))
local macro_rules | `(tactic| walk_at "And") => `(tactic| ((with_reducible show StandsFt _ _ ∧ _); k_dflt (refine ⟨stands_ft (by k_asm) (by k_mem), ?_⟩); (try dsimp only [List.nil_append, List.cons_append])))
local macro_rules | `(tactic| walk_at "getAttr") => `(tactic| (k_here; (with_reducible show wpAny _ _ (getAttr (Value.type _) (PySem.Str.ofString "utc") _) _ _ _); k_dflt (refine' utc_attr ?F ?X ?t ?s ?z ?e ?_; (case F => k_asm); (case X => k_asm); (case t => decide +kernel); (case s => decide +kernel); (case z => k_is); (case e => exact rfl); k_whole)))

local macro_rules | `(tactic| walk_at "call ref") => `(tactic| (k_here; k_dflt (refine' ft_call_bad ?F ?N ?hm ?z ?D ?hh ?h1 ?h2 ?_; (case F => k_asm); (case N => k_asm); (case hm => k_mem); (case z => first | assumption | exact ZIn.keeps (by assumption) (Fr.keep (by assumption))); (case D => assumption); (case hh => exact rfl); (case h1 => assumption); (case h2 => assumption); k_whole); intro h' tk' e' X'))
local macro_rules | `(tactic| walk_at "leaving ref") => `(tactic| (k_here; (refine' leave_newS ?k1 ?k0 ?k2 ?k3 ?_; (case k0 => assumption); (case k2 => assumption); (case k1 => assumption); (case k3 => k_asm); k_whole; intro h' S' R' U'; (try dsimp only at S' R' U' ⊢))))
theorem raisedSN_drop {base G h : Heap} {l : List Env} {e : Addr} {cls : Value} {news news' : List (Addr × Obj)} (R : RaisedSN base G l e cls news' h) (hs : ∀ p ∈ news, p ∈ news') : RaisedSN base G l e cls news h := by
  obtain ⟨B, a0, h1, h2, h3, h4⟩ := R
  exact ⟨B, a0, h1, h2, fun q hq => h3 q (hs q hq), h4⟩

theorem isoz_bad {prog : Program} {w : World} {mean : ExcName → Option Value} {mg mb : Str → Option Value} {x y mo d : Int} {t : Tok} (D : Off x y mo d) (x0 : -(2 ^ 63) ≤ x) (x1 : x < 2 ^ 63) :
    ClaimX prog w mean mg mb 54 1 [.int x t] := by
  intro dp un gd cn cs a ccd outer A₀ base h₀ L m news s Q E B F X Z N T hk hd hu hret
  refine wpAny_call ?_
  k_dflt cell_enter
  k_steps
  refine hret _ _ _ _ (by assumption) (raisedSN_drop (by assumption) ?_) (by assumption)
  intro p hp
  repeat (first | exact hp | apply List.mem_cons_of_mem)

theorem netz_bad {prog : Program} {w : World} {mean : ExcName → Option Value} {mg mb : Str → Option Value} {x y mo d : Int} {t : Tok} (D : Off x y mo d) (x0 : -(2 ^ 63) ≤ x) (x1 : x < 2 ^ 63) :
    ClaimX prog w mean mg mb 62 1 [.int x t] := by
  intro dp un gd cn cs a ccd outer A₀ base h₀ L m news s Q E B F X Z N T hk hd hu hret
  refine wpAny_call ?_
  k_dflt cell_enter
  k_steps
  refine hret _ _ _ _ (by assumption) (raisedSN_drop (by assumption) ?_) (by assumption)
  intro p hp
  repeat (first | exact hp | apply List.mem_cons_of_mem)
end Mine
end
section
open PySem PySem.W PySem.Calls PyProof.Rows
namespace Mine
set_option maxRecDepth 100000
/-- the law's two figures of a number -/
def twoT (x : Int) : Str := Str.ofString (toString (x.fdiv 10)) ++ Str.ofString (toString (x.fmod 10))
theorem two_nat : ∀ n : Fin 100, twoT (n.val : Int) = padI 2 (n.val : Int) := by decide +kernel
theorem two_eq {x : Int} (x0 : 0 ≤ x) (x1 : x < 100) : twoT x = padI 2 x := by
  obtain ⟨n, rfl⟩ := Int.eq_ofNat_of_zero_le x0
  exact two_nat ⟨n, by omega⟩

theorem sgs_nat (n : Nat) : sgs (n : Int) = (Nat.toDigits 10 n).map Char.toNat := by
  unfold sgs
  rw [Str.ofString_eq_toList]
  have e : toString (n : Int) = Nat.repr n := rfl
  rw [e, Nat.toList_repr]
theorem sgs_one {n : Nat} (h : n < 10) : (sgs (n : Int)).length = 1 := by
  rw [sgs_nat, Nat.toDigits_of_lt_base h]
  rfl
theorem sgs_step {a b : Nat} (ha : 0 < a) (hb : b < 10) : sgs ((10 * a + b : Nat) : Int) = sgs (a : Int) ++ sgs (b : Int) := by
  rw [sgs_nat, sgs_nat, sgs_nat, ← Nat.toDigits_append_toDigits (by decide) ha hb, List.map_append]
theorem pad_step {W a b : Nat} (hW : 0 < W) (hb : b < 10) : padI (W + 1) ((10 * a + b : Nat) : Int) = padI W (a : Int) ++ padI 1 (b : Int) := by
  refine Str.ext' ?_
  rw [Str.cps_append, padI_def, padI_def, padI_def]
  have l1 := sgs_one hb
  rcases Nat.eq_zero_or_pos a with rfl | ha
  · have e0 : sgs ((0 : Nat) : Int) = [48] := by decide
    rw [Nat.mul_zero, Nat.zero_add, l1, e0]
    obtain ⟨V, rfl⟩ : ∃ V, W = V + 1 := ⟨W - 1, by omega⟩
    simp [List.replicate_succ']
  · rw [sgs_step ha hb, List.length_append, l1]
    rw [Nat.add_sub_add_right]
    simp
theorem pad4 {y : Int} (y0 : 0 ≤ y) : padI 4 y = padI 2 (y / 100) ++ padI 2 (y % 100) := by
  obtain ⟨n, rfl⟩ := Int.eq_ofNat_of_zero_le y0
  have e1 : n = 10 * (10 * (n / 100) + n / 10 % 10) + n % 10 := by omega
  have e2 : n % 100 = 10 * (n / 10 % 10) + n % 10 := by omega
  have e3 : ((n : Int) / 100) = ((n / 100 : Nat) : Int) := by omega
  have e4 : ((n : Int) % 100) = ((n % 100 : Nat) : Int) := by omega
  rw [e3, e4, e2, pad_step (by decide) (by omega)]
  conv => lhs; rw [e1]
  rw [pad_step (by decide) (by omega), pad_step (by decide) (by omega), Str.append_assoc]
end Mine
end
section
local macro_rules | `(tactic| walk_at "idle 0") => `(tactic| skip)
local macro_rules | `(tactic| walk_at "idle 1") => `(tactic| skip)
local macro_rules | `(tactic| walk_at "idle 2") => `(tactic| skip)
local macro_rules | `(tactic| walk_at "idle 3") => `(tactic| skip)
local macro_rules | `(tactic| walk_at "idle 4") => `(tactic| skip)
local macro_rules | `(tactic| walk_at "idle 5") => `(tactic| skip)
local macro_rules | `(tactic| walk_at "idle 6") => `(tactic| skip)
local macro_rules | `(tactic| walk_at "idle 7") => `(tactic| skip)
local macro_rules | `(tactic| walk_at "idle 8") => `(tactic| skip)
local macro_rules | `(tactic| walk_at "idle 9") => `(tactic| skip)
local macro_rules | `(tactic| walk_at "idle 10") => `(tactic| skip)
local macro_rules | `(tactic| walk_at "idle 11") => `(tactic| skip)
local macro_rules | `(tactic| walk_at "idle 12") => `(tactic| skip)
local macro_rules | `(tactic| walk_at "idle 13") => `(tactic| skip)
local macro_rules | `(tactic| walk_at "idle 14") => `(tactic| skip)
local macro_rules | `(tactic| walk_at "idle 15") => `(tactic| skip)
local macro_rules | `(tactic| walk_at "idle 16") => `(tactic| skip)
local macro_rules | `(tactic| walk_at "idle 17") => `(tactic| skip)
local macro_rules | `(tactic| walk_at "idle 18") => `(tactic| skip)
local macro_rules | `(tactic| walk_at "idle 19") => `(tactic| skip)
local macro_rules | `(tactic| walk_at "idle 20") => `(tactic| skip)
local macro_rules | `(tactic| walk_at "idle 21") => `(tactic| skip)
local macro_rules | `(tactic| walk_at "idle 22") => `(tactic| skip)
local macro_rules | `(tactic| walk_at "idle 23") => `(tactic| skip)
local macro_rules | `(tactic| walk_at "idle 24") => `(tactic| skip)
open PySem PySem.W PySem.Calls PyProof.Rows
namespace Mine
set_option maxRecDepth 100000
set_option maxHeartbeats 4000000
theorem fill3 : PySem.Challenge.rw_in0096_01 = PySem.Challenge.rw_in0096_01 ∧ hd.heap_39 = hd.heap_39 := by
  k_fill
  exact ⟨rfl, rfl⟩
section
variable {h₀ h' : Heap} {L : Addr} {m : Str → Option Value} {news news' : List (Addr × Obj)} {s : Shared} {Q : Value → Shared → Prop} {t : Tok} {tk' : Nat}
theorem end_int {x y : Int} (hret : ∀ (v : Value) (new : List (Addr × Obj)) (h' : Heap) (tk' : Nat), RInt x v new → Fr h₀ L h' m → News h₀ L h' (new ++ news) → Q v { s with heap := h', toks := tk' }) (e : y = x) (F : Fr h₀ L h' m) (N : News h₀ L h' news') (hs : ∀ p ∈ news, p ∈ news') : Q (.int y t) { s with heap := h', toks := tk' } :=
  hret _ [] _ _ ⟨rfl, t, by rw [e]⟩ F (cb_drop N hs)
theorem end_str {x y : Str} (hret : ∀ (v : Value) (new : List (Addr × Obj)) (h' : Heap) (tk' : Nat), RStr x v new → Fr h₀ L h' m → News h₀ L h' (new ++ news) → Q v { s with heap := h', toks := tk' }) (e : y = x) (F : Fr h₀ L h' m) (N : News h₀ L h' news') (hs : ∀ p ∈ news, p ∈ news') : Q (.str y t) { s with heap := h', toks := tk' } :=
  hret _ [] _ _ ⟨rfl, t, by rw [e]⟩ F (cb_drop N hs)
end
/-- a month's length by the law -/
@[irreducible] def lenOf (y m : Int) : Int := if m = 2 then (if y % 400 = 0 ∨ (y % 4 = 0 ∧ ¬ y % 100 = 0) then 29 else 28) else if m = 4 ∨ m = 6 ∨ m = 9 ∨ m = 11 then 30 else 31
theorem lenOf_def (y m : Int) : lenOf y m = if m = 2 then (if y % 400 = 0 ∨ (y % 4 = 0 ∧ ¬ y % 100 = 0) then 29 else 28) else if m = 4 ∨ m = 6 ∨ m = 9 ∨ m = 11 then 30 else 31 := by unfold lenOf; rfl
theorem fm4 (a : Int) : a.fmod 4 = a % 4 := Int.fmod_eq_emod_of_nonneg a (by decide)
theorem fm100 (a : Int) : a.fmod 100 = a % 100 := Int.fmod_eq_emod_of_nonneg a (by decide)
theorem fm400 (a : Int) : a.fmod 400 = a % 400 := Int.fmod_eq_emod_of_nonneg a (by decide)
set_option exponentiation.threshold 2000 in
theorem two {prog : Program} {w : World} {mean : ExcName → Option Value} {mg mb : Str → Option Value} {x : Int} {t : Tok} (x0 : 0 ≤ x) (x1 : x < 100) :
    Claim prog w mean mg mb 83 1 [.int x t] (RStr (padI 2 x)) := by
  intro dp un gd cn cs a ccd cl outer A₀ base h₀ L m news s Q E B F X Z N T hk hd hu hret
  refine wpAny_call ?_
  k_dflt cell_enter
  k_steps
  exact end_str hret (two_eq x0 x1) (by k_asm) (by assumption) (fun p hp => hp)
end Mine
end
section
open PySem PySem.W PySem.Calls PyProof.Rows
namespace Mine
set_option maxRecDepth 100000
set_option maxHeartbeats 4000000
theorem fill4 : PySem.Challenge.rw_in0096_01 = PySem.Challenge.rw_in0096_01 ∧ hd.heap_39 = hd.heap_39 := by
  k_fill
  exact ⟨rfl, rfl⟩
local macro_rules | `(tactic| walk_at "execs cons") => `(tactic| (k_here; dsimp only; refine wpAny_execs_cons ?_))
local macro_rules | `(tactic| walk_at "execs nil") => `(tactic| (k_here; dsimp only; refine wpAny_execs_nil ?_))
theorem length {prog : Program} {w : World} {mean : ExcName → Option Value} {mg mb : Str → Option Value} {y mo : Int} {t u : Tok} :
    Claim prog w mean mg mb 69 1 [.int y t, .int mo u] (RInt (lenOf y mo)) := by
  intro dp un gd cn cs a ccd cl outer A₀ base h₀ L m news s Q E B F X Z N T hk hd hu hret
  refine wpAny_call ?_
  k_dflt cell_enter
  k_steps
  all_goals (refine end_int hret ?_ (by k_asm) (by assumption) (by intro p hp; repeat (first | exact hp | apply List.mem_cons_of_mem)); clear hret; simp only [fm4, fm100, fm400, List.any_cons, List.any_nil, Bool.or_false, Bool.or_eq_true, Bool.or_eq_false_iff, beq_iff_eq, beq_eq_false_iff_ne, ne_eq] at *; rw [lenOf_def]; (repeat' split) <;> first | rfl | (exfalso; omega) | skip)
end Mine
end
section
local macro_rules | `(tactic| walk_at "idle 0") => `(tactic| skip)
local macro_rules | `(tactic| walk_at "idle 1") => `(tactic| skip)
local macro_rules | `(tactic| walk_at "idle 2") => `(tactic| skip)
local macro_rules | `(tactic| walk_at "idle 3") => `(tactic| skip)
local macro_rules | `(tactic| walk_at "idle 4") => `(tactic| skip)
local macro_rules | `(tactic| walk_at "idle 5") => `(tactic| skip)
local macro_rules | `(tactic| walk_at "idle 6") => `(tactic| skip)
local macro_rules | `(tactic| walk_at "idle 7") => `(tactic| skip)
local macro_rules | `(tactic| walk_at "idle 8") => `(tactic| skip)
local macro_rules | `(tactic| walk_at "idle 9") => `(tactic| skip)
local macro_rules | `(tactic| walk_at "idle 10") => `(tactic| skip)
local macro_rules | `(tactic| walk_at "idle 11") => `(tactic| skip)
local macro_rules | `(tactic| walk_at "idle 12") => `(tactic| skip)
local macro_rules | `(tactic| walk_at "idle 13") => `(tactic| skip)
local macro_rules | `(tactic| walk_at "idle 14") => `(tactic| skip)
local macro_rules | `(tactic| walk_at "idle 15") => `(tactic| skip)
local macro_rules | `(tactic| walk_at "idle 16") => `(tactic| skip)
local macro_rules | `(tactic| walk_at "idle 17") => `(tactic| skip)
local macro_rules | `(tactic| walk_at "idle 18") => `(tactic| skip)
local macro_rules | `(tactic| walk_at "idle 19") => `(tactic| skip)
local macro_rules | `(tactic| walk_at "idle 20") => `(tactic| skip)
local macro_rules | `(tactic| walk_at "idle 21") => `(tactic| skip)
local macro_rules | `(tactic| walk_at "idle 22") => `(tactic| skip)
local macro_rules | `(tactic| walk_at "idle 23") => `(tactic| skip)
local macro_rules | `(tactic| walk_at "idle 24") => `(tactic| skip)
open PySem PySem.W PySem.Calls PyProof.Rows
namespace Mine
set_option maxRecDepth 100000
theorem day_fdiv {c sec : Int} (s0 : 0 ≤ sec) (s1 : sec < 86400) : (86400 * c + sec).fdiv 86400 = c := by
  rw [Int.fdiv_eq_ediv_of_nonneg _ (by decide)]; omega
theorem day_fmod {c sec : Int} (s0 : 0 ≤ sec) (s1 : sec < 86400) : (86400 * c + sec).fmod 86400 = sec := by
  rw [Int.fmod_eq_emod_of_nonneg _ (by decide)]; omega
theorem hour_at {c sec : Int} (s0 : 0 ≤ sec) (s1 : sec < 86400) : hourOf (86400 * c + sec) = sec.fdiv 3600 := by
  rw [hourOf_def, day_fmod s0 s1, Int.fdiv_eq_ediv_of_nonneg _ (by decide)]
theorem min_at {c sec : Int} (s0 : 0 ≤ sec) (s1 : sec < 86400) : minOf (86400 * c + sec) = (sec.fdiv 60).fmod 60 := by
  rw [minOf_def, day_fmod s0 s1, Int.fdiv_eq_ediv_of_nonneg _ (by decide), Int.fmod_eq_emod_of_nonneg _ (by decide)]; omega
theorem sec_at {c sec : Int} (s0 : 0 ≤ sec) (s1 : sec < 86400) : secOf (86400 * c + sec) = sec.fmod 60 := by
  rw [secOf_def, day_fmod s0 s1, Int.fmod_eq_emod_of_nonneg _ (by decide)]
theorem wd_at {c sec : Int} (s0 : 0 ≤ sec) (s1 : sec < 86400) : wdOf (86400 * c + sec) = (c + 3) % 7 := by
  rw [wdOf_def, day_fdiv s0 s1]
theorem week_nat : ∀ j : Fin 7, Txt.slice (Str.ofString "ThuFriSatSunMonTueWed") (some (3 * (j.val : Int))) (some (3 * (j.val : Int) + 3)) = dayName (((j.val : Int) + 3) % 7) := by decide +kernel
theorem week_at (c : Int) : Txt.slice (Str.ofString "ThuFriSatSunMonTueWed") (some (3 * c.fmod 7)) (some (3 * c.fmod 7 + 3)) = dayName ((c + 3) % 7) := by
  rw [Int.fmod_eq_emod_of_nonneg _ (by decide)]
  have h0 : 0 ≤ c % 7 := by omega
  obtain ⟨n, hn⟩ := Int.eq_ofNat_of_zero_le h0
  have h := week_nat ⟨n, by omega⟩
  rw [show (c + 3) % 7 = ((n : Int) + 3) % 7 by omega, hn]
  exact h
theorem mon_nat : ∀ j : Fin 12, Txt.slice (Str.ofString "JanFebMarAprMayJunJulAugSepOctNovDec") (some (3 * ((j.val : Int) + 1) - 3)) (some (3 * ((j.val : Int) + 1))) = monName (j.val : Int) := by decide +kernel
theorem mon_at {mo : Int} (m0 : 1 ≤ mo) (m1 : mo ≤ 12) : Txt.slice (Str.ofString "JanFebMarAprMayJunJulAugSepOctNovDec") (some (3 * mo - 3)) (some (3 * mo)) = monName (mo - 1) := by
  have h0 : 0 ≤ mo - 1 := by omega
  obtain ⟨n, hn⟩ := Int.eq_ofNat_of_zero_le h0
  have h := mon_nat ⟨n, by omega⟩
  rw [hn]
  rw [show mo = (n : Int) + 1 by omega]
  exact h
theorem year_at {y : Int} (y0 : 0 ≤ y) : padI 2 (y.fdiv 100) ++ padI 2 (y.fmod 100) = padI 4 y := by
  rw [pad4 y0, Int.fdiv_eq_ediv_of_nonneg _ (by decide), Int.fmod_eq_emod_of_nonneg _ (by decide)]

theorem due_iso {y mo d c sec : Int} (y0 : 0 ≤ y) (s0 : 0 ≤ sec) (s1 : sec < 86400) :
    padI 2 (y.fdiv 100) ++ padI 2 (y.fmod 100) ++ Str.ofString "-" ++ padI 2 mo ++ Str.ofString "-" ++ padI 2 d ++ Str.ofString " " ++ (padI 2 (sec.fdiv 3600) ++ Str.ofString ":" ++ padI 2 ((sec.fdiv 60).fmod 60) ++ Str.ofString ":" ++ padI 2 (sec.fmod 60)) ++ Str.ofString "Z" =
      isoText y mo d (hourOf (86400 * c + sec)) (minOf (86400 * c + sec)) (secOf (86400 * c + sec)) := by
  rw [year_at y0, hour_at s0 s1, min_at s0 s1, sec_at s0 s1]
  unfold isoText
  simp only [Str.append_assoc]
theorem due_net {y mo d c sec : Int} (y0 : 0 ≤ y) (m0 : 1 ≤ mo) (m1 : mo ≤ 12) (s0 : 0 ≤ sec) (s1 : sec < 86400) :
    Txt.slice (Str.ofString "ThuFriSatSunMonTueWed") (some (3 * c.fmod 7)) (some (3 * c.fmod 7 + 3)) ++ Str.ofString ", " ++ padI 2 d ++ Str.ofString "-" ++ Txt.slice (Str.ofString "JanFebMarAprMayJunJulAugSepOctNovDec") (some (3 * mo - 3)) (some (3 * mo)) ++ Str.ofString "-" ++
      (padI 2 (y.fdiv 100) ++ padI 2 (y.fmod 100)) ++ Str.ofString " " ++ (padI 2 (sec.fdiv 3600) ++ Str.ofString ":" ++ padI 2 ((sec.fdiv 60).fmod 60) ++ Str.ofString ":" ++ padI 2 (sec.fmod 60)) ++ Str.ofString " GMT" =
      netText (dayName (wdOf (86400 * c + sec))) (monName (mo - 1)) y d (hourOf (86400 * c + sec)) (minOf (86400 * c + sec)) (secOf (86400 * c + sec)) := by
  rw [year_at y0, week_at, mon_at m0 m1, hour_at s0 s1, min_at s0 s1, sec_at s0 s1, wd_at s0 s1]
  unfold netText
  simp only [Str.append_assoc]
end Mine
end
section
open PySem PySem.W PySem.Calls PyProof.Rows
namespace Mine
set_option maxRecDepth 100000
set_option maxHeartbeats 4000000
theorem fill5 : PySem.Challenge.rw_in0096_01 = PySem.Challenge.rw_in0096_01 ∧ hd.heap_39 = hd.heap_39 := by
  k_fill
  exact ⟨rfl, rfl⟩
local macro_rules | `(tactic| walk_at "execs cons") => `(tactic| (k_here; dsimp only; refine wpAny_execs_cons ?_))
local macro_rules | `(tactic| walk_at "execs nil") => `(tactic| (k_here; dsimp only; refine wpAny_execs_nil ?_))
local macro_rules | `(tactic| walk_at "call ref") => `(tactic| (k_here; k_dflt (refine' length _ _ _ _ _ _ _ _ _ _ _ _ _ _ _ _ _ _ ?k1 ?k2 ?k3 ?k4 ?k5 ?k6 ?k7 ?k8 ?k9 ?_; (case k1 => k_asm); (case k2 => k_asm); (case k3 => k_asm); (case k4 => first | assumption | exact ZIn.keeps (by assumption) (Fr.keep (by assumption))); (case k5 => k_asm); (case k6 => k_asm); (case k7 => first | exact rfl | assumption); (case k8 => ktr_room); (case k9 => ktr_units)); intro v' new' h' tk' R' F' N'; obtain ⟨e1, t', e2⟩ := R'; subst e1; subst e2; (try dsimp only [List.nil_append] at N'); (try dsimp only); (try k_fold); (try k_sweep)))
local macro_rules | `(tactic| walk_at "InvEndN") => `(tactic| (refine InvEndN.intro (by assumption) (by assumption) ⟨rfl, ⟨_, by with_unfolding_all rfl⟩, by k_same2⟩ (by rfl) (by (intro p hp; exact List.mem_append_left _ hp)) (by (intro p hp; exact List.mem_append_right _ hp))))
local macro_rules | `(tactic| walk_at "storeName") => `(tactic| (k_here; dsimp only))
local macro_rules | `(tactic| k_steps) => `(tactic| repeat' (first | (k_unfold; (try dsimp only)) | walk1 | (dsimp only; walk1) | (leave1; try dsimp only) | fail "no step"))
/-- the number of a month's first day, by the law -/
@[irreducible] def firstOf (y m : Int) : Int := List.foldl (fun a k => a + lenOf y k) (365 * (y - 1) + (y - 1).fdiv 4 - (y - 1).fdiv 100 + (y - 1).fdiv 400 - 719162) (rangeKs 1 (m - 1).toNat)
theorem firstOf_def (y m : Int) : firstOf y m = List.foldl (fun a k => a + lenOf y k) (365 * (y - 1) + (y - 1).fdiv 4 - (y - 1).fdiv 100 + (y - 1).fdiv 400 - 719162) (rangeKs 1 (m - 1).toNat) := by unfold firstOf; rfl
theorem first {prog : Program} {w : World} {mean : ExcName → Option Value} {mg mb : Str → Option Value} {y mo : Int} {t u : Tok} (y0 : 1 ≤ y) (y1 : y ≤ 10000) (m0 : 1 ≤ mo) (m1 : mo ≤ 12) :
    Claim prog w mean mg mb 76 2 [.int y t, .int mo u] (RInt (firstOf y mo)) := by
  intro dp un gd cn cs a ccd cl outer A₀ base h₀ L m news s Q E B F X Z N T hk hd hu hret
  refine wpAny_call ?_
  k_dflt cell_enter
  k_steps
  exact end_int hret (firstOf_def _ _).symm (by k_asm) (by assumption) (fun p hp => hp)
end Mine
end
section
local macro_rules | `(tactic| walk_at "idle 0") => `(tactic| skip)
local macro_rules | `(tactic| walk_at "idle 1") => `(tactic| skip)
local macro_rules | `(tactic| walk_at "idle 2") => `(tactic| skip)
local macro_rules | `(tactic| walk_at "idle 3") => `(tactic| skip)
local macro_rules | `(tactic| walk_at "idle 4") => `(tactic| skip)
local macro_rules | `(tactic| walk_at "idle 5") => `(tactic| skip)
local macro_rules | `(tactic| walk_at "idle 6") => `(tactic| skip)
local macro_rules | `(tactic| walk_at "idle 7") => `(tactic| skip)
local macro_rules | `(tactic| walk_at "idle 8") => `(tactic| skip)
local macro_rules | `(tactic| walk_at "idle 9") => `(tactic| skip)
local macro_rules | `(tactic| walk_at "idle 10") => `(tactic| skip)
local macro_rules | `(tactic| walk_at "idle 11") => `(tactic| skip)
local macro_rules | `(tactic| walk_at "idle 12") => `(tactic| skip)
local macro_rules | `(tactic| walk_at "idle 13") => `(tactic| skip)
local macro_rules | `(tactic| walk_at "idle 14") => `(tactic| skip)
local macro_rules | `(tactic| walk_at "idle 15") => `(tactic| skip)
local macro_rules | `(tactic| walk_at "idle 16") => `(tactic| skip)
local macro_rules | `(tactic| walk_at "idle 17") => `(tactic| skip)
local macro_rules | `(tactic| walk_at "idle 18") => `(tactic| skip)
local macro_rules | `(tactic| walk_at "idle 19") => `(tactic| skip)
local macro_rules | `(tactic| walk_at "idle 20") => `(tactic| skip)
local macro_rules | `(tactic| walk_at "idle 21") => `(tactic| skip)
local macro_rules | `(tactic| walk_at "idle 22") => `(tactic| skip)
local macro_rules | `(tactic| walk_at "idle 23") => `(tactic| skip)
local macro_rules | `(tactic| walk_at "idle 24") => `(tactic| skip)
open PySem PySem.W PySem.Calls PyProof.Rows
namespace Mine
set_option maxRecDepth 100000
set_option maxHeartbeats 400000
theorem fill6 : PySem.Challenge.rw_in0096_01 = PySem.Challenge.rw_in0096_01 ∧ hd.heap_39 = hd.heap_39 := by
  k_fill
  exact ⟨rfl, rfl⟩
local macro_rules | `(tactic| walk_at "execs cons") => `(tactic| (k_here; dsimp only; refine wpAny_execs_cons ?_))
local macro_rules | `(tactic| walk_at "execs nil") => `(tactic| (k_here; dsimp only; refine wpAny_execs_nil ?_))
local macro_rules | `(tactic| walk_at "storeName") => `(tactic| (k_here; dsimp only))
local macro_rules | `(tactic| k_steps) => `(tactic| repeat' (first | (k_unfold; (try dsimp only)) | walk1 | (dsimp only; walk1) | (leave1; try dsimp only) | fail "no step"))
theorem pad2_len {x : Int} (x0 : 0 ≤ x) (x1 : x < 100) : (padI 2 x).length ≤ 10 := pad_len x0 (by omega) (by decide)
theorem twoL {prog : Program} {w : World} {mean : ExcName → Option Value} {mg mb : Str → Option Value} {x : Int} {t : Tok} (x0 : 0 ≤ x) (x1 : x < 100) :
    Claim prog w mean mg mb 83 1 [.int x t] (fun v new => new = [] ∧ (padI 2 x).length ≤ 10 ∧ ∃ t, v = .str (padI 2 x) t) :=
  fun _ _ _ _ _ _ _ _ _ _ _ _ _ _ _ _ _ _ k1 k2 k3 k4 k5 k6 k7 k8 k9 hret => two x0 x1 _ _ _ _ _ _ _ _ _ _ _ _ _ _ _ _ _ _ k1 k2 k3 k4 k5 k6 k7 k8 k9 fun v new h' tk' r F N => hret v new h' tk' ⟨r.1, pad2_len x0 x1, r.2⟩ F N
local macro_rules | `(tactic| walk_at "call ref") => `(tactic| (k_here; k_dflt (refine' twoL ?q0 ?q1 _ _ _ _ _ _ _ _ _ _ _ _ _ _ _ _ _ _ ?k1 ?k2 ?k3 ?k4 ?k5 ?k6 ?k7 ?k8 ?k9 ?_; (case q0 => first | omega | l_fact); (case q1 => first | omega | l_fact); (case k1 => k_asm); (case k2 => k_asm); (case k3 => k_asm); (case k4 => first | assumption | exact ZIn.keeps (by assumption) (Fr.keep (by assumption))); (case k5 => k_asm); (case k6 => k_asm); (case k7 => first | exact rfl | assumption); (case k8 => ktr_room); (case k9 => ktr_units)); intro v' new' h' tk' R' F' N'; obtain ⟨e1, l', t', e2⟩ := R'; subst e1; subst e2; (try dsimp only [List.nil_append] at N'); (try dsimp only); (try k_fold); (try k_sweep)))
section
variable {h₀ h' : Heap} {L : Addr} {m : Str → Option Value} {news : List (Addr × Obj)} {s : Shared} {Q : Value → Shared → Prop} {t u : Tok} {tk' n : Nat} {a : Addr}
theorem end_two {X Y x y : Str} (hret : ∀ (v : Value) (new : List (Addr × Obj)) (h' : Heap) (tk' : Nat), RTwo X Y v new → Fr h₀ L h' m → News h₀ L h' (new ++ news) → Q v { s with heap := h', toks := tk' }) (F : Fr h₀ L h' m) (N : News h₀ L h' ((a, tup2 x y t u n) :: news)) (e1 : x = X) (e2 : y = Y) :
    Q (.ref a) { s with heap := h', toks := tk' } := by
  subst e1 e2
  exact hret _ [(a, tup2 x y t u n)] _ _ ⟨a, t, u, n, rfl, rfl⟩ F N
end
theorem due {prog : Program} {w : World} {mean : ExcName → Option Value} {mg mb : Str → Option Value} {y mo d c sec : Int} {t1 t2 t3 t4 t5 : Tok} (y0 : 1 ≤ y) (y1 : y ≤ 9999) (m0 : 1 ≤ mo) (m1 : mo ≤ 12) (d0 : 1 ≤ d) (d1 : d ≤ 31) (s0 : 0 ≤ sec) (s1 : sec < 86400) (c0 : -1000000 ≤ c) (c1 : c ≤ 10000000) :
    Claim prog w mean mg mb 90 2 [.int y t1, .int mo t2, .int d t3, .int c t4, .int sec t5]
      (RTwo (isoText y mo d (hourOf (86400 * c + sec)) (minOf (86400 * c + sec)) (secOf (86400 * c + sec))) (netText (dayName (wdOf (86400 * c + sec))) (monName (mo - 1)) y d (hourOf (86400 * c + sec)) (minOf (86400 * c + sec)) (secOf (86400 * c + sec)))) := by
  intro dp un gd cn cs a ccd cl outer A₀ base h₀ L m news s Q E B F X Z N T hk hd hu hret
  refine wpAny_call ?_
  k_dflt cell_enter
  k_steps
  exact end_two hret (by k_asm) (by assumption) (due_iso (by omega) s0 s1) (due_net (by omega) m0 m1 s0 s1)
theorem due_off {prog : Program} {w : World} {mean : ExcName → Option Value} {mg mb : Str → Option Value} {y mo d c sec : Int} {t1 t2 t3 t4 t5 : Tok} (y0 : y < 1 ∨ 9999 < y) :
    Claim prog w mean mg mb 90 2 [.int y t1, .int mo t2, .int d t3, .int c t4, .int sec t5] (RTwo (Str.ofString "refused") (Str.ofString "refused")) := by
  intro dp un gd cn cs a ccd cl outer A₀ base h₀ L m news s Q E B F X Z N T hk hd hu hret
  refine wpAny_call ?_
  k_dflt cell_enter
  rcases y0 with y0 | y0
  · k_steps
    exact end_two hret (by k_asm) (by assumption) rfl rfl
  · k_steps
    exact end_two hret (by k_asm) (by assumption) rfl rfl
end Mine
end
section
open PySem PySem.W PySem.Calls PyProof.Rows
namespace Mine
set_option maxRecDepth 100000
set_option maxHeartbeats 4000000
theorem fill7 : PySem.Challenge.rw_in0096_01 = PySem.Challenge.rw_in0096_01 ∧ hd.heap_39 = hd.heap_39 := by
  k_fill
  exact ⟨rfl, rfl⟩
local macro_rules | `(tactic| walk_at "execs cons") => `(tactic| (k_here; dsimp only; refine wpAny_execs_cons ?_))
local macro_rules | `(tactic| walk_at "execs nil") => `(tactic| (k_here; dsimp only; refine wpAny_execs_nil ?_))
local macro_rules | `(tactic| walk_at "storeName") => `(tactic| (k_here; dsimp only))
local macro_rules | `(tactic| k_steps) => `(tactic| repeat' (first | (k_unfold; (try dsimp only)) | walk1 | (dsimp only; walk1) | (leave1; try dsimp only) | fail "no step"))
local macro_rules | `(tactic| walk_at "call ref") => `(tactic| (k_here; k_dflt (first
  | refine' isoz ?q0 ?q1 ?q2 _ _ _ _ _ _ _ _ _ _ _ _ _ _ _ _ _ _ ?k1 ?k2 ?k3 ?k4 ?k5 ?k6 ?k7 ?k8 ?k9 ?_
  | refine' netz ?q0 ?q1 ?q2 _ _ _ _ _ _ _ _ _ _ _ _ _ _ _ _ _ _ ?k1 ?k2 ?k3 ?k4 ?k5 ?k6 ?k7 ?k8 ?k9 ?_); k_dflt ((case q0 => assumption); (case q1 => assumption); (case q2 => assumption); (case k1 => k_asm); (case k2 => k_asm); (case k3 => k_asm); (case k4 => first | assumption | exact ZIn.keeps (by assumption) (Fr.keep (by assumption))); (case k5 => k_asm); (case k6 => k_asm); (case k7 => first | exact rfl | assumption); (case k8 => ktr_room); (case k9 => ktr_units)); intro v' new' h' tk' R' F' N'; obtain ⟨e1, t', e2⟩ := R'; subst e1; subst e2; (try dsimp only [List.nil_append] at N'); (try dsimp only); (try k_fold); (try k_sweep)))
theorem told {prog : Program} {w : World} {mean : ExcName → Option Value} {mg mb : Str → Option Value} {x y mo d : Int} {t : Tok} (D : Day x y mo d) (x0 : -62135596800 ≤ x) (x1 : x < 253402300800) :
    Claim prog w mean mg mb 97 2 [.int x t] (RTwo (isoText y mo d (hourOf x) (minOf x) (secOf x)) (netText (dayName (wdOf x)) (monName (mo - 1)) y d (hourOf x) (minOf x) (secOf x))) := by
  intro dp un gd cn cs a ccd cl outer A₀ base h₀ L m news s Q E B F X Z N T hk hd hu hret
  refine wpAny_call ?_
  k_dflt cell_enter
  k_steps
  exact end_two hret (by k_asm) (by assumption) rfl rfl
end Mine
end
section
local macro_rules | `(tactic| walk_at "idle 0") => `(tactic| skip)
local macro_rules | `(tactic| walk_at "idle 1") => `(tactic| skip)
local macro_rules | `(tactic| walk_at "idle 2") => `(tactic| skip)
local macro_rules | `(tactic| walk_at "idle 3") => `(tactic| skip)
local macro_rules | `(tactic| walk_at "idle 4") => `(tactic| skip)
local macro_rules | `(tactic| walk_at "idle 5") => `(tactic| skip)
local macro_rules | `(tactic| walk_at "idle 6") => `(tactic| skip)
local macro_rules | `(tactic| walk_at "idle 7") => `(tactic| skip)
local macro_rules | `(tactic| walk_at "idle 8") => `(tactic| skip)
local macro_rules | `(tactic| walk_at "idle 9") => `(tactic| skip)
local macro_rules | `(tactic| walk_at "idle 10") => `(tactic| skip)
local macro_rules | `(tactic| walk_at "idle 11") => `(tactic| skip)
local macro_rules | `(tactic| walk_at "idle 12") => `(tactic| skip)
local macro_rules | `(tactic| walk_at "idle 13") => `(tactic| skip)
local macro_rules | `(tactic| walk_at "idle 14") => `(tactic| skip)
local macro_rules | `(tactic| walk_at "idle 15") => `(tactic| skip)
local macro_rules | `(tactic| walk_at "idle 16") => `(tactic| skip)
local macro_rules | `(tactic| walk_at "idle 17") => `(tactic| skip)
local macro_rules | `(tactic| walk_at "idle 18") => `(tactic| skip)
local macro_rules | `(tactic| walk_at "idle 19") => `(tactic| skip)
local macro_rules | `(tactic| walk_at "idle 20") => `(tactic| skip)
local macro_rules | `(tactic| walk_at "idle 21") => `(tactic| skip)
local macro_rules | `(tactic| walk_at "idle 22") => `(tactic| skip)
local macro_rules | `(tactic| walk_at "idle 23") => `(tactic| skip)
local macro_rules | `(tactic| walk_at "idle 24") => `(tactic| skip)
open PySem PySem.W PySem.Calls PyProof.Rows
namespace Mine
set_option maxRecDepth 100000
set_option maxHeartbeats 4000000
theorem fill8 : PySem.Challenge.rw_in0096_01 = PySem.Challenge.rw_in0096_01 ∧ hd.heap_39 = hd.heap_39 := by
  k_fill
  exact ⟨rfl, rfl⟩
local macro_rules | `(tactic| walk_at "execs cons") => `(tactic| (k_here; dsimp only; refine wpAny_execs_cons ?_))
local macro_rules | `(tactic| walk_at "execs nil") => `(tactic| (k_here; dsimp only; refine wpAny_execs_nil ?_))
local macro_rules | `(tactic| walk_at "storeName") => `(tactic| (k_here; dsimp only))
local macro_rules | `(tactic| k_steps) => `(tactic| repeat' (first | (k_unfold; (try dsimp only)) | walk1 | (dsimp only; walk1) | (leave1; try dsimp only) | fail "no step"))
local macro_rules | `(tactic| kts_go) => `(tactic| (refine' code_defS ?k1 ?k2 ?k3 ?k4 ?k5 ?XB ?TB ?D ?T0 ?kA ?k6 ?k7 ?k8 ?k9 ?kB ?_ ?cK ?c2 ?c3 ?c4 ?c5; (case kA => exact rfl); (case k2 => k_asm); (case k1 => k_asm); (case XB => assumption); (case TB => assumption); (case D => assumption); (case T0 => exact KtsTurn.refl); (case k3 => k_asm); (case k4 => k_asm); (case k5 => k_asm); (case k6 => k_is); (case k7 => k_is); (case k8 => ktr_room); (case k9 => first | exact binds_K (by k_in) rfl (by k_is) rfl rfl rfl | exact BindsTo.of_eq rfl); (case kB => exact locs rfl); (case cK => assumption); (case c2 => exact rfl); (case c3 => exact rfl); (case c4 => exact rfl); (case c5 => decide); k_whole; intro g' L' h' FG' F' N' B' X' T' D'; (try dsimp only); (try k_lift B'); (try k_fold)))
local macro_rules | `(tactic| walk_at "call ref") => `(tactic| (k_here; k_dflt (first
  | refine' isoz_bad ?q0 ?q1 ?q2 _ _ _ _ _ _ _ _ _ _ _ _ _ _ _ _ _ ?k1 ?k2 ?k3 ?k4 ?k5 ?k6 ?k7 ?k8 ?k9 ?_
  | refine' netz_bad ?q0 ?q1 ?q2 _ _ _ _ _ _ _ _ _ _ _ _ _ _ _ _ _ ?k1 ?k2 ?k3 ?k4 ?k5 ?k6 ?k7 ?k8 ?k9 ?_); k_dflt ((case q0 => assumption); (case q1 => assumption); (case q2 => assumption); (case k1 => k_asm); (case k2 => k_asm); (case k3 => k_asm); (case k4 => first | assumption | exact ZIn.keeps (by assumption) (Below.stays (by assumption))); (case k5 => k_asm); (case k6 => k_asm); (case k7 => first | exact rfl | assumption); (case k8 => ktr_room); (case k9 => ktr_units)); intro e' g' h' tk' F' R' U'; (try dsimp only); (try k_fold)))
section
variable {h₀ g h' base : Heap} {L : Addr} {m : Str → Option Value} {news : List (Addr × Obj)} {s : Shared} {Q : Value → Shared → Prop} {t u : Tok} {tk' n : Nat} {a : Addr} {A₀ : Around} {outer : List Env} {fs : List Addr}
theorem end_twoK {X Y x y : Str} (hret : ∀ (v : Value) (new : List (Addr × Obj)) (g h' : Heap) (tk' : Nat), RTwo X Y v new → KtsTurn fs h₀ g → Fr g L h' m → News g L h' (new ++ news) → Below A₀ base outer g → KtsDicts fs g → Q v { s with heap := h', toks := tk' })
    (T : KtsTurn fs h₀ g) (F : Fr g L h' m) (N : News g L h' ((a, tup2 x y t u n) :: news)) (B : Below A₀ base outer g) (D : KtsDicts fs g) (e1 : x = X) (e2 : y = Y) : Q (.ref a) { s with heap := h', toks := tk' } := by
  subst e1 e2
  exact hret _ [(a, tup2 x y t u n)] _ _ _ ⟨a, t, u, n, rfl, rfl⟩ T F N B D
end
theorem told_off {prog : Program} {w : World} {mean : ExcName → Option Value} {mg mb : Str → Option Value} {x y mo d : Int} {t : Tok} (D : Off x y mo d) (x0 : -(2 ^ 63) ≤ x) (x1 : x < 2 ^ 63) :
    ClaimK prog w mean mg mb 97 2 [.int x t] (RTwo (Str.ofString "refused") (Str.ofString "refused")) := by
  intro dp un gd cn cs a ccd outer A₀ base h₀ L m news s Q E B F XB ZB TB DB N hk hd hu hret
  have X := XB.keeps B.stays
  have T := TB.keeps B.stays
  refine wpAny_call ?_
  k_dflt kts_go
  k_steps
  exact end_twoK hret (by assumption) (by k_asm) (by assumption) (by assumption) (by assumption) rfl rfl
end Mine
end
section
open PySem PySem.W PySem.Calls PyProof.Rows
namespace Mine
set_option maxRecDepth 100000
/-- the year of the era out of the day of the era -/
theorem yoe_back {yoe doy : Int} (h0 : 0 ≤ yoe) (h1 : yoe < 400) (d0 : 0 ≤ doy) (d1 : doy ≤ 365) (d2 : doy = 365 → (yoe + 1) % 4 = 0 ∧ ((yoe + 1) % 100 ≠ 0 ∨ yoe = 399))
    {doe : Int} (e : doe = 365 * yoe + yoe / 4 - yoe / 100 + doy) : (doe - doe / 1460 + doe / 36524 - doe / 146096) / 365 = yoe := by
  obtain ⟨k, q, p, ey, k0, k1, q0, q1, p0, p1, e4, e100⟩ : ∃ k q p : Int, yoe = 100 * k + 4 * q + p ∧ 0 ≤ k ∧ k ≤ 3 ∧ 0 ≤ q ∧ q ≤ 24 ∧ 0 ≤ p ∧ p ≤ 3 ∧ yoe / 4 = 25 * k + q ∧ yoe / 100 = k :=
    ⟨yoe / 100, yoe % 100 / 4, yoe % 4, by omega, by omega, by omega, by omega, by omega, by omega, by omega, by omega, rfl⟩
  rw [e4, e100] at e
  have d3 : doy = 365 → p = 3 ∧ (q ≤ 23 ∨ k = 3) := by intro h; have := d2 h; omega
  clear d2 e4 e100
  have e' : doe = 36524 * k + 1461 * q + 365 * p + doy := by omega
  subst ey
  by_cases hl : doe = 146096
  · have : k = 3 ∧ q = 24 ∧ p = 3 ∧ doy = 365 := by omega
    obtain ⟨rfl, rfl, rfl, rfl⟩ := this
    subst e'
    decide
  have c3 : doe / 146096 = 0 := by omega
  have c2 : doe / 36524 = k := by omega
  rw [c3, c2]
  by_cases hx : 1460 ≤ 24 * k + q + 365 * p + doy
  · have c1 : doe / 1460 = 25 * k + q + 1 := by omega
    rw [c1]
    omega
  · have c1 : doe / 1460 = 25 * k + q := by omega
    rw [c1]
    omega

open PySem.Builtin.Time in
/-- the model's calendar, read back: Y years of March, mp months behind March, d the day -/
theorem civ_march {Y mp d doy : Int} (m0 : 0 ≤ mp) (m1 : mp ≤ 11) (e : doy = (153 * mp + 2) / 5 + d - 1) (d0 : 1 ≤ d) (d1 : mp ≤ 10 → doy < (153 * (mp + 1) + 2) / 5) (d2 : doy ≤ 365) (d3 : doy = 365 → (Y + 1) % 4 = 0 ∧ ((Y + 1) % 100 ≠ 0 ∨ (Y + 1) % 400 = 0)) :
    timeCivil (365 * Y + Y / 4 - Y / 100 + Y / 400 + doy - 719468) = (Y + (if mp < 10 then 0 else 1), if mp < 10 then mp + 3 else mp - 9, d) := by
  obtain ⟨era, yoe, hY, h0, h1, h4, h100, h400⟩ : ∃ era yoe : Int, Y = 400 * era + yoe ∧ 0 ≤ yoe ∧ yoe < 400 ∧ Y / 4 = 100 * era + yoe / 4 ∧ Y / 100 = 4 * era + yoe / 100 ∧ Y / 400 = era :=
    ⟨Y / 400, Y % 400, by omega, by omega, by omega, by omega, by omega, rfl⟩
  have dd0 : 0 ≤ doy := by omega
  have dd3 : doy = 365 → (yoe + 1) % 4 = 0 ∧ ((yoe + 1) % 100 ≠ 0 ∨ yoe = 399) := by intro h; have := d3 h; omega
  rw [h4, h100, h400]
  subst hY
  clear h4 h100 h400 d3
  obtain ⟨doe, hdoe⟩ : ∃ doe : Int, doe = 365 * yoe + yoe / 4 - yoe / 100 + doy := ⟨_, rfl⟩
  have ez : 365 * (400 * era + yoe) + (100 * era + yoe / 4) - (4 * era + yoe / 100) + era + doy - 719468 + 719468 = 146097 * era + doe := by omega
  have b0 : 0 ≤ doe := by omega
  have b1 : doe < 146097 := by omega
  have ef : (146097 * era + doe).fdiv 146097 = era := by rw [Int.fdiv_eq_ediv_of_nonneg _ (by decide)]; omega
  have ed : 146097 * era + doe - era * 146097 = doe := by omega
  have ey := yoe_back h0 h1 dd0 d2 dd3 hdoe
  have eo : doe - (365 * yoe + yoe / 4 - yoe / 100) = doy := by omega
  have em : (5 * doy + 2) / 153 = mp := by omega
  have edd : doy - (153 * mp + 2) / 5 + 1 = d := by omega
  unfold timeCivil
  dsimp only
  rw [ez, ef, ed, ey, eo, em, edd]
  by_cases hm : mp < 10
  · rw [if_pos hm, if_pos hm, if_neg (by omega)]
    congr 1
    omega
  · rw [if_neg hm, if_neg hm, if_pos (by omega)]
    congr 1
    omega
end Mine
end
section
local macro_rules | `(tactic| walk_at "idle 0") => `(tactic| skip)
local macro_rules | `(tactic| walk_at "idle 1") => `(tactic| skip)
local macro_rules | `(tactic| walk_at "idle 2") => `(tactic| skip)
local macro_rules | `(tactic| walk_at "idle 3") => `(tactic| skip)
local macro_rules | `(tactic| walk_at "idle 4") => `(tactic| skip)
local macro_rules | `(tactic| walk_at "idle 5") => `(tactic| skip)
local macro_rules | `(tactic| walk_at "idle 6") => `(tactic| skip)
local macro_rules | `(tactic| walk_at "idle 7") => `(tactic| skip)
local macro_rules | `(tactic| walk_at "idle 8") => `(tactic| skip)
local macro_rules | `(tactic| walk_at "idle 9") => `(tactic| skip)
local macro_rules | `(tactic| walk_at "idle 10") => `(tactic| skip)
local macro_rules | `(tactic| walk_at "idle 11") => `(tactic| skip)
local macro_rules | `(tactic| walk_at "idle 12") => `(tactic| skip)
local macro_rules | `(tactic| walk_at "idle 13") => `(tactic| skip)
local macro_rules | `(tactic| walk_at "idle 14") => `(tactic| skip)
local macro_rules | `(tactic| walk_at "idle 15") => `(tactic| skip)
local macro_rules | `(tactic| walk_at "idle 16") => `(tactic| skip)
local macro_rules | `(tactic| walk_at "idle 17") => `(tactic| skip)
local macro_rules | `(tactic| walk_at "idle 18") => `(tactic| skip)
local macro_rules | `(tactic| walk_at "idle 19") => `(tactic| skip)
local macro_rules | `(tactic| walk_at "idle 20") => `(tactic| skip)
local macro_rules | `(tactic| walk_at "idle 21") => `(tactic| skip)
local macro_rules | `(tactic| walk_at "idle 22") => `(tactic| skip)
local macro_rules | `(tactic| walk_at "idle 23") => `(tactic| skip)
local macro_rules | `(tactic| walk_at "idle 24") => `(tactic| skip)
open PySem PySem.W PySem.Calls PyProof.Rows
namespace Mine
set_option maxRecDepth 100000
/-- the law's days ahead of a month in its year -/
def cum (m : Int) : Int := (([0, 31, 59, 90, 120, 151, 181, 212, 243, 273, 304, 334] : List Int)[(m - 1).toNat]?).getD 0
def leapOne (y : Int) : Int := if y % 400 = 0 ∨ (y % 4 = 0 ∧ ¬ y % 100 = 0) then 1 else 0
theorem first_at {y m : Int} (m0 : 1 ≤ m) (m1 : m ≤ 12) : firstOf y m = 365 * (y - 1) + (y - 1) / 4 - (y - 1) / 100 + (y - 1) / 400 - 719162 + cum m + (if 2 < m then leapOne y else 0) := by
  rw [firstOf_def, Int.fdiv_eq_ediv_of_nonneg _ (by decide), Int.fdiv_eq_ediv_of_nonneg _ (by decide), Int.fdiv_eq_ediv_of_nonneg _ (by decide)]
  unfold cum leapOne
  obtain ⟨n, hn⟩ := Int.eq_ofNat_of_zero_le (show 0 ≤ m - 1 by omega)
  have hm : m = (n : Int) + 1 := by omega
  subst hm
  have hj : n < 12 := by omega
  rw [show ((n : Int) + 1 - 1).toNat = n by omega]
  match n, hj with
  | 0, _ => simp [rangeKs]
  | 1, _ => simp [rangeKs, List.range_succ, lenOf_def]
  | 2, _ => simp [rangeKs, List.range_succ, lenOf_def]; split <;> omega
  | 3, _ => simp [rangeKs, List.range_succ, lenOf_def]; split <;> omega
  | 4, _ => simp [rangeKs, List.range_succ, lenOf_def]; split <;> omega
  | 5, _ => simp [rangeKs, List.range_succ, lenOf_def]; split <;> omega
  | 6, _ => simp [rangeKs, List.range_succ, lenOf_def]; split <;> omega
  | 7, _ => simp [rangeKs, List.range_succ, lenOf_def]; split <;> omega
  | 8, _ => simp [rangeKs, List.range_succ, lenOf_def]; split <;> omega
  | 9, _ => simp [rangeKs, List.range_succ, lenOf_def]; split <;> omega
  | 10, _ => simp [rangeKs, List.range_succ, lenOf_def]; split <;> omega
  | 11, _ => simp [rangeKs, List.range_succ, lenOf_def]; split <;> omega

open PySem.Builtin.Time in
theorem leap_iff (y : Int) : timeIsLeap y = true ↔ (y % 400 = 0 ∨ (y % 4 = 0 ∧ ¬ y % 100 = 0)) := by
  unfold timeIsLeap
  simp only [Bool.and_eq_true, Bool.or_eq_true, beq_iff_eq, bne_iff_ne, ne_eq]
  omega
open PySem.Builtin.Time PySem.Builtin._datetime in
theorem len_at {y m : Int} (m0 : 1 ≤ m) (m1 : m ≤ 12) : lenOf y m = daysInMonth y m := by
  have hl := leap_iff y
  rw [lenOf_def]
  unfold daysInMonth
  obtain ⟨n, hn⟩ := Int.eq_ofNat_of_zero_le (show 0 ≤ m - 1 by omega)
  have hm : m = (n : Int) + 1 := by omega
  subst hm
  have hj : n < 12 := by omega
  rw [show ((n : Int) + 1 - 1).toNat = n by omega]
  match n, hj with
  | 1, _ =>
    by_cases h : (y % 400 = 0 ∨ (y % 4 = 0 ∧ ¬ y % 100 = 0))
    · simp [h, hl.mpr h]
    · have : timeIsLeap y = false := by rw [← Bool.not_eq_true]; exact fun e => h (hl.mp e)
      simp [h, this]
  | 0, _ | 2, _ | 3, _ | 4, _ | 5, _ | 6, _ | 7, _ | 8, _ | 9, _ | 10, _ | 11, _ => simp
open PySem.Builtin.Time PySem.Builtin._datetime in
theorem ord_at {y m d : Int} (m0 : 1 ≤ m) (m1 : m ≤ 12) : toOrdinal y m d = firstOf y m + d - 1 + 719163 := by
  have hl := leap_iff y
  rw [first_at m0 m1]
  unfold toOrdinal timeDaysBefore cum leapOne
  dsimp only
  have : (if (timeIsLeap y && decide (m > 2)) = true then (1 : Int) else 0) = (if 2 < m then (if y % 400 = 0 ∨ (y % 4 = 0 ∧ ¬ y % 100 = 0) then 1 else 0) else 0) := by
    by_cases h : (y % 400 = 0 ∨ (y % 4 = 0 ∧ ¬ y % 100 = 0))
    · rw [hl.mpr h]; simp [h]
    · have e : timeIsLeap y = false := by rw [← Bool.not_eq_true]; exact fun e => h (hl.mp e)
      rw [e]; simp [h]
  rw [this]
  omega
open PySem.Builtin.Time in
theorem civ_at {y m d : Int} (m0 : 1 ≤ m) (m1 : m ≤ 12) (d0 : 1 ≤ d) (d1 : d ≤ lenOf y m) : timeCivil (firstOf y m + d - 1) = (y, m, d) := by
  rw [first_at m0 m1]
  rw [lenOf_def] at d1
  unfold cum leapOne
  obtain ⟨n, hn⟩ := Int.eq_ofNat_of_zero_le (show 0 ≤ m - 1 by omega)
  have hm : m = (n : Int) + 1 := by omega
  subst hm
  have hj : n < 12 := by omega
  rw [show ((n : Int) + 1 - 1).toNat = n by omega]
  clear hn m0 m1
  have late : ∀ (k doy : Int), 2 ≤ (n : Int) → k = (n : Int) - 2 → doy = (153 * k + 2) / 5 + d - 1 → (k ≤ 10 → doy < (153 * (k + 1) + 2) / 5) → doy ≤ 365 → (doy = 365 → (y + 1) % 4 = 0 ∧ ((y + 1) % 100 ≠ 0 ∨ (y + 1) % 400 = 0)) → ∀ z, z = 365 * y + y / 4 - y / 100 + y / 400 + doy - 719468 → timeCivil z = (y, (n : Int) + 1, d) := by
    intro k doy h2 hk hd h3 h4 h5 z hz
    subst hz hk
    rw [civ_march (by omega) (by omega) hd d0 h3 h4 h5, if_pos (by omega), if_pos (by omega)]
    congr 1
    · omega
    · congr 1
      omega
  have soon : ∀ (k doy : Int), (n : Int) ≤ 1 → k = (n : Int) + 10 → doy = (153 * k + 2) / 5 + d - 1 → (k ≤ 10 → doy < (153 * (k + 1) + 2) / 5) → doy ≤ 365 → (doy = 365 → y % 4 = 0 ∧ (y % 100 ≠ 0 ∨ y % 400 = 0)) → ∀ z, z = 365 * (y - 1) + (y - 1) / 4 - (y - 1) / 100 + (y - 1) / 400 + doy - 719468 → timeCivil z = (y, (n : Int) + 1, d) := by
    intro k doy h2 hk hd h3 h4 h5 z hz
    subst hz hk
    have h5' : doy = 365 → (y - 1 + 1) % 4 = 0 ∧ ((y - 1 + 1) % 100 ≠ 0 ∨ (y - 1 + 1) % 400 = 0) := by rw [show y - 1 + 1 = y by omega]; exact h5
    rw [civ_march (by omega) (by omega) hd d0 h3 h4 h5', if_neg (by omega), if_neg (by omega)]
    congr 1
    · omega
    · congr 1
      omega
  revert d1 late soon
  match n, hj with
  | 0, _ =>
    intro d1 late soon
    simp at d1
    exact soon 10 _ (by omega) (by omega) rfl (by omega) (by omega) (by omega) _ (by simp; omega)
  | 1, _ =>
    intro d1 late soon
    simp at d1
    exact soon 11 _ (by omega) (by omega) rfl (by omega) (by omega) (by omega) _ (by simp; omega)
  | 2, _ =>
    intro d1 late soon
    simp at d1
    exact late 0 _ (by omega) (by omega) rfl (by omega) (by omega) (by omega) _ (by simp; omega)
  | 3, _ =>
    intro d1 late soon
    simp at d1
    exact late 1 _ (by omega) (by omega) rfl (by omega) (by omega) (by omega) _ (by simp; omega)
  | 4, _ =>
    intro d1 late soon
    simp at d1
    exact late 2 _ (by omega) (by omega) rfl (by omega) (by omega) (by omega) _ (by simp; omega)
  | 5, _ =>
    intro d1 late soon
    simp at d1
    exact late 3 _ (by omega) (by omega) rfl (by omega) (by omega) (by omega) _ (by simp; omega)
  | 6, _ =>
    intro d1 late soon
    simp at d1
    exact late 4 _ (by omega) (by omega) rfl (by omega) (by omega) (by omega) _ (by simp; omega)
  | 7, _ =>
    intro d1 late soon
    simp at d1
    exact late 5 _ (by omega) (by omega) rfl (by omega) (by omega) (by omega) _ (by simp; omega)
  | 8, _ =>
    intro d1 late soon
    simp at d1
    exact late 6 _ (by omega) (by omega) rfl (by omega) (by omega) (by omega) _ (by simp; omega)
  | 9, _ =>
    intro d1 late soon
    simp at d1
    exact late 7 _ (by omega) (by omega) rfl (by omega) (by omega) (by omega) _ (by simp; omega)
  | 10, _ =>
    intro d1 late soon
    simp at d1
    exact late 8 _ (by omega) (by omega) rfl (by omega) (by omega) (by omega) _ (by simp; omega)
  | 11, _ =>
    intro d1 late soon
    simp at d1
    exact late 9 _ (by omega) (by omega) rfl (by omega) (by omega) (by omega) _ (by simp; omega)
end Mine
end
section
open PySem PySem.W PySem.Calls PyProof.Rows
namespace Mine
set_option maxRecDepth 100000
theorem first_lo {y m : Int} (m0 : 1 ≤ m) (m1 : m ≤ 12) (y0 : 1 ≤ y) : -719162 ≤ firstOf y m := by
  rw [first_at m0 m1]
  unfold leapOne cum
  obtain ⟨n, hn⟩ := Int.eq_ofNat_of_zero_le (show 0 ≤ m - 1 by omega)
  have hm : m = (n : Int) + 1 := by omega
  subst hm
  have hj : n < 12 := by omega
  rw [show ((n : Int) + 1 - 1).toNat = n by omega]
  clear hn m0 m1
  match n, hj with
  | 0, _ | 1, _ | 2, _ | 3, _ | 4, _ | 5, _ | 6, _ | 7, _ | 8, _ | 9, _ | 10, _ | 11, _ => simp <;> (repeat' split) <;> omega
theorem first_hi {y m d : Int} (m0 : 1 ≤ m) (m1 : m ≤ 12) (y1 : y ≤ 9999) (d1 : d ≤ lenOf y m) : firstOf y m + d - 1 < 2932897 := by
  rw [first_at m0 m1]
  rw [lenOf_def] at d1
  unfold leapOne cum
  obtain ⟨n, hn⟩ := Int.eq_ofNat_of_zero_le (show 0 ≤ m - 1 by omega)
  have hm : m = (n : Int) + 1 := by omega
  subst hm
  have hj : n < 12 := by omega
  rw [show ((n : Int) + 1 - 1).toNat = n by omega]
  clear hn m0 m1
  revert d1
  match n, hj with
  | 0, _ | 1, _ | 2, _ | 3, _ | 4, _ | 5, _ | 6, _ | 7, _ | 8, _ | 9, _ | 10, _ | 11, _ => intro d1; simp at d1 ⊢ <;> (repeat' split) <;> (repeat' split at d1) <;> omega
theorem day_at {y m d c sec : Int} (y0 : 1 ≤ y) (y1 : y ≤ 9999) (m0 : 1 ≤ m) (m1 : m ≤ 12) (d0 : 1 ≤ d) (d1 : d ≤ lenOf y m) (hc : c = firstOf y m + d - 1) (s0 : 0 ≤ sec) (s1 : sec < 86400) : Day (86400 * c + sec) y m d where
  civ := by rw [day_fdiv s0 s1, hc]; exact civ_at m0 m1 d0 d1
  ord := by rw [day_fdiv s0 s1, hc]; exact ord_at m0 m1
  y0 := y0
  y1 := y1
  m0 := m0
  m1 := m1
  d0 := d0
  d1 := by rw [← len_at m0 m1]; exact d1
def yoeF (doe : Int) : Int := (doe - doe / 1460 + doe / 36524 - doe / 146096) / 365
def mpF (doe : Int) : Int := (5 * (doe - (365 * yoeF doe + yoeF doe / 4 - yoeF doe / 100)) + 2) / 153
open PySem.Builtin.Time in
theorem civ_year {era doe z : Int} (h0 : 0 ≤ doe) (h1 : doe < 146097) (hz : z + 719468 = 146097 * era + doe) :
    (timeCivil z).1 = yoeF doe + era * 400 + (if (if mpF doe < 10 then mpF doe + 3 else mpF doe - 9) ≤ 2 then 1 else 0) := by
  have ef : (146097 * era + doe).fdiv 146097 = era := by rw [Int.fdiv_eq_ediv_of_nonneg _ (by decide)]; omega
  have ed : 146097 * era + doe - era * 146097 = doe := by omega
  unfold timeCivil
  dsimp only
  rw [hz, ef, ed]
  rfl
theorem yoe_range {doe : Int} (h0 : 0 ≤ doe) (h1 : doe < 146097) : 0 ≤ yoeF doe ∧ yoeF doe ≤ 399 := by
  unfold yoeF
  omega
open PySem.Builtin.Time in
theorem civ_lo {z : Int} (h0 : z ≤ -719163) (h1 : -8200000 ≤ z) : (timeCivil z).1 < 1 ∧ -1000000 ≤ (timeCivil z).1 := by
  obtain ⟨era, doe, hz, d0, d1⟩ : ∃ era doe : Int, z + 719468 = 146097 * era + doe ∧ 0 ≤ doe ∧ doe < 146097 := ⟨(z + 719468) / 146097, (z + 719468) % 146097, by omega, by omega, by omega⟩
  rw [civ_year d0 d1 hz]
  have r := yoe_range d0 d1
  by_cases he : era ≤ -1
  · split <;> omega
  · have e0 : era = 0 := by omega
    subst e0
    have ey : yoeF doe = 0 := by unfold yoeF; omega
    have em : mpF doe < 10 := by unfold mpF; rw [ey]; omega
    have em0 : 0 ≤ mpF doe := by unfold mpF; rw [ey]; omega
    rw [if_pos em, if_neg (by omega), ey]
    omega
open PySem.Builtin.Time in
theorem civ_hi {z : Int} (h0 : 2932897 ≤ z) (h1 : z ≤ 10000000) : 9999 < (timeCivil z).1 ∧ (timeCivil z).1 ≤ 1000000 := by
  obtain ⟨era, doe, hz, d0, d1⟩ : ∃ era doe : Int, z + 719468 = 146097 * era + doe ∧ 0 ≤ doe ∧ doe < 146097 := ⟨(z + 719468) / 146097, (z + 719468) % 146097, by omega, by omega, by omega⟩
  rw [civ_year d0 d1 hz]
  have r := yoe_range d0 d1
  by_cases he : 25 ≤ era
  · split <;> omega
  · have e0 : era = 24 := by omega
    subst e0
    have ey : yoeF doe = 399 := by unfold yoeF; omega
    have em : 10 ≤ mpF doe := by unfold mpF; rw [ey]; omega
    have em1 : mpF doe ≤ 11 := by unfold mpF; rw [ey]; omega
    have e1 : (if mpF doe < 10 then mpF doe + 3 else mpF doe - 9) = mpF doe - 9 := if_neg (by omega)
    rw [e1, if_pos (by omega), ey]
    omega
theorem off_lo {x : Int} (h0 : x < -62135596800) (h1 : -700000000000 ≤ x) : ∃ y mo d, Off x y mo d := by
  have r := civ_lo (z := x.fdiv 86400) (by rw [Int.fdiv_eq_ediv_of_nonneg _ (by decide)]; omega) (by rw [Int.fdiv_eq_ediv_of_nonneg _ (by decide)]; omega)
  exact ⟨_, _, _, ⟨rfl, .inl r.1, r.2, Int.le_of_lt (Int.lt_trans r.1 (by decide))⟩⟩
theorem off_hi {x : Int} (h0 : 253402300800 ≤ x) (h1 : x ≤ 700000000000) : ∃ y mo d, Off x y mo d := by
  have r := civ_hi (z := x.fdiv 86400) (by rw [Int.fdiv_eq_ediv_of_nonneg _ (by decide)]; omega) (by rw [Int.fdiv_eq_ediv_of_nonneg _ (by decide)]; omega)
  exact ⟨_, _, _, ⟨rfl, .inr r.1, Int.le_of_lt (Int.lt_trans (by decide) r.1), r.2⟩⟩
end Mine
end
section
local macro_rules | `(tactic| walk_at "idle 0") => `(tactic| skip)
local macro_rules | `(tactic| walk_at "idle 1") => `(tactic| skip)
local macro_rules | `(tactic| walk_at "idle 2") => `(tactic| skip)
local macro_rules | `(tactic| walk_at "idle 3") => `(tactic| skip)
local macro_rules | `(tactic| walk_at "idle 4") => `(tactic| skip)
local macro_rules | `(tactic| walk_at "idle 5") => `(tactic| skip)
local macro_rules | `(tactic| walk_at "idle 6") => `(tactic| skip)
local macro_rules | `(tactic| walk_at "idle 7") => `(tactic| skip)
local macro_rules | `(tactic| walk_at "idle 8") => `(tactic| skip)
local macro_rules | `(tactic| walk_at "idle 9") => `(tactic| skip)
local macro_rules | `(tactic| walk_at "idle 10") => `(tactic| skip)
local macro_rules | `(tactic| walk_at "idle 11") => `(tactic| skip)
local macro_rules | `(tactic| walk_at "idle 12") => `(tactic| skip)
local macro_rules | `(tactic| walk_at "idle 13") => `(tactic| skip)
local macro_rules | `(tactic| walk_at "idle 14") => `(tactic| skip)
local macro_rules | `(tactic| walk_at "idle 15") => `(tactic| skip)
local macro_rules | `(tactic| walk_at "idle 16") => `(tactic| skip)
local macro_rules | `(tactic| walk_at "idle 17") => `(tactic| skip)
local macro_rules | `(tactic| walk_at "idle 18") => `(tactic| skip)
local macro_rules | `(tactic| walk_at "idle 19") => `(tactic| skip)
local macro_rules | `(tactic| walk_at "idle 20") => `(tactic| skip)
local macro_rules | `(tactic| walk_at "idle 21") => `(tactic| skip)
local macro_rules | `(tactic| walk_at "idle 22") => `(tactic| skip)
local macro_rules | `(tactic| walk_at "idle 23") => `(tactic| skip)
local macro_rules | `(tactic| walk_at "idle 24") => `(tactic| skip)
open PySem PySem.W PySem.Calls PyProof.Rows
namespace Mine
set_option maxRecDepth 100000
theorem ok_pad {W : Nat} {n : Int} (h : 0 ≤ n) : PyData.strOk (padI W n) = true := by
  rw [padI_def]
  unfold PyData.strOk
  rw [← Array.all_toList]
  simp only [List.all_eq_true, decide_eq_true_eq]
  intro c hc
  rcases List.mem_append.mp hc with hc | hc
  · have := (List.mem_replicate.mp hc).2
    omega
  · have := sgs_digits h c hc
    omega
theorem ok_app {x y : Str} (hx : PyData.strOk x = true) (hy : PyData.strOk y = true) : PyData.strOk (x ++ y) = true := by
  unfold PyData.strOk at *
  show (x.cps ++ y.cps).all _ = true
  rw [Array.all_append, hx, hy]
  rfl
theorem ok_lit (x : String) : PyData.strOk (Str.ofString x) = true := by
  rw [Str.ofString_eq_toList]
  unfold PyData.strOk
  rw [← Array.all_toList]
  simp only [List.all_eq_true, decide_eq_true_eq, List.mem_map]
  rintro c ⟨ch, _, rfl⟩
  have := ch.valid
  simp only [UInt32.isValidChar, Nat.isValidChar] at this
  show ch.val.toNat < 0x110000
  omega
theorem ok_day (k : Int) : PyData.strOk (dayName k) = true := by
  rw [dayName_def]
  rcases Nat.lt_or_ge k.toNat 7 with h | h
  · revert h
    generalize k.toNat = j
    intro h
    match j, h with
    | 0, _ | 1, _ | 2, _ | 3, _ | 4, _ | 5, _ | 6, _ => exact ok_lit _
  · rw [List.getElem?_eq_none (by simpa using h)]
    exact ok_lit _
theorem ok_mon (k : Int) : PyData.strOk (monName k) = true := by
  rw [monName_def]
  rcases Nat.lt_or_ge k.toNat 12 with h | h
  · revert h
    generalize k.toNat = j
    intro h
    match j, h with
    | 0, _ | 1, _ | 2, _ | 3, _ | 4, _ | 5, _ | 6, _ | 7, _ | 8, _ | 9, _ | 10, _ | 11, _ => exact ok_lit _
  · rw [List.getElem?_eq_none (by simpa using h)]
    exact ok_lit _
theorem ok_iso {y mo d h mi sec : Int} (y0 : 0 ≤ y) (m0 : 0 ≤ mo) (d0 : 0 ≤ d) (h0 : 0 ≤ h) (i0 : 0 ≤ mi) (s0 : 0 ≤ sec) : PyData.strOk (isoText y mo d h mi sec) = true := by
  unfold isoText
  repeat' with_reducible (first | refine ok_app ?_ ?_ | exact ok_lit _ | exact ok_pad (by assumption))
theorem ok_net {y d h mi sec a b : Int} (y0 : 0 ≤ y) (d0 : 0 ≤ d) (h0 : 0 ≤ h) (i0 : 0 ≤ mi) (s0 : 0 ≤ sec) : PyData.strOk (netText (dayName a) (monName b) y d h mi sec) = true := by
  unfold netText
  repeat' with_reducible (first | refine ok_app ?_ ?_ | exact ok_lit _ | exact ok_day _ | exact ok_mon _ | exact ok_pad (by assumption))
theorem ok_iso' {y mo d x : Int} (y0 : 1 ≤ y) (m0 : 1 ≤ mo) (d0 : 1 ≤ d) : PyData.strOk (isoText y mo d (hourOf x) (minOf x) (secOf x)) = true :=
  ok_iso (by omega) (by omega) (by omega) (hourOf_ge x) (minOf_ge x) (secOf_ge x)
theorem ok_net' {y d x a b : Int} (y0 : 1 ≤ y) (d0 : 1 ≤ d) : PyData.strOk (netText (dayName a) (monName b) y d (hourOf x) (minOf x) (secOf x)) = true :=
  ok_net (by omega) (by omega) (hourOf_ge x) (minOf_ge x) (secOf_ge x)
end Mine
end
section
open PySem PySem.W PySem.Calls PyProof.Rows
namespace Mine
set_option maxRecDepth 100000
set_option maxHeartbeats 400000
theorem fill9 : PySem.Challenge.rw_in0096_01 = PySem.Challenge.rw_in0096_01 ∧ hd.heap_39 = hd.heap_39 := by
  k_fill
  exact ⟨rfl, rfl⟩
local macro_rules | `(tactic| walk_at "execs cons") => `(tactic| (k_here; dsimp only; refine wpAny_execs_cons ?_))
local macro_rules | `(tactic| walk_at "execs nil") => `(tactic| (k_here; dsimp only; refine wpAny_execs_nil ?_))
local macro_rules | `(tactic| walk_at "storeName") => `(tactic| (k_here; dsimp only))
local macro_rules | `(tactic| k_steps) => `(tactic| repeat' (first | (k_unfold; (try dsimp only)) | walk1 | (dsimp only; walk1) | (leave1; try dsimp only) | fail "no step"))
local macro_rules | `(tactic| kts_go) => `(tactic| (refine' code_defS ?k1 ?k2 ?k3 ?k4 ?k5 ?XB ?TB ?D ?T0 ?kA ?k6 ?k7 ?k8 ?k9 ?kB ?_ ?cK ?c2 ?c3 ?c4 ?c5; (case kA => exact rfl); (case k2 => k_asm); (case k1 => k_asm); (case XB => assumption); (case TB => assumption); (case D => assumption); (case T0 => exact KtsTurn.refl); (case k3 => k_asm); (case k4 => k_asm); (case k5 => k_asm); (case k6 => k_is); (case k7 => k_is); (case k8 => ktr_room); (case k9 => first | exact binds_K (by k_in) rfl (by k_is) rfl rfl rfl | exact BindsTo.of_eq rfl); (case kB => exact locs rfl); (case cK => assumption); (case c2 => exact rfl); (case c3 => exact rfl); (case c4 => exact rfl); (case c5 => decide); k_whole; intro g' L' h' FG' F' N' B' X' T' D'; (try dsimp only); (try k_lift B'); (try k_fold)))
theorem told_bad {prog : Program} {w : World} {mean : ExcName → Option Value} {mg mb : Str → Option Value} {x : Int} {t : Tok} (h : (x < -62135596800 ∧ -700000000000 ≤ x) ∨ (253402300800 ≤ x ∧ x ≤ 700000000000)) :
    ClaimK prog w mean mg mb 97 2 [.int x t] (RTwo (Str.ofString "refused") (Str.ofString "refused")) := by
  rcases h with ⟨h0, h1⟩ | ⟨h0, h1⟩
  · obtain ⟨y, mo, d, D⟩ := off_lo h0 h1
    exact told_off D (by omega) (by omega)
  · obtain ⟨y, mo, d, D⟩ := off_hi h0 h1
    exact told_off D (by omega) (by omega)
local macro_rules | `(tactic| walk_at "call ref") => `(tactic| (k_here; k_dflt (refine' told_bad ?q0 _ _ _ _ _ _ _ _ _ _ _ _ _ _ _ _ _ ?k1 ?k2 ?k3 ?k4 ?k5 ?k6 ?k7 ?k8 ?k9 ?k10 ?_; (case q0 => first | assumption | omega); (case k1 => k_asm); (case k2 => k_asm); (case k3 => assumption); (case k4 => assumption); (case k5 => assumption); (case k6 => assumption); (case k7 => k_asm); (case k8 => first | exact rfl | assumption); (case k9 => ktr_room); (case k10 => ktr_units)); intro v' new' g' h' tk' R' T' F' N' B' D'; obtain ⟨a', t', u', n', e1, e2⟩ := R'; subst e1; subst e2; k_dflt ((try replace T' := KtsTurn.trans (by assumption) T'); (have X' := Frag.In.keeps (by assumption) (Below.stays B')); (have TT' := Top.keeps (by assumption) (Below.stays B'))); (try dsimp only [List.cons_append, List.nil_append] at N'); (try dsimp only); (try k_fold)))
section
variable {prog : Program} {w : World} {A : Around} {E : Value → Shared → Prop} {s : Shared} {a b : Addr} {h₀ : Heap} {L : Addr} {news : List (Addr × Obj)} {Q : Value → Shared → Prop}
theorem ne_two {x y x' y' : Str} {t u t' u' : Tok} {n n' : Nat} (N : News h₀ L s.heap news) {oa ob : Obj} (m1 : (a, oa) ∈ news) (m2 : (b, ob) ∈ news) (q1 : oa = tup2 x y t u n) (q2 : ob = tup2 x' y' t' u' n') (e1 : x = x') (e2 : y = y') (ox : PyData.strOk x = true) (oy : PyData.strOk y = true) (hu : A.units + 64 < cLine) (h : Q (.bool false) s) :
    wpAny (model prog w) A (compareOp .NotEq (.ref a) (.ref b)) Q E s := by
  subst e1 e2 q1 q2
  refine ne_dataH (da := .tuple [.str x, .str y]) (db := .tuple [.str x, .str y]) (reads_tuple_at (News.get N m1) rfl rfl (ReadsAll.cons (Reads.str _ _) (ReadsAll.cons (Reads.str _ _) ReadsAll.nil))) (reads_tuple_at (News.get N m2) rfl rfl (ReadsAll.cons (Reads.str _ _) (ReadsAll.cons (Reads.str _ _) ReadsAll.nil))) (by simp [SeqAt.shaped, PyData.canLay0, PyData.canLayAll0, PyData.depth, PyData.depthAll, ox, oy]) (by simp [SeqAt.shaped, PyData.canLay0, PyData.canLayAll0, PyData.depth, PyData.depthAll, ox, oy]) hu ?_
  simpa [PyData.eqv, PyData.eqvAll] using h
end
section
variable {h₀ g h' base : Heap} {L : Addr} {m : Str → Option Value} {news : List (Addr × Obj)} {s : Shared} {Q : Value → Shared → Prop} {tk' : Nat} {A₀ : Around} {outer : List Env} {fs : List Addr}
theorem end_boolK {b : Bool} (hret : ∀ (v : Value) (new : List (Addr × Obj)) (g h' : Heap) (tk' : Nat), RBool b v new → KtsTurn fs h₀ g → Fr g L h' m → News g L h' (new ++ news) → Below A₀ base outer g → KtsDicts fs g → Q v { s with heap := h', toks := tk' })
    (T : KtsTurn fs h₀ g) (F : Fr g L h' m) {big : List (Addr × Obj)} (N : News g L h' big) (sub : ∀ p ∈ news, p ∈ big) (B : Below A₀ base outer g) (D : KtsDicts fs g) : Q (.bool b) { s with heap := h', toks := tk' } :=
  hret _ [] _ _ _ ⟨rfl, rfl⟩ T F (fun p hp => N p (sub p hp)) B D
end
local macro_rules | `(tactic| walk_at "compareOp NotEq ref ref") => `(tactic| (k_here; k_dflt (refine' ne_two ?N ?m1 ?m2 ?q1 ?q2 ?e1 ?e2 ?o1 ?o2 ?u ?_; (case N => assumption); (case m1 => k_mem); (case m2 => k_mem); (case q1 => exact rfl); (case q2 => exact rfl); (case e1 => rfl); (case e2 => rfl); (case o1 => exact ok_lit _); (case o2 => exact ok_lit _); (case u => first | ktr_units | units_room)); (try dsimp only)))
local macro_rules | `(tactic| walk_at "exec For Name Tuple cons nil") => `(tactic| (k_here; (with_unfolding_all refine' For_seq ?_); k_whole))
local macro_rules | `(tactic| walk_at "pyIter ref") => `(tactic| (k_here; (with_reducible show wpAny _ _ (pyIter (Value.ref _)) (fun it s₂ => SeqAt _ _ _ _ _ _ _ _ it s₂) _ _); (with_unfolding_all refine' iter_tupSeq ?h ?F ?N ?m ?c ?d ?_; (case h => with_unfolding_all rfl); (case F => k_asm); (case N => k_asm); (case m => k_mem); (case c => exact rfl); (case d => exact rfl); k_whole); intro i' h' l1; (try dsimp only); (try k_lt l1)))
local macro_rules | `(tactic| walk_at "SeqPost") => `(tactic| (dsimp only [SeqPost]))
local macro_rules | `(tactic| walk_at "SeqEnd") => `(tactic| (refine SeqEnd.intro (by assumption) (by assumption) (by (intro p hp; repeat (first | exact hp | apply List.mem_cons_of_mem))) ?_))
theorem refused {prog : Program} {w : World} {mean : ExcName → Option Value} {mg mb : Str → Option Value} {x : Int} {t : Tok} (x0 : 0 ≤ x) (x1 : x < 315537897600) :
    ClaimK prog w mean mg mb 111 10 [.int x t] (RBool true) := by
  intro dp un gd cn cs a ccd outer A₀ base h₀ L m news s Q E B F XB ZB TB DB N hk hd hu hret
  have X := XB.keeps B.stays
  have T := TB.keeps B.stays
  refine wpAny_call ?_
  k_dflt kts_go
  k_steps
  refine seq_k1 (Str.ofString "moment") (fun v => ∃ x t, v = .int x t ∧ ((x < -62135596800 ∧ -700000000000 ≤ x) ∨ (253402300800 ≤ x ∧ x ≤ 700000000000))) ?hv (by assumption) (by assumption) ?turn ?done
  case hv =>
    intro v hv
    simp only [List.mem_cons, List.not_mem_nil, or_false] at hv
    rcases hv with rfl | rfl | rfl | rfl <;> exact ⟨_, _, rfl, by omega⟩
  case turn =>
    intro v g o1 io h₁ tk₁ hV T' B' D' F' N'
    obtain ⟨x', t', rfl, hx⟩ := hV
    have X' := XB.keeps B'.stays
    have TT' := TB.keeps B'.stays
    (try dsimp only)
    k_steps
    exact ⟨by assumption, by assumption, by assumption, ch1_over⟩
  case done =>
    intro g m h' tk T' B' D' F' N'
    (try dsimp only)
    k_steps
    (refine' end_boolK (by assumption) ?T ?F ?N ?sub ?B ?D; (case F => k_asm); (case N => assumption); (case sub => (intro p hp; repeat (first | exact hp | apply List.mem_cons_of_mem))); (case T => assumption); (case B => assumption); (case D => assumption))
end Mine
end
section
local macro_rules | `(tactic| walk_at "idle 0") => `(tactic| skip)
local macro_rules | `(tactic| walk_at "idle 1") => `(tactic| skip)
local macro_rules | `(tactic| walk_at "idle 2") => `(tactic| skip)
local macro_rules | `(tactic| walk_at "idle 3") => `(tactic| skip)
local macro_rules | `(tactic| walk_at "idle 4") => `(tactic| skip)
local macro_rules | `(tactic| walk_at "idle 5") => `(tactic| skip)
local macro_rules | `(tactic| walk_at "idle 6") => `(tactic| skip)
local macro_rules | `(tactic| walk_at "idle 7") => `(tactic| skip)
local macro_rules | `(tactic| walk_at "idle 8") => `(tactic| skip)
local macro_rules | `(tactic| walk_at "idle 9") => `(tactic| skip)
local macro_rules | `(tactic| walk_at "idle 10") => `(tactic| skip)
local macro_rules | `(tactic| walk_at "idle 11") => `(tactic| skip)
local macro_rules | `(tactic| walk_at "idle 12") => `(tactic| skip)
local macro_rules | `(tactic| walk_at "idle 13") => `(tactic| skip)
local macro_rules | `(tactic| walk_at "idle 14") => `(tactic| skip)
local macro_rules | `(tactic| walk_at "idle 15") => `(tactic| skip)
local macro_rules | `(tactic| walk_at "idle 16") => `(tactic| skip)
local macro_rules | `(tactic| walk_at "idle 17") => `(tactic| skip)
local macro_rules | `(tactic| walk_at "idle 18") => `(tactic| skip)
local macro_rules | `(tactic| walk_at "idle 19") => `(tactic| skip)
local macro_rules | `(tactic| walk_at "idle 20") => `(tactic| skip)
local macro_rules | `(tactic| walk_at "idle 21") => `(tactic| skip)
local macro_rules | `(tactic| walk_at "idle 22") => `(tactic| skip)
local macro_rules | `(tactic| walk_at "idle 23") => `(tactic| skip)
local macro_rules | `(tactic| walk_at "idle 24") => `(tactic| skip)
open PySem PySem.W PySem.Calls PyProof.Rows
namespace Mine
set_option maxRecDepth 100000
theorem lenOf_ge (y m : Int) : 28 ≤ lenOf y m := by
  rw [lenOf_def]
  repeat' split
  all_goals omega
theorem lenOf_le (y m : Int) : lenOf y m ≤ 31 := by
  rw [lenOf_def]
  repeat' split
  all_goals omega
theorem lenOf_dec (y : Int) : lenOf y 12 = 31 := by rw [lenOf_def]; rfl
theorem first_next {y m : Int} (m0 : 1 ≤ m) (m1 : m ≤ 11) : firstOf y (m + 1) = firstOf y m + lenOf y m := by
  rw [first_at m0 (by omega), first_at (by omega) (by omega), lenOf_def]
  unfold leapOne cum
  obtain ⟨n, hn⟩ := Int.eq_ofNat_of_zero_le (show 0 ≤ m - 1 by omega)
  have hm : m = (n : Int) + 1 := by omega
  subst hm
  have hj : n < 11 := by omega
  rw [show ((n : Int) + 1 - 1).toNat = n by omega, show ((n : Int) + 1 + 1 - 1).toNat = n + 1 by omega]
  clear hn m0 m1
  match n, hj with
  | 0, _ | 1, _ | 2, _ | 3, _ | 4, _ | 5, _ | 6, _ | 7, _ | 8, _ | 9, _ | 10, _ => simp <;> (repeat' split) <;> omega
theorem first_jan (y : Int) : firstOf y 1 = 365 * (y - 1) + (y - 1) / 4 - (y - 1) / 100 + (y - 1) / 400 - 719162 := by
  rw [first_at (by decide) (by decide)]
  unfold cum
  simp
theorem first_year {y : Int} : firstOf (y + 1) 1 = firstOf y 12 + 31 := by
  rw [first_jan, first_at (by decide) (by decide)]
  unfold leapOne cum
  simp <;> (repeat' split) <;> omega
structure DayAt (y mo d c sec : Int) : Prop where
  m0 : 1 ≤ mo
  m1 : mo ≤ 12
  d0 : 1 ≤ d
  d1 : d ≤ lenOf y mo
  hc : c = firstOf y mo + d - 1
  s0 : 0 ≤ sec
  s1 : sec < 86400
  y0 : 0 ≤ y
  y1 : y ≤ 10000
  lo : y = 0 → c ≤ -719163
  hi : y = 10000 → 2932897 ≤ c
  c0 : -1000000 ≤ c
  c1 : c ≤ 3000000
theorem DayAt.inside {y mo d c sec : Int} (y0 : 1 ≤ y) (y1 : y ≤ 9999) (m0 : 1 ≤ mo) (m1 : mo ≤ 12) (d0 : 1 ≤ d) (d1 : d ≤ lenOf y mo) (hc : c = firstOf y mo + d - 1) (s0 : 0 ≤ sec) (s1 : sec < 86400) : DayAt y mo d c sec := by
  have l := first_lo m0 m1 y0
  have h := first_hi m0 m1 y1 d1
  exact ⟨m0, m1, d0, d1, hc, s0, s1, by omega, by omega, by omega, by omega, by omega, by omega⟩
theorem days_mid {y mo sec : Int} (y0 : 1 ≤ y) (y1 : y ≤ 9999) (m0 : 1 ≤ mo) (m1 : mo ≤ 12) (s0 : 0 ≤ sec) (s1 : sec < 86400) :
    DayAt y mo 1 (firstOf y mo) sec ∧ DayAt y mo (lenOf y mo - 1) (firstOf y mo + lenOf y mo - 2) sec ∧ DayAt y mo (lenOf y mo) (firstOf y mo + lenOf y mo - 1) sec := by
  have l := lenOf_ge y mo
  exact ⟨.inside y0 y1 m0 m1 (by omega) (by omega) (by omega) s0 s1, .inside y0 y1 m0 m1 (by omega) (by omega) (by omega) s0 s1, .inside y0 y1 m0 m1 (by omega) (by omega) (by omega) s0 s1⟩
theorem days_back {y mo sec : Int} (y0 : 1 ≤ y) (y1 : y ≤ 9999) (m0 : 1 < mo) (m1 : mo ≤ 12) (s0 : 0 ≤ sec) (s1 : sec < 86400) :
    DayAt y (mo - 1) (lenOf y (mo - 1)) (firstOf y mo - 1) sec := by
  have l := lenOf_ge y (mo - 1)
  have e := first_next (y := y) (m := mo - 1) (by omega) (by omega)
  rw [show mo - 1 + 1 = mo by omega] at e
  exact .inside y0 y1 (by omega) (by omega) (by omega) (by omega) (by omega) s0 s1
theorem days_back1 {y sec : Int} (y0 : 1 ≤ y) (y1 : y ≤ 9999) (s0 : 0 ≤ sec) (s1 : sec < 86400) :
    DayAt (y - 1) 12 (lenOf (y - 1) 12) (firstOf y 1 - 1) sec := by
  have l := lenOf_dec (y - 1)
  have e := first_year (y := y - 1)
  rw [show y - 1 + 1 = y by omega] at e
  have lo := first_lo (y := y) (m := 1) (by decide) (by decide) y0
  have hi := first_hi (y := y) (m := 1) (d := 1) (by decide) (by decide) y1 (by have := lenOf_ge y 1; omega)
  refine ⟨by decide, by decide, by omega, by omega, by omega, s0, s1, by omega, by omega, fun h => ?_, by omega, by omega, by omega⟩
  have j := first_jan y
  rw [show y = 1 by omega] at j ⊢
  omega
theorem days_next {y mo sec : Int} (y0 : 1 ≤ y) (y1 : y ≤ 9999) (m0 : 1 ≤ mo) (m1 : mo < 12) (s0 : 0 ≤ sec) (s1 : sec < 86400) :
    DayAt y (mo + 1) 1 (firstOf y mo + lenOf y mo) sec ∧ DayAt y (mo + 1) 2 (firstOf y mo + lenOf y mo + 1) sec := by
  have l := lenOf_ge y (mo + 1)
  have e := first_next (y := y) m0 (by omega)
  exact ⟨.inside y0 y1 (by omega) (by omega) (by omega) (by omega) (by omega) s0 s1, .inside y0 y1 (by omega) (by omega) (by omega) (by omega) (by omega) s0 s1⟩
theorem days_next12 {y sec : Int} (y0 : 1 ≤ y) (y1 : y ≤ 9999) (s0 : 0 ≤ sec) (s1 : sec < 86400) :
    DayAt (y + 1) 1 1 (firstOf y 12 + lenOf y 12) sec ∧ DayAt (y + 1) 1 2 (firstOf y 12 + lenOf y 12 + 1) sec := by
  have l := lenOf_dec y
  have l1 := lenOf_ge (y + 1) 1
  have e := first_year (y := y)
  have lo := first_lo (y := y) (m := 12) (by decide) (by decide) y0
  have hi := first_hi (y := y) (m := 12) (d := 1) (by decide) (by decide) y1 (by omega)
  have hh : y + 1 = 10000 → firstOf y 12 = 2932866 := by
    intro h
    have j := first_jan (y + 1)
    rw [h] at j e
    omega
  exact ⟨⟨by decide, by decide, by omega, by omega, by omega, s0, s1, by omega, by omega, by omega, by omega, by omega, by omega⟩,
    ⟨by decide, by decide, by omega, by omega, by omega, s0, s1, by omega, by omega, by omega, by omega, by omega, by omega⟩⟩
end Mine
end
section
open PySem PySem.W PySem.Calls PyProof.Rows
namespace Mine
set_option maxRecDepth 100000
set_option maxHeartbeats 8000000
theorem fill10 : PySem.Challenge.rw_in0096_01 = PySem.Challenge.rw_in0096_01 ∧ hd.heap_39 = hd.heap_39 := by
  k_fill
  exact ⟨rfl, rfl⟩
local macro_rules | `(tactic| walk_at "execs cons") => `(tactic| (k_here; dsimp only; refine wpAny_execs_cons ?_))
local macro_rules | `(tactic| walk_at "execs nil") => `(tactic| (k_here; dsimp only; refine wpAny_execs_nil ?_))
local macro_rules | `(tactic| walk_at "storeName") => `(tactic| (k_here; dsimp only))
local macro_rules | `(tactic| k_steps) => `(tactic| repeat' (first | (k_unfold; (try dsimp only)) | walk1 | (dsimp only; walk1) | (leave1; try dsimp only) | fail "no step"))
local macro_rules | `(tactic| kts_go) => `(tactic| (refine' code_defS ?k1 ?k2 ?k3 ?k4 ?k5 ?XB ?TB ?D ?T0 ?kA ?k6 ?k7 ?k8 ?k9 ?kB ?_ ?cK ?c2 ?c3 ?c4 ?c5; (case kA => exact rfl); (case k2 => k_asm); (case k1 => k_asm); (case XB => assumption); (case TB => assumption); (case D => assumption); (case T0 => exact KtsTurn.refl); (case k3 => k_asm); (case k4 => k_asm); (case k5 => k_asm); (case k6 => k_is); (case k7 => k_is); (case k8 => ktr_room); (case k9 => first | exact binds_K (by k_in) rfl (by k_is) rfl rfl rfl | exact BindsTo.of_eq rfl); (case kB => exact locs rfl); (case cK => assumption); (case c2 => exact rfl); (case c3 => exact rfl); (case c4 => exact rfl); (case c5 => decide); k_whole; intro g' L' h' FG' F' N' B' X' T' D'; (try dsimp only); (try k_lift B'); (try k_fold)))
local macro_rules | `(tactic| walk_at "SeqPost") => `(tactic| (dsimp only [SeqPost]))
local macro_rules | `(tactic| walk_at "SeqEnd") => `(tactic| (refine SeqEnd.intro (by assumption) (by assumption) (by (intro p hp; repeat (first | exact hp | apply List.mem_cons_of_mem))) ?_))
abbrev txtI (y mo d x : Int) : Str := if 1 ≤ y ∧ y ≤ 9999 then isoText y mo d (hourOf x) (minOf x) (secOf x) else Str.ofString "refused"
abbrev txtN (y mo d x : Int) : Str := if 1 ≤ y ∧ y ≤ 9999 then netText (dayName (wdOf x)) (monName (mo - 1)) y d (hourOf x) (minOf x) (secOf x) else Str.ofString "refused"
@[irreducible] def rI (y mo d x : Int) : Str := txtI y mo d x
@[irreducible] def rN (y mo d x : Int) : Str := txtN y mo d x
theorem rI_in {y mo d x : Int} (h : 1 ≤ y ∧ y ≤ 9999) : rI y mo d x = isoText y mo d (hourOf x) (minOf x) (secOf x) := by unfold rI; exact if_pos h
theorem rI_out {y mo d x : Int} (h : ¬ (1 ≤ y ∧ y ≤ 9999)) : rI y mo d x = Str.ofString "refused" := by unfold rI; exact if_neg h
theorem rN_in {y mo d x : Int} (h : 1 ≤ y ∧ y ≤ 9999) : rN y mo d x = netText (dayName (wdOf x)) (monName (mo - 1)) y d (hourOf x) (minOf x) (secOf x) := by unfold rN; exact if_pos h
theorem rN_out {y mo d x : Int} (h : ¬ (1 ≤ y ∧ y ≤ 9999)) : rN y mo d x = Str.ofString "refused" := by unfold rN; exact if_neg h
theorem ok_rI {y mo d c sec x : Int} (D : DayAt y mo d c sec) : PyData.strOk (rI y mo d x) = true := by
  by_cases h : 1 ≤ y ∧ y ≤ 9999
  · rw [rI_in h]; exact ok_iso' h.1 D.m0 D.d0
  · rw [rI_out h]; exact ok_lit _
theorem ok_rN {y mo d c sec x : Int} (D : DayAt y mo d c sec) : PyData.strOk (rN y mo d x) = true := by
  by_cases h : 1 ≤ y ∧ y ≤ 9999
  · rw [rN_in h]; exact ok_net' h.1 D.d0
  · rw [rN_out h]; exact ok_lit _
abbrev RDay (y mo d c sec : Int) (v : Value) (new : List (Addr × Obj)) : Prop := RTwo (rI y mo d (86400 * c + sec)) (rN y mo d (86400 * c + sec)) v new
theorem dueA {prog : Program} {w : World} {mean : ExcName → Option Value} {mg mb : Str → Option Value} {y mo d c sec : Int} {t1 t2 t3 t4 t5 : Tok} (D : DayAt y mo d c sec) :
    Claim prog w mean mg mb 90 2 [.int y t1, .int mo t2, .int d t3, .int c t4, .int sec t5] (RDay y mo d c sec) := by
  unfold RDay
  by_cases h : 1 ≤ y ∧ y ≤ 9999
  · rw [rI_in h, rN_in h]
    have l := lenOf_le y mo
    have := D.d1
    exact due h.1 h.2 D.m0 D.m1 D.d0 (by omega) D.s0 D.s1 D.c0 (by have := D.c1; omega)
  · rw [rI_out h, rN_out h]
    exact due_off (by omega)
theorem toldA {prog : Program} {w : World} {mean : ExcName → Option Value} {mg mb : Str → Option Value} {y mo d c sec : Int} {t : Tok} (D : DayAt y mo d c sec) :
    ClaimK prog w mean mg mb 97 2 [.int (86400 * c + sec) t] (RDay y mo d c sec) := by
  unfold RDay
  have hs0 := D.s0
  have hs1 := D.s1
  by_cases h : 1 ≤ y ∧ y ≤ 9999
  · rw [rI_in h, rN_in h]
    have lo := first_lo D.m0 D.m1 h.1
    have hi := first_hi D.m0 D.m1 h.2 D.d1
    have hc := D.hc
    have hd0 := D.d0
    intro dp un gd cn cs a ccd outer A₀ base h₀ L m news s Q E B F XB ZB TB DB N hk hd hu hret
    exact told (day_at h.1 h.2 D.m0 D.m1 D.d0 D.d1 hc hs0 hs1) (by omega) (by omega) dp un gd cn cs a ccd [] outer A₀ base h₀ L m news s Q E B F (XB.keeps B.stays) (ZB.keeps B.stays) N (TB.keeps B.stays) hk hd hu
      fun v new h' tk' r F' N' => hret v new h₀ h' tk' r KtsTurn.refl F' N' B DB
  · rw [rI_out h, rN_out h]
    have y0 := D.y0
    have y1 := D.y1
    have lo := D.lo
    have hi := D.hi
    have c0 := D.c0
    have c1 := D.c1
    refine told_bad ?_
    by_cases hy : y = 0
    · have := lo hy
      exact .inl ⟨by omega, by omega⟩
    · have := hi (by omega)
      exact .inr ⟨by omega, by omega⟩
local macro_rules | `(tactic| walk_at "call ref") => `(tactic| (k_here; k_dflt (first
  | refine' length _ _ _ _ _ _ _ [] _ _ _ _ _ _ _ _ _ _ ?k1 ?k2 ?k3 ?k4 ?k5 ?k6 ?k7 ?k8 ?k9 ?_
  | refine' first ?q0 ?q1 ?q2 ?q3 _ _ _ _ _ _ _ [] _ _ _ _ _ _ _ _ _ _ ?k1 ?k2 ?k3 ?k4 ?k5 ?k6 ?k7 ?k8 ?k9 ?_); k_dflt (try ((case q0 => omega); (case q1 => omega); (case q2 => omega); (case q3 => omega))); k_dflt ((case k1 => k_asm); (case k2 => k_asm); (case k3 => k_asm); (case k4 => first | assumption | exact ZIn.keeps (by assumption) (Below.stays (by assumption))); (case k5 => k_asm); (case k6 => k_asm); (case k7 => first | exact rfl | assumption); (case k8 => ktr_room); (case k9 => ktr_units)); intro v' new' h' tk' R' F' N'; obtain ⟨e1, t', e2⟩ := R'; subst e1; subst e2; (try dsimp only [List.nil_append] at N'); (try dsimp only); (try k_fold); (try k_sweep)))
local macro_rules | `(tactic| walk_at "call ref") => `(tactic| (k_here; k_dflt (refine' dueA ?q0 _ _ _ _ _ _ _ [] _ _ _ _ _ _ _ _ _ _ ?k1 ?k2 ?k3 ?k4 ?k5 ?k6 ?k7 ?k8 ?k9 ?_; (case q0 => assumption); (case k1 => k_asm); (case k2 => k_asm); (case k3 => k_asm); (case k4 => first | assumption | exact ZIn.keeps (by assumption) (Below.stays (by assumption))); (case k5 => k_asm); (case k6 => k_asm); (case k7 => first | exact rfl | assumption); (case k8 => ktr_room); (case k9 => ktr_units)); intro v' new' h' tk' R' F' N'; obtain ⟨a', t', u', n', e1, e2⟩ := R'; subst e1; subst e2; (try dsimp only [List.cons_append, List.nil_append] at N'); (try dsimp only); (try k_fold); (try k_sweep)))
local macro_rules | `(tactic| walk_at "call ref") => `(tactic| (k_here; k_dflt (refine' toldA ?q0 _ _ _ _ _ _ _ _ _ _ _ _ _ _ _ _ _ ?k1 ?k2 ?k3 ?k4 ?k5 ?k6 ?k7 ?k8 ?k9 ?k10 ?_; (case q0 => assumption); (case k1 => k_asm); (case k2 => k_asm); (case k3 => assumption); (case k4 => assumption); (case k5 => assumption); (case k6 => assumption); (case k7 => k_asm); (case k8 => first | exact rfl | assumption); (case k9 => ktr_room); (case k10 => ktr_units)); intro v' new' g' h' tk' R' T' F' N' B' D'; obtain ⟨a', t', u', n', e1, e2⟩ := R'; subst e1; subst e2; k_dflt ((try replace T' := KtsTurn.trans (by assumption) T'); (have X' := Frag.In.keeps (by assumption) (Below.stays B')); (have TT' := Top.keeps (by assumption) (Below.stays B'))); (try dsimp only [List.cons_append, List.nil_append] at N'); (try dsimp only); (try k_fold)))
local macro_rules | `(tactic| walk_at "exec For Tuple Name cons nil") => `(tactic| (k_here; (with_unfolding_all refine' For_seq ?_); k_whole))
local macro_rules | `(tactic| walk_at "pyIter ref") => `(tactic| (k_here; (with_reducible show wpAny _ _ (pyIter (Value.ref _)) (fun it s₂ => SeqAt _ _ _ _ _ _ _ _ it s₂) _ _); (with_unfolding_all refine' iter_listSeq ?h ?F ?N ?m ?c ?d ?_; (case h => with_unfolding_all rfl); (case F => k_asm); (case N => k_asm); (case m => k_mem); (case c => exact rfl); (case d => exact rfl); k_whole); intro i' h' l1; (try dsimp only); (try k_lt l1)))
local macro_rules | `(tactic| walk_at "compareOp NotEq ref ref") => `(tactic| (k_here; k_dflt (refine' ne_two ?N ?m1 ?m2 ?q1 ?q2 ?e1 ?e2 ?o1 ?o2 ?u ?_; (case N => assumption); (case m1 => k_mem); (case m2 => k_mem); (case q1 => exact rfl); (case q2 => exact rfl); (case e1 => rfl); (case e2 => rfl); (case o1 => exact ok_rI (by assumption)); (case o2 => exact ok_rN (by assumption)); (case u => first | ktr_units | units_room)); (try dsimp only)))
theorem News.cons_of {h₀ h : Heap} {L : Addr} {p q : Addr × Obj} {news : List (Addr × Obj)} (N : News h₀ L h (q :: news)) (hm : p ∈ news) : News h₀ L h (p :: q :: news) := fun x hx => by
  rcases List.mem_cons.mp hx with rfl | hx
  · exact N _ (List.mem_cons_of_mem _ hm)
  · exact N _ hx
section
variable {prog : Program} {w : World} {A : Around} {env : Env} {l : List Stmt} {Q : Flow → Shared → Prop} {E : Value → Shared → Prop} {s : Shared}
theorem execs_cut (n : Nat) (S : Shared → Prop) (tail : ∀ s', S s' → wpAny (model prog w) A (execs (l.drop n) env) Q E s')
    (h : ∀ R, (∀ s', S s' → wpAny (model prog w) A (execs R env) Q E s') → wpAny (model prog w) A (execs (l.take n ++ R) env) Q E s) : wpAny (model prog w) A (execs l env) Q E s := by
  have x := h (l.drop n) tail
  rwa [List.take_append_drop] at x
end
theorem Fr.cast {g h : Heap} {L : Addr} {m m' : Str → Option Value} (F : Fr g L h m) (e : m = m') : Fr g L h m' := e ▸ F
/-- what the months' names hold behind the two branches -/
def MonthMid (env : Env) (g : Heap) (m0 : Str → Option Value) (news : List (Addr × Obj)) (s : Shared) (y mo sec : Int) (s' : Shared) : Prop :=
  ∃ (py pm ny nm : Int) (t1 t2 t3 t4 t5 t6 : Tok) (h : Heap) (tk : Nat), s' = { s with heap := h, toks := tk } ∧
    Fr g env.locals h (fun v => if v = Str.ofString "next_year" then some (.int ny t5) else if v = Str.ofString "next_month" then some (.int nm t6) else if v = Str.ofString "back_year" then some (.int py t3) else if v = Str.ofString "back_month" then some (.int pm t4) else if v = Str.ofString "first" then some (.int (firstOf y mo) t2) else if v = Str.ofString "size" then some (.int (lenOf y mo) t1) else m0 v) ∧
    News g env.locals h news ∧ DayAt py pm (lenOf py pm) (firstOf y mo - 1) sec ∧ DayAt ny nm 1 (firstOf y mo + lenOf y mo) sec ∧ DayAt ny nm 2 (firstOf y mo + lenOf y mo + 1) sec
theorem month_cut {prog : Program} {w : World} {A : Around} {env : Env} {l : List Stmt} {Q : Flow → Shared → Prop} {E : Value → Shared → Prop} {s : Shared} {g : Heap} {m0 : Str → Option Value} {news : List (Addr × Obj)} {y mo sec : Int} (_F : Fr g env.locals s.heap m0) (_N : News g env.locals s.heap news)
    (tail : ∀ s', MonthMid env g m0 news s y mo sec s' → wpAny (model prog w) A (execs (l.drop 6) env) Q E s')
    (head : ∀ R, (∀ s', MonthMid env g m0 news s y mo sec s' → wpAny (model prog w) A (execs R env) Q E s') → wpAny (model prog w) A (execs (l.take 6 ++ R) env) Q E s) : wpAny (model prog w) A (execs l env) Q E s :=
  execs_cut 6 (MonthMid env g m0 news s y mo sec) tail head
theorem News.sub' {g h : Heap} {L : Addr} {news big : List (Addr × Obj)} (N : News g L h big) (sub : ∀ p ∈ news, p ∈ big) : News g L h news := fun p hp => N p (sub p hp)
theorem mid_b {n1 n2 n3 n4 : Str} {a b c d c' d' : Option Value} {m : Str → Option Value} :
    (fun v => if v = n1 then a else if v = n2 then b else if v = n3 then c else if v = n4 then d else if v = n3 then c' else if v = n4 then d' else m v) = (fun v => if v = n1 then a else if v = n2 then b else if v = n3 then c else if v = n4 then d else m v) :=
  funext fun v => by (repeat' split) <;> simp_all
theorem mid_c {n1 n2 : Str} {a b a' b' : Option Value} {m : Str → Option Value} :
    (fun v => if v = n1 then a else if v = n2 then b else if v = n1 then a' else if v = n2 then b' else m v) = (fun v => if v = n1 then a else if v = n2 then b else m v) :=
  funext fun v => by (repeat' split) <;> simp_all
theorem mids {y mo sec : Int} (y0 : 1 ≤ y) (y1 : y ≤ 9999) (s0 : 0 ≤ sec) (s1 : sec < 86400) (h : mo = 1) :
    DayAt (y - 1) 12 (lenOf (y - 1) 12) (firstOf y mo - 1) sec := by
  subst h
  exact days_back1 y0 y1 s0 s1
theorem mide {y mo sec : Int} (y0 : 1 ≤ y) (y1 : y ≤ 9999) (s0 : 0 ≤ sec) (s1 : sec < 86400) (h : mo = 12) :
    DayAt (y + 1) 1 1 (firstOf y mo + lenOf y mo) sec ∧ DayAt (y + 1) 1 2 (firstOf y mo + lenOf y mo + 1) sec := by
  subst h
  exact days_next12 y0 y1 s0 s1
theorem month {prog : Program} {w : World} {mean : ExcName → Option Value} {mg mb : Str → Option Value} {y mo sec : Int} {t1 t2 t3 : Tok} (y0 : 1 ≤ y) (y1 : y ≤ 9999) (m0 : 1 ≤ mo) (m1 : mo ≤ 12) (s0 : 0 ≤ sec) (s1 : sec < 86400) :
    ClaimK prog w mean mg mb 104 10 [.int y t1, .int mo t2, .int sec t3] (RBool true) := by
  intro dp un gd cn cs a ccd outer A₀ base h₀ L m news s Q E B F XB ZB TB DB N hk hd hu hret
  have X := XB.keeps B.stays
  have T := TB.keeps B.stays
  obtain ⟨d1, d2, d3⟩ := days_mid (mo := mo) y0 y1 m0 m1 s0 s1
  have l0 := lenOf_ge y mo
  have l1 := lenOf_le y mo
  have f0 := first_lo (m := mo) m0 m1 y0
  have f1 := first_hi (m := mo) (d := 1) m0 m1 y1 (by omega)
  refine wpAny_call ?_
  k_dflt kts_go
  refine month_cut (y := y) (mo := mo) (sec := sec) (by assumption) (by assumption) ?tail ?head
  case head =>
    intro R tail
    dsimp only [List.take, List.cons_append, List.nil_append]
    k_steps
    all_goals dsimp only
    all_goals first
      | (exfalso; omega)
      | (have h1 : mo = 1 := by assumption
         refine tail _ ⟨_, _, _, _, _, _, _, _, _, _, _, _, rfl, Fr.cast (by assumption) mid_b, News.sub' (by assumption) (by (intro p hp; repeat (first | exact hp | apply List.mem_cons_of_mem))), mids y0 y1 s0 s1 h1, (days_next y0 y1 m0 (by omega) s0 s1).1, (days_next y0 y1 m0 (by omega) s0 s1).2⟩)
      | (have h1 : mo = 12 := by assumption
         refine tail _ ⟨_, _, _, _, _, _, _, _, _, _, _, _, rfl, Fr.cast (by assumption) mid_c, News.sub' (by assumption) (by (intro p hp; repeat (first | exact hp | apply List.mem_cons_of_mem))), days_back y0 y1 (by omega) m1 s0 s1, (mide y0 y1 s0 s1 h1).1, (mide y0 y1 s0 s1 h1).2⟩)
      | (refine tail _ ⟨_, _, _, _, _, _, _, _, _, _, _, _, rfl, by assumption, News.sub' (by assumption) (by (intro p hp; repeat (first | exact hp | apply List.mem_cons_of_mem))), days_back y0 y1 (by omega) m1 s0 s1, (days_next y0 y1 m0 (by omega) s0 s1).1, (days_next y0 y1 m0 (by omega) s0 s1).2⟩)
  case tail =>
    rintro s' ⟨py, pm, ny, nm, t4, t5, t6, t7, t8, t9, h, tk, rfl, F', N', b, n1, n2⟩
    dsimp only [List.drop]
    k_steps
    refine seq_day (Str.ofString "due") (Str.ofString "count") (Str.ofString "day") (Str.ofString "one_month") (Str.ofString "one_year") (fun y mo d c => DayAt y mo d c sec) ?hv (by assumption) (by assumption) ?turn ?done
    case hv =>
      intro v hv
      simp only [List.mem_cons, List.not_mem_nil, or_false] at hv
      rcases hv with rfl | rfl | rfl | rfl | rfl | rfl <;> exact ⟨_, _, _, _, _, _, _, _, _, _, rfl, by k_mem, rfl, by assumption⟩
    case turn =>
      intro v g o1 o2 o3 o4 o5 io h₁ tk₁ hV T' B' D' F' N'
      obtain ⟨a', y', mo', d', c', t1', t2', t3', t4', o', rfl, hm, rfl, hx⟩ := hV
      have X' := XB.keeps B'.stays
      have TT' := TB.keeps B'.stays
      have N2 := News.cons_of N' hm
      clear N'
      (try dsimp only)
      k_steps
      exact ⟨by assumption, by assumption, by assumption, ch5_over⟩
    case done =>
      intro g m h' tk T' B' D' F' N'
      (try dsimp only)
      k_steps
      (refine' end_boolK (by assumption) ?T ?F ?N ?sub ?B ?D; (case F => k_asm); (case N => assumption); (case sub => (intro p hp; repeat (first | exact hp | apply List.mem_cons_of_mem))); (case T => assumption); (case B => assumption); (case D => assumption))
end Mine
end
section
local macro_rules | `(tactic| walk_at "idle 0") => `(tactic| skip)
local macro_rules | `(tactic| walk_at "idle 1") => `(tactic| skip)
local macro_rules | `(tactic| walk_at "idle 2") => `(tactic| skip)
local macro_rules | `(tactic| walk_at "idle 3") => `(tactic| skip)
local macro_rules | `(tactic| walk_at "idle 4") => `(tactic| skip)
local macro_rules | `(tactic| walk_at "idle 5") => `(tactic| skip)
local macro_rules | `(tactic| walk_at "idle 6") => `(tactic| skip)
local macro_rules | `(tactic| walk_at "idle 7") => `(tactic| skip)
local macro_rules | `(tactic| walk_at "idle 8") => `(tactic| skip)
local macro_rules | `(tactic| walk_at "idle 9") => `(tactic| skip)
local macro_rules | `(tactic| walk_at "idle 10") => `(tactic| skip)
local macro_rules | `(tactic| walk_at "idle 11") => `(tactic| skip)
local macro_rules | `(tactic| walk_at "idle 12") => `(tactic| skip)
local macro_rules | `(tactic| walk_at "idle 13") => `(tactic| skip)
local macro_rules | `(tactic| walk_at "idle 14") => `(tactic| skip)
local macro_rules | `(tactic| walk_at "idle 15") => `(tactic| skip)
local macro_rules | `(tactic| walk_at "idle 16") => `(tactic| skip)
local macro_rules | `(tactic| walk_at "idle 17") => `(tactic| skip)
local macro_rules | `(tactic| walk_at "idle 18") => `(tactic| skip)
local macro_rules | `(tactic| walk_at "idle 19") => `(tactic| skip)
local macro_rules | `(tactic| walk_at "idle 20") => `(tactic| skip)
local macro_rules | `(tactic| walk_at "idle 21") => `(tactic| skip)
local macro_rules | `(tactic| walk_at "idle 22") => `(tactic| skip)
local macro_rules | `(tactic| walk_at "idle 23") => `(tactic| skip)
local macro_rules | `(tactic| walk_at "idle 24") => `(tactic| skip)
open PySem PySem.W PySem.Calls PyProof.Rows
namespace Mine
set_option maxRecDepth 100000
theorem b_small {n : Nat} (h : n ≤ 9) : Builtin.Range.small 0 (if (n : Int) > 1 then (n : Int) else 1) 3 = true := by
  match n, h with
  | 0, _ | 1, _ | 2, _ | 3, _ | 4, _ | 5, _ | 6, _ | 7, _ | 8, _ | 9, _ => decide
theorem b_one {n : Nat} (h : n ≤ 3) : Builtin.Range.rangeSize 0 (if (n : Int) > 1 then (n : Int) else 1) 3 = ((1 : Nat) : Int) := by
  match n, h with
  | 0, _ | 1, _ | 2, _ | 3, _ => decide
theorem b_two {n : Nat} (h0 : 4 ≤ n) (h : n ≤ 6) : Builtin.Range.rangeSize 0 (if (n : Int) > 1 then (n : Int) else 1) 3 = ((2 : Nat) : Int) := by
  match n, h0, h with
  | 4, _, _ | 5, _, _ | 6, _, _ => decide
theorem b_three {n : Nat} (h0 : 7 ≤ n) (h : n ≤ 9) : Builtin.Range.rangeSize 0 (if (n : Int) > 1 then (n : Int) else 1) 3 = ((3 : Nat) : Int) := by
  match n, h0, h with
  | 7, _, _ | 8, _, _ | 9, _, _ => decide
theorem cut_of {n : Nat} (h : n ≤ 9) : n ≤ 3 ∨ (4 ≤ n ∧ n ≤ 6) ∨ (7 ≤ n ∧ n ≤ 9) := by omega
theorem b_size {n : Nat} (h : n ≤ 9) : ∃ k : Nat, k ≤ 3 ∧ Builtin.Range.rangeSize 0 (if (n : Int) > 1 then (n : Int) else 1) 3 = (k : Int) := by
  rcases cut_of h with a | ⟨a, b⟩ | ⟨a, b⟩
  · exact ⟨1, by decide, b_one a⟩
  · exact ⟨2, by decide, b_two a b⟩
  · exact ⟨3, by decide, b_three a b⟩
theorem three_of (l : List Int) (h : l.length = 3) : ∃ a b c, l = [a, b, c] := by
  match l, h with
  | [a, b, c], _ => exact ⟨a, b, c, rfl⟩
section
variable {prog : Program} {w : World} {mean : ExcName → Option Value} {mg mb : Str → Option Value} {f : Addr} {deep : Nat} {vs : List Value} {R : Value → List (Addr × Obj) → Prop}
theorem at_law (C : ClaimK prog w mean mg mb f deep vs R) (dp un : Nat) (gd : Option (List Code)) (cn : Str) (cs : Scope) (a : Addr) (ccd : Value) (h₀ : Heap) (L : Addr) (m : Str → Option Value) (news : List (Addr × Obj)) (s : Shared) (Q E : Value → Shared → Prop)
    (B : Below callerA h₀ [] h₀) (F : Fr h₀ L s.heap m) (X : (hd.heap_39 w.params).In h₀) (Z : ZIn h₀) (T : Top pV lV mean mg mb h₀) (N : News h₀ L s.heap news) (hk : cs.kind = .function) (h1 : dp + deep < recursionLimit) (h2 : un + 10 * deep < cLine)
    (hret : ∀ (v : Value) (new : List (Addr × Obj)) (h' : Heap) (tk' : Nat), R v new → Fr h₀ L h' m → News h₀ L h' (new ++ news) → Q v { s with heap := h', toks := tk' }) :
    wpAny (model prog w) (ktrTop dp un gd cn cs L a ccd [] []) (call (.ref f) vs) Q E s :=
  C dp un gd cn cs a ccd [] callerA h₀ h₀ L m news s Q E B F X Z T ktsDicts_nil N hk h1 h2 fun v new g h' tk' r T' F' N' _ _ =>
    have k : ∀ b o, h₀.get? b = some o → g.get? b = some o := fun b o e => T'.other b o e (by simp)
    hret v new h' tk' r ⟨F'.ns, fun b o e => F'.keep b o (k b o e), F.above⟩ fun p hp => ⟨(N' p hp).1, (N' p hp).2.1, by
      cases e : h₀.get? p.1 with
      | none => rfl
      | some o => exact absurd ((k _ _ e).symm.trans (N' p hp).2.2) (by simp)⟩
end
end Mine
end
section
open PySem PySem.W PySem.Calls PyProof.Rows
namespace Mine
set_option maxRecDepth 100000
set_option maxHeartbeats 8000000
theorem fm9999 (a : Int) : a.fmod 9999 = a % 9999 := Int.fmod_eq_emod_of_nonneg a (by decide)
theorem fm12 (a : Int) : a.fmod 12 = a % 12 := Int.fmod_eq_emod_of_nonneg a (by decide)
theorem fmD (a : Int) : a.fmod 86400 = a % 86400 := Int.fmod_eq_emod_of_nonneg a (by decide)
theorem fmG (a : Int) : a.fmod 315537897600 = a % 315537897600 := Int.fmod_eq_emod_of_nonneg a (by decide)
local macro_rules | `(tactic| walk_at "execs cons") => `(tactic| (k_here; dsimp only; refine wpAny_execs_cons ?_))
local macro_rules | `(tactic| walk_at "execs nil") => `(tactic| (k_here; dsimp only; refine wpAny_execs_nil ?_))
local macro_rules | `(tactic| walk_at "storeName") => `(tactic| (k_here; dsimp only))
local macro_rules | `(tactic| k_steps) => `(tactic| repeat' (first | (k_unfold; (try dsimp only)) | walk1 | (dsimp only; walk1) | (leave1; try dsimp only) | fail "no step"))
local macro_rules | `(tactic| walk_at "call ref") => `(tactic| (k_here; k_dflt (refine' at_law (month ?q0 ?q1 ?q2 ?q3 ?q4 ?q5) _ _ _ _ _ _ _ _ _ _ _ _ _ _ ?k1 ?k2 ?k3 ?k4 ?k5 ?k6 ?k7 ?k8 ?k9 ?_; (case q0 => (first | omega | (simp only [fm9999, fm12, fmD, fmG]; omega))); (case q1 => (first | omega | (simp only [fm9999, fm12, fmD, fmG]; omega))); (case q2 => (first | omega | (simp only [fm9999, fm12, fmD, fmG]; omega))); (case q3 => (first | omega | (simp only [fm9999, fm12, fmD, fmG]; omega))); (case q4 => (first | omega | (simp only [fm9999, fm12, fmD, fmG]; omega))); (case q5 => (first | omega | (simp only [fm9999, fm12, fmD, fmG]; omega))); (case k1 => k_asm); (case k2 => k_asm); (case k3 => assumption); (case k4 => assumption); (case k5 => k_asm); (case k6 => k_asm); (case k7 => first | exact rfl | assumption); (case k8 => ktr_room); (case k9 => ktr_units)); intro v' new' h' tk' R' F' N'; obtain ⟨e1, e2⟩ := R'; subst e1; subst e2; (try dsimp only [List.cons_append, List.nil_append] at N'); (try dsimp only); (try k_fold)))
local macro_rules | `(tactic| walk_at "call ref") => `(tactic| (k_here; k_dflt (refine' at_law (refused ?q0 ?q1) _ _ _ _ _ _ _ _ _ _ _ _ _ _ ?k1 ?k2 ?k3 ?k4 ?k5 ?k6 ?k7 ?k8 ?k9 ?_; (case q0 => (first | omega | (simp only [fm9999, fm12, fmD, fmG]; omega))); (case q1 => (first | omega | (simp only [fm9999, fm12, fmD, fmG]; omega))); (case k1 => k_asm); (case k2 => k_asm); (case k3 => assumption); (case k4 => assumption); (case k5 => k_asm); (case k6 => k_asm); (case k7 => first | exact rfl | assumption); (case k8 => ktr_room); (case k9 => ktr_units)); intro v' new' h' tk' R' F' N'; obtain ⟨e1, e2⟩ := R'; subst e1; subst e2; (try dsimp only [List.cons_append, List.nil_append] at N'); (try dsimp only); (try k_fold)))
local macro_rules | `(tactic| walk_at "exec For Name Call cons nil") => `(tactic| (k_here; (with_unfolding_all refine' For_seq ?_); k_whole))
local macro_rules | `(tactic| walk_at "SeqPost") => `(tactic| (dsimp only [SeqPost]))
local macro_rules | `(tactic| walk_at "SeqEnd") => `(tactic| (refine SeqEnd.intro (by assumption) (by assumption) (by (intro p hp; repeat (first | exact hp | apply List.mem_cons_of_mem))) ?_))
theorem law : PySem.Challenge.rw_in0096_01.Holds := hd (by
  k_fill
  intro w s₀ s₁ mg mb G Y fa o pm cd doc dV kV ho hd' hcd hD hmg hg args vals as hpre hlay hrd hwl hlo
  have KX := kIn_of Y.1
  have KZ : ZIn s₁.heap := Y.2
  k_behind G ho hd' hcd hD hmg hpre hlay hrd hwl hlo cd
  all_goals try k_fold
  k_steps
  rename IntsAre _ (List.take 9 _) => hC
  rename (List.take 9 _).length = _ => hlen
  have hn : (List.take 9 _).length ≤ 9 := Nat.le_trans (Nat.le_of_eq hlen) (Nat.min_le_left _ _)
  obtain ⟨n, n3, en⟩ := b_size hn
  (with_unfolding_all refine' iter_rangeSeq (n := n) ?hh ?hr ?hs ?hz ?hF ?hN ?_; (case hh => with_unfolding_all rfl); (case hr => assumption); (case hs => exact b_small hn); (case hz => exact en); (case hF => assumption); (case hN => assumption))
  intro i' h'
  refine seq_law (Str.ofString "second") (Str.ofString "month") (Str.ofString "year") (Str.ofString "group") (Str.ofString "start") n3 ?turn ?done
  case turn =>
    intro k t o1 o2 o3 o4 o5 io h₁ tk₁ k0 k1 F' N'
    (try dsimp only)
    k_steps
    exact ch5_over
  case done =>
    intro m h' tk F' N'
    (try dsimp only)
    k_steps
    all_goals (dsimp only; wrow_close))
end Mine
end
theorem PySem.Challenge.cw_in0096_01_holds : PySem.Challenge.rw_in0096_01.Holds := by
  exact Mine.law

