import PyProof.Rows.All
import Wide.All
import OpenK.AllK
import Wide.FinOn
import PySem.Challenge.RW_pe0297_01
open PySem PySem.W PyProof.Rows
set_option Elab.async false
set_option maxRecDepth 100000
set_option rowWalk.seconds 0
set_option linter.all false

namespace Mine

/- part Hd -/
section
open PySem PySem.W PyProof.Rows
set_option maxRecDepth 100000 in
set_option maxHeartbeats 8000000 in
open_top hd for PySem.Challenge.rw_pe0297_01
end

/- part Base -/
section
open PySem PySem.W PySem.Calls PyProof.Rows

abbrev At (dp un : Nat) (gd : Option (List Code)) (fs : List Env) : Around := { handled := none, depth := dp, frames := some fs, guards := gd, units := un }

/-- what a call of the text's own needs of the heap and the frames around -/
structure Here (w : World) (dp un : Nat) (gd : Option (List Code)) (fs : List Env) (base : Heap) (mean : ExcName → Option Value) (mg mb : Str → Option Value) (h : Heap) : Prop where
  top : Top hd.view_39 (looseW hd.view_39 [Str.ofString "EXACT_TOKEN_TYPES"]) mean mg mb h
  kx : (hd.heap_39 w.params).In h
  bl : Below (At dp un gd fs) base fs h

/-- a call's contract: it ends, keeps all that stood, and gives back what Post says -/
def Does (w : World) (dp un : Nat) (gd : Option (List Code)) (fs : List Env) (s : Shared) (f : Addr) (args : List Value) (Post : Value → Heap → Prop) : Prop :=
  ∀ (Q E : Value → Shared → Prop), (∀ r h' tk', s.heap.StaysIn h' → Post r h' → Q r { s with heap := h', toks := tk' }) →
    wpAny (model PySem.Challenge.rw_pe0297_01.row.prog w) (At dp un gd fs) (call (.ref f) args) Q E s

section
variable {w : World} {dp un : Nat} {gd : Option (List Code)} {fs : List Env} {base : Heap} {mean : ExcName → Option Value} {mg mb : Str → Option Value} {s : Shared}

theorem Here.next {h₀ h : Heap} {L : Addr} {m : Str → Option Value} {env : Env} {A₀ : Around} {outer : List Env} (B : Below A₀ base outer h₀) (F : Fr h₀ L h m) (T : Top hd.view_39 (looseW hd.view_39 [Str.ofString "EXACT_TOKEN_TYPES"]) mean mg mb h₀) (X : (hd.heap_39 w.params).In h₀)
    (hf : env.frame = some L) (hk : env.scope.kind = .function) : Here w dp un gd (env :: outer) base mean mg mb h :=
  ⟨T.keeps F.keep, X.keeps F.keep, let b := pushX B F hf hk; ⟨rfl, b.stays, b.frames⟩⟩

theorem enter {R : Result → Shared → Prop} {name qual : Str} {params : Arguments} {body : List Stmt} {scope : Scope} {dV kV doc pm cdv ct oc : Value} {an od : Option Addr} {osl : Array (Option Value)} {f : Addr} {args : Args} {binds : List (Str × Value)}
    (H : Here w dp un gd fs base mean mg mb s.heap)
    (ho : (hd.heap_39 w.params).lookup f = some ⟨oc, od, .func (fnOf name qual params body scope dV kV doc pm an cdv ct), osl⟩) (hcd : codeIn (hd.heap_39 w.params) cdv qual = true) (hroom : dp < recursionLimit)
    (hbind : BindsTo s (fnOf name qual params body scope dV kV doc pm an cdv ct) args binds) (hloc : ∀ y ∈ binds, scope.names.lookup y.1 = some .local)
    (h : ∀ g L' h₁, g = s.heap → Fr g L' h₁ (fun y => binds.reverse.lookup y) → News g L' h₁ [] → Below (At dp un gd fs) base fs g → (hd.heap_39 w.params).In g → Top hd.view_39 (looseW hd.view_39 [Str.ofString "EXACT_TOKEN_TYPES"]) mean mg mb g →
      wpAny (model PySem.Challenge.rw_pe0297_01.row.prog w) (At (dp + 1) (un + 3) gd (envOf qual scope L' f cdv :: fs)) (execs body (envOf qual scope L' f cdv))
        (fun fl s' => R (.ok (.ret (match fl with | .ret v => v | _ => .none))) s')
        (fun e s' => wpAny (model PySem.Challenge.rw_pe0297_01.row.prog w) (At (dp + 1) (un + 3) gd (envOf qual scope L' f cdv :: fs)) (leaving (envOf qual scope L' f cdv) e) (fun _ s'' => R (.error e) s'') (fun e' s'' => R (.error e') s'') s')
        { s with heap := h₁, toks := s.toks + binds.length })
    (hco : scope.isCoroutine = false) (hgen : scope.isGenerator = false) (hk : scope.kind = .function)
    (hcell : ∀ x ∈ scope.names, x.2 ≠ .cell) : codeAny (model PySem.Challenge.rw_pe0297_01.row.prog w) (At dp un gd fs) (.call (.ref f) args) R s :=
  codeAny_call_def (fd := fnOf name qual params body scope dV kV doc pm an cdv ct) (body := body) (binds := binds) hroom (H.kx _ _ ho) rfl H.top.nolimit (codeRec_of H.kx hcd) rfl hbind hcell hloc
    (fun h₁ hns hk₁ => h s.heap s.heap.objs.size h₁ rfl ⟨hns, hk₁, Nat.le_refl _⟩ News.nil H.bl H.kx H.top) hco hgen hk

theorem news_keep {h₀ h h' : Heap} {L : Addr} {news : List (Addr × Obj)} (N : News h₀ L h news) (k : h.StaysIn h') : News h₀ L h' news := fun p hp => ⟨k _ _ (N p hp).1, (N p hp).2⟩

theorem use {f : Addr} {args : List Value} {Post : Value → Heap → Prop} {h₀ : Heap} {L : Addr} {m : Str → Option Value} {news : List (Addr × Obj)} {Q E : Value → Shared → Prop}
    (F : Fr h₀ L s.heap m) (N : News h₀ L s.heap news) (C : Does w dp un gd fs s f args Post)
    (ret : ∀ r h' tk', Fr h₀ L h' m → News h₀ L h' news → s.heap.StaysIn h' → Post r h' → Q r { s with heap := h', toks := tk' }) :
    wpAny (model PySem.Challenge.rw_pe0297_01.row.prog w) (At dp un gd fs) (call (.ref f) args) Q E s :=
  C Q E fun r h' tk' k p => ret r h' tk' (F.after k) (news_keep N k) k p

end
end

/- part CA -/
section
open PySem PySem.W PySem.Calls PyProof.Rows
theorem fresh_CA : True := by
  w_top off
  trivial


def rankN (i : Nat) : Int := [0, 0, 1, 2, 3, 4].getD i 0
def codeN (i : Nat) : Int := [20, 29, 32, 34, 14, 16].getD i 0
def signN (i : Nat) : Str := [Str.ofString "<", Str.ofString "<=", Str.ofString "^", Str.ofString ">>", Str.ofString "+", Str.ofString "*"].getD i Str.empty
def digN (i : Nat) : Str := [Str.ofString "0", Str.ofString "1", Str.ofString "2", Str.ofString "3", Str.ofString "4", Str.ofString "5", Str.ofString "6", Str.ofString "7", Str.ofString "8", Str.ofString "9"].getD i Str.empty
def signsL : List Str := [Str.ofString "<", Str.ofString "<=", Str.ofString "^", Str.ofString ">>", Str.ofString "+", Str.ofString "*"]

def madeI (p : Nat) (a b : Int) : Int :=
  if p = 0 then (if a < b then 1 else 0)
  else if p = 1 then (if a ≤ b then 1 else 0)
  else if p = 2 then Builtin.bitXor a b
  else if p = 3 then a.fdiv (b + 1)
  else if p = 4 then a + b
  else a * b

/-- a call gives back a list of its own making -/
def NewList (h₀ : Heap) (P : List Value → Prop) (r : Value) (h' : Heap) : Prop := ∃ a vs n, r = .ref a ∧ h'.get? a = some (W.listOf (List.toArray vs) n) ∧ h₀.get? a = none ∧ P vs

def AllNe (d : Nat) : List (Addr × Obj) → Prop
  | [] => True
  | p :: r => @Ne Nat p.1 d ∧ AllNe d r
theorem allNe_of {d : Addr} : ∀ {l : List (Addr × Obj)}, (∀ p ∈ l, p.1 ≠ d) → AllNe d l
  | [], _ => trivial
  | p :: _, h => ⟨h p (.head _), allNe_of fun q hq => h q (.tail _ hq)⟩

section
variable {w : World} {dp un : Nat} {gd : Option (List Code)} {fs : List Env} {base : Heap} {mean : ExcName → Option Value} {mg mb : Str → Option Value} {s : Shared}

theorem use_list {f : Addr} {args : List Value} {P : List Value → Prop} {h₀ : Heap} {L : Addr} {m : Str → Option Value} {news : List (Addr × Obj)} {Q E : Value → Shared → Prop}
    (F : Fr h₀ L s.heap m) (N : News h₀ L s.heap news) (C : Does w dp un gd fs s f args (NewList s.heap P))
    (ret : ∀ a vs n h' tk', P vs → Fr h₀ L h' m → News h₀ L h' ((a, W.listOf (List.toArray vs) n) :: news) → AllNe a news → Q (.ref a) { s with heap := h', toks := tk' }) :
    wpAny (model PySem.Challenge.rw_pe0297_01.row.prog w) (At dp un gd fs) (call (.ref f) args) Q E s := by
  refine use F N C fun r h' tk' F' N' k p => ?_
  obtain ⟨a, vs, n, rfl, ho, hs, hP⟩ := p
  refine ret a vs n h' tk' hP F' (fun q hq => ?_) (allNe_of fun q hq e => ?_)
  · rcases List.mem_cons.mp hq with rfl | hq
    · refine ⟨ho, fun e => ?_, ?_⟩
      · obtain ⟨o, _, _, hL, _⟩ := F.ns
        rw [show a = L from e, hL] at hs; cases hs
      · cases hx : h₀.get? a with
        | none => rfl
        | some o => rw [F.keep _ _ hx] at hs; cases hs
    · exact N' q hq
  · have := (N q hq).1
    rw [e, hs] at this; cases this

theorem newList_end {g h : Heap} {L a : Addr} {m : Str → Option Value} {news : List (Addr × Obj)} {vs : List Value} {n : Nat} {P : List Value → Prop}
    (_F : Fr g L h m) (N : News g L h news) (hm : (a, W.listOf (List.toArray vs) n) ∈ news) (hP : P vs) : NewList g P (.ref a) h :=
  ⟨a, vs, n, rfl, (N _ hm).1, (N _ hm).2.2, hP⟩

set_option maxHeartbeats 4000000 in
theorem c_signs (H : Here w dp un gd fs base mean mg mb s.heap) (hroom : dp < recursionLimit) :
    Does w dp un gd fs s 45 [] (NewList s.heap (fun vs => StrsAre vs signsL)) := by
  intro Q E hq
  have hKK := H.kx
  revert hKK; k_fill; intro hKK
  clear hKK
  refine wpAny_call ?_
  refine enter (binds := []) H (by rfl) (by rfl) hroom (BindsTo.of_eq rfl) (locs rfl) ?_ rfl rfl rfl (by decide)
  intro g' L' h' hg' F' N' B' X' T'
  subst hg'
  dsimp only
  k_steps
  all_goals (refine hq _ _ _ (Fr.keep (by assumption)) (newList_end (by assumption) (by assumption) (.head _) ?_); repeat constructor)
set_option maxHeartbeats 4000000 in
theorem c_rank (i : Nat) (hi : i < 6) (t : Tok) (H : Here w dp un gd fs base mean mg mb s.heap) (hroom : dp < recursionLimit) :
    Does w dp un gd fs s 52 [.int i t] (fun r _ => ∃ t', r = .int (rankN i) t') := by
  match i, hi with
  | 0, _ | 1, _ | 2, _ | 3, _ | 4, _ | 5, _ =>
    intro Q E hq
    have hKK := H.kx
    revert hKK; k_fill; intro hKK
    clear hKK
    refine wpAny_call ?_
    refine enter (binds := [(Str.ofString "place", .int _ t)]) H (by rfl) (by rfl) hroom (BindsTo.of_eq rfl) (locs rfl) ?_ rfl rfl rfl (by decide)
    intro g' L' h' hg' F' N' B' X' T'
    subst hg'
    dsimp only
    k_steps
    all_goals (exact hq _ _ _ (Fr.keep (by assumption)) ⟨_, rfl⟩)
set_option maxHeartbeats 4000000 in
theorem c_place (i : Nat) (hi : i < 6) (t : Tok) (H : Here w dp un gd fs base mean mg mb s.heap) (hroom : dp < recursionLimit) :
    Does w dp un gd fs s 59 [.int (codeN i) t] (fun r _ => ∃ t', r = .int i t') := by
  match i, hi with
  | 0, _ | 1, _ | 2, _ | 3, _ | 4, _ | 5, _ =>
    intro Q E hq
    have hKK := H.kx
    revert hKK; k_fill; intro hKK
    clear hKK
    refine wpAny_call ?_
    refine enter (binds := [(Str.ofString "symbol", .int _ t)]) H (by rfl) (by rfl) hroom (BindsTo.of_eq rfl) (locs rfl) ?_ rfl rfl rfl (by decide)
    intro g' L' h' hg' F' N' B' X' T'
    subst hg'
    dsimp only
    k_steps
    all_goals (exact hq _ _ _ (Fr.keep (by assumption)) ⟨_, rfl⟩)
set_option maxHeartbeats 4000000 in
theorem c_made (i : Nat) (hi : i < 6) (a b : Int) (ha : 0 ≤ a) (ha' : a < 2 ^ 29) (hb : 0 ≤ b) (hb' : b < 2 ^ 29) (t u v : Tok) (H : Here w dp un gd fs base mean mg mb s.heap) (hroom : dp < recursionLimit) :
    Does w dp un gd fs s 66 [.int i t, .int a u, .int b v] (fun r _ => ∃ t', r = .int (madeI i a b) t') := by
  have hb1 : b + 1 ≠ 0 := by omega
  match i, hi with
  | 0, _ | 1, _ | 2, _ | 3, _ | 4, _ | 5, _ =>
    intro Q E hq
    have hKK := H.kx
    revert hKK; k_fill; intro hKK
    clear hKK
    refine wpAny_call ?_
    refine enter (binds := [(Str.ofString "place", .int _ t), (Str.ofString "a", .int a u), (Str.ofString "b", .int b v)]) H (by rfl) (by rfl) hroom (BindsTo.of_eq rfl) (locs rfl) ?_ rfl rfl rfl (by decide)
    intro g' L' h' hg' F' N' B' X' T'
    subst hg'
    dsimp only
    k_steps
    all_goals first
      | exact hq _ _ _ (Fr.keep (by assumption)) ⟨_, rfl⟩
      | (refine hq _ _ _ (Fr.keep (by assumption)) ?_
         simp_all [madeI])
set_option maxHeartbeats 4000000 in
theorem c_term (x : Int) (t : Tok) (H : Here w dp un gd fs base mean mg mb s.heap) (hroom : dp < recursionLimit) :
    Does w dp un gd fs s 24 [.int x t] (fun r _ => r = .bool (decide (x < 256))) := by
  intro Q E hq
  have hKK := H.kx
  revert hKK; k_fill; intro hKK
  clear hKK
  refine wpAny_call ?_
  refine enter (binds := [(Str.ofString "x", .int x t)]) H (by rfl) (by rfl) hroom (BindsTo.of_eq rfl) (locs rfl) ?_ rfl rfl rfl (by decide)
  intro g' L' h' hg' F' N' B' X' T'
  subst hg'
  dsimp only
  k_steps
  all_goals (exact hq _ _ _ (Fr.keep (by assumption)) rfl)
set_option maxHeartbeats 4000000 in
theorem c_nonterm (x : Int) (t : Tok) (H : Here w dp un gd fs base mean mg mb s.heap) (hroom : dp < recursionLimit) :
    Does w dp un gd fs s 31 [.int x t] (fun r _ => r = .bool (decide (256 ≤ x))) := by
  intro Q E hq
  have hKK := H.kx
  revert hKK; k_fill; intro hKK
  clear hKK
  refine wpAny_call ?_
  refine enter (binds := [(Str.ofString "x", .int x t)]) H (by rfl) (by rfl) hroom (BindsTo.of_eq rfl) (locs rfl) ?_ rfl rfl rfl (by decide)
  intro g' L' h' hg' F' N' B' X' T'
  subst hg'
  dsimp only
  k_steps
  all_goals (exact hq _ _ _ (Fr.keep (by assumption)) rfl)
set_option maxHeartbeats 4000000 in
theorem c_eof (x : Int) (t : Tok) (H : Here w dp un gd fs base mean mg mb s.heap) (hroom : dp < recursionLimit) :
    Does w dp un gd fs s 38 [.int x t] (fun r _ => r = .bool (decide (x = 0))) := by
  intro Q E hq
  have hKK := H.kx
  revert hKK; k_fill; intro hKK
  clear hKK
  refine wpAny_call ?_
  refine enter (binds := [(Str.ofString "x", .int x t)]) H (by rfl) (by rfl) hroom (BindsTo.of_eq rfl) (locs rfl) ?_ rfl rfl rfl (by decide)
  intro g' L' h' hg' F' N' B' X' T'
  subst hg'
  dsimp only
  k_steps
  all_goals (exact hq _ _ _ (Fr.keep (by assumption)) rfl)
end
end

/- part CB -/
section
open PySem PySem.W PySem.Calls PyProof.Rows

def Stop (P : Prop) : Prop := P
theorem Stop.out {P : Prop} (h : Stop P) : P := h
theorem Stop.mk {P : Prop} (h : P) : Stop P := h

/-- a walk's post made a variable: its proof stays small; put back by hP at the walk's end -/
theorem gen_postQ {α : Type} {M : Model} {A : Around} {t : Sem α} {Q : α → Shared → Prop} {E : Value → Shared → Prop} {s : Shared}
    (h : ∀ P : α → Shared → Prop, (∀ a s', Q a s' → P a s') → wpAny M A t P E s) : wpAny M A t Q E s := h Q fun _ _ q => q
theorem gen_post {α : Type} {M : Model} {A : Around} {t : Sem α} {Q : α → Shared → Prop} {E : Value → Shared → Prop} {s : Shared}
    (h : ∀ (P : α → Shared → Prop) (P' : Value → Shared → Prop), (∀ a s', Q a s' → P a s') → wpAny M A t P P' s) : wpAny M A t Q E s := h Q E fun _ _ q => q

theorem known {m : Str → Option Value} {x : Str} {v : Value} (h : m x = some v) : m = fun y => if y = x then some v else m y := by
  funext y
  by_cases e : y = x
  · subst e; simp [h]
  · simp [e]

inductive PushTo : List Int → Int → List Int → Prop
  | nil {v} : PushTo [] v [v]
  | seven {v r} : PushTo (7 :: r) v (v :: 7 :: r)
  | comb {v a r} (i : Nat) : i < 6 → 0 ≤ a → a < 2 ^ 29 → 0 ≤ v → v < 2 ^ 29 → PushTo (codeN i :: (256 + a) :: r) (256 + v) ((256 + madeI i a v) :: r)
inductive StepTo : List Int → Int → List Int → Prop
  | close {v r r'} : 256 ≤ v → PushTo r v r' → StepTo (v :: 7 :: r) 8 r'
  | worth {x st st'} : 256 ≤ x → PushTo st x st' → StepTo st x st'
  | put {x st} : x < 256 → x ≠ 8 → x ≠ 0 → StepTo st x (x :: st)
inductive RunTo : List Int → List Int → List Int → Prop
  | nil {st} : RunTo st [] st
  | cons {st st' x xs fin} : StepTo st x st' → RunTo st' xs fin → RunTo st (x :: xs) fin


theorem intsAre_snoc : ∀ {us : List Value} {l : List Int}, IntsAre us l → ∀ (x : Int) (t : Tok), IntsAre (us ++ [.int x t]) (l ++ [x])
  | _, _, .nil, x, t => .cons x t .nil
  | _, _, .cons n u r, x, t => .cons n u (intsAre_snoc r x t)
theorem intsAre_append : ∀ {us us' : List Value} {l l' : List Int}, IntsAre us l → IntsAre us' l' → IntsAre (us ++ us') (l ++ l')
  | _, _, _, _, .nil, h => h
  | _, _, _, _, .cons n u r, h => .cons n u (intsAre_append r h)
theorem intsAre_last : ∀ {us : List Value} {l : List Int} {x : Int}, IntsAre us (l ++ [x]) → ∃ t, us = us.dropLast ++ [.int x t] ∧ IntsAre us.dropLast l := by
  intro us l x h
  obtain ⟨y, t, h1, h2, h3⟩ := kpa_ints h (by rw [h.length]; simp)
  subst h2
  simp only [List.getLastD_concat, List.dropLast_concat] at h1 h3
  exact ⟨t, h1, h3⟩

section
variable {prog : Program} {w : World} {A : Around} {E : Value → Shared → Prop} {s : Shared} {h₀ : Heap} {L D : Addr} {m : Str → Option Value} {news news' : List (Addr × Obj)} {n : Nat}
theorem pop_snoc {us : List Value} {l : List Int} {x : Int} {Q : Value → Shared → Prop} (F : Fr h₀ L s.heap m) (N : News h₀ L s.heap news) (hi : IntsAre us (l ++ [x]))
    (U : Upd D (W.listOf us.toArray n) (W.listOf us.dropLast.toArray (n + 1)) news news')
    (hz : us.length ≤ 1000000) (h : ∀ h' t, Fr h₀ L h' m → News h₀ L h' news' → IntsAre us.dropLast l → Q (.int x t) { s with heap := h' }) : wpAny (model prog w) A (call (.builtin "list.pop") [.ref D]) Q E s := by
  refine kpa_pop F N U hi (by rw [hi.length]; simp) (by rw [sizeLine_eq]; omega) fun h' t F' N' hi' => ?_
  simp only [List.getLastD_concat, List.dropLast_concat] at hi' ⊢
  exact h h' t F' N' hi'
theorem append_big {us : List Value} {v : Value} {Q : Value → Shared → Prop} (F : Fr h₀ L s.heap m) (N : News h₀ L s.heap news)
    (U : Upd D (W.listOf us.toArray n) (W.listOf (us ++ [v]).toArray (n + 1)) news news')
    (hz : us.length ≤ 1000000) (h : ∀ h', Fr h₀ L h' m → News h₀ L h' news' → Q .none { s with heap := h' }) : wpAny (model prog w) A (call (.builtin "list.append") [.ref D, v]) Q E s := by
  refine append_K F N (its := us.toArray) (x := v) (by simpa using U) h (by rw [sizeLine_eq, List.size_toArray]; omega)
end
section
variable {prog : Program} {w : World} {A : Around} {E : Value → Shared → Prop} {s : Shared}
theorem InvEndN.one {L D : Addr} {h₀ : Heap} {J : (Str → Option Value) → List (Addr × Obj) → Prop} {m' : Str → Option Value} {own news' : List (Addr × Obj)} {o : Obj} {adr : List Addr} {s₁ : Shared} {h' : Heap} {tk : Nat} (F : Fr h₀ L h' m') (N : News h₀ L h' news')
    (hm : (D, o) ∈ news') (ho : ∀ p ∈ own, p ∈ news') (ha : [D] = adr) (hj : J m' [(D, o)]) : InvEndN h₀ L J own adr s₁ { s₁ with heap := h', toks := tk } :=
  ⟨h', tk, m', news', [(D, o)], rfl, F, N, by simpa using hm, ho, ha, hj⟩
theorem ite_no {c : Prop} [Decidable c] {a b : Prop} (h : ¬c) (hb : b) : if c then a else b := by rw [if_neg h]; exact hb
theorem ite_yes {c : Prop} [Decidable c] {a b : Prop} (h : c) (hb : a) : if c then a else b := by rw [if_pos h]; exact hb
theorem sub256 (a : Int) : 256 + a - 256 = a := by omega
theorem code_small {i : Nat} (hi : i < 6) : codeN i ≠ 7 ∧ codeN i ≠ 8 ∧ codeN i ≠ 0 ∧ codeN i < 256 := by
  match i, hi with
  | 0, _ | 1, _ | 2, _ | 3, _ | 4, _ | 5, _ => decide
theorem ne_nil_snoc {a b : Addr} {xs ys : List Value} {l : List Int} {x : Int} {Q : Value → Shared → Prop} (ha : s.heap.IsList a xs.toArray) (hb : s.heap.IsList b ys.toArray) (hi : IntsAre xs (l ++ [x])) (hj : IntsAre ys []) (hu : A.units + 64 < cLine) (h : Q (.bool true) s) :
    wpAny (model prog w) A (compareOp .NotEq (.ref a) (.ref b)) Q E s :=
  ke_ne_ints ha hb hi hj hu (by simpa using h)
end
section
variable {w : World} {dp un : Nat} {gd : Option (List Code)} {fs : List Env} {base : Heap} {mean : ExcName → Option Value} {mg mb : Str → Option Value} {s : Shared}
theorem Does.weaken {f : Addr} {args : List Value} {P R : Value → Heap → Prop} (h : Does w dp un gd fs s f args P) (k : ∀ r h', P r h' → R r h') : Does w dp un gd fs s f args R :=
  fun Q E hq => h Q E fun r h' tk' a b => hq r h' tk' a (k _ _ b)
theorem term_t {x : Int} {t : Tok} (hx : x < 256) (H : Here w dp un gd fs base mean mg mb s.heap) (hroom : dp < recursionLimit) : Does w dp un gd fs s 24 [.int x t] (fun r _ => r = .bool true) :=
  (c_term x t H hroom).weaken fun r _ e => by rw [e, decide_eq_true hx]
theorem term_f {x : Int} {t : Tok} (hx : 256 ≤ x) (H : Here w dp un gd fs base mean mg mb s.heap) (hroom : dp < recursionLimit) : Does w dp un gd fs s 24 [.int x t] (fun r _ => r = .bool false) :=
  (c_term x t H hroom).weaken fun r _ e => by rw [e, decide_eq_false (by omega)]
theorem nonterm_t {x : Int} {t : Tok} (hx : 256 ≤ x) (H : Here w dp un gd fs base mean mg mb s.heap) (hroom : dp < recursionLimit) : Does w dp un gd fs s 31 [.int x t] (fun r _ => r = .bool true) :=
  (c_nonterm x t H hroom).weaken fun r _ e => by rw [e, decide_eq_true hx]
theorem nonterm_f {x : Int} {t : Tok} (hx : x < 256) (H : Here w dp un gd fs base mean mg mb s.heap) (hroom : dp < recursionLimit) : Does w dp un gd fs s 31 [.int x t] (fun r _ => r = .bool false) :=
  (c_nonterm x t H hroom).weaken fun r _ e => by rw [e, decide_eq_false (by omega)]
theorem eof_t {x : Int} {t : Tok} (hx : x = 0) (H : Here w dp un gd fs base mean mg mb s.heap) (hroom : dp < recursionLimit) : Does w dp un gd fs s 38 [.int x t] (fun r _ => r = .bool true) :=
  (c_eof x t H hroom).weaken fun r _ e => by rw [e, decide_eq_true hx]
theorem eof_f {x : Int} {t : Tok} (hx : x ≠ 0) (H : Here w dp un gd fs base mean mg mb s.heap) (hroom : dp < recursionLimit) : Does w dp un gd fs s 38 [.int x t] (fun r _ => r = .bool false) :=
  (c_eof x t H hroom).weaken fun r _ e => by rw [e, decide_eq_false hx]
theorem place_at {i : Nat} {x : Int} {t : Tok} (hi : i < 6) (hx : x = codeN i) (H : Here w dp un gd fs base mean mg mb s.heap) (hroom : dp < recursionLimit) : Does w dp un gd fs s 59 [.int x t] (fun r _ => ∃ t', r = .int i t') := by
  subst hx; exact c_place i hi t H hroom
theorem made_at {i : Nat} {x y a b : Int} {t u v : Tok} (hi : i < 6) (hx : x = a) (hy : y = b) (ha : 0 ≤ a) (ha' : a < 2 ^ 29) (hb : 0 ≤ b) (hb' : b < 2 ^ 29) (H : Here w dp un gd fs base mean mg mb s.heap) (hroom : dp < recursionLimit) :
    Does w dp un gd fs s 66 [.int i t, .int x u, .int y v] (fun r _ => ∃ t', r = .int (madeI i a b) t') := by
  subst hx hy; exact c_made i hi x y ha ha' hb hb' t u v H hroom
end
end

open PySem.Calls
local macro_rules | `(tactic| walk_at $s:str) => `(tactic| k_extra $s)
local macro_rules | `(tactic| walk_at "mine push3") => `(tactic| (intro h' F' N'; (try dsimp only [List.nil_append, List.cons_append] at N'); k_sweep))
local macro_rules | `(tactic| walk_at "mine push5") => `(tactic| (intro h' t' F' N' hI'; (try dsimp only [List.nil_append, List.cons_append] at N'); k_sweep))
local macro_rules | `(tactic| walk_at "mine new5") => `(tactic| (intro D' h' F' N' l1; (try k_lt l1); (try k_sweep)))
local macro_rules | `(tactic| walk_at "mine new7") => `(tactic| (intro D' ws' h' F' N' l1 hI'; (try k_lt l1); (try k_sweep)))
local macro_rules | `(tactic| walk_at "mine lst") => `(tactic| (intro a' vs' n' h' tk' p' F' N' l1; (try simp only [AllNe, and_true] at l1); k_sweep))
local macro_rules | `(tactic| walk_at "mine turns") => `(tactic| (rename Fr _ _ _ _ => lF'; (with_unfolding_all refine' For_turns lF' ?_)))
local macro_rules | `(tactic| walk_at "mine item") => `(tactic| (rename Txt.item _ _ = _ => e'; rw [e']))

/- part CR -/
section
open PySem PySem.W PySem.Calls PyProof.Rows
theorem fresh_CR : True := by
  w_top off
  trivial

section
variable {w : World} {dp un : Nat} {gd : Option (List Code)} {fs : List Env} {base : Heap} {mean : ExcName → Option Value} {mg mb : Str → Option Value} {s : Shared}

theorem lines_CR : True := by
  k_with_none
  k_with "mine here" => (exact Here.next (by assumption) (by assumption) (by assumption) (by assumption) rfl rfl)
  k_with "pyIter ref" => ((with_reducible show wpAny _ _ (pyIter (Value.ref _)) (fun _ _ => LoopAtV _ _ _ _ _ _ _ _ _ _ _) _ _); refine Stop.out ?_)
  k_with "InvEndN" => (refine Stop.out ?_)
  k_with "call ref" => (k_here; (with_reducible show wpAny _ _ (call (Value.ref 24) _) _ _ _); first | (refine use (by assumption) (by assumption) (term_t (by first | assumption | omega) (by k_extra "mine here") (by omega)) ?_; intro _ _ _ _ _ k' p'; subst p'; clear k'; k_sweep) | (refine use (by assumption) (by assumption) (term_f (by first | assumption | omega) (by k_extra "mine here") (by omega)) ?_; intro _ _ _ _ _ k' p'; subst p'; clear k'; k_sweep))
  k_with "call ref" => (k_here; (with_reducible show wpAny _ _ (call (Value.ref 31) _) _ _ _); first | (refine use (by assumption) (by assumption) (nonterm_t (by first | assumption | omega) (by k_extra "mine here") (by omega)) ?_; intro _ _ _ _ _ k' p'; subst p'; clear k'; k_sweep) | (refine use (by assumption) (by assumption) (nonterm_f (by first | assumption | omega) (by k_extra "mine here") (by omega)) ?_; intro _ _ _ _ _ k' p'; subst p'; clear k'; k_sweep))
  k_with "call ref" => (k_here; (with_reducible show wpAny _ _ (call (Value.ref 38) _) _ _ _); first | (refine use (by assumption) (by assumption) (eof_t (by first | assumption | omega) (by k_extra "mine here") (by omega)) ?_; intro _ _ _ _ _ k' p'; subst p'; clear k'; k_sweep) | (refine use (by assumption) (by assumption) (eof_f (by first | assumption | omega) (by k_extra "mine here") (by omega)) ?_; intro _ _ _ _ _ k' p'; subst p'; clear k'; k_sweep))
  k_with "call ref" => (k_here; (with_reducible show wpAny _ _ (call (Value.ref 59) _) _ _ _); (refine use (by assumption) (by assumption) (place_at (by assumption) rfl (by k_extra "mine here") (by omega)) ?_; intro _ _ _ _ _ k' p'; obtain ⟨_, p'⟩ := p'; subst p'; clear k'; k_sweep))
  k_with "call ref" => (k_here; (with_reducible show wpAny _ _ (call (Value.ref 66) _) _ _ _); (refine use (by assumption) (by assumption) (made_at (by assumption) (sub256 _) (sub256 _) (by assumption) (by assumption) (by assumption) (by assumption) (by k_extra "mine here") (by omega)) ?_; intro _ _ _ _ _ k' p'; obtain ⟨_, p'⟩ := p'; subst p'; clear k'; k_sweep))
  k_with "mine len" => ((try simp only [List.length_dropLast]); omega)
  k_with "call builtin:list.pop" => (k_here; (with_reducible show wpAny _ _ (call (Value.builtin _) [Value.ref _]) _ _ _); k_dflt (refine' pop_snoc (by k_asm) (by k_asm) (by with_reducible assumption) (by k_upd) (by k_extra "mine len") ?_); walk_at "mine push5")
  k_with "call builtin:list.append" => (k_here; (with_reducible show wpAny _ _ (call (Value.builtin _) [Value.ref _, _]) _ _ _); k_dflt (refine' append_big (by k_asm) (by k_asm) (by k_upd) (by k_extra "mine len") ?_); walk_at "mine push3")
  k_with "mine dec" => (first | assumption | decide | omega | (simp only [beq_iff_eq, bne_iff_ne, ne_eq, decide_eq_true_eq, Bool.not_eq_true, Decidable.not_not]; first | assumption | omega))
  k_with "ite" => (first | refine ite_no (by k_extra "mine dec") ?_ | refine ite_yes (by k_extra "mine dec") ?_)
  k_with "compareOp NotEq ref ref" => (k_here; (with_reducible show wpAny _ _ (compareOp CmpOp.NotEq (Value.ref _) (Value.ref _)) _ _ _); k_dflt (refine ne_nil_snoc (by is_list) (by is_list) (by assumption) (by l_ints) (by (dsimp only [At]; omega)) ?_))
  trivial


set_option maxHeartbeats 4000000 in
theorem c_run {l : Addr} {vs : List Value} {body fin : List Int} (hl : s.heap.IsList l vs.toArray) (hi : IntsAre vs (body ++ [0])) (hr : RunTo [] body fin) (hbl : body.length ≤ 10000) (H : Here w dp un gd fs base mean mg mb s.heap) (hroom : dp + 1 < recursionLimit)
    (hun : un + 1000 < cLine) :
    Does w dp un gd fs s 101 [.ref l] (NewList s.heap (fun vs => IntsAre vs fin.reverse)) := by
  have hroom' : dp < recursionLimit := by omega
  intro Q E hq
  have hKK := H.kx
  revert hKK; k_fill; intro hKK
  clear hKK
  refine wpAny_call ?_
  refine enter (binds := [(Str.ofString "symbols", .ref l)]) H (by rfl) (by rfl) hroom' (BindsTo.of_eq rfl) (locs rfl) ?_ rfl rfl rfl (by decide)
  intro g' L' h' hg' F' N' B' X' T'
  subst hg'
  dsimp only
  refine gen_postQ fun Pf hPf => ?_
  k_steps
  refine Stop.mk ?_
  rename_i sl _ _ _ F₁ N₁
  refine iter_invN (fun i m nx => ∃ st us n, nx = [(sl, W.listOf (List.toArray us) n)] ∧ IntsAre us st.reverse ∧ st.length ≤ i ∧ i ≤ body.length ∧ RunTo st (body.drop i) fin ∧ m (Str.ofString "stack") = some (.ref sl)) rfl hl ‹_› F₁ N₁ ⟨[], [], 0, rfl, .nil, Nat.le_refl _, Nat.zero_le _, hr, rfl⟩ ?_ ?_
  · clear F₁ N₁
    rintro i x t m₁ _ h tk own hx _ hoff ⟨st, us, n, rfl, hus, hlen, hib, hrun, hm⟩ F₁ N₁
    have hul : us.length = st.length := by rw [hus.length]; simp
    rw [known hm] at F₁
    simp only [List.cons_append, List.nil_append] at N₁
    clear hm
    have hib' := hib
    refine gen_post fun P P' hP => ?_
    rcases Nat.lt_or_ge i body.length with hlt | hge
    · rw [List.getElem?_append_left hlt, List.getElem?_eq_getElem hlt] at hx
      obtain rfl := Option.some.inj hx
      rw [List.drop_eq_getElem_cons hlt] at hrun
      generalize body[i] = x at *
      cases hrun with
      | cons hstep hrest =>
        cases hstep with
        | close hv hp =>
          cases hp with
          | nil  =>
            simp only [List.reverse_cons, List.reverse_nil] at hus
            k_steps
            refine hP _ _ ?_
            dsimp only [InvPostN]
            refine InvEndN.one (D := sl) (by assumption) (by assumption) (by with_unfolding_all k_memK) (by intro p hp; k_ownIn) rfl ⟨_, _, _, rfl, ?_, by simp only [List.length_cons, List.length_nil] at hlen ⊢; omega, hlt, hrest, rfl⟩
            simp only [List.reverse_cons, List.reverse_nil]
            repeat (first | assumption | refine intsAre_snoc ?_ _ _)
          | seven  =>
            simp only [List.reverse_cons] at hus
            k_steps
            refine hP _ _ ?_
            dsimp only [InvPostN]
            refine InvEndN.one (D := sl) (by assumption) (by assumption) (by with_unfolding_all k_memK) (by intro p hp; k_ownIn) rfl ⟨_, _, _, rfl, ?_, by simp only [List.length_cons, List.length_nil] at hlen ⊢; omega, hlt, hrest, rfl⟩
            simp only [List.reverse_cons, List.reverse_nil]
            repeat (first | assumption | refine intsAre_snoc ?_ _ _)
          | comb j hj h1 h2 h3 h4 =>
            rename_i v a r; obtain ⟨hc7, hc8, hc0, hc2⟩ := code_small hj; simp only [List.reverse_cons] at hus
            k_steps
            refine hP _ _ ?_
            dsimp only [InvPostN]
            refine InvEndN.one (D := sl) (by assumption) (by assumption) (by with_unfolding_all k_memK) (by intro p hp; k_ownIn) rfl ⟨_, _, _, rfl, ?_, by simp only [List.length_cons, List.length_nil] at hlen ⊢; omega, hlt, hrest, rfl⟩
            simp only [List.reverse_cons, List.reverse_nil]
            repeat (first | assumption | refine intsAre_snoc ?_ _ _)
        | worth hv hp =>
          cases hp with
          | nil  =>
            simp only [List.reverse_nil] at hus
            k_steps
            refine hP _ _ ?_
            dsimp only [InvPostN]
            refine InvEndN.one (D := sl) (by assumption) (by assumption) (by with_unfolding_all k_memK) (by intro p hp; k_ownIn) rfl ⟨_, _, _, rfl, ?_, by simp only [List.length_cons, List.length_nil] at hlen ⊢; omega, hlt, hrest, rfl⟩
            simp only [List.reverse_cons, List.reverse_nil]
            repeat (first | assumption | refine intsAre_snoc ?_ _ _)
          | seven  =>
            simp only [List.reverse_cons] at hus
            k_steps
            refine hP _ _ ?_
            dsimp only [InvPostN]
            refine InvEndN.one (D := sl) (by assumption) (by assumption) (by with_unfolding_all k_memK) (by intro p hp; k_ownIn) rfl ⟨_, _, _, rfl, ?_, by simp only [List.length_cons, List.length_nil] at hlen ⊢; omega, hlt, hrest, rfl⟩
            simp only [List.reverse_cons, List.reverse_nil]
            repeat (first | assumption | refine intsAre_snoc ?_ _ _)
          | comb j hj h1 h2 h3 h4 =>
            rename_i v a r; obtain ⟨hc7, hc8, hc0, hc2⟩ := code_small hj; simp only [List.reverse_cons] at hus
            k_steps
            refine hP _ _ ?_
            dsimp only [InvPostN]
            refine InvEndN.one (D := sl) (by assumption) (by assumption) (by with_unfolding_all k_memK) (by intro p hp; k_ownIn) rfl ⟨_, _, _, rfl, ?_, by simp only [List.length_cons, List.length_nil] at hlen ⊢; omega, hlt, hrest, rfl⟩
            simp only [List.reverse_cons, List.reverse_nil]
            repeat (first | assumption | refine intsAre_snoc ?_ _ _)
        | put h1 h2 h3 =>
            k_steps
            refine hP _ _ ?_
            dsimp only [InvPostN]
            refine InvEndN.one (D := sl) (by assumption) (by assumption) (by with_unfolding_all k_memK) (by intro p hp; k_ownIn) rfl ⟨_, _, _, rfl, ?_, by simp only [List.length_cons, List.length_nil] at hlen ⊢; omega, hlt, hrest, rfl⟩
            simp only [List.reverse_cons, List.reverse_nil]
            repeat (first | assumption | refine intsAre_snoc ?_ _ _)
    · obtain rfl : i = body.length := by omega
      rw [List.getElem?_append_right (Nat.le_refl _), Nat.sub_self] at hx
      obtain rfl : (0 : Int) = x := Option.some.inj hx
      rw [List.drop_length] at hrun
      cases hrun
      k_steps
      refine hP _ _ ?_
      dsimp only [InvPostN]
      refine hPf _ _ ?_
      dsimp only
      exact hq _ _ _ (Fr.keep (by assumption)) (newList_end (by assumption) (by assumption) (by with_unfolding_all k_memK) hus)
  · rintro m₁ _ h tk ⟨st, us, n, rfl, hus, hlen, hib, hrun, hm⟩ F N
    simp at hib; omega
end
end

/- part CT -/
section
open PySem PySem.W PySem.Calls PyProof.Rows

inductive Tk where
  | lp | rp
  | op (i : Nat)
  | dg (d : Nat)
def Tk.sym : Tk → Int
  | .lp => 7
  | .rp => 8
  | .op i => codeN i
  | .dg d => 256 + (d : Int)
def Tk.str : Tk → Str
  | .lp => Str.ofString "("
  | .rp => Str.ofString ")"
  | .op i => signN i
  | .dg d => digN d
def Tk.fine : Tk → Prop
  | .op i => i < 6
  | .dg d => d < 10
  | _ => True
def farN (i : Nat) : Nat := [5, 5, 4, 3, 2, 1].getD i 0
theorem rank_cases {i : Nat} (h : i < 6) : (rankN i = 0 ∧ farN i = 5) ∨ (rankN i = 1 ∧ farN i = 4) ∨ (rankN i = 2 ∧ farN i = 3) ∨ (rankN i = 3 ∧ farN i = 2) ∨ (rankN i = 4 ∧ farN i = 1) := by
  match i, h with
  | 0, _ | 1, _ | 2, _ | 3, _ | 4, _ | 5, _ => decide
def brk : Tk → List Int
  | .lp => List.replicate 6 7
  | .rp => List.replicate 6 8
  | .op i => List.replicate (farN i) 8 ++ [codeN i] ++ List.replicate (farN i) 7
  | .dg d => [256 + (d : Int)]
def brkAll (ts : List Tk) : List Int := ts.flatMap brk
theorem brk_len (t : Tk) : (brk t).length ≤ 11 := by
  cases t with
  | lp => decide
  | rp => decide
  | dg d => simp [brk]
  | op i =>
    have : farN i ≤ 5 := by
      match i with
      | 0 | 1 | 2 | 3 | 4 | 5 => decide
      | n + 6 => simp [farN]
    simp [brk]; omega
theorem brkAll_len : ∀ ts : List Tk, (brkAll ts).length ≤ 11 * ts.length
  | [] => by simp [brkAll]
  | t :: r => by
    have := brk_len t
    have := brkAll_len r
    simp only [brkAll, List.flatMap_cons, List.length_append, List.length_cons] at *
    omega
theorem brkAll_take {ts : List Tk} {i : Nat} {t : Tk} (h : ts[i]? = some t) : brkAll (ts.take (i + 1)) = brkAll (ts.take i) ++ brk t := by
  rw [List.take_add_one, h]; simp [brkAll]

section
variable {prog : Program} {w : World} {A : Around} {E : Value → Shared → Prop} {s : Shared} {h₀ : Heap} {L D b : Addr} {m : Str → Option Value} {news news' : List (Addr × Obj)} {n n2 : Nat}
theorem news_first {h : Heap} {p : Addr × Obj} {r : List (Addr × Obj)} (N : News h₀ L h (p :: r)) : News h₀ L h [p] := fun q hq => N q (by rw [List.mem_singleton.mp hq]; exact .head _)
theorem extend_big {us us2 : List Value} {Q : Value → Shared → Prop} (F : Fr h₀ L s.heap m) (N : News h₀ L s.heap news) (hb : (b, W.listOf us2.toArray n2) ∈ news) (hne : us2.length ≠ 0)
    (U : Upd D (W.listOf us.toArray n) (W.listOf (us ++ us2).toArray (n + 1)) news news') (hz : us.length ≤ 1000000) (hz2 : us2.length ≤ 1000)
    (h : ∀ h', Fr h₀ L h' m → News h₀ L h' news' → Q .none { s with heap := h' }) : wpAny (model prog w) A (call (.builtin "list.extend") [.ref D, .ref b]) Q E s := by
  refine kl_extend F N hb (l := us ++ us2) rfl (by simpa using hne) U ?_ (by rw [sizeLine_eq]; simp; omega) (by rw [sizeLine_eq]; simp; omega) h
  have : Builtin.List.listTooLong (us.toArray.size + us2.toArray.size) = false := by
    unfold Builtin.List.listTooLong
    rw [decide_eq_false_iff_not, sizeLine_eq, List.size_toArray, List.size_toArray]
    omega
  rw [this]; simp
end
end

/- part CK -/
section
open PySem PySem.W PySem.Calls PyProof.Rows
theorem fresh_CK : True := by
  w_top off
  trivial

section
variable {w : World} {dp un : Nat} {gd : Option (List Code)} {fs : List Env} {base : Heap} {mean : ExcName → Option Value} {mg mb : Str → Option Value} {s : Shared}

theorem lines_CK : True := by
  k_with_none
  k_with "mine here" => (exact Here.next (by assumption) (by assumption) (by assumption) (by assumption) rfl rfl)
  k_with "pyIter ref" => ((with_reducible show wpAny _ _ (pyIter (Value.ref _)) (fun _ _ => LoopAtV _ _ _ _ _ _ _ _ _ _ _) _ _); refine Stop.out ?_)
  k_with "InvEndN" => (refine Stop.out ?_)
  k_with "call ref" => (k_here; (with_reducible show wpAny _ _ (call (Value.ref 24) _) _ _ _); first | (refine use (by assumption) (by assumption) (term_t (by first | assumption | omega | decide) (by k_extra "mine here") (by omega)) ?_; intro _ _ _ _ _ k' p'; subst p'; clear k'; k_sweep) | (refine use (by assumption) (by assumption) (term_f (by first | assumption | omega | decide) (by k_extra "mine here") (by omega)) ?_; intro _ _ _ _ _ k' p'; subst p'; clear k'; k_sweep))
  k_with "call ref" => (k_here; (with_reducible show wpAny _ _ (call (Value.ref 59) _) _ _ _); (refine use (by assumption) (by assumption) (place_at (by assumption) rfl (by k_extra "mine here") (by omega)) ?_; intro _ _ _ _ _ k' p'; obtain ⟨_, p'⟩ := p'; subst p'; clear k'; k_sweep))
  k_with "call ref" => (k_here; (with_reducible show wpAny _ _ (call (Value.ref 52) _) _ _ _); (refine use (by assumption) (by assumption) (c_rank _ (by assumption) _ (by k_extra "mine here") (by omega)) ?_; intro _ _ _ _ _ k' p'; obtain ⟨_, p'⟩ := p'; subst p'; clear k'; k_sweep; (rename _ < 6 => hj'; rcases rank_cases hj' with ⟨e', e2'⟩ | ⟨e', e2'⟩ | ⟨e', e2'⟩ | ⟨e', e2'⟩ | ⟨e', e2'⟩ <;> rw [e'])))
  k_with "mine len" => ((try simp only [List.length_dropLast, List.length_append, List.length_cons, List.length_nil]); omega)
  k_with "call builtin:list.append" => (k_here; (with_reducible show wpAny _ _ (call (Value.builtin _) [Value.ref _, _]) _ _ _); k_dflt (refine' append_big (by k_asm) (by k_asm) (by k_upd) (by k_extra "mine len") ?_); walk_at "mine push3")
  k_with "call builtin:list.extend" => (k_here; (with_reducible show wpAny _ _ (call (Value.builtin _) [Value.ref _, Value.ref _]) _ _ _); k_dflt (refine' extend_big (by k_asm) (by k_asm) (by k_mem) (by first | decide | (simp; done)) (by k_upd) (by k_extra "mine len") (by first | decide | (simp; done) | (simp; omega)) ?_); walk_at "mine push3")
  k_with "binaryOp Add ref ref" => (k_here; (with_reducible show wpAny _ _ (binaryOp _ (Value.ref _) (Value.ref _)) _ _ _); k_dflt (refine' kmk_add_ints (by k_asm) (by k_asm) (by is_list) (by is_list) (by l_ints) (by l_ints) ?_ (by (rw [sizeLine_eq]; simp; omega))); walk_at "mine new7")
  k_with "mine dec" => (first | assumption | decide | omega | (simp only [beq_iff_eq, bne_iff_ne, ne_eq, decide_eq_true_eq, Bool.not_eq_true, Decidable.not_not]; first | assumption | omega))
  k_with "ite" => (first | refine ite_no (by k_extra "mine dec") ?_ | refine ite_yes (by k_extra "mine dec") ?_)
  trivial


set_option maxHeartbeats 4000000 in
theorem c_bracketed {l : Addr} {vs : List Value} {ts : List Tk} (hl : s.heap.IsList l vs.toArray) (hi : IntsAre vs (ts.map Tk.sym)) (hf : ∀ t ∈ ts, t.fine) (hbl : ts.length ≤ 1000) (H : Here w dp un gd fs base mean mg mb s.heap) (hroom : dp + 1 < recursionLimit)
    (hun : un + 1000 < cLine) :
    Does w dp un gd fs s 94 [.ref l] (NewList s.heap (fun vs => IntsAre vs (List.replicate 5 7 ++ brkAll ts ++ List.replicate 5 8 ++ [0]))) := by
  have hroom' : dp < recursionLimit := by omega
  intro Q E hq
  have hKK := H.kx
  revert hKK; k_fill; intro hKK
  clear hKK
  refine wpAny_call ?_
  refine enter (binds := [(Str.ofString "symbols", .ref l)]) H (by rfl) (by rfl) hroom' (BindsTo.of_eq rfl) (locs rfl) ?_ rfl rfl rfl (by decide)
  intro g' L' h' hg' F' N' B' X' T'
  subst hg'
  dsimp only
  refine gen_postQ fun Pf hPf => ?_
  k_steps
  refine Stop.mk ?_
  rename_i _ _ _ ml _ iL s1 e1 _ _ _ _ _ F₁ N₁
  have N₂ := news_first N₁
  clear N₁
  have iL' : IntsAre _ (List.replicate 5 7 ++ brkAll (ts.take 0)) := iL
  refine iter_invN (fun i m nx => ∃ us n, nx = [(ml, W.listOf (List.toArray us) n)] ∧ IntsAre us (List.replicate 5 7 ++ brkAll (ts.take i)) ∧ m (Str.ofString "made") = some (.ref ml)) rfl hl hi F₁ N₂ ⟨_, _, rfl, iL', rfl⟩ ?_ ?_
  · clear F₁ N₂ iL iL'
    rintro i x t m₁ _ h tk own hx _ hoff ⟨us, n, rfl, hus, hm⟩ F₁ N₁
    rw [known hm] at F₁
    clear hm
    simp only [List.cons_append, List.nil_append] at N₁
    have hul : us.length ≤ 12000 := by
      have h1 := hus.length
      have h2 := brkAll_len (ts.take i)
      have h3 : (ts.take i).length ≤ ts.length := by simp; omega
      simp only [List.length_append, List.length_replicate] at h1
      omega
    rw [List.getElem?_map] at hx
    cases hti : ts[i]? with
    | none => rw [hti] at hx; cases hx
    | some tok =>
    rw [hti] at hx
    obtain rfl : tok.sym = x := Option.some.inj hx
    have hfine := hf tok (List.mem_of_getElem? hti)
    rw [brkAll_take hti, ← List.append_assoc]
    refine gen_post fun P P' hP => ?_
    clear hx hti
    cases tok with
    | lp =>
      simp only [Tk.sym] at F₁
      k_steps
      all_goals (refine hP _ _ ?_; dsimp only [InvPostN]; refine InvEndN.one (D := ml) (by assumption) (by assumption) (by with_unfolding_all k_memK) (by intro p hp; k_ownIn) rfl ⟨_, _, rfl, ?_, rfl⟩; refine intsAre_append hus ?_; repeat (first | exact IntsAre.nil | refine IntsAre.cons _ _ ?_))
    | rp =>
      simp only [Tk.sym] at F₁
      k_steps
      all_goals (refine hP _ _ ?_; dsimp only [InvPostN]; refine InvEndN.one (D := ml) (by assumption) (by assumption) (by with_unfolding_all k_memK) (by intro p hp; k_ownIn) rfl ⟨_, _, rfl, ?_, rfl⟩; refine intsAre_append hus ?_; repeat (first | exact IntsAre.nil | refine IntsAre.cons _ _ ?_))
    | dg d =>
      simp only [Tk.sym] at F₁
      k_steps
      all_goals (refine hP _ _ ?_; dsimp only [InvPostN]; refine InvEndN.one (D := ml) (by assumption) (by assumption) (by with_unfolding_all k_memK) (by intro p hp; k_ownIn) rfl ⟨_, _, rfl, ?_, rfl⟩; refine intsAre_append hus ?_; repeat (first | exact IntsAre.nil | refine IntsAre.cons _ _ ?_))
    | op j =>
      simp only [Tk.sym] at F₁
      simp only [Tk.fine] at hfine
      obtain ⟨hc7, hc8, hc0, hc2⟩ := code_small hfine
      k_steps
      all_goals (refine hP _ _ ?_; dsimp only [InvPostN]; refine InvEndN.one (D := ml) (by assumption) (by assumption) (by with_unfolding_all k_memK) (by intro p hp; k_ownIn) rfl ⟨_, _, rfl, ?_, rfl⟩; refine intsAre_append hus ?_; (rename farN j = _ => e2; simp only [brk, e2]); repeat (first | exact IntsAre.nil | refine IntsAre.cons _ _ ?_))
  · rintro m₁ _ h tk ⟨us, n, rfl, hus, hm⟩ F₁ N₁
    rw [known hm] at F₁
    rw [List.length_map, List.take_length] at hus
    have hbb := brkAll_len ts
    k_steps
    all_goals (refine hPf _ _ ?_; dsimp only)
    all_goals exact hq _ _ _ (Fr.keep (by assumption)) (newList_end (by assumption) (by assumption) (.head _) (by assumption))
end
end

/- part CP -/
section
open PySem PySem.W PySem.Calls PyProof.Rows
theorem fresh_CP : True := by
  w_top off
  trivial

/-- one turn: (tokens, still open) -/
def stepP (k : Nat) (n : Int) (p : List Tk × Nat) : List Tk × Nat :=
  let q := (n.fdiv 60).fmod 3
  let a := if k = 0 then p.1 else p.1 ++ [.op ((n.fdiv 10).fmod 6).toNat]
  let d : Tk := .dg (n.fmod 10).toNat
  if q = 1 then (a ++ [.lp] ++ [d], p.2 + 1)
  else if q = 2 ∧ 0 < p.2 then (a ++ [d] ++ [.rp], p.2 - 1)
  else (a ++ [d], p.2)
def goP : Nat → List Int → List Tk × Nat → List Tk × Nat
  | _, [], p => p
  | k, n :: r, p => goP (k + 1) r (stepP k n p)
def piecesT (ns : List Int) : List Tk := (goP 0 ns ([], 0)).1 ++ List.replicate (goP 0 ns ([], 0)).2 .rp
theorem stepP_1 {k : Nat} {n : Int} {p : List Tk × Nat} (h : (n.fdiv 60).fmod 3 = 1) : stepP k n p = ((if k = 0 then p.1 else p.1 ++ [.op ((n.fdiv 10).fmod 6).toNat]) ++ [.lp] ++ [.dg (n.fmod 10).toNat], p.2 + 1) := by
  simp [stepP, h]
theorem stepP_2 {k : Nat} {n : Int} {p : List Tk × Nat} (h : (n.fdiv 60).fmod 3 = 2) (h' : 0 < p.2) : stepP k n p = ((if k = 0 then p.1 else p.1 ++ [.op ((n.fdiv 10).fmod 6).toNat]) ++ [.dg (n.fmod 10).toNat] ++ [.rp], p.2 - 1) := by
  simp [stepP, h, h']
theorem stepP_3 {k : Nat} {n : Int} {p : List Tk × Nat} (h : ¬ (n.fdiv 60).fmod 3 = 1) (h' : ¬ ((n.fdiv 60).fmod 3 = 2 ∧ 0 < p.2)) : stepP k n p = ((if k = 0 then p.1 else p.1 ++ [.op ((n.fdiv 10).fmod 6).toNat]) ++ [.dg (n.fmod 10).toNat], p.2) := by
  simp [stepP, h, h']
theorem dig_item {a : Int} (h : 0 ≤ a ∧ a < 10) : Txt.item (Str.ofString "0123456789") a = digN a.toNat := by
  have : a = 0 ∨ a = 1 ∨ a = 2 ∨ a = 3 ∨ a = 4 ∨ a = 5 ∨ a = 6 ∨ a = 7 ∨ a = 8 ∨ a = 9 := by omega
  rcases this with h | h | h | h | h | h | h | h | h | h <;> subst h <;> decide +kernel
theorem still_eq {v v' : Int} {t : Tok} (h : v = v') : some (Value.int v t) = some (Value.int v' t) := by rw [h]
theorem known2 {m : Str → Option Value} {x x' : Str} {v v' : Value} (h : m x = some v) (h' : m x' = some v') : m = fun y => if y = x then some v else if y = x' then some v' else m y := by
  funext y
  by_cases e : y = x
  · subst e; simp [h]
  · by_cases e' : y = x'
    · subst e'; simp [e, h']
    · simp [e, e']
theorem strsAre_snoc : ∀ {us : List Value} {l : List Str}, StrsAre us l → ∀ (x : Str) (t : Tok), StrsAre (us ++ [.str x t]) (l ++ [x])
  | _, _, .nil, x, t => .cons x t .nil
  | _, _, .cons n u r, x, t => .cons n u (strsAre_snoc r x t)
theorem strsAre_append : ∀ {us us' : List Value} {l l' : List Str}, StrsAre us l → StrsAre us' l' → StrsAre (us ++ us') (l ++ l')
  | _, _, _, _, .nil, h => h
  | _, _, _, _, .cons n u r, h => .cons n u (strsAre_append r h)
section
variable {prog : Program} {w : World} {A : Around} {E : Value → Shared → Prop} {s : Shared}
theorem item_strs {value slice : PySem.Expr} {l : Addr} {vs : List Value} {ys : List Str} {k : Int} {u : Tok} {Q : Value → Shared → Prop}
    (hl : s.heap.IsList l vs.toArray) (hi : StrsAre vs ys) (h0 : 0 ≤ k) (h1 : k < ys.length) (hlen : ys.length ≤ 1000000) (h : ∀ t, Q (.str (ys.getD k.toNat Str.empty) t) s)
    (hs : subscripted slice false (.ref l) (.int k u) = operate [.ref l, .int k u] (getItem (.ref l) (.int k u)) := by with_unfolding_all rfl) :
    wpAny (model prog w) A (subscriptTail value slice (.ref l) (.int k u)) Q E s := by
  have hk : k.toNat < ys.length := by omega
  obtain ⟨t, ht⟩ : ∃ t, vs[k.toNat]? = some (.str (ys.getD k.toNat Str.empty) t) := by
    generalize k.toNat = j at hk
    clear h hs h0 h1 hlen hl
    induction hi generalizing j with
    | nil => exact absurd hk (Nat.not_lt_zero _)
    | cons y t' r ih =>
      cases j with
      | zero => exact ⟨t', rfl⟩
      | succ j => obtain ⟨t, e⟩ := ih j (by simpa using hk); exact ⟨t, by simpa using e⟩
  exact tail_any hl.typeIs slot_list_getitem.lookup (wpAny_getItem_list hl h0 (by omega) (by simpa using ht) (h t)) hs
theorem add_any {h₀ : Heap} {L l b : Addr} {m : Str → Option Value} {news : List (Addr × Obj)} {vs ws : List Value} {Q : Value → Shared → Prop} (F : Fr h₀ L s.heap m) (N : News h₀ L s.heap news) (hl : s.heap.IsList l vs.toArray) (hb : s.heap.IsList b ws.toArray)
    (hz : vs.length ≤ 1000000) (hz2 : ws.length ≤ 1000000) (h : ∀ D h', Fr h₀ L h' m → News h₀ L h' ((D, W.listOf (vs ++ ws).toArray 0) :: news) → (∀ p ∈ news, p.1 < D) → Q (.ref D) { s with heap := h' }) :
    wpAny (model prog w) A (binaryOp .Add (.ref l) (.ref b)) Q E s :=
  add_lists (hsz := by rw [sizeLine_eq]; omega) F N hl hb fun h' F' N' => h _ h' F' N' fun p hp => Heap.lt_size (N p hp).1
theorem strs_rep (y : Str) (t : Tok) : ∀ k : Nat, StrsAre (List.replicate k [Value.str y t]).flatten (List.replicate k y)
  | 0 => .nil
  | k + 1 => .cons y t (strs_rep y t k)
theorem step3_one {h₀ h' : Heap} {L D : Addr} {own news₁ news' : List (Addr × Obj)} {J : (Str → Option Value) → List (Addr × Obj) → Prop} {s₁ : Shared} {tk : Nat} {m₂ : Str → Option Value} {o : Obj} {Qr : Value → Shared → Prop} {Qb : Shared → Prop}
    (F : Fr h₀ L h' m₂) (N : News h₀ L h' news') (hm : (D, o) ∈ news') (ho : ∀ p ∈ own, p ∈ news') (ha : [D] = news₁.map (·.1)) (hj : J m₂ [(D, o)]) : LoopStep3 h₀ L own news₁ J s₁ Qr Qb .next { s₁ with heap := h', toks := tk } :=
  ⟨rfl, h', tk, m₂, [(D, o)], rfl, F, (fun p hp => (List.mem_append.mp hp).elim (fun h => N p (ho p h)) fun h => by rw [List.mem_singleton.mp h]; exact N _ hm), ha, hj⟩
theorem own_swap {h₀ h : Heap} {L : Addr} {a b : List (Addr × Obj)} (N : News h₀ L h (a ++ b)) : News h₀ L h (b ++ a) := fun p hp => N p (by
  rcases List.mem_append.mp hp with h | h
  · exact List.mem_append.mpr (.inr h)
  · exact List.mem_append.mpr (.inl h))
theorem fmod_range (a : Int) (k : Int) (hk : 0 < k) : 0 ≤ a.fmod k ∧ a.fmod k < k := ⟨Int.fmod_nonneg_of_pos _ hk, Int.fmod_lt_of_pos _ hk⟩
end
section
variable {w : World} {dp un : Nat} {gd : Option (List Code)} {fs : List Env} {base : Heap} {mean : ExcName → Option Value} {mg mb : Str → Option Value} {s : Shared}

theorem lines_CP : True := by
  k_with_none
  k_with "mine here" => (exact Here.next (by assumption) (by assumption) (by assumption) (by assumption) rfl rfl)
  k_with "binaryOp Mult ref int" => (k_here; (with_reducible show wpAny _ _ (binaryOp Operator.Mult (Value.ref _) (Value.int _ _)) _ _ _); k_dflt (refine' KMa.mul (by k_asm) (by k_asm) (by is_list) (by first | omega | decide) (by first | omega | decide) (by (simp only [List.length_cons, List.length_nil]; omega)) (by exact rfl) ?_; k_whole); walk_at "mine new5")
  k_with "binaryOp Add ref ref" => (k_here; (with_reducible show wpAny _ _ (binaryOp _ (Value.ref _) (Value.ref _)) _ _ _); k_dflt (refine' add_any (by k_asm) (by k_asm) (by is_list) (by is_list) (by omega) (by (simp; omega)) ?_); walk_at "mine new5")
  k_with "LoopStep3" => (refine Stop.out ?_)
  k_with "call ref" => (k_here; (with_reducible show wpAny _ _ (call (Value.ref 45) _) _ _ _); (refine use_list (by assumption) (by assumption) (c_signs (by k_extra "mine here") (by omega)) ?_; walk_at "mine lst"))
  k_with "subscriptTail" => (k_here; (with_reducible show wpAny _ _ (subscriptTail _ _ (Value.ref _) (Value.int _ _)) _ _ _); (with_unfolding_all refine' item_strs (by is_list) (by with_reducible assumption) (by omega) (by (simp only [signsL, List.length_cons, List.length_nil]; omega)) (by decide) ?_ (by with_unfolding_all rfl); k_whole); intro _)
  k_with "pyIter ref" => ((with_reducible show wpAny _ _ (pyIter (Value.ref _)) (fun _ _ => LoopAtV _ _ _ _ _ _ _ _ _ _ _) _ _); refine Stop.out ?_)
  k_with "InvEndN" => (refine Stop.out ?_)
  k_with "mine len" => ((try simp only [List.length_dropLast, List.length_append, List.length_cons, List.length_nil]); omega)
  k_with "call builtin:list.append" => (k_here; (with_reducible show wpAny _ _ (call (Value.builtin _) [Value.ref _, _]) _ _ _); k_dflt (refine' append_big (by k_asm) (by k_asm) (by k_upd) (by k_extra "mine len") ?_); walk_at "mine push3")
  k_with "call builtin:list.extend" => (k_here; (with_reducible show wpAny _ _ (call (Value.builtin _) [Value.ref _, Value.ref _]) _ _ _); k_dflt (refine' extend_big (by k_asm) (by k_asm) (by k_mem) (by first | decide | (simp; done)) (by k_upd) (by k_extra "mine len") (by first | decide | (simp; done) | (simp; omega)) ?_); walk_at "mine push3")
  k_with "binaryOp Add ref ref" => (k_here; (with_reducible show wpAny _ _ (binaryOp _ (Value.ref _) (Value.ref _)) _ _ _); k_dflt (refine' kmk_add_ints (by k_asm) (by k_asm) (by is_list) (by is_list) (by l_ints) (by l_ints) ?_ (by (rw [sizeLine_eq]; simp; omega))); walk_at "mine new7")
  k_with "mine dec" => (first | assumption | decide | omega | (simp only [beq_iff_eq, bne_iff_ne, ne_eq, decide_eq_true_eq, Bool.not_eq_true, Decidable.not_not]; first | assumption | omega))
  k_with "ite" => (first | refine ite_no (by k_extra "mine dec") ?_ | refine ite_yes (by k_extra "mine dec") ?_)
  k_with "pyIter ref" => ((with_reducible show wpAny _ _ (pyIter (Value.ref _)) (fun _ _ => PairAt3 _ _ _ _ _ _ _ _ _ _ _ _) _ _); refine Stop.out ?_)
  trivial

set_option maxHeartbeats 4000000 in
theorem c_pieces {l : Addr} {vs : List Value} {ns : List Int} (hl : s.heap.IsList l vs.toArray) (hi : IntsAre vs ns) (hbl : ns.length ≤ 100) (H : Here w dp un gd fs base mean mg mb s.heap) (hroom : dp + 1 < recursionLimit)
    (hun : un + 1000 < cLine) :
    Does w dp un gd fs s 73 [.ref l] (NewList s.heap (fun vs => StrsAre vs ((piecesT ns).map Tk.str))) := by
  have hroom' : dp < recursionLimit := by omega
  intro Q E hq
  have hKK := H.kx
  revert hKK; k_fill; intro hKK
  clear hKK
  refine wpAny_call ?_
  refine enter (binds := [(Str.ofString "numbers", .ref l)]) H (by rfl) (by rfl) hroom' (BindsTo.of_eq rfl) (locs rfl) ?_ rfl rfl rfl (by decide)
  intro g' L' h' hg' F' N' B' X' T'
  subst hg'
  dsimp only
  refine gen_postQ fun Pf hPf => ?_
  k_steps
  refine Stop.mk ?_
  rename_i _ pl _ _ _ _ _ _ _ _ _ _ S
  refine (PairSrcL.at S _ rfl) _ _ _ _ (fun i m nx => ∃ us n p, nx = [(pl, W.listOf (List.toArray us) n)] ∧ StrsAre us (p.1.map Tk.str) ∧ goP i (ns.drop i) p = goP 0 ns ([], 0) ∧ p.1.length ≤ 4 * i ∧ p.2 ≤ i ∧ m (Str.ofString "pieces") = some (.ref pl) ∧ ∃ t, m (Str.ofString "still") = some (.int (p.2 : Int) t)) ⟨[], 0, ([], 0), rfl, .nil, rfl, Nat.le_refl _, Nat.le_refl _, rfl, _, rfl⟩ ?_ ?_
  · rintro i a t v m₁ _ s₁ own ⟨h, tk, rfl⟩ hia hK ⟨us, n, p, rfl, hus, hgo, hlen, hst, hm1, ts, hm2⟩ hadr hown F₁ N₁
    obtain ⟨t', rfl⟩ := ItemKind.int_is hK
    rw [known2 hm1 hm2] at F₁
    have N₂ := own_swap N₁
    clear N₁ hm1 hm2 hK
    simp only [List.cons_append, List.nil_append] at N₂
    have hoff : OwnOff own [pl] := fun p hp b hb => by rw [List.mem_singleton.mp hb]; exact hown p hp _ (.head _)
    have hi100 : i < ns.length := (List.getElem?_eq_some_iff.mp hia).1
    have hul : us.length ≤ 1000 := by rw [hus.len_eq, List.length_map]; omega
    rw [List.drop_eq_getElem_cons hi100] at hgo
    simp only [goP] at hgo
    have hsome : ns[i] = a := (List.getElem?_eq_some_iff.mp hia).2
    rw [hsome] at hgo
    have h6 := fmod_range (a.fdiv 10) 6 (by decide)
    have h10 := fmod_range a 10 (by decide)
    have hdig := dig_item h10
    refine gen_post fun P P' hP => ?_
    cases i with
    | zero =>
      by_cases hq1 : (a.fdiv 60).fmod 3 = 1
      · rw [stepP_1 hq1, if_pos rfl] at hgo
        k_steps
        refine hP _ _ ?_
        k_steps
        refine Stop.mk ?_
        refine step3_one (D := pl) (by assumption) (by assumption) (by with_unfolding_all k_memK) (by intro p hp; k_ownIn) rfl ⟨_, _, _, rfl, ?_, hgo, ?_, ?_, rfl, ?_⟩
        · simp only [List.map_append, List.map_cons, List.map_nil, Tk.str, ← hdig]
          repeat (first | assumption | refine strsAre_snoc ?_ _ _)
        · simp only [List.length_append, List.length_cons, List.length_nil]; omega
        · (try dsimp only); omega
        · exact ⟨_, Eq.trans (b := some (Value.int ((p.2 : Int) + 1) _)) (by with_unfolding_all rfl) (still_eq (by (try dsimp only); omega))⟩
      · by_cases hq2 : (a.fdiv 60).fmod 3 = 2 ∧ 0 < p.2
        · obtain ⟨hq3, hq4⟩ := hq2
          omega
        · skip
          rw [stepP_3 hq1 hq2, if_pos rfl] at hgo
          k_steps
          all_goals (
            refine hP _ _ ?_
            k_steps
            refine Stop.mk ?_
            refine step3_one (D := pl) (by assumption) (by assumption) (by with_unfolding_all k_memK) (by intro p hp; k_ownIn) rfl ⟨_, _, _, rfl, ?_, hgo, ?_, ?_, rfl, ?_⟩
            · simp only [List.map_append, List.map_cons, List.map_nil, Tk.str, ← hdig]
              repeat (first | assumption | refine strsAre_snoc ?_ _ _)
            · simp only [List.length_append, List.length_cons, List.length_nil]; omega
            · (try dsimp only); omega
            · exact ⟨_, by with_unfolding_all rfl⟩)
    | succ i =>
      by_cases hq1 : (a.fdiv 60).fmod 3 = 1
      · rw [stepP_1 hq1, if_neg (Nat.succ_ne_zero _)] at hgo
        k_steps
        refine hP _ _ ?_
        k_steps
        refine Stop.mk ?_
        refine step3_one (D := pl) (by assumption) (by assumption) (by with_unfolding_all k_memK) (by intro p hp; k_ownIn) rfl ⟨_, _, _, rfl, ?_, hgo, ?_, ?_, rfl, ?_⟩
        · simp only [List.map_append, List.map_cons, List.map_nil, Tk.str, ← hdig]
          repeat (first | assumption | refine strsAre_snoc ?_ _ _)
        · simp only [List.length_append, List.length_cons, List.length_nil]; omega
        · (try dsimp only); omega
        · exact ⟨_, Eq.trans (b := some (Value.int ((p.2 : Int) + 1) _)) (by with_unfolding_all rfl) (still_eq (by (try dsimp only); omega))⟩
      · by_cases hq2 : (a.fdiv 60).fmod 3 = 2 ∧ 0 < p.2
        · obtain ⟨hq3, hq4⟩ := hq2
          rw [stepP_2 hq3 hq4, if_neg (Nat.succ_ne_zero _)] at hgo
          k_steps
          refine hP _ _ ?_
          k_steps
          refine Stop.mk ?_
          refine step3_one (D := pl) (by assumption) (by assumption) (by with_unfolding_all k_memK) (by intro p hp; k_ownIn) rfl ⟨_, _, _, rfl, ?_, hgo, ?_, ?_, rfl, ?_⟩
          · simp only [List.map_append, List.map_cons, List.map_nil, Tk.str, ← hdig]
            repeat (first | assumption | refine strsAre_snoc ?_ _ _)
          · simp only [List.length_append, List.length_cons, List.length_nil]; omega
          · (try dsimp only); omega
          · exact ⟨_, Eq.trans (b := some (Value.int ((p.2 : Int) - 1) _)) (by with_unfolding_all rfl) (still_eq (by (try dsimp only); omega))⟩
        · skip
          rw [stepP_3 hq1 hq2, if_neg (Nat.succ_ne_zero _)] at hgo
          k_steps
          all_goals (
            refine hP _ _ ?_
            k_steps
            refine Stop.mk ?_
            refine step3_one (D := pl) (by assumption) (by assumption) (by with_unfolding_all k_memK) (by intro p hp; k_ownIn) rfl ⟨_, _, _, rfl, ?_, hgo, ?_, ?_, rfl, ?_⟩
            · simp only [List.map_append, List.map_cons, List.map_nil, Tk.str, ← hdig]
              repeat (first | assumption | refine strsAre_snoc ?_ _ _)
            · simp only [List.length_append, List.length_cons, List.length_nil]; omega
            · (try dsimp only); omega
            · exact ⟨_, by with_unfolding_all rfl⟩)
  · rintro h tk m₁ _ F₁ N₁ hadr ⟨us, n, p, rfl, hus, hgo, hlen, hst, hm1, ts, hm2⟩
    rw [known2 hm1 hm2] at F₁
    rw [List.drop_length, goP] at hgo
    have hpT : piecesT ns = p.1 ++ List.replicate p.2 .rp := by rw [piecesT, ← hgo]
    have hul : us.length ≤ 1000 := by rw [hus.len_eq, List.length_map]; omega
    have hp100 : p.2 ≤ 100 := by omega
    k_steps
    all_goals (refine hPf _ _ ?_; dsimp only)
    all_goals (refine hq _ _ _ (Fr.keep (by assumption)) (newList_end (by assumption) (by assumption) (.head _) ?_); rw [hpT, List.map_append, List.map_replicate]; exact strsAre_append hus (strs_rep _ _ _))
end
end

/- part CE -/
section
open PySem PySem.W PySem.Calls PyProof.Rows
section
variable {prog : Program} {w : World} {A : Around} {E : Value → Shared → Prop} {s : Shared} {env : Env} {h₀ : Heap} {body : List Stmt} {Q : Flow → Shared → Prop}

/-- a turn's end: what the invariant names may have grown -/
def EndG (h₀ : Heap) (L : Addr) (own : List (Addr × Obj)) (J : (Str → Option Value) → List (Addr × Obj) → Prop) (s₁ : Shared) (Q : Flow → Shared → Prop) (f : Flow) (s₂ : Shared) : Prop :=
  match f with
  | .ret v => Q (.ret v) s₂
  | .brk => Q .next s₂
  | _ => ∃ h' tk m' nx news', s₂ = { s₁ with heap := h', toks := tk } ∧ Fr h₀ L h' m' ∧ News h₀ L h' news' ∧ (∀ p ∈ nx, p ∈ news') ∧ (∀ p ∈ own, p ∈ news') ∧ (∀ p ∈ nx, ∀ q ∈ own, p.1 ≠ q.1) ∧ J m' nx

theorem enum_grow {elts : List PySem.Expr} {k : Nat} {pos : Pos} {l : Addr} {vs : List Value} {m₀ : Str → Option Value} {news : List (Addr × Obj)} (J : Nat → (Str → Option Value) → List (Addr × Obj) → Prop)
    (hh : A.handled = none) (hl : h₀.IsList l vs.toArray) (F : Fr h₀ env.locals s.heap m₀) (N : News h₀ env.locals s.heap news) (hj : J 0 m₀ news)
    (turn : ∀ i v T t m₁ news₁ h tk own, vs[i]? = some v → J i m₁ news₁ → (∀ p ∈ news₁, ∀ q ∈ own, p.1 ≠ q.1) → IsTup h T #[.int ((i : Nat) : Int) t, v] → Fr h₀ env.locals h m₁ → News h₀ env.locals h (news₁ ++ own) →
      wpAny (model prog w) A (assign (.Tuple elts k pos) env (.ref T)) (fun _ s₃ => wpAny (model prog w) A (execs body env) (EndG h₀ env.locals own (J (i + 1)) { s with heap := h, toks := tk } Q) E s₃) E { s with heap := h, toks := tk })
    (done : ∀ h tk m₁ news₁, J vs.length m₁ news₁ → Fr h₀ env.locals h m₁ → News h₀ env.locals h news₁ → Q .next { s with heap := h, toks := tk }) :
    wpAny (model prog w) A (call (.type "enumerate") [.ref l]) (fun xv s₁ => wpAny (model prog w) A (pyIter xv) (fun it s₂ => TurnsAt prog w A h₀ env (.Tuple elts k pos) body Q E it s₂) E s₁) E s := by
  have hls : s.heap.IsList l vs.toArray := hl.at fun o e => F.keep l o e
  obtain ⟨ol, hol, _⟩ := id hl
  have hlt : l < s.heap.objs.size := by
    obtain ⟨o, ho, _⟩ := id hls
    exact Heap.lt_size ho
  have hl0 : l < h₀.objs.size := Heap.lt_size hol
  have hLs : env.locals < s.heap.objs.size := F.ns.lt
  refine call_enumerate_list hls fun h' hE hI hsz hk => ?_
  refine wpAny_pyIter_enum hE ?_
  have W := KTurns.ofWalksU (elts := elts) (k := k) (pos := pos) (WalksT.enumerate (prog := prog) (w := w) (A := A) hh (s.heap.objs.size + 1) s.heap.objs.size l (Nat.succ_ne_self _) (Nat.ne_of_lt (Nat.lt_succ_of_lt hlt)) (Nat.ne_of_lt hlt) vs.toArray).toU
  have hnew : ∀ b ∈ [s.heap.objs.size + 1, s.heap.objs.size], h₀.get? b = none := by
    intro b hb
    refine ktu_new F ?_
    rcases List.mem_cons.mp hb with rfl | hb
    · exact Nat.le_succ _
    · rw [List.mem_singleton.mp hb]; exact Nat.le_refl _
  refine ⟨_, _, [s.heap.objs.size + 1, s.heap.objs.size], _, _, _, _, m₀, news, J, rfl, W, ?_, hnew, ?_, ⟨⟨_, by simpa using hE⟩, hI, hls.at fun o e => hk l o e⟩, F.keeps hk, N.grown hk, hj, ?_, ?_⟩
  · intro hm
    have hb : env.locals = s.heap.objs.size + 1 ∨ env.locals = s.heap.objs.size ∨ env.locals = l := by simpa using hm
    rcases hb with e | e | e
    · exact absurd hLs (by rw [e]; exact Nat.not_lt.mpr (Nat.le_succ _))
    · exact absurd hLs (by rw [e]; exact Nat.lt_irrefl _)
    · exact absurd F.above (by rw [e]; exact Nat.not_le.mpr hl0)
  · intro p hp hm
    have hp' := Heap.lt_size (N p hp).1
    rcases List.mem_cons.mp hm with e | hm
    · rw [e] at hp'; exact absurd hp' (Nat.not_lt.mpr (Nat.le_succ _))
    · rw [List.mem_singleton.mp hm] at hp'; exact Nat.lt_irrefl _ hp'
  · rintro i v m₁ news₁ h₁ tk₁ own hin ⟨T, vals, rfl, ⟨t, x, hx, rfl⟩, hT⟩ hJ hoff hsub hget hall hst F₁ N₁
    have hown : ∀ q ∈ own, q.1 ∈ [s.heap.objs.size + 1, s.heap.objs.size] := by
      intro q hq
      have h3 : q.1 = s.heap.objs.size + 1 ∨ q.1 = s.heap.objs.size ∨ q.1 = l := by simpa using hsub q hq
      rcases h3 with e | e | e
      · simp [e]
      · simp [e]
      · have h4 := (N₁ q (List.mem_append_left _ hq)).2.2
        rw [e, hol] at h4
        cases h4
    have alive : ∀ b ∈ [s.heap.objs.size + 1, s.heap.objs.size], ∃ q ∈ own, q.1 = b := by
      intro b hb
      obtain ⟨⟨old, he⟩, ⟨oi, hoi, _⟩, _⟩ := hst
      rcases List.mem_cons.mp hb with rfl | hb
      · exact ⟨_, hall _ (by simp) (hnew _ (by simp)) _ he, rfl⟩
      · rw [List.mem_singleton.mp hb]
        exact ⟨_, hall _ (by simp) (hnew _ (by simp)) _ hoi, rfl⟩
    refine wpAny_mono (turn i x T t m₁ news₁ h₁ tk₁ own (by simpa using hx) hJ (fun p hp q hq e => hoff p hp (by rw [e]; exact hown q hq)) hT F₁ (own_swap N₁)) (fun _ s₃ z => wpAny_mono z (fun f s₄ y => ?_) fun _ _ e => e) fun _ _ e => e
    have fin : (∃ h' tk m' nx news', s₄ = { s with heap := h', toks := tk } ∧ Fr h₀ env.locals h' m' ∧ News h₀ env.locals h' news' ∧ (∀ p ∈ nx, p ∈ news') ∧ (∀ p ∈ own, p ∈ news') ∧ (∀ p ∈ nx, ∀ q ∈ own, p.1 ≠ q.1) ∧ J (i + 1) m' nx) →
        LoopStepU h₀ env.locals [s.heap.objs.size + 1, s.heap.objs.size] own (J (i + 1)) { s with heap := h₁, toks := tk₁ } .next s₄ := by
      rintro ⟨h2, tk2, m2, nx, news2, e, F2, N2, hn, ho, hd, hJ2⟩
      refine ⟨rfl, h2, tk2, m2, nx, e, F2, fun p hp => N2 p ((List.mem_append.mp hp).elim (ho p) (hn p)), fun p hp hb => ?_, hJ2⟩
      obtain ⟨q, hq, hqe⟩ := alive _ hb
      exact hd p hp q hq hqe.symm
    cases f with
    | ret v => exact .ret y
    | brk => exact .brk y
    | next => exact .next (fin y)
    | cont => exact .cont (fin y)
  · intro h2 tk2 m2 news2 F2 N2 _ hJ2
    exact done h2 tk2 m2 news2 (by simpa using hJ2) F2 N2
end
end

/- part CW0 -/
section
open PySem PySem.W PySem.Calls PyProof.Rows
/-- the scan for the last loosest operator outside brackets -/
def scan : Int → Nat → Option (Int × Nat) → List Tk → Option (Int × Nat)
  | _, _, b, [] => b
  | d, k, b, .lp :: r => scan (d + 1) (k + 1) b r
  | d, k, b, .rp :: r => scan (d - 1) (k + 1) b r
  | d, k, b, .dg _ :: r => scan d (k + 1) b r
  | d, k, b, .op i :: r => scan d (k + 1) (if d = 0 ∧ (∀ x, b = some x → rankN i ≤ x.1) then some (rankN i, k) else b) r
def bestRel (b : Option (Int × Nat)) (m : Str → Option Value) (nx : List (Addr × Obj)) : Prop := match b with
  | none => m (Str.ofString "best") = some .none ∧ nx = []
  | some p => ∃ a t t' n, m (Str.ofString "best") = some (.ref a) ∧ nx = [(a, W.listOf #[.int p.1 t, .int (p.2 : Int) t'] n)]
section
variable {prog : Program} {w : World} {A : Around} {E : Value → Shared → Prop} {s : Shared} {h₀ : Heap} {L D : Addr} {m : Str → Option Value} {news news' : List (Addr × Obj)} {n : Nat}
theorem isStr_at (k : Str) : ∀ {vs : List Value} {ys : List Str}, StrsAre vs ys → ∀ i (h : i < vs.length), isStrOf k vs[i] = (ys.getD i Str.empty == k)
  | _, _, .nil, i, h => absurd h (Nat.not_lt_zero _)
  | _, _, .cons y t r, 0, h => rfl
  | _, _, .cons y t r, i + 1, h => by simpa using isStr_at k r i (by simpa using h)
theorem sign_table : ∀ j i : Fin 6, (signsL.getD i.val Str.empty == signN j.val) = decide (i.val = j.val) := by decide +kernel
theorem index_sign {vs : List Value} {j : Nat} {t : Tok} {Q : Value → Shared → Prop} (N : News h₀ L s.heap news) (hm : (D, W.listOf (List.toArray vs) n) ∈ news) (hi : StrsAre vs signsL) (hj : j < 6)
    (h : Q (.int (j : Int) s.toks) { s with toks := s.toks + 1 }) : wpAny (model prog w) A (call (.builtin "list.index") [.ref D, .str (signN j) t]) Q E s := by
  have hlen : vs.length = 6 := hi.len_eq
  refine call_meets PySem.F.slot_list_index ⟨_, (N _ hm).1, rfl⟩ PySem.F.entry_list_index (PySem.F.args_list_index_2 _ _)
    (MeetsSeq.list_index D vs.toArray n (.str (signN j) t) (isStrOf (signN j)) (fun y hy => eq_isStrOf _ t hi y (by simpa using hy)) j (by simp; omega) (by omega) ?_ ?_) ⟨(N _ hm).1, h⟩
  · have e := isStr_at (signN j) hi j (by omega)
    have e2 := sign_table ⟨j, hj⟩ ⟨j, hj⟩
    simp only [List.getElem_toArray] at *
    rw [e, e2]; simp
  · intro i hi' hlt
    have e := isStr_at (signN j) hi i (by omega)
    have e2 := sign_table ⟨j, hj⟩ ⟨i, by omega⟩
    simp only [List.getElem_toArray] at *
    rw [e, e2]; simp; omega
theorem sign_in {j : Nat} (hj : j < 6) : signsL.any (· == signN j) = true := by
  match j, hj with
  | 0, _ | 1, _ | 2, _ | 3, _ | 4, _ | 5, _ => decide +kernel
theorem dig_notin {d : Nat} (hd : d < 10) : signsL.any (· == digN d) = false := by
  match d, hd with
  | 0, _ | 1, _ | 2, _ | 3, _ | 4, _ | 5, _ | 6, _ | 7, _ | 8, _ | 9, _ => decide +kernel
theorem sign_str {j : Nat} (hj : j < 6) : signN j ≠ Str.ofString "(" ∧ signN j ≠ Str.ofString ")" := by
  match j, hj with
  | 0, _ | 1, _ | 2, _ | 3, _ | 4, _ | 5, _ => decide +kernel
theorem dig_str {d : Nat} (hd : d < 10) : digN d ≠ Str.ofString "(" ∧ digN d ≠ Str.ofString ")" := by
  match d, hd with
  | 0, _ | 1, _ | 2, _ | 3, _ | 4, _ | 5, _ | 6, _ | 7, _ | 8, _ | 9, _ => decide +kernel
end
end

/- part PL0 -/
section
open PySem PySem.W PySem.Calls PyProof.Rows
/-- the automaton of well-formed token rows: (an operand is awaited, the depth) -/
def stepA : Bool × Nat → Tk → Option (Bool × Nat)
  | (true, d), .dg _ => some (false, d)
  | (true, d), .lp => some (true, d + 1)
  | (false, d), .op _ => some (true, d)
  | (false, d + 1), .rp => some (false, d)
  | _, _ => none
def runA : Bool × Nat → List Tk → Option (Bool × Nat)
  | q, [] => some q
  | q, t :: r => (stepA q t).bind fun q' => runA q' r
def WF (ts : List Tk) : Prop := runA (true, 0) ts = some (false, 0)
def cntD : List Tk → Nat
  | [] => 0
  | .dg _ :: r => cntD r + 1
  | _ :: r => cntD r
def worthF : Nat → List Tk → Int
  | 0, _ => 0
  | n + 1, ts => match scan 0 0 none ts with
    | some (_, k) => (match ts[k]? with
        | some (.op i) => madeI i (worthF n (ts.take k)) (worthF n (ts.drop (k + 1)))
        | _ => 0)
    | none => match ts with
      | .lp :: r => worthF n r.dropLast
      | .dg d :: _ => (d : Int)
      | _ => 0
def WorthOK (w : World) (n : Nat) : Prop := ∀ (dp un : Nat) (gd : Option (List Code)) (fs : List Env) (base : Heap) (mean : ExcName → Option Value) (mg mb : Str → Option Value) (s : Shared) (ts : List Tk) (l : Addr) (vs : List Value),
  s.heap.IsList l vs.toArray → StrsAre vs (ts.map Tk.str) → ts.length ≤ n → WF ts → (∀ t ∈ ts, t.fine) → cntD ts ≤ 7 → ts.length ≤ 50 → Here w dp un gd fs base mean mg mb s.heap → dp + n + 3 < recursionLimit → un + 3 * n + 1000 < cLine →
  Does w dp un gd fs s 80 [.ref l] (fun r _ => ∃ t, r = .int (worthF n ts) t)
end

/- part PL -/
section
open PySem PySem.W PySem.Calls PyProof.Rows
theorem runA_append : ∀ (q : Bool × Nat) (a b : List Tk), runA q (a ++ b) = (runA q a).bind fun q' => runA q' b
  | q, [], b => rfl
  | q, t :: a, b => by
    simp only [List.cons_append, runA]
    cases stepA q t with
    | none => rfl
    | some q' => exact runA_append q' a b
def dep : List Tk → Int
  | [] => 0
  | .lp :: r => dep r + 1
  | .rp :: r => dep r - 1
  | _ :: r => dep r
theorem dep_append : ∀ a b : List Tk, dep (a ++ b) = dep a + dep b
  | [], b => by simp [dep]
  | t :: a, b => by
    have := dep_append a b
    cases t <;> simp only [List.cons_append, dep] <;> omega
theorem runA_dep : ∀ {ts : List Tk} {b b' : Bool} {d d' : Nat}, runA (b, d) ts = some (b', d') → (d' : Int) = d + dep ts
  | [], b, b', d, d', h => by
    simp only [runA, Option.some.injEq, Prod.mk.injEq] at h
    simp only [dep]; omega
  | t :: r, b, b', d, d', h => by
    simp only [runA] at h
    cases t with
    | lp =>
      cases b with
      | true => have := runA_dep (by simpa [stepA] using h : runA (true, d + 1) r = some (b', d')); simp only [dep]; omega
      | false => simp [stepA] at h
    | rp =>
      cases b with
      | true => simp [stepA] at h
      | false =>
        cases d with
        | zero => simp [stepA] at h
        | succ d => have := runA_dep (by simpa [stepA] using h : runA (false, d) r = some (b', d')); simp only [dep]; omega
    | op i =>
      cases b with
      | true => simp [stepA] at h
      | false => have := runA_dep (by simpa [stepA] using h : runA (true, d) r = some (b', d')); simp only [dep]; omega
    | dg e =>
      cases b with
      | true => have := runA_dep (by simpa [stepA] using h : runA (false, d) r = some (b', d')); simp only [dep]; omega
      | false => simp [stepA] at h
/-- the ranks of the operators outside brackets -/
def outs : Int → List Tk → List Int
  | _, [] => []
  | d, .lp :: r => outs (d + 1) r
  | d, .rp :: r => outs (d - 1) r
  | d, .dg _ :: r => outs d r
  | d, .op i :: r => if d = 0 then rankN i :: outs d r else outs d r
theorem outs_append : ∀ (d : Int) (a b : List Tk), outs d (a ++ b) = outs d a ++ outs (d + dep a) b
  | d, [], b => by simp [outs, dep]
  | d, t :: a, b => by
    cases t with
    | lp => simp only [List.cons_append, outs, dep]; rw [outs_append (d + 1) a b]; congr 2; omega
    | rp => simp only [List.cons_append, outs, dep]; rw [outs_append (d - 1) a b]; congr 2; omega
    | dg e => simp only [List.cons_append, outs, dep]; rw [outs_append d a b]
    | op i =>
      simp only [List.cons_append, outs, dep]
      rw [outs_append d a b]
      split <;> simp
/-- what the scan finds -/
theorem scan_spec : ∀ (ts : List Tk) (d : Int) (k : Nat) (b : Option (Int × Nat)),
    (scan d k b ts = b ∧ (∀ r ∈ outs d ts, ∃ x, b = some x ∧ x.1 < r)) ∨
    (∃ L i R, ts = L ++ .op i :: R ∧ d + dep L = 0 ∧ scan d k b ts = some (rankN i, k + L.length) ∧ (∀ r ∈ outs d L, rankN i ≤ r) ∧ (∀ r ∈ outs 0 R, rankN i < r) ∧ (∀ x, b = some x → rankN i ≤ x.1))
  | [], d, k, b => .inl ⟨rfl, by simp [outs]⟩
  | .lp :: r, d, k, b => by
    rcases scan_spec r (d + 1) (k + 1) b with ⟨h1, h2⟩ | ⟨L, i, R, h1, h2, h3, h4, h5, h6⟩
    · exact .inl ⟨h1, h2⟩
    · refine .inr ⟨.lp :: L, i, R, by rw [h1]; rfl, by simp only [dep]; omega, ?_, h4, h5, h6⟩
      simp only [scan, h3, List.length_cons]; congr 2; omega
  | .rp :: r, d, k, b => by
    rcases scan_spec r (d - 1) (k + 1) b with ⟨h1, h2⟩ | ⟨L, i, R, h1, h2, h3, h4, h5, h6⟩
    · exact .inl ⟨h1, h2⟩
    · refine .inr ⟨.rp :: L, i, R, by rw [h1]; rfl, by simp only [dep]; omega, ?_, h4, h5, h6⟩
      simp only [scan, h3, List.length_cons]; congr 2; omega
  | .dg e :: r, d, k, b => by
    rcases scan_spec r d (k + 1) b with ⟨h1, h2⟩ | ⟨L, i, R, h1, h2, h3, h4, h5, h6⟩
    · exact .inl ⟨h1, h2⟩
    · refine .inr ⟨.dg e :: L, i, R, by rw [h1]; rfl, by simp only [dep]; omega, ?_, h4, h5, h6⟩
      simp only [scan, h3, List.length_cons]; congr 2; omega
  | .op j :: r, d, k, b => by
    by_cases hd : d = 0
    · subst hd
      by_cases hc : ∀ x, b = some x → rankN j ≤ x.1
      · have e : scan 0 k b (.op j :: r) = scan 0 (k + 1) (some (rankN j, k)) r := by simp only [scan]; rw [if_pos ⟨trivial, hc⟩]
        rcases scan_spec r 0 (k + 1) (some (rankN j, k)) with ⟨h1, h2⟩ | ⟨L, i, R, h1, h2, h3, h4, h5, h6⟩
        · refine .inr ⟨[], j, r, rfl, rfl, by rw [e, h1]; rfl, by simp [outs], fun x hx => ?_, hc⟩
          obtain ⟨y, hy, hlt⟩ := h2 x hx
          obtain rfl := Option.some.inj hy
          exact hlt
        · have h7 := h6 _ rfl
          refine .inr ⟨.op j :: L, i, R, by rw [h1]; rfl, h2, ?_, ?_, h5, fun x hx => Int.le_trans h7 (hc x hx)⟩
          · rw [e, h3, List.length_cons]; congr 2; omega
          · intro x hx
            simp only [outs, if_true, List.mem_cons] at hx
            rcases hx with rfl | hx
            · exact h7
            · exact h4 x hx
      · have e : scan 0 k b (.op j :: r) = scan 0 (k + 1) b r := by simp only [scan]; rw [if_neg (fun h => hc h.2)]
        have hx0 : ∃ x, b = some x ∧ x.1 < rankN j := by
          cases b with
          | none => exact absurd (by intro x hx; cases hx) hc
          | some x => exact ⟨x, rfl, Int.not_le.mp fun h => hc (by intro y hy; rw [← Option.some.inj hy]; exact h)⟩
        rcases scan_spec r 0 (k + 1) b with ⟨h1, h2⟩ | ⟨L, i, R, h1, h2, h3, h4, h5, h6⟩
        · refine .inl ⟨by rw [e, h1], fun x hx => ?_⟩
          simp only [outs, if_true, List.mem_cons] at hx
          rcases hx with rfl | hx
          · exact hx0
          · exact h2 x hx
        · refine .inr ⟨.op j :: L, i, R, by rw [h1]; rfl, h2, ?_, ?_, h5, h6⟩
          · rw [e, h3, List.length_cons]; congr 2; omega
          · intro x hx
            simp only [outs, if_true, List.mem_cons] at hx
            rcases hx with rfl | hx
            · obtain ⟨y, hy, hlt⟩ := hx0
              exact Int.le_trans (h6 y hy) (Int.le_of_lt hlt)
            · exact h4 x hx
    · have e : scan d k b (.op j :: r) = scan d (k + 1) b r := by simp only [scan]; rw [if_neg (fun h => hd h.1)]
      have eo : ∀ r', outs d (.op j :: r') = outs d r' := fun r' => by simp only [outs]; rw [if_neg hd]
      rcases scan_spec r d (k + 1) b with ⟨h1, h2⟩ | ⟨L, i, R, h1, h2, h3, h4, h5, h6⟩
      · exact .inl ⟨by rw [e, h1], by rw [eo]; exact h2⟩
      · refine .inr ⟨.op j :: L, i, R, by rw [h1]; rfl, h2, ?_, by rw [eo]; exact h4, h5, h6⟩
        rw [e, h3, List.length_cons]; congr 2; omega
theorem wf_split {L R : List Tk} {i : Nat} (h : WF (L ++ .op i :: R)) (hd : dep L = 0) : WF L ∧ WF R := by
  unfold WF at h
  rw [runA_append] at h
  cases hq : runA (true, 0) L with
  | none => rw [hq] at h; cases h
  | some q =>
    obtain ⟨b, d⟩ := q
    rw [hq] at h
    have h2 := runA_dep hq
    have hd0 : d = 0 := by omega
    subst hd0
    cases b with
    | true => simp [runA, stepA] at h
    | false => exact ⟨hq, by simpa [runA, stepA, WF] using h⟩
theorem scan_split {ts : List Tk} {p : Int × Nat} (h : WF ts) (hs : scan 0 0 none ts = some p) :
    ∃ L j R, ts = L ++ .op j :: R ∧ p = (rankN j, L.length) ∧ WF L ∧ WF R ∧ (∀ r ∈ outs 0 L, rankN j ≤ r) ∧ (∀ r ∈ outs 0 R, rankN j < r) := by
  rcases scan_spec ts 0 0 none with ⟨h1, _⟩ | ⟨L, i, R, h1, h2, h3, h4, h5, _⟩
  · rw [h1] at hs; cases hs
  · rw [hs] at h3
    subst h1
    obtain ⟨hL, hR⟩ := wf_split h (by omega)
    exact ⟨L, i, R, rfl, by rw [Option.some.inj h3]; simp, hL, hR, h4, h5⟩
theorem scan_some {ts : List Tk} {p : Int × Nat} (h : WF ts) (hs : scan 0 0 none ts = some p) : ∃ j, ts[p.2]? = some (.op j) ∧ WF (ts.take p.2) ∧ WF (ts.drop (p.2 + 1)) := by
  obtain ⟨L, j, R, rfl, rfl, hL, hR, _, _⟩ := scan_split h hs
  exact ⟨j, by simp, by simpa using hL, by simpa using hR⟩
theorem end_of {r : List Tk} (h : runA (false, 0) r = some (false, 0)) (ho : outs 0 r = []) : r = [] := by
  cases r with
  | nil => rfl
  | cons t r =>
    cases t with
    | op i => simp [outs] at ho
    | lp => simp [runA, stepA] at h
    | rp => simp [runA, stepA] at h
    | dg e => simp [runA, stepA] at h
theorem paren_of : ∀ {r : List Tk} {b : Bool} {d : Nat}, runA (b, d + 1) r = some (false, 0) → outs ((d : Int) + 1) r = [] → ∃ M, r = M ++ [.rp] ∧ runA (b, d) M = some (false, 0)
  | [], b, d, h, _ => by simp [runA] at h
  | .lp :: r, b, d, h, ho => by
    cases b with
    | false => simp [runA, stepA] at h
    | true =>
      have h' : runA (true, (d + 1) + 1) r = some (false, 0) := by simpa [runA, stepA] using h
      obtain ⟨M, rfl, hM⟩ := paren_of h' (by simpa [outs] using ho)
      exact ⟨.lp :: M, rfl, by simpa [runA, stepA] using hM⟩
  | .dg e :: r, b, d, h, ho => by
    cases b with
    | false => simp [runA, stepA] at h
    | true =>
      have h' : runA (false, d + 1) r = some (false, 0) := by simpa [runA, stepA] using h
      obtain ⟨M, rfl, hM⟩ := paren_of h' (by simpa [outs] using ho)
      exact ⟨.dg e :: M, rfl, by simpa [runA, stepA] using hM⟩
  | .op i :: r, b, d, h, ho => by
    cases b with
    | true => simp [runA, stepA] at h
    | false =>
      have h' : runA (true, d + 1) r = some (false, 0) := by simpa [runA, stepA] using h
      obtain ⟨M, rfl, hM⟩ := paren_of h' (by
        simp only [outs] at ho
        rwa [if_neg (by omega)] at ho)
      exact ⟨.op i :: M, rfl, by simpa [runA, stepA] using hM⟩
  | .rp :: r, b, d, h, ho => by
    cases b with
    | true => simp [runA, stepA] at h
    | false =>
      have h' : runA (false, d) r = some (false, 0) := by simpa [runA, stepA] using h
      have ho' : outs (d : Int) r = [] := by simpa [outs] using ho
      cases d with
      | zero => exact ⟨[], by rw [end_of h' ho']; rfl, rfl⟩
      | succ d =>
        obtain ⟨M, rfl, hM⟩ := paren_of h' (by simpa using ho')
        exact ⟨.rp :: M, rfl, by simpa [runA, stepA] using hM⟩
theorem atom_of {ts : List Tk} (h : WF ts) (ho : outs 0 ts = []) : (∃ d, ts = [.dg d]) ∨ ∃ M, ts = .lp :: (M ++ [.rp]) ∧ WF M := by
  unfold WF at h
  cases ts with
  | nil => simp [runA] at h
  | cons t r =>
    cases t with
    | op i => simp [runA, stepA] at h
    | rp => simp [runA, stepA] at h
    | dg e => exact .inl ⟨e, by rw [end_of (r := r) (by simpa [runA, stepA] using h) (by simpa [outs] using ho)]⟩
    | lp =>
      obtain ⟨M, rfl, hM⟩ := paren_of (d := 0) (by simpa [runA, stepA] using h) (by simpa [outs] using ho)
      exact .inr ⟨M, rfl, hM⟩
theorem scan_none {ts : List Tk} (h : WF ts) (hs : scan 0 0 none ts = none) : (∃ d, ts = [.dg d]) ∨ ∃ M, ts = .lp :: (M ++ [.rp]) ∧ WF M := by
  rcases scan_spec ts 0 0 none with ⟨_, h2⟩ | ⟨L, i, R, _, _, h3, _⟩
  · refine atom_of h (List.eq_nil_iff_forall_not_mem.mpr fun r hr => ?_)
    obtain ⟨x, hx, _⟩ := h2 r hr
    cases hx
  · rw [hs] at h3; cases h3
theorem cnt_append : ∀ a b : List Tk, cntD (a ++ b) = cntD a + cntD b
  | [], b => by simp [cntD]
  | t :: a, b => by
    have := cnt_append a b
    cases t <;> simp only [List.cons_append, cntD] <;> omega
theorem cnt_pos {ts : List Tk} (h : WF ts) : 0 < cntD ts := by
  have key : ∀ (ts : List Tk) (d d' : Nat), runA (true, d) ts = some (false, d') → 0 < cntD ts := by
    intro ts
    induction ts with
    | nil => intro d d' h; simp [runA] at h
    | cons t r ih =>
      intro d d' h
      cases t with
      | lp => exact ih _ _ (by simpa [runA, stepA] using h : runA (true, d + 1) r = some (false, d'))
      | rp => simp [runA, stepA] at h
      | op i => simp [runA, stepA] at h
      | dg e => simp [cntD]
  exact key ts 0 0 h
end

/- part PM -/
section
open PySem PySem.W PySem.Calls PyProof.Rows
theorem xor_nonneg (a b : Nat) : Builtin.bitXor (a : Int) (b : Int) = ((a ||| b : Nat) : Int) - ((a &&& b : Nat) : Int) := by
  have h1 : Builtin.bitAnd (a : Int) (b : Int) = ((a &&& b : Nat) : Int) := by
    unfold Builtin.bitAnd
    rw [decide_eq_true (Int.natCast_nonneg a), decide_eq_true (Int.natCast_nonneg b)]
    rfl
  have h2 : Builtin.bitOr (a : Int) (b : Int) = ((a ||| b : Nat) : Int) := by
    have ha : ¬ (0 ≤ Builtin.bitNot (a : Int)) := by unfold Builtin.bitNot; omega
    have hb : ¬ (0 ≤ Builtin.bitNot (b : Int)) := by unfold Builtin.bitNot; omega
    have ha2 : Builtin.bitNot (Builtin.bitNot (a : Int)) = a := by unfold Builtin.bitNot; omega
    have hb2 : Builtin.bitNot (Builtin.bitNot (b : Int)) = b := by unfold Builtin.bitNot; omega
    unfold Builtin.bitOr Builtin.bitAnd
    rw [decide_eq_false ha, decide_eq_false hb]
    simp only [ha2, hb2]
    show Builtin.bitNot (Builtin.bitNot ((a ||| b : Nat) : Int)) = _
    unfold Builtin.bitNot; omega
  unfold Builtin.bitXor
  rw [h1, h2]
theorem made_bd {i m k : Nat} {a b : Int} (hm : 0 < m) (hk : 0 < k) (ha : 0 ≤ a) (ha' : a < 16 ^ m) (hb : 0 ≤ b) (hb' : b < 16 ^ k) : 0 ≤ madeI i a b ∧ madeI i a b < 16 ^ (m + k) := by
  have hA : (16 : Int) ≤ 16 ^ m := by
    obtain ⟨m, rfl⟩ : ∃ m', m = m' + 1 := ⟨m - 1, by omega⟩
    have : (0 : Int) < 16 ^ m := Int.pow_pos (by decide)
    rw [Int.pow_succ]; omega
  have hB : (16 : Int) ≤ 16 ^ k := by
    obtain ⟨k, rfl⟩ : ∃ k', k = k' + 1 := ⟨k - 1, by omega⟩
    have : (0 : Int) < 16 ^ k := Int.pow_pos (by decide)
    rw [Int.pow_succ]; omega
  have hAB : (16 : Int) ^ (m + k) = 16 ^ m * 16 ^ k := Int.pow_add ..
  have h1 : (16 : Int) ^ m * 16 ≤ 16 ^ m * 16 ^ k := Int.mul_le_mul_of_nonneg_left hB (by omega)
  have h2 : (16 : Int) * 16 ^ k ≤ 16 ^ m * 16 ^ k := Int.mul_le_mul_of_nonneg_right hA (by omega)
  rw [hAB]
  generalize hMA : (16 : Int) ^ m = MA at *
  generalize hMB : (16 : Int) ^ k = MB at *
  generalize hP : MA * MB = P at *
  unfold madeI
  split
  · split <;> omega
  split
  · split <;> omega
  split
  · obtain ⟨x, rfl⟩ := Int.eq_ofNat_of_zero_le ha
    obtain ⟨y, rfl⟩ := Int.eq_ofNat_of_zero_le hb
    rw [xor_nonneg]
    have l1 : x &&& y ≤ x := Nat.and_le_left
    have l2 : x ≤ x ||| y := Nat.left_le_or
    have e : ((2 ^ (4 * (m + k)) : Nat) : Int) = P := by
      rw [Int.natCast_pow, Int.pow_mul]
      exact hAB
    have l3 : x ||| y < 2 ^ (4 * (m + k)) := by
      refine Nat.or_lt_two_pow ?_ ?_
      · generalize 2 ^ (4 * (m + k)) = N at *
        have : MA ≤ P := by omega
        omega
      · generalize 2 ^ (4 * (m + k)) = N at *
        have : MB ≤ P := by omega
        omega
    generalize 2 ^ (4 * (m + k)) = N at *
    omega
  split
  · have h3 : a.fdiv (b + 1) ≤ a := by
      rw [Int.fdiv_eq_ediv_of_nonneg _ (by omega)]
      exact Int.ediv_le_self _ ha
    have h4 : 0 ≤ a.fdiv (b + 1) := by
      rw [Int.fdiv_eq_ediv_of_nonneg _ (by omega)]
      exact Int.ediv_nonneg ha (by omega)
    omega
  split
  · omega
  · refine ⟨Int.mul_nonneg ha hb, ?_⟩
    have h3 : a * b ≤ a * MB := Int.mul_le_mul_of_nonneg_left (by omega) ha
    have h4 : a * MB < MA * MB := Int.mul_lt_mul_of_pos_right ha' (by omega)
    omega
theorem worth_pow : ∀ {n : Nat} {ts : List Tk}, WF ts → (∀ t ∈ ts, t.fine) → ts.length ≤ n → 0 ≤ worthF n ts ∧ worthF n ts < 16 ^ cntD ts
  | 0, ts, h, _, hl => by
    obtain rfl := List.length_eq_zero_iff.mp (Nat.le_zero.mp hl)
    simp [WF, runA] at h
  | n + 1, ts, h, hf, hl => by
    cases hs : scan 0 0 none ts with
    | none =>
      rcases scan_none h hs with ⟨d, rfl⟩ | ⟨M, rfl, hM⟩
      · have hd : d < 10 := hf (.dg d) (.head _)
        simp only [worthF, hs, cntD]
        omega
      · have e : worthF (n + 1) (Tk.lp :: (M ++ [Tk.rp])) = worthF n M := by simp only [worthF, hs]; simp
        have ec : cntD (Tk.lp :: (M ++ [Tk.rp])) = cntD M := by
          rw [show Tk.lp :: (M ++ [Tk.rp]) = [Tk.lp] ++ M ++ [Tk.rp] by simp, cnt_append, cnt_append]; simp [cntD]
        rw [e, ec]
        exact worth_pow hM (fun t ht => hf t (by simp [ht])) (by simp at hl; omega)
    | some p =>
      obtain ⟨L, j, R, rfl, rfl, hL, hR, _, _⟩ := scan_split h hs
      have e : worthF (n + 1) (L ++ Tk.op j :: R) = madeI j (worthF n L) (worthF n R) := by simp only [worthF, hs]; simp
      have ec : cntD (L ++ Tk.op j :: R) = cntD L + cntD R := by rw [cnt_append]; rfl
      obtain ⟨l1, l2⟩ := worth_pow (n := n) hL (fun t ht => hf t (by simp [ht])) (by simp at hl; omega)
      obtain ⟨r1, r2⟩ := worth_pow (n := n) hR (fun t ht => hf t (by simp [ht])) (by simp at hl; omega)
      rw [e, ec]
      exact made_bd (cnt_pos hL) (cnt_pos hR) l1 l2 r1 r2
theorem worth_bd {n : Nat} {ts : List Tk} (h : WF ts) (hf : ∀ t ∈ ts, t.fine) (hl : ts.length ≤ n) (hc : cntD ts ≤ 7) : 0 ≤ worthF n ts ∧ worthF n ts < 2 ^ 29 := by
  obtain ⟨h1, h2⟩ := worth_pow h hf hl
  refine ⟨h1, Int.lt_of_lt_of_le h2 ?_⟩
  have : (16 : Nat) ^ cntD ts ≤ 16 ^ 7 := Nat.pow_le_pow_right (by decide) hc
  have e : ((16 ^ cntD ts : Nat) : Int) = (16 : Int) ^ cntD ts := Int.natCast_pow ..
  rw [← e]
  generalize 16 ^ cntD ts = X at *
  omega
end

/- part KN -/
section
open PySem PySem.W PySem.Calls PyProof.Rows
theorem known3 {m : Str → Option Value} {x x' x'' : Str} {v v' v'' : Value} (h : m x = some v) (h' : m x' = some v') (h'' : m x'' = some v'') : m = fun y => if y = x then some v else if y = x' then some v' else if y = x'' then some v'' else m y := by
  funext y
  by_cases e : y = x
  · subst e; simp [h]
  · by_cases e' : y = x'
    · subst e'; simp [e, h']
    · by_cases e'' : y = x''
      · subst e''; simp [e, e', h'']
      · simp [e, e', e'']
section
variable {prog : Program} {w : World} {A : Around} {E : Value → Shared → Prop} {s : Shared}
theorem index_dig {e : Nat} {t u : Tok} {Q : Value → Shared → Prop} (he : e < 10) (h : Q (.int (e : Int) s.toks) { s with toks := s.toks + 1 }) :
    wpAny (model prog w) A (call (.builtin "str.index") [.str (Str.ofString "0123456789") t, .str (digN e) u]) Q E s := by
  refine SC.index (i := e) (rest := []) ?_ h
  match e, he with
  | 0, _ | 1, _ | 2, _ | 3, _ | 4, _ | 5, _ | 6, _ | 7, _ | 8, _ | 9, _ => decide +kernel
end
end

/- part CW -/
section
open PySem PySem.W PySem.Calls PyProof.Rows
theorem fresh_CW : True := by
  w_top off
  trivial

section
variable {w : World} {dp un : Nat} {gd : Option (List Code)} {fs : List Env} {base : Heap} {mean : ExcName → Option Value} {mg mb : Str → Option Value} {s : Shared}
theorem lines_CW : True := by
  k_with_none
  k_with "mine here" => (exact Here.next (by assumption) (by assumption) (by assumption) (by assumption) rfl rfl)
  k_with "binaryOp Mult ref int" => (k_here; (with_reducible show wpAny _ _ (binaryOp Operator.Mult (Value.ref _) (Value.int _ _)) _ _ _); k_dflt (refine' KMa.mul (by k_asm) (by k_asm) (by is_list) (by first | omega | decide) (by first | omega | decide) (by (simp only [List.length_cons, List.length_nil]; omega)) (by exact rfl) ?_; k_whole); walk_at "mine new5")
  k_with "binaryOp Add ref ref" => (k_here; (with_reducible show wpAny _ _ (binaryOp _ (Value.ref _) (Value.ref _)) _ _ _); k_dflt (refine' add_any (by k_asm) (by k_asm) (by is_list) (by is_list) (by omega) (by (simp; omega)) ?_); walk_at "mine new5")
  k_with "call ref" => (k_here; (with_reducible show wpAny _ _ (call (Value.ref 45) _) _ _ _); (refine use_list (by assumption) (by assumption) (c_signs (by k_extra "mine here") (by omega)) ?_; walk_at "mine lst"))
  k_with "subscriptTail" => (k_here; (with_reducible show wpAny _ _ (subscriptTail _ _ (Value.ref _) (Value.int _ _)) _ _ _); (with_unfolding_all refine' item_strs (by is_list) (by with_reducible assumption) (by omega) (by (simp only [signsL, List.length_cons, List.length_nil]; omega)) (by decide) ?_ (by with_unfolding_all rfl); k_whole); intro _)
  k_with "call ref" => (k_here; (with_reducible show wpAny _ _ (call (Value.ref 52) _) _ _ _); (refine use (by assumption) (by assumption) (c_rank _ (by assumption) _ (by k_extra "mine here") (by omega)) ?_; intro _ _ _ _ _ k' p'; obtain ⟨_, p'⟩ := p'; subst p'; clear k'; k_sweep))
  k_with "mine len" => ((try simp only [List.length_dropLast, List.length_append, List.length_cons, List.length_nil]); omega)
  k_with "call builtin:list.append" => (k_here; (with_reducible show wpAny _ _ (call (Value.builtin _) [Value.ref _, _]) _ _ _); k_dflt (refine' append_big (by k_asm) (by k_asm) (by k_upd) (by k_extra "mine len") ?_); walk_at "mine push3")
  k_with "mine dec" => (first | assumption | decide | omega | (simp only [beq_iff_eq, bne_iff_ne, ne_eq, decide_eq_true_eq, Bool.not_eq_true, Decidable.not_not]; first | assumption | omega))
  k_with "ite" => (first | refine ite_no (by k_extra "mine dec") ?_ | refine ite_yes (by k_extra "mine dec") ?_)
  k_with "exec For Tuple Call" => (k_here; (with_reducible show wpAny _ _ (exec (Stmt.For (Expr.Tuple _ _ _) (Expr.Call (Expr.Name (Str.ofString "enumerate") _) _ _ _) _ _ _) _) _ _ _); walk_at "mine turns")
  k_with "call type:enumerate" => (k_here; refine Stop.out ?_)
  k_with "EndG" => (refine Stop.out ?_)
  k_with "compareOp In str ref" => (k_here; (with_reducible show wpAny _ _ (compareOp CmpOp.In (Value.str _ _) (Value.ref _)) _ _ _); (with_unfolding_all refine' in_list_strs (by exact News.isList (by k_asm) (by k_mem)) (by with_reducible assumption) ?_; k_whole); (first | rw [sign_in (by assumption)] | rw [dig_notin (by assumption)]))
  k_with "call builtin:list.index" => (k_here; (with_reducible show wpAny _ _ (call (Value.builtin _) [Value.ref _, Value.str (signN _) _]) _ _ _); k_dflt (refine' index_sign (by k_asm) (by k_mem) (by with_reducible assumption) (by assumption) ?_))
  k_with "subscriptTail Name Constant ref int" => (k_here; (with_reducible show wpAny _ _ (subscriptTail _ _ (Value.ref _) (Value.int _ _)) _ _ _); (with_unfolding_all refine' item_tok (by is_list) (by with_reducible assumption) (by omega) (by omega) (by first | assumption | exact rfl) ?_ (by with_unfolding_all rfl); k_whole); intro _; (try simp only [Tk.str]))
  k_with "subscriptTail Name Constant ref int" => (k_here; (with_reducible show wpAny _ _ (subscriptTail _ _ (Value.ref _) (Value.int _ _)) _ _ _); (with_unfolding_all refine' item_lit (by exact News.isList (by k_asm) (by k_mem)) (by first | decide | omega) (by first | omega | decide) (by exact rfl) ?_ (by with_unfolding_all rfl); k_whole))
  k_with "subscriptTail Name Name ref int" => (k_here; (with_reducible show wpAny _ _ (subscriptTail _ _ (Value.ref _) (Value.int _ _)) _ _ _); (with_unfolding_all refine' item_tok (by is_list) (by with_reducible assumption) (by omega) (by omega) (by first | assumption | exact rfl) ?_ (by with_unfolding_all rfl); k_whole); intro _; (try simp only [Tk.str]))
  k_with "subscriptTail Name Slice ref ref" => (k_here; (with_reducible show wpAny _ _ (subscriptTail _ (PySem.Expr.Slice _ _ none _) (Value.ref _) (Value.ref _)) _ _ _); k_dflt (refine' kmk_slice_lit (by k_asm) (by k_asm) (by is_list) (by kmk_part) (by kmk_part) (by first | exact pick_mid _ | exact pick_upto _ _ | exact pick_from1 _ _) ?_ (by with_unfolding_all rfl) (by kmk_pure) (by (rw [sizeLine_eq, List.size_toArray]; omega))); walk_at "mine new5")
  k_with "call builtin:str.index" => (k_here; (with_reducible show wpAny _ _ (call (Value.builtin _) [Value.str _ _, Value.str (digN _) _]) _ _ _); refine index_dig (by assumption) ?_)
  k_with "call ref" => (k_here; (with_reducible show wpAny _ _ (call (Value.ref 80) _) _ _ _); rename WorthOK _ _ => ih'; (refine use (by assumption) (by assumption) (ih' _ _ _ _ _ _ _ _ _ _ _ _ (by is_list) (by assumption) (by assumption) (by assumption) (by assumption) (by assumption) (by assumption) (by k_extra "mine here") (by omega) (by omega)) ?_); intro _ _ _ _ _ k' p'; obtain ⟨_, p'⟩ := p'; subst p'; clear k'; k_sweep)
  k_with "call ref" => (k_here; (with_reducible show wpAny _ _ (call (Value.ref 66) _) _ _ _); (refine use (by assumption) (by assumption) (made_at (by assumption) rfl rfl (by assumption) (by assumption) (by assumption) (by assumption) (by k_extra "mine here") (by omega)) ?_); intro _ _ _ _ _ k' p'; obtain ⟨_, p'⟩ := p'; subst p'; clear k'; k_sweep)
  trivial


theorem bestRel_congr {b : Option (Int × Nat)} {m m' : Str → Option Value} {nx : List (Addr × Obj)} (h : bestRel b m nx) (e : m' (Str.ofString "best") = m (Str.ofString "best")) : bestRel b m' nx := by
  cases b with
  | none => exact ⟨e.trans h.1, h.2⟩
  | some p => obtain ⟨a, t, t', n, h1, h2⟩ := h; exact ⟨a, t, t', n, e.trans h1, h2⟩
theorem bestRel_val {b : Option (Int × Nat)} {m : Str → Option Value} {nx : List (Addr × Obj)} (h : bestRel b m nx) : ∃ bv, m (Str.ofString "best") = some bv := by
  cases b with
  | none => exact ⟨_, h.1⟩
  | some p => obtain ⟨a, t, t', n, h1, h2⟩ := h; exact ⟨_, h1⟩
theorem endG_next {h₀ h' : Heap} {L : Addr} {own nx news' : List (Addr × Obj)} {J : (Str → Option Value) → List (Addr × Obj) → Prop} {s₁ : Shared} {tk : Nat} {m' : Str → Option Value} {Q : Flow → Shared → Prop} (F : Fr h₀ L h' m') (N : News h₀ L h' news') (hn : ∀ p ∈ nx, p ∈ news') (ho : ∀ p ∈ own, p ∈ news') (hd : ∀ p ∈ nx, ∀ q ∈ own, p.1 ≠ q.1) (hj : J m' nx) : EndG h₀ L own J s₁ Q .next { s₁ with heap := h', toks := tk } :=
  ⟨h', tk, m', nx, news', rfl, F, N, hn, ho, hd, hj⟩
theorem allLt_ne {d : Nat} : ∀ {own : List (Addr × Obj)}, AllLt d own → ∀ q ∈ own, d ≠ q.1
  | [], _, _, h => nomatch h
  | _ :: _, h, q, hq => by
    rcases List.mem_cons.mp hq with rfl | hq
    · exact Nat.ne_of_gt h.1
    · exact allLt_ne h.2 q hq
theorem strs_at : ∀ {vs : List Value} {ys : List Str}, StrsAre vs ys → ∀ {i : Nat} {v : Value}, vs[i]? = some v → ∃ t, v = .str (ys.getD i Str.empty) t
  | _, _, .nil, i, v, h => by simp at h
  | _, _, .cons y t r, 0, v, h => ⟨t, by simpa using h.symm⟩
  | _, _, .cons y t r, i + 1, v, h => by simpa using strs_at r (i := i) (by simpa using h)


section
variable {prog : Program} {w : World} {A : Around} {E : Value → Shared → Prop} {s : Shared}
theorem item_lit {value slice : PySem.Expr} {l : Addr} {vs : List Value} {k : Int} {u : Tok} {v : Value} {Q : Value → Shared → Prop}
    (hl : s.heap.IsList l vs.toArray) (h0 : 0 ≤ k) (h1 : k < 2 ^ 63) (hx : vs[k.toNat]? = some v) (h : Q v s)
    (hs : subscripted slice false (.ref l) (.int k u) = operate [.ref l, .int k u] (getItem (.ref l) (.int k u)) := by with_unfolding_all rfl) :
    wpAny (model prog w) A (subscriptTail value slice (.ref l) (.int k u)) Q E s :=
  tail_any hl.typeIs slot_list_getitem.lookup (wpAny_getItem_list hl h0 h1 (by simpa using hx) h) hs
theorem strs_at2 {vs : List Value} {ts : List Tk} {i : Nat} {tok : Tk} (hi : StrsAre vs (ts.map Tk.str)) (h : ts[i]? = some tok) : ∃ t, vs[i]? = some (.str tok.str t) := by
  have hl : i < vs.length := by rw [hi.len_eq, List.length_map]; exact (List.getElem?_eq_some_iff.mp h).1
  obtain ⟨t, e⟩ := strs_at hi (List.getElem?_eq_getElem hl)
  refine ⟨t, ?_⟩
  rw [List.getElem?_eq_getElem hl, e]
  simp [h]
theorem item_tok {value slice : PySem.Expr} {l : Addr} {vs : List Value} {ts : List Tk} {tok : Tk} {k : Int} {u : Tok} {Q : Value → Shared → Prop}
    (hl : s.heap.IsList l vs.toArray) (hi : StrsAre vs (ts.map Tk.str)) (h0 : 0 ≤ k) (h1 : k < 2 ^ 63) (hx : ts[k.toNat]? = some tok) (h : ∀ t, Q (.str tok.str t) s)
    (hs : subscripted slice false (.ref l) (.int k u) = operate [.ref l, .int k u] (getItem (.ref l) (.int k u)) := by with_unfolding_all rfl) :
    wpAny (model prog w) A (subscriptTail value slice (.ref l) (.int k u)) Q E s := by
  obtain ⟨t, e⟩ := strs_at2 hi hx
  exact item_lit hl h0 h1 e (h t) hs
theorem pick_upto (vs : List Value) (k : Nat) : (slicePick vs.toArray none (some (k : Int)) none).toList = vs.take k := by
  rw [kmk_pick_nat (a := 0) (b := min k vs.length)]
  · rw [List.drop_zero, Nat.sub_zero]; exact kmk_take_min vs k
  · simp only [sliceBounds, Option.getD_none, show (1 : Int) > 0 by decide, if_true, if_neg (show ¬ ((k : Int) < 0) by omega), List.size_toArray]
    refine Prod.ext rfl (Prod.ext ?_ rfl)
    show max 0 (min (k : Int) vs.length) = ((min k vs.length : Nat) : Int)
    omega
theorem pick_from1 (vs : List Value) (k : Nat) : (slicePick vs.toArray (some ((k : Int) + 1)) none none).toList = vs.drop (k + 1) := by
  rw [kmk_pick_nat (a := min (k + 1) vs.length) (b := vs.length)]
  · show (vs.drop _).take _ = _
    rw [kmk_drop_min, List.take_of_length_le (by rw [List.length_drop]; omega)]
  · simp only [sliceBounds, Option.getD_none, show (1 : Int) > 0 by decide, if_true, if_neg (show ¬ ((k : Int) + 1 < 0) by omega), List.size_toArray]
    refine Prod.ext ?_ rfl
    show max 0 (min ((k : Int) + 1) vs.length) = ((min (k + 1) vs.length : Nat) : Int)
    omega
theorem pick_mid (vs : List Value) : (slicePick vs.toArray (some 1) (some (-1)) none).toList = (vs.drop 1).take (vs.length - 2) := by
  rw [kmk_pick_nat (a := min 1 vs.length) (b := vs.length - 1)]
  · show (vs.drop _).take _ = _
    rw [kmk_drop_min, show vs.length - 1 - min 1 vs.length = vs.length - 2 by omega]
  · simp only [sliceBounds, Option.getD_none, show (1 : Int) > 0 by decide, if_true, List.size_toArray]
    refine Prod.ext ?_ (Prod.ext ?_ rfl)
    · show max 0 (min (1 : Int) vs.length) = ((min 1 vs.length : Nat) : Int)
      omega
    · show max 0 (min (-1 + (vs.length : Int)) vs.length) = ((vs.length - 1 : Nat) : Int)
      omega
theorem strs_take : ∀ {vs : List Value} {ys : List Str}, StrsAre vs ys → ∀ k : Nat, StrsAre (vs.take k) (ys.take k)
  | _, _, .nil, k => by simp; exact .nil
  | _, _, .cons y t r, 0 => .nil
  | _, _, .cons y t r, k + 1 => .cons y t (strs_take r k)
end

set_option maxHeartbeats 4000000 in
theorem c_worth_loop (n : Nat) (IH : WorthOK w n) : WorthOK w (n + 1) := by
  intro dp un gd fs base mean mg mb s ts l vs hl hi hlen hwf hfine hcnt h50 H hroom2 hun
  have hroom : dp < recursionLimit := by omega
  intro Q E hq
  have hKK := H.kx
  revert hKK; k_fill; intro hKK
  clear hKK
  refine wpAny_call ?_
  refine enter (binds := [(Str.ofString "pieces", .ref l)]) H (by rfl) (by rfl) hroom (BindsTo.of_eq rfl) (locs rfl) ?_ rfl rfl rfl (by decide)
  intro g' L' h' hg' F' N' B' X' T'
  subst hg'
  dsimp only
  refine gen_postQ fun Pf hPf => ?_
  k_steps
  refine Stop.mk ?_
  rename Fr _ _ _ _ => F₁
  rename News _ _ _ _ => N₁
  refine enum_grow (fun i m nx => ∃ d b t, scan d i b (ts.drop i) = scan 0 0 none ts ∧ bestRel b m nx ∧ m (Str.ofString "deep") = some (.int d t) ∧ m (Str.ofString "pieces") = some (.ref l)) rfl hl F₁ N₁ ⟨0, none, _, rfl, ⟨rfl, rfl⟩, rfl, rfl⟩ ?_ ?_
  · clear F₁ N₁
    rintro i v T t m₁ news₁ h tk own hiv ⟨d, b, td, hscan, hbest, hm1, hm2⟩ hoff hT F₁ N₁
    have hilt : i < ts.length := by
      have h1 := (List.getElem?_eq_some_iff.mp hiv).1
      rwa [hi.len_eq, List.length_map] at h1
    obtain ⟨tv, rfl⟩ : ∃ tv, v = .str (ts[i].str) tv := by
      obtain ⟨tv, e⟩ := strs_at hi hiv
      refine ⟨tv, ?_⟩
      rw [e]
      simp [hilt]
    have hf := hfine ts[i] (List.getElem_mem hilt)
    rw [List.drop_eq_getElem_cons hilt] at hscan
    generalize ts[i] = tok at *
    obtain ⟨bv, hbv⟩ := bestRel_val hbest
    have hm := known3 hbv hm1 hm2
    rw [hm] at F₁
    clear hm
    refine gen_post fun P P' hP => ?_
    cases tok with
    | lp =>
      simp only [Tk.str] at *
      k_steps
      all_goals (
        refine hP _ _ ?_
        k_steps
        refine Stop.mk ?_
        refine endG_next (nx := news₁) (by assumption) (by assumption) (by intro p hp; simp [hp]) (by intro p hp; simp [hp]) hoff ⟨_, b, _, ?_, bestRel_congr hbest (by first | rfl | (rw [hbv]; rfl)), rfl, rfl⟩
        exact hscan)
    | rp =>
      simp only [Tk.str] at *
      k_steps
      all_goals (
        refine hP _ _ ?_
        k_steps
        refine Stop.mk ?_
        refine endG_next (nx := news₁) (by assumption) (by assumption) (by intro p hp; simp [hp]) (by intro p hp; simp [hp]) hoff ⟨_, b, _, ?_, bestRel_congr hbest (by first | rfl | (rw [hbv]; rfl)), rfl, rfl⟩
        exact hscan)
    | dg e =>
      simp only [Tk.str, Tk.fine] at *
      obtain ⟨hs1, hs2⟩ := dig_str hf
      by_cases hd : d = 0
      · subst hd
        k_steps
        all_goals (
          refine hP _ _ ?_
          k_steps
          refine Stop.mk ?_
          refine endG_next (nx := news₁) (by assumption) (by assumption) (by intro p hp; simp [hp]) (by intro p hp; simp [hp]) hoff ⟨_, b, _, ?_, bestRel_congr hbest (by first | rfl | (rw [hbv]; rfl)), rfl, rfl⟩
          exact hscan)
      · k_steps
        all_goals (
          refine hP _ _ ?_
          k_steps
          refine Stop.mk ?_
          refine endG_next (nx := news₁) (by assumption) (by assumption) (by intro p hp; simp [hp]) (by intro p hp; simp [hp]) hoff ⟨_, b, _, ?_, bestRel_congr hbest (by first | rfl | (rw [hbv]; rfl)), rfl, rfl⟩
          exact hscan)
    | op j =>
      simp only [Tk.str, Tk.fine] at *
      obtain ⟨hs1, hs2⟩ := sign_str hf
      by_cases hd : d = 0
      · subst hd
        cases b with
        | none =>
          obtain ⟨hb1, rfl⟩ := hbest
          have := hb1.symm.trans hbv
          obtain rfl := Option.some.inj this
          simp only [List.nil_append] at N₁
          k_steps
          refine hP _ _ ?_
          k_steps
          refine Stop.mk ?_
          rename_i lb _ _ _ _
          refine endG_next (nx := [(_, _)]) (by assumption) (by assumption) (by intro p hp; rw [List.mem_singleton.mp hp]; exact .head _) (by intro p hp; simp [hp]) ?_ ⟨_, some (rankN j, i), _, ?_, ⟨_, _, _, _, rfl, rfl⟩, rfl, rfl⟩
          · intro p hp
            rw [List.mem_singleton.mp hp]
            exact allLt_ne (by first | exact (‹_ ∧ _ ∧ AllLt _ _›).2.2 | assumption)
          · simpa [scan] using hscan
        | some p =>
          obtain ⟨a, t1, t2, n1, hb1, rfl⟩ := hbest
          have := hb1.symm.trans hbv
          obtain rfl := Option.some.inj this
          simp only [List.cons_append, List.nil_append] at N₁
          by_cases hr : rankN j ≤ p.1
          · k_steps
            refine hP _ _ ?_
            k_steps
            refine Stop.mk ?_
            refine endG_next (nx := [(_, _)]) (by assumption) (by assumption) (by intro p hp; rw [List.mem_singleton.mp hp]; exact .head _) (by intro p hp; simp [hp]) ?_ ⟨_, some (rankN j, i), _, ?_, ⟨_, _, _, _, rfl, rfl⟩, rfl, rfl⟩
            · intro p hp
              rw [List.mem_singleton.mp hp]
              exact allLt_ne (by first | exact (‹_ ∧ _ ∧ _ ∧ AllLt _ _›).2.2.2 | assumption)
            · simpa [scan, hr] using hscan
          · k_steps
            refine hP _ _ ?_
            k_steps
            refine Stop.mk ?_
            refine endG_next (nx := [(a, _)]) (by assumption) (by assumption) (by intro p hp; rw [List.mem_singleton.mp hp]; with_unfolding_all k_memK) (by intro p hp; simp [hp]) hoff ⟨_, some p, _, ?_, ⟨_, _, _, _, rfl, rfl⟩, rfl, rfl⟩
            simpa [scan, hr] using hscan
      · k_steps
        all_goals (
          refine hP _ _ ?_
          k_steps
          refine Stop.mk ?_
          refine endG_next (nx := news₁) (by assumption) (by assumption) (by intro p hp; simp [hp]) (by intro p hp; simp [hp]) hoff ⟨_, b, _, ?_, bestRel_congr hbest (by first | rfl | (rw [hbv]; rfl)), rfl, rfl⟩
          simpa [scan, hd] using hscan)
  · rintro h tk m₁ news₁ ⟨d, b, td, hscan, hbest, hm1, hm2⟩ F₁ N₁
    have hvl : vs.length = ts.length := by rw [hi.len_eq, List.length_map]
    rw [hvl, List.drop_length] at hscan
    have hscan' : b = scan 0 0 none ts := hscan
    clear hscan
    cases b with
    | none =>
      obtain ⟨hb1, rfl⟩ := hbest
      have hm := known3 hb1 hm1 hm2
      rw [hm] at F₁
      clear hm
      have hvl50 : vs.length ≤ 50 := by omega
      rcases scan_none hwf hscan'.symm with ⟨e, rfl⟩ | ⟨M, rfl, hM⟩
      · have he : e < 10 := hfine (.dg e) (.head _)
        obtain ⟨hs1, hs2⟩ := dig_str he
        have hw : worthF (n + 1) [.dg e] = (e : Int) := by simp only [worthF, ← hscan']
        k_steps
        all_goals (refine hPf _ _ ?_; dsimp only)
        all_goals exact hq _ _ _ (Fr.keep (by assumption)) ⟨_, by rw [hw]⟩
      · have hMs : StrsAre ((vs.drop 1).take (vs.length - 2)) (M.map Tk.str) := by
          have h1 := strs_take (StrsAre.drop' hi 1) (vs.length - 2)
          rw [hvl] at h1 ⊢
          simpa using h1
        have hMl : M.length ≤ n := by simp at hlen; omega
        have hMf : ∀ t ∈ M, t.fine := fun t ht => hfine t (by simp [ht])
        have hMc : cntD M ≤ 7 := by rw [show Tk.lp :: (M ++ [Tk.rp]) = [Tk.lp] ++ M ++ [Tk.rp] by simp, cnt_append, cnt_append] at hcnt; omega
        have hM50 : M.length ≤ 50 := by simp at h50; omega
        have hw : worthF (n + 1) (Tk.lp :: (M ++ [Tk.rp])) = worthF n M := by simp only [worthF, ← hscan']; simp
        k_steps

        all_goals (refine hPf _ _ ?_; dsimp only)
        all_goals exact hq _ _ _ (Fr.keep (by assumption)) ⟨_, by rw [hw]⟩
    | some p =>
      obtain ⟨a, t1, t2, n1, hb1, rfl⟩ := hbest
      have hm := known3 hb1 hm1 hm2
      rw [hm] at F₁
      clear hm
      have hvl50 : vs.length ≤ 50 := by omega
      obtain ⟨j, hj, hL, hR⟩ := scan_some hwf hscan'.symm
      have hplt : p.2 < ts.length := (List.getElem?_eq_some_iff.mp hj).1
      have hj6 : j < 6 := hfine (.op j) (List.mem_of_getElem? hj)
      have hcc : cntD (ts.take p.2) + cntD (ts.drop (p.2 + 1)) ≤ cntD ts := by
        conv => rhs; rw [← List.take_append_drop (p.2 + 1) ts, cnt_append, List.take_add_one, cnt_append]
        omega
      have hLs : StrsAre (vs.take p.2) ((ts.take p.2).map Tk.str) := by rw [List.map_take]; exact strs_take hi _
      have hLl : (ts.take p.2).length ≤ n := by rw [List.length_take]; omega
      have hLf : ∀ t ∈ ts.take p.2, t.fine := fun t ht => hfine t (List.mem_of_mem_take ht)
      have hLc : cntD (ts.take p.2) ≤ 7 := by omega
      have hL50 : (ts.take p.2).length ≤ 50 := by rw [List.length_take]; omega
      have hRs : StrsAre (vs.drop (p.2 + 1)) ((ts.drop (p.2 + 1)).map Tk.str) := by rw [List.map_drop]; exact StrsAre.drop' hi _
      have hRl : (ts.drop (p.2 + 1)).length ≤ n := by rw [List.length_drop]; omega
      have hRf : ∀ t ∈ ts.drop (p.2 + 1), t.fine := fun t ht => hfine t (List.mem_of_mem_drop ht)
      have hRc : cntD (ts.drop (p.2 + 1)) ≤ 7 := by omega
      have hR50 : (ts.drop (p.2 + 1)).length ≤ 50 := by rw [List.length_drop]; omega
      obtain ⟨hL0, hL1⟩ := worth_bd hL hLf hLl hLc
      obtain ⟨hR0, hR1⟩ := worth_bd hR hRf hRl hRc
      have hw : worthF (n + 1) ts = madeI j (worthF n (ts.take p.2)) (worthF n (ts.drop (p.2 + 1))) := by simp only [worthF, ← hscan', hj]
      k_steps

      all_goals (refine hPf _ _ ?_; dsimp only)
      all_goals exact hq _ _ _ (Fr.keep (by assumption)) ⟨_, by rw [hw]⟩
end
end

/- part PR -/
section
open PySem PySem.W PySem.Calls PyProof.Rows
def Fresh (S : List Int) : Prop := S = [] ∨ ∃ S', S = 7 :: S'
theorem Fresh.push {S : List Int} (h : Fresh S) (v : Int) : PushTo S v (v :: S) := by
  rcases h with rfl | ⟨S', rfl⟩
  · exact .nil
  · exact .seven
theorem fresh_rep {S : List Int} (h : Fresh S) : ∀ m : Nat, Fresh (List.replicate m 7 ++ S)
  | 0 => by simpa using h
  | m + 1 => .inr ⟨List.replicate m 7 ++ S, by rw [List.replicate_succ]; rfl⟩
theorem rep_comm (m : Nat) (x : Int) (S : List Int) : List.replicate m x ++ x :: S = x :: (List.replicate m x ++ S) := by
  induction m with
  | zero => rfl
  | succ m ih => rw [List.replicate_succ, List.cons_append, ih]; rfl
theorem run_push : ∀ (m : Nat) {S rest fin : List Int}, RunTo (List.replicate m 7 ++ S) rest fin → RunTo S (List.replicate m 7 ++ rest) fin
  | 0, S, rest, fin, h => h
  | m + 1, S, rest, fin, h => by
    rw [List.replicate_succ]
    refine .cons (.put (by decide) (by decide) (by decide)) (run_push m ?_)
    rw [rep_comm]
    rw [List.replicate_succ] at h
    exact h
theorem run_close {v : Int} (hv : 256 ≤ v) : ∀ (m : Nat) {S rest fin : List Int}, Fresh S → RunTo (v :: S) rest fin → RunTo (v :: (List.replicate m 7 ++ S)) (List.replicate m 8 ++ rest) fin
  | 0, S, rest, fin, _, h => h
  | m + 1, S, rest, fin, hS, h => by
    rw [List.replicate_succ, List.replicate_succ]
    exact .cons (.close hv ((fresh_rep hS m).push v)) (run_close hv m hS h)
theorem brk_append (a b : List Tk) : brkAll (a ++ b) = brkAll a ++ brkAll b := by simp [brkAll]
theorem rank_far {j : Nat} (h : j < 6) : ∃ r : Nat, rankN j = (r : Int) ∧ r ≤ 4 ∧ farN j = 5 - r := by
  match j, h with
  | 0, _ => exact ⟨0, rfl, by decide, rfl⟩
  | 1, _ => exact ⟨0, rfl, by decide, rfl⟩
  | 2, _ => exact ⟨1, rfl, by decide, rfl⟩
  | 3, _ => exact ⟨2, rfl, by decide, rfl⟩
  | 4, _ => exact ⟨3, rfl, by decide, rfl⟩
  | 5, _ => exact ⟨4, rfl, by decide, rfl⟩
theorem rank_nonneg (i : Nat) : 0 ≤ rankN i := by
  match i with
  | 0 | 1 | 2 | 3 | 4 | 5 => decide
  | n + 6 => simp [rankN]
theorem outs_nonneg : ∀ (ts : List Tk) (d : Int), ∀ r ∈ outs d ts, 0 ≤ r
  | [], d, r, h => by simp [outs] at h
  | .lp :: t, d, r, h => outs_nonneg t (d + 1) r (by simpa [outs] using h)
  | .rp :: t, d, r, h => outs_nonneg t (d - 1) r (by simpa [outs] using h)
  | .dg e :: t, d, r, h => outs_nonneg t d r (by simpa [outs] using h)
  | .op i :: t, d, r, h => by
    simp only [outs] at h
    split at h
    · rcases List.mem_cons.mp h with rfl | h
      · exact rank_nonneg i
      · exact outs_nonneg t d r h
    · exact outs_nonneg t d r h

/-- the brackets of the first Fortran -/
theorem backus : ∀ {n : Nat} {ts : List Tk} {k : Nat} {S rest fin : List Int}, WF ts → (∀ t ∈ ts, t.fine) → ts.length ≤ n → cntD ts ≤ 7 → k ≤ 5 → (∀ r ∈ outs 0 ts, (k : Int) ≤ r) → Fresh S →
    RunTo ((256 + worthF n ts) :: S) rest fin → RunTo (List.replicate (5 - k) 7 ++ S) (brkAll ts ++ (List.replicate (5 - k) 8 ++ rest)) fin
  | 0, ts, k, S, rest, fin, h, _, hl, _, _, _, _, _ => by
    obtain rfl := List.length_eq_zero_iff.mp (Nat.le_zero.mp hl)
    simp [WF, runA] at h
  | n + 1, ts, k, S, rest, fin, h, hf, hl, hc, hk, ho, hS, hr => by
    have hbd := worth_bd h hf hl hc
    cases hs : scan 0 0 none ts with
    | none =>
      rcases scan_none h hs with ⟨d, rfl⟩ | ⟨M, rfl, hM⟩
      · have e : worthF (n + 1) [.dg d] = (d : Int) := by simp only [worthF, hs]
        rw [e] at hr
        have e2 : brkAll [Tk.dg d] = [256 + (d : Int)] := by simp [brkAll, brk]
        rw [e2]
        exact .cons (.worth (by omega) ((fresh_rep hS _).push _)) (run_close (by omega) _ hS hr)
      · have e : worthF (n + 1) (Tk.lp :: (M ++ [Tk.rp])) = worthF n M := by simp only [worthF, hs]; simp
        rw [e] at hr hbd
        have ec : cntD (Tk.lp :: (M ++ [Tk.rp])) = cntD M := by
          rw [show Tk.lp :: (M ++ [Tk.rp]) = [Tk.lp] ++ M ++ [Tk.rp] by simp, cnt_append, cnt_append]; simp [cntD]
        have e2 : brkAll (Tk.lp :: (M ++ [Tk.rp])) ++ (List.replicate (5 - k) 8 ++ rest) = List.replicate 6 7 ++ (brkAll M ++ (List.replicate (5 - 0) 8 ++ (8 :: (List.replicate (5 - k) 8 ++ rest)))) := by
          rw [show Tk.lp :: (M ++ [Tk.rp]) = [Tk.lp] ++ M ++ [Tk.rp] by simp, brk_append, brk_append]
          simp [brkAll, brk, List.replicate_succ]
        rw [e2]
        refine run_push 6 ?_
        have e3 : List.replicate 6 (7 : Int) ++ (List.replicate (5 - k) 7 ++ S) = List.replicate (5 - 0) 7 ++ (7 :: (List.replicate (5 - k) 7 ++ S)) := by simp [List.replicate_succ]
        rw [e3]
        refine backus (n := n) (k := 0) hM (fun t ht => hf t (by simp [ht])) (by simp at hl; omega) (by omega) (by decide) (fun r hr => by simpa using outs_nonneg M 0 r hr) (.inr ⟨_, rfl⟩) ?_
        exact .cons (.close (by omega) ((fresh_rep hS _).push _)) (run_close (by omega) _ hS hr)
    | some p =>
      obtain ⟨L, j, R, rfl, rfl, hL, hR, hoL, hoR⟩ := scan_split h hs
      have e : worthF (n + 1) (L ++ Tk.op j :: R) = madeI j (worthF n L) (worthF n R) := by simp only [worthF, hs]; simp
      have ec : cntD (L ++ Tk.op j :: R) = cntD L + cntD R := by rw [cnt_append]; rfl
      have hj : j < 6 := hf (.op j) (by simp)
      have hfL : ∀ t ∈ L, t.fine := fun t ht => hf t (by simp [ht])
      have hfR : ∀ t ∈ R, t.fine := fun t ht => hf t (by simp [ht])
      have hlL : L.length ≤ n := by simp at hl; omega
      have hlR : R.length ≤ n := by simp at hl; omega
      obtain ⟨l1, l2⟩ := worth_bd (n := n) hL hfL hlL (by omega)
      obtain ⟨r1, r2⟩ := worth_bd (n := n) hR hfR hlR (by omega)
      obtain ⟨q, hq, hq4, hfar⟩ := rank_far hj
      obtain ⟨hc7, hc8, hc0, hc2⟩ := code_small hj
      have hkq : k ≤ q := by
        have hd : dep L = 0 := by
          have := runA_dep hL; simpa using this.symm
        have := ho (rankN j) (by rw [outs_append, hd]; simp [outs])
        omega
      rw [e] at hr hbd
      have e2 : brkAll (L ++ Tk.op j :: R) ++ (List.replicate (5 - k) 8 ++ rest) =
          brkAll L ++ (List.replicate (5 - q) 8 ++ (codeN j :: (List.replicate (5 - q) 7 ++ (brkAll R ++ (List.replicate (5 - (q + 1)) 8 ++ (8 :: (List.replicate (q - k) 8 ++ rest))))))) := by
        rw [show L ++ Tk.op j :: R = L ++ [Tk.op j] ++ R by simp, brk_append, brk_append]
        have e4 : List.replicate (5 - k) (8 : Int) = List.replicate (5 - (q + 1)) 8 ++ (8 :: List.replicate (q - k) 8) := by
          rw [← List.replicate_succ, List.replicate_append_replicate]
          congr 1; omega
        rw [e4]
        simp [brkAll, brk, hfar]
      have e3 : List.replicate (5 - k) (7 : Int) ++ S = List.replicate (5 - q) 7 ++ (List.replicate (q - k) 7 ++ S) := by
        rw [← List.append_assoc, List.replicate_append_replicate]
        congr 2; omega
      rw [e2, e3]
      refine backus (n := n) hL hfL hlL (by omega) (by omega) (fun r hr => by rw [← hq]; exact hoL r hr) (fresh_rep hS _) ?_
      refine .cons (.put hc2 hc8 hc0) (run_push _ ?_)
      have e5 : ∀ T : List Int, List.replicate (5 - q) (7 : Int) ++ T = List.replicate (5 - (q + 1)) 7 ++ (7 :: T) := fun T => by
        rw [rep_comm, ← List.cons_append, ← List.replicate_succ]
        congr 2; omega
      rw [e5]
      refine backus (n := n) hR hfR hlR (by omega) (by omega) (fun r hr => by have := hoR r hr; omega) (.inr ⟨_, rfl⟩) ?_
      refine .cons (.close (by omega) (.comb j hj l1 l2 r1 r2)) ?_
      exact run_close (by omega) _ hS hr
theorem backus_all {n : Nat} {ts : List Tk} (h : WF ts) (hf : ∀ t ∈ ts, t.fine) (hl : ts.length ≤ n) (hc : cntD ts ≤ 7) :
    RunTo [] (List.replicate 5 7 ++ brkAll ts ++ List.replicate 5 8) [256 + worthF n ts] := by
  have h1 := backus (k := 0) (S := []) (rest := []) (fin := [256 + worthF n ts]) h hf hl hc (by decide) (fun r hr => by simpa using outs_nonneg ts 0 r hr) (.inl rfl) .nil
  have h2 := run_push 5 h1
  simpa [List.append_assoc] using h2
end

/- part PP -/
section
open PySem PySem.W PySem.Calls PyProof.Rows
def InvP (k : Nat) (p : List Tk × Nat) : Prop :=
  ((k = 0 ∧ p = ([], 0)) ∨ (0 < k ∧ runA (true, 0) p.1 = some (false, p.2))) ∧ (∀ t ∈ p.1, t.fine) ∧ cntD p.1 = k ∧ p.1.length ≤ 3 * k ∧ p.2 ≤ k
theorem inv_step {k : Nat} {n : Int} {p : List Tk × Nat} (h : InvP k p) : InvP (k + 1) (stepP k n p) := by
  obtain ⟨h1, h2, h3, h4, h5⟩ := h
  have h10 := fmod_range n 10 (by decide)
  have h6 := fmod_range (n.fdiv 10) 6 (by decide)
  -- the head with its operator
  obtain ⟨A, hA⟩ : ∃ A, A = (if k = 0 then p.1 else p.1 ++ [Tk.op ((n.fdiv 10).fmod 6).toNat]) := ⟨_, rfl⟩
  have hrun : runA (true, 0) A = some (true, p.2) := by
    rw [hA]
    rcases h1 with ⟨h0, rfl⟩ | ⟨h0, hr⟩
    · rw [if_pos h0]; rfl
    · rw [if_neg (by omega), runA_append, hr]; rfl
  have hfin : ∀ t ∈ A, t.fine := by
    rw [hA]
    split
    · exact h2
    · intro t ht
      rcases List.mem_append.mp ht with ht | ht
      · exact h2 t ht
      · rw [List.mem_singleton.mp ht]; show _ < 6; omega
  have hcnt : cntD A = k := by
    rw [hA]
    split
    · exact h3
    · rw [cnt_append, h3]; rfl
  have hlen : A.length ≤ 3 * k + 1 := by
    rw [hA]
    split
    · omega
    · simp; omega
  have hdg : Tk.fine (.dg (n.fmod 10).toNat) := by show _ < 10; omega
  by_cases hq1 : (n.fdiv 60).fmod 3 = 1
  · rw [stepP_1 hq1, ← hA]
    refine ⟨.inr ⟨by omega, ?_⟩, ?_, ?_, ?_, ?_⟩
    · rw [runA_append, runA_append, hrun]; rfl
    · intro t ht
      simp only [List.mem_append, List.mem_singleton] at ht
      rcases ht with (ht | rfl) | rfl
      · exact hfin t ht
      · trivial
      · exact hdg
    · rw [cnt_append, cnt_append, hcnt]; rfl
    · simp; omega
    · simp; omega
  · by_cases hq2 : (n.fdiv 60).fmod 3 = 2 ∧ 0 < p.2
    · rw [stepP_2 hq2.1 hq2.2, ← hA]
      obtain ⟨q, hq⟩ : ∃ q, p.2 = q + 1 := ⟨p.2 - 1, by omega⟩
      refine ⟨.inr ⟨by omega, ?_⟩, ?_, ?_, ?_, ?_⟩
      · rw [runA_append, runA_append, hrun, hq]; rfl
      · intro t ht
        simp only [List.mem_append, List.mem_singleton] at ht
        rcases ht with (ht | rfl) | rfl
        · exact hfin t ht
        · exact hdg
        · trivial
      · rw [cnt_append, cnt_append, hcnt]; rfl
      · simp; omega
      · simp; omega
    · rw [stepP_3 hq1 hq2, ← hA]
      refine ⟨.inr ⟨by omega, ?_⟩, ?_, ?_, ?_, ?_⟩
      · rw [runA_append, hrun]; rfl
      · intro t ht
        simp only [List.mem_append, List.mem_singleton] at ht
        rcases ht with ht | rfl
        · exact hfin t ht
        · exact hdg
      · rw [cnt_append, hcnt]; rfl
      · simp; omega
      · simp; omega
theorem inv_go : ∀ (ns : List Int) (k : Nat) (p : List Tk × Nat), InvP k p → InvP (k + ns.length) (goP k ns p)
  | [], k, p, h => h
  | n :: r, k, p, h => by
    have := inv_go r (k + 1) _ (inv_step (n := n) h)
    rw [List.length_cons, show k + (r.length + 1) = k + 1 + r.length by omega]
    exact this
theorem rep_close : ∀ m : Nat, runA (false, m) (List.replicate m .rp) = some (false, 0)
  | 0 => rfl
  | m + 1 => by rw [List.replicate_succ]; exact rep_close m
theorem cnt_rep : ∀ m : Nat, cntD (List.replicate m .rp) = 0
  | 0 => rfl
  | m + 1 => by rw [List.replicate_succ]; exact cnt_rep m
theorem pieces_facts {ns : List Int} (h : 0 < ns.length) : WF (piecesT ns) ∧ (∀ t ∈ piecesT ns, t.fine) ∧ cntD (piecesT ns) = ns.length ∧ (piecesT ns).length ≤ 4 * ns.length := by
  obtain ⟨h1, h2, h3, h4, h5⟩ := inv_go ns 0 ([], 0) ⟨.inl ⟨rfl, rfl⟩, by simp, rfl, by simp, by simp⟩
  rw [Nat.zero_add] at *
  unfold piecesT
  generalize goP 0 ns ([], 0) = p at *
  refine ⟨?_, ?_, ?_, ?_⟩
  · rcases h1 with ⟨h0, _⟩ | ⟨_, hr⟩
    · omega
    · unfold WF
      rw [runA_append, hr]
      exact rep_close p.2
  · intro t ht
    rcases List.mem_append.mp ht with ht | ht
    · exact h2 t ht
    · rw [(List.mem_replicate.mp ht).2]; trivial
  · rw [cnt_append, cnt_rep, h3]; rfl
  · simp; omega
end

/- part CQ -/
section
open PySem PySem.W PySem.Calls PyProof.Rows PyProof.Rows.LCg PyProof.Rows.LCp PySem.Spec
section
variable {prog : Program} {w : World} {A : Around} {E : Value → Shared → Prop} {s : Shared} {env : Env} {h₀ : Heap} {L : Addr} {m : Str → Option Value}
def EltEnd (h₀ : Heap) (L : Addr) (m : Str → Option Value) (s₁ : Shared) (need : List (Addr × Obj)) (Good : Value → Prop) (y : Value) (s₄ : Shared) : Prop :=
  ∃ h' tk' all, s₄ = { s₁ with heap := h', toks := tk' } ∧ Fr h₀ L h' m ∧ News h₀ L h' all ∧ (∀ p ∈ need, p ∈ all) ∧ Good y
/-- the source: an enumerate over a list of the ledger; the elements are good -/
def SrcE (prog : Program) (w : World) (A : Around) (h₀ : Heap) (L : Addr) (m : Str → Option Value) (env : Env) (elt : PySem.Expr) (x x₂ : Str) (scope : Scope) (cl : List (Str × Addr)) (Good : Value → Prop) (Fin : Shared → Addr → List Value → List (Addr × Obj) → Prop) (xv : Value) (s₁ : Shared) : Prop :=
  ∃ (e it l : Addr) (vs : List Value) (k : Nat) (news : List (Addr × Obj)), xv = .ref e ∧ A.handled = none ∧ IsEnum s₁.heap e it 0 .none ∧ s₁.heap.IsListIter it l 0 ∧ (l, ({ cls := .type "list", data := .seq vs.toArray k } : Obj)) ∈ news ∧ e ≠ it ∧ L ≠ e ∧ L ≠ it ∧ h₀.get? e = none ∧ h₀.get? it = none ∧
    (∀ p ∈ news, p.1 ≠ e ∧ p.1 ≠ it) ∧ vs.length ≤ 1000 ∧ Fr h₀ L s₁.heap m ∧ News h₀ L s₁.heap news ∧
    (∀ (i : Nat) t v C oC m₂ h tk own (E' : Value → Shared → Prop), vs[i]? = some v → NsObj oC m₂ → m₂ x = some (.int (i : Int) t) → m₂ x₂ = some v → Fr h₀ L h m → News h₀ L h ((C, oC) :: (news ++ own)) →
      wpAny (model prog w) A (eval elt (compEnvC scope cl C env)) (EltEnd h₀ L m s₁ ((C, oC) :: (news ++ own)) Good) E' { s₁ with heap := h, toks := tk }) ∧
    (∀ D ys, ys.length = vs.length → (∀ v ∈ ys, Good v) → Fin s₁ D ys news)

theorem comp_enum {elt iter : PySem.Expr} {x x₂ y : Str} {px px₂ tp py : Pos} {tk} {scope : Scope} {cl : List (Str × Addr)} {pos spos : Pos} {Good : Value → Prop} {Q : Flow → Shared → Prop} (F₀ : Fr h₀ L s.heap m) (hLe : env.locals = L)
    (hsw : swapsWith (.ListComp elt [⟨.Tuple [.Name x px, .Name x₂ px₂] tk tp, iter, [], 0⟩] scope pos) (some (.Name y py)) spos.line env = pure true)
    (hclos : closureFor scope env = pure cl) (hcell : ∀ z ∈ scope.names, z.2 ≠ .cell) (hkind : scope.kind = .function)
    (hnames : ∀ z ∈ scope.names, z.2 = .local → scope.names.lookup z.1 = some .local) (hx : scope.names.lookup x = some .local) (hx₂ : scope.names.lookup x₂ = some .local) (hxx : x ≠ x₂)
    (hy : env.kindOf y = some .local) (hp : (env.scope.kind == .class || (env.scope.kind == .module && env.locals != env.globals)) = false)
    (h : wpAny (model prog w) A (eval iter env) (SrcE prog w A h₀ L m env elt x x₂ scope cl Good (fun s₁ D ys news => ∀ h' tk, Fr h₀ L h' (fun z => if z = y then some (.ref D) else m z) → News h₀ L h' ((D, lst ys) :: news) → (∀ p ∈ news, p.1 ≠ D) → Q .next { s₁ with heap := h', toks := tk })) E s)
    (hs : ∀ x, foldedSetIterable iter env x = pure x := by intro _; rfl) :
    wpAny (model prog w) A (exec (.Assign [.Name y py] (.ListComp elt [⟨.Tuple [.Name x px, .Name x₂ px₂] tk tp, iter, [], 0⟩] scope pos) spos) env) Q E s := by
  subst hLe
  rw [exec_Assign_Name_used _ _ _ _ hsw]
  refine wpAny_bind (wpAny_standAt (wpAny_bind ?_))
  show wpAny _ A (do let _ ← comprehension (.ListComp elt [⟨.Tuple [.Name x px, .Name x₂ px₂] tk tp, iter, [], 0⟩] scope pos) scope env _ (newList []) false (eval iter env) (some (assign (.Name y py) env))) _ _ s
  refine wpAny_bind (wpAny_mono (wpAny_comprehension_free (use := some (assign (.Name y py) env)) (Q := fun _ s' => Q .next s') rfl hs hclos hkind hnames
    (wpAny_mono h (fun xv s₁ h₁ => ?_) fun _ _ e => e)) (fun _ s' hq => wpAny_pure (wpAny_pure hq)) fun _ _ e => e)
  obtain ⟨e, it, l, vs, kk, news, rfl, hh, hE, hI, hml, hei, hLe, hLi, he0, hi0, hoff, hvl, F, N, elem, fin⟩ := h₁
  have hls : s₁.heap.IsList l vs.toArray := ⟨_, (N _ hml).1, rfl, _, rfl⟩
  have hle : l ≠ e := (hoff _ hml).1
  have hli : l ≠ it := (hoff _ hml).2
  refine wpAny_pyIter_enum hE ?_
  refine wpAny_newObj_type (wpAny_newFunctionEnv hcell (by intro y hy; simp at hy) (fun h₁ hns₁ hsb₁ => ?_) hkind)
  dsimp only at hns₁ hsb₁ ⊢
  generalize hH2 : s₁.heap.push { cls := .type "list", dict := none, data := .seq ([] : List Value).toArray } = H2 at hns₁ hsb₁ ⊢
  have hC : H2.objs.size = s₁.heap.objs.size + 1 := by rw [← hH2, Heap.size_push]
  have old : ∀ b o, s₁.heap.get? b = some o → h₁.get? b = some o := fun b o e => hsb₁.extBut b o (by rw [hC]; exact Nat.ne_of_lt (Nat.lt_succ_of_lt (Heap.lt_size e))) (Heap.get?_push_of_some _ (hH2 ▸ Heap.get?_push_of_some _ e))
  have hDC : s₁.heap.objs.size ≠ H2.objs.size := by rw [hC]; exact Nat.ne_of_lt (Nat.lt_succ_self _)
  have hacc : h₁.get? s₁.heap.objs.size = some (lst []) := hsb₁.extBut _ _ hDC (Heap.get?_push_of_some _ (hH2 ▸ Heap.get?_push_size _ rfl))
  have below : ∀ {b o}, s₁.heap.get? b = some o → b ≠ H2.objs.size ∧ b ≠ s₁.heap.objs.size := fun e => ⟨by rw [hC]; exact Nat.ne_of_lt (Nat.lt_succ_of_lt (Heap.lt_size e)), Nat.ne_of_lt (Heap.lt_size e)⟩
  have fresh₀ : ∀ a, s₁.heap.objs.size ≤ a → h₀.get? a = none := fun a ha => ktu_new F ha
  have hD₀ := fresh₀ _ (Nat.le_refl s₁.heap.objs.size)
  have hC₀ := fresh₀ H2.objs.size (by rw [hC]; exact Nat.le_succ _)
  have hLlt := F.ns.lt
  have hDL : s₁.heap.objs.size ≠ env.locals := Nat.ne_of_gt hLlt
  have hCL : H2.objs.size ≠ env.locals := by rw [hC]; exact Nat.ne_of_gt (Nat.lt_succ_of_lt hLlt)
  obtain ⟨hCe, hDe⟩ := below hE
  obtain ⟨oi0, hoi0, _⟩ := id hI
  obtain ⟨hCi, hDi⟩ := below hoi0
  obtain ⟨hCl, hDl⟩ := below (N _ hml).1
  have W := WalksT.enumerate (prog := prog) (w := w) (A := A) hh e it l hei hle hli vs.toArray
  generalize hDD : s₁.heap.objs.size = D at *
  generalize hCC : H2.objs.size = C at *
  have offC : ∀ p ∈ news, p.1 ≠ C := fun p hp => (below (N p hp).1).1
  have offD : ∀ p ∈ news, p.1 ≠ D := fun p hp => (below (N p hp).1).2
  have loop : ∀ s₃ : Shared, s₃ = { s₁ with heap := h₁, toks := s₁.toks + ([] : List (Str × Value)).length } →
      codeAny (model prog w) A (.compLoop (.ListComp elt [⟨.Tuple [.Name x px, .Name x₂ px₂] tk tp, iter, [], 0⟩] scope pos) 0 (.ref e) (.ref D) (compEnvC scope cl C env))
        (compPost (model prog w) A E (some (assign (.Name y py) env)) (fun _ s' => Q .next s') (.ref D) C) s₃ := by
    rintro s₃ rfl
    refine codeAny_compLoop_pair
      (fun k s' => ∃ h' tk i ys m', s' = { s₁ with heap := h', toks := tk } ∧ i ≤ vs.length ∧ k = vs.length + 1 - i ∧ ys.length = i ∧ (∀ v ∈ ys, Good v) ∧ (∃ old, IsEnum h' e it (i : Int) old) ∧ h'.IsListIter it l i ∧ Fr h₀ env.locals h' m ∧ h'.Ns C m' ∧ News h₀ env.locals h' ((D, lst ys) :: news)) ?_ (vs.length + 1)
      ⟨h₁, _, 0, [], _, rfl, Nat.zero_le _, rfl, rfl, by simp, ⟨_, by simpa using old _ _ hE⟩, hI.at fun o e => old _ o e, F.keeps old, hns₁, fun p hp => ?_⟩
    · rintro k s' ⟨h', tk', i, ys, m', rfl, hi, rfl, hyl, hgood, ⟨old', hE'⟩, hI', F', hn', N'⟩
      have hl' : h'.IsList l vs.toArray := ⟨_, (N' _ (List.mem_cons_of_mem _ hml)).1, rfl, _, rfl⟩
      by_cases hlt : i < vs.length
      · refine W.item i _ _ _ (by simpa using hlt) ⟨⟨_, hE'⟩, hI', hl'⟩ fun T vals h₂ tk₂ hPv hTn hT hMid hk₂ => ?_
        obtain ⟨tt, v, hv, rfl⟩ := hPv
        refine W.go _ _ _ i T _ _ _ hMid fun h₃ hst₃ hk₃ => ?_
        have ht : IsTup h₃ T #[.int (i : Int) tt, v] := hT.at fun o e => hk₃ T o (W.apart i T h₂ hMid) e
        have keep3 : ∀ b o, b ∉ [e, it] → h'.get? b = some o → h₃.get? b = some o := fun b o hb x => hk₃ b o hb (hk₂ b o hb x)
        refine assign_Tuple_tuple hh ht rfl rfl fun h₅ he5 => ?_
        have he5' : ∀ b o, h₃.get? b = some o → h₅.get? b = some o := fun b o e => he5 b o (Nat.ne_of_lt (Heap.lt_size e)) e
        have hCw : C ∉ [e, it] := by simp [Ne.symm hCe, Ne.symm hCi]
        refine assignInOrder_cons (wpAny_assign_Name (wpAny_storeName_local (lookup_relabel_local hx) (hn'.at' fun o e => he5' _ o (keep3 _ o hCw e)) (fun h₆ hn₆ hs₆ => ?_) (by simp [compEnvC, relabel, hkind])))
        refine assignInOrder_cons (wpAny_assign_Name (wpAny_storeName_local (lookup_relabel_local hx₂) hn₆ (fun h₇ hn₇ hs₇ => ?_) (by simp [compEnvC, relabel, hkind])))
        refine assignInOrder_nil ?_
        have up : ∀ b o, b ≠ C → h₃.get? b = some o → h₇.get? b = some o := fun b o hb e => hs₇.extBut b o hb (hs₆.extBut b o hb (he5' b o e))
        have up' : ∀ b o, b ≠ C → b ≠ e → b ≠ it → h'.get? b = some o → h₇.get? b = some o := fun b o hb h1 h2 x => up b o hb (keep3 b o (by simp [h1, h2]) x)
        obtain ⟨⟨old3, hE3⟩, hI3, _⟩ := hst₃
        have hE7 := up e _ (Ne.symm (Ne.symm hCe)) hE3
        have hI7 : h₇.IsListIter it l (i + 1) := hI3.at fun o x => up it o hCi x
        have F₇ : Fr h₀ env.locals h₇ m := ⟨F'.ns.at' fun o x => up' _ o (Ne.symm hCL) hLe hLi x, fun b o x => up' b o (fun q => by rw [q, hC₀] at x; cases x) (fun q => by rw [q, he0] at x; cases x) (fun q => by rw [q, hi0] at x; cases x) (F'.keep b o x), F'.above⟩
        obtain ⟨oC, heC, hoC⟩ := ns_obj hn₇
        obtain ⟨oi, hoi, hoi2⟩ := id hI7
        obtain ⟨oe, hoe, hoe2⟩ : ∃ oe, h₇.get? e = some oe ∧ ∀ hh : Heap, hh.get? e = some oe → ∃ old, IsEnum hh e it ((i + 1 : Nat) : Int) old := ⟨_, hE7, fun _ z => ⟨_, z⟩⟩
        have N₇ : News h₀ env.locals h₇ ((C, oC) :: (news ++ [(e, oe), (it, oi), (D, lst ys)])) := by
          intro p hp
          rcases List.mem_cons.mp hp with rfl | hp
          · exact ⟨heC, hCL, hC₀⟩
          · rcases List.mem_append.mp hp with hp | hp
            · have z := N' p (List.mem_cons_of_mem _ hp)
              exact ⟨up' _ _ (offC p hp) (hoff p hp).1 (hoff p hp).2 z.1, z.2⟩
            · rcases List.mem_cons.mp hp with rfl | hp
              · exact ⟨hoe, Ne.symm hLe, he0⟩
              · rcases List.mem_cons.mp hp with rfl | hp
                · exact ⟨hoi, Ne.symm hLi, hi0⟩
                · rw [List.mem_singleton.mp hp]
                  have z := N' _ List.mem_cons_self
                  exact ⟨up' _ _ hDC (Ne.symm hDe) (Ne.symm hDi) z.1, z.2⟩
        refine wpAny_mono (elem i tt v C oC _ h₇ _ _ _ (by simpa using hv) hoC (by simp [hxx]) (by simp) F₇ N₇) (fun yv s₄ h₄ => ?_) fun _ _ e => e
        obtain ⟨h₈, tk₈, all, rfl, F₈, Nall, hsub, hg⟩ := h₄
        have N₈ : News h₀ env.locals h₈ _ := fun p hp => Nall p (hsub p hp)
        have zD := (N₈ (D, lst ys) (by simp)).1
        have zE := (N₈ (e, oe) (List.mem_cons_of_mem _ (List.mem_append_right _ List.mem_cons_self))).1
        have zI := (N₈ (it, oi) (by simp)).1
        have zC := (N₈ (C, oC) List.mem_cons_self).1
        refine append_at (hsz := by show ys.toArray.size ≤ sizeLine; rw [List.size_toArray, hyl, sizeLine_eq]; omega) zD fun h₉ hs₉ hD₉ => ?_
        refine ⟨vs.length + 1 - (i + 1), by omega, h₉, tk₈, i + 1, ys ++ [yv], _, rfl, hlt, rfl, by rw [List.length_append, List.length_singleton, hyl], ?_, ?_, ⟨oi, hs₉.extBut _ _ (Ne.symm (Ne.symm hDi)) zI, hoi2⟩, F₈.change hs₉ hDL hD₀, (hoC.ns zC).sameBut hs₉ (Ne.symm hDC), fun p hp => ?_⟩
        · intro v hv
          rcases List.mem_append.mp hv with hv | hv
          · exact hgood v hv
          · rw [List.mem_singleton.mp hv]; exact hg
        · obtain ⟨ol, hol⟩ := hoe2 _ (hs₉.extBut _ _ hDe zE)
          exact ⟨ol, hol⟩
        · rcases List.mem_cons.mp hp with rfl | hp
          · exact ⟨hD₉.trans (congrArg some (lst_snoc ys yv)), hDL, hD₀⟩
          · have z := N₈ p (List.mem_cons_of_mem _ (List.mem_append_left _ hp))
            exact ⟨hs₉.extBut _ _ (offD p hp) z.1, z.2⟩
      · obtain rfl : i = vs.length := Nat.le_antisymm hi (Nat.not_lt.mp hlt)
        refine W.done _ _ _ (by simpa using (⟨⟨_, hE'⟩, hI', hl'⟩ : (∃ old, IsEnum h' e it ((vs.length : Nat) : Int) old) ∧ h'.IsListIter it l vs.length ∧ h'.IsList l vs.toArray)) fun h₂ tk₂ hk₂ => ?_
        have F₂ : Fr h₀ env.locals h₂ m := ⟨F'.ns.at' fun o x => hk₂ _ o (by simp [hLe, hLi]) x, fun b o x => hk₂ b o (by
          intro hb
          rcases List.mem_cons.mp hb with q | hb
          · rw [q, he0] at x; cases x
          · rw [List.mem_singleton.mp hb, hi0] at x; cases x) (F'.keep b o x), F'.above⟩
        have N₂ : News h₀ env.locals h₂ ((D, lst ys) :: news) := fun p hp => ⟨hk₂ _ _ (by
          rcases List.mem_cons.mp hp with rfl | hp
          · simp [Ne.symm hDe, Ne.symm hDi]
          · simp [(hoff p hp).1, (hoff p hp).2]) (N' p hp).1, (N' p hp).2⟩
        show wpAny _ A (assign (.Name y py) env (.ref D)) _ _ _
        refine wpAny_assign_Name (wpAny_storeName_local hy F₂.ns (fun h₃ hn₃ hs₃ => ?_) hp)
        have hL₀ : h₀.get? env.locals = none := Heap.get?_none_of_le F₂.above
        have F₃ : Fr h₀ env.locals h₃ (fun z => if z = y then some (.ref D) else m z) := ⟨hn₃, fun b o e => hs₃.extBut b o (fun q => by rw [q, hL₀] at e; cases e) (F₂.keep b o e), F₂.above⟩
        have hn2 : h₂.Ns C m' := hn'.at' fun o x => hk₂ _ o (by simp [Ne.symm hCe, Ne.symm hCi]) x
        refine ⟨m', hn2.sameBut hs₃ hCL, fun h'' hs'' => fin D ys (by simpa using hyl) hgood h'' _ (F₃.change hs'' hCL hC₀) (fun p hp => ?_) offD⟩
        have z : h₃.get? p.1 = some p.2 := hs₃.extBut _ _ (N₂ p hp).2.1 (N₂ p hp).1
        refine ⟨hs''.extBut _ _ ?_ z, (N₂ p hp).2⟩
        rcases List.mem_cons.mp hp with rfl | hp
        · exact hDC
        · exact offC p hp
    · rcases List.mem_cons.mp hp with rfl | hp
      · exact ⟨hacc, hDL, hD₀⟩
      · exact ⟨old _ _ (N p hp).1, (N p hp).2⟩
  exact codeAny_compStart_list (loop _ rfl) (wpAny_pyIter_enum (old _ _ hE) (loop _ rfl))
theorem enum_src {elt : PySem.Expr} {x x₂ : Str} {scope : Scope} {cl : List (Str × Addr)} {Good : Value → Prop} {Fin : Shared → Addr → List Value → List (Addr × Obj) → Prop} {l : Addr} {vs : List Value} {k : Nat} {news : List (Addr × Obj)}
    (hh : A.handled = none) (F : Fr h₀ L s.heap m) (N : News h₀ L s.heap news) (hm : (l, W.listOf vs.toArray k) ∈ news) (hvl : vs.length ≤ 1000)
    (elem : ∀ (i : Nat) t v C oC m₂ h tk own (E' : Value → Shared → Prop), vs[i]? = some v → NsObj oC m₂ → m₂ x = some (.int (i : Int) t) → m₂ x₂ = some v → Fr h₀ L h m → News h₀ L h ((C, oC) :: (news ++ own)) →
      wpAny (model prog w) A (eval elt (compEnvC scope cl C env)) (EltEnd h₀ L m s ((C, oC) :: (news ++ own)) Good) E' { s with heap := h, toks := tk })
    (fin : ∀ h' D ys, ys.length = vs.length → (∀ v ∈ ys, Good v) → Fin { s with heap := h' } D ys news) :
    wpAny (model prog w) A (call (.type "enumerate") [.ref l]) (SrcE prog w A h₀ L m env elt x x₂ scope cl Good Fin) E s := by
  have hls : s.heap.IsList l vs.toArray := ⟨_, (N _ hm).1, rfl, _, rfl⟩
  have hLs := F.ns.lt
  refine call_enumerate_list hls fun h' hE hI hsz hk => ?_
  refine ⟨s.heap.objs.size + 1, s.heap.objs.size, l, vs, k, news, rfl, hh, hE, hI, hm, Nat.succ_ne_self _, Nat.ne_of_lt (Nat.lt_succ_of_lt hLs), Nat.ne_of_lt hLs, ktu_new F (Nat.le_succ _), ktu_new F (Nat.le_refl _), fun p hp => ?_, hvl, F.keeps hk, N.grown hk, elem, fun D ys a b => fin h' D ys a b⟩
  have := Heap.lt_size (N p hp).1
  exact ⟨Nat.ne_of_lt (Nat.lt_succ_of_lt this), Nat.ne_of_lt this⟩
end
end

/- part CC0 -/
section
open PySem PySem.W PySem.Calls PyProof.Rows
theorem item_val {x : Str} {A B : List Nat} {c : Nat} (hx : x.cps.toList = A ++ c :: B) : Txt.item x (A.length : Int) = ⟨#[c]⟩ := by
  have hl : x.length = A.length + (B.length + 1) := by
    have := congrArg List.length hx
    simpa [Str.length] using this
  have hc : x.cps[A.length]? = some c := by
    rw [← Array.getElem?_toList, hx]; simp
  unfold Txt.item Txt.charAt
  have hi : seqIndex? (A.length : Int) x.length = some A.length := by
    unfold seqIndex?
    simp [hl]
    refine ⟨⟨?_, ?_⟩, ?_⟩ <;> split <;> omega
  rw [hi]
  simp [hc]
theorem slice_val {x : Str} {A B : List Nat} (hx : x.cps.toList = A ++ B) (c : Nat) : Txt.slice x (some (A.length : Int)) (some ((A.length : Int) + (c : Int))) = ⟨(B.take c).toArray⟩ := by
  have hl : x.length = A.length + B.length := by
    have := congrArg List.length hx
    simpa [Str.length] using this
  have key : Txt.slice x (some (A.length : Int)) (some ((A.length : Int) + (c : Int))) = Txt.slice x (some (A.length : Int)) (some ((A.length : Int) + (min c B.length : Nat))) := by
    have e : Builtin.Str.strSliceIndices (some (A.length : Int)) (some ((A.length : Int) + (c : Int))) 1 x.length = Builtin.Str.strSliceIndices (some (A.length : Int)) (some ((A.length : Int) + (min c B.length : Nat))) 1 x.length := by
      simp only [Builtin.Str.strSliceIndices, show (1 : Int) > 0 by decide, if_true, if_neg (show ¬ ((A.length : Int) + (c : Int) < 0) by omega), if_neg (show ¬ ((A.length : Int) + ((min c B.length : Nat) : Int) < 0) by omega), hl]
      congr 1
      omega
    unfold Txt.slice
    rw [e]
  rw [key]
  have h2 := slice_closesL (x := x) (i := (A.length : Int)) (j := (A.length : Int) + (min c B.length : Nat)) (by omega) (by omega) (by rw [hl]; omega)
  rw [eq_of_beq h2, hx]
  congr 2
  rw [Int.toNat_natCast, List.drop_left, show ((A.length : Int) + ((min c B.length : Nat) : Int) - (A.length : Int)).toNat = min c B.length by omega]
  exact kmk_take_min B c
end

/- part CC1 -/
section
open PySem PySem.W PySem.Calls PyProof.Rows
def convE (e : DictEntry) : Str × KTD.Dat := (match e.key with | .str x _ => x | _ => Str.empty, match e.val with | .int i _ => .flat (.int i) | _ => .flat .none)
def entriesO (o : Option Obj) : List DictEntry := match o with
  | some o => (match o.data with | .dict es _ => es.toList | _ => [])
  | none => []
def okE (e : DictEntry) : Bool := match e.key, e.val with
  | .str _ _, .int _ _ => true
  | _, _ => false
theorem rows_conv {h : Heap} : ∀ es : List DictEntry, es.all okE = true → KTD.Rows (KTD.Dat.At h) es (es.map convE)
  | [], _ => .nil
  | e :: r, ho => by
    rw [List.all_cons, Bool.and_eq_true] at ho
    have h1 := ho.1
    obtain ⟨hh, k, v⟩ := e
    cases k <;> (try (simp [okE] at h1; done))
    cases v <;> (try (simp [okE] at h1; done))
    exact .cons rfl (PyProof.V.Flat.int _ _) (rows_conv r ho.2)
noncomputable def tabD (P : Params) : List (Str × KTD.Dat) := (entriesO ((hd.heap_39 P).lookup 15)).map convE
theorem tab_obj (P : Params) : ∃ o es ep, (hd.heap_39 P).lookup 15 = some o ∧ o.ExactDict ∧ o.data = .dict es ep ∧ entriesO (some o) = es.toList ∧ es.toList.all okE = true :=
  ⟨_, _, _, rfl, ⟨rfl, rfl, rfl⟩, rfl, rfl, rfl⟩
theorem tab_here {P : Params} {h : Heap} (X : (hd.heap_39 P).In h) : KTD.TextTab h 15 (tabD P) := by
  obtain ⟨o, es, ep, h1, h2, h3, h4, h5⟩ := tab_obj P
  refine ⟨by decide, o, es, ep, X _ _ h1, h2, h3, ?_⟩
  rw [tabD, h1, h4]
  exact rows_conv _ h5
theorem eachL_of {h : Heap} {k : Str} {Q : Value → Prop} {d : KTD.Dat} (ho : KTD.Opened h Q d) : ∀ {D : List (Str × KTD.Dat)}, KTD.datumAt k D = some d → KTD.EachL h k Q D
  | [], hd => by cases hd
  | [(x, e)], hd => by
    refine KTD.eachL_last fun hk => ?_
    subst hk
    simp [KTD.datumAt] at hd
    rw [hd]; exact ho
  | (x, e) :: p :: D, hd => by
    by_cases hk : k = x
    · subst hk
      refine KTD.eachL_hit rfl ?_
      simp [KTD.datumAt] at hd
      rw [hd]; exact ho
    · refine KTD.eachL_miss hk (eachL_of ho ?_)
      simpa [KTD.datumAt, hk] using hd
theorem notKey {D : List (Str × KTD.Dat)} {p c : List Nat} (hD : D.all (fun e => !(p.isPrefixOf e.1.cps.toList)) = true) (hp : p.isPrefixOf c = true) : KTD.inKeys (⟨c.toArray⟩ : Str) D = false := by
  induction D with
  | nil => rfl
  | cons e D ih =>
    obtain ⟨x, d⟩ := e
    rw [List.all_cons, Bool.and_eq_true] at hD
    have h1 : (⟨c.toArray⟩ : Str) ≠ x := by
      intro e
      have h2 := hD.1
      rw [← e] at h2
      simp [hp] at h2
    simp [KTD.inKeys, h1, ih hD.2]
def tcps (t : Tk) : List Nat := t.str.cps.toList
def joinC (ts : List Tk) : List Nat := ts.flatMap tcps
theorem joinC_append (a b : List Tk) : joinC (a ++ b) = joinC a ++ joinC b := by simp [joinC]
theorem joinC_cons (t : Tk) (b : List Tk) : joinC (t :: b) = tcps t ++ joinC b := by simp [joinC]
def opens : List Nat := [40, 48, 49, 50, 51, 52, 53, 54, 55, 56, 57]
def closes : List Nat := [41, 60, 94, 62, 43, 42]
noncomputable def noPre (P : Params) (p : List Nat) : Bool := (tabD P).all (fun e => !(p.isPrefixOf e.1.cps.toList))
theorem pre_op (P : Params) : ([60, 94, 43, 42, 40].all fun t => opens.all fun n => noPre P [t, n]) = true := by kernel_rfl
theorem pre_rp (P : Params) : (closes.all fun n => noPre P [41, n]) = true := by kernel_rfl
theorem pre_le (P : Params) : (opens.all fun n => noPre P [60, 61, n]) = true := by kernel_rfl
theorem pre_rs (P : Params) : (opens.all fun n => noPre P [62, 62, n]) = true := by kernel_rfl
theorem key_at (P : Params) : KTD.datumAt (Str.ofString "(") (tabD P) = some (.flat (.int 7)) ∧ KTD.datumAt (Str.ofString ")") (tabD P) = some (.flat (.int 8)) ∧ KTD.datumAt (Str.ofString "<") (tabD P) = some (.flat (.int 20)) ∧ KTD.datumAt (Str.ofString "<=") (tabD P) = some (.flat (.int 29)) ∧ KTD.datumAt (Str.ofString "^") (tabD P) = some (.flat (.int 32)) ∧ KTD.datumAt (Str.ofString ">>") (tabD P) = some (.flat (.int 34)) ∧ KTD.datumAt (Str.ofString "+") (tabD P) = some (.flat (.int 14)) ∧ KTD.datumAt (Str.ofString "*") (tabD P) = some (.flat (.int 16)) := by
  refine ⟨?_, ?_, ?_, ?_, ?_, ?_, ?_, ?_⟩ <;> kernel_rfl
theorem dg_head {d : Nat} (hd : d < 10) : ∃ n, tcps (.dg d) = [n] ∧ n ∈ opens := by
  match d, hd with
  | 0, _ => exact ⟨48, by decide +kernel, by decide⟩
  | 1, _ => exact ⟨49, by decide +kernel, by decide⟩
  | 2, _ => exact ⟨50, by decide +kernel, by decide⟩
  | 3, _ => exact ⟨51, by decide +kernel, by decide⟩
  | 4, _ => exact ⟨52, by decide +kernel, by decide⟩
  | 5, _ => exact ⟨53, by decide +kernel, by decide⟩
  | 6, _ => exact ⟨54, by decide +kernel, by decide⟩
  | 7, _ => exact ⟨55, by decide +kernel, by decide⟩
  | 8, _ => exact ⟨56, by decide +kernel, by decide⟩
  | 9, _ => exact ⟨57, by decide +kernel, by decide⟩
theorem op_head {j : Nat} (hj : j < 6) : ∃ n r, tcps (.op j) = n :: r ∧ n ∈ closes := by
  match j, hj with
  | 0, _ => exact ⟨60, [], by decide +kernel, by decide⟩
  | 1, _ => exact ⟨60, [61], by decide +kernel, by decide⟩
  | 2, _ => exact ⟨94, [], by decide +kernel, by decide⟩
  | 3, _ => exact ⟨62, [62], by decide +kernel, by decide⟩
  | 4, _ => exact ⟨43, [], by decide +kernel, by decide⟩
  | 5, _ => exact ⟨42, [], by decide +kernel, by decide⟩
theorem next_open {d d' : Nat} {rest : List Tk} (h : runA (true, d) rest = some (false, d')) (hf : ∀ t ∈ rest, t.fine) : ∃ n r, joinC rest = n :: r ∧ n ∈ opens := by
  cases rest with
  | nil => simp [runA] at h
  | cons t r =>
    rw [joinC_cons]
    cases t with
    | lp => exact ⟨40, joinC r, rfl, by decide⟩
    | dg e => obtain ⟨n, h1, h2⟩ := dg_head (hf (.dg e) (.head _)); exact ⟨n, joinC r, by rw [h1]; rfl, h2⟩
    | op i => simp [runA, stepA] at h
    | rp => simp [runA, stepA] at h
theorem next_close {d d' : Nat} {rest : List Tk} (h : runA (false, d) rest = some (false, d')) (hf : ∀ t ∈ rest, t.fine) : rest = [] ∨ ∃ n r, joinC rest = n :: r ∧ n ∈ closes := by
  cases rest with
  | nil => exact .inl rfl
  | cons t r =>
    rw [joinC_cons]
    cases t with
    | rp => exact .inr ⟨41, joinC r, rfl, by decide⟩
    | op e => obtain ⟨n, q, h1, h2⟩ := op_head (hf (.op e) (.head _)); exact .inr ⟨n, q ++ joinC r, by rw [h1]; rfl, h2⟩
    | lp => simp [runA, stepA] at h
    | dg i => simp [runA, stepA] at h
theorem after {done rest : List Tk} {tok : Tk} (h : WF (done ++ tok :: rest)) : ∃ q q', stepA q tok = some q' ∧ runA q' rest = some (false, 0) := by
  unfold WF at h
  rw [runA_append] at h
  cases hq : runA (true, 0) done with
  | none => rw [hq] at h; cases h
  | some q =>
    rw [hq] at h
    simp only [Option.bind_some, runA] at h
    cases hs : stepA q tok with
    | none => rw [hs] at h; cases h
    | some q' => rw [hs] at h; exact ⟨q, q', hs, h⟩
theorem after_op {done rest : List Tk} {j : Nat} (h : WF (done ++ .op j :: rest)) (hf : ∀ t ∈ rest, t.fine) : ∃ n r, joinC rest = n :: r ∧ n ∈ opens := by
  obtain ⟨⟨b, d⟩, q', h1, h2⟩ := after h
  cases b with
  | true => simp [stepA] at h1
  | false => simp [stepA] at h1; subst h1; exact next_open h2 hf
theorem after_lp {done rest : List Tk} (h : WF (done ++ .lp :: rest)) (hf : ∀ t ∈ rest, t.fine) : ∃ n r, joinC rest = n :: r ∧ n ∈ opens := by
  obtain ⟨⟨b, d⟩, q', h1, h2⟩ := after h
  cases b with
  | false => simp [stepA] at h1
  | true => simp [stepA] at h1; subst h1; exact next_open h2 hf
theorem after_rp {done rest : List Tk} (h : WF (done ++ .rp :: rest)) (hf : ∀ t ∈ rest, t.fine) : rest = [] ∨ ∃ n r, joinC rest = n :: r ∧ n ∈ closes := by
  obtain ⟨⟨b, d⟩, q', h1, h2⟩ := after h
  cases b with
  | true => simp [stepA] at h1
  | false =>
    cases d with
    | zero => simp [stepA] at h1
    | succ d => simp [stepA] at h1; subst h1; exact next_close h2 hf
theorem plain_tab (P : Params) : ((tabD P).all fun p => KTD.plain p.2) = true := by kernel_rfl
section
variable {prog : Program} {w : World} {A : Around} {E : Value → Shared → Prop} {s : Shared} {h₀ : Heap} {P : Params}
theorem tab_item {k : Str} {v : Int} {tk : Tok} {value slice : PySem.Expr} {Q : Value → Shared → Prop} (T : KTD.TextTab h₀ 15 (tabD P)) (hk : ∀ b o, h₀.get? b = some o → s.heap.get? b = some o) (hd : KTD.datumAt k (tabD P) = some (.flat (.int v)))
    (h : ∀ t, Q (.int v t) { s with toks := s.toks + 1 })
    (hs : subscripted slice false (.ref 15) (.str k tk) = operate [.ref 15, .str k tk] (getItem (.ref 15) (.str k tk)) := by with_unfolding_all rfl) :
    wpAny (model prog w) A (subscriptTail value slice (.ref 15) (.str k tk)) Q E s :=
  KTD.item_textA ⟨T, hk⟩ (plain_tab P) (by rw [← KTD.isSome_datumAt, hd]; rfl) (eachL_of (d := .flat (.int v)) (show KTD.Opened h₀ (fun u => Q u { s with toks := s.toks + 1 }) (.flat (.int v)) from h) hd) hs
theorem tab_notin {k : Str} {b : Bool} {tk : Tok} {Q : Value → Shared → Prop} (T : KTD.TextTab h₀ 15 (tabD P)) (hk : ∀ b o, h₀.get? b = some o → s.heap.get? b = some o) (hb : KTD.inKeys k (tabD P) = b)
    (h : Q (.bool (!b)) { s with toks := s.toks + 1 }) : wpAny (model prog w) A (compareOp .NotIn (.str k tk) (.ref 15)) Q E s := by
  subst hb
  exact KTD.notin_text ⟨T, hk⟩ h
end
/-- what the cut finds at a piece that is no figure -/
def SignAt (P : Params) (x : Str) (a : Nat) (y1 y : Str) (v : Int) (len : Nat) (last : Prop) : Prop :=
  Txt.item x (a : Int) = y1 ∧ (Builtin.Str.occurrences (Str.ofString "0123456789") y1 0 (Str.ofString "0123456789").length 1).isEmpty = true ∧ KTD.datumAt y (tabD P) = some (.flat (.int v)) ∧ KTD.inKeys y (tabD P) = true ∧
  ((len = 1 ∧ ∃ y3 y2, Txt.slice x (some (a : Int)) (some ((a : Int) + 3)) = y3 ∧ KTD.inKeys y3 (tabD P) = false ∧ Txt.slice x (some (a : Int)) (some ((a : Int) + 2)) = y2 ∧ KTD.inKeys y2 (tabD P) = false ∧ Txt.slice x (some (a : Int)) (some ((a : Int) + 1)) = y) ∨
   (len = 2 ∧ ∃ y3, Txt.slice x (some (a : Int)) (some ((a : Int) + 3)) = y3 ∧ KTD.inKeys y3 (tabD P) = false ∧ Txt.slice x (some (a : Int)) (some ((a : Int) + 2)) = y) ∨
   (last ∧ len = 1 ∧ Txt.slice x (some (a : Int)) (some ((a : Int) + 3)) = y))
theorem noPre_in {P : Params} {p c : List Nat} (hp : noPre P p = true) (hc : p.isPrefixOf c = true) : KTD.inKeys (⟨c.toArray⟩ : Str) (tabD P) = false := notKey hp hc
theorem sign_one {P : Params} {x : Str} {A r : List Nat} {c n : Nat} {y : Str} {v : Int} {last : Prop} (hx : x.cps.toList = A ++ c :: n :: r) (hy : (⟨#[c]⟩ : Str) = y) (hp : noPre P [c, n] = true)
    (ho : (Builtin.Str.occurrences (Str.ofString "0123456789") y 0 (Str.ofString "0123456789").length 1).isEmpty = true) (hd : KTD.datumAt y (tabD P) = some (.flat (.int v))) : SignAt P x A.length y y v 1 last := by
  refine ⟨(item_val hx).trans hy, ho, hd, by rw [← KTD.isSome_datumAt, hd]; rfl, .inl ⟨rfl, _, _, slice_val hx 3, noPre_in hp ?_, slice_val hx 2, noPre_in hp ?_, ?_⟩⟩
  · simp [List.isPrefixOf]
  · simp [List.isPrefixOf]
  · exact (slice_val hx 1).trans hy
theorem sign_two {P : Params} {x : Str} {A r : List Nat} {c c' n : Nat} {y1 y : Str} {v : Int} {last : Prop} (hx : x.cps.toList = A ++ c :: c' :: n :: r) (hy1 : (⟨#[c]⟩ : Str) = y1) (hy : (⟨#[c, c']⟩ : Str) = y) (hp : noPre P [c, c', n] = true)
    (ho : (Builtin.Str.occurrences (Str.ofString "0123456789") y1 0 (Str.ofString "0123456789").length 1).isEmpty = true) (hd : KTD.datumAt y (tabD P) = some (.flat (.int v))) : SignAt P x A.length y1 y v 2 last := by
  refine ⟨(item_val hx).trans hy1, ho, hd, by rw [← KTD.isSome_datumAt, hd]; rfl, .inr (.inl ⟨rfl, _, slice_val hx 3, noPre_in hp ?_, ?_⟩)⟩
  · simp [List.isPrefixOf]
  · exact (slice_val hx 2).trans hy
theorem sign_end {P : Params} {x : Str} {A : List Nat} {c : Nat} {y : Str} {v : Int} {last : Prop} (hx : x.cps.toList = A ++ [c]) (hl : last) (hy : (⟨#[c]⟩ : Str) = y)
    (ho : (Builtin.Str.occurrences (Str.ofString "0123456789") y 0 (Str.ofString "0123456789").length 1).isEmpty = true) (hd : KTD.datumAt y (tabD P) = some (.flat (.int v))) : SignAt P x A.length y y v 1 last :=
  ⟨(item_val hx).trans hy, ho, hd, by rw [← KTD.isSome_datumAt, hd]; rfl, .inr (.inr ⟨hl, rfl, (slice_val hx 3).trans hy⟩)⟩
theorem all_mem {α : Type} {l : List α} {f : α → Bool} (h : l.all f = true) {a : α} (ha : a ∈ l) : f a = true := List.all_eq_true.mp h a ha
theorem sign_at {P : Params} {x : Str} {done rest : List Tk} {tok : Tk} (hx : x.cps.toList = joinC done ++ (tcps tok ++ joinC rest)) (h : WF (done ++ tok :: rest)) (hf : ∀ t ∈ rest, t.fine) (ht : tok.fine) (hn : ∀ d, tok ≠ .dg d) :
    ∃ y1 y, SignAt P x (joinC done).length y1 y tok.sym (tcps tok).length (rest = []) := by
  obtain ⟨k1, k2, k3, k4, k5, k6, k7, k8⟩ := key_at P
  cases tok with
  | dg d => exact absurd rfl (hn d)
  | lp =>
    obtain ⟨n, r, hr, ho⟩ := after_lp h hf
    rw [hr] at hx
    exact ⟨_, _, sign_one (y := Str.ofString "(") hx (by decide +kernel) (all_mem (all_mem (pre_op P) (a := 40) (by decide)) ho) (by decide +kernel) k1⟩
  | rp =>
    rcases after_rp h hf with rfl | ⟨n, r, hr, ho⟩
    · exact ⟨_, _, sign_end (y := Str.ofString ")") hx rfl (by decide +kernel) (by decide +kernel) k2⟩
    · rw [hr] at hx
      exact ⟨_, _, sign_one (y := Str.ofString ")") hx (by decide +kernel) (all_mem (pre_rp P) ho) (by decide +kernel) k2⟩
  | op j =>
    obtain ⟨n, r, hr, ho⟩ := after_op h hf
    rw [hr] at hx
    match j, ht with
    | 0, _ => exact ⟨_, _, sign_one (y := Str.ofString "<") hx (by decide +kernel) (all_mem (all_mem (pre_op P) (a := 60) (by decide)) ho) (by decide +kernel) k3⟩
    | 1, _ => exact ⟨_, _, sign_two (y1 := Str.ofString "<") (y := Str.ofString "<=") hx (by decide +kernel) (by decide +kernel) (all_mem (pre_le P) ho) (by decide +kernel) k4⟩
    | 2, _ => exact ⟨_, _, sign_one (y := Str.ofString "^") hx (by decide +kernel) (all_mem (all_mem (pre_op P) (a := 94) (by decide)) ho) (by decide +kernel) k5⟩
    | 3, _ => exact ⟨_, _, sign_two (y1 := Str.ofString ">") (y := Str.ofString ">>") hx (by decide +kernel) (by decide +kernel) (all_mem (pre_rs P) ho) (by decide +kernel) k6⟩
    | 4, _ => exact ⟨_, _, sign_one (y := Str.ofString "+") hx (by decide +kernel) (all_mem (all_mem (pre_op P) (a := 43) (by decide)) ho) (by decide +kernel) k7⟩
    | 5, _ => exact ⟨_, _, sign_one (y := Str.ofString "*") hx (by decide +kernel) (all_mem (all_mem (pre_op P) (a := 42) (by decide)) ho) (by decide +kernel) k8⟩
end

/- part CC -/
section
open PySem PySem.W PySem.Calls PyProof.Rows
theorem fresh_CC : True := by
  w_top off
  trivial

theorem cut_ind {x : Str} {t : Tok} {ts : List Tk} {sl L : Addr} {h₀ : Heap} (P : Heap → Nat → Prop)
    (base : ∀ h tk us n m₁ (pl : Nat) u, (joinC ts).length ≤ pl → IntsAre us (ts.map Tk.sym) → Fr h₀ L h m₁ → News h₀ L h [(sl, W.listOf (List.toArray us) n)] → m₁ (Str.ofString "text") = some (.str x t) → m₁ (Str.ofString "place") = some (.int (pl : Int) u) → m₁ (Str.ofString "symbols") = some (.ref sl) → P h tk)
    (step : ∀ tok rest done h tk us n m₁ u, ts = done ++ tok :: rest → IntsAre us (done.map Tk.sym) → Fr h₀ L h m₁ → News h₀ L h [(sl, W.listOf (List.toArray us) n)] → m₁ (Str.ofString "text") = some (.str x t) → m₁ (Str.ofString "place") = some (.int ((joinC done).length : Int) u) → m₁ (Str.ofString "symbols") = some (.ref sl) →
      (∀ h' tk' us' n' m' (pl' : Nat), (pl' = (joinC done).length + (tcps tok).length ∨ (rest = [] ∧ (joinC done).length + (tcps tok).length ≤ pl')) → IntsAre us' (done.map Tk.sym ++ [tok.sym]) → Fr h₀ L h' m' → News h₀ L h' [(sl, W.listOf (List.toArray us') n')] → m' (Str.ofString "text") = some (.str x t) → (∃ u', m' (Str.ofString "place") = some (.int (pl' : Int) u')) → m' (Str.ofString "symbols") = some (.ref sl) → P h' tk') → P h tk) :
    ∀ (rest done : List Tk) h tk us n m₁ (pl : Nat) u, ts = done ++ rest → (pl = (joinC done).length ∨ (rest = [] ∧ (joinC done).length ≤ pl)) → IntsAre us (done.map Tk.sym) → Fr h₀ L h m₁ → News h₀ L h [(sl, W.listOf (List.toArray us) n)] → m₁ (Str.ofString "text") = some (.str x t) → m₁ (Str.ofString "place") = some (.int (pl : Int) u) → m₁ (Str.ofString "symbols") = some (.ref sl) → P h tk
  | [], done, h, tk, us, n, m₁, pl, u, hts, hpl, hus, F, N, h1, h2, h3 => by
    have e : ts = done := by simpa using hts
    subst e
    exact base h tk us n m₁ pl u (by rcases hpl with h | h <;> omega) hus F N h1 h2 h3
  | tok :: rest, done, h, tk, us, n, m₁, pl, u, hts, hpl, hus, F, N, h1, h2, h3 => by
    have hpl' : pl = (joinC done).length := by
      rcases hpl with h | ⟨h, _⟩
      · exact h
      · cases h
    subst hpl'
    refine step tok rest done h tk us n m₁ u hts hus F N h1 h2 h3 fun h' tk' us' n' m' pl' hp hu' F' N' k1 ⟨u', k2⟩ k3 => ?_
    refine cut_ind P base step rest (done ++ [tok]) h' tk' us' n' m' pl' u' (by rw [hts]; simp) ?_ (by rw [List.map_append]; exact hu') F' N' k1 k2 k3
    have e : (joinC (done ++ [tok])).length = (joinC done).length + (tcps tok).length := by rw [joinC_append, List.length_append]; simp [joinC]
    rw [e]
    rcases hp with h | h
    · exact .inl h
    · exact .inr h
section
variable {w : World} {dp un : Nat} {gd : Option (List Code)} {fs : List Env} {base : Heap} {mean : ExcName → Option Value} {mg mb : Str → Option Value} {s : Shared}
theorem dig_occ {d : Nat} (he : d < 10) : (Builtin.Str.occurrences (Str.ofString "0123456789") (digN d) 0 (Str.ofString "0123456789").length 1).isEmpty = false := by
  match d, he with
  | 0, _ | 1, _ | 2, _ | 3, _ | 4, _ | 5, _ | 6, _ | 7, _ | 8, _ | 9, _ => decide +kernel
theorem lines_CC : True := by
  k_with_none
  k_with "exec While Compare" => (k_here; (with_reducible show wpAny _ _ (exec (Stmt.While (Expr.Compare (Expr.Name (Str.ofString "place") _) _ _ _) _ _ _) _) _ _ _); refine Stop.out ?_)
  k_with "WhlRest" => ((with_reducible show WhlRest _ _ _ _ _ (Expr.Compare (Expr.Name (Str.ofString "place") _) _ _ _) _ _ _ _ _); refine Stop.out ?_)
  k_with "exec While BoolOp" => (k_here; k_dflt (refine whl_start 100 ?_))
  k_with "mine dec" => (first | assumption | decide | omega | (simp only [beq_iff_eq, bne_iff_ne, ne_eq, decide_eq_true_eq, Bool.not_eq_true, Decidable.not_not]; first | assumption | omega))
  k_with "ite" => (first | refine ite_no (by first | (k_extra "mine dec") | decide +kernel) ?_ | refine ite_yes (by first | (k_extra "mine dec") | decide +kernel) ?_)
  k_with "compareOp NotIn str ref" => (k_here; first | (rw [hs3]; refine tab_notin (by assumption) (Fr.keep (by assumption)) hk3 ?_) | (rw [hs2]; refine tab_notin (by assumption) (Fr.keep (by assumption)) hk2 ?_) | (rw [hs1]; refine tab_notin (by assumption) (Fr.keep (by assumption)) hk1 ?_))
  k_with "subscriptTail Name Subscript ref str" => (k_here; (first | rw [hs3] | rw [hs2] | rw [hs1]); refine tab_item (by assumption) (Fr.keep (by assumption)) (by assumption) ?_; intro _)
  k_with "mine len" => ((try simp only [List.length_dropLast, List.length_append, List.length_cons, List.length_nil]); omega)
  k_with "call builtin:list.append" => (k_here; (with_reducible show wpAny _ _ (call (Value.builtin _) [Value.ref _, _]) _ _ _); k_dflt (refine' append_big (by k_asm) (by k_asm) (by k_upd) (by k_extra "mine len") ?_); walk_at "mine push3")
  k_with "call builtin:str.index" => (k_here; (with_reducible show wpAny _ _ (call (Value.builtin _) [Value.str _ _, Value.str (digN _) _]) _ _ _); refine index_dig (by assumption) ?_)
  k_with "WhlIf" => (first | refine WhlIf.yes (by first | exact decide_eq_true (by omega) | with_unfolding_all rfl) ?_ | refine WhlIf.no (by first | exact decide_eq_false (by omega) | with_unfolding_all rfl) ?_)
  k_with "subscriptTail Name Name str int" => (k_here; (with_reducible show wpAny _ _ (subscriptTail _ _ (Value.str _ _) (Value.int _ _)) _ _ _); (refine KXi.item rfl (by omega) (by omega) (by omega) ?_); intro _; walk_at "mine item")
  trivial

set_option maxHeartbeats 4000000 in
theorem c_cut {x : Str} {t : Tok} {ts : List Tk} (hxc : x.cps.toList = joinC ts) (hf : ∀ t ∈ ts, t.fine) (hwf : WF ts) (hts50 : ts.length ≤ 50) (hx : x.length ≤ 200) (H : Here w dp un gd fs base mean mg mb s.heap) (hroom : dp + 1 < recursionLimit) (hun : un + 1000 < cLine) :
    Does w dp un gd fs s 87 [.str x t] (NewList s.heap (fun vs => IntsAre vs (ts.map Tk.sym))) := by
  have hroom' : dp < recursionLimit := by omega
  intro Q E hq
  have hKK := H.kx
  revert hKK; k_fill; intro hKK
  clear hKK
  refine wpAny_call ?_
  refine enter (binds := [(Str.ofString "text", .str x t)]) H (by rfl) (by rfl) hroom' (BindsTo.of_eq rfl) (locs rfl) ?_ rfl rfl rfl (by decide)
  intro g' L' h' hg' F' N' B' X' T'
  subst hg'
  have hTT := tab_here X'
  dsimp only
  refine gen_postQ fun Pf hPf => ?_
  k_steps
  refine Stop.mk ?_
  refine whl_start 100 ?_
  rename Fr _ _ _ _ => F₁
  rename News _ _ _ _ => N₁
  have hxl : x.length = (joinC ts).length := by rw [← hxc]; simp [Str.length]
  refine cut_ind (ts := ts) (x := x) (t := t) (fun h tk => WhlRest _ _ _ _ _ _ _ _ _ _ ⟨h, s.gens, s.drawn, tk, s.os⟩) ?_ ?_ ts [] _ _ [] 0 _ 0 _ rfl (.inl rfl) .nil F₁ N₁ rfl rfl rfl
  · clear F₁ N₁
    intro h tk us n m₁ pl u hpl hus F N h1 h2 h3
    rw [known3 h1 h2 h3] at F
    refine whl_turn (by first | passes_own | with_unfolding_all passes_own) ?_
    k_steps
    all_goals (refine hPf _ _ ?_; dsimp only)
    all_goals exact hq _ _ _ (Fr.keep (by assumption)) (newList_end (by assumption) (by assumption) (.head _) hus)
  · clear F₁ N₁
    intro tok rest done h tk us n m₁ u hts hus F N h1 h2 h3 next
    rw [known3 h1 h2 h3] at F
    have hxd : x.cps.toList = joinC done ++ (tcps tok ++ joinC rest) := by rw [hxc, hts, joinC_append, joinC_cons]
    have hlt : (joinC done).length + (tcps tok).length + (joinC rest).length = x.length := by rw [hxl, hts, joinC_append, joinC_cons]; simp; omega
    have hfine : tok.fine := hf tok (by rw [hts]; simp)
    have hul : us.length ≤ 1000 := by
      have e1 := hus.length
      have e2 := congrArg List.length hts
      simp only [List.length_map, List.length_append, List.length_cons] at e1 e2
      omega
    by_cases hn : ∃ d, tok = .dg d
    · obtain ⟨d, rfl⟩ := hn
      have he : d < 10 := hfine
      obtain ⟨c0, hc0, _⟩ := dg_head he
      have hi := item_val (A := joinC done) (B := joinC rest) (c := c0) (by rw [hxd, hc0]; rfl)
      have hy : (⟨#[c0]⟩ : Str) = digN d := by
        have : (digN d).cps.toList = [c0] := hc0
        cases hdd : digN d with
        | mk cps => rw [hdd] at this; rw [← Array.toArray_toList (xs := cps)]; exact congrArg (fun l : List Nat => (⟨l.toArray⟩ : Str)) this.symm
      rw [hy] at hi
      have hno := dig_occ he
      have hl : (tcps (.dg d)).length = 1 := by rw [hc0]; rfl
      refine whl_turn (by first | passes_own | with_unfolding_all passes_own) ?_
      k_steps
      refine Stop.mk ?_
      refine next _ _ _ _ _ ((joinC done).length + 1) (by omega) (intsAre_snoc hus _ _) (by assumption) (by assumption) rfl ⟨_, Eq.trans (b := some (Value.int (((joinC done).length : Int) + 1) _)) (by with_unfolding_all rfl) (still_eq (by omega))⟩ rfl
    · obtain ⟨y1, y, hi, hno, hd, hin, hc⟩ := sign_at (P := w.params) (x := x) hxd (by rw [← hts]; exact hwf) (fun t ht => hf t (by rw [hts]; simp [ht])) hfine (fun d e => hn ⟨d, e⟩)
      rcases hc with ⟨hl, y3, y2, hs3, hk3, hs2, hk2, hs1⟩ | ⟨hl, y3, hs3, hk3, hs2⟩ | ⟨hlast, hl, hs3⟩
      · have hk1 := hin
        replace hs2 : Txt.slice x (some ((joinC done).length : Int)) (some (((joinC done).length : Int) + (3 - 1))) = y2 := hs2
        replace hs1 : Txt.slice x (some ((joinC done).length : Int)) (some (((joinC done).length : Int) + (3 - 1 - 1))) = y := hs1
        refine whl_turn (by first | passes_own | with_unfolding_all passes_own) ?_
        k_steps
        refine Stop.mk ?_
        refine next _ _ _ _ _ ((joinC done).length + 1) (by omega) (intsAre_snoc hus _ _) (by assumption) (by assumption) rfl ⟨_, Eq.trans (b := some (Value.int (((joinC done).length : Int) + (1)) _)) (by with_unfolding_all rfl) (still_eq (by omega))⟩ rfl
      · have hk2 := hin
        replace hs2 : Txt.slice x (some ((joinC done).length : Int)) (some (((joinC done).length : Int) + (3 - 1))) = y := hs2
        refine whl_turn (by first | passes_own | with_unfolding_all passes_own) ?_
        k_steps
        refine Stop.mk ?_
        refine next _ _ _ _ _ ((joinC done).length + 2) (by omega) (intsAre_snoc hus _ _) (by assumption) (by assumption) rfl ⟨_, Eq.trans (b := some (Value.int (((joinC done).length : Int) + (3 - 1)) _)) (by with_unfolding_all rfl) (still_eq (by omega))⟩ rfl
      · have hk3 := hin
        refine whl_turn (by first | passes_own | with_unfolding_all passes_own) ?_
        k_steps
        refine Stop.mk ?_
        refine next _ _ _ _ _ ((joinC done).length + 3) (.inr ⟨hlast, by omega⟩) (intsAre_snoc hus _ _) (by assumption) (by assumption) rfl ⟨_, Eq.trans (b := some (Value.int (((joinC done).length : Int) + 3) _)) (by with_unfolding_all rfl) (still_eq (by omega))⟩ rfl
end
end

/- part LW -/
section
open PySem PySem.W PySem.Calls PyProof.Rows
theorem worth_ok (w : World) : ∀ n, WorthOK w n
  | 0 => by
    intro dp un gd fs base mean mg mb s ts l vs _ _ hlen hwf
    obtain rfl := List.length_eq_zero_iff.mp (Nat.le_zero.mp hlen)
    simp [WF, runA] at hwf
  | n + 1 => c_worth_loop n (worth_ok w n)
theorem good_ints : ∀ {ys : List Value}, (∀ v ∈ ys, ∃ n t, v = .int n t) → ∃ ns, IntsAre ys ns
  | [], _ => ⟨[], .nil⟩
  | v :: r, h => by
    obtain ⟨n, t, rfl⟩ := h v (.head _)
    obtain ⟨ns, hns⟩ := good_ints fun u hu => h u (.tail _ hu)
    exact ⟨n :: ns, .cons n t hns⟩
section
variable {prog : Program} {w : World} {A : Around} {E : Value → Shared → Prop} {s : Shared} {h₀ : Heap} {L : Addr} {m : Str → Option Value} {news : List (Addr × Obj)}
theorem sum_any {l : Addr} {its : Array Value} {ns : List Int} {Q : Value → Shared → Prop} (hh : A.handled = none) (F : Fr h₀ L s.heap m) (N : News h₀ L s.heap news) (hl : s.heap.IsList l its) (hi : IntsAre its.toList ns)
    (h : ∀ h' tk t', Fr h₀ L h' m → News h₀ L h' news → Q (.int ns.sum t') { s with heap := h', toks := tk }) :
    wpAny (model prog w) A (call (.builtin "sum") [.ref l]) Q E s :=
  sumK hh F N (vs := its.toList) (by rw [Array.toArray_toList]; exact hl) hi h
theorem eq_same {a b : Addr} {xs ys : List Value} {l l' : List Int} {Q : Value → Shared → Prop} (ha : s.heap.IsList a xs.toArray) (hb : s.heap.IsList b ys.toArray) (hi : IntsAre xs l) (hj : IntsAre ys l') (e : l = l') (hu : A.units + 64 < cLine) (h : Q (.bool true) s) :
    wpAny (model prog w) A (compareOp .Eq (.ref a) (.ref b)) Q E s :=
  ke_eq_ints ha hb hi hj hu (by rw [decide_eq_true e]; exact h)
end
end

/- part LC -/
section
open PySem PySem.W PySem.Calls PyProof.Rows
theorem str_len {t : Tk} (h : t.fine) : t.str.length ≤ 2 := by
  cases t with
  | lp => decide +kernel
  | rp => decide +kernel
  | dg d =>
    match d, h with
    | 0, _ | 1, _ | 2, _ | 3, _ | 4, _ | 5, _ | 6, _ | 7, _ | 8, _ | 9, _ => decide +kernel
  | op j =>
    match j, h with
    | 0, _ | 1, _ | 2, _ | 3, _ | 4, _ | 5, _ => decide +kernel
theorem strs_sum : ∀ {ts : List Tk}, (∀ t ∈ ts, t.fine) → ((ts.map Tk.str).map (·.length)).sum ≤ 2 * ts.length
  | [], _ => by simp
  | t :: r, h => by
    have h1 := str_len (h t (.head _))
    have h2 := strs_sum (ts := r) fun u hu => h u (.tail _ hu)
    simp only [List.map_cons, List.sum_cons, List.length_cons]
    omega
theorem join_cps : ∀ ts : List Tk, (Str.join (Str.ofString "") (ts.map Tk.str)).cps.toList = joinC ts
  | [] => rfl
  | [t] => by
    show t.str.cps.toList = joinC [t]
    rw [joinC_cons]
    simp [joinC, tcps]
  | t :: u :: r => by
    show (t.str ++ Str.ofString "" ++ Str.join (Str.ofString "") ((u :: r).map Tk.str)).cps.toList = _
    rw [cps_toList_append, cps_toList_append, join_cps (u :: r), joinC_cons]
    have : (Str.ofString "").cps.toList = [] := by decide +kernel
    rw [this, List.append_nil]
    rfl
theorem joinC_len {ts : List Tk} (h : ∀ t ∈ ts, t.fine) : (joinC ts).length ≤ 2 * ts.length := by
  induction ts with
  | nil => simp [joinC]
  | cons t r ih =>
    have h1 : (tcps t).length ≤ 2 := by have := str_len (h t (.head _)); simpa [tcps, Str.length] using this
    have h2 := ih fun u hu => h u (.tail _ hu)
    rw [joinC_cons, List.length_append, List.length_cons]
    omega
section
variable {prog : Program} {w : World} {A : Around} {E : Value → Shared → Prop} {s : Shared}
theorem join_at {D : Addr} {vs : List Value} {ts : List Tk} {t : Tok} {Q : Value → Shared → Prop} (hl : s.heap.IsList D vs.toArray) (hi : StrsAre vs (ts.map Tk.str)) (hf : ∀ t ∈ ts, t.fine) (h50 : ts.length ≤ 50)
    (h : ∀ x t' k, x.cps.toList = joinC ts → x.length ≤ 200 → Q (.str x t') { s with toks := k }) : wpAny (model prog w) A (call (.builtin "str.join") [.str (Str.ofString "") t, .ref D]) Q E s := by
  have e0 : (Str.ofString "").length = 0 := by decide +kernel
  have h1 := strs_sum hf
  refine join_list hl hi (by rw [e0]; omega) fun t' k => ?_
  have e : Txt.join (Str.ofString "") (ts.map Tk.str) = Str.join (Str.ofString "") (ts.map Tk.str) := StrLaws.glued_eq_join _ _
  have hc : (Txt.join (Str.ofString "") (ts.map Tk.str)).cps.toList = joinC ts := by rw [e]; exact join_cps ts
  refine h _ t' k hc ?_
  have h2 := joinC_len hf
  have h3 := congrArg List.length hc
  simp only [Array.length_toList] at h3
  show (Txt.join (Str.ofString "") (ts.map Tk.str)).cps.size ≤ 200
  omega
theorem len_syms {a : Addr} {vs : List Value} {ts : List Tk} {Q : Value → Shared → Prop} (hl : s.heap.IsList a vs.toArray) (hi : IntsAre vs (ts.map Tk.sym)) (h50 : ts.length ≤ 50) (h : Q (.int (ts.length : Int) (s.toks + 1)) { s with toks := s.toks + 1 + 1 }) :
    wpAny (model prog w) A (call (.builtin "len") [.ref a]) Q E s := by
  have e : vs.toArray.size = ts.length := by rw [List.size_toArray, hi.length, List.length_map]
  refine len_list hl (by rw [e]; omega) ?_
  rw [e]; exact h
theorem len_strs {a : Addr} {vs : List Value} {ts : List Tk} {Q : Value → Shared → Prop} (hl : s.heap.IsList a vs.toArray) (hi : StrsAre vs (ts.map Tk.str)) (h50 : ts.length ≤ 50) (h : Q (.int (ts.length : Int) (s.toks + 1)) { s with toks := s.toks + 1 + 1 }) :
    wpAny (model prog w) A (call (.builtin "len") [.ref a]) Q E s := by
  have e : vs.toArray.size = ts.length := by rw [List.size_toArray, hi.len_eq, List.length_map]
  refine len_list hl (by rw [e]; omega) ?_
  rw [e]; exact h
end
end

/- part CL -/
section
open PySem PySem.W PySem.Calls PyProof.Rows
theorem fresh_CL : True := by
  w_top off
  trivial

theorem lines_CL : True := by
  k_with_none
  k_with "exec Assign cons ListComp" => ((with_reducible show wpAny _ _ (exec (Stmt.Assign [Expr.Name (Str.ofString "numbers") _] _ _) _) _ _ _); k_dflt (refine comp_enum (Good := fun v => ∃ n t, v = .int n t) (F₀ := by k_asm) (by rfl) (by with_unfolding_all rfl) (by with_unfolding_all rfl) (by decide) (by rfl) (by decide) (by rfl) (by rfl) (by decide) (by rfl) (by rfl) ?_))
  k_with "call type:enumerate" => (k_here; refine Stop.out ?_)
  k_with "call builtin:sum" => (k_here; (with_reducible show wpAny _ _ (call (Value.builtin "sum") [Value.ref _]) _ _ _); (with_unfolding_all refine' sum_any (by rfl) (by k_asm) (by k_asm) (by exact News.isList (by k_asm) (.head _)) (by exact IntsAre.pick (by assumption) _ _ _) ?_); intro _ _ _ _ _)
  k_with "mine here" => (exact Here.next (by assumption) (by assumption) (by assumption) (by assumption) rfl rfl)
  k_with "mine room" => (first | decide | omega)
  k_with "call ref" => (k_here; (with_reducible show wpAny _ _ (call (Value.ref 73) _) _ _ _); k_dflt (refine use_list (by assumption) (by assumption) (c_pieces (by is_list) (by assumption) (by omega) (by k_extra "mine here") (by k_extra "mine room") (by k_extra "mine room")) ?_); walk_at "mine lst")
  k_with "call ref" => (k_here; (with_reducible show wpAny _ _ (call (Value.ref 87) _) _ _ _); k_dflt (refine use_list (by assumption) (by assumption) (c_cut (by assumption) (by assumption) (by assumption) (by assumption) (by assumption) (by k_extra "mine here") (by k_extra "mine room") (by k_extra "mine room")) ?_); walk_at "mine lst")
  k_with "call ref" => (k_here; (with_reducible show wpAny _ _ (call (Value.ref 94) _) _ _ _); k_dflt (refine use_list (by assumption) (by assumption) (c_bracketed (by is_list) (by assumption) (by assumption) (by omega) (by k_extra "mine here") (by k_extra "mine room") (by k_extra "mine room")) ?_); walk_at "mine lst")
  k_with "call ref" => (k_here; (with_reducible show wpAny _ _ (call (Value.ref 101) _) _ _ _); k_dflt (refine use_list (by assumption) (by assumption) (c_run (by is_list) (by assumption) (by assumption) (by assumption) (by k_extra "mine here") (by k_extra "mine room") (by k_extra "mine room")) ?_); walk_at "mine lst")
  k_with "call ref" => (k_here; (with_reducible show wpAny _ _ (call (Value.ref 80) _) _ _ _); k_dflt (refine use (by assumption) (by assumption) (worth_ok _ 28 _ _ _ _ _ _ _ _ _ _ _ _ (by is_list) (by assumption) (by omega) (by assumption) (by assumption) (by omega) (by omega) (by k_extra "mine here") (by k_extra "mine room") (by k_extra "mine room")) ?_); intro _ _ _ _ _ k' p'; obtain ⟨_, p'⟩ := p'; subst p'; clear k'; k_sweep)
  k_with "compareOp Eq ref ref" => (k_here; (with_reducible show wpAny _ _ (compareOp CmpOp.Eq (Value.ref _) (Value.ref _)) _ _ _); k_dflt (refine eq_same (by is_list) (by is_list) (by assumption) (by l_ints) (by rfl) (by k_extra "mine room") ?_))
  k_with "call builtin:str.join" => (k_here; (with_reducible show wpAny _ _ (call (Value.builtin _) [Value.str _ _, Value.ref _]) _ _ _); k_dflt (refine join_at (by is_list) (by assumption) (by assumption) (by omega) ?_); intro _ _ _ _ _)
  k_with "call builtin:len" => (k_here; (with_reducible show wpAny _ _ (call (Value.builtin "len") [Value.ref _]) _ _ _); k_dflt (first | refine len_syms (by is_list) (by with_reducible assumption) (by assumption) ?_ | refine len_strs (by is_list) (by with_reducible assumption) (by assumption) ?_))
  k_with "mine dec" => (first | assumption | decide | omega | (simp only [beq_iff_eq, bne_iff_ne, ne_eq, decide_eq_true_eq, Bool.not_eq_true, Decidable.not_not]; done) | (simp only [beq_iff_eq, bne_iff_ne, ne_eq, decide_eq_true_eq, Bool.not_eq_true, Decidable.not_not]; first | assumption | omega))
  k_with "ite" => (k_here; first | refine ite_no (by k_extra "mine dec") ?_ | refine ite_yes (by k_extra "mine dec") ?_)
  trivial

set_option maxHeartbeats 8000000 in
theorem law_holds : PySem.Challenge.rw_pe0297_01.Holds := hd (by
  w_strict (
   k_go0
   (all_goals try k_fold)
   k_steps
   refine Stop.mk ?_
   refine enum_src (by rfl) (by k_asm) (by k_asm) (.head _) (Nat.le_of_ble_eq_true rfl) ?_ ?_
   · intro i t v C oC m₂ h tk own E' hv hoC hk hn F₁ N₁
     obtain ⟨nn, tn, rfl⟩ : ∃ nn tn, v = .int nn tn := by
       match i, hv with
       | 0, hv | 1, hv | 2, hv | 3, hv | 4, hv | 5, hv | 6, hv => exact ⟨_, _, (Option.some.inj hv).symm⟩
     simp only [List.cons_append, List.nil_append] at N₁
     k_steps
     refine ⟨_, _, _, rfl, by assumption, by assumption, by intro p hp; k_ownIn, _, _, rfl⟩
   · intro h' D ys hl hg h'' tk F₁ N₁ hoff
     obtain ⟨ns, hns⟩ := good_ints hg
     have hnl : ns.length = 7 := by rw [← hns.length, hl]; rfl
     obtain ⟨hwf, hfine, hcnt, hlen⟩ := pieces_facts (ns := ns) (by omega)
     have hrun := backus_all hwf hfine (n := 28) (by omega) (by omega)
     have h50 : (piecesT ns).length ≤ 50 := by omega
     have hbl : (List.replicate 5 7 ++ brkAll (piecesT ns) ++ List.replicate 5 8).length ≤ 10000 := by have := brkAll_len (piecesT ns); simp; omega
     k_steps
     skip))
end

end Mine

set_option maxRecDepth 100000 in
theorem PySem.Challenge.cw_pe0297_01_holds : PySem.Challenge.rw_pe0297_01.Holds :=
  Mine.law_holds
